import PyProof.Rows.All
import Wide.All
import OpenK.AllK
import Wide.FinOn
import PySem.Challenge.RW_kl0503_01
set_option Elab.async false
set_option maxRecDepth 100000
set_option rowWalk.seconds 0
section
-- part KHead
open PySem PySem.W PyProof.Rows
namespace Mine
/-! the run of the top over a tree of objects, in one go -/
noncomputable def layT : List Obj → BT → Nat → Option BT
  | [], t, _ => some t
  | o :: r, t, n => match ((t.ins n o).get n).isSome with
    | true => layT r (t.ins n o) (n + 1)
    | false => none
theorem layT_abs {life : Life} : ∀ {l : List Obj} {t t' : BT} {n : Nat}, layT l t n = some t' → absHeap t' (n + l.length) life = ⟨(absHeap t n life).objs ++ l.toArray, life⟩
  | [], t, t', n, h => by
    cases h
    simp [absHeap]
  | o :: r, t, t', n, h => by
    unfold layT at h
    cases g : ((t.ins n o).get n).isSome with
    | false => rw [g] at h; cases h
    | true =>
      rw [g] at h
      have ih := layT_abs (life := life) h
      rw [show n + (o :: r).length = n + 1 + r.length by rw [List.length_cons]; omega, ih, absHeap_ins g]
      show (⟨((absHeap t n life).objs.push o) ++ r.toArray, life⟩ : Heap) = _
      congr 1
      simp
noncomputable def toT (s : Shared) : Option SharedT := (layT s.heap.objs.toList .nil 0).map fun t => ⟨t, s.heap.objs.toList.length, s.heap.life, s.gens, s.drawn, s.toks, s.os⟩
theorem toT_abs {s : Shared} {t : SharedT} (h : toT s = some t) : t.abs = s := by
  unfold toT at h
  obtain ⟨T, h1, rfl⟩ := Option.map_eq_some_iff.mp h
  have e := layT_abs (life := s.heap.life) h1
  rw [Nat.zero_add] at e
  show (⟨absHeap T _ _, _, _, _, _⟩ : Shared) = s
  rw [e]
  obtain ⟨⟨objs, life⟩, gens, drawn, toks, os⟩ := s
  congr 2
  simp [absHeap, BT.list]
section
variable {tb : String → Option Builtin} {p : Program} {w : World} {n₀ : Nat} {ann : Option Value}
noncomputable def topRunT (F : SharedT → Thread → Option (SharedT × Thread)) (ok : Thread → Bool) : Nat → SharedT → Thread → Option SharedT
  | 0, _, _ => none
  | n + 1, s, t => match through t with
    | true => some s
    | false => match ok t with
      | false => none
      | true => match F s t with
        | some (s', t') => topRunT F ok n s' t'
        | none => none
theorem topRun_of : ∀ {n : Nat} {s s' : SharedT} {t : Thread}, topRunT (stepT (denote tb) p w) (stepOk n₀ ann) n s t = some s' → topRun tb p w n₀ ann n s.abs t = some s'.abs
  | 0, _, _, _, h => by cases h
  | n + 1, s, s', t, h => by
    unfold topRunT at h
    unfold topRun
    cases he : through t with
    | true => rw [he] at h; cases h; rfl
    | false =>
      rw [he] at h
      cases hk : stepOk n₀ ann t with
      | false => rw [hk] at h; cases h
      | true =>
        rw [hk] at h
        cases hs : stepT (denote tb) p w s t with
        | none => rw [hs] at h; cases h
        | some r => obtain ⟨s₂, t₂⟩ := r; rw [hs] at h; rw [stepT_spec hs]; exact topRun_of h
noncomputable def impEndsT (F : SharedT → Thread → Option (SharedT × Thread)) : Nat → SharedT → Thread → Option SharedT
  | 0, _, _ => none
  | n + 1, s, t => match t.atExitBegin with
    | some [] => some s
    | some (_ :: _) => none
    | none => match F s t with
      | some (s', t') => impEndsT F n s' t'
      | none => none
theorem impEnds_of : ∀ {n : Nat} {s s' : SharedT} {t : Thread}, impEndsT (stepT (denote tb) p w) n s t = some s' → importEnds tb p w n s.abs t = some s'.abs
  | 0, _, _, _, h => by cases h
  | n + 1, s, s', t, h => by
    unfold impEndsT at h
    unfold importEnds
    cases he : t.atExitBegin with
    | some l =>
      rw [he] at h
      cases l with
      | nil => cases h; rfl
      | cons _ _ => cases h
    | none =>
      rw [he] at h
      cases hs : stepT (denote tb) p w s t with
      | none => rw [hs] at h; cases h
      | some r => obtain ⟨s₂, t₂⟩ := r; rw [hs] at h; rw [stepT_spec hs]; exact impEnds_of h
noncomputable def endsT (G : Program → SharedT → Thread → Option (SharedT × Thread)) (ok : Nat → Option Value → Thread → Bool) (st : Program → Shared × Thread) (fm : Program → Shared → Option Shared) (p : Program) (N : Nat) : Option SharedT :=
  (toT (st (opening p)).1).bind fun a => (impEndsT (G (opening p)) N a (st (opening p)).2).bind fun b => (fm p b.abs).bind fun s₀ => (toT s₀).bind fun c =>
    match s₀.heap.isNs mainGlobals && s₀.gens.size == 0 with
    | true => (topRunT (G p) (ok s₀.heap.objs.size (s₀.heap.nsMap mainGlobals "__annotations__")) N c (topStub p)).bind fun d => match staticsOk (importedModules p.main.body) s₀.heap d.abs.heap && namesBound p d.abs.heap && gensDone d.abs && laidKept s₀.heap d.abs.heap with
      | true => some d
      | false => none
    | false => none
theorem endsT_of {N : Nat} {d : SharedT} (h : endsT (fun p => stepT (denote tb) p w) stepOk start fenceModules? p N = some d) : openEnds tb p w N = some d.abs := by
  unfold endsT at h
  obtain ⟨a, ha, h⟩ := Option.bind_eq_some_iff.mp h
  obtain ⟨b, hb, h⟩ := Option.bind_eq_some_iff.mp h
  obtain ⟨s₀, hs, h⟩ := Option.bind_eq_some_iff.mp h
  obtain ⟨c, hc, h⟩ := Option.bind_eq_some_iff.mp h
  have e1 := impEnds_of hb
  rw [toT_abs ha] at e1
  have e2 := toT_abs hc
  unfold openEnds fencedOpening
  rw [e1]
  show (fenceModules? p b.abs).bind _ = _
  rw [hs]
  show topFrom tb p w N s₀ = _
  unfold topFrom
  cases q : s₀.heap.isNs mainGlobals && s₀.gens.size == 0 with
  | false => rw [q] at h; cases h
  | true =>
    rw [q] at h
    dsimp only at h ⊢
    obtain ⟨d', hd, h⟩ := Option.bind_eq_some_iff.mp h
    have e3 := topRun_of hd
    rw [e2] at e3
    rw [e3]
    show (match staticsOk (importedModules p.main.body) s₀.heap d'.abs.heap && namesBound p d'.abs.heap && gensDone d'.abs && laidKept s₀.heap d'.abs.heap with | true => some d'.abs | false => none) = _
    cases q2 : staticsOk (importedModules p.main.body) s₀.heap d'.abs.heap && namesBound p d'.abs.heap && gensDone d'.abs && laidKept s₀.heap d'.abs.heap with
    | false => rw [q2] at h; cases h
    | true => rw [q2] at h; cases h; rfl
theorem ends_map {β : Type} {N : Nat} {f : Shared → β} {b : β} (h : (endsT (fun p => stepT (denote tb) p w) stepOk start fenceModules? p N).map (fun d => f d.abs) = some b) : (openEnds tb p w N).map f = some b := by
  obtain ⟨d, hd, rfl⟩ := Option.map_eq_some_iff.mp h
  rw [endsT_of hd]
  rfl
end
def keepS : List Nat := [0, 2, 3, 4, 6, 8, 9, 10, 11, 13, 14, 15, 16, 17, 19, 21, 22, 23, 24, 25, 26, 27, 28, 29, 30]
def qv : Program := view PySem.Challenge.pw_kl0503_01 keepS
abbrev looseS : List Str := [Str.ofString "tspecials", Str.ofString "_name_disallowed_re", Str.ofString "_value_disallowed_re", Str.ofString "_formatparam", Str.ofString "UNKNOWN"]
theorem ends_q {p : Program} {w : World} {N : Nat} {β : Type} {f : Shared → β} {b : β} (h : (endsT (fun p => PySem.W.Fast.tw10156331382660048174 (PySem.W.Fast.tw11892475500146522536 PySem.W.Fast.tw14364793385576792824) p w) PySem.W.Fast.tw6613529449190102663 PySem.W.Fast.tw1435165496053646825 PySem.W.Fast.tw14289696077712309145 p N).map (fun d => f d.abs) = some b) : (openEnds treeTable p w N).map f = some b := by
  rw [← PySem.W.Fast.te10156331382660048174, ← PySem.W.Fast.te11892475500146522536, ← PySem.W.Fast.te14364793385576792824, ← PySem.W.Fast.te6613529449190102663, ← PySem.W.Fast.te1435165496053646825, ← PySem.W.Fast.te14289696077712309145] at h
  exact ends_map h
theorem and_t {a b : Bool} (h : a = true) (k : b = true) : (a && b) = true := by rw [h, k]; rfl
set_option maxHeartbeats 8000000 in
theorem said : OpenLaw.wellSaid PySem.Challenge.rw_kl0503_01 = true := by
  rw [PySem.W.Fast.te9446332074065402090]
  delta PySem.W.Fast.tw9446332074065402090 PySem.W.Fast.tw17960256430627541270 PySem.W.Fast.tw2436336058641802641 PySem.W.Fast.tw12908688711261696721 PySem.W.Fast.tw2368527892694137696
  dsimp only
  repeat' (with_reducible refine and_t ?_ ?_)
  all_goals decide +kernel
/-- what is seen of the run's end, shown in two parts -/
theorem ends_halves {p q : Program} {loose : List Str} {Xt : Shared → Bool} {α : Type} {Yf : Shared → α} {Ya : World → α} {N : Nat} {g0 : Bool} {w : World}
    (h1 : (endsT (fun p => PySem.W.Fast.tw10156331382660048174 (PySem.W.Fast.tw11892475500146522536 PySem.W.Fast.tw14364793385576792824) p w) PySem.W.Fast.tw6613529449190102663 PySem.W.Fast.tw1435165496053646825 PySem.W.Fast.tw14289696077712309145 p N).map (fun d => ((PySem.W.Fast.tw4187177175401517315 q loose (importedModules p.main.body) Xt g0 d.abs).1, (PySem.W.Fast.tw4187177175401517315 q loose (importedModules p.main.body) Xt g0 d.abs).2.1, (PySem.W.Fast.tw4187177175401517315 q loose (importedModules p.main.body) Xt g0 d.abs).2.2.1, (PySem.W.Fast.tw4187177175401517315 q loose (importedModules p.main.body) Xt g0 d.abs).2.2.2.1)) = some (expectedOf q, bltViewBooted, true, true))
    (h2 : (endsT (fun p => PySem.W.Fast.tw10156331382660048174 (PySem.W.Fast.tw11892475500146522536 PySem.W.Fast.tw14364793385576792824) p w) PySem.W.Fast.tw6613529449190102663 PySem.W.Fast.tw1435165496053646825 PySem.W.Fast.tw14289696077712309145 p N).map (fun d => ((PySem.W.Fast.tw4187177175401517315 q loose (importedModules p.main.body) Xt g0 d.abs).2.2.2.2, Yf d.abs)) = some ((pinGoodD (drecsOf q), plainGoodE q (looseW q loose), plainGoodD q loose, wideGood q, clsGoodW q loose), Ya w)) :
    (openEnds treeTable p w N).map (fun s => (openSeen q loose (importedModules p.main.body) Xt g0 s, Yf s)) = some (openGood q loose, Ya w) := by
  refine ends_q ?_
  rw [← PySem.W.Fast.te4187177175401517315] at h1 h2
  revert h1 h2
  generalize (endsT (fun p => PySem.W.Fast.tw10156331382660048174 (PySem.W.Fast.tw11892475500146522536 PySem.W.Fast.tw14364793385576792824) p w) PySem.W.Fast.tw6613529449190102663 PySem.W.Fast.tw1435165496053646825 PySem.W.Fast.tw14289696077712309145 p N) = e
  intro h1 h2
  cases e with
  | none => cases h1
  | some d =>
    have k1 := Option.some.inj h1
    have k2 := Option.some.inj h2
    show some (openSeen q loose (importedModules p.main.body) Xt g0 d.abs, Yf d.abs) = some ((expectedOf q, bltViewBooted, true, true, pinGoodD (drecsOf q), plainGoodE q (looseW q loose), plainGoodD q loose, wideGood q, clsGoodW q loose), Ya w)
    dsimp only at k1 k2
    injection k1 with a1 k1
    injection k1 with a2 k1
    injection k1 with a3 a4
    injection k2 with a5 a6
    exact congrArg some (Prod.ext (Prod.ext a1 (Prod.ext a2 (Prod.ext a3 (Prod.ext a4 a5)))) a6)
theorem seen1 (w : World) : (endsT (fun p => PySem.W.Fast.tw10156331382660048174 (PySem.W.Fast.tw11892475500146522536 PySem.W.Fast.tw14364793385576792824) p w) PySem.W.Fast.tw6613529449190102663 PySem.W.Fast.tw1435165496053646825 PySem.W.Fast.tw14289696077712309145 (PySem.W.RowW.prog (PySem.W.OpenRow.toRowW (PySem.W.OpenLaw.row PySem.Challenge.rw_kl0503_01))) 4590).map (fun d => ((PySem.W.Fast.tw4187177175401517315 qv looseS (importedModules (PySem.W.RowW.prog (PySem.W.OpenRow.toRowW (PySem.W.OpenLaw.row PySem.Challenge.rw_kl0503_01))).main.body) (fun s => xlAt qv [] s && recOk (RowW.records (OpenRow.toRowW PySem.Challenge.rw_kl0503_01.row)) s) true d.abs).1, (PySem.W.Fast.tw4187177175401517315 qv looseS (importedModules (PySem.W.RowW.prog (PySem.W.OpenRow.toRowW (PySem.W.OpenLaw.row PySem.Challenge.rw_kl0503_01))).main.body) (fun s => xlAt qv [] s && recOk (RowW.records (OpenRow.toRowW PySem.Challenge.rw_kl0503_01.row)) s) true d.abs).2.1, (PySem.W.Fast.tw4187177175401517315 qv looseS (importedModules (PySem.W.RowW.prog (PySem.W.OpenRow.toRowW (PySem.W.OpenLaw.row PySem.Challenge.rw_kl0503_01))).main.body) (fun s => xlAt qv [] s && recOk (RowW.records (OpenRow.toRowW PySem.Challenge.rw_kl0503_01.row)) s) true d.abs).2.2.1, (PySem.W.Fast.tw4187177175401517315 qv looseS (importedModules (PySem.W.RowW.prog (PySem.W.OpenRow.toRowW (PySem.W.OpenLaw.row PySem.Challenge.rw_kl0503_01))).main.body) (fun s => xlAt qv [] s && recOk (RowW.records (OpenRow.toRowW PySem.Challenge.rw_kl0503_01.row)) s) true d.abs).2.2.2.1)) = some (expectedOf qv, bltViewBooted, true, true) := by kernel_rfl
section
local macro_rules | `(tactic| o_law) => `(tactic| refine holds_law Mine.said fun said => ?_)
local macro_rules | `(tactic| o_head $H) => `(tactic| (refine holds_open (q := Mine.qv) (loose := Mine.looseS) (Xt := fun s => xlAt Mine.qv [] s && recOk (RowW.records (OpenRow.toRowW PySem.Challenge.rw_kl0503_01.row)) s) (XP := XL Mine.qv []) (Yf := Hook.obs $H) (Ya := Hook.val $H) (YP := Hook.says $H) (N := 4590) ?hl (Hook.of $H) (Hook.keeps $H) (fun s e => xl_of s (Bool.and_eq_true_iff.mp e).1) XL.keeps (by rfl) (by rfl) (by rfl) (fun s e => recFacts_of (Bool.and_eq_true_iff.mp e).2) (by rfl) (by first | assumption | decide +kernel) (by decide +kernel) ⟨rfl, rfl, rfl, rfl, rfl, by decide +kernel⟩ ?hw ?hc; (case hl => intro w; refine ends_halves (Mine.seen1 w) ?_; kernel_rfl)))
set_option maxHeartbeats 8000000 in
open_top hd for PySem.Challenge.rw_kl0503_01
end
end Mine
end
local macro_rules | `(tactic| k_all) => `(tactic| k_extra "own k_all")
local macro_rules | `(tactic| k_mem) => `(tactic| k_extra "own k_mem")
local macro_rules | `(tactic| k_qdec) => `(tactic| k_extra "own k_qdec")
local macro_rules | `(tactic| k_steps) => `(tactic| k_extra "own k_steps")
local macro_rules | `(tactic| ktr_enter) => `(tactic| k_extra "own ktr_enter")
local macro_rules | `(tactic| walk_at $s:str) => `(tactic| k_extra $s)
section
-- part B1
open PySem PySem.W PySem.Calls PySem.Spec PyProof.Rows
namespace Mine

noncomputable abbrev pv : Program := Mine.qv
noncomputable abbrev lz : List Str := looseW pv [Str.ofString "tspecials", Str.ofString "_name_disallowed_re", Str.ofString "_value_disallowed_re", Str.ofString "_formatparam", Str.ofString "UNKNOWN"]

theorem reg1 : True := by
  w_top off
  k_with_none
  trivial
theorem fill0 : PySem.Challenge.rw_kl0503_01 = PySem.Challenge.rw_kl0503_01 ∧ Mine.hd.heap_1 = Mine.hd.heap_1 := by
  k_fill
  exact ⟨rfl, rfl⟩

abbrev Led := List (Addr × Obj)

/-- a call of a def of the text, from any frame of a function's: what it hands back (Ret), and, where it raises, the ledger then (Exc) -/
abbrev ConX (w : World) (d : Nat) (f : Addr) (vs : List Value) (kw : List (Str × Value)) (news : Led) (Ret : (Value → Led → Prop) → Prop) (Exc : (Led → Prop) → Prop) : Prop :=
  ∀ (mean : ExcName → Option Value) (mg mb : Str → Option Value) (dp un : Nat) (gd : Option (List Code)) (cn : Str) (cs : Scope) (a : Addr) (ccd : Value) (cl : List (Str × Addr)) (outer : List Env) (A₀ : Around) (base h₀ : Heap) (L : Addr) (mm : Str → Option Value) (s : Shared) (Q E : Value → Shared → Prop),
    Below A₀ base outer h₀ → Fr h₀ L s.heap mm → (Mine.hd.heap_1 w.params).In h₀ → News h₀ L s.heap news → Top pv lz mean mg mb h₀ → cs.kind = .function → dp + d < recursionLimit → un + 8 * d < cLine →
    Ret (fun v news' => ∀ h' tk', Fr h₀ L h' mm → News h₀ L h' news' → Q v { s with heap := h', toks := tk' }) →
    Exc (fun news' => ∀ e t us g₂ h' tk', Fr h₀ L g₂ mm → g₂.UpToSlots h' → RaisedS base g₂ (envX cn cs L a ccd cl :: outer) e (.type "ValueError") t us news' h' → E (.ref e) { s with heap := h', toks := tk' }) →
    wpAny (model PySem.Challenge.rw_kl0503_01.row.prog w) (ktrTop dp un gd cn cs L a ccd cl outer) (call (.ref f) vs kw) Q E s
abbrev Con (w : World) (d : Nat) (f : Addr) (vs : List Value) (kw : List (Str × Value)) (news : Led) (Ret : (Value → Led → Prop) → Prop) : Prop := ConX w d f vs kw news Ret (fun _ => True)

theorem use_x {w : World} {d : Nat} {f : Addr} {vs : List Value} {kw : List (Str × Value)} {news : Led} {Ret : (Value → Led → Prop) → Prop} {Exc : (Led → Prop) → Prop} (C : ConX w d f vs kw news Ret Exc)
    {mean : ExcName → Option Value} {mg mb : Str → Option Value} {dp un : Nat} {gd : Option (List Code)} {cn : Str} {cs : Scope} {a : Addr} {ccd : Value} {cl : List (Str × Addr)} {outer : List Env} {A₀ : Around} {base h₀ : Heap} {L : Addr} {mm : Str → Option Value} {s : Shared} {Q E : Value → Shared → Prop}
    (B : Below A₀ base outer h₀) (F : Fr h₀ L s.heap mm) (X : (Mine.hd.heap_1 w.params).In h₀) (N : News h₀ L s.heap news) (T : Top pv lz mean mg mb h₀) (hk : cs.kind = .function) (hd : dp + d < recursionLimit) (hu : un + 8 * d < cLine)
    (ret : Ret (fun v news' => ∀ h' tk', Fr h₀ L h' mm → News h₀ L h' news' → Q v { s with heap := h', toks := tk' }))
    (exc : Exc (fun news' => ∀ e t us g₂ h' tk', Fr h₀ L g₂ mm → g₂.UpToSlots h' → RaisedS base g₂ (envX cn cs L a ccd cl :: outer) e (.type "ValueError") t us news' h' → E (.ref e) { s with heap := h', toks := tk' })) :
    wpAny (model PySem.Challenge.rw_kl0503_01.row.prog w) (ktrTop dp un gd cn cs L a ccd cl outer) (call (.ref f) vs kw) Q E s := C _ _ _ _ _ _ _ _ _ _ _ _ _ _ _ _ _ _ _ _ B F X N T hk hd hu ret exc

def lawOne (n m : Int) : Bool := decide (n = m) || (decide (((n - m).natAbs : Int) = 2048) && (decide (64 ≤ min n m) && decide (min n m < 1728)))
def badName (n : Int) : Bool := decide (n % 64 < 32) || decide (n / 64 = 63)
def badValue (n : Int) : Bool := (decide (n % 64 < 32) && !decide (n % 64 = 9)) || decide (n / 64 = 63)


theorem fm64 (n : Int) : Int.fmod n 64 = n % 64 := Int.fmod_eq_emod_of_nonneg n (by decide)
theorem fd64 (n : Int) : Int.fdiv n 64 = n / 64 := Int.fdiv_eq_ediv_of_nonneg n (by decide)

set_option maxHeartbeats 8000000 in
theorem one_c (w : World) (n m : Int) (t1 t2 : Tok) (news : Led) : Con w 2 329 [.int n t1, .int m t2] [] news (fun k => k (.bool (lawOne n m)) news) := by
  intro mean mg mb dp un gd cn cs a ccd cl outer A₀ base h₀ L mm s Q E B F X N T hk hd hu hret hexc
  refine wpAny_call ?_; ktr_enter
  k_steps
  all_goals (refine cb_retB (fun _ h' tk' F N => hret h' tk' F N) ?_ (by assumption) (by assumption))
  all_goals clear hret hexc qk ek
  all_goals (rw [Bool.eq_iff_iff]; simp only [lawOne, beq_iff_eq, decide_eq_true_eq, Bool.or_eq_true, Bool.and_eq_true] at *; (repeat' split at *) <;> omega)

set_option maxHeartbeats 8000000 in
theorem badName_c (w : World) (n : Int) (t1 : Tok) (news : Led) : Con w 2 336 [.int n t1] [] news (fun k => k (.bool (badName n)) news) := by
  intro mean mg mb dp un gd cn cs a ccd cl outer A₀ base h₀ L mm s Q E B F X N T hk hd hu hret hexc
  refine wpAny_call ?_; ktr_enter
  k_steps
  all_goals (refine cb_retB (fun _ h' tk' F N => hret h' tk' F N) ?_ (by assumption) (by assumption))
  all_goals clear hret hexc qk ek
  all_goals (rw [Bool.eq_iff_iff]; simp only [badName, fm64, fd64, beq_iff_eq, decide_eq_true_eq, Bool.or_eq_true, Bool.and_eq_true] at *; (repeat' split at *) <;> omega)

set_option maxHeartbeats 8000000 in
theorem badValue_c (w : World) (n : Int) (t1 : Tok) (news : Led) : Con w 2 343 [.int n t1] [] news (fun k => k (.bool (badValue n)) news) := by
  intro mean mg mb dp un gd cn cs a ccd cl outer A₀ base h₀ L mm s Q E B F X N T hk hd hu hret hexc
  refine wpAny_call ?_; ktr_enter
  k_steps
  all_goals (refine cb_retB (fun _ h' tk' F N => hret h' tk' F N) ?_ (by assumption) (by assumption))
  all_goals clear hret hexc qk ek
  all_goals (rw [Bool.eq_iff_iff]; simp only [badValue, fm64, fd64, beq_iff_eq, bne_iff_ne, decide_eq_true_eq, Bool.or_eq_true, Bool.and_eq_true, Bool.not_eq_true', decide_eq_false_iff_not] at *; (repeat' split at *) <;> omega)
end Mine
end
section
-- part B2
open PySem PySem.W PySem.Calls PySem.Spec PyProof.Rows
namespace Mine
theorem reg2 : True := by
  w_top off
  k_with_none
  k_with "own k_steps" => (repeat' (first
    | (k_unfold; (try dsimp only))
    | ((fail_if_success (with_reducible show PySem.wpAny _ _ (PySem.exec (PySem.Stmt.While _ _ _ _) _) _ _ _)); (fail_if_success (with_reducible show PySem.wpAny _ _ (PySem.exec (PySem.Stmt.For _ _ _ _ _) _) _ _ _)); (first | walk1 | (dsimp only; walk1)))))
  trivial
def sgn (n : Int) : Str := if n < 64 then ⟨#[n.toNat]⟩ else ⟨#[64 + (n / 64).toNat, (n % 64).toNat]⟩

/-- names that are known to hold something, over a map of which nothing else is asked -/
noncomputable def ovr : List (Str × Value) → (Str → Option Value) → Str → Option Value
  | [], m, y => m y
  | (x, v) :: r, m, y => if y = x then some v else ovr r m y
theorem ovr_self {m : Str → Option Value} : ∀ {ps : List (Str × Value)}, (∀ p ∈ ps, m p.1 = some p.2) → m = ovr ps m
  | [], _ => rfl
  | (x, v) :: r, h => by
    funext y
    have ih := congrFun (ovr_self (ps := r) fun p hp => h p (.tail _ hp)) y
    show m y = if y = x then some v else ovr r m y
    by_cases e : y = x
    · subst e; rw [if_pos rfl]; exact h (y, v) (.head _)
    · rw [if_neg e]; exact ih
theorem fr_ovr {h₀ h : Heap} {L : Addr} {m : Str → Option Value} (ps : List (Str × Value)) (F : Fr h₀ L h m) (hp : ∀ p ∈ ps, m p.1 = some p.2) : Fr h₀ L h (ovr ps m) := ovr_self hp ▸ F

theorem len1 (c : Nat) : (⟨#[c]⟩ : Str).length = 1 := rfl
theorem len2 (c d : Nat) : (⟨#[c, d]⟩ : Str).length = 2 := rfl
section
theorem reg3 : True := by
  w_top off
  k_with_none
  k_with "own k_steps" => (repeat' (first
    | (k_unfold; (try dsimp only))
    | ((fail_if_success (with_reducible show PySem.wpAny _ _ (PySem.exec (PySem.Stmt.While _ _ _ _) _) _ _ _)); (fail_if_success (with_reducible show PySem.wpAny _ _ (PySem.exec (PySem.Stmt.For _ _ _ _ _) _) _ _ _)); (first | walk1 | (dsimp only; walk1)))))
  k_with "binaryOp Add str str" => ((refine PyProof.Rows.add_str (hsz := ?hz) ?_; (case hz => (rw [PySem.sizeLine_eq]; (try simp only [len1]); omega)); intro _ _))
  trivial
set_option maxHeartbeats 8000000 in
theorem sign_c (w : World) (n : Int) (t1 : Tok) (news : Led) (h0 : 0 ≤ n) (h1 : n < 4096) : Con w 2 315 [.int n t1] [] news (fun k => ∀ t, k (.str (sgn n) t) news) := by
  intro mean mg mb dp un gd cn cs a ccd cl outer A₀ base h₀ L mm s Q E B F X N T hk hd hu hret hexc
  refine wpAny_call ?_; ktr_enter
  k_steps
  rename Fr _ _ _ _ => lF
  rename News _ _ _ _ => lN
  refine While_inv2 (fun k m₁ news₁ => news₁ = news ∧ ∃ (i : Int) (S : Str) (t t' : Tok), (∀ p ∈ [(Str.ofString "n", Value.int i t), (Str.ofString "sign", Value.str S t')], m₁ p.1 = some p.2) ∧ k = i.toNat ∧ S.length ≤ 2 ∧ ((i = n / 64 ∧ S = ⟨#[(n % 64).toNat]⟩) ∨ (i = 0 ∧ S = sgn n))) lF lN ⟨rfl, _, _, _, _, List.forall_mem_cons.mpr ⟨rfl, List.forall_mem_cons.mpr ⟨rfl, List.forall_mem_nil _⟩⟩, rfl, by simp only [len1]; omega, .inl ⟨fd64 n, by rw [fm64]⟩⟩ ?_
  clear lF lN
  rintro k m₁ news₁ h₁ tk₁ lF lN ⟨rfl, i, S, t, t', ha, rfl, hl, hs⟩
  replace lF := fr_ovr _ lF ha
  k_steps
  · rename 0 < i => hi
    obtain ⟨rfl, rfl⟩ : i = n / 64 ∧ S = ⟨#[(n % 64).toNat]⟩ := hs.resolve_right fun z => by omega
    refine ⟨_, _, _, _, _, rfl, by assumption, by assumption, ?_, rfl, _, _, _, _, List.forall_mem_cons.mpr ⟨rfl, List.forall_mem_cons.mpr ⟨rfl, List.forall_mem_nil _⟩⟩, rfl, ?_, .inr ⟨?_, ?_⟩⟩
    · rw [fd64]; omega
    · exact Nat.le_refl _
    · rw [fd64]; omega
    · rw [fm64]
      unfold sgn
      rw [if_neg (by omega)]
      have e : (64 + n / 64 % 64).toNat = 64 + (n / 64).toNat := by omega
      rw [e]; rfl
  · rename ¬ 0 < i => hi
    have e : S = sgn n := by
      rcases hs with ⟨e1, e2⟩ | ⟨_, e⟩
      · rw [e2]; unfold sgn; rw [if_pos (by omega)]
        have e3 : n % 64 = n := by omega
        rw [e3]
      · exact e
    subst e
    exact hret _ _ _ (by assumption) (by assumption)
end
end Mine
end
section
-- part R1
open PySem PySem.Sre
namespace Mine
theorem reg4 : True := by
  w_top off
  k_with_none
  trivial
def nmCode : Array Nat := #[14, 10, 4, 1, 1, 22, 0, 31, 16, 127, 0, 13, 7, 22, 0, 31, 16, 127, 0, 1]
def vlCode : Array Nat := #[14, 14, 4, 1, 1, 9, 4294966783, 0, 0, 2147483648, 0, 0, 0, 0, 0, 13, 11, 9, 4294966783, 0, 0, 2147483648, 0, 0, 0, 0, 0, 1]

theorem inSet_fail {code : Array Nat} {c fuel i : Nat} {yes : Bool} {seen : Seen} {k : Nat} (hk : code.getD i 0 = k) (h : ops[k]? = some .FAILURE) :
    inSet code c (fuel + 1) i yes seen = .ok (!yes, seen.add k) := by
  rw [inSet]
  simp only [Nat.add_zero, hk, h]
theorem inSet_lit {code : Array Nat} {c fuel i : Nat} {yes : Bool} {seen : Seen} {k a : Nat} (hk : code.getD i 0 = k) (h : ops[k]? = some .LITERAL) (ha : code.getD (i + 1) 0 = a) :
    inSet code c (fuel + 1) i yes seen = if c == a then .ok (yes, seen.add k) else inSet code c fuel (i + 2) yes (seen.add k) := by
  rw [inSet]
  simp only [Nat.add_zero, hk, h, ha]
theorem inSet_range {code : Array Nat} {c fuel i : Nat} {yes : Bool} {seen : Seen} {k a b : Nat} (hk : code.getD i 0 = k) (h : ops[k]? = some .RANGE) (ha : code.getD (i + 1) 0 = a) (hb : code.getD (i + 2) 0 = b) :
    inSet code c (fuel + 1) i yes seen = if a ≤ c && c ≤ b then .ok (yes, seen.add k) else inSet code c fuel (i + 3) yes (seen.add k) := by
  rw [inSet]
  simp only [Nat.add_zero, hk, h, ha, hb]
theorem inSet_charset {code : Array Nat} {c fuel i : Nat} {yes : Bool} {seen : Seen} {k : Nat} (hk : code.getD i 0 = k) (h : ops[k]? = some .CHARSET) :
    inSet code c (fuel + 1) i yes seen = if c < 256 && (code.getD (i + (1 + c / 32)) 0).testBit (c % 32) then .ok (yes, seen.add k) else inSet code c fuel (i + 9) yes (seen.add k) := by
  rw [inSet]
  simp only [Nat.add_zero, hk, h]

/-- the signs that a search by this code stops at: what each try of a set says -/
def SetAt (code : Array Nat) (n i : Nat) (bad : Nat → Bool) : Prop :=
  ∀ c, c < 128 → ∀ seen, ∃ seen', inSet code c n i true seen = .ok (bad c, seen')

def badN (c : Nat) : Bool := decide (c < 32) || c == 127
def badV (c : Nat) : Bool := (decide (c < 32) && c != 9) || c == 127

theorem nm_set (i : Nat) (hi : nmCode.getD i 0 = 22) (h1 : nmCode.getD (i + 1) 0 = 0) (h2 : nmCode.getD (i + 2) 0 = 31) (h3 : nmCode.getD (i + 3) 0 = 16) (h4 : nmCode.getD (i + 3 + 1) 0 = 127) (h5 : nmCode.getD (i + 3 + 2) 0 = 0) : SetAt nmCode 20 i badN := fun c hc seen => by
  rw [inSet_range hi rfl h1 h2]
  by_cases h : c ≤ 31
  · rw [if_pos (by simp [h])]
    have : badN c = true := by unfold badN; simp; omega
    rw [this]
    exact ⟨_, rfl⟩
  · rw [if_neg (by simp [h]), inSet_lit h3 rfl h4]
    by_cases h' : c = 127
    · subst h'
      exact ⟨_, rfl⟩
    · rw [if_neg (by simpa using h'), inSet_fail h5 rfl]
      have : badN c = false := by unfold badN; simp; omega
      rw [this]
      exact ⟨_, rfl⟩
theorem vl_bits : ∀ c, c < 128 → (decide (c < 256) && (vlCode.getD (5 + (1 + c / 32)) 0).testBit (c % 32)) = badV c := by decide
theorem vl_bits2 : ∀ c, c < 128 → (decide (c < 256) && (vlCode.getD (17 + (1 + c / 32)) 0).testBit (c % 32)) = badV c := by decide
theorem vl_set1 : SetAt vlCode 28 5 badV := fun c hc seen => by
  rw [inSet_charset (k := 9) rfl rfl]
  have e := vl_bits c hc
  cases hb : badV c with
  | true => rw [hb] at e; rw [if_pos e]; exact ⟨_, rfl⟩
  | false => rw [hb] at e; rw [if_neg (by rw [e]; exact Bool.false_ne_true), inSet_fail (k := 0) rfl rfl]; exact ⟨_, rfl⟩
theorem vl_set2 : SetAt vlCode 28 17 badV := fun c hc seen => by
  rw [inSet_charset (k := 9) rfl rfl]
  have e := vl_bits2 c hc
  cases hb : badV c with
  | true => rw [hb] at e; rw [if_pos e]; exact ⟨_, rfl⟩
  | false => rw [hb] at e; rw [if_neg (by rw [e]; exact Bool.false_ne_true), inSet_fail (k := 0) rfl rfl]; exact ⟨_, rfl⟩
theorem nm_set1 : SetAt nmCode 20 5 badN := nm_set 5 rfl rfl rfl rfl rfl rfl
theorem nm_set2 : SetAt nmCode 20 13 badN := nm_set 13 rfl rfl rfl rfl rfl rfl

/-- what a search over a text comes to: four steps at most -/
theorem adm {m : M} {bad : Nat → Bool} (h : SetAt m.code m.code.size 5 bad) (hc : ∀ i, i < m.lim → m.text.getD i 0 < 128) : ∀ (fuel s : Nat) (seen : Seen), m.lim < fuel + s → 
    ∃ seen', M.admitted m fuel s seen = .ok (((List.range' s (m.lim - s)).find? fun i => bad (m.text.getD i 0)), seen')
  | 0, s, seen, hf => by
    have e : m.lim - s = 0 := by omega
    rw [e]; exact ⟨_, rfl⟩
  | fuel + 1, s, seen, hf => by
    rw [M.admitted]
    by_cases hs : s ≥ m.lim
    · rw [if_pos hs]
      have e : m.lim - s = 0 := by omega
      rw [e]; exact ⟨_, rfl⟩
    · rw [if_neg hs]
      obtain ⟨seen', e⟩ := h (m.text.getD s 0) (hc s (by omega)) seen
      rw [e]
      have e2 : m.lim - s = (m.lim - (s + 1)) + 1 := by omega
      rw [e2, List.range'_succ, List.find?_cons]
      cases hb : bad (m.text.getD s 0) with
      | true => exact ⟨_, rfl⟩
      | false => exact adm h hc fuel (s + 1) seen' (by omega)

def mStart (code : Array Nat) (pc : Nat) (text : Array Nat) : M :=
  { code, text, lim := text.size, start := 0, lastStart := text.size, pc, pos := 0, handed := 0, marks := #[], seen := ({} : Seen).add 14 }
theorem fs_nm {text : Array Nat} (h : 0 < text.size) : forSearch nmCode text 0 0 text.size false = (mStart nmCode 11 text).attemptFrom 0 true := by
  unfold forSearch
  have hh : header nmCode = (1, 11) := rfl
  rw [hh]
  dsimp only
  rw [if_neg (by intro h; simp only [Bool.or_eq_true, decide_eq_true_eq] at h; omega)]
  rfl
theorem fs_vl {text : Array Nat} (h : 0 < text.size) : forSearch vlCode text 0 0 text.size false = (mStart vlCode 15 text).attemptFrom 0 true := by
  unfold forSearch
  have hh : header vlCode = (1, 15) := rfl
  rw [hh]
  dsimp only
  rw [if_neg (by intro h; simp only [Bool.or_eq_true, decide_eq_true_eq] at h; omega)]
  rfl

/-- the machine at a place of the text, one try below it -/
def mAt (code text : Array Nat) (pc i p : Nat) (ans : Option Bool) (fr : List Sre.Frame) (hand wt : Nat) (seen : Seen) : M :=
  { code, text, lim := text.size, start := i, lastStart := text.size, pc, pos := p, handed := hand, marks := #[], seen, frames := fr, weight := wt, answer := ans }
def fr0 (pc i : Nat) : Sre.Frame := { wait := .nextStart, pc, pos := i, outermost := true }
theorem step_in {code text : Array Nat} {pc w i : Nat} {seen seen2 : Seen} (hpc : code.getD pc 0 = 13) (hw : code.getD (pc + 1) 0 = w) (hsz : pc < code.size) (hi : i < text.size)
    (acc : accepts code pc (text.getD i 0) (seen.add 13) = .ok (true, seen2)) :
    M.step (mAt code text pc i i none [fr0 pc i] i 1 seen) = mAt code text (pc + (1 + w)) i (i + 1) none [fr0 pc i] i 1 seen2 := by
  have h1 : (mAt code text pc i i none [fr0 pc i] i 1 seen).word 0 = 13 := hpc
  have h2 : itemWidth code pc = 1 + w := by unfold itemWidth; rw [hpc, hw]; rfl
  have h3 : M.exec (mAt code text pc i i none [fr0 pc i] i 1 seen) = mAt code text (pc + (1 + w)) i (i + 1) none [fr0 pc i] i 1 seen2 := by
    unfold M.exec
    rw [h1]
    have h4 : ops[13]? = some Op.IN := rfl
    rw [h4]
    dsimp only [mAt]
    refine (if_neg (show ¬ (i ≥ text.size) by omega)).trans ?_
    rw [acc]
    dsimp only
    rw [h2]
  unfold M.step
  refine (if_neg (fun h => Bool.noConfusion h)).trans ?_
  show (if pc < code.size then M.exec (mAt code text pc i i none [fr0 pc i] i 1 seen) else _) = _
  rw [if_pos hsz, h3]
theorem step_ok {code text : Array Nat} {pc pc2 i : Nat} {seen : Seen} (hs : code.getD pc2 0 = 1) (hsz : pc2 < code.size) :
    M.step (mAt code text pc2 i (i + 1) none [fr0 pc i] i 1 seen) = mAt code text pc2 i (i + 1) (some true) [fr0 pc i] (i + 1) 1 (seen.add 1) := by
  have h1 : (mAt code text pc2 i (i + 1) none [fr0 pc i] i 1 seen).word 0 = 1 := hs
  have h3 : M.exec (mAt code text pc2 i (i + 1) none [fr0 pc i] i 1 seen) = mAt code text pc2 i (i + 1) (some true) [fr0 pc i] (i + 1) 1 (seen.add 1) := by
    unfold M.exec
    rw [h1]
    have h4 : ops[1]? = some Op.SUCCESS := rfl
    rw [h4]
    rfl
  unfold M.step
  refine (if_neg (fun h => Bool.noConfusion h)).trans ?_
  show (if pc2 < code.size then M.exec (mAt code text pc2 i (i + 1) none [fr0 pc i] i 1 seen) else _) = _
  rw [if_pos hsz, h3]

theorem search_out {code text : Array Nat} {pc w : Nat} {bad : Nat → Bool} (h5 : SetAt code code.size 5 bad) (h2 : SetAt code code.size (pc + 2) bad) (hf : (mStart code pc text).hasFirstSet = true)
    (hpc : code.getD pc 0 = 13) (hw : code.getD (pc + 1) 0 = w) (hs : code.getD (pc + (1 + w)) 0 = 1) (hsz : pc + (1 + w) < code.size)
    (ht : ∀ i, i < text.size → text.getD i 0 < 128) :
    ((((mStart code pc text).attemptFrom 0 true).runFor 4).outcome = some .failed ∧ (∀ i, i < text.size → bad (text.getD i 0) = false)) ∨
    ((((mStart code pc text).attemptFrom 0 true).runFor 4).outcome = some .matched ∧ (∃ i, i < text.size ∧ bad (text.getD i 0) = true) ∧ (((mStart code pc text).attemptFrom 0 true).runFor 4).marks = #[]) := by
  have e0 : (mStart code pc text).attemptFrom 0 true = (match M.admitted (mStart code pc text) ((mStart code pc text).lim + 1 - 0) 0 (mStart code pc text).seen with
    | .ok (some s, seen) => { (mStart code pc text) with mustAdvance := false, seen }.attemptAt s true
    | .ok (none, seen) => { (mStart code pc text) with seen }.say false
    | .error why => (mStart code pc text).stick why) := by
    unfold M.attemptFrom
    simp only [hf, Bool.not_true, Bool.false_eq_true, if_false]
    rfl
  rw [e0]
  clear e0
  obtain ⟨seen', e⟩ := adm (m := mStart code pc text) h5 ht ((mStart code pc text).lim + 1 - 0) 0 (mStart code pc text).seen (by omega)
  rw [e]
  cases hq : (List.range' 0 ((mStart code pc text).lim - 0)).find? (fun i => bad ((mStart code pc text).text.getD i 0)) with
  | none =>
    left
    refine ⟨rfl, fun i hi => ?_⟩
    have := List.find?_eq_none.mp hq i (by simp [mStart, hi])
    simpa [mStart] using this
  | some i =>
    right
    have hb : bad (text.getD i 0) = true := by have := List.find?_some hq; simpa [mStart] using this
    have hi : i < text.size := by have := List.mem_of_find?_eq_some hq; simpa [mStart] using this
    obtain ⟨seen2, e2⟩ := h2 (text.getD i 0) (ht i hi) (seen'.add 13)
    rw [hb] at e2
    have acc : accepts code pc (text.getD i 0) (seen'.add 13) = .ok (true, seen2) := by
      unfold accepts
      rw [hpc]
      exact e2
    have est : ({ (mStart code pc text) with mustAdvance := false, seen := seen' } : M).attemptAt i true = mAt code text pc i i none [fr0 pc i] i 1 seen' := by
      unfold M.attemptAt M.attempt
      exact if_neg (by show ¬ (0 + 1 + 0 > 16777216); omega)
    have e4 : M.runFor 4 (mAt code text pc i i none [fr0 pc i] i 1 seen') = { mAt code text pc i i (some true) [] (i + 1) 0 (seen2.add 1) with outcome := some .matched } := by
      have r : ∀ n (m : M), m.outcome.isSome = false → M.runFor (n + 1) m = M.runFor n m.step := fun n m h => by rw [M.runFor, if_neg (by rw [h]; exact Bool.false_ne_true)]
      rw [r _ _ rfl, step_in hpc hw (by omega) hi acc, r _ _ rfl, step_ok hs hsz, r _ _ rfl]
      rfl
    refine ⟨?_, ⟨i, hi, hb⟩, ?_⟩
    · show (M.runFor 4 (({ (mStart code pc text) with mustAdvance := false, seen := seen' } : M).attemptAt i true)).outcome = _
      rw [est, e4]
    · show (M.runFor 4 (({ (mStart code pc text) with mustAdvance := false, seen := seen' } : M).attemptAt i true)).marks = _
      rw [est, e4]
      rfl
end Mine
end
section
-- part R2
open PySem PySem.Sre PySem.Spec PyProof.Rows PySem.W
namespace Mine
theorem reg5 : True := by
  w_top off
  k_with_none
  trivial
theorem slot_search : Slot "re.Pattern" "search" "re.Pattern.search" :=
  .of (owner := "re.Pattern") (n := "search") (by rw [typeLookup_type, builtinLookup_eq_fast]; kernel_rfl) (by decide +kernel) (by decide +kernel) (by decide +kernel)
    (by first | exact .inl (by decide +kernel) | exact .inr (by decide +kernel)) (by rw [isSubtype_type]; kernel_rfl)
theorem type_search : typeOf (.builtin "re.Pattern.search") = pure (.type "method_descriptor") := by show builtinType _ = _; rw [builtinType_eq_fast]; kernel_rfl
theorem entry_search : entryFor table "re.Pattern.search" = some Builtin.«re.Pattern.search» := entryFor_of_tree (by kernel_rfl)
theorem plain_rePattern : PlainAttrs "re.Pattern" :=
  ⟨⟨"object.__getattribute__", by rw [typeLookup_type, builtinLookup_eq_fast]; kernel_rfl, by decide +kernel⟩, by rw [typeLookup_type, builtinLookup_eq_fast]; kernel_rfl⟩
theorem owner_rep : Manifest.owners.lookup (String.ofList ['n', 'r', 'e', 't', 't', 'a', 'P', '.', 'e', 'r'].reverse) = some Manifest.sig_re_Pattern := by kernel_rfl
theorem args_search (a b : Value) : argsOk "re.Pattern.search" ⟨[a, b], []⟩ := by
  unfold argsOk; rw [signature?_of (id := "re.Pattern.search") (n := ['h', 'c', 'r', 'a', 'e', 's']) (o := ['n', 'r', 'e', 't', 't', 'a', 'P', '.', 'e', 'r']) (by kernel_rfl) owner_rep]; kernel_rfl
theorem named_search (v : Value) : Builtin.Re.reNamed "re.Pattern.search" "search" ["string", "pos", "endpos"] 1 [v] [] = pure [some v, none, none] := by
  kernel_rfl

theorem wp_drive {M' : Model} {A : Around} {E : Value → Shared → Prop} {s : Shared} {turns : Nat} {m : Sre.M} {Q : Sre.M → Shared → Prop} (ht : 0 < turns) (ho : (m.runFor 4).outcome.isSome = true) (h : Q (m.runFor 4) s) :
    wpAny M' A (Builtin.Re.reDrive turns m) Q E s := by
  cases turns with
  | zero => exact absurd ht (Nat.lt_irrefl _)
  | succ n =>
    unfold Builtin.Re.reDrive
    show wpAny M' A (if (m.runFor Builtin.Re.reTurnSteps).outcome.isSome = true then pure (m.runFor Builtin.Re.reTurnSteps) else _) Q E s
    rw [if_pos (show (m.runFor Builtin.Re.reTurnSteps).outcome.isSome = true from ho)]
    exact wpAny_pure h
theorem wp_seen {M' : Model} {A : Around} {E : Value → Shared → Prop} {s : Shared} {sn : Sre.Seen} (l : List Nat) {Q : PUnit → Shared → Prop} (h : Q ⟨⟩ s) :
    wpAny M' A (forIn l PUnit.unit (fun i _ => if sn.has i = true then (do rule (Sre.names.getD i ""); pure (ForInStep.yield PUnit.unit)) else pure (ForInStep.yield PUnit.unit) : Nat → PUnit → Sem (ForInStep PUnit))) Q E s := by
  refine wpAny_forIn_list _ (fun _ _ s' => s' = s) Q ?_ (fun _ _ e => by subst e; exact h) l _ rfl
  rintro x rest b s' rfl
  cases hq : sn.has x with
  | true => exact wpAny_bind (wpAny_rule (wpAny_pure rfl))
  | false => exact wpAny_pure rfl
theorem wp_toEnd {M' : Model} {A : Around} {E : Value → Shared → Prop} {s : Shared} {m : Sre.M} {Q : Option Sre.M → Shared → Prop}
    (h : ((m.runFor 4).outcome = some .failed ∧ Q none s) ∨ ((m.runFor 4).outcome = some .matched ∧ Q (some (m.runFor 4)) s)) : wpAny M' A (Builtin.Re.reRunToEnd m) Q E s := by
  unfold Builtin.Re.reRunToEnd
  refine wpAny_bind (wp_drive (by decide) (by rcases h with ⟨e, _⟩ | ⟨e, _⟩ <;> rw [e] <;> rfl) ?_)
  refine wpAny_bind (wp_seen _ ?_)
  rcases h with ⟨e, q⟩ | ⟨e, q⟩
  · rw [e]; exact wpAny_pure q
  · rw [e]; exact wpAny_pure q

/-- a pattern that stands in the heap -/
structure PatAt (h : Heap) (p : Addr) (code : Array Nat) : Prop where
  ex : ∃ op oc cd vs n x0 x1 t1 t2 t3, h.get? p = some op ∧ op.cls = .type "re.Pattern" ∧ op.dict = none ∧ op.data = .fields #[x0, .int x1 t1, .int 0 t2, .none, .none, .ref cd, .int 0 t3] ∧
    h.get? cd = some oc ∧ oc.data = .seq vs n ∧ (vs.map Builtin.Re.reRawOf).map (·.toNat) = code

section
variable {prog : Program} {w : World} {A : Around} {E : Value → Shared → Prop} {s : Shared} {p : Addr} {code : Array Nat} {x : Str} {t : Tok} {Q : Value → Shared → Prop}
theorem gm_search {pl : Sem Bool} {Q : Value × List Value → Shared → Prop} (P : PatAt s.heap p code) (h : Q (.builtin "re.Pattern.search", [.ref p]) s) : wpAny (model prog w) A (getMethod (.ref p) (Str.ofString "search") pl) Q E s := by
  obtain ⟨op, oc, cd, vs, n, x0, x1, t1, t2, t3, h1, h2, h3, h4, h5, h6, h7⟩ := P.ex
  exact getMethod_builtin (T := "re.Pattern") ⟨op, h1, h2⟩ plain_rePattern slot_search type_search (fun a e => by cases e; exact ⟨_, h1, h3⟩) h

theorem call_search (P : PatAt s.heap p code) (hsz : x.cps.size ≤ 2 ^ 24)
    (hr : (((forSearch code x.cps 0 0 x.cps.size false).runFor 4).outcome = some .failed ∧ Q .none s) ∨
      (((forSearch code x.cps 0 0 x.cps.size false).runFor 4).outcome = some .matched ∧ ∀ (o1 o2 : Obj), o2.cls = .type "re.Match" → o1.isFreed = false → o2.isFreed = false → Q (.ref (s.heap.push o1).objs.size) { s with heap := (s.heap.push o1).push o2 })) :
    wpAny (model prog w) A (call (.builtin "re.Pattern.search") [.ref p, .str x t]) Q E s := by
  obtain ⟨op, oc, cd, vs, n, x0, x1, t1, t2, t3, g1, g2, g3, g4, g5, g6, g7⟩ := P.ex
  refine wpAny_call_entry slot_search (show s.TypeIs (.ref p) "re.Pattern" from ⟨op, g1, g2⟩) entry_search ?_ (args_search _ _)
  show wpAny _ _ (Builtin.Re.reTarget "re.Pattern.search" "search" ⟨[.ref p, .str x t], []⟩ >>= fun t => Builtin.Re.reAnswer t (Sre.forSearch t.code t.text t.groups t.pos t.lim false)) _ _ _
  refine wpAny_bind ?_
  unfold Builtin.Re.reTarget
  dsimp only
  rw [named_search]
  simp only [pure_bind]
  refine wpAny_bind (wpAny_fieldsOf g1 g4 ?_)
  show wpAny _ _ (Builtin.Re.reRawItems (.ref cd) >>= fun l => pure (f := Sem) ({ pattern := Value.ref p, string := Value.str x t, code := l.map (·.toNat), text := x.cps, kind := 0, groups := 0, pos := min (Int.toNat 0) x.cps.size, lim := min (2 ^ 63 - 1 : Int).toNat x.cps.size } : Builtin.Re.ReTarget)) _ _ _
  refine wpAny_bind ?_
  unfold Builtin.Re.reRawItems
  refine wpAny_bind (wpAny_seqItems g5 g6 (wpAny_pure (wpAny_pure ?_)))
  have e1 : min (Int.toNat 0) x.cps.size = 0 := Nat.zero_min _
  have e2 : min (2 ^ 63 - 1 : Int).toNat x.cps.size = x.cps.size := Nat.min_eq_right (Nat.le_trans hsz (by decide))
  dsimp only [Option.getD_some]
  rw [e1, e2, g7]
  unfold Builtin.Re.reAnswer
  refine wpAny_bind (wp_toEnd ?_)
  rcases hr with ⟨a, q⟩ | ⟨a, q⟩
  · exact .inl ⟨a, wpAny_pure ⟨_, rfl, q⟩⟩
  · refine .inr ⟨a, ?_⟩
    dsimp only
    refine wpAny_bind ?_
    unfold Builtin.Re.reNewMatch
    show wpAny _ _ (newTuple _ >>= fun u => newFields "re.Match" _) _ _ _
    refine wpAny_bind ?_
    unfold newTuple
    refine wpAny_newObj_type (wpAny_newObj_type ?_ (Nat.le_of_ble_eq_true rfl)) (Nat.le_of_ble_eq_true rfl)
    exact wpAny_pure ⟨_, rfl, q _ _ rfl rfl rfl⟩
theorem match_bool : typeLookup (.type "re.Match") "__bool__" = pure none := by rw [typeLookup_type, builtinLookup_eq_fast]; kernel_rfl
theorem match_len : typeLookup (.type "re.Match") "__len__" = pure none := by rw [typeLookup_type, builtinLookup_eq_fast]; kernel_rfl
theorem truthy_match {a : Addr} {o : Obj} {Q : Bool → Shared → Prop} (h1 : s.heap.get? a = some o) (h2 : o.cls = .type "re.Match") (h : Q true s) : wpAny (model prog w) A (truthy (.ref a)) Q E s := by
  have hT : s.TypeIs (.ref a) "re.Match" := ⟨o, h1, h2⟩
  unfold truthy
  refine wpAny_bind (m := callSpecial? (.ref a) (Str.ofString "__bool__")) (wpAny_callSpecial?_none hT match_bool ?_)
  refine wpAny_bind (wpAny_specialOf hT match_len ?_)
  exact wpAny_pure h
end
end Mine
end
section
-- part B3
open PySem PySem.W PySem.Calls PySem.Spec PyProof.Rows
namespace Mine
theorem reg6 : True := by
  w_top off
  k_with_none
  trivial
theorem pat_nm {P : Params} {h : Heap} (X : (Mine.hd.heap_1 P).In h) : PatAt h 41 nmCode :=
  ⟨_, _, 40, _, _, _, _, _, _, _, X 41 _ (by k_is), rfl, rfl, rfl, X 40 _ (by k_is), rfl, by kernel_rfl⟩
theorem pat_vl {P : Params} {h : Heap} (X : (Mine.hd.heap_1 P).In h) : PatAt h 46 vlCode :=
  ⟨_, _, 45, _, _, _, _, _, _, _, X 46 _ (by k_is), rfl, rfl, rfl, X 45 _ (by k_is), rfl, by kernel_rfl⟩

/-- a text of 7-bit signs, not empty -/
structure Asc (x : Str) : Prop where
  pos : 0 < x.cps.size
  lt : ∀ i, i < x.cps.size → x.cps.getD i 0 < 128
  sz : x.cps.size ≤ 2 ^ 24
theorem any_of {a : Array Nat} {p : Nat → Bool} : (∃ i, i < a.size ∧ p (a.getD i 0) = true) → a.any p = true := by
  rintro ⟨i, hi, hp⟩
  rw [Array.any_eq_true]
  refine ⟨i, hi, ?_⟩
  simpa [hi] using hp
theorem any_of' {a : Array Nat} {p : Nat → Bool} (h : ∀ i, i < a.size → p (a.getD i 0) = false) : a.any p = false := by
  rw [Array.any_eq_false]
  intro i hi
  have := h i hi
  simpa [hi] using this
theorem out_nm {x : Str} (A : Asc x) : (((Sre.forSearch nmCode x.cps 0 0 x.cps.size false).runFor 4).outcome = some .failed ∧ x.cps.any badN = false) ∨ (((Sre.forSearch nmCode x.cps 0 0 x.cps.size false).runFor 4).outcome = some .matched ∧ x.cps.any badN = true) := by
  rw [fs_nm A.pos]
  rcases search_out (code := nmCode) (text := x.cps) (pc := 11) (w := 7) nm_set1 nm_set2 rfl rfl rfl rfl (by decide) A.lt with ⟨a, b⟩ | ⟨a, b, _⟩
  · exact .inl ⟨a, any_of' b⟩
  · exact .inr ⟨a, any_of b⟩
theorem out_vl {x : Str} (A : Asc x) : (((Sre.forSearch vlCode x.cps 0 0 x.cps.size false).runFor 4).outcome = some .failed ∧ x.cps.any badV = false) ∨ (((Sre.forSearch vlCode x.cps 0 0 x.cps.size false).runFor 4).outcome = some .matched ∧ x.cps.any badV = true) := by
  rw [fs_vl A.pos]
  rcases search_out (code := vlCode) (text := x.cps) (pc := 15) (w := 11) vl_set1 vl_set2 rfl rfl rfl rfl (by decide) A.lt with ⟨a, b⟩ | ⟨a, b, _⟩
  · exact .inl ⟨a, any_of' b⟩
  · exact .inr ⟨a, any_of b⟩

section
variable {prog : Program} {w : World} {A : Around} {E : Value → Shared → Prop} {s : Shared} {p : Addr} {code : Array Nat} {x : Str} {t : Tok} {Q : Value → Shared → Prop} {h₀ : Heap} {L : Addr} {m : Str → Option Value} {news : Led} {bad : Nat → Bool}
theorem search_K (F : Fr h₀ L s.heap m) (N : News h₀ L s.heap news) (P : PatAt s.heap p code) (hx : Asc x)
    (ho : (((Sre.forSearch code x.cps 0 0 x.cps.size false).runFor 4).outcome = some .failed ∧ x.cps.any bad = false) ∨ (((Sre.forSearch code x.cps 0 0 x.cps.size false).runFor 4).outcome = some .matched ∧ x.cps.any bad = true))
    (h0 : x.cps.any bad = false → Q .none s)
    (h1 : x.cps.any bad = true → ∀ a2 o2 h', o2.cls = .type "re.Match" → Fr h₀ L h' m → News h₀ L h' ((a2, o2) :: news) → Q (.ref a2) { s with heap := h' }) :
    wpAny (model prog w) A (call (.builtin "re.Pattern.search") [.ref p, .str x t]) Q E s := by
  refine call_search P hx.sz ?_
  rcases ho with ⟨a, b⟩ | ⟨a, b⟩
  · exact .inl ⟨a, h0 b⟩
  · refine .inr ⟨a, fun o1 o2 hc f1 f2 => h1 b _ o2 _ hc ((F.push o1).push o2) ?_⟩
    have N1 := News.push F N o1 f1
    have N2 := News.push (F.push o1) N1 o2 f2
    intro q hq
    rcases List.mem_cons.mp hq with rfl | hq
    · exact N2 _ (.head _)
    · exact N2 _ (.tail _ (.tail _ hq))
end
theorem raised_sub {base G : Heap} {l : List Env} {e : Addr} {cls : Value} {t : Addr} {vs : List Value} {news news' : Led} {h : Heap} (R : RaisedS base G l e cls t vs news h) (hs : ∀ p ∈ news', p ∈ news) : RaisedS base G l e cls t vs news' h := by
  obtain ⟨⟨B, b1, b2, b3, b4⟩, r⟩ := R
  exact ⟨⟨B, b1, b2, fun q hq => b3 q (hs q hq), b4⟩, r⟩
section
theorem reg7 : True := by
  w_top off
  k_with_none
  k_with "own k_steps" => (repeat' (first
    | (k_unfold; (try dsimp only))
    | ((fail_if_success (with_reducible show PySem.wpAny _ _ (PySem.exec (PySem.Stmt.While _ _ _ _) _) _ _ _)); (fail_if_success (with_reducible show PySem.wpAny _ _ (PySem.exec (PySem.Stmt.For _ _ _ _ _) _) _ _ _)); (first | walk1 | (dsimp only; walk1)))))
  k_with "leaving ref" => ((k_here; refine' leave_raiseS ?k1 (Heap.MadeExc.of (by assumption)) ?k2 ?k3 ?_; (case k2 => assumption); (case k1 => assumption); (case k3 => k_asm); k_whole; intro zzh zzt zzS zzR zzU; (try dsimp only at zzS zzR zzU ⊢)))
  trivial
set_option maxHeartbeats 8000000 in
theorem signN_c (w : World) (news : Led) : Con w 2 315 [.none] [] news (fun k => ∀ t, k (.str (Str.ofString "") t) news) := by
  intro mean mg mb dp un gd cn cs a ccd cl outer A₀ base h₀ L mm s Q E B F X N T hk hd hu hret hexc
  refine wpAny_call ?_; ktr_enter
  k_steps
  exact hret _ _ _ (by assumption) (by assumption)


theorem reg8 : True := by
  w_top off
  k_with_none
  k_with "own k_steps" => (repeat' (first
    | (k_unfold; (try dsimp only))
    | ((fail_if_success (with_reducible show PySem.wpAny _ _ (PySem.exec (PySem.Stmt.While _ _ _ _) _) _ _ _)); (fail_if_success (with_reducible show PySem.wpAny _ _ (PySem.exec (PySem.Stmt.For _ _ _ _ _) _) _ _ _)); (first | walk1 | (dsimp only; walk1)))))
  k_with "leaving ref" => ((k_here; refine' leave_raiseS ?k1 (Heap.MadeExc.of (by assumption)) ?k2 ?k3 ?_; (case k2 => assumption); (case k1 => assumption); (case k3 => k_asm); k_whole; intro zzh zzt zzS zzR zzU; (try dsimp only at zzS zzR zzU ⊢)))
  k_with "getMethod ref" => (((with_reducible show PySem.wpAny _ _ (PySem.getMethod (PySem.Value.ref 41) _ _) _ _ _); k_dflt (refine gm_search (pat_nm (by k_in)) ?_)))
  k_with "getMethod ref" => (((with_reducible show PySem.wpAny _ _ (PySem.getMethod (PySem.Value.ref 46) _ _) _ _ _); k_dflt (refine gm_search (pat_vl (by k_in)) ?_)))
  k_with "call builtin:re.Pattern.search" => ((k_dflt (refine search_K (p := 41) (by k_asm) (by k_asm) (pat_nm (by k_in)) (by assumption) (out_nm (by assumption)) (fun _ => ?_) (fun _ a2' o2' h2' hc' zzF zzN => ?_))))
  k_with "truthy ref" => ((refine truthy_match (News.get (by k_asm) (.head _)) (by assumption) ?_))
  trivial
set_option maxHeartbeats 8000000 in
theorem convN_c (w : World) (news : Led) (x : Str) (t : Tok) (self : Addr) (hx : Asc x) : ConX w 2 76 [.ref self, .str x t] [(Str.ofString "name", .bool true)] news (fun k => x.cps.any badN = false → k (.str x t) news) (fun k => x.cps.any badN = true → k news) := by
  intro mean mg mb dp un gd cn cs a ccd cl outer A₀ base h₀ L mm s Q E B F X N T hk hd hu hret hexc
  refine wpAny_call ?_; ktr_enter
  k_steps
  · exact hret (by assumption) _ _ (by assumption) (by assumption)
  · exact hexc (by assumption) _ _ _ _ _ _ (by assumption) (by assumption) (raised_sub (by assumption) fun p hp => .tail _ hp)

theorem reg9 : True := by
  w_top off
  k_with_none
  k_with "own k_steps" => (repeat' (first
    | (k_unfold; (try dsimp only))
    | ((fail_if_success (with_reducible show PySem.wpAny _ _ (PySem.exec (PySem.Stmt.While _ _ _ _) _) _ _ _)); (fail_if_success (with_reducible show PySem.wpAny _ _ (PySem.exec (PySem.Stmt.For _ _ _ _ _) _) _ _ _)); (first | walk1 | (dsimp only; walk1)))))
  k_with "leaving ref" => ((k_here; refine' leave_raiseS ?k1 (Heap.MadeExc.of (by assumption)) ?k2 ?k3 ?_; (case k2 => assumption); (case k1 => assumption); (case k3 => k_asm); k_whole; intro zzh zzt zzS zzR zzU; (try dsimp only at zzS zzR zzU ⊢)))
  k_with "getMethod ref" => (((with_reducible show PySem.wpAny _ _ (PySem.getMethod (PySem.Value.ref 41) _ _) _ _ _); k_dflt (refine gm_search (pat_nm (by k_in)) ?_)))
  k_with "getMethod ref" => (((with_reducible show PySem.wpAny _ _ (PySem.getMethod (PySem.Value.ref 46) _ _) _ _ _); k_dflt (refine gm_search (pat_vl (by k_in)) ?_)))
  k_with "call builtin:re.Pattern.search" => ((k_dflt (refine search_K (p := 41) (by k_asm) (by k_asm) (pat_nm (by k_in)) (by assumption) (out_nm (by assumption)) (fun _ => ?_) (fun _ a2' o2' h2' hc' zzF zzN => ?_))))
  k_with "truthy ref" => ((refine truthy_match (News.get (by k_asm) (.head _)) (by assumption) ?_))
  k_with "call builtin:re.Pattern.search" => ((k_dflt (refine search_K (p := 46) (by k_asm) (by k_asm) (pat_vl (by k_in)) (by assumption) (out_vl (by assumption)) (fun _ => ?_) (fun _ a2' o2' h2' hc' zzF zzN => ?_))))
  trivial
set_option maxHeartbeats 8000000 in
theorem convV_c (w : World) (news : Led) (x : Str) (t : Tok) (self : Addr) (hx : Asc x) : ConX w 2 76 [.ref self, .str x t] [(Str.ofString "name", .bool false)] news (fun k => x.cps.any badV = false → k (.str x t) news) (fun k => x.cps.any badV = true → k news) := by
  intro mean mg mb dp un gd cn cs a ccd cl outer A₀ base h₀ L mm s Q E B F X N T hk hd hu hret hexc
  refine wpAny_call ?_; ktr_enter
  k_steps
  · exact hret (by assumption) _ _ (by assumption) (by assumption)
  · exact hexc (by assumption) _ _ _ _ _ _ (by assumption) (by assumption) (raised_sub (by assumption) fun p hp => .tail _ hp)
end
end Mine
end
section
-- part L1
open PySem PySem.W PySem.Calls PySem.Spec PyProof.Rows
namespace Mine
theorem reg10 : True := by
  w_top off
  k_with_none
  trivial
theorem mem_tail {a b : Addr × Obj} {l : Led} (h : a ∈ l) : a ∈ b :: l := .tail _ h
theorem news_sub {h₀ h : Heap} {L : Addr} {n n' : Led} (N : News h₀ L h n) (hs : ∀ p ∈ n', p ∈ n) : News h₀ L h n' := fun p hp => N p (hs p hp)
theorem sub_one {a b : Addr × Obj} {l : Led} : ∀ p ∈ a :: l, p ∈ a :: b :: l := fun _ hp => (List.mem_cons.mp hp).elim (fun e => e ▸ .head _) fun hp => .tail _ (.tail _ hp)
theorem all_lt {l : Led} {d e : Addr} (h : ∀ p ∈ l, p.1 < d) (hd : @LE.le Nat _ d e) : ∀ p ∈ l, p.1 ≠ e := fun p hp => Nat.ne_of_lt (Nat.lt_of_lt_of_le (h p hp) hd)
section
variable {M : Model} {A : Around} {E : Value → Shared → Prop} {s' : Shared} {base g g₂ : Heap} {outer : List Env} {L e t : Addr} {m : Str → Option Value} {env : Env} {Q : Unit → Shared → Prop} {news : Led}
theorem leave_onX {cls : Value} {vs : List Value} (K : Below A base outer g) (F : Fr g L g₂ m) (R : RaisedS base g₂ (env :: outer) e cls t vs news s'.heap) (hsm : g₂.UpToSlots s'.heap)
    (hQ : ∀ h', RaisedS base g outer e cls t vs news h' → g.UpToSlots h' → Q () { s' with heap := h' }) (hf : env.frame = some L := by rfl) :
    wpAny M (A.deeper env) (leaving env (.ref e)) Q E s' := by
  obtain ⟨⟨B, hB, hBG, hl, hfl, hnew⟩, htup⟩ := R
  exact wpAny_leaves_onW (Around.frames_deeper K.stack) hf hfl fun h' x1 x2 => hQ h' ⟨⟨B, hB, fun b o q nm => hBG b o (F.keep b o q) (fun hm => by
    obtain ⟨env', he, hfe⟩ := List.mem_filterMap.mp hm
    rcases List.mem_cons.mp he with rfl | he
    · have z : b = L := Option.some.inj (hfe.symm.trans hf)
      rw [z, kts_self F] at q
      cases q
    · exact nm (List.mem_filterMap.mpr ⟨env', he, hfe⟩)), fun q hq => ⟨(hl q hq).1, kts_none F.keep (hl q hq).2.1, (hl q hq).2.2⟩, x1, hnew⟩, htup.of_slots x2⟩ ((Heap.UpToSlots.of_keeps F.keep).trans (hsm.trans x2))
end
/-- a loop's turn over a list of unknown length: where it goes on, what stands then (J); the list's iterator I stands beside -/
def TPost (h₀ : Heap) (L : Addr) (s₁ : Shared) (I : Addr) (o : Obj) (keep : Led) (J : (Str → Option Value) → Led → Prop) (Q : Flow → Shared → Prop) (f : Flow) (s₃ : Shared) : Prop :=
  match f with
  | .ret v => Q (.ret v) s₃
  | .brk => Q .next s₃
  | _ => ∃ h' tk' m' news', s₃ = { s₁ with heap := h', toks := tk' } ∧ Fr h₀ L h' m' ∧ News h₀ L h' ((I, o) :: news') ∧ (∀ p ∈ news', p.1 ≠ I) ∧ SubL keep news' ∧ J m' news'
theorem TPost.go {h₀ : Heap} {L : Addr} {s₁ : Shared} {I : Addr} {o : Obj} {keep : Led} {J : (Str → Option Value) → Led → Prop} {Q : Flow → Shared → Prop} {h' : Heap} {tk' : Nat} {m' : Str → Option Value} {all : Led} (news' : Led)
    (F : Fr h₀ L h' m') (N : News h₀ L h' all) (hI : (I, o) ∈ all) (hs : ∀ p ∈ news', p ∈ all) (ho : ∀ p ∈ news', p.1 ≠ I) (hk : SubL keep news') (hj : J m' news') : TPost h₀ L s₁ I o keep J Q .next { s₁ with heap := h', toks := tk' } :=
  ⟨h', tk', m', news', rfl, F, fun p hp => by
    rcases List.mem_cons.mp hp with rfl | hp
    · exact N _ hI
    · exact N _ (hs p hp), ho, hk, hj⟩
theorem TPost.ret {h₀ : Heap} {L : Addr} {s₁ : Shared} {I : Addr} {o : Obj} {keep : Led} {J : (Str → Option Value) → Led → Prop} {Q : Flow → Shared → Prop} {v : Value} {s₃ : Shared} (h : Q (.ret v) s₃) : TPost h₀ L s₁ I o keep J Q (.ret v) s₃ := h
theorem TPost.brk {h₀ : Heap} {L : Addr} {s₁ : Shared} {I : Addr} {o : Obj} {keep : Led} {J : (Str → Option Value) → Led → Prop} {Q : Flow → Shared → Prop} {s₃ : Shared} (h : Q .next s₃) : TPost h₀ L s₁ I o keep J Q .brk s₃ := h

section
variable {prog : Program} {w : World} {A : Around} {E : Value → Shared → Prop} {s : Shared} {env : Env} {h₀ : Heap} {target : PySem.Expr} {body : List Stmt} {Q : Flow → Shared → Prop} {I : Addr} {keep : Led}
theorem items_list (Inv : List Value → (Str → Option Value) → Led → Prop)
    (fin : ∀ m₁ n₁ h tk, Inv [] m₁ n₁ → Fr h₀ env.locals h m₁ → News h₀ env.locals h n₁ → Q .next { s with heap := h, toks := tk })
    (turn : ∀ v r m₁ n₁ o h tk, Inv (v :: r) m₁ n₁ → o.cls = .type "list_iterator" → Fr h₀ env.locals h m₁ → News h₀ env.locals h ((I, o) :: n₁) →
      wpAny (model prog w) A (assign target env v) (fun _ s₂ => wpAny (model prog w) A (execs body env) (TPost h₀ env.locals { s with heap := h, toks := tk } I o keep (Inv r) Q) E s₂) E { s with heap := h, toks := tk }) :
    ∀ (vs : List Value) (m : Str → Option Value) (news : Led), Inv vs m news → ItemsRest prog w A E h₀ env target body Q s [(I, "list_iterator")] keep (vs.map .val) m news := by
  intro vs
  induction vs with
  | nil => exact fun m news hi => ItemsRest.zero fun h tk F N => fin m news h tk hi F N
  | cons v r ih =>
    intro m news hi
    refine ItemsRest.val fun h tk F => AllObj.cons fun o ho => AllObj.nil fun N => ?_
    refine wpAny_mono (turn v r m news o h tk hi ho F N) (fun _ s₂ h₂ => wpAny_mono h₂ (fun f s₃ h₃ => ?_) fun _ _ e => e) fun _ _ e => e
    have go : (∃ h' tk' m' news', s₃ = { s with heap := h', toks := tk' } ∧ Fr h₀ env.locals h' m' ∧ News h₀ env.locals h' ((I, o) :: news') ∧ (∀ p ∈ news', p.1 ≠ I) ∧ SubL keep news' ∧ Inv r m' news') →
        UnrEndW h₀ env.locals { s with heap := h, toks := tk } [(I, o)] (fun m' n' => SubL keep n' ∧ ItemsRest prog w A E h₀ env target body Q s [(I, "list_iterator")] keep (r.map .val) m' n') s₃ := by
      rintro ⟨h', tk', m', news', e, F', N', ho', hk', hj'⟩
      exact ⟨h', tk', m', news', e, F', N', fun p hp q hq => by rw [List.mem_singleton.mp hq]; exact ho' p hp, hk', ih m' news' hj'⟩
    cases f with
    | ret v => exact h₃
    | brk => exact h₃
    | next => exact go h₃
    | cont => exact go h₃
end
end Mine
end
section
-- part L5
open PySem PySem.W PySem.Calls PySem.Spec PyProof.Rows
namespace Mine
section
variable {prog : Program} {w : World} {A₀ A : Around} {s : Shared} {base h₀ : Heap} {L : Addr} {m : Str → Option Value} {news : List (Addr × Obj)} {K : Frag} {p : Program} {loose : List Str} {mean : ExcName → Option Value} {mg mb : Str → Option Value} {env : Env}
    {R : Result → Shared → Prop} {name qual : Str} {params : Arguments} {body : List Stmt} {scope : Scope} {dV kV doc pm cdv ct oc : Value} {an od : Option Addr} {osl : Array (Option Value)} {f : Addr} {args : Args} {binds : List (Str × Value)}
theorem reg11 : True := by
  w_top off
  k_with_none
  trivial
theorem code_defT (B : Below A₀ base [] h₀) (F : Fr h₀ L s.heap m) (X₀ : K.In h₀) (N : News h₀ L s.heap news) (T : Top p loose mean mg mb h₀) (hA : A.frames = some [env]) (hf : env.frame = some L) (hke : env.scope.kind = .function)
    (ho : K.lookup f = some ⟨oc, od, .func (fnOf name qual params body scope dV kV doc pm an cdv ct), osl⟩) (hcd : codeIn K cdv qual = true) (hroom : A.depth < recursionLimit)
    (hbind : BindsTo s (fnOf name qual params body scope dV kV doc pm an cdv ct) args binds) (hloc : ∀ y ∈ binds, scope.names.lookup y.1 = some .local)
    (h : ∀ g L' h₁, Fr h₀ L g m → Fr g L' h₁ (fun y => binds.reverse.lookup y) → News g L' h₁ news → Below A base [env] g → K.In g → Top p loose mean mg mb g → KtsDicts ([env].filterMap (·.frame)) g →
      wpAny (model prog w) (A.deeper (envOf qual scope L' f cdv)) (execs body (envOf qual scope L' f cdv))
        (fun fl s' => LeaveS0 ([env].filterMap (·.frame)) h₀ L m g R (match fl with | .ret v => v | _ => .none) s')
        (fun e s' => wpAny (model prog w) (A.deeper (envOf qual scope L' f cdv)) (leaving (envOf qual scope L' f cdv) e) (fun _ s'' => R (.error e) s'') (fun e' s'' => R (.error e') s'') s')
        { s with heap := h₁, toks := s.toks + binds.length })
    (hco : scope.isCoroutine = false) (hgen : scope.isGenerator = false) (hk : scope.kind = .function)
    (hcell : ∀ x ∈ scope.names, x.2 ≠ .cell) : codeAny (model prog w) A (.call (.ref f) args) R s := by
  have X := X₀.keeps F.keep
  obtain ⟨FG, BG, st, _⟩ := groundX (R := R) B F N hA hf hke
  refine codeAny_call_def (fd := fnOf name qual params body scope dV kV doc pm an cdv ct) (body := body) (binds := binds) hroom (X _ _ ho) rfl (T.nolimit.keeps F.keep) (codeRec_of X hcd) rfl hbind hcell hloc (fun h₁ hns hk₁ => ?_) hco hgen hk
  obtain ⟨oL, es, ep, hLg, hLd, hLk, hLf⟩ := id FG.ns
  have hm : ∀ {b : Addr}, b ∈ [env].filterMap (·.frame) → b = L := fun {b} hb => by
    obtain ⟨env', he, hfe⟩ := List.mem_filterMap.mp hb
    rw [List.mem_singleton.mp he] at hfe
    exact Option.some.inj (hfe.symm.trans hf)
  refine wpAny_mono (h _ s.heap.objs.size h₁ FG ⟨hns, fun b o e => hk₁ b o (of_hideAll _ e), Nat.le_of_eq (hideAll_size _ _)⟩
    (fun p hp => ⟨hk₁ _ _ (N p hp).1, Nat.ne_of_lt (Heap.lt_size (N p hp).1), hideAll_none _ (List.mem_map_of_mem hp)⟩) BG (X₀.keeps st) (T.keeps st) (fun b hb => by
      rw [hm hb]; exact ⟨oL, es, ep, hLg, hLd⟩)) (fun fl s' hl => ?_) fun _ _ y => y
  obtain ⟨g', L', m', news', T', F', N', k⟩ := hl
  have nL₀ : h₀.get? L = none := kts_self F
  obtain ⟨sl, hs⟩ := T'.up hLg
  refine k ⟨⟨_, es, ep, F'.keep _ _ hs, hLd, hLk, hLf⟩, fun b o e => F'.keep b o (T'.other b o (st b o e) (fun q => by
    rw [hm q, nL₀] at e
    cases e)), F.above⟩ fun p hp => ⟨(N' p hp).1, fun q => ?_, ?_⟩
  · have := (N' p hp).2.2; rw [q, hs] at this; cases this
  · cases q : h₀.get? p.1 with
    | none => rfl
    | some o =>
      obtain ⟨sl', hs'⟩ := T'.up (st _ _ q)
      have := (N' p hp).2.2
      rw [hs'] at this
      cases this
end
/-- a call from the law's own frame -/
abbrev ConT (w : World) (d : Nat) (f : Addr) (vs : List Value) (kw : List (Str × Value)) (news : Led) (Ret : (Value → Led → Prop) → Prop) : Prop :=
  ∀ (mean : ExcName → Option Value) (mg mb : Str → Option Value) (dp un : Nat) (gd : Option (List Code)) (cn : Str) (cs : Scope) (a : Addr) (ccd : Value) (cl : List (Str × Addr)) (A₀ : Around) (h₀ : Heap) (L : Addr) (mm : Str → Option Value) (s : Shared) (Q E : Value → Shared → Prop),
    Below A₀ h₀ [] h₀ → Fr h₀ L s.heap mm → (Mine.hd.heap_1 w.params).In h₀ → News h₀ L s.heap news → Top pv lz mean mg mb h₀ → cs.kind = .function → dp + d < recursionLimit → un + 8 * d < cLine →
    Ret (fun v news' => ∀ h' tk', Fr h₀ L h' mm → News h₀ L h' news' → Q v { s with heap := h', toks := tk' }) →
    wpAny (model PySem.Challenge.rw_kl0503_01.row.prog w) (ktrTop dp un gd cn cs L a ccd cl []) (call (.ref f) vs kw) Q E s
theorem use_t {w : World} {d : Nat} {f : Addr} {vs : List Value} {kw : List (Str × Value)} {news : Led} {Ret : (Value → Led → Prop) → Prop} (C : ConT w d f vs kw news Ret)
    {mean : ExcName → Option Value} {mg mb : Str → Option Value} {dp un : Nat} {gd : Option (List Code)} {cn : Str} {cs : Scope} {a : Addr} {ccd : Value} {cl : List (Str × Addr)} {A₀ : Around} {h₀ : Heap} {L : Addr} {mm : Str → Option Value} {s : Shared} {Q E : Value → Shared → Prop}
    (B : Below A₀ h₀ [] h₀) (F : Fr h₀ L s.heap mm) (X : (Mine.hd.heap_1 w.params).In h₀) (N : News h₀ L s.heap news) (T : Top pv lz mean mg mb h₀) (hk : cs.kind = .function) (hd : dp + d < recursionLimit) (hu : un + 8 * d < cLine)
    (ret : Ret (fun v news' => ∀ h' tk', Fr h₀ L h' mm → News h₀ L h' news' → Q v { s with heap := h', toks := tk' })) :
    wpAny (model PySem.Challenge.rw_kl0503_01.row.prog w) (ktrTop dp un gd cn cs L a ccd cl []) (call (.ref f) vs kw) Q E s := C _ _ _ _ _ _ _ _ _ _ _ _ _ _ _ _ _ _ B F X N T hk hd hu ret
end Mine
end
section
-- part LW
open PySem PySem.W PySem.Calls PySem.Spec PyProof.Rows
namespace Mine
noncomputable def lastS : List Stmt → Stmt
  | [] => .Pass ⟨0, 0, 0, 0⟩
  | [s] => s
  | _ :: r => lastS r
theorem reg12 : True := by
  w_top off
  k_with_none
  trivial
def bodyD : Stmt → List Stmt
  | .FunctionDef _ _ b .. => b
  | .For _ _ b .. => b
  | _ => []
def scopeD : Stmt → Scope
  | .FunctionDef _ _ _ _ _ _ sc .. => sc
  | _ => { kind := .module, names := [], isGenerator := false, isCoroutine := false, more := [] }
noncomputable def nthS : Nat → List Stmt → Stmt
  | _, [] => .Pass ⟨0, 0, 0, 0⟩
  | 0, s :: _ => s
  | n + 1, _ :: r => nthS n r
/-- the law's own def, its scope, the body of its loop, and that body's statements -/
noncomputable def lawDef : Stmt := lastS PySem.Challenge.pw_kl0503_01.main.body
noncomputable def lawScope : Scope := scopeD lawDef
noncomputable def lawBody : List Stmt := bodyD (nthS 3 (bodyD lawDef))
noncomputable def lawS (n : Nat) : Stmt := nthS n lawBody
theorem lawBody_len : lawBody.length = 21 := by decide +kernel
noncomputable abbrev lawTop (dp un : Nat) (gd : Option (List Code)) (L fa : Addr) (cdv : Value) : Around := ktrTop dp un gd (Str.ofString "law") lawScope L fa cdv (cellsFrom (L + 1) lawScope.names []) []
noncomputable abbrev lawEnv (L fa : Addr) (cdv : Value) : Env := envX (Str.ofString "law") lawScope L fa cdv (cellsFrom (L + 1) lawScope.names [])
theorem kind_law : lawScope.kind = .function := by decide +kernel
theorem cells_law (L : Addr) : cellsFrom (L + 1) lawScope.names [] = [(Str.ofString "name", L + 1)] := by kernel_rfl
theorem dec_self {α : Type} {a : α} {i : Decidable (a = a)} : @decide (a = a) i = true := @decide_eq_true _ i rfl
structure Std (w : World) (mean : ExcName → Option Value) (mg mb : Str → Option Value) (dp un : Nat) (A₀ : Around) (h₀ : Heap) : Prop where
  B : Below A₀ h₀ [] h₀
  X : (Mine.hd.heap_1 w.params).In h₀
  T : Top pv lz mean mg mb h₀
  hd : dp + 14 < recursionLimit
  hu : un + 8 * 14 < cLine
/-- the law's frame goes on with these statements -/
abbrev LGo (w : World) (dp un : Nat) (gd : Option (List Code)) (L fa : Addr) (cdv : Value) (rest : List Stmt) (Q : Flow → Shared → Prop) (E : Value → Shared → Prop) (s : Shared) : Prop :=
  wpAny (model PySem.Challenge.rw_kl0503_01.row.prog w) (lawTop dp un gd L fa cdv) (execs rest (lawEnv L fa cdv)) Q E s
abbrev locsOk (m : Str → Option Value) (ps : List (Str × Value)) : Prop := ∀ p ∈ ps, m p.1 = some p.2
end Mine
end
section
-- part LS1
open PySem PySem.W PySem.Calls PySem.Spec PyProof.Rows
namespace Mine
theorem reg13 : True := by
  w_top off
  k_with_none
  trivial
def nameF (x : Int) : Int := 64 * [1, 33, 26, 58, 0, 32, 27, 59, 31, 63].getD ((x.fdiv 5).fmod 10).toNat 0 + [45, 50, 9].getD ((x.fdiv 50).fmod 3).toNat 0
def valF (x : Int) : Int := [38, 1826, 9, 13, 4080, (x.fdiv 150).fmod 4096].getD ((x.fdiv 150).fmod 6).toNat 0
theorem nameF_mem (x : Int) : ∃ i j, i < 10 ∧ j < 3 ∧ nameF x = 64 * [1, 33, 26, 58, 0, 32, 27, 59, 31, 63].getD i 0 + [45, 50, 9].getD j 0 := by
  have h1 := Int.fmod_lt_of_pos (x.fdiv 5) (show (0 : Int) < 10 by decide)
  have h2 := Int.fmod_lt_of_pos (x.fdiv 50) (show (0 : Int) < 3 by decide)
  exact ⟨((x.fdiv 5).fmod 10).toNat, ((x.fdiv 50).fmod 3).toNat, by omega, by omega, rfl⟩
def names : List Int := [1, 33, 26, 58, 0, 32, 27, 59, 31, 63].flatMap fun k => [45, 50, 9].map fun d => 64 * k + d
theorem nameF_in (x : Int) : nameF x ∈ names := by
  obtain ⟨i, j, hi, hj, e⟩ := nameF_mem x
  rw [e]
  have : ∀ i < 10, ∀ j < 3, 64 * [1, 33, 26, 58, 0, 32, 27, 59, 31, 63].getD i 0 + [45, 50, 9].getD j 0 ∈ names := by decide
  exact this i hi j hj
theorem names_lt : ∀ n ∈ names, 0 ≤ n ∧ n < 4096 := by decide
theorem valF_lt (x : Int) : 0 ≤ valF x ∧ valF x < 4096 := by
  have h1 := Int.fmod_lt_of_pos (x.fdiv 150) (show (0 : Int) < 6 by decide)
  have h2 := Int.fmod_lt_of_pos (x.fdiv 150) (show (0 : Int) < 4096 by decide)
  have h3 := Int.fmod_nonneg_of_pos (x.fdiv 150) (show (0 : Int) < 4096 by decide)
  have ht : ((x.fdiv 150).fmod 6).toNat < 6 := (Int.toNat_lt' (by decide)).mpr h1
  unfold valF
  generalize ((x.fdiv 150).fmod 6).toNat = t at ht ⊢
  match t, ht with
  | 0, _ | 1, _ | 2, _ | 3, _ | 4, _ => simp
  | 5, _ => exact ⟨h3, h2⟩
def kindF (x : Int) : Nat := (x.fmod 5).toNat
theorem kindF_eq (x : Int) : x.fmod 5 = ((kindF x : Nat) : Int) := by
  have := Int.fmod_nonneg_of_pos x (show (0 : Int) < 5 by decide)
  exact (Int.toNat_of_nonneg this).symm
theorem kindF_le (x : Int) : kindF x ≤ 4 := by
  have h1 := Int.fmod_lt_of_pos x (show (0 : Int) < 5 by decide)
  have h2 := kindF_eq x
  omega
section
theorem reg14 : True := by
  w_top off
  k_with_none
  k_with "own k_steps" => (repeat' (first
    | (k_unfold; (try dsimp only))
    | (dsimp only; k_unfold; (try dsimp only))
    | ((fail_if_success (with_reducible show PySem.wpAny _ _ (PySem.exec (PySem.Stmt.While _ _ _ _) _) _ _ _)); (fail_if_success (with_reducible show PySem.wpAny _ _ (PySem.exec (PySem.Stmt.For _ _ _ _ _) _) _ _ _)); (fail_if_success (with_reducible show PySem.wpAny _ _ (PySem.eval (PySem.Expr.ListComp _ _ _ _) _) _ _ _)); (fail_if_success (with_reducible show PySem.wpAny _ _ (PySem.exec (PySem.Stmt.Assign [PySem.Expr.Name _ _] (PySem.Expr.ListComp _ _ _ _) _) _) _ _ _)); (fail_if_success (with_reducible show PySem.wpAny _ _ (PySem.pyIter _) _ _ _)); (fail_if_success (with_reducible show PySem.W.UnrPostW _ _ _ _ _ _ _ _)); (fail_if_success (with_reducible show PySem.wpAny _ _ (PySem.call (PySem.Value.ref _) _ _) _ _ _)); (fail_if_success (with_reducible show PySem.wpAny _ _ (subscriptTail _ _ (PySem.Value.ref _) _) _ _ _)); (first | walk1 | (dsimp only; walk1)))))
  k_with "own ktr_enter" => (first
    | (refine' code_defT ?k1 ?k2 ?k3 ?k4 ?k5 ?kA ?kF ?kK ?k6 ?k7 ?k8 ?k9 ?kB ?_ ?c2 ?c3 ?c4 ?c5; (case kA => exact rfl); (case kF => exact rfl); (case kK => first | assumption | exact rfl); (case k1 => k_asm); (case k2 => k_asm); (case k3 => k_asm); (case k4 => k_asm); (case k5 => k_asm); (case k6 => k_is); (case k7 => k_is); (case k8 => ktr_room); (case k9 => first | exact BindsTo.of_eq rfl | exact binds_K (by k_in) rfl (by k_is) rfl rfl rfl); (case c5 => decide); (case kB => exact locs rfl); (case c2 => exact rfl); (case c3 => exact rfl); (case c4 => exact rfl); k_whole; intro zzg zzL zzh zzFG zzF zzN zzB zzX zzT zzD; (try dsimp only); (try k_fold))
    | (refine' code_def ?k1 ?k2 ?k3 ?k4 ?k5 ?kA ?kF ?kK ?k6 ?k7 ?k8 ?k9 ?kB ?_ ?c2 ?c3 ?c4 ?c5; (case kA => exact rfl); (case kF => exact rfl); (case kK => first | assumption | exact rfl); (case k1 => k_asm); (case k2 => k_asm); (case k3 => k_asm); (case k4 => k_asm); (case k5 => k_asm); (case k6 => k_is); (case k7 => k_is); (case k8 => ktr_room); (case k9 => first | exact BindsTo.of_eq rfl | exact binds_K (by k_in) rfl (by k_is) rfl rfl rfl); (case c5 => decide); (case kB => exact locs rfl); (case c2 => exact rfl); (case c3 => exact rfl); (case c4 => exact rfl); k_whole; intro zzg zzL zzh zzFG zzF zzN zzB zzX zzT; (try dsimp only); (try k_fold))
    | (refine' code_defC ?k1 ?k2 ?k3 ?k4 ?k5 ?kA ?kF ?kK ?k6 ?k7 ?k8 ?k9 ?kB ?kD ?_ ?c2 ?c3 ?c4; (case kA => exact rfl); (case kF => exact rfl); (case kK => first | assumption | exact rfl); (case k1 => k_asm); (case k2 => k_asm); (case k3 => k_asm); (case k4 => k_asm); (case k5 => k_asm); (case k6 => k_is); (case k7 => k_is); (case k8 => ktr_room); (case k9 => first | exact BindsTo.of_eq rfl | exact binds_K (by k_in) rfl (by k_is) rfl rfl rfl); (case kB => exact rfl); (case kD => decide +kernel); (case c2 => exact rfl); (case c3 => exact rfl); (case c4 => exact rfl); k_whole; intro zzg zzL zzh zztk zzcells zzFG zzF zzN zzY zzB zzX zzT zzl1; k_cells zzY; (try simp only [List.cons_append, List.nil_append] at zzN); (try dsimp only); (try k_fold))
    | (refine' kp_more ?k1 ?k2 ?k3 ?k4 ?k5 ?kA ?kF ?kK ?k6 ?k7 ?k8 ?kX ?kM ?kN ?kD ?kR ?kP ?kT ?kB ?_ ?c2 ?c3 ?c4 ?c5; (case kA => exact rfl); (case kF => exact rfl); (case kK => first | assumption | exact rfl); (case k1 => k_asm); (case k2 => k_asm); (case k3 => k_asm); (case k4 => k_asm); (case k5 => k_asm); (case k6 => k_is); (case k7 => k_is); (case k8 => ktr_room); (case kX => kp_lit); (case kM => exact rfl); (case kN => exact rfl); (case kD => kp_flats); (case kR => exact rfl); (case kP => exact rfl); (case kT => exact fun _ => rfl); (case kB => exact fun _ => locs rfl); (case c5 => decide); (case c2 => exact rfl); (case c3 => exact rfl); (case c4 => exact rfl); k_whole; intro zzD zzo zzg zzL zzh zztk zzl1 zzlo zzhs zzfs zzFG zzF zzN zzB zzX zzT; (try dsimp only); (try k_fold)))
  k_with "TPost" => ((first | refine TPost.ret ?_ | refine TPost.brk ?_; (try dsimp only)))
  k_with "own k_all" => (first | assumption | (refine all_lt (by assumption) ?_; (try dsimp only); omega) | (exact fun p hp => Ne.symm (‹∀ p ∈ _, _ ≠ p.1› p hp)))
  k_with "own k_mem" => (first | exact List.Mem.head _ | ktr_member | (refine' mem_tail ?_; k_mem))
  k_with "leaving ref" => ((k_here; first | (refine' leave_onX ?k1 ?k2 ?k3 ?k4 ?_ ?k5; (case k5 => rfl); (case k1 => assumption); (case k3 => assumption); (case k4 => assumption); (case k2 => assumption); k_whole; intro zzh zzR zzU) | (refine' leave_raiseS ?k1 (Heap.MadeExc.of (by assumption)) ?k2 ?k3 ?_; (case k2 => assumption); (case k1 => assumption); (case k3 => k_asm); k_whole; intro zzh zzt zzS zzR zzU; (try dsimp only at zzS zzR zzU ⊢))))
  trivial
set_option maxHeartbeats 8000000 in
theorem seg1 {w : World} {rest : List Stmt} {mean : ExcName → Option Value} {mg mb : Str → Option Value} {dp un : Nat} {gd : Option (List Code)} {L fa : Addr} {cdv : Value} {A₀ : Around} {h₀ : Heap} {m : Str → Option Value} {s : Shared} {Q : Flow → Shared → Prop} {E : Value → Shared → Prop} (S : Std w mean mg mb dp un A₀ h₀) (news : Led) (co : Obj) (cv : Option Value) (x ahd : Int) (tx ta : Tok) (x0 bl : Addr)
    (F : Fr h₀ L s.heap m) (hm : locsOk m [(Str.ofString "x", .int x tx), (Str.ofString "table", .ref x0), (Str.ofString "book", .ref bl), (Str.ofString "ahead", .int ahd ta)]) (N : News h₀ L s.heap ((L + 1, co) :: news)) (hco : co.data = .cell cv) (hne : ∀ p ∈ news, p.1 ≠ L + 1)
    (h : ∀ h' tk' co' m' t1 t2 t3, Fr h₀ L h' m' → locsOk m' [(Str.ofString "x", .int x tx), (Str.ofString "table", .ref x0), (Str.ofString "book", .ref bl), (Str.ofString "ahead", .int ahd ta), (Str.ofString "value", .int (valF x) t1), (Str.ofString "sign", .str (sgn (nameF x)) t2)] → News h₀ L h' ((L + 1, co') :: news) → co'.data = .cell (some (.int (nameF x) t3)) → LGo w dp un gd L fa cdv rest Q E { s with heap := h', toks := tk' }) :
    LGo w dp un gd L fa cdv (lawS 0 :: lawS 1 :: lawS 2 :: lawS 3 :: rest) Q E s := by
  obtain ⟨B, X, T, hd, hu⟩ := S
  replace F := fr_ovr _ F hm
  obtain ⟨K0, hK0⟩ : ∃ K0, K0 = LGo w dp un gd L fa cdv rest Q E := ⟨_, rfl⟩
  rw [← hK0] at h
  simp only [LGo, lawTop, lawEnv, cells_law] at *
  conv in lawS 0 => whnf
  conv in lawS 1 => whnf
  conv in lawS 2 => whnf
  conv in lawS 3 => whnf
  conv in (occs := *) lawScope => all_goals (whnf; zeta)
  k_steps
  refine item_list_intsR (ns := [1, 33, 26, 58, 0, 32, 27, 59, 31, 63]) (News.isList (by k_asm) (.head _)) (by repeat (first | exact .nil | refine .cons _ _ ?_)) (Int.fmod_nonneg_of_pos _ (by decide)) (Int.fmod_lt_of_pos _ (by decide)) (Int.lt_trans (Int.fmod_lt_of_pos _ (show (0 : Int) < 10 by decide)) (by decide)) ?_
  intro t1
  k_steps
  refine item_list_intsR (ns := [45, 50, 9]) (News.isList (by k_asm) (.head _)) (by repeat (first | exact .nil | refine .cons _ _ ?_)) (Int.fmod_nonneg_of_pos _ (by decide)) (Int.fmod_lt_of_pos _ (by decide)) (Int.lt_trans (Int.fmod_lt_of_pos _ (show (0 : Int) < 3 by decide)) (by decide)) ?_
  intro t2
  k_steps
  refine item_list_intsR (ns := [38, 1826, 9, 13, 4080, (x.fdiv 150).fmod 4096]) (News.isList (by k_asm) (.head _)) (by repeat (first | exact .nil | refine .cons _ _ ?_)) (Int.fmod_nonneg_of_pos _ (by decide)) (Int.fmod_lt_of_pos _ (by decide)) (Int.lt_trans (Int.fmod_lt_of_pos _ (show (0 : Int) < 6 by decide)) (by decide)) ?_
  intro t3
  k_steps
  have hn := names_lt _ (nameF_in x)
  refine use_x (sign_c w (nameF x) _ _ hn.1 hn.2) (by k_asm) (by k_asm) (by k_asm) (by k_asm) (by k_asm) (by rfl) (by ktr_room) (by ktr_units) ?_ trivial
  intro t
  dsimp only
  intro h' tk' F' N'
  k_steps
  subst hK0
  refine h _ _ _ _ _ _ _ (by assumption) (by repeat (first | exact List.forall_mem_nil _ | refine List.forall_mem_cons.mpr ⟨rfl, ?_⟩)) (news_sub (by assumption) ?_) (by assumption)
  intro p hp; repeat (first | exact hp | refine List.Mem.tail _ ?_)
end
end Mine
end
section
-- part L2
open PySem PySem.W PySem.Calls PySem.Spec PyProof.Rows PyProof.Rows.LCg
namespace Mine

theorem reg15 : True := by
  w_top off
  k_with_none
  trivial
theorem news_one {h₀ h : Heap} {L a : Addr} {o o' : Obj} {n : Led} (N : News h₀ L h n) (h1 : (a, o) ∈ n) (h2 : (a, o') ∈ n) : o = o' := by
  have e1 := N.get h1
  have e2 := N.get h2
  rw [e1] at e2
  exact Option.some.inj e2

/-- a turn of a comprehension is through: its iterator I, its block's names C and its list D stand beside what J says -/
def CEnd (h₀ : Heap) (L : Addr) (m : Str → Option Value) (s₁ : Shared) (I : Addr) (oI : Obj) (C : Addr) (oC : Obj) (D : Addr) (oD : Obj) (J : Led → Prop) (s₂ : Shared) : Prop :=
  ∃ h' tk n', s₂ = { s₁ with heap := h', toks := tk } ∧ Fr h₀ L h' m ∧ News h₀ L h' ((I, oI) :: (C, oC) :: (D, oD) :: n') ∧ (∀ p ∈ n', p.1 ≠ I ∧ p.1 ≠ C ∧ p.1 ≠ D) ∧ J n'
theorem CEnd.go {h₀ : Heap} {L : Addr} {m : Str → Option Value} {s₁ : Shared} {I : Addr} {oI : Obj} {C : Addr} {oC : Obj} {D : Addr} {oD : Obj} {J : Led → Prop} {h' : Heap} {tk : Nat} {all : Led} (n' : Led)
    (F : Fr h₀ L h' m) (N : News h₀ L h' all) (hs : ∀ p ∈ (I, oI) :: (C, oC) :: (D, oD) :: n', p ∈ all) (ho : ∀ p ∈ n', p.1 ≠ I ∧ p.1 ≠ C ∧ p.1 ≠ D) (hj : J n') : CEnd h₀ L m s₁ I oI C oC D oD J { s₁ with heap := h', toks := tk } :=
  ⟨h', tk, n', rfl, F, fun p hp => N p (hs p hp), ho, hj⟩

section
variable {prog : Program} {w : World} {A : Around} {E : Value → Shared → Prop} {s : Shared} {h₀ : Heap} {L : Addr} {m : Str → Option Value} {env : Env}

/-- what a comprehension with one test asks of a turn, over a list of unknown length -/
def CTurn (prog : Program) (w : World) (A : Around) (h₀ : Heap) (L : Addr) (m : Str → Option Value) (env : Env) (c elt : PySem.Expr) (scope : Scope) (cl : List (Str × Addr)) (s : Shared) (T : Value → Led → (Str → Option Value) → Prop) (Inv : List Value → List Value → Led → Prop) : Prop :=
  ∀ v r ys n₁ I oI C oC D m₂ h tk (E' : Value → Shared → Prop), Inv (v :: r) ys n₁ → T v n₁ m₂ → NsObj oC m₂ → Fr h₀ L h m → News h₀ L h ((I, oI) :: (C, oC) :: (D, lst ys) :: n₁) → (∀ p ∈ n₁, p.1 ≠ I ∧ p.1 ≠ C ∧ p.1 ≠ D) → I ≠ C → I ≠ D → C ≠ D →
    wpAny (model prog w) A (isTrue c (compEnvC scope cl C env) (eval c (compEnvC scope cl C env))) (fun b s₂ => if b = true then
      wpAny (model prog w) A (eval elt (compEnvC scope cl C env)) (fun y s₃ => CEnd h₀ L m { s with heap := h, toks := tk } I oI C oC D (lst ys) (Inv r (ys ++ [y])) s₃) E' s₂
      else CEnd h₀ L m { s with heap := h, toks := tk } I oI C oC D (lst ys) (Inv r ys) s₂) E' { s with heap := h, toks := tk }

/-- how the target takes an item -/
def CAsg (prog : Program) (w : World) (A : Around) (h₀ : Heap) (L : Addr) (target : PySem.Expr) (scope : Scope) (cl : List (Str × Addr)) (env : Env) (T : Value → Led → (Str → Option Value) → Prop) (Inv : List Value → List Value → Led → Prop) : Prop :=
  ∀ v r ys n₁ C m' (s₁ : Shared) (Q : Unit → Shared → Prop) (E : Value → Shared → Prop), Inv (v :: r) ys n₁ → s₁.heap.Ns C m' → News h₀ L s₁.heap n₁ →
    (∀ h₂ tk m₂, T v n₁ m₂ → h₂.Ns C m₂ → (∀ b o, b ≠ C → s₁.heap.get? b = some o → h₂.get? b = some o) → Q () { s₁ with heap := h₂, toks := tk }) →
    wpAny (model prog w) A (assign target (compEnvC scope cl C env) v) Q E s₁

theorem cmp_block {c elt target iter : PySem.Expr} {scope : Scope} {cl : List (Str × Addr)} {pos : Pos} {s₂ : Shared} {I ax : Addr} {ol : Obj} {its : List Value} {kk : Nat} {news : Led} {T : Value → Led → (Str → Option Value) → Prop} {RR : Value → Addr → Result → Shared → Prop} (Inv : List Value → List Value → Led → Prop)
    (hh : A.handled = none) (hne : ax ≠ I) (hI : s₂.heap.IsListIter I ax 0) (hIlt : I < s₂.heap.objs.size) (hsz : its.length ≤ sizeLine)
    (hcell : ∀ y ∈ scope.names, y.2 ≠ .cell) (hkind : scope.kind = .function)
    (F : Fr h₀ L s₂.heap m) (N : News h₀ L s₂.heap news) (hIL : L ≠ I) (hI₀ : h₀.get? I = none) (off : ∀ p ∈ news, p.1 ≠ I)
    (hol : ol.cls = .type "list" ∧ ol.data = .seq its.toArray kk) (h0 : Inv its [] news) (hsrc : ∀ r ys n₁, Inv r ys n₁ → (ax, ol) ∈ n₁)
    (hgo : ∀ i v (s : Shared) (Q : Unit → Shared → Prop) (E : Value → Shared → Prop), s.heap.IsListIter I ax i → Q () s → wpAny (model prog w) A (letOwnedTupleGo target (.ref I) v) Q E s)
    (hasg : CAsg prog w A h₀ L target scope cl env T Inv) (turn : CTurn prog w A h₀ L m env c elt scope cl s₂ T Inv)
    (hRR : ∀ D C h tk m' ys n₁, Fr h₀ L h m → News h₀ L h ((D, lst ys) :: n₁) → (∀ p ∈ n₁, p.1 ≠ D) → h.Ns C m' → h₀.get? C = none → h₀.get? D = none → C ≠ L → D ≠ L → C ≠ D → (∀ p ∈ n₁, p.1 ≠ C) → Inv [] ys n₁ → ys.length ≤ its.length → RR (.ref D) C (.ok .next) { s₂ with heap := h, toks := tk }) :
    wpAny (model prog w) A (newList []) (fun acc s₃ => wpAny (model prog w) A (newFunctionEnv scope env.globals cl [] env.qual none .none (some env)) (fun cenv s₄ =>
      codeAny (model prog w) A (.compStart (.ListComp elt [⟨target, iter, [c], 0⟩] scope pos) 0 (.ref I) acc { cenv with scope := relabel scope env }) (RR acc cenv.locals) s₄) E s₃) E s₂ := by
  refine wpAny_newObj_type (wpAny_newFunctionEnv hcell (by intro y hy; simp at hy) (fun h₁ hns₁ hsb₁ => ?_) hkind)
  dsimp only at hns₁ hsb₁ ⊢
  generalize hH2 : s₂.heap.push { cls := .type "list", dict := none, data := .seq ([] : List Value).toArray } = H2 at hns₁ hsb₁ ⊢
  generalize hD : s₂.heap.objs.size = D at *
  generalize hCe : H2.objs.size = C at *
  have hCD : C = D + 1 := by rw [← hCe, ← hH2, Heap.size_push, hD]
  have old : ∀ b o, s₂.heap.get? b = some o → h₁.get? b = some o := fun b o e => by
    have hb : b < D := hD ▸ Heap.lt_size e
    exact hsb₁.extBut b o (by rw [hCD]; exact Nat.ne_of_lt (Nat.lt_succ_of_lt hb)) (Heap.get?_push_of_some _ (hH2 ▸ Heap.get?_push_of_some _ e))
  have hacc : h₁.get? D = some (lst []) := hsb₁.extBut _ _ (by rw [hCD]; exact Nat.ne_of_lt (Nat.lt_succ_self _)) (Heap.get?_push_of_some _ (hH2 ▸ hD ▸ Heap.get?_push_size _ rfl))
  have fresh : ∀ a, D ≤ a → h₀.get? a = none := fun a ha => by
    cases e : h₀.get? a with
    | none => rfl
    | some o' => exact absurd (hD ▸ Heap.lt_size (F.keep a o' e)) (Nat.not_lt.mpr ha)
  have hLlt : L < D := hD ▸ F.ns.lt
  have nI : I ≠ C ∧ I ≠ D := ⟨by rw [hCD]; exact Nat.ne_of_lt (Nat.lt_succ_of_lt hIlt), Nat.ne_of_lt hIlt⟩
  have nCL : C ≠ L := by rw [hCD]; exact Nat.ne_of_gt (Nat.lt_succ_of_lt hLlt)
  have nDL : D ≠ L := Nat.ne_of_gt hLlt
  have nCD : C ≠ D := by rw [hCD]; exact Nat.succ_ne_self _
  have hC₀ : h₀.get? C = none := fresh C (by rw [hCD]; exact Nat.le_succ _)
  have hD₀ : h₀.get? D = none := fresh D (Nat.le_refl _)
  have off₀ : ∀ p ∈ news, p.1 ≠ I ∧ p.1 ≠ C ∧ p.1 ≠ D := fun p hp => by
    have hb : p.1 < D := hD ▸ Heap.lt_size (N p hp).1
    exact ⟨off p hp, by rw [hCD]; exact Nat.ne_of_lt (Nat.lt_succ_of_lt hb), Nat.ne_of_lt hb⟩
  have W := Walks.list (prog := prog) (w := w) hh I ax hne its.toArray
  -- between the turns
  let Bt : Nat → Shared → Prop := fun k s' => ∃ h' tk i ys m' n₁, s' = { s₂ with heap := h', toks := tk } ∧ i ≤ its.length ∧ k = its.length + 1 - i ∧ ys.length ≤ i ∧ h'.IsListIter I ax i ∧ Fr h₀ L h' m ∧ h'.Ns C m' ∧
    News h₀ L h' ((D, lst ys) :: n₁) ∧ (∀ p ∈ n₁, p.1 ≠ I ∧ p.1 ≠ C ∧ p.1 ≠ D) ∧ Inv (its.drop i) ys n₁
  have loop : ∀ s₃ : Shared, s₃ = { s₂ with heap := h₁, toks := s₂.toks + ([] : List (Str × Value)).length } →
      codeAny (model prog w) A (.compLoop (.ListComp elt [⟨target, iter, [c], 0⟩] scope pos) 0 (.ref I) (.ref D) (compEnvC scope cl C env)) (RR (.ref D) C) s₃ := by
    rintro s₃ rfl
    refine kct_loop Bt ?_ (its.length + 1) ⟨h₁, _, 0, [], _, news, rfl, Nat.zero_le _, rfl, Nat.le_refl _, ?_, F.keeps old, hns₁, ?_, off₀, by rw [List.drop_zero]; exact h0⟩
    · rintro k s' ⟨h', tk, i, ys, m', n₁, rfl, hi, rfl, hyl, hit, F', hn', N', off', hinv⟩
      have hsr := hsrc _ _ _ hinv
      have hls : ∀ {h : Heap}, h.get? ax = some ol → h.IsList ax its.toArray := fun e => ⟨ol, e, hol.1, kk, hol.2⟩
      have hl' : h'.IsList ax its.toArray := hls (N'.get (.tail _ hsr))
      by_cases hlt : i < its.length
      · refine W.item i _ _ _ (by simpa using hlt) ⟨hit, hl'⟩ fun v h₂ tk₂ hPv hst₂ hk₂ => ?_
        have hv : its[i]? = some v := by simpa using hPv
        have hdrop : its.drop i = v :: its.drop (i + 1) := by
          rw [List.drop_eq_getElem_cons hlt]
          congr 1
          exact Option.some.inj ((List.getElem?_eq_getElem hlt).symm.trans hv)
        rw [hdrop] at hinv
        have up₂ : ∀ b o, b ≠ I → h'.get? b = some o → h₂.get? b = some o := fun b o hb e => hk₂ b o (by simpa using hb) e
        have N₂ : News h₀ L h₂ ((D, lst ys) :: n₁) := fun p hp => ⟨up₂ _ _ (by
          rcases List.mem_cons.mp hp with rfl | hp
          · exact Ne.symm nI.2
          · exact (off' p hp).1) (N' p hp).1, (N' p hp).2⟩
        refine hgo (i + 1) v _ _ _ hst₂.1 ?_
        refine hasg v _ ys n₁ C _ _ _ _ hinv (hn'.at' fun o e => up₂ _ o (Ne.symm nI.1) e) (fun p hp => N₂ p (.tail _ hp)) fun h₃ tk₃ m₃ hT hn₃ up₃ => ?_
        have up : ∀ b o, b ≠ I → b ≠ C → h'.get? b = some o → h₃.get? b = some o := fun b o b1 b2 e => up₃ b o b2 (up₂ b o b1 e)
        obtain ⟨oI, heI, hcI, hdI⟩ := hst₂.1
        have heI₃ : h₃.get? I = some oI := up₃ I oI nI.1 heI
        obtain ⟨oC, heC, hoC⟩ := ns_obj hn₃
        have F₃ : Fr h₀ L h₃ m := ⟨F'.ns.at' fun o e => up _ o hIL (Ne.symm nCL) e, fun b o e => up b o (fun q => by rw [q, hI₀] at e; cases e) (fun q => by rw [q, hC₀] at e; cases e) (F'.keep b o e), F'.above⟩
        have N₃ : News h₀ L h₃ ((I, oI) :: (C, oC) :: (D, lst ys) :: n₁) := fun p hp => by
          rcases List.mem_cons.mp hp with rfl | hp
          · exact ⟨heI₃, Ne.symm hIL, hI₀⟩
          · rcases List.mem_cons.mp hp with rfl | hp
            · exact ⟨heC, nCL, hC₀⟩
            · refine ⟨up₃ _ _ ?_ (N₂ p hp).1, (N₂ p hp).2⟩
              rcases List.mem_cons.mp hp with rfl | hp
              · exact Ne.symm nCD
              · exact (off' p hp).2.1
        -- what a turn's end comes to
        have fin : ∀ ys' h₅ tk₅ n₅, ys'.length ≤ i + 1 → h₅.get? I = some oI → h₅.get? C = some oC → Fr h₀ L h₅ m → News h₀ L h₅ ((D, lst ys') :: n₅) → (∀ p ∈ n₅, p.1 ≠ I ∧ p.1 ≠ C ∧ p.1 ≠ D) → Inv (its.drop (i + 1)) ys' n₅ →
            ∃ q, q < its.length + 1 - i ∧ Bt q { s₂ with heap := h₅, toks := tk₅ } := fun ys' h₅ tk₅ n₅ hl eI eC F₅ N₅ o₅ i₅ =>
          ⟨its.length + 1 - (i + 1), by omega, h₅, tk₅, i + 1, ys', _, n₅, rfl, hlt, rfl, hl, ⟨oI, eI, hcI, hdI⟩, F₅, hoC.ns eC, N₅, o₅, i₅⟩
        refine wpAny_mono (turn v _ ys n₁ I oI C oC D m₃ h₃ _ _ hinv hT hoC F₃ N₃ off' nI.1 nI.2 nCD) (fun b s₅ h₅ => ?_) fun _ _ e => e
        cases b with
        | false =>
          simp only [Bool.false_eq_true, if_false] at h₅ ⊢
          obtain ⟨h₅, tk₅, n₅, rfl, F₅, N₅, o₅, i₅⟩ := h₅
          exact fin ys h₅ tk₅ n₅ (Nat.le_succ_of_le hyl) (N₅.get (.head _)) (N₅.get (.tail _ (.head _))) F₅ (fun p hp => N₅ p (.tail _ (.tail _ hp))) o₅ i₅
        | true =>
          simp only [if_true] at h₅ ⊢
          refine wpAny_mono h₅ (fun y s₆ h₆ => ?_) fun _ _ e => e
          obtain ⟨h₆, tk₆, n₆, rfl, F₆, N₆, o₆, i₆⟩ := h₆
          refine append_at (hsz := by show ys.toArray.size ≤ sizeLine; rw [List.size_toArray]; omega) (N₆.get (.tail _ (.tail _ (.head _)))) fun h₇ hs₇ hD₇ => ?_
          have keep₇ : ∀ b o, b ≠ D → h₆.get? b = some o → h₇.get? b = some o := fun b o hb e => hs₇.extBut b o hb e
          refine fin (ys ++ [y]) h₇ tk₆ n₆ (by rw [List.length_append, List.length_singleton]; omega) (keep₇ I _ nI.2 (N₆.get (.head _))) (keep₇ C _ nCD (N₆.get (.tail _ (.head _)))) (F₆.change hs₇ nDL hD₀) (fun p hp => ?_) o₆ i₆
          rcases List.mem_cons.mp hp with rfl | hp
          · exact ⟨hD₇.trans (congrArg some (lst_snoc ys y)), nDL, hD₀⟩
          · exact ⟨keep₇ _ _ (o₆ p hp).2.2 (N₆ p (.tail _ (.tail _ (.tail _ hp)))).1, (N₆ p (.tail _ (.tail _ (.tail _ hp)))).2⟩
      · have e : i = its.length := Nat.le_antisymm hi (Nat.not_lt.mp hlt)
        subst e
        rw [List.drop_length] at hinv
        refine W.done _ _ _ (show h'.IsListIter I ax its.toArray.size ∧ h'.IsList ax its.toArray from ⟨by simpa using hit, hl'⟩) fun h₂ tk₂ hk₂ => ?_
        have up₂ : ∀ b o, b ≠ I → h'.get? b = some o → h₂.get? b = some o := fun b o hb e => hk₂ b o (by simpa using hb) e
        refine hRR D C h₂ tk₂ m' ys n₁ ⟨F'.ns.at' fun o e => up₂ _ o hIL e, fun b o e => up₂ b o (fun q => by rw [q, hI₀] at e; cases e) (F'.keep b o e), F'.above⟩ (fun p hp => ⟨up₂ _ _ ?_ (N' p hp).1, (N' p hp).2⟩) (fun p hp => (off' p hp).2.2) (hn'.at' fun o e => up₂ _ o (Ne.symm nI.1) e) hC₀ hD₀ nCL nDL nCD (fun p hp => (off' p hp).2.1) hinv hyl
        rcases List.mem_cons.mp hp with rfl | hp
        · exact Ne.symm nI.2
        · exact (off' p hp).1
    · obtain ⟨oI, heI, r⟩ := hI
      exact ⟨oI, old _ _ heI, r⟩
    · intro p hp
      rcases List.mem_cons.mp hp with rfl | hp
      · exact ⟨hacc, nDL, hD₀⟩
      · exact ⟨old _ _ (N p hp).1, (N p hp).2⟩
  have hs := loop _ rfl
  obtain ⟨oI, heI, r⟩ := hI
  exact codeAny_compStart_list hs (wpAny_pyIter_listiter (it := I) (l := ax) (i := 0) ⟨oI, old _ _ heI, r⟩ hs)
end
end Mine
end
section
-- part L3
open PySem PySem.W PySem.Calls PySem.Spec PyProof.Rows PyProof.Rows.LCg
namespace Mine
section
variable {prog : Program} {w : World} {A : Around} {E : Value → Shared → Prop} {s : Shared} {h₀ : Heap} {L : Addr} {m : Str → Option Value} {env : Env}

theorem reg16 : True := by
  w_top off
  k_with_none
  trivial
/-- the source of a comprehension: a list of the ledger, and what its turns and its end are shown by -/
def CSrc (prog : Program) (w : World) (A : Around) (h₀ : Heap) (L : Addr) (m : Str → Option Value) (env : Env) (c elt target : PySem.Expr) (scope : Scope) (cl : List (Str × Addr)) (Fin : Shared → List Value → Led → Prop) (xv : Value) (s₁ : Shared) : Prop :=
  ∃ (ax : Addr) (ol : Obj) (its : List Value) (kk : Nat) (news : Led) (T : Value → Led → (Str → Option Value) → Prop) (Inv : List Value → List Value → Led → Prop), xv = .ref ax ∧ A.handled = none ∧ Fr h₀ L s₁.heap m ∧ News h₀ L s₁.heap news ∧
    (ol.cls = .type "list" ∧ ol.data = .seq its.toArray kk) ∧ its.length ≤ sizeLine ∧ Inv its [] news ∧ (∀ r ys n₁, Inv r ys n₁ → (ax, ol) ∈ n₁) ∧ CAsg prog w A h₀ L target scope cl env T Inv ∧
    ∀ g, CTurn prog w A h₀ L m env c elt scope cl { s₁ with heap := g } T Inv ∧ ∀ ys n₁, Inv [] ys n₁ → ys.length ≤ its.length → Fin { s₁ with heap := g } ys n₁
theorem CSrc.mk {c elt target : PySem.Expr} {scope : Scope} {cl : List (Str × Addr)} {Fin : Shared → List Value → Led → Prop} {s₁ : Shared} {ax : Addr} {its : List Value} {kk : Nat} {news : Led} (T : Value → Led → (Str → Option Value) → Prop) (Inv : List Value → List Value → Led → Prop)
    (hh : A.handled = none) (F : Fr h₀ L s₁.heap m) (N : News h₀ L s₁.heap news) (hsz : its.length ≤ sizeLine) (h0 : Inv its [] news) (hsrc : ∀ r ys n₁, Inv r ys n₁ → (ax, W.listOf its.toArray kk) ∈ n₁) (asg : CAsg prog w A h₀ L target scope cl env T Inv)
    (turn : ∀ g, CTurn prog w A h₀ L m env c elt scope cl { s₁ with heap := g } T Inv) (fin : ∀ g ys n₁, Inv [] ys n₁ → ys.length ≤ its.length → Fin { s₁ with heap := g } ys n₁) : CSrc prog w A h₀ L m env c elt target scope cl Fin (.ref ax) s₁ :=
  ⟨ax, _, its, kk, news, T, Inv, rfl, hh, F, N, ⟨rfl, rfl⟩, hsz, h0, hsrc, asg, fun g => ⟨turn g, fin g⟩⟩

theorem CSrc.mk' {c elt target : PySem.Expr} {scope : Scope} {cl : List (Str × Addr)} {Fin : Shared → List Value → Led → Prop} {s₁ : Shared} {ax : Addr} {its : List Value} {kk : Nat} {news : Led} (T : Value → Led → (Str → Option Value) → Prop) (Inv : Led → List Value → List Value → Led → Prop)
    (hh : A.handled = none) (F : Fr h₀ L s₁.heap m) (N : News h₀ L s₁.heap news) (hsz : its.length ≤ sizeLine) (h0 : Inv news its [] news) (hsrc : ∀ r ys n₁, Inv news r ys n₁ → (ax, W.listOf its.toArray kk) ∈ n₁) (asg : CAsg prog w A h₀ L target scope cl env T (Inv news))
    (turn : ∀ g, CTurn prog w A h₀ L m env c elt scope cl { s₁ with heap := g } T (Inv news)) (fin : ∀ g ys n₁, Inv news [] ys n₁ → ys.length ≤ its.length → Fin { s₁ with heap := g } ys n₁) : CSrc prog w A h₀ L m env c elt target scope cl Fin (.ref ax) s₁ :=
  CSrc.mk T (Inv news) hh F N hsz h0 hsrc asg turn fin

def CFinE (h₀ : Heap) (L : Addr) (m : Str → Option Value) (Q : Value → Shared → Prop) (s : Shared) (ys : List Value) (n₁ : Led) : Prop :=
  ∀ D h tk, Fr h₀ L h m → News h₀ L h ((D, lst ys) :: n₁) → (∀ p ∈ n₁, p.1 ≠ D) → Q (.ref D) { s with heap := h, toks := tk }
def CFinA (h₀ : Heap) (L : Addr) (m : Str → Option Value) (y : Str) (Q : Flow → Shared → Prop) (s : Shared) (ys : List Value) (n₁ : Led) : Prop :=
  ∀ D h tk, Fr h₀ L h (fun z => if z = y then some (.ref D) else m z) → News h₀ L h ((D, lst ys) :: n₁) → (∀ p ∈ n₁, p.1 ≠ D) → Q .next { s with heap := h, toks := tk }

theorem cmp_eval {c elt target iter : PySem.Expr} {scope : Scope} {cl : List (Str × Addr)} {pos : Pos} {Q : Value → Shared → Prop} (_F₀ : Fr h₀ L s.heap m)
    (hclos : closureFor scope env = pure cl) (hcell : ∀ y ∈ scope.names, y.2 ≠ .cell) (hkind : scope.kind = .function)
    (hnames : ∀ y ∈ scope.names, y.2 = .local → scope.names.lookup y.1 = some .local)
    (h : wpAny (model prog w) A (eval iter env) (CSrc prog w A h₀ L m env c elt target scope cl (CFinE h₀ L m Q)) E s)
    (hs : ∀ x, foldedSetIterable iter env x = pure x := by intro _; rfl) :
    wpAny (model prog w) A (eval (.ListComp elt [⟨target, iter, [c], 0⟩] scope pos) env) Q E s := by
  rw [eval_ListComp]
  refine wpAny_comprehension_free (use := none) rfl hs hclos hkind hnames (wpAny_mono h (fun xv s₁ h₁ => ?_) fun _ _ e => e)
  obtain ⟨ax, ol, its, kk, news, T, Inv, rfl, hh, F, N, hol, hsz, h0, hsrc, asg, R⟩ := h₁
  have hm := hsrc _ _ _ h0
  have hl : s₁.heap.IsList ax its.toArray := ⟨ol, N.get hm, hol.1, kk, hol.2⟩
  have hlt : ax < s₁.heap.objs.size := Heap.lt_size (N.get hm)
  refine wpAny_pyIter_list hl ?_
  have up : ∀ b o, s₁.heap.get? b = some o → (s₁.heap.push { cls := .type "list_iterator", data := .fields #[.ref ax, .int 0 0] }).get? b = some o := fun b o e => Heap.get?_push_of_some _ e
  obtain ⟨turn, fin⟩ := R (s₁.heap.push { cls := .type "list_iterator", data := .fields #[.ref ax, .int 0 0] })
  refine cmp_block (I := s₁.heap.objs.size) (ax := ax) Inv hh (Nat.ne_of_lt hlt) ⟨_, Heap.get?_push_size _ rfl, rfl, rfl⟩ (by show _ < (s₁.heap.push _).objs.size; rw [Heap.size_push]; exact Nat.lt_succ_self _) hsz hcell hkind (F.keeps up) (N.grown up) (Nat.ne_of_lt F.ns.lt) (next_is_new F)
    (fun p hp => Nat.ne_of_lt (Heap.lt_size (N p hp).1)) hol h0 hsrc (fun i v s Q E st q => letGo_listiter st q) asg turn ?_
  intro D C h tk m' ys n₁ F' N' o1 hn hC₀ hD₀ hCL hDL hCD offC hi hle
  refine ⟨m', hn, fun h'' hs'' => fin ys n₁ hi hle D h'' tk (F'.change hs'' hCL hC₀) (fun p hp => ⟨hs''.extBut _ _ ?_ (N' p hp).1, (N' p hp).2⟩) o1⟩
  rcases List.mem_cons.mp hp with rfl | hp
  · exact Ne.symm hCD
  · exact offC p hp

theorem cmp_asgn {c elt target iter : PySem.Expr} {y : Str} {py : Pos} {scope : Scope} {cl : List (Str × Addr)} {pos spos : Pos} {Q : Flow → Shared → Prop} (_F₀ : Fr h₀ L s.heap m) (hLe : env.locals = L)
    (hsw : swapsWith (.ListComp elt [⟨target, iter, [c], 0⟩] scope pos) (some (.Name y py)) spos.line env = pure true)
    (hclos : closureFor scope env = pure cl) (hcell : ∀ z ∈ scope.names, z.2 ≠ .cell) (hkind : scope.kind = .function)
    (hnames : ∀ z ∈ scope.names, z.2 = .local → scope.names.lookup z.1 = some .local)
    (hy : env.kindOf y = some .local) (hp : (env.scope.kind == .class || (env.scope.kind == .module && env.locals != env.globals)) = false)
    (h : wpAny (model prog w) A (eval iter env) (CSrc prog w A h₀ L m env c elt target scope cl (CFinA h₀ L m y Q)) E s)
    (hs : ∀ x, foldedSetIterable iter env x = pure x := by intro _; rfl) :
    wpAny (model prog w) A (exec (.Assign [.Name y py] (.ListComp elt [⟨target, iter, [c], 0⟩] scope pos) spos) env) Q E s := by
  subst hLe
  rw [exec_Assign_Name_used _ _ _ _ hsw]
  refine wpAny_bind (wpAny_standAt (wpAny_bind ?_))
  show wpAny _ A (do let _ ← comprehension (.ListComp elt [⟨target, iter, [c], 0⟩] scope pos) scope env _ (newList []) false (eval iter env) (some (assign (.Name y py) env))) _ _ s
  refine wpAny_bind (wpAny_mono (wpAny_comprehension_free (use := some (assign (.Name y py) env)) (Q := fun _ s' => Q .next s') rfl hs hclos hkind hnames
    (wpAny_mono h (fun xv s₁ h₁ => ?_) fun _ _ e => e)) (fun _ s' hq => wpAny_pure (wpAny_pure hq)) fun _ _ e => e)
  obtain ⟨ax, ol, its, kk, news, T, Inv, rfl, hh, F, N, hol, hsz, h0, hsrc, asg, R⟩ := h₁
  have hm := hsrc _ _ _ h0
  have hl : s₁.heap.IsList ax its.toArray := ⟨ol, N.get hm, hol.1, kk, hol.2⟩
  have hlt : ax < s₁.heap.objs.size := Heap.lt_size (N.get hm)
  refine wpAny_pyIter_list hl ?_
  have up : ∀ b o, s₁.heap.get? b = some o → (s₁.heap.push { cls := .type "list_iterator", data := .fields #[.ref ax, .int 0 0] }).get? b = some o := fun b o e => Heap.get?_push_of_some _ e
  obtain ⟨turn, fin⟩ := R (s₁.heap.push { cls := .type "list_iterator", data := .fields #[.ref ax, .int 0 0] })
  refine cmp_block (I := s₁.heap.objs.size) (ax := ax) Inv hh (Nat.ne_of_lt hlt) ⟨_, Heap.get?_push_size _ rfl, rfl, rfl⟩ (by show _ < (s₁.heap.push _).objs.size; rw [Heap.size_push]; exact Nat.lt_succ_self _) hsz hcell hkind (F.keeps up) (N.grown up) (Nat.ne_of_lt F.ns.lt) (next_is_new F)
    (fun p hp => Nat.ne_of_lt (Heap.lt_size (N p hp).1)) hol h0 hsrc (fun i v s Q E st q => letGo_listiter st q) asg turn ?_
  intro D C h' tk m' ys n₁ F' N' o1 hn hC₀ hD₀ hCL hDL hCD offC hi hle
  show wpAny _ A (assign (.Name y py) env (.ref D)) _ _ _
  refine wpAny_assign_Name (wpAny_storeName_local hy F'.ns (fun h₂ hn₂ hs₂ => ?_) hp)
  have hL₀ : h₀.get? env.locals = none := Heap.get?_none_of_le F'.above
  have F₂ : Fr h₀ env.locals h₂ (fun z => if z = y then some (.ref D) else m z) := ⟨hn₂, fun b o e => hs₂.extBut b o (fun q => by rw [q, hL₀] at e; cases e) (F'.keep b o e), F'.above⟩
  refine ⟨m', hn.sameBut hs₂ hCL, fun h'' hs'' => fin ys n₁ hi hle D h'' _ (F₂.change hs'' hCL hC₀) (fun p hp => ?_) o1⟩
  have z : h₂.get? p.1 = some p.2 := hs₂.extBut _ _ (N' p hp).2.1 (N' p hp).1
  refine ⟨hs''.extBut _ _ ?_ z, (N' p hp).2⟩
  rcases List.mem_cons.mp hp with rfl | hp
  · exact Ne.symm hCD
  · exact offC p hp

/-- one name for an item -/
theorem asg_name {x : Str} {px : Pos} {scope : Scope} {cl : List (Str × Addr)} {Inv : List Value → List Value → Led → Prop} (hx : scope.names.lookup x = some .local) (hkind : scope.kind = .function) :
    CAsg prog w A h₀ L (.Name x px) scope cl env (fun v _ m₂ => m₂ x = some v) Inv := by
  intro v r ys n₁ C m' s₁ Q E _ hn _ h
  refine wpAny_assign_Name (wpAny_storeName_local (lookup_relabel_local hx) (by exact hn) (fun h₂ hn₂ hs₂ => h h₂ _ _ (by simp) hn₂ fun b o hb e => hs₂.extBut b o hb e) (by simp [compEnvC, relabel, hkind]))
abbrev tup2 (v₁ v₂ : Value) (k : Nat) : Obj := { cls := .type "tuple", data := .seq #[v₁, v₂] k }
/-- two names for a pair -/
theorem asg_pair {a b : Str} {pa pb tp : Pos} {tk : Nat} {scope : Scope} {cl : List (Str × Addr)} {Inv : List Value → List Value → Led → Prop} (hh : A.handled = none) (ha : scope.names.lookup a = some .local) (hb : scope.names.lookup b = some .local) (hab : ¬ a = b) (hkind : scope.kind = .function)
    (hp : ∀ v r ys n₁, Inv (v :: r) ys n₁ → ∃ t v₁ v₂ k, v = .ref t ∧ (t, tup2 v₁ v₂ k) ∈ n₁) :
    CAsg prog w A h₀ L (.Tuple [.Name a pa, .Name b pb] tk tp) scope cl env (fun v n₁ m₂ => ∀ t v₁ v₂ k, v = .ref t → (t, tup2 v₁ v₂ k) ∈ n₁ → m₂ a = some v₁ ∧ m₂ b = some v₂) Inv := by
  intro v r ys n₁ C m' s₁ Q E hi hn N h
  obtain ⟨t, v₁, v₂, k, rfl, hm⟩ := hp v r ys n₁ hi
  refine kcp_assign (env := compEnvC scope cl C env) hh ⟨_, N.get hm, rfl, k, rfl⟩ (lookup_relabel_local ha) (lookup_relabel_local hb) (by simp [compEnvC, relabel, hkind]) hn fun h₂ tk₂ hn₂ up => h h₂ tk₂ _ ?_ hn₂ up
  intro t' w₁ w₂ k' e hm'
  cases e
  have e := news_one N hm hm'
  have e2 : #[v₁, v₂] = #[w₁, w₂] := by
    have := congrArg Obj.data e
    simp only [Data.seq.injEq] at this
    exact this.1
  simp only [Array.mk.injEq, List.cons.injEq, and_true] at e2
  obtain ⟨rfl, rfl⟩ := e2
  simp [hab]
end
end Mine
end
section
-- part G1
open PySem PySem.W PySem.Calls PySem.Spec PyProof.Rows
namespace Mine
theorem reg17 : True := by
  w_top off
  k_with_none
  trivial
abbrev hdict (w : World) (tk : Tok) (hl : Addr) : Obj := dictOf [⟨PyData.keyHash w.params (Str.ofString "_headers"), .str (Str.ofString "_headers") tk, .ref hl⟩] 1
abbrev hdD (p : Str × Str) : Dat := .tuple [.str p.1, .str p.2]
theorem hd_inv {news : Led} {v : Value} {k x : Str} (h : DatIn news v (.tuple [.str k, .str x])) : ∃ a t t' n, v = .ref a ∧ (a, ({ cls := .type "tuple", data := .seq #[.str k t, .str x t'] n } : Obj)) ∈ news := by
  cases h with
  | tuple hm r =>
    cases r with
    | cons h1 r =>
      cases h1
      cases r with
      | cons h2 r =>
        cases h2; cases r
        exact ⟨_, _, _, _, rfl, hm⟩
/-- the table's list, of keys that are short -/
def Short (hs : List (Str × Str)) : Prop := ∀ p ∈ hs, p.1.length ≤ 2
section
theorem reg18 : True := by
  w_top off
  k_with_none
  k_with "own k_steps" => (repeat' (first
    | (k_unfold; (try dsimp only))
    | (dsimp only; k_unfold; (try dsimp only))
    | ((fail_if_success (with_reducible show PySem.wpAny _ _ (PySem.exec (PySem.Stmt.While _ _ _ _) _) _ _ _)); (fail_if_success (with_reducible show PySem.wpAny _ _ (PySem.exec (PySem.Stmt.For _ _ _ _ _) _) _ _ _)); (fail_if_success (with_reducible show PySem.wpAny _ _ (PySem.pyIter _) _ _ _)); (fail_if_success (with_reducible show PySem.W.UnrPostW _ _ _ _ _ _ _ _)); (first | walk1 | (dsimp only; walk1)))))
  k_with "own ktr_enter" => (first
    | (refine' code_def ?k1 ?k2 ?k3 ?k4 ?k5 ?kA ?kF ?kK ?k6 ?k7 ?k8 ?k9 ?kB ?_ ?c2 ?c3 ?c4 ?c5; (case kA => exact rfl); (case kF => exact rfl); (case kK => assumption); (case k1 => k_asm); (case k2 => k_asm); (case k3 => k_asm); (case k4 => k_asm); (case k5 => k_asm); (case k6 => k_is); (case k7 => k_is); (case k8 => ktr_room); (case k9 => first | exact BindsTo.of_eq rfl | exact binds_K (by k_in) rfl (by k_is) rfl rfl rfl); (case c5 => decide); (case kB => exact locs rfl); (case c2 => exact rfl); (case c3 => exact rfl); (case c4 => exact rfl); k_whole; intro zzg zzL zzh zzFG zzF zzN zzB zzX zzT; (try dsimp only); (try k_fold))
    | (refine' code_defC ?k1 ?k2 ?k3 ?k4 ?k5 ?kA ?kF ?kK ?k6 ?k7 ?k8 ?k9 ?kB ?kD ?_ ?c2 ?c3 ?c4; (case kA => exact rfl); (case kF => exact rfl); (case kK => assumption); (case k1 => k_asm); (case k2 => k_asm); (case k3 => k_asm); (case k4 => k_asm); (case k5 => k_asm); (case k6 => k_is); (case k7 => k_is); (case k8 => ktr_room); (case k9 => first | exact BindsTo.of_eq rfl | exact binds_K (by k_in) rfl (by k_is) rfl rfl rfl); (case kB => exact rfl); (case kD => decide +kernel); (case c2 => exact rfl); (case c3 => exact rfl); (case c4 => exact rfl); k_whole; intro zzg zzL zzh zztk zzcells zzFG zzF zzN zzY zzB zzX zzT zzl1; k_cells zzY; (try simp only [List.cons_append, List.nil_append] at zzN); (try dsimp only); (try k_fold)))
  k_with "call ref" => (((with_reducible show PySem.wpAny _ _ (PySem.call (PySem.Value.ref 76) _ _) _ _ _); k_dflt (refine' use_x (convN_c _ _ _ _ _ ?kx) ?k1 ?k2 ?k3 ?k4 ?k5 ?kK ?kd ?ku ?_ ?_; (case kx => assumption); (case k1 => k_asm); (case k2 => k_asm); (case k3 => k_asm); (case k4 => k_asm); (case k5 => k_asm); (case kK => first | exact rfl | assumption); (case kd => ktr_room); (case ku => ktr_units)); (intros; (try dsimp only); (try k_fold))))
  k_with "leaving ref" => ((k_here; first | (refine' leave_onX ?k1 ?k2 ?k3 ?k4 ?_ ?k5; (case k5 => rfl); (case k1 => assumption); (case k3 => assumption); (case k4 => assumption); (case k2 => assumption); k_whole; intro zzh zzR zzU) | (refine' leave_raiseS ?k1 (Heap.MadeExc.of (by assumption)) ?k2 ?k3 ?_; (case k2 => assumption); (case k1 => assumption); (case k3 => k_asm); k_whole; intro zzh zzt zzS zzR zzU; (try dsimp only at zzS zzR zzU ⊢))))
  k_with "TPost" => ((first | refine TPost.ret ?_ | refine TPost.brk ?_; (try dsimp only)))
  k_with "call builtin:str.lower" => ((refine SCL.lower (by omega) ?_; intro _))
  trivial
set_option maxHeartbeats 8000000 in
theorem get_c (w : World) (news : Led) (x : Str) (t : Tok) (self dx hl : Addr) (tk : Tok) (hv : List Value) (hs : List (Str × Str)) (k : Nat) (hx : Asc (Txt.lower x)) (hlx : x.length ≤ 2) (h1 : (self, instObj 175 dx) ∈ news) (h2 : (dx, hdict w tk hl) ∈ news) (h3 : (hl, listOf hv.toArray k) ∈ news) (hD : DatAll news hv (hs.map hdD)) (hsh : Short hs) :
    ConX w 4 122 [.ref self, .str x t] [] news (fun k => (Txt.lower x).cps.any badN = false → (∀ q ∈ hs, hs.find? (fun q => Txt.lower q.1 == Txt.lower x) = some q → ∀ t, k (.str q.2 t) news) ∧ (hs.find? (fun q => Txt.lower q.1 == Txt.lower x) = none → k .none news)) (fun k => (Txt.lower x).cps.any badN = true → k news) := by
  intro mean mg mb dp un gd cn cs a ccd cl outer A₀ base h₀ L mm s Q E B F X N T hk hd hu hret hexc
  refine wpAny_call ?_; ktr_enter
  k_steps
  · rename Fr _ _ _ _ => lF
    rename News _ _ _ _ => lN
    refine For_turns lF ?_
    k_steps
    refine iter_listTurns rfl (by k_asm) (by k_asm) h3 rfl rfl (fun I hI => ?_)
    refine items_list (Inv := fun vs m₁ n₁ => n₁ = news ∧ (∃ t', ∀ p ∈ [(Str.ofString "name", Value.str (Txt.lower x) t'), (Str.ofString "default", Value.none)], m₁ p.1 = some p.2) ∧
      ∃ ps : List (Str × Str), DatAll news vs (ps.map hdD) ∧ hs.find? (fun q => Txt.lower q.1 == Txt.lower x) = ps.find? (fun q => Txt.lower q.1 == Txt.lower x) ∧ ∀ p ∈ ps, p ∈ hs) ?_ ?_ _ _ _ ⟨rfl, ⟨_, List.forall_mem_cons.mpr ⟨rfl, List.forall_mem_cons.mpr ⟨rfl, List.forall_mem_nil _⟩⟩⟩, hs, hD, rfl, fun _ h => h⟩
    · rintro m₁ n₁ h tk ⟨rfl, ⟨t', hm⟩, ps, hd', hf, _⟩ lF lN
      cases ps with
      | cons => cases hd'
      | nil =>
        replace lF := fr_ovr _ lF hm
        k_steps
        exact (hret (by assumption)).2 hf _ _ (by assumption) (by assumption)
    · rintro v r m₁ n₁ o h tk ⟨rfl, ⟨t', hm⟩, ps, hd', hf, hsub⟩ ho lF lN
      cases ps with
      | nil => cases hd'
      | cons p ps =>
        cases hd' with
        | cons hd1 hd2 =>
          obtain ⟨a, t1, t2, n1, rfl, hm1⟩ := hd_inv hd1
          replace lF := fr_ovr _ lF hm
          have hp := hsub p (.head _)
          have hT := News.isTup lN (.tail _ hm1)
          have hlp := hsh p hp
          k_steps
          · rename (Txt.lower p.1 == Txt.lower x) = true => e
            rename News h₀ L _ _ => kN
            exact ((hret (by assumption)).1 p hp (by rw [hf, List.find?_cons]; simp only [e]) _) _ _ (by assumption) fun p hp => kN p (.tail _ hp)
          · rename (Txt.lower p.1 == Txt.lower x) = false => e
            refine TPost.go n₁ (by assumption) (by assumption) (.head _) (fun p hp => .tail _ hp) (fun p hp => Nat.ne_of_lt (hI p hp)) ⟨h3, trivial⟩ ⟨rfl, ⟨t', List.forall_mem_cons.mpr ⟨rfl, List.forall_mem_cons.mpr ⟨rfl, List.forall_mem_nil _⟩⟩⟩, ps, hd2, ?_, fun q hq => hsub q (.tail _ hq)⟩
            rw [hf, List.find?_cons]; simp only [e]
  · exact hexc (by assumption) _ _ _ _ _ _ (by assumption) (by assumption) (by assumption)
end
end Mine
end
section
-- part G2
open PySem PySem.W PySem.Calls PySem.Spec PyProof.Rows PyProof.Rows.LCg
namespace Mine
section
theorem reg19 : True := by
  w_top off
  k_with_none
  k_with "own k_steps" => (repeat' (first
    | (k_unfold; (try dsimp only))
    | (dsimp only; k_unfold; (try dsimp only))
    | ((fail_if_success (with_reducible show PySem.wpAny _ _ (PySem.exec (PySem.Stmt.While _ _ _ _) _) _ _ _)); (fail_if_success (with_reducible show PySem.wpAny _ _ (PySem.exec (PySem.Stmt.For _ _ _ _ _) _) _ _ _)); (fail_if_success (with_reducible show PySem.wpAny _ _ (PySem.eval (PySem.Expr.ListComp _ _ _ _) _) _ _ _)); (fail_if_success (with_reducible show PySem.wpAny _ _ (PySem.exec (PySem.Stmt.Assign [PySem.Expr.Name _ _] (PySem.Expr.ListComp _ _ _ _) _) _) _ _ _)); (fail_if_success (with_reducible show PySem.wpAny _ _ (PySem.pyIter _) _ _ _)); (fail_if_success (with_reducible show PySem.W.UnrPostW _ _ _ _ _ _ _ _)); (first | walk1 | (dsimp only; walk1)))))
  k_with "own ktr_enter" => (first
    | (refine' code_def ?k1 ?k2 ?k3 ?k4 ?k5 ?kA ?kF ?kK ?k6 ?k7 ?k8 ?k9 ?kB ?_ ?c2 ?c3 ?c4 ?c5; (case kA => exact rfl); (case kF => exact rfl); (case kK => assumption); (case k1 => k_asm); (case k2 => k_asm); (case k3 => k_asm); (case k4 => k_asm); (case k5 => k_asm); (case k6 => k_is); (case k7 => k_is); (case k8 => ktr_room); (case k9 => first | exact BindsTo.of_eq rfl | exact binds_K (by k_in) rfl (by k_is) rfl rfl rfl); (case c5 => decide); (case kB => exact locs rfl); (case c2 => exact rfl); (case c3 => exact rfl); (case c4 => exact rfl); k_whole; intro zzg zzL zzh zzFG zzF zzN zzB zzX zzT; (try dsimp only); (try k_fold))
    | (refine' code_defC ?k1 ?k2 ?k3 ?k4 ?k5 ?kA ?kF ?kK ?k6 ?k7 ?k8 ?k9 ?kB ?kD ?_ ?c2 ?c3 ?c4; (case kA => exact rfl); (case kF => exact rfl); (case kK => assumption); (case k1 => k_asm); (case k2 => k_asm); (case k3 => k_asm); (case k4 => k_asm); (case k5 => k_asm); (case k6 => k_is); (case k7 => k_is); (case k8 => ktr_room); (case k9 => first | exact BindsTo.of_eq rfl | exact binds_K (by k_in) rfl (by k_is) rfl rfl rfl); (case kB => exact rfl); (case kD => decide +kernel); (case c2 => exact rfl); (case c3 => exact rfl); (case c4 => exact rfl); k_whole; intro zzg zzL zzh zztk zzcells zzFG zzF zzN zzY zzB zzX zzT zzl1; k_cells zzY; (try simp only [List.cons_append, List.nil_append] at zzN); (try dsimp only); (try k_fold)))
  k_with "TPost" => ((first | refine TPost.ret ?_ | refine TPost.brk ?_; (try dsimp only)))
  k_with "own k_all" => (first | assumption | (refine all_lt (by assumption) ?_; (try dsimp only); omega) | (exact fun p hp => Ne.symm (‹∀ p ∈ _, _ ≠ p.1› p hp)))
  k_with "own k_mem" => (first | exact List.Mem.head _ | ktr_member | (refine' mem_tail ?_; k_mem))
  k_with "leaving ref" => ((k_here; first | (refine' leave_onX ?k1 ?k2 ?k3 ?k4 ?_ ?k5; (case k5 => rfl); (case k1 => assumption); (case k3 => assumption); (case k4 => assumption); (case k2 => assumption); k_whole; intro zzh zzR zzU) | (refine' leave_raiseS ?k1 (Heap.MadeExc.of (by assumption)) ?k2 ?k3 ?_; (case k2 => assumption); (case k1 => assumption); (case k3 => k_asm); k_whole; intro zzh zzt zzS zzR zzU; (try dsimp only at zzS zzR zzU ⊢))))
  k_with "call ref" => (((with_reducible show PySem.wpAny _ _ (PySem.call (PySem.Value.ref 76) _ _) _ _ _); k_dflt (refine' use_x (convN_c _ _ _ _ _ ?kx) ?k1 ?k2 ?k3 ?k4 ?k5 ?kK ?kd ?ku ?_ ?_; (case kx => assumption); (case k1 => k_asm); (case k2 => k_asm); (case k3 => k_asm); (case k4 => k_asm); (case k5 => k_asm); (case kK => first | exact rfl | assumption); (case kd => ktr_room); (case ku => ktr_units)); (intros; (try dsimp only); (try k_fold))))
  k_with "call builtin:str.lower" => ((refine SCL.lower (by omega) ?_; intro _))
  trivial
set_option maxHeartbeats 8000000 in
theorem getAll_c (w : World) (news : Led) (x : Str) (t : Tok) (self dx hl : Addr) (tk : Tok) (hv : List Value) (hs : List (Str × Str)) (k : Nat) (hx : Asc (Txt.lower x)) (hlx : x.length ≤ 2) (h1 : (self, instObj 175 dx) ∈ news) (h2 : (dx, hdict w tk hl) ∈ news) (h3 : (hl, W.listOf hv.toArray k) ∈ news) (hD : DatAll news hv (hs.map hdD)) (hsh : Short hs) (hsz : hv.length ≤ 1000) :
    ConX w 4 114 [.ref self, .str x t] [] news (fun k => (Txt.lower x).cps.any badN = false → ∀ D ys, (∀ p ∈ news, p.1 ≠ D) → DatAll [] ys ((hs.filter (fun q => Txt.lower q.1 == Txt.lower x)).map fun q => Dat.str q.2) → k (.ref D) ((D, W.listOf ys.toArray ys.length) :: news)) (fun k => (Txt.lower x).cps.any badN = true → k news) := by
  intro mean mg mb dp un gd cn cs a ccd cl outer A₀ base h₀ L mm s Q E B F X N T hk hd hu hret hexc
  refine wpAny_call ?_; ktr_enter
  k_steps
  · rename Fr _ _ _ _ => lF
    rename News _ _ _ _ => lN
    refine cmp_eval lF (by with_unfolding_all rfl) (by decide) (by rfl) (by decide) ?_
    k_steps
    rename News _ _ _ _ => lN
    rename Fr _ _ _ _ => lF
    refine CSrc.mk' (its := hv) (kk := k) (fun v _ m₂ => m₂ (Str.ofString "kv") = some v)
      (fun n0 r ys n₁ => n₁ = n0 ∧ ∃ ps qs, DatAll news r (List.map hdD ps) ∧ (∀ p ∈ ps, p ∈ hs) ∧ DatAll [] ys (List.map (fun q : Str × Str => Dat.str q.2) qs) ∧ qs ++ ps.filter (fun q => Txt.lower q.1 == Txt.lower x) = hs.filter (fun q => Txt.lower q.1 == Txt.lower x))
      rfl lF lN (Nat.le_trans hsz (by decide)) ⟨rfl, hs, [], hD, fun _ h => h, .nil, rfl⟩ ?_ (asg_name rfl rfl) ?_ ?_
    · rintro r ys n₁ ⟨rfl, _⟩
      exact .tail _ h3
    · clear lF lN
      rintro g v r ys n₁ I oI C oC D m₂ h tk E' ⟨rfl, ps, qs, hd', hsub, hq, hfl⟩ hT hoC lF lN off ne1 ne2 ne3
      cases ps with
      | nil => cases hd'
      | cons p ps =>
        cases hd' with
        | cons hd1 hd2 =>
          obtain ⟨a, t1, t2, n1, rfl, hm1⟩ := hd_inv hd1
          have hp := hsub p (.head _)
          have hlp := hsh p hp
          clear hret hexc
          k_steps
          · rename (Txt.lower p.1 == Txt.lower x) = true => e
            refine CEnd.go _ lF lN (fun _ h => h) off ⟨rfl, ps, qs ++ [p], hd2, fun q hq => hsub q (.tail _ hq), ?_, ?_⟩
            · rw [List.map_append]; exact hq.append (.one (.str _ _))
            · rw [← hfl, List.filter_cons, if_pos e, List.append_assoc]; rfl
          · rename (Txt.lower p.1 == Txt.lower x) = false => e
            refine CEnd.go _ lF lN (fun _ h => h) off ⟨rfl, ps, qs, hd2, fun q hq => hsub q (.tail _ hq), hq, ?_⟩
            rw [← hfl, List.filter_cons, if_neg (by rw [e]; exact Bool.false_ne_true)]
    · rintro g ys n₁ ⟨rfl, ps, qs, hd', hsub, hq, hfl⟩ hle D h tk lF lN ho
      cases ps with
      | cons => cases hd'
      | nil =>
        rw [List.filter_nil, List.append_nil] at hfl
        rw [hfl] at hq
        k_steps
        rename News h₀ L _ _ => kN
        exact hret (by assumption) D ys (fun p hp => ho p (.tail _ hp)) hq _ _ (by assumption) (news_sub kN sub_one)
  · exact hexc (by assumption) _ _ _ _ _ _ (by assumption) (by assumption) (raised_sub (by assumption) fun p hp => .tail _ hp)
end
end Mine
end
section
-- part L4
open PySem PySem.W PySem.Calls PySem.Spec PyProof.Rows
namespace Mine
theorem reg20 : True := by
  w_top off
  k_with_none
  trivial
abbrev sliceAll : Obj := { cls := .type "slice", data := .fields #[.none, .none, .none] }
theorem slice_index : typeLookup (.type "slice") "__index__" = pure none := by rw [typeLookup_type, builtinLookup_eq_fast]; kernel_rfl
section
variable {prog : Program} {w : World} {A : Around} {E : Value → Shared → Prop} {h : Heap} {gn dr tk os} {h₀ : Heap} {L : Addr} {m : Str → Option Value} {l d : Addr} {its ys : List Value} {k j : Nat} {rest : Led} {Q : Unit → Shared → Prop}
theorem setSlice_K (F : Fr h₀ L h m) (N : News h₀ L h ((l, W.listOf its.toArray k) :: rest)) (hd : (d, W.listOf ys.toArray j) ∈ rest) (ha : ∀ p ∈ rest, p.1 ≠ l) (hsz : its.length + ys.length ≤ sizeLine)
    (hq : ∀ h' k', Fr h₀ L h' m → News h₀ L h' ((l, W.listOf ys.toArray k') :: rest) → Q () ⟨h', gn, dr, tk, os⟩) :
    wpAny (model prog w) A (setItem (.ref l) (.ref h.objs.size) (.ref d)) Q E ⟨h.push sliceAll, gn, dr, tk, os⟩ := by
  have F1 := F.push sliceAll
  have N1 := News.push F N sliceAll
  have hsl : (h.push sliceAll).get? h.objs.size = some sliceAll := (N1 _ (.head _)).1
  have hol : (h.push sliceAll).get? l = some (W.listOf its.toArray k) := (N1 _ (.tail _ (.head _))).1
  have hod : (h.push sliceAll).get? d = some (W.listOf ys.toArray j) := (N1 _ (.tail _ (.tail _ hd))).1
  have hl : (h.push sliceAll).IsList l its.toArray := ⟨_, hol, rfl, k, rfl⟩
  have tl : Shared.TypeIs ⟨h.push sliceAll, gn, dr, tk, os⟩ (.ref l) "list" := ⟨_, hol, rfl⟩
  have td : Shared.TypeIs ⟨h.push sliceAll, gn, dr, tk, os⟩ (.ref d) "list" := ⟨_, hod, rfl⟩
  have ts : Shared.TypeIs ⟨h.push sliceAll, gn, dr, tk, os⟩ (.ref h.objs.size) "slice" := ⟨_, hsl, rfl⟩
  unfold setItem
  refine wpAny_holding ?_
  refine wpAny_bind (wpAny_sequenceKey tl (by decide) ?_)
  refine wpAny_bind (wpAny_callSpecial?_slot (name := Str.ofString "__setitem__") tl slot_list_setitem
    (wpAny_call_entry slot_list_setitem tl entry_list_setitem ?_ (args_list_setitem _ _ _)))
  have si := slice_index
  have hne : Builtin.List.listSameRef (.ref l) (.ref d) = false := by
    show (l == d) = false
    exact beq_eq_false_iff_ne.mpr (Ne.symm (ha _ hd))
  have hlong : Builtin.List.listTooLong (its.toArray.size + ys.toArray.size) = false := by
    unfold Builtin.List.listTooLong
    simp only [List.size_toArray, gt_iff_lt, decide_eq_false_iff_not, Nat.not_lt]
    exact hsz
  unfold Builtin.«list.__setitem__»
  wp_walk
  rw [hlong, if_neg Bool.false_ne_true]
  dsimp only
  have ef : its.toArray.extract 0 (if (1 : Int) > 0 then (0 : Int) else ((its.toArray.size : Int) - 1)).toNat ++ ys.toArray ++ its.toArray.extract (max (if (1 : Int) > 0 then (0 : Int) else ((its.toArray.size : Int) - 1)) (if (1 : Int) > 0 then (its.toArray.size : Int) else -1)).toNat its.toArray.size = ys.toArray := by
    simp
  have hup : ∀ f : Array Value → Array Value, f its.toArray = ys.toArray → ∃ k', Obj.mapSeq f (W.listOf its.toArray k) = W.listOf ys.toArray k' := by
    intro f e
    unfold Obj.mapSeq W.listOf
    simp only [e]
    exact ⟨_, rfl⟩
  refine wpAny_bind ?_
  unfold Builtin.List.listUpdate
  refine wpAny_updateSeq hol rfl ?_ (by rw [List.size_toArray]; omega) (by rw [ef, List.size_toArray]; omega)
  refine wpAny_bind (wpAny_letGo (wpAny_pure ⟨_, rfl, wpAny_pure ?_⟩))
  generalize hf : (fun xs : Array Value => xs.extract 0 (if (1 : Int) > 0 then (0 : Int) else ((its.toArray.size : Int) - 1)).toNat ++ ys.toArray ++ xs.extract (max (if (1 : Int) > 0 then (0 : Int) else ((its.toArray.size : Int) - 1)) (if (1 : Int) > 0 then (its.toArray.size : Int) else -1)).toNat xs.size) = f
  obtain ⟨k', hk'⟩ := hup f (by rw [← hf]; exact ef)
  obtain ⟨F2, N2⟩ := news_upd (pre := []) (f := Obj.mapSeq f) (o' := W.listOf ys.toArray k') F1 (News.push F N sliceAll |> fun n => news_sub n (fun p hp => .tail _ hp)) (fun _ h => nomatch h) ha hk' rfl
  exact hq _ _ F2 N2
end
end Mine
end
section
-- part G3
open PySem PySem.W PySem.Calls PySem.Spec PyProof.Rows PyProof.Rows.LCg
namespace Mine
section
theorem reg21 : True := by
  w_top off
  k_with_none
  k_with "own k_steps" => (repeat' (first
    | (k_unfold; (try dsimp only))
    | (dsimp only; k_unfold; (try dsimp only))
    | ((fail_if_success (with_reducible show PySem.wpAny _ _ (PySem.exec (PySem.Stmt.While _ _ _ _) _) _ _ _)); (fail_if_success (with_reducible show PySem.wpAny _ _ (PySem.exec (PySem.Stmt.For _ _ _ _ _) _) _ _ _)); (fail_if_success (with_reducible show PySem.wpAny _ _ (PySem.eval (PySem.Expr.ListComp _ _ _ _) _) _ _ _)); (fail_if_success (with_reducible show PySem.wpAny _ _ (PySem.exec (PySem.Stmt.Assign [PySem.Expr.Name _ _] (PySem.Expr.ListComp _ _ _ _) _) _) _ _ _)); (fail_if_success (with_reducible show PySem.wpAny _ _ (PySem.pyIter _) _ _ _)); (fail_if_success (with_reducible show PySem.W.UnrPostW _ _ _ _ _ _ _ _)); (first | walk1 | (dsimp only; walk1)))))
  k_with "own ktr_enter" => (first
    | (refine' code_def ?k1 ?k2 ?k3 ?k4 ?k5 ?kA ?kF ?kK ?k6 ?k7 ?k8 ?k9 ?kB ?_ ?c2 ?c3 ?c4 ?c5; (case kA => exact rfl); (case kF => exact rfl); (case kK => assumption); (case k1 => k_asm); (case k2 => k_asm); (case k3 => k_asm); (case k4 => k_asm); (case k5 => k_asm); (case k6 => k_is); (case k7 => k_is); (case k8 => ktr_room); (case k9 => first | exact BindsTo.of_eq rfl | exact binds_K (by k_in) rfl (by k_is) rfl rfl rfl); (case c5 => decide); (case kB => exact locs rfl); (case c2 => exact rfl); (case c3 => exact rfl); (case c4 => exact rfl); k_whole; intro zzg zzL zzh zzFG zzF zzN zzB zzX zzT; (try dsimp only); (try k_fold))
    | (refine' code_defC ?k1 ?k2 ?k3 ?k4 ?k5 ?kA ?kF ?kK ?k6 ?k7 ?k8 ?k9 ?kB ?kD ?_ ?c2 ?c3 ?c4; (case kA => exact rfl); (case kF => exact rfl); (case kK => assumption); (case k1 => k_asm); (case k2 => k_asm); (case k3 => k_asm); (case k4 => k_asm); (case k5 => k_asm); (case k6 => k_is); (case k7 => k_is); (case k8 => ktr_room); (case k9 => first | exact BindsTo.of_eq rfl | exact binds_K (by k_in) rfl (by k_is) rfl rfl rfl); (case kB => exact rfl); (case kD => decide +kernel); (case c2 => exact rfl); (case c3 => exact rfl); (case c4 => exact rfl); k_whole; intro zzg zzL zzh zztk zzcells zzFG zzF zzN zzY zzB zzX zzT zzl1; k_cells zzY; (try simp only [List.cons_append, List.nil_append] at zzN); (try dsimp only); (try k_fold)))
  k_with "TPost" => ((first | refine TPost.ret ?_ | refine TPost.brk ?_; (try dsimp only)))
  k_with "own k_all" => (first | assumption | (refine all_lt (by assumption) ?_; (try dsimp only); omega) | (exact fun p hp => Ne.symm (‹∀ p ∈ _, _ ≠ p.1› p hp)))
  k_with "own k_mem" => (first | exact List.Mem.head _ | ktr_member | (refine' mem_tail ?_; k_mem))
  k_with "leaving ref" => ((k_here; first | (refine' leave_onX ?k1 ?k2 ?k3 ?k4 ?_ ?k5; (case k5 => rfl); (case k1 => assumption); (case k3 => assumption); (case k4 => assumption); (case k2 => assumption); k_whole; intro zzh zzR zzU) | (refine' leave_raiseS ?k1 (Heap.MadeExc.of (by assumption)) ?k2 ?k3 ?_; (case k2 => assumption); (case k1 => assumption); (case k3 => k_asm); k_whole; intro zzh zzt zzS zzR zzU; (try dsimp only at zzS zzR zzU ⊢))))
  k_with "call ref" => (((with_reducible show PySem.wpAny _ _ (PySem.call (PySem.Value.ref 76) _ _) _ _ _); k_dflt (refine' use_x (convN_c _ _ _ _ _ ?kx) ?k1 ?k2 ?k3 ?k4 ?k5 ?kK ?kd ?ku ?_ ?_; (case kx => assumption); (case k1 => k_asm); (case k2 => k_asm); (case k3 => k_asm); (case k4 => k_asm); (case k5 => k_asm); (case kK => first | exact rfl | assumption); (case kd => ktr_room); (case ku => ktr_units)); (intros; (try dsimp only); (try k_fold))))
  k_with "call builtin:str.lower" => ((refine SCL.lower (by omega) ?_; intro _))
  trivial
set_option maxHeartbeats 8000000 in
theorem del_c (w : World) (rest : Led) (x : Str) (t : Tok) (self dx hl : Addr) (tk : Tok) (hv : List Value) (hs : List (Str × Str)) (k : Nat) (hx : Asc (Txt.lower x)) (hlx : x.length ≤ 2) (h1 : (self, instObj 175 dx) ∈ rest) (h2 : (dx, hdict w tk hl) ∈ rest) (ha : ∀ p ∈ rest, p.1 ≠ hl) (hD : DatAll rest hv (hs.map hdD)) (hsh : Short hs) (hsz : hv.length ≤ 1000) :
    ConX w 4 95 [.ref self, .str x t] [] ((hl, W.listOf hv.toArray k) :: rest) (fun kk => (Txt.lower x).cps.any badN = false → ∀ hv' k', DatAll rest hv' ((hs.filter (fun q => !(Txt.lower q.1 == Txt.lower x))).map hdD) → kk .none ((hl, W.listOf hv'.toArray k') :: rest)) (fun kk => (Txt.lower x).cps.any badN = true → kk ((hl, W.listOf hv.toArray k) :: rest)) := by
  intro mean mg mb dp un gd cn cs a ccd cl outer A₀ base h₀ L mm s Q E B F X N T hk hd hu hret hexc
  refine wpAny_call ?_; ktr_enter
  k_steps
  · rename Fr _ _ _ _ => lF
    rename News _ _ _ _ => lN
    refine cmp_eval lF (by with_unfolding_all rfl) (by decide) (by rfl) (by decide) ?_
    k_steps
    rename News _ _ _ _ => lN
    rename Fr _ _ _ _ => lF
    refine CSrc.mk' (its := hv) (kk := k) (fun v _ m₂ => m₂ (Str.ofString "kv") = some v)
      (fun n0 r ys n₁ => n₁ = n0 ∧ ∃ ps qs, DatAll rest r (List.map hdD ps) ∧ (∀ p ∈ ps, p ∈ hs) ∧ DatAll rest ys (List.map hdD qs) ∧ qs ++ ps.filter (fun q => !(Txt.lower q.1 == Txt.lower x)) = hs.filter (fun q => !(Txt.lower q.1 == Txt.lower x)))
      rfl lF lN (Nat.le_trans hsz (by decide)) ⟨rfl, hs, [], hD, fun _ h => h, .nil, rfl⟩ ?_ (asg_name rfl rfl) ?_ ?_
    · rintro r ys n₁ ⟨rfl, _⟩
      exact .tail _ (.head _)
    · clear lF lN
      rintro g v r ys n₁ I oI C oC D m₂ h tk E' ⟨rfl, ps, qs, hd', hsub, hq, hfl⟩ hT hoC lF lN off ne1 ne2 ne3
      cases ps with
      | nil => cases hd'
      | cons p ps =>
        cases hd' with
        | cons hd1 hd2 =>
          obtain ⟨a, t1, t2, n1, rfl, hm1⟩ := hd_inv hd1
          have hp := hsub p (.head _)
          have hlp := hsh p hp
          clear hret hexc
          k_steps
          · rename (Txt.lower p.1 != Txt.lower x) = true => e
            have e' : (!(Txt.lower p.1 == Txt.lower x)) = true := e
            refine CEnd.go _ lF lN (fun _ h => h) off ⟨rfl, ps, qs ++ [p], hd2, fun q hq => hsub q (.tail _ hq), ?_, ?_⟩
            · rw [List.map_append]; exact hq.append (.one hd1)
            · rw [← hfl, List.filter_cons, if_pos e', List.append_assoc]; rfl
          · rename (Txt.lower p.1 != Txt.lower x) = false => e
            have e' : (!(Txt.lower p.1 == Txt.lower x)) = false := e
            refine CEnd.go _ lF lN (fun _ h => h) off ⟨rfl, ps, qs, hd2, fun q hq => hsub q (.tail _ hq), hq, ?_⟩
            rw [← hfl, List.filter_cons, if_neg (by rw [e']; exact Bool.false_ne_true)]
    · rintro g ys n₁ ⟨rfl, ps, qs, hd', hsub, hq, hfl⟩ hle D h tk lF lN ho
      cases ps with
      | cons => cases hd'
      | nil =>
        rw [List.filter_nil, List.append_nil] at hfl
        rw [hfl] at hq
        k_steps
        have hDn : D ≠ hl := fun e => ho _ (.tail _ (.head _)) e.symm
        have lN2 := news_sub lN (n' := (hl, W.listOf hv.toArray k) :: (D, W.listOf ys.toArray ys.length) :: rest) (fun p hp => by
          rcases List.mem_cons.mp hp with rfl | hp
          · exact .tail _ (.tail _ (.head _))
          · rcases List.mem_cons.mp hp with rfl | hp
            · exact .head _
            · exact .tail _ (.tail _ (.tail _ hp)))
        refine setSlice_K (by assumption) lN2 (.head _) (fun p hp => ?_) ?_ ?_
        · rcases List.mem_cons.mp hp with rfl | hp
          · exact hDn
          · exact ha p hp
        · rw [PySem.sizeLine_eq]; omega
        · intro h' k' F' N'
          k_steps
          rename News h₀ L _ _ => kN
          exact hret (by assumption) ys k' hq _ _ (by assumption) (news_sub kN sub_one)
  · exact hexc (by assumption) _ _ _ _ _ _ (by assumption) (by assumption) (raised_sub (by assumption) fun p hp => .tail _ hp)
end
end Mine
end
section
-- part G4
open PySem PySem.W PySem.Calls PySem.Spec PyProof.Rows PyProof.Rows.LCg
namespace Mine
section
variable {prog : Program} {w : World} {A : Around} {E : Value → Shared → Prop} {s : Shared} {h₀ : Heap} {L D : Addr} {m : Str → Option Value} {news : Led} {Q : Value → Shared → Prop} {sep x : Str} {t u : Tok} {n : Nat}
theorem reg22 : True := by
  w_top off
  k_with_none
  trivial
theorem join_one (N : News h₀ L s.heap news) (hm : (D, W.listOf (#[].push (.str x u)) n) ∈ news) (hs : sep.length = 2) (hx : x.length ≤ 2)
    (h : ∀ t' k, Q (.str x t') { s with toks := k }) : wpAny (model prog w) A (call (.builtin "str.join") [.str sep t, .ref D]) Q E s := by
  refine join_list (ys := [x]) (News.isList N hm) (.cons x u .nil) ?_ h
  simp only [List.map_cons, List.map_nil, List.sum_cons, List.sum_nil, List.length_cons, List.length_nil]
  omega
theorem news_drop3 {h : Heap} {a b c : Addr × Obj} {l : Led} (N : News h₀ L h (a :: b :: c :: l)) : News h₀ L h l := fun p hp => N p (.tail _ (.tail _ (.tail _ hp)))
theorem news_swap {h : Heap} {a b : Addr × Obj} {l : Led} (N : News h₀ L h (a :: b :: l)) : News h₀ L h (b :: a :: l) := fun p hp => N p (by
  rcases List.mem_cons.mp hp with rfl | hp
  · exact .tail _ (.head _)
  · rcases List.mem_cons.mp hp with rfl | hp
    · exact .head _
    · exact .tail _ (.tail _ hp))
theorem join_zero (N : News h₀ L s.heap news) (hm : (D, W.listOf #[] n) ∈ news)
    (h : ∀ t' k, Q (.str (Str.ofString "") t') { s with toks := k }) : wpAny (model prog w) A (call (.builtin "str.join") [.str sep t, .ref D]) Q E s := by
  refine join_list (ys := []) (News.isList N hm) .nil ?_ h
  simp
theorem append_L {its : List Value} {news' : Led} {y : Value} (F : Fr h₀ L s.heap m) (N : News h₀ L s.heap news) (U : Upd D (W.listOf its.toArray n) (W.listOf (its ++ [y]).toArray (n + 1)) news news') (hz : its.length ≤ 1000)
    (h : ∀ h', Fr h₀ L h' m → News h₀ L h' news' → Q .none { s with heap := h' }) : wpAny (model prog w) A (call (.builtin "list.append") [.ref D, y]) Q E s :=
  append_K F N (by rw [List.push_toArray]; exact U) h (by rw [List.size_toArray]; exact Nat.le_trans hz (by decide))
end
section
theorem reg23 : True := by
  w_top off
  k_with_none
  k_with "own k_steps" => (repeat' (first
    | (k_unfold; (try dsimp only))
    | (dsimp only; k_unfold; (try dsimp only))
    | ((fail_if_success (with_reducible show PySem.wpAny _ _ (PySem.exec (PySem.Stmt.While _ _ _ _) _) _ _ _)); (fail_if_success (with_reducible show PySem.wpAny _ _ (PySem.eval (PySem.Expr.ListComp _ _ _ _) _) _ _ _)); (fail_if_success (with_reducible show PySem.wpAny _ _ (PySem.exec (PySem.Stmt.Assign [PySem.Expr.Name _ _] (PySem.Expr.ListComp _ _ _ _) _) _) _ _ _)); (first | walk1 | (dsimp only; walk1)))))
  k_with "own ktr_enter" => (first
    | (refine' code_def ?k1 ?k2 ?k3 ?k4 ?k5 ?kA ?kF ?kK ?k6 ?k7 ?k8 ?k9 ?kB ?_ ?c2 ?c3 ?c4 ?c5; (case kA => exact rfl); (case kF => exact rfl); (case kK => assumption); (case k1 => k_asm); (case k2 => k_asm); (case k3 => k_asm); (case k4 => k_asm); (case k5 => k_asm); (case k6 => k_is); (case k7 => k_is); (case k8 => ktr_room); (case k9 => first | exact BindsTo.of_eq rfl | exact binds_K (by k_in) rfl (by k_is) rfl rfl rfl); (case c5 => decide); (case kB => exact locs rfl); (case c2 => exact rfl); (case c3 => exact rfl); (case c4 => exact rfl); k_whole; intro zzg zzL zzh zzFG zzF zzN zzB zzX zzT; (try dsimp only); (try k_fold))
    | (refine' code_defC ?k1 ?k2 ?k3 ?k4 ?k5 ?kA ?kF ?kK ?k6 ?k7 ?k8 ?k9 ?kB ?kD ?_ ?c2 ?c3 ?c4; (case kA => exact rfl); (case kF => exact rfl); (case kK => assumption); (case k1 => k_asm); (case k2 => k_asm); (case k3 => k_asm); (case k4 => k_asm); (case k5 => k_asm); (case k6 => k_is); (case k7 => k_is); (case k8 => ktr_room); (case k9 => first | exact BindsTo.of_eq rfl | exact binds_K (by k_in) rfl (by k_is) rfl rfl rfl); (case kB => exact rfl); (case kD => decide +kernel); (case c2 => exact rfl); (case c3 => exact rfl); (case c4 => exact rfl); k_whole; intro zzg zzL zzh zztk zzcells zzFG zzF zzN zzY zzB zzX zzT zzl1; k_cells zzY; (try simp only [List.cons_append, List.nil_append] at zzN); (try dsimp only); (try k_fold))
    | (refine' kp_more ?k1 ?k2 ?k3 ?k4 ?k5 ?kA ?kF ?kK ?k6 ?k7 ?k8 ?kX ?kM ?kN ?kD ?kR ?kP ?kT ?kB ?_ ?c2 ?c3 ?c4 ?c5; (case kA => exact rfl); (case kF => exact rfl); (case kK => assumption); (case k1 => k_asm); (case k2 => k_asm); (case k3 => k_asm); (case k4 => k_asm); (case k5 => k_asm); (case k6 => k_is); (case k7 => k_is); (case k8 => ktr_room); (case kX => kp_lit); (case kM => exact rfl); (case kN => exact rfl); (case kD => kp_flats); (case kR => exact rfl); (case kP => exact rfl); (case kT => exact fun _ => rfl); (case kB => exact fun _ => locs rfl); (case c5 => decide); (case c2 => exact rfl); (case c3 => exact rfl); (case c4 => exact rfl); k_whole; intro zzD zzo zzg zzL zzh zztk zzl1 zzlo zzhs zzfs zzFG zzF zzN zzB zzX zzT; (try dsimp only); (try k_fold)))
  k_with "TPost" => ((first | refine TPost.ret ?_ | refine TPost.brk ?_; (try dsimp only)))
  k_with "own k_all" => (first | assumption | (refine all_lt (by assumption) ?_; (try dsimp only); omega) | (exact fun p hp => Ne.symm (‹∀ p ∈ _, _ ≠ p.1› p hp)))
  k_with "own k_mem" => (first | exact List.Mem.head _ | ktr_member | (refine' mem_tail ?_; k_mem))
  k_with "leaving ref" => ((k_here; first | (refine' leave_onX ?k1 ?k2 ?k3 ?k4 ?_ ?k5; (case k5 => rfl); (case k1 => assumption); (case k3 => assumption); (case k4 => assumption); (case k2 => assumption); k_whole; intro zzh zzR zzU) | (refine' leave_raiseS ?k1 (Heap.MadeExc.of (by assumption)) ?k2 ?k3 ?_; (case k2 => assumption); (case k1 => assumption); (case k3 => k_asm); k_whole; intro zzh zzt zzS zzR zzU; (try dsimp only at zzS zzR zzU ⊢))))
  k_with "call ref" => (((with_reducible show PySem.wpAny _ _ (PySem.call (PySem.Value.ref 76) _ _) _ _ _); k_dflt (refine' use_x (convN_c _ _ _ _ _ ?kx) ?k1 ?k2 ?k3 ?k4 ?k5 ?kK ?kd ?ku ?_ ?_; (case kx => assumption); (case k1 => k_asm); (case k2 => k_asm); (case k3 => k_asm); (case k4 => k_asm); (case k5 => k_asm); (case kK => first | exact rfl | assumption); (case kd => ktr_room); (case ku => ktr_units)); (intros; (try dsimp only); (try k_fold))))
  k_with "call ref" => (((with_reducible show PySem.wpAny _ _ (PySem.call (PySem.Value.ref 76) _ _) _ _ _); k_dflt (refine' use_x (convV_c _ _ _ _ _ ?kx) ?k1 ?k2 ?k3 ?k4 ?k5 ?kK ?kd ?ku ?_ ?_; (case kx => assumption); (case k1 => k_asm); (case k2 => k_asm); (case k3 => k_asm); (case k4 => k_asm); (case k5 => k_asm); (case kK => first | exact rfl | assumption); (case kd => ktr_room); (case ku => ktr_units)); (intros; (try dsimp only); (try k_fold))))
  k_with "call builtin:str.join" => ((k_dflt (refine' join_one ?N ?M ?a ?b ?_; (case N => k_asm); (case M => k_mem); (case a => rfl); (case b => assumption)); intro _ _; (rename News _ _ _ (_ :: _ :: _ :: _) => nX); (replace nX := news_drop3 nX)))
  k_with "call builtin:list.append" => ((k_dflt (refine' append_L ?k1 ?k2 ?k3 ?z ?_; (case k1 => k_asm); (case k2 => k_asm); (case k3 => k_upd); (case z => assumption)); intro zzh zzF zzN; (try k_sweep)))
  trivial
set_option maxHeartbeats 8000000 in
theorem addV_c (w : World) (rest : Led) (x v : Str) (t tv : Tok) (self dx hl : Addr) (tk : Tok) (hv : List Value) (k : Nat) (hx : Asc x) (hxv : Asc v) (hlv : v.length ≤ 2) (h1 : (self, instObj 175 dx) ∈ rest) (h2 : (dx, hdict w tk hl) ∈ rest) (ha : ∀ p ∈ rest, p.1 ≠ hl) (hsz : hv.length ≤ 1000) :
    ConX w 4 172 [.ref self, .str x t, .str v tv] [] ((hl, W.listOf hv.toArray k) :: rest) (fun kk => x.cps.any badN = false → v.cps.any badV = false → ∀ tp t1 t2 k' k2, tp ≠ hl → (∀ p ∈ rest, p.1 ≠ tp) → kk Value.none ((hl, W.listOf (hv ++ [Value.ref tp]).toArray k') :: (tp, tup2 (Value.str x t1) (Value.str v t2) k2) :: rest)) (fun kk => (x.cps.any badN || v.cps.any badV) = true → kk ((hl, W.listOf hv.toArray k) :: rest)) := by
  intro mean mg mb dp un gd cn cs a ccd cl outer A₀ base h₀ L mm s Q E B F X N T hk hd hu hret hexc
  refine wpAny_call ?_; ktr_enter
  k_steps
  · rename News _ _ _ ((hl, W.listOf hv.toArray k) :: rest) => nT
    have hlt := fun p hp => Heap.lt_size (nT p hp).1
    refine append_L (by assumption) (by assumption) (Upd.tail (Nat.ne_of_gt (hlt _ (.head _))) (Upd.head ha)) hsz ?_
    intro h' F' N'
    clear nT
    k_steps
    rename News h₀ L _ _ => kN
    exact hret (by assumption) (by assumption) _ _ _ _ _ (Nat.ne_of_gt (hlt _ (.head _))) (fun p hp => Nat.ne_of_lt (hlt p (.tail _ hp))) _ _ (by assumption) (news_swap kN)
  all_goals exact hexc (by simp [*]) _ _ _ _ _ _ (by assumption) (by assumption) (raised_sub (by assumption) (by intro p hp; repeat (first | exact hp | refine List.Mem.tail _ ?_)))
end
end Mine
end
section
-- part G5
open PySem PySem.W PySem.Calls PySem.Spec PyProof.Rows PyProof.Rows.LCg
namespace Mine
theorem reg24 : True := by
  w_top off
  k_with_none
  trivial
theorem of_allLt {d : Nat} : ∀ {l : Led}, AllLt d l → ∀ p ∈ l, @LT.lt Nat _ p.1 d
  | [], _, _, h => nomatch h
  | q :: r, a, p, h => by
    rcases List.mem_cons.mp h with rfl | h
    · exact a.1
    · exact of_allLt a.2 p h
section
theorem reg25 : True := by
  w_top off
  k_with_none
  k_with "own k_steps" => (repeat' (first
    | (k_unfold; (try dsimp only))
    | (dsimp only; k_unfold; (try dsimp only))
    | ((fail_if_success (with_reducible show PySem.wpAny _ _ (PySem.exec (PySem.Stmt.While _ _ _ _) _) _ _ _)); (fail_if_success (with_reducible show PySem.wpAny _ _ (PySem.eval (PySem.Expr.ListComp _ _ _ _) _) _ _ _)); (fail_if_success (with_reducible show PySem.wpAny _ _ (PySem.exec (PySem.Stmt.Assign [PySem.Expr.Name _ _] (PySem.Expr.ListComp _ _ _ _) _) _) _ _ _)); (first | walk1 | (dsimp only; walk1)))))
  k_with "own ktr_enter" => (first
    | (refine' code_def ?k1 ?k2 ?k3 ?k4 ?k5 ?kA ?kF ?kK ?k6 ?k7 ?k8 ?k9 ?kB ?_ ?c2 ?c3 ?c4 ?c5; (case kA => exact rfl); (case kF => exact rfl); (case kK => assumption); (case k1 => k_asm); (case k2 => k_asm); (case k3 => k_asm); (case k4 => k_asm); (case k5 => k_asm); (case k6 => k_is); (case k7 => k_is); (case k8 => ktr_room); (case k9 => first | exact BindsTo.of_eq rfl | exact binds_K (by k_in) rfl (by k_is) rfl rfl rfl); (case c5 => decide); (case kB => exact locs rfl); (case c2 => exact rfl); (case c3 => exact rfl); (case c4 => exact rfl); k_whole; intro zzg zzL zzh zzFG zzF zzN zzB zzX zzT; (try dsimp only); (try k_fold))
    | (refine' code_defC ?k1 ?k2 ?k3 ?k4 ?k5 ?kA ?kF ?kK ?k6 ?k7 ?k8 ?k9 ?kB ?kD ?_ ?c2 ?c3 ?c4; (case kA => exact rfl); (case kF => exact rfl); (case kK => assumption); (case k1 => k_asm); (case k2 => k_asm); (case k3 => k_asm); (case k4 => k_asm); (case k5 => k_asm); (case k6 => k_is); (case k7 => k_is); (case k8 => ktr_room); (case k9 => first | exact BindsTo.of_eq rfl | exact binds_K (by k_in) rfl (by k_is) rfl rfl rfl); (case kB => exact rfl); (case kD => decide +kernel); (case c2 => exact rfl); (case c3 => exact rfl); (case c4 => exact rfl); k_whole; intro zzg zzL zzh zztk zzcells zzFG zzF zzN zzY zzB zzX zzT zzl1; k_cells zzY; (try simp only [List.cons_append, List.nil_append] at zzN); (try dsimp only); (try k_fold))
    | (refine' kp_more ?k1 ?k2 ?k3 ?k4 ?k5 ?kA ?kF ?kK ?k6 ?k7 ?k8 ?kX ?kM ?kN ?kD ?kR ?kP ?kT ?kB ?_ ?c2 ?c3 ?c4 ?c5; (case kA => exact rfl); (case kF => exact rfl); (case kK => assumption); (case k1 => k_asm); (case k2 => k_asm); (case k3 => k_asm); (case k4 => k_asm); (case k5 => k_asm); (case k6 => k_is); (case k7 => k_is); (case k8 => ktr_room); (case kX => kp_lit); (case kM => exact rfl); (case kN => exact rfl); (case kD => kp_flats); (case kR => exact rfl); (case kP => exact rfl); (case kT => exact fun _ => rfl); (case kB => exact fun _ => locs rfl); (case c5 => decide); (case c2 => exact rfl); (case c3 => exact rfl); (case c4 => exact rfl); k_whole; intro zzD zzo zzg zzL zzh zztk zzl1 zzlo zzhs zzfs zzFG zzF zzN zzB zzX zzT; (try dsimp only); (try k_fold)))
  k_with "TPost" => ((first | refine TPost.ret ?_ | refine TPost.brk ?_; (try dsimp only)))
  k_with "own k_all" => (first | assumption | (refine all_lt (by assumption) ?_; (try dsimp only); omega) | (exact fun p hp => Ne.symm (‹∀ p ∈ _, _ ≠ p.1› p hp)))
  k_with "own k_mem" => (first | exact List.Mem.head _ | ktr_member | (refine' mem_tail ?_; k_mem))
  k_with "leaving ref" => ((k_here; first | (refine' leave_onX ?k1 ?k2 ?k3 ?k4 ?_ ?k5; (case k5 => rfl); (case k1 => assumption); (case k3 => assumption); (case k4 => assumption); (case k2 => assumption); k_whole; intro zzh zzR zzU) | (refine' leave_raiseS ?k1 (Heap.MadeExc.of (by assumption)) ?k2 ?k3 ?_; (case k2 => assumption); (case k1 => assumption); (case k3 => k_asm); k_whole; intro zzh zzt zzS zzR zzU; (try dsimp only at zzS zzR zzU ⊢))))
  k_with "call ref" => (((with_reducible show PySem.wpAny _ _ (PySem.call (PySem.Value.ref 76) _ _) _ _ _); k_dflt (refine' use_x (convN_c _ _ _ _ _ ?kx) ?k1 ?k2 ?k3 ?k4 ?k5 ?kK ?kd ?ku ?_ ?_; (case kx => assumption); (case k1 => k_asm); (case k2 => k_asm); (case k3 => k_asm); (case k4 => k_asm); (case k5 => k_asm); (case kK => first | exact rfl | assumption); (case kd => ktr_room); (case ku => ktr_units)); (intros; (try dsimp only); (try k_fold))))
  k_with "call builtin:str.join" => ((k_dflt (refine' join_zero ?N ?M ?_; (case N => k_asm); (case M => k_mem)); intro _ _; (rename News _ _ _ (_ :: _ :: _ :: _) => nX); (replace nX := news_drop3 nX)))
  trivial
set_option maxHeartbeats 8000000 in
theorem addN_c (w : World) (rest : Led) (x : Str) (t : Tok) (self dx hl : Addr) (tk : Tok) (hv : List Value) (k : Nat) (hx : Asc x) (h1 : (self, instObj 175 dx) ∈ rest) (h2 : (dx, hdict w tk hl) ∈ rest) (ha : ∀ p ∈ rest, p.1 ≠ hl) (hsz : hv.length ≤ 1000) :
    ConX w 4 172 [.ref self, .str x t, .none] [] ((hl, W.listOf hv.toArray k) :: rest) (fun kk => x.cps.any badN = false → ∀ tp t1 t2 k' k2, tp ≠ hl → (∀ p ∈ rest, p.1 ≠ tp) → kk Value.none ((hl, W.listOf (hv ++ [Value.ref tp]).toArray k') :: (tp, tup2 (Value.str x t1) (Value.str (Str.ofString "") t2) k2) :: rest)) (fun kk => x.cps.any badN = true → kk ((hl, W.listOf hv.toArray k) :: rest)) := by
  intro mean mg mb dp un gd cn cs a ccd cl outer A₀ base h₀ L mm s Q E B F X N T hk hd hu hret hexc
  refine wpAny_call ?_; ktr_enter
  k_steps
  · rename News _ _ _ ((hl, W.listOf hv.toArray k) :: rest) => nT
    have hlt := fun p hp => Heap.lt_size (nT p hp).1
    refine append_L (by assumption) (by assumption) (Upd.tail (Nat.ne_of_gt (hlt _ (.head _))) (Upd.head ha)) hsz ?_
    intro h' F' N'
    clear nT
    k_steps
    rename News h₀ L _ _ => kN
    exact hret (by assumption) _ _ _ _ _ (Nat.ne_of_gt (hlt _ (.head _))) (fun p hp => Nat.ne_of_lt (hlt p (.tail _ hp))) _ _ (by assumption) (news_swap kN)
  all_goals exact hexc (by assumption) _ _ _ _ _ _ (by assumption) (by assumption) (raised_sub (by assumption) (by intro p hp; repeat (first | exact hp | refine List.Mem.tail _ ?_)))
end
end Mine
end
section
-- part S1
open PySem PySem.W PySem.Calls PySem.Spec PyProof.Rows PyProof.Rows.LCg
namespace Mine
section
variable {prog : Program} {w : World} {A : Around} {h₀ : Heap} {L : Addr} {m : Str → Option Value} {env : Env} {s : Shared}
theorem reg26 : True := by
  w_top off
  k_with_none
  trivial
theorem rest_ind {elt : PySem.Expr} {x : Str} {scope : Scope} {cl : List (Str × Addr)} {S : Led → Prop} {its : List Value} {Fin : List Value → Led → Prop} {news : Led} (J : List Value → List Value → Prop) (hS : S news)
    (turn : ∀ v r ys I oI C oC D m₂ h tk (E' : Value → Shared → Prop), J (v :: r) ys → NsObj oC m₂ → m₂ x = some v → Fr h₀ L h m → News h₀ L h ((I, oI) :: (C, oC) :: (D, lst ys) :: news) → Off3 I C D news → ((@Ne Nat I C) ∧ (@Ne Nat I D) ∧ (@Ne Nat C D)) →
      wpAny (model prog w) A (eval elt (compEnvC scope cl C env)) (CompEnd h₀ L m { s with heap := h, toks := tk } I oI C oC D (lst ys) S (fun y news' => news' = news ∧ J r (ys ++ [y]))) E' { s with heap := h, toks := tk })
    (fin : ∀ ys, J [] ys → Fin ys news) :
    ∀ (vs pre ys : List Value), its = pre ++ vs → J vs ys → CompRest prog w A h₀ L m env elt x scope cl s S (fun i v => its.toArray[i]? = some v) Fin vs.length pre.length ys news
  | [], pre, ys, _, hj => fin ys hj
  | v :: r, pre, ys, he, hj => by
    refine CompRest.succ fun v' I oI C oC D m₂ h tk E' hv hC hx F N off ne => ?_
    have e : its.toArray[pre.length]? = some v := by
      rw [List.getElem?_toArray, he, List.getElem?_append_right (Nat.le_refl _), Nat.sub_self]; rfl
    have e2 : v' = v := Option.some.inj (hv.symm.trans e)
    subst e2
    refine wpAny_mono (turn v' r ys I oI C oC D m₂ h tk E' hj hC hx F N off ne) (fun y s₂ h₂ => ?_) fun _ _ e => e
    obtain ⟨h', tk', news', q1, q2, q3, q4, q5, rfl, q6⟩ := h₂
    refine ⟨h', tk', news', q1, q2, q3, q4, q5, ?_⟩
    have := rest_ind (its := its) J hS turn fin r (pre ++ [v']) (ys ++ [y]) (by rw [he, List.append_assoc]; rfl) q6
    rw [List.length_append, List.length_singleton] at this
    exact this
end
/-- a header's line -/
def hdLine (p : Str × Str) : Str := p.1 ++ Str.ofString ": " ++ p.2
theorem sum_le {b : Nat} : ∀ (l : List Str), (∀ x ∈ l, x.length ≤ b) → (l.map (·.length)).sum ≤ l.length * b
  | [], _ => by simp
  | x :: r, h => by
    have := sum_le r fun y hy => h y (.tail _ hy)
    have h0 := h x (.head _)
    simp only [List.map_cons, List.sum_cons, List.length_cons, Nat.succ_mul]
    omega
theorem hdLine_len {p : Str × Str} (h : p.1.length ≤ 2 ∧ p.2.length ≤ 2) : (hdLine p).length ≤ 6 := by
  unfold hdLine
  rw [Str.length_append, Str.length_append]
  have : (Str.ofString ": ").length = 2 := by decide
  omega
section
theorem reg27 : True := by
  w_top off
  k_with_none
  k_with "own k_steps" => (repeat' (first
    | (k_unfold; (try dsimp only))
    | (dsimp only; k_unfold; (try dsimp only))
    | ((fail_if_success (with_reducible show PySem.wpAny _ _ (PySem.exec (PySem.Stmt.While _ _ _ _) _) _ _ _)); (fail_if_success (with_reducible show PySem.wpAny _ _ (PySem.exec (PySem.Stmt.For _ _ _ _ _) _) _ _ _)); (fail_if_success (with_reducible show PySem.wpAny _ _ (PySem.eval (PySem.Expr.ListComp _ _ _ _) _) _ _ _)); (fail_if_success (with_reducible show PySem.wpAny _ _ (PySem.exec (PySem.Stmt.Assign [PySem.Expr.Name _ _] (PySem.Expr.ListComp _ _ _ _) _) _) _ _ _)); (fail_if_success (with_reducible show PySem.wpAny _ _ (PySem.pyIter _) _ _ _)); (fail_if_success (with_reducible show PySem.W.UnrPostW _ _ _ _ _ _ _ _)); (first | walk1 | (dsimp only; walk1)))))
  k_with "own ktr_enter" => (first
    | (refine' code_def ?k1 ?k2 ?k3 ?k4 ?k5 ?kA ?kF ?kK ?k6 ?k7 ?k8 ?k9 ?kB ?_ ?c2 ?c3 ?c4 ?c5; (case kA => exact rfl); (case kF => exact rfl); (case kK => assumption); (case k1 => k_asm); (case k2 => k_asm); (case k3 => k_asm); (case k4 => k_asm); (case k5 => k_asm); (case k6 => k_is); (case k7 => k_is); (case k8 => ktr_room); (case k9 => first | exact BindsTo.of_eq rfl | exact binds_K (by k_in) rfl (by k_is) rfl rfl rfl); (case c5 => decide); (case kB => exact locs rfl); (case c2 => exact rfl); (case c3 => exact rfl); (case c4 => exact rfl); k_whole; intro zzg zzL zzh zzFG zzF zzN zzB zzX zzT; (try dsimp only); (try k_fold))
    | (refine' code_defC ?k1 ?k2 ?k3 ?k4 ?k5 ?kA ?kF ?kK ?k6 ?k7 ?k8 ?k9 ?kB ?kD ?_ ?c2 ?c3 ?c4; (case kA => exact rfl); (case kF => exact rfl); (case kK => assumption); (case k1 => k_asm); (case k2 => k_asm); (case k3 => k_asm); (case k4 => k_asm); (case k5 => k_asm); (case k6 => k_is); (case k7 => k_is); (case k8 => ktr_room); (case k9 => first | exact BindsTo.of_eq rfl | exact binds_K (by k_in) rfl (by k_is) rfl rfl rfl); (case kB => exact rfl); (case kD => decide +kernel); (case c2 => exact rfl); (case c3 => exact rfl); (case c4 => exact rfl); k_whole; intro zzg zzL zzh zztk zzcells zzFG zzF zzN zzY zzB zzX zzT zzl1; k_cells zzY; (try simp only [List.cons_append, List.nil_append] at zzN); (try dsimp only); (try k_fold))
    | (refine' kp_more ?k1 ?k2 ?k3 ?k4 ?k5 ?kA ?kF ?kK ?k6 ?k7 ?k8 ?kX ?kM ?kN ?kD ?kR ?kP ?kT ?kB ?_ ?c2 ?c3 ?c4 ?c5; (case kA => exact rfl); (case kF => exact rfl); (case kK => assumption); (case k1 => k_asm); (case k2 => k_asm); (case k3 => k_asm); (case k4 => k_asm); (case k5 => k_asm); (case k6 => k_is); (case k7 => k_is); (case k8 => ktr_room); (case kX => kp_lit); (case kM => exact rfl); (case kN => exact rfl); (case kD => kp_flats); (case kR => exact rfl); (case kP => exact rfl); (case kT => exact fun _ => rfl); (case kB => exact fun _ => locs rfl); (case c5 => decide); (case c2 => exact rfl); (case c3 => exact rfl); (case c4 => exact rfl); k_whole; intro zzD zzo zzg zzL zzh zztk zzl1 zzlo zzhs zzfs zzFG zzF zzN zzB zzX zzT; (try dsimp only); (try k_fold)))
  k_with "TPost" => ((first | refine TPost.ret ?_ | refine TPost.brk ?_; (try dsimp only)))
  k_with "own k_all" => (first | assumption | (refine all_lt (by assumption) ?_; (try dsimp only); omega) | (exact fun p hp => Ne.symm (‹∀ p ∈ _, _ ≠ p.1› p hp)))
  k_with "own k_mem" => (first | exact List.Mem.head _ | ktr_member | (refine' mem_tail ?_; k_mem))
  k_with "leaving ref" => ((k_here; first | (refine' leave_onX ?k1 ?k2 ?k3 ?k4 ?_ ?k5; (case k5 => rfl); (case k1 => assumption); (case k3 => assumption); (case k4 => assumption); (case k2 => assumption); k_whole; intro zzh zzR zzU) | (refine' leave_raiseS ?k1 (Heap.MadeExc.of (by assumption)) ?k2 ?k3 ?_; (case k2 => assumption); (case k1 => assumption); (case k3 => k_asm); k_whole; intro zzh zzt zzS zzR zzU; (try dsimp only at zzS zzR zzU ⊢))))
  k_with "call builtin:str.join" => (fail)
  k_with "CompSrc" => (fail)
  k_with "CompRest" => (fail)
  trivial
set_option maxHeartbeats 8000000 in
theorem str_c (w : World) (news : Led) (self dx hl : Addr) (tk : Tok) (hv : List Value) (hs : List (Str × Str)) (k : Nat) (h1 : (self, instObj 175 dx) ∈ news) (h2 : (dx, hdict w tk hl) ∈ news) (h3 : (hl, W.listOf hv.toArray k) ∈ news) (hD : DatAll news hv (hs.map hdD)) (hsh : ∀ p ∈ hs, p.1.length ≤ 2 ∧ p.2.length ≤ 2) (hsz : hv.length ≤ 1000) :
    Con w 4 151 [.ref self] [] news (fun k => ∀ t, k (.str (Txt.join (Str.ofString "\r\n") (hs.map hdLine ++ [Str.ofString "", Str.ofString ""])) t) news) := by
  intro mean mg mb dp un gd cn cs a ccd cl outer A₀ base h₀ L mm s Q E B F X N T hk hd hu hret hexc
  refine wpAny_call ?_; ktr_enter
  k_steps
  rename Fr _ _ _ _ => lF
  refine LCg.ListComp_U (F₀ := lF) (by with_unfolding_all rfl) (by decide) (by rfl) (by decide) (by rfl) ?_
  k_steps
  rename News _ _ _ _ => lN
  rename Fr _ _ _ _ => lF
  refine CompSrc.ledger (by rfl) lF lN h3 (by rw [List.size_toArray]; exact Nat.le_trans hsz (by decide)) (fun g => ?_)
  rw [List.size_toArray]
  refine rest_ind (fun vs ys => ∃ ps qs, DatAll news vs (List.map hdD ps) ∧ StrsAre ys (List.map hdLine qs) ∧ qs ++ ps = hs) (.inr ⟨_, h3, rfl, _, rfl⟩) ?_ ?_ hv [] [] rfl ⟨hs, [], hD, .nil, rfl⟩
  · clear lF lN
    rintro v r ys I oI C oC D m₂ h tk E' ⟨ps, qs, hd', hq, he⟩ hoC hx lF lN off ne
    cases ps with
    | nil => cases hd'
    | cons p ps =>
      cases hd' with
      | cons hd1 hd2 =>
        obtain ⟨a, t1, t2, n1, rfl, hm1⟩ := hd_inv hd1
        obtain ⟨hp1, hp2⟩ := hsh p (he ▸ List.mem_append.mpr (.inr (.head _)))
        clear hret hexc
        k_steps
        refine CompEnd.intro (by k_asm) (by k_asm) news (fun _ h => h) off (.inr ⟨_, h3, rfl, _, rfl⟩) ⟨rfl, ps, qs ++ [p], hd2, ?_, ?_⟩
        · rw [List.map_append]
          refine hq.append' ?_
          exact .cons _ _ .nil
        · rw [← he, List.append_assoc]; rfl
  · rintro ys ⟨ps, qs, hd', hq, he⟩
    cases ps with
    | cons => cases hd'
    | nil =>
      rw [List.append_nil] at he
      subst he
      intro D h tk lF lN off
      k_steps
      have hle : ys.length = qs.length := by rw [hq.length, List.length_map]
      have hlq : hv.length = qs.length := by rw [hD.length, List.length_map]
      refine kmk_add_lit (by k_asm) (by k_asm) (News.isList (by k_asm) (by k_mem)) (News.isList (by k_asm) (by k_mem)) rfl ?_ (by simp only [sizeLine_eq, List.length_cons, List.length_nil]; omega)
      intro D2 h2 F2 N2 l2
      k_steps
      refine join_list (ys := qs.map hdLine ++ [Str.ofString "", Str.ofString ""]) (News.isList N2 (.head _)) (hq.append' (.cons _ _ (.cons _ _ .nil))) ?_ ?_
      · have h6 := sum_le (b := 6) (qs.map hdLine ++ [Str.ofString "", Str.ofString ""]) (fun x hx => by
          rcases List.mem_append.mp hx with hx | hx
          · obtain ⟨p, hp, rfl⟩ := List.mem_map.mp hx
            exact hdLine_len (hsh p hp)
          · have : x = Str.ofString "" := by simpa using hx
            rw [this]; decide)
        have e2 : (Str.ofString "\r\n").length = 2 := by decide
        have e3 : (qs.map hdLine ++ [Str.ofString "", Str.ofString ""]).length = qs.length + 2 := by simp
        rw [e3] at h6 ⊢
        rw [e2]
        omega
      · intro t' k'
        k_steps
        rename News h₀ L _ _ => kN
        exact hret _ _ _ (by assumption) (news_sub kN (by intro p hp; repeat (first | exact hp | refine List.Mem.tail _ ?_)))
end
end Mine
end
section
-- part U1
open PySem PySem.W PySem.Calls PySem.Spec PyProof.Rows
namespace Mine
theorem reg28 : True := by
  w_top off
  k_with_none
  trivial
/-- a list's iterator, at place i -/
def ItO (o : Obj) (ax : Addr) (i : Nat) : Prop := o.cls = .type "list_iterator" ∧ o.data = .fields #[.ref ax, .int i 0]
section
variable {prog : Program} {w : World} {A : Around} {E : Value → Shared → Prop} {s : Shared} {h₀ : Heap} {L I ax : Addr} {m : Str → Option Value} {rest : List (Addr × Obj)} {its : Array Value} {k i : Nat} {o : Obj} {x : Value} {Q : Value → Shared → Prop}
theorem iter_L (F : Fr h₀ L s.heap m) (N : News h₀ L s.heap rest) (hm : (ax, W.listOf its k) ∈ rest)
    (h : ∀ I h' o, ItO o ax 0 → (∀ p ∈ rest, p.1 ≠ I) → Fr h₀ L h' m → News h₀ L h' ((I, o) :: rest) → Q (.ref I) { s with heap := h' }) : wpAny (model prog w) A (call (.builtin "iter") [.ref ax]) Q E s := by
  refine call_function_entry (by decide +kernel) (by decide +kernel) kdk_entry_iter (kdk_args_iter _) ?_
  unfold Builtin.«iter»
  refine wpAny_bind (m := someArgs "iter" 1 2 _) (wpAny_of_eq (a := [Value.ref ax]) (by first | rfl | kernel_rfl!) ?_)
  show wpAny _ _ (pyIter (.ref ax) >>= _) _ _ _
  refine wpAny_bind (wpAny_pyIter_list (News.isList N hm) ?_)
  exact wpAny_pure ⟨_, rfl, h _ _ _ ⟨rfl, rfl⟩ (fun p hp => Nat.ne_of_lt (Heap.lt_size (N p hp).1)) (F.push _) (News.push F N _ rfl)⟩

theorem next_L (F : Fr h₀ L s.heap m) (N : News h₀ L s.heap ((I, o) :: rest)) (ho : ItO o ax i) (ha : ∀ p ∈ rest, p.1 ≠ I) (hm : (ax, W.listOf its k) ∈ rest) (hx : its[i]? = some x)
    (h : ∀ h' o', ItO o' ax (i + 1) → Fr h₀ L h' m → News h₀ L h' ((I, o') :: rest) → Q x { s with heap := h' }) : wpAny (model prog w) A (call (.builtin "next") [.ref I]) Q E s := by
  have hI := N _ (.head _)
  have hit : s.heap.IsListIter I ax i := ⟨o, hI.1, ho.1, ho.2⟩
  have hl : s.heap.get? ax = some (W.listOf its k) := (N _ (.tail _ hm)).1
  refine call_function_entry (by decide +kernel) (by decide +kernel) kdk_entry_next (kdk_args_next _) ?_
  unfold Builtin.«next»
  refine wpAny_bind (m := someArgs "next" 1 2 _) (wpAny_of_eq (a := [Value.ref I]) (by first | rfl | kernel_rfl!) ?_)
  dsimp only
  refine wpAny_bind (wpAny_specialOf (name := Str.ofString "__next__") hit.typeIs slot_listiter_next.lookup ?_)
  refine wpAny_ite_split (fun hab => absurd hab (by decide)) (fun _ => ?_)
  refine wpAny_bind (wpAny_callSpecial?_slot (name := Str.ofString "__next__") hit.typeIs slot_listiter_next
    (wpAny_call_entry slot_listiter_next hit.typeIs entry_listiter_next ?_ (args_listiter_next _)))
  show wpAny _ _ (field (.ref I) 0 >>= _) _ _ s
  refine wpAny_bind (wpAny_field hI.1 ho.2 (x := .ref ax) rfl ?_)
  show wpAny _ _ (if (Value.ref ax == Value.none) = true then _ else _) _ _ s
  rw [if_neg (show ¬ ((Value.ref ax == Value.none) = true) from Bool.false_ne_true)]
  show wpAny _ _ (field (.ref I) 1 >>= _) _ _ s
  refine wpAny_bind (wpAny_field hI.1 ho.2 (x := .int i 0) rfl ?_)
  show wpAny _ _ (seqItems? (.ref ax) >>= _) _ _ s
  refine wpAny_bind (wpAny_seqItems hl rfl ?_)
  simp only [Int.toNat_natCast, hx]
  refine wpAny_bind (wpAny_setField hI.1 ho.2 (by simp) (wpAny_pure ⟨x, rfl, wpAny_pure ⟨_, rfl, ?_⟩⟩))
  have hu : (s.heap.update I (Obj.mapFields (·.setIfInBounds 1 (rawInt ((i : Int) + 1))))).get? I = some _ := Heap.get?_update_self _ hI.1 (Obj.isFreed_of_fields (Obj.data_mapFields ho.2 _))
  refine h _ (Obj.mapFields (·.setIfInBounds 1 (rawInt ((i : Int) + 1))) o) ⟨(Obj.cls_mapFields ..).trans ho.1, by rw [Obj.data_mapFields ho.2]; simp [rawInt]⟩ (F.change (Heap.SameBut.update ..) hI.2.1 hI.2.2) ?_
  exact (show News h₀ L s.heap ([] ++ (I, o) :: rest) from N).setIn (fun _ h => nomatch h) ha (Heap.SameBut.update ..) hu

theorem nextEnd_L (hh : A.handled = none) (F : Fr h₀ L s.heap m) (N : News h₀ L s.heap ((I, o) :: rest)) (ho : ItO o ax i) (ha : ∀ p ∈ rest, p.1 ≠ I) (hm : (ax, W.listOf its k) ∈ rest) (hx : its[i]? = none)
    (h : ∀ h₁ h' e, Fr h₀ L h₁ m → News h₀ L h₁ rest → Heap.MadeExc h₁ h' e "StopIteration" [] → E (.ref e) { s with heap := h' }) : wpAny (model prog w) A (call (.builtin "next") [.ref I]) Q E s := by
  have hI := N _ (.head _)
  have hit : s.heap.IsListIter I ax i := ⟨o, hI.1, ho.1, ho.2⟩
  have hl : s.heap.get? ax = some (W.listOf its k) := (N _ (.tail _ hm)).1
  refine call_function_entry (by decide +kernel) (by decide +kernel) kdk_entry_next (kdk_args_next _) ?_
  unfold Builtin.«next»
  refine wpAny_bind (m := someArgs "next" 1 2 _) (wpAny_of_eq (a := [Value.ref I]) (by first | rfl | kernel_rfl!) ?_)
  dsimp only
  refine wpAny_bind (wpAny_specialOf (name := Str.ofString "__next__") hit.typeIs slot_listiter_next.lookup ?_)
  refine wpAny_ite_split (fun hab => absurd hab (by decide)) (fun _ => ?_)
  refine wpAny_bind (wpAny_callSpecial?_slot (name := Str.ofString "__next__") hit.typeIs slot_listiter_next
    (wpAny_call_entry slot_listiter_next hit.typeIs entry_listiter_next ?_ (args_listiter_next _)))
  show wpAny _ _ (field (.ref I) 0 >>= _) _ _ s
  refine wpAny_bind (wpAny_field hI.1 ho.2 (x := .ref ax) rfl ?_)
  show wpAny _ _ (if (Value.ref ax == Value.none) = true then _ else _) _ _ s
  rw [if_neg (show ¬ ((Value.ref ax == Value.none) = true) from Bool.false_ne_true)]
  show wpAny _ _ (field (.ref I) 1 >>= _) _ _ s
  refine wpAny_bind (wpAny_field hI.1 ho.2 (x := .int i 0) rfl ?_)
  show wpAny _ _ (seqItems? (.ref ax) >>= _) _ _ s
  refine wpAny_bind (wpAny_seqItems hl rfl ?_)
  simp only [Int.toNat_natCast, hx]
  refine wpAny_bind (wpAny_rule (wpAny_bind (wpAny_setField hI.1 ho.2 (by simp) ?_)))
  have F1 := F.change (h' := s.heap.update I (Obj.mapFields (·.setIfInBounds 0 Value.none))) (Heap.SameBut.update ..) hI.2.1 hI.2.2
  have N1 : News h₀ L (s.heap.update I (Obj.mapFields (·.setIfInBounds 0 Value.none))) rest := fun p hp => ⟨(Heap.get?_update_other _ _ (Ne.symm (ha p hp))).trans (N p (.tail _ hp)).1, (N p (.tail _ hp)).2⟩
  show wpAny _ _ (newExc (.type "StopIteration") [] >>= _) _ _ _
  refine wpAny_bind ?_
  simp only [newExc, newTuple]
  refine wpAny_bind (wpAny_newObj_type ?_ (by size_fits))
  refine wpAny_bind (m := firstArgMember _ _) (wpAny_of_eq (a := Value.none) (by first | rfl | (simp only [firstArgMember]; rfl)) ?_)
  refine wpAny_newObj_type ?_ (by size_fits)
  simp only [raiseNew]
  refine wpAny_bind (wpAny_handled ?_)
  rw [show A.in1.handled = none from hh]
  refine wpAny_bind (wpAny_pure (wpAny_throw ?_))
  refine h _ _ _ F1 N1 ⟨fun b o e => Heap.get?_push_of_some _ (Heap.get?_push_of_some _ e), ?_, _, Heap.get?_push_size _ rfl, ?_, Heap.get?_push_of_some _ (Heap.get?_push_size _ rfl)⟩
  · exact Heap.get?_none_of_le (by rw [Heap.size_push]; exact Nat.le_succ _)
  · exact Heap.get?_none_of_le (Nat.le_refl _)
end
section
variable {prog : Program} {w : World} {M : Model} {A : Around} {E : Value → Shared → Prop} {s : Shared} {K : Frag} {x C f : Addr} {ox : Obj} {od : Option Obj}
/-- bytes(x) of an object whose class says __bytes__ -/
theorem own_bytes {Q : Value → Shared → Prop} (X : K.In s.heap) (I : InstAt s.heap x ox C od) (hs : findIn K (.ref C) "__bytes__" = some (some (.ref f))) (hf : isFn K (.ref f) = true)
    (h : wpAny (model prog w) A.in1.in1 (call (.ref f) [.ref x]) (fun v s' => ∃ b t, v = .bytes b t ∧ Q v s') E s) : wpAny (model prog w) A (call (.type "bytes") [.ref x]) Q E s := by
  refine callType_codes (Q₁ := fun obj s₁ => s₁.TypeIs obj "bytes" ∧ Q obj s₁) F.bm_called (F.bm_typeCall _) F.entry_object_init ?_ fun obj s₁ h₁ => ?_
  · refine codeAny_of_tree ?_
    show wpAny _ A.in1.in1 (do checkBuiltinCall "bytes.__new__" ⟨[.type "bytes", .ref x], []⟩; again (.builtin "bytes.__new__" ⟨[.type "bytes", .ref x], []⟩)) _ _ s
    refine wpAny_bind (wpAny_of_eq (F.bm_newCall _) (wpAny_pure ⟨plainId_quiet F.bm_plain _, codeAny_builtin F.bm_entry ?_⟩))
    rw [Around.under_plainId F.bm_plain _]
    unfold Builtin.«bytes.__new__»
    refine wpAny_bind (wpAny_of_eq (a := true) rfl ?_)
    refine bm_if_false rfl ?_
    refine wpAny_bind (wpAny_of_eq F.bm_sub ?_)
    refine bm_if_false rfl ?_
    refine wpAny_bind (wpAny_of_eq (F.bm_bind _) ?_)
    refine wpAny_bind (wpAny_of_eq (a := ()) rfl ?_)
    refine wpAny_bind (wpAny_of_eq (a := ()) rfl ?_)
    refine bm_if_false rfl ?_
    refine wpAny_bind (wpAny_bind (I.type.here ((looks_findIn X hs).here ?_)))
    dsimp only
    refine wpAny_bind (wpAny_rule ?_)
    refine wpAny_bind (special_fn X I hs (beq_iff_eq.mp hf) (wpAny_mono h (fun v s' hv => ?_) fun _ _ z => z))
    obtain ⟨b, t, rfl, hq⟩ := hv
    dsimp only
    refine wpAny_bind (wpAny_isInstance (T := "bytes") (b := true) (PySem.W.typeIs_bytes _ _ _) F.bm_sub ?_)
    refine bm_if_false rfl ?_
    exact wpAny_pure ⟨PySem.W.typeIs_bytes _ _ _, hq⟩
  · exact ⟨h₁.1, F.args_object_init_2 obj _, object_init_meets F.bm_called.init.lookup F.bm_called.made (by decide) prog w A.in1 _ s₁ ⟨h₁.1, rfl, h₁.2⟩⟩
end
section
variable {prog : Program} {w : World} {A : Around} {E : Value → Shared → Prop} {s : Shared} {b : Array UInt8} {t : Tok}
theorem dat_bytes : ∀ (l : List UInt8) (vs : List Value), vs.length = l.length → (∀ (j : Nat) v, vs[j]? = some v → ∃ (c : UInt8) (u : Tok), l[j]? = some c ∧ v = Value.int (c.toNat : Int) u) → DatAll [] vs (l.map fun c => Dat.int (c.toNat : Int))
  | [], [], _, _ => .nil
  | [], _ :: _, h, _ => by cases h
  | _ :: _, [], h, _ => by cases h
  | c :: l, v :: vs, h, hj => by
    obtain ⟨c', u, hc, hv⟩ := hj 0 v rfl
    obtain rfl : c = c' := Option.some.inj hc
    rw [hv]
    exact .cons (.int _ _) (dat_bytes l vs (Nat.succ.inj h) fun j v hv => hj (j + 1) v hv)
theorem len_silent (v : Value) (hT : s.TypeIs v "bytes") {Q : Bool → Shared → Prop} (h : Q false s) : wpAny (model prog w) A (Builtin.List.listLengthHint v) Q E s := by
  unfold Builtin.List.listLengthHint
  refine wpAny_bind (wpAny_specialOf hT FB.slot_bytes_len.lookup ?_)
  wp_delta
  refine wpAny_bind (wpAny_isInstance (T := "bytes") (b := true) hT (by rw [isSubtype_type]; kernel_rfl) ?_)
  show wpAny _ _ (typeOf v >>= _) _ _ _
  refine wpAny_bind (wpAny_typeOf (T := "bytes") hT ?_)
  exact wpAny_pure h
theorem list_bytes {R : Result → Shared → Prop} (hh : A.handled = none) (hlen : b.size ≤ 2 ^ 20) (S : Addr) (hS : s.heap.get? S = some { cls := .type "list", data := .seq #[] })
    (hR : ∀ h' tk acc' c', (∀ b o, b ≠ S → s.heap.get? b = some o → h'.get? b = some o) → h'.get? S = some { cls := .type "list", dict := none, data := .seq acc' c', slots := #[] } →
      ItemsOf (fun i v => ∃ c u, b[i]? = some c ∧ v = .int (c.toNat : Int) u) acc' b.size → R (.ok (.ret .none)) { s with heap := h', toks := tk }) :
    wpAny (model prog w) A.in1 (Builtin.«list.__init__» ⟨[.ref S, .bytes b t], []⟩)
      (fun fin s' => match fin with | .done f => R (.ok f) s' | .again c' => c'.quiet = true ∧ codeAny (model prog w) A c' R s') (fun e s' => R (.error e) s') s := by
  show wpAny _ _ (do let old ← Builtin.List.listItems (.ref S); Builtin.List.listUpdate (.ref S) (fun _ => #[]); letGo old.toList.reverse; Builtin.List.listExtendWith (.ref S) (.bytes b t) .none) _ _ s
  refine wpAny_bind ?_
  unfold Builtin.List.listItems
  refine wpAny_bind (wpAny_seqItems hS rfl (wpAny_pure ?_))
  show wpAny _ _ (updateSeq S (fun _ => #[]) >>= fun _ => letGo (#[] : Array Value).toList.reverse >>= fun _ => Builtin.List.listExtendWith (.ref S) (.bytes b t) .none) _ _ s
  refine wpAny_bind (wpAny_updateSeq hS rfl ?_)
  have hS₂ := Heap.get?_update_self (Obj.mapSeq (fun _ => (#[] : Array Value))) hS rfl
  have oth : ∀ b o, b ≠ S → s.heap.get? b = some o → (s.heap.update S (Obj.mapSeq (fun _ => (#[] : Array Value)))).get? b = some o :=
    fun b o hb e => (Heap.get?_update_other _ _ (Ne.symm hb)).trans e
  refine wpAny_bind (wpAny_letGo ?_)
  generalize hH : s.heap.update S (Obj.mapSeq (fun _ => (#[] : Array Value))) = H at hS₂ oth
  have hSlt : S < H.objs.size := Heap.lt_size hS₂
  have hSI : S ≠ H.objs.size := Nat.ne_of_lt hSlt
  have hSf : S ∉ [H.objs.size] := fun hm => hSI (List.mem_singleton.mp hm)
  unfold Builtin.List.listExtendWith
  refine wpAny_bind (wpAny_typeOf (T := "bytes") (PySem.W.typeIs_bytes _ _ _) ?_)
  have h1 : Builtin.List.listSameRef (.ref S) (.bytes b t) = false := rfl
  have h2 : (Value.type "bytes" == Value.type "list") = false := by decide
  have h3 : (Value.type "bytes" == Value.type "tuple") = false := by decide
  simp only [h1, h2, h3, Bool.or_false, Bool.false_eq_true, if_false]
  refine wpAny_bind (KBw.pyIter_bytes ?_)
  refine wpAny_bind (wpAny_holding (len_silent _ (PySem.W.typeIs_bytes _ _ _) ?_))
  refine wpAny_ite_split (fun hab => absurd hab (by decide)) (fun _ => ?_)
  have W := (KBw.walks (prog := prog) (w := w) (A := A.in1) hh H.objs.size b t).toS
  have hS₁ := Heap.get?_push_of_some { cls := .type "bytes_iterator", data := .fields #[.bytes b t, .int 0 0] } hS₂
  refine wpAny_pure ⟨plainId_quiet F.plain_extend_loop _, codeAny_extend_loopS W (by rw [sizeLine_eq]; omega) S hSf .none b.size 0 _ #[] _ rfl (Nat.zero_le _) ⟨_, Heap.get?_push_size _ rfl, rfl, rfl⟩ hS₁ (ItemsOf.nil _) fun s' acc' c' hm hS' hacc => ?_⟩
  rw [Moved.eq_with hm]
  refine hR s'.heap s'.toks acc' c' (fun b o hb e => hm.heap b o (fun hmem => ?_) (Heap.get?_push_of_some _ (oth b o hb e))) hS' hacc
  rcases List.mem_cons.mp hmem with e' | hmem
  · exact hb e'
  · exact absurd (Heap.lt_size (oth b o hb e)) (by rw [List.mem_singleton.mp hmem]; exact Nat.lt_irrefl _)

theorem call_list_bytes {Q : Value → Shared → Prop} {h₀ : Heap} {L : Addr} {m : Str → Option Value} {news : List (Addr × Obj)} (hh : A.handled = none) (hlen : b.size ≤ 2 ^ 20) (F : Fr h₀ L s.heap m) (N : News h₀ L s.heap news)
    (hQ : ∀ D h' tk (vs : List Value) c', (∀ p ∈ news, p.1 ≠ D) → Fr h₀ L h' m → News h₀ L h' ((D, W.listOf vs.toArray c') :: news) → DatAll [] vs (b.toList.map fun c => Dat.int (c.toNat : Int)) → Q (.ref D) { s with heap := h', toks := tk }) :
    wpAny (model prog w) A (call (.type "list") [.bytes b t]) Q E s := by
  refine callType_codes (Q₁ := fun obj s₁ => obj = .ref s.heap.objs.size ∧ s₁ = { s with heap := s.heap.push { cls := .type "list", data := .seq #[] } }) PySem.F.called_list (PySem.F.typeCall_list_1 _) PySem.F.entry_list_init
    (code_list_new _ ⟨rfl, rfl⟩) fun obj s₁ h₁ => ?_
  obtain ⟨rfl, rfl⟩ := h₁
  have hS : (s.heap.push { cls := .type "list", data := .seq #[] }).get? s.heap.objs.size = some { cls := .type "list", data := .seq #[] } := Heap.get?_push_size _ rfl
  refine ⟨⟨_, hS, rfl⟩, PySem.F.args_list_init_2 _ _, list_bytes (A := A.in1) hh hlen _ hS fun h' tk acc' c' hk hS' hacc => ?_⟩
  have hk' : ∀ b o, s.heap.get? b = some o → h'.get? b = some o := fun b o e => hk b o (Nat.ne_of_lt (Heap.lt_size e)) (Heap.get?_push_of_some _ e)
  refine ⟨rfl, hQ _ h' tk acc'.toList c' (fun p hp => Nat.ne_of_lt (Heap.lt_size (N p hp).1)) (F.keeps hk') (news_pushed F N hk' hS' rfl) ?_⟩
  refine dat_bytes _ _ (by rw [Array.length_toList, hacc.1, Array.length_toList]) fun j v hj => ?_
  obtain ⟨c, u, hc, hv⟩ := hacc.2 j v (by rw [← hj, Array.getElem?_toList])
  exact ⟨c, u, by rw [← hc, Array.getElem?_toList], hv⟩
end
end Mine
end
section
-- part U2
open PySem PySem.W PySem.Calls PySem.Spec PyProof.Rows
namespace Mine
section
variable {prog : Program} {w : World} {A : Around} {E : Value → Shared → Prop} {s : Shared} {x : Str} {t u : Tok}
theorem reg29 : True := by
  w_top off
  k_with_none
  trivial
theorem entry_encode : entryFor table "str.encode" = some Builtin.«str.encode» := entryFor_of_tree (by kernel_rfl)
theorem args_encode (a b : Value) : argsOk "str.encode" ⟨[a, b], []⟩ := by unfold argsOk; kernel_rfl
def toBytes (x : Str) : Array UInt8 := x.cps.map (·.toUInt8)
theorem findIdx_none : ∀ (l : List Nat), (∀ c ∈ l, c < 256) → l.toArray.findIdx? (fun c => decide (c ≥ 256)) = none := by
  intro l h
  rw [List.findIdx?_toArray, List.findIdx?_eq_none_iff]
  intro c hc
  have := h c hc
  simp; omega
theorem fold_bytes : ∀ (l : List Nat) (acc : Array UInt8), l.foldl (fun acc y => acc ++ ([y.toUInt8] : List UInt8).toArray) acc = acc ++ (l.map (·.toUInt8)).toArray
  | [], acc => by simp
  | c :: l, acc => by
    rw [List.foldl_cons, fold_bytes l]
    simp
theorem narrow_ok {Q : Array UInt8 → Shared → Prop} (id : String) (self : Value) (h2 : 2 ≤ x.cps.size) (hlt : ∀ c ∈ x.cps, c < 256) (hsz : x.cps.size ≤ 2 ^ 20) (h : Q (toBytes x) s) : wpAny (model prog w) A (Builtin._codecs.encodeNarrow id Builtin._codecs.latin1Codec none self x) Q E s := by
  unfold Builtin._codecs.encodeNarrow
  obtain ⟨n, hn⟩ : ∃ n, x.cps.size = n + 2 := ⟨x.cps.size - 2, by omega⟩
  have hlen : x.length = n + 2 := hn
  rw [hlen]
  dsimp only
  refine wpAny_bind ?_
  rw [KPc.range_list]
  rw [show List.range' 0 (n + 2) = 0 :: 1 :: List.range' 2 n from rfl]
  rw [List.forIn_cons]
  have e0 : x.cps[0]? = some (x.cps[0]'(by omega)) := Array.getElem?_eq_getElem _
  have c0 : (!Builtin._codecs.latin1Codec.bad (x.cps[0]'(by omega))) = true := by
    have := hlt _ (Array.getElem_mem (show 0 < x.cps.size by omega))
    show (!decide (_ ≥ 256)) = true
    simp; omega
  have en : x.cps[0 + x.cps.size]? = none := by simp
  refine wpAny_bind ?_
  dsimp only
  rw [if_neg (by decide), e0]
  dsimp only
  rw [if_pos c0]
  have ex : x.cps.extract 0 = x.cps := by simp
  rw [ex]
  have ef : (Array.findIdx? Builtin._codecs.latin1Codec.bad x.cps) = none := by
    exact findIdx_none x.cps.toList (fun c hc => hlt c (by simpa using hc))
  rw [ef]
  dsimp only [Option.getD_none]
  refine wpAny_pure ?_
  dsimp only
  rw [List.forIn_cons]
  refine wpAny_bind ?_
  dsimp only
  have hf : Array.foldl (fun acc y => acc ++ (Builtin._codecs.latin1Codec.bytesOf y).toArray) #[] x.cps.extract = toBytes x := by
    rw [ex]
    have := fold_bytes x.cps.toList #[]
    rw [← Array.foldl_toList]
    exact this.trans (by rw [Array.empty_append]; apply Array.ext'; simp [toBytes])
  have hs : ¬ (toBytes x).size > sizeLine := by
    have : (toBytes x).size = x.cps.size := by simp [toBytes]
    rw [this, sizeLine_eq]; omega
  simp only [hf, if_neg hs, en]
  refine wpAny_pure ?_
  dsimp only
  refine wpAny_pure ?_
  dsimp only
  exact wpAny_pure h

theorem encode_K {Q : Value → Shared → Prop} (h2 : 2 ≤ x.cps.size) (hlt : ∀ c ∈ x.cps, c < 256) (hsz : x.cps.size ≤ 2 ^ 20) (h : ∀ t' k, Q (.bytes (toBytes x) t') { s with toks := k }) :
    wpAny (model prog w) A (call (.builtin "str.encode") [.str x t, .str (Str.ofString "iso-8859-1") u]) Q E s := by
  refine wpAny_call_entry PySem.F.slot_str_encode (typeIs_str _ _ _) entry_encode ?_ (args_encode _ _)
  unfold Builtin.«str.encode»
  refine wpAny_bind (wpAny_of_eq (a := (Value.str x t, x, [Value.str (Str.ofString "iso-8859-1") u])) rfl ?_)
  dsimp only
  refine wpAny_bind (wpAny_of_eq (a := [some (Value.str (Str.ofString "iso-8859-1") u), none]) (by kernel_rfl) ?_)
  dsimp only
  refine wpAny_bind (wpAny_of_eq (a := some (Str.ofString "iso-8859-1")) (by kernel_rfl) ?_)
  refine wpAny_bind (wpAny_of_eq (a := none) rfl ?_)
  refine wpAny_bind ?_
  dsimp only [Option.getD_some]
  rw [show Builtin._codecs.encodeRoad "str.encode" (.str x t) x (Str.ofString "iso-8859-1") none = (do mkBytes (← Builtin._codecs.encodeNarrow "str.encode" Builtin._codecs.latin1Codec none (.str x t) x)) from by kernel_rfl]
  refine wpAny_bind (narrow_ok _ _ h2 hlt hsz ?_)
  refine wpAny_mkBytes (wpAny_pure ⟨_, rfl, h _ _⟩) ?_
  have : (toBytes x).size = x.cps.size := by simp [toBytes]
  rw [this, sizeLine_eq]; omega
end
end Mine
end
section
-- part S2
open PySem PySem.W PySem.Calls PySem.Spec PyProof.Rows PyProof.Rows.LCg
namespace Mine

section
variable {M : Model} {A : Around} {E : Value → Shared → Prop} {s : Shared} {x : Str} {t : Tok} {pl : Sem Bool} {Q : Value × List Value → Shared → Prop}
theorem reg30 : True := by
  w_top off
  k_with_none
  trivial
theorem gm_encode (h : Q (.builtin "str.encode", [.str x t]) s) : wpAny M A (getMethod (.str x t) (Str.ofString "encode") pl) Q E s := by
  with_reducible exact PySem.GM.of (.str x t) (typeIs_str _ _ _) PySem.F.slot_str_encode PySem.F.type_str_encode PySem.GM.noRef h
end
abbrev tabText (hs : List (Str × Str)) : Str := Txt.join (Str.ofString "\r\n") (hs.map hdLine ++ [Str.ofString "", Str.ofString ""])
section
theorem reg31 : True := by
  w_top off
  k_with_none
  k_with "own k_steps" => (repeat' (first
    | (k_unfold; (try dsimp only))
    | (dsimp only; k_unfold; (try dsimp only))
    | ((fail_if_success (with_reducible show PySem.wpAny _ _ (PySem.exec (PySem.Stmt.While _ _ _ _) _) _ _ _)); (fail_if_success (with_reducible show PySem.wpAny _ _ (PySem.exec (PySem.Stmt.For _ _ _ _ _) _) _ _ _)); (fail_if_success (with_reducible show PySem.wpAny _ _ (PySem.eval (PySem.Expr.ListComp _ _ _ _) _) _ _ _)); (fail_if_success (with_reducible show PySem.wpAny _ _ (PySem.exec (PySem.Stmt.Assign [PySem.Expr.Name _ _] (PySem.Expr.ListComp _ _ _ _) _) _) _ _ _)); (fail_if_success (with_reducible show PySem.wpAny _ _ (PySem.pyIter _) _ _ _)); (fail_if_success (with_reducible show PySem.W.UnrPostW _ _ _ _ _ _ _ _)); (first | walk1 | (dsimp only; walk1)))))
  k_with "own ktr_enter" => (first
    | (refine' code_def ?k1 ?k2 ?k3 ?k4 ?k5 ?kA ?kF ?kK ?k6 ?k7 ?k8 ?k9 ?kB ?_ ?c2 ?c3 ?c4 ?c5; (case kA => exact rfl); (case kF => exact rfl); (case kK => assumption); (case k1 => k_asm); (case k2 => k_asm); (case k3 => k_asm); (case k4 => k_asm); (case k5 => k_asm); (case k6 => k_is); (case k7 => k_is); (case k8 => ktr_room); (case k9 => first | exact BindsTo.of_eq rfl | exact binds_K (by k_in) rfl (by k_is) rfl rfl rfl); (case c5 => decide); (case kB => exact locs rfl); (case c2 => exact rfl); (case c3 => exact rfl); (case c4 => exact rfl); k_whole; intro zzg zzL zzh zzFG zzF zzN zzB zzX zzT; (try dsimp only); (try k_fold))
    | (refine' code_defC ?k1 ?k2 ?k3 ?k4 ?k5 ?kA ?kF ?kK ?k6 ?k7 ?k8 ?k9 ?kB ?kD ?_ ?c2 ?c3 ?c4; (case kA => exact rfl); (case kF => exact rfl); (case kK => assumption); (case k1 => k_asm); (case k2 => k_asm); (case k3 => k_asm); (case k4 => k_asm); (case k5 => k_asm); (case k6 => k_is); (case k7 => k_is); (case k8 => ktr_room); (case k9 => first | exact BindsTo.of_eq rfl | exact binds_K (by k_in) rfl (by k_is) rfl rfl rfl); (case kB => exact rfl); (case kD => decide +kernel); (case c2 => exact rfl); (case c3 => exact rfl); (case c4 => exact rfl); k_whole; intro zzg zzL zzh zztk zzcells zzFG zzF zzN zzY zzB zzX zzT zzl1; k_cells zzY; (try simp only [List.cons_append, List.nil_append] at zzN); (try dsimp only); (try k_fold))
    | (refine' kp_more ?k1 ?k2 ?k3 ?k4 ?k5 ?kA ?kF ?kK ?k6 ?k7 ?k8 ?kX ?kM ?kN ?kD ?kR ?kP ?kT ?kB ?_ ?c2 ?c3 ?c4 ?c5; (case kA => exact rfl); (case kF => exact rfl); (case kK => assumption); (case k1 => k_asm); (case k2 => k_asm); (case k3 => k_asm); (case k4 => k_asm); (case k5 => k_asm); (case k6 => k_is); (case k7 => k_is); (case k8 => ktr_room); (case kX => kp_lit); (case kM => exact rfl); (case kN => exact rfl); (case kD => kp_flats); (case kR => exact rfl); (case kP => exact rfl); (case kT => exact fun _ => rfl); (case kB => exact fun _ => locs rfl); (case c5 => decide); (case c2 => exact rfl); (case c3 => exact rfl); (case c4 => exact rfl); k_whole; intro zzD zzo zzg zzL zzh zztk zzl1 zzlo zzhs zzfs zzFG zzF zzN zzB zzX zzT; (try dsimp only); (try k_fold)))
  k_with "TPost" => ((first | refine TPost.ret ?_ | refine TPost.brk ?_; (try dsimp only)))
  k_with "own k_all" => (first | assumption | (refine all_lt (by assumption) ?_; (try dsimp only); omega) | (exact fun p hp => Ne.symm (‹∀ p ∈ _, _ ≠ p.1› p hp)))
  k_with "own k_mem" => (first | exact List.Mem.head _ | ktr_member | (refine' mem_tail ?_; k_mem))
  k_with "leaving ref" => ((k_here; first | (refine' leave_onX ?k1 ?k2 ?k3 ?k4 ?_ ?k5; (case k5 => rfl); (case k1 => assumption); (case k3 => assumption); (case k4 => assumption); (case k2 => assumption); k_whole; intro zzh zzR zzU) | (refine' leave_raiseS ?k1 (Heap.MadeExc.of (by assumption)) ?k2 ?k3 ?_; (case k2 => assumption); (case k1 => assumption); (case k3 => k_asm); k_whole; intro zzh zzt zzS zzR zzU; (try dsimp only at zzS zzR zzU ⊢))))
  k_with "getMethod str" => (((with_reducible show PySem.wpAny _ _ (PySem.getMethod (PySem.Value.str _ _) (PySem.Str.ofString "encode") _) _ _ _); k_dflt (refine gm_encode ?_)))
  k_with "call builtin:str.encode" => ((k_dflt (refine encode_K (by assumption) (by assumption) (by assumption) ?_); intro _ _))
  trivial
set_option maxHeartbeats 8000000 in
theorem bytes_c (w : World) (news : Led) (self dx hl : Addr) (tk : Tok) (hv : List Value) (hs : List (Str × Str)) (k : Nat) (h1 : (self, instObj 175 dx) ∈ news) (h2 : (dx, hdict w tk hl) ∈ news) (h3 : (hl, W.listOf hv.toArray k) ∈ news) (hD : DatAll news hv (hs.map hdD)) (hsh : ∀ p ∈ hs, p.1.length ≤ 2 ∧ p.2.length ≤ 2) (hsz : hv.length ≤ 1000)
    (hb2 : 2 ≤ (tabText hs).cps.size) (hblt : ∀ c ∈ (tabText hs).cps, c < 256) (hbsz : (tabText hs).cps.size ≤ 2 ^ 20) :
    Con w 6 158 [.ref self] [] news (fun k => ∀ t, k (.bytes (toBytes (tabText hs)) t) news) := by
  intro mean mg mb dp un gd cn cs a ccd cl outer A₀ base h₀ L mm s Q E B F X N T hk hd hu hret hexc
  refine wpAny_call ?_; ktr_enter
  k_steps
  refine kso_call (K := Mine.hd.heap_1 w.params) ?k1 (by k_in) (by k_inst) (by k_is) (by k_is) ?_
  (case k1 => ktr_units)
  refine use_x (str_c w news self dx hl _ hv hs k h1 h2 h3 hD hsh hsz) (by k_asm) (by k_asm) (by k_asm) (by k_asm) (by k_asm) (by first | exact rfl | assumption) (by ktr_room) (by ktr_units) ?_ ?_
  · intro t
    dsimp only
    intro h' tk' F' N'
    show wpAny _ _ _ _ _ _
    k_steps
    exact hret _ _ _ (by assumption) (by assumption)
  · trivial
end
end Mine
end
section
-- part V1
open PySem PySem.W PySem.Calls PySem.Spec PyProof.Rows PyProof.Rows.LCg
namespace Mine
theorem reg32 : True := by
  w_top off
  k_with_none
  trivial
/-- as ConX, for what raises StopIteration -/
abbrev ConS (w : World) (d : Nat) (f : Addr) (vs : List Value) (kw : List (Str × Value)) (news : Led) (Ret : (Value → Led → Prop) → Prop) (Exc : (Led → Prop) → Prop) : Prop :=
  ∀ (mean : ExcName → Option Value) (mg mb : Str → Option Value) (dp un : Nat) (gd : Option (List Code)) (cn : Str) (cs : Scope) (a : Addr) (ccd : Value) (cl : List (Str × Addr)) (outer : List Env) (A₀ : Around) (base h₀ : Heap) (L : Addr) (mm : Str → Option Value) (s : Shared) (Q E : Value → Shared → Prop),
    Below A₀ base outer h₀ → Fr h₀ L s.heap mm → (Mine.hd.heap_1 w.params).In h₀ → News h₀ L s.heap news → Top pv lz mean mg mb h₀ → cs.kind = .function → dp + d < recursionLimit → un + 8 * d < cLine →
    Ret (fun v news' => ∀ h' tk', Fr h₀ L h' mm → News h₀ L h' news' → Q v { s with heap := h', toks := tk' }) →
    Exc (fun news' => ∀ e t us g₂ h' tk', Fr h₀ L g₂ mm → g₂.UpToSlots h' → RaisedS base g₂ (envX cn cs L a ccd cl :: outer) e (.type "StopIteration") t us news' h' → E (.ref e) { s with heap := h', toks := tk' }) →
    wpAny (model PySem.Challenge.rw_kl0503_01.row.prog w) (ktrTop dp un gd cn cs L a ccd cl outer) (call (.ref f) vs kw) Q E s
theorem bor : ∀ q : Nat, q < 64 → ∀ r : Nat, r < 64 → Builtin.bitOr ((q : Int) * 2 ^ Int.toNat 6) (r : Int) = ((64 * q + r : Nat) : Int) := by decide +kernel
theorem band1 : ∀ n : Nat, n < 64 → Builtin.bitAnd (n : Int) 64 = 0 ∧ Builtin.bitAnd (n : Int) 63 = (n : Int) := by decide +kernel
theorem band2 : ∀ q : Nat, q < 64 → Builtin.bitAnd ((64 + q : Nat) : Int) 64 = 64 ∧ Builtin.bitAnd ((64 + q : Nat) : Int) 63 = (q : Int) := by decide +kernel
section
theorem reg33 : True := by
  w_top off
  k_with_none
  k_with "own k_steps" => (repeat' (first
    | (k_unfold; (try dsimp only))
    | (dsimp only; k_unfold; (try dsimp only))
    | ((fail_if_success (with_reducible show PySem.wpAny _ _ (PySem.exec (PySem.Stmt.While _ _ _ _) _) _ _ _)); (fail_if_success (with_reducible show PySem.wpAny _ _ (PySem.exec (PySem.Stmt.For _ _ _ _ _) _) _ _ _)); (fail_if_success (with_reducible show PySem.wpAny _ _ (PySem.eval (PySem.Expr.ListComp _ _ _ _) _) _ _ _)); (fail_if_success (with_reducible show PySem.wpAny _ _ (PySem.exec (PySem.Stmt.Assign [PySem.Expr.Name _ _] (PySem.Expr.ListComp _ _ _ _) _) _) _ _ _)); (fail_if_success (with_reducible show PySem.wpAny _ _ (PySem.pyIter _) _ _ _)); (fail_if_success (with_reducible show PySem.W.UnrPostW _ _ _ _ _ _ _ _)); (first | walk1 | (dsimp only; walk1)))))
  k_with "own ktr_enter" => (first
    | (refine' code_def ?k1 ?k2 ?k3 ?k4 ?k5 ?kA ?kF ?kK ?k6 ?k7 ?k8 ?k9 ?kB ?_ ?c2 ?c3 ?c4 ?c5; (case kA => exact rfl); (case kF => exact rfl); (case kK => assumption); (case k1 => k_asm); (case k2 => k_asm); (case k3 => k_asm); (case k4 => k_asm); (case k5 => k_asm); (case k6 => k_is); (case k7 => k_is); (case k8 => ktr_room); (case k9 => first | exact BindsTo.of_eq rfl | exact binds_K (by k_in) rfl (by k_is) rfl rfl rfl); (case c5 => decide); (case kB => exact locs rfl); (case c2 => exact rfl); (case c3 => exact rfl); (case c4 => exact rfl); k_whole; intro zzg zzL zzh zzFG zzF zzN zzB zzX zzT; (try dsimp only); (try k_fold))
    | (refine' code_defC ?k1 ?k2 ?k3 ?k4 ?k5 ?kA ?kF ?kK ?k6 ?k7 ?k8 ?k9 ?kB ?kD ?_ ?c2 ?c3 ?c4; (case kA => exact rfl); (case kF => exact rfl); (case kK => assumption); (case k1 => k_asm); (case k2 => k_asm); (case k3 => k_asm); (case k4 => k_asm); (case k5 => k_asm); (case k6 => k_is); (case k7 => k_is); (case k8 => ktr_room); (case k9 => first | exact BindsTo.of_eq rfl | exact binds_K (by k_in) rfl (by k_is) rfl rfl rfl); (case kB => exact rfl); (case kD => decide +kernel); (case c2 => exact rfl); (case c3 => exact rfl); (case c4 => exact rfl); k_whole; intro zzg zzL zzh zztk zzcells zzFG zzF zzN zzY zzB zzX zzT zzl1; k_cells zzY; (try simp only [List.cons_append, List.nil_append] at zzN); (try dsimp only); (try k_fold))
    | (refine' kp_more ?k1 ?k2 ?k3 ?k4 ?k5 ?kA ?kF ?kK ?k6 ?k7 ?k8 ?kX ?kM ?kN ?kD ?kR ?kP ?kT ?kB ?_ ?c2 ?c3 ?c4 ?c5; (case kA => exact rfl); (case kF => exact rfl); (case kK => assumption); (case k1 => k_asm); (case k2 => k_asm); (case k3 => k_asm); (case k4 => k_asm); (case k5 => k_asm); (case k6 => k_is); (case k7 => k_is); (case k8 => ktr_room); (case kX => kp_lit); (case kM => exact rfl); (case kN => exact rfl); (case kD => kp_flats); (case kR => exact rfl); (case kP => exact rfl); (case kT => exact fun _ => rfl); (case kB => exact fun _ => locs rfl); (case c5 => decide); (case c2 => exact rfl); (case c3 => exact rfl); (case c4 => exact rfl); k_whole; intro zzD zzo zzg zzL zzh zztk zzl1 zzlo zzhs zzfs zzFG zzF zzN zzB zzX zzT; (try dsimp only); (try k_fold)))
  k_with "TPost" => ((first | refine TPost.ret ?_ | refine TPost.brk ?_; (try dsimp only)))
  k_with "own k_all" => (first | assumption | (refine all_lt (by assumption) ?_; (try dsimp only); omega) | (exact fun p hp => Ne.symm (‹∀ p ∈ _, _ ≠ p.1› p hp)))
  k_with "own k_mem" => (first | exact List.Mem.head _ | ktr_member | (refine' mem_tail ?_; k_mem))
  k_with "leaving ref" => ((k_here; first | (refine' leave_onX ?k1 ?k2 ?k3 ?k4 ?_ ?k5; (case k5 => rfl); (case k1 => assumption); (case k3 => assumption); (case k4 => assumption); (case k2 => assumption); k_whole; intro zzh zzR zzU) | (refine' leave_raiseS ?k1 (Heap.MadeExc.of (by assumption)) ?k2 ?k3 ?_; (case k2 => assumption); (case k1 => assumption); (case k3 => k_asm); k_whole; intro zzh zzt zzS zzR zzU; (try dsimp only at zzS zzR zzU ⊢))))
  k_with "call builtin:next" => ((k_dflt (refine' next_L ?F ?N ?o ?a ?m ?x ?_; (case F => k_asm); (case N => k_asm); (case o => assumption); (case a => assumption); (case m => assumption); (case x => assumption)); intro _ _ _ _ _))
  trivial
set_option maxHeartbeats 8000000 in
theorem vint1_c (w : World) (rest : Led) (I ax : Addr) (its : Array Value) (k i n : Nat) (o : Obj) (t : Tok) (hn : n < 64) (ho : ItO o ax i) (ha : ∀ p ∈ rest, p.1 ≠ I) (hm : (ax, W.listOf its k) ∈ rest) (hx : its[i]? = some (.int (n : Int) t)) :
    Con w 2 216 [.ref I] [] ((I, o) :: rest) (fun kk => ∀ o' t, ItO o' ax (i + 1) → kk (.int (n : Int) t) ((I, o') :: rest)) := by
  intro mean mg mb dp un gd cn cs a ccd cl outer A₀ base h₀ L mm s Q E B F X N T hk hd hu hret hexc
  refine wpAny_call ?_; ktr_enter
  k_steps
  k_dflt (refine whl_start 3 ?_)
  k_steps
  refine WhlIf.no (by rw [(band1 n hn).1]; rfl) ?_
  k_steps
  rw [(band1 n hn).2]
  exact hret _ _ (by assumption) _ _ (by assumption) (by assumption)
set_option maxHeartbeats 8000000 in
theorem vint2_c (w : World) (rest : Led) (I ax : Addr) (its : Array Value) (k i q r : Nat) (o : Obj) (t1 t2 : Tok) (hq : q < 64) (hr : r < 64) (ho : ItO o ax i) (ha : ∀ p ∈ rest, p.1 ≠ I) (hm : (ax, W.listOf its k) ∈ rest) (hx : its[i]? = some (.int ((64 + q : Nat) : Int) t1)) (hx2 : its[i + 1]? = some (.int (r : Int) t2)) :
    Con w 2 216 [.ref I] [] ((I, o) :: rest) (fun kk => ∀ o' t, ItO o' ax (i + 1 + 1) → kk (.int ((64 * q + r : Nat) : Int) t) ((I, o') :: rest)) := by
  intro mean mg mb dp un gd cn cs a ccd cl outer A₀ base h₀ L mm s Q E B F X N T hk hd hu hret hexc
  refine wpAny_call ?_; ktr_enter
  k_steps
  k_dflt (refine whl_start 3 ?_)
  k_steps
  refine WhlIf.yes (by rw [(band2 q hq).1]; rfl) ?_
  have e2 := (band2 q hq).2
  rename Fr _ _ _ _ => lF
  rw [e2] at lF
  k_steps
  refine WhlIf.no (by rw [(band1 r hr).1]; rfl) ?_
  k_steps
  rw [(band1 r hr).2, bor q hq r hr]
  exact hret _ _ (by assumption) _ _ (by assumption) (by assumption)
set_option maxHeartbeats 8000000 in
theorem vint0_c (w : World) (rest : Led) (I ax : Addr) (its : Array Value) (k i : Nat) (o : Obj) (ho : ItO o ax i) (ha : ∀ p ∈ rest, p.1 ≠ I) (hm : (ax, W.listOf its k) ∈ rest) (hx : its[i]? = none) :
    ConS w 2 216 [.ref I] [] ((I, o) :: rest) (fun _ => True) (fun kk => kk rest) := by
  intro mean mg mb dp un gd cn cs a ccd cl outer A₀ base h₀ L mm s Q E B F X N T hk hd hu hret hexc
  refine wpAny_call ?_; ktr_enter
  k_steps
  refine nextEnd_L rfl (by k_asm) (by k_asm) ho ha hm hx ?_
  intro h₁ h' e F1 N1 hM
  k_steps
  exact hexc _ _ _ _ _ _ (by assumption) (by assumption) (by assumption)
end
end Mine
end
section
-- part V2
open PySem PySem.W PySem.Calls PySem.Spec PyProof.Rows PyProof.Rows.LCg
namespace Mine

theorem reg34 : True := by
  w_top off
  k_with_none
  trivial
def enc (n : Nat) : List Int := if n < 64 then [(n : Int)] else [((64 + n / 64 : Nat) : Int), ((n % 64 : Nat) : Int)]
theorem dat_nil {vs : List Value} : DatAll [] vs [] → vs = [] := fun h => by cases h; rfl
theorem dat_int {vs : List Value} {i : Int} {ds : List Dat} (h : DatAll [] vs (Dat.int i :: ds)) : ∃ t r, vs = Value.int i t :: r ∧ DatAll [] r ds := by
  cases h with
  | cons h1 r => cases h1; exact ⟨_, _, rfl, r⟩
theorem stop_exc : isSubtype (.type "StopIteration") (.type "BaseException") = pure true := by rw [isSubtype_type]; kernel_rfl
theorem stop_tup : isSubtype (.type ((Manifest.find? "StopIteration").elim "type" fun x => x.metatype)) (.type "tuple") = pure false := by
  rw [show ((Manifest.find? "StopIteration").elim "type" fun x => x.metatype) = "type" from by kernel_rfl, isSubtype_type]; kernel_rfl
theorem use_s {w : World} {d : Nat} {f : Addr} {vs : List Value} {kw : List (Str × Value)} {news : Led} {Ret : (Value → Led → Prop) → Prop} {Exc : (Led → Prop) → Prop} (C : ConS w d f vs kw news Ret Exc)
    {mean : ExcName → Option Value} {mg mb : Str → Option Value} {dp un : Nat} {gd : Option (List Code)} {cn : Str} {cs : Scope} {a : Addr} {ccd : Value} {cl : List (Str × Addr)} {outer : List Env} {A₀ : Around} {base h₀ : Heap} {L : Addr} {mm : Str → Option Value} {s : Shared} {Q E : Value → Shared → Prop}
    (B : Below A₀ base outer h₀) (F : Fr h₀ L s.heap mm) (X : (Mine.hd.heap_1 w.params).In h₀) (N : News h₀ L s.heap news) (T : Top pv lz mean mg mb h₀) (hk : cs.kind = .function) (hd : dp + d < recursionLimit) (hu : un + 8 * d < cLine)
    (ret : Ret (fun v news' => ∀ h' tk', Fr h₀ L h' mm → News h₀ L h' news' → Q v { s with heap := h', toks := tk' }))
    (exc : Exc (fun news' => ∀ e t us g₂ h' tk', Fr h₀ L g₂ mm → g₂.UpToSlots h' → RaisedS base g₂ (envX cn cs L a ccd cl :: outer) e (.type "StopIteration") t us news' h' → E (.ref e) { s with heap := h', toks := tk' })) :
    wpAny (model PySem.Challenge.rw_kl0503_01.row.prog w) (ktrTop dp un gd cn cs L a ccd cl outer) (call (.ref f) vs kw) Q E s := C _ _ _ _ _ _ _ _ _ _ _ _ _ _ _ _ _ _ _ _ B F X N T hk hd hu ret exc
section
variable {prog : Program} {w : World} {A : Around} {E : Value → Shared → Prop} {Q : Flow → Shared → Prop} {s : Shared} {env : Env} {h₀ : Heap} {L : Addr}
theorem hI2 {T I D2 : Addr} {o oT oD : Obj} {news : Led} (hT : ∀ p ∈ (I, o) :: (D2, oD) :: news, p.1 ≠ T) (hI : ∀ p ∈ (D2, oD) :: news, p.1 ≠ I) : ∀ p ∈ (T, oT) :: (D2, oD) :: news, p.1 ≠ I := fun p hp => by
  rcases List.mem_cons.mp hp with rfl | hp
  · exact Ne.symm (hT _ (.head _))
  · exact hI p hp
theorem hT2 {T I : Addr} {o o2 : Obj} {l : Led} (hT : ∀ p ∈ (I, o) :: l, p.1 ≠ T) : ∀ p ∈ (I, o2) :: l, p.1 ≠ T := fun p hp => by
  rcases List.mem_cons.mp hp with rfl | hp
  · exact hT (I, o) (.head _)
  · exact hT p (.tail _ hp)
theorem drop_get {its r : List Value} {i : Nat} {v : Value} (e : its.drop i = v :: r) : its.toArray[i]? = some v ∧ its.drop (i + 1) = r := by
  constructor
  · rw [List.getElem?_toArray]
    have := congrArg (fun l => l[0]?) e
    simpa using this
  · have := congrArg List.tail e
    rw [List.tail_drop] at this
    exact this
theorem While_inv3 {test : PySem.Expr} {body : List Stmt} {pos : Pos} {m : Str → Option Value} {news : Led} (J : Led → (Str → Option Value) → Nat → (Str → Option Value) → Led → Prop) {n₀ : Nat}
    (F : Fr h₀ L s.heap m) (N : News h₀ L s.heap news) (hJ : J news m n₀ m news)
    (turn : ∀ n m₁ news₁ h₁ tk₁, Fr h₀ L h₁ m₁ → News h₀ L h₁ news₁ → J news m n m₁ news₁ →
      wpAny (model prog w) A (isTrue test env (eval test env)) (fun b s₂ =>
        if b = true then wpAny (model prog w) A (execs body env) (WhileStep2 h₀ L s (J news m) Q n) E s₂ else Q .next s₂) E { s with heap := h₁, toks := tk₁ })
    (hE : PassesOwn (model prog w) A env E := by passes_own) :
    wpAny (model prog w) A (exec (.While test body [] pos) env) Q E s := While_inv2 (J news m) F N hJ turn hE
theorem drop4 {h : Heap} {a b c d : Addr × Obj} {l : Led} (N : News h₀ L h (a :: b :: c :: d :: l)) : News h₀ L h (a :: b :: c :: l) := fun p hp => N p (by
  rcases List.mem_cons.mp hp with rfl | hp
  · exact .head _
  rcases List.mem_cons.mp hp with rfl | hp
  · exact .tail _ (.head _)
  rcases List.mem_cons.mp hp with rfl | hp
  · exact .tail _ (.tail _ (.head _))
  · exact .tail _ (.tail _ (.tail _ (.tail _ hp))))
end
section
theorem reg35 : True := by
  w_top off
  k_with_none
  k_with "own k_steps" => (repeat' (first
    | (k_unfold; (try dsimp only))
    | (dsimp only; k_unfold; (try dsimp only))
    | ((fail_if_success (with_reducible show PySem.wpAny _ _ (PySem.exec (PySem.Stmt.While _ _ _ _) _) _ _ _)); (fail_if_success (with_reducible show PySem.wpAny _ _ (PySem.exec (PySem.Stmt.For _ _ _ _ _) _) _ _ _)); (fail_if_success (with_reducible show PySem.wpAny _ _ (PySem.eval (PySem.Expr.ListComp _ _ _ _) _) _ _ _)); (fail_if_success (with_reducible show PySem.wpAny _ _ (PySem.exec (PySem.Stmt.Assign [PySem.Expr.Name _ _] (PySem.Expr.ListComp _ _ _ _) _) _) _ _ _)); (fail_if_success (with_reducible show PySem.wpAny _ _ (PySem.pyIter _) _ _ _)); (fail_if_success (with_reducible show PySem.W.UnrPostW _ _ _ _ _ _ _ _)); (first | walk1 | (dsimp only; walk1)))))
  k_with "own ktr_enter" => (first
    | (refine' code_defT ?k1 ?k2 ?k3 ?k4 ?k5 ?kA ?kF ?kK ?k6 ?k7 ?k8 ?k9 ?kB ?_ ?c2 ?c3 ?c4 ?c5; (case kA => exact rfl); (case kF => exact rfl); (case kK => assumption); (case k1 => k_asm); (case k2 => k_asm); (case k3 => k_asm); (case k4 => k_asm); (case k5 => k_asm); (case k6 => k_is); (case k7 => k_is); (case k8 => ktr_room); (case k9 => first | exact BindsTo.of_eq rfl | exact binds_K (by k_in) rfl (by k_is) rfl rfl rfl); (case c5 => decide); (case kB => exact locs rfl); (case c2 => exact rfl); (case c3 => exact rfl); (case c4 => exact rfl); k_whole; intro zzg zzL zzh zzFG zzF zzN zzB zzX zzT zzD; (try dsimp only); (try k_fold))
    | (refine' code_def ?k1 ?k2 ?k3 ?k4 ?k5 ?kA ?kF ?kK ?k6 ?k7 ?k8 ?k9 ?kB ?_ ?c2 ?c3 ?c4 ?c5; (case kA => exact rfl); (case kF => exact rfl); (case kK => assumption); (case k1 => k_asm); (case k2 => k_asm); (case k3 => k_asm); (case k4 => k_asm); (case k5 => k_asm); (case k6 => k_is); (case k7 => k_is); (case k8 => ktr_room); (case k9 => first | exact BindsTo.of_eq rfl | exact binds_K (by k_in) rfl (by k_is) rfl rfl rfl); (case c5 => decide); (case kB => exact locs rfl); (case c2 => exact rfl); (case c3 => exact rfl); (case c4 => exact rfl); k_whole; intro zzg zzL zzh zzFG zzF zzN zzB zzX zzT; (try dsimp only); (try k_fold))
    | (refine' code_defC ?k1 ?k2 ?k3 ?k4 ?k5 ?kA ?kF ?kK ?k6 ?k7 ?k8 ?k9 ?kB ?kD ?_ ?c2 ?c3 ?c4; (case kA => exact rfl); (case kF => exact rfl); (case kK => assumption); (case k1 => k_asm); (case k2 => k_asm); (case k3 => k_asm); (case k4 => k_asm); (case k5 => k_asm); (case k6 => k_is); (case k7 => k_is); (case k8 => ktr_room); (case k9 => first | exact BindsTo.of_eq rfl | exact binds_K (by k_in) rfl (by k_is) rfl rfl rfl); (case kB => exact rfl); (case kD => decide +kernel); (case c2 => exact rfl); (case c3 => exact rfl); (case c4 => exact rfl); k_whole; intro zzg zzL zzh zztk zzcells zzFG zzF zzN zzY zzB zzX zzT zzl1; k_cells zzY; (try simp only [List.cons_append, List.nil_append] at zzN); (try dsimp only); (try k_fold))
    | (refine' kp_more ?k1 ?k2 ?k3 ?k4 ?k5 ?kA ?kF ?kK ?k6 ?k7 ?k8 ?kX ?kM ?kN ?kD ?kR ?kP ?kT ?kB ?_ ?c2 ?c3 ?c4 ?c5; (case kA => exact rfl); (case kF => exact rfl); (case kK => assumption); (case k1 => k_asm); (case k2 => k_asm); (case k3 => k_asm); (case k4 => k_asm); (case k5 => k_asm); (case k6 => k_is); (case k7 => k_is); (case k8 => ktr_room); (case kX => kp_lit); (case kM => exact rfl); (case kN => exact rfl); (case kD => kp_flats); (case kR => exact rfl); (case kP => exact rfl); (case kT => exact fun _ => rfl); (case kB => exact fun _ => locs rfl); (case c5 => decide); (case c2 => exact rfl); (case c3 => exact rfl); (case c4 => exact rfl); k_whole; intro zzD zzo zzg zzL zzh zztk zzl1 zzlo zzhs zzfs zzFG zzF zzN zzB zzX zzT; (try dsimp only); (try k_fold)))
  k_with "TPost" => ((first | refine TPost.ret ?_ | refine TPost.brk ?_; (try dsimp only)))
  k_with "own k_all" => (first | assumption | (refine all_lt (by assumption) ?_; (try dsimp only); omega) | (exact fun p hp => Ne.symm (‹∀ p ∈ _, _ ≠ p.1› p hp)))
  k_with "own k_mem" => (first | exact List.Mem.head _ | ktr_member | (refine' mem_tail ?_; k_mem))
  k_with "leaving ref" => ((k_here; first | (refine' leave_onX ?k1 ?k2 ?k3 ?k4 ?_ ?k5; (case k5 => rfl); (case k1 => assumption); (case k3 => assumption); (case k4 => assumption); (case k2 => assumption); k_whole; intro zzh zzR zzU) | (refine' leave_raiseS ?k1 (Heap.MadeExc.of (by assumption)) ?k2 ?k3 ?_; (case k2 => assumption); (case k1 => assumption); (case k3 => k_asm); k_whole; intro zzh zzt zzS zzR zzU; (try dsimp only at zzS zzR zzU ⊢))))
  k_with "noteFrame ref" => ((k_dflt (refine' caught_S0 (zzT := "StopIteration") ?R ?F ?K ?U ?XB ?TB ?D ?T0 ?ex PyProof.Rows.Boot.«StopIteration» ?hn stop_exc stop_tup ?hs ?_; (case R => assumption); (case F => assumption); (case K => assumption); (case U => assumption); (case XB => assumption); (case TB => assumption); (case D => assumption); (case T0 => first | assumption | exact KtsTurn.refl); (case hs => exact isSubtype_stop); (case ex => k_is); (case hn => decide); k_whole); intro zzh zzg n₂ zzT zzF N₂ G' zzN K' zzX P' zzD; (try k_sweep)))
  k_with "call builtin:iter" => ((k_dflt (refine' iter_L ?F ?N ?m ?_; (case F => k_asm); (case N => k_asm); (case m => k_mem)); intro _ _ _ _ _ _ _))
  trivial
set_option maxHeartbeats 8000000 in
theorem read_c (w : World) (news : Led) (D : Addr) (vs : List Value) (k : Nat) (ns : List Nat) (hm : (D, W.listOf vs.toArray k) ∈ news) (hD : DatAll [] vs ((ns.flatMap enc).map Dat.int)) (hn : ∀ n ∈ ns, n < 4096) (hsz : vs.length ≤ 2 ^ 20) (hns : ns.length ≤ 900) :
    ConT w 4 322 [.ref D] [] news (fun kk => ∀ T us c, (∀ p ∈ news, p.1 ≠ T) → DatAll [] us ((ns ++ [5]).map fun n => Dat.int ((n : Nat) : Int)) → kk (.ref T) ((T, W.listOf us.toArray c) :: news)) := by
  intro mean mg mb dp un gd cn cs a ccd cl A₀ h₀ L mm s Q E B F X N T hk hd hu hret
  refine wpAny_call ?_; ktr_enter
  k_steps
  refine kmk_add_lit (by k_asm) (by k_asm) (News.isList (by k_asm) (mem_tail hm)) (News.isList (by k_asm) (by k_mem)) rfl ?_ (by simp only [sizeLine_eq, List.length_cons, List.length_nil]; omega)
  intro D2 h2 F2 N2 l2
  obtain ⟨its, hz⟩ : ∃ zs : List Value, ∃ t, zs = vs ++ [Value.int 5 t] ∧ News _ _ h2 ((D2, W.listOf zs.toArray 0) :: _) := ⟨_, _, rfl, N2⟩
  obtain ⟨t5, hz, N2'⟩ := hz
  clear N2
  k_steps
  rename News _ _ _ _ => lN
  rename Fr _ _ _ _ => lF
  replace lN := drop4 lN
  rename _ < _ ∧ _ < _ ∧ _ < _ ∧ AllLt _ _ => lt1
  rename ∀ p : Addr × Obj, p ∈ _ → p.1 ≠ _ => ne1
  refine While_inv3 (n₀ := (ns ++ [5]).length) (fun n0 m0 kk m₁ n₁ => m₁ = m0 ∧ ∃ (T I : Addr) (o o' : Obj) (us : List Value) (c i : Nat) (rs ds : List Nat), n0 = (T, W.listOf #[] 0) :: (I, o) :: (D2, W.listOf its.toArray 0) :: news ∧ n₁ = (T, W.listOf us.toArray c) :: (I, o') :: (D2, W.listOf its.toArray 0) :: news ∧
    (∀ p ∈ (I, o') :: (D2, W.listOf its.toArray 0) :: news, p.1 ≠ T) ∧ (∀ p ∈ (D2, W.listOf its.toArray 0) :: news, p.1 ≠ I) ∧ ItO o' D2 i ∧ DatAll [] us (ds.map fun n => Dat.int ((n : Nat) : Int)) ∧ DatAll [] (its.drop i) ((rs.flatMap enc).map Dat.int) ∧ ds ++ rs = ns ++ [5] ∧ kk = rs.length) lF lN ?_ ?_
  · refine ⟨rfl, _, _, _, _, [], 0, 0, ns ++ [5], [], rfl, rfl, ?_, ?_, by assumption, .nil, ?_, rfl, rfl⟩
    · intro p hp
      rcases List.mem_cons.mp hp with rfl | hp
      · exact Nat.ne_of_lt lt1.1
      rcases List.mem_cons.mp hp with rfl | hp
      · exact Nat.ne_of_lt lt1.2.1
      · exact Nat.ne_of_lt (of_allLt lt1.2.2.2 p hp)
    · intro p hp
      rcases List.mem_cons.mp hp with rfl | hp
      · exact ne1 _ (.head _)
      · exact ne1 _ (.tail _ (.tail _ hp))
    · rw [List.flatMap_append, List.map_append]
      rw [hz]
      exact hD.append (.one (.int _ _))
  · clear lF lN lt1 ne1
    rintro k m₁ n₁ h₁ tk₁ lF lN ⟨rfl, T, I, o, o', us, c, i, rs, ds, e0, rfl, hT, hI, ho, hus, hit, hds, rfl⟩
    cases e0
    cases rs with
    | nil =>
      have hx : its.toArray[i]? = none := by
        have := dat_nil hit
        rw [List.getElem?_toArray, List.getElem?_eq_none (by rw [List.drop_eq_nil_iff] at this; exact this)]
      k_steps
      refine use_s (vint0_c w _ _ D2 its.toArray 0 i o' ho (hI2 hT hI) (.tail _ (.head _)) hx) (by k_asm) (by k_asm) (by k_asm) (news_swap lN) (by k_asm) (by first | exact rfl | assumption) (by ktr_room) (by ktr_units) trivial ?_
      intro e t us' g₂ h' tk' F' U' R'
      k_steps
      rw [List.append_nil] at hds
      subst hds
      trace_state
      rename News h₀ L _ ((_, W.listOf us.toArray c) :: _) => kN
      exact hret _ us c (fun p hp => hT p (.tail _ (.tail _ hp))) hus _ _ (by assumption) (news_sub kN sub_one)
    | cons n rs =>
      have hmem : n ∈ ns ++ [5] := hds ▸ List.mem_append.mpr (.inr (.head _))
      have hn4 : n < 4096 := by
        rcases List.mem_append.mp hmem with h | h
        · exact hn n h
        · rw [List.mem_singleton.mp h]; decide
      have hlus : us.length ≤ 1000 := by
        have e1 := hus.length
        have e2 := congrArg List.length hds
        rw [List.length_map] at e1
        simp only [List.length_append, List.length_cons, List.length_nil] at e2
        omega
      by_cases h64 : n < 64
      · have e1 : enc n = [(n : Int)] := if_pos h64
        rw [List.flatMap_cons, e1] at hit
        obtain ⟨t1, r, ed, hr⟩ := dat_int hit
        obtain ⟨hx, hdr⟩ := drop_get ed
        k_steps
        refine use_x (vint1_c w _ _ D2 its.toArray 0 i n o' t1 h64 ho (hI2 hT hI) (.tail _ (.head _)) hx) (by k_asm) (by k_asm) (by k_asm) (news_swap lN) (by k_asm) (by first | exact rfl | assumption) (by ktr_room) (by ktr_units) ?_ trivial
        intro o2 t2 ho2
        dsimp only
        intro h' tk' F' N'
        k_steps
        refine append_L (by k_asm) N' (Upd.tail (hT2 hT _ (.head _)) (Upd.head (fun p hp => hT p (.tail _ hp)))) hlus ?_
        intro h' F' N'
        k_steps
        refine ⟨_, _, _, _, rs.length, rfl, by assumption, news_swap (by assumption), Nat.lt_succ_self _, rfl, _, _, _, _, us ++ [.int (n : Int) t2], _, i + 1, rs, ds ++ [n], rfl, rfl, hT2 hT, hI, ho2, ?_, ?_, ?_, rfl⟩
        · rw [List.map_append]; exact hus.append (.one (.int _ _))
        · rw [hdr]; exact hr
        · rw [List.append_assoc]; exact hds
      · have e1 : enc n = [((64 + n / 64 : Nat) : Int), ((n % 64 : Nat) : Int)] := if_neg h64
        rw [List.flatMap_cons, e1] at hit
        obtain ⟨t1, r1, ed1, hr1⟩ := dat_int hit
        obtain ⟨hx, hdr1⟩ := drop_get ed1
        obtain ⟨t2, r, ed, hr⟩ := dat_int hr1
        obtain ⟨hx2, hdr⟩ := drop_get (hdr1.trans ed)
        have en : 64 * (n / 64) + n % 64 = n := Nat.div_add_mod n 64
        k_steps
        refine use_x (vint2_c w _ _ D2 its.toArray 0 i (n / 64) (n % 64) o' t1 t2 (by omega) (Nat.mod_lt _ (by decide)) ho (hI2 hT hI) (.tail _ (.head _)) hx hx2) (by k_asm) (by k_asm) (by k_asm) (news_swap lN) (by k_asm) (by first | exact rfl | assumption) (by ktr_room) (by ktr_units) ?_ trivial
        intro o2 t3 ho2
        dsimp only
        rw [en]
        intro h' tk' F' N'
        k_steps
        refine append_L (by k_asm) N' (Upd.tail (hT2 hT _ (.head _)) (Upd.head (fun p hp => hT p (.tail _ hp)))) hlus ?_
        intro h' F' N'
        k_steps
        refine ⟨_, _, _, _, rs.length, rfl, by assumption, news_swap (by assumption), Nat.lt_succ_self _, rfl, _, _, _, _, us ++ [.int (n : Int) t3], _, i + 1 + 1, rs, ds ++ [n], rfl, rfl, hT2 hT, hI, ho2, ?_, ?_, ?_, rfl⟩
        · rw [List.map_append]; exact hus.append (.one (.int _ _))
        · rw [hdr]; exact hr
        · rw [List.append_assoc]; exact hds
end
end Mine
end
section
-- part K1
open PySem PySem.W PySem.Calls PySem.Spec PyProof.Rows PyProof.Rows.LCg
namespace Mine

theorem reg36 : True := by
  w_top off
  k_with_none
  trivial
abbrev Bk := List (Int × Option Int)
def valD : Option Int → Dat
  | some v => .int v
  | none => .none
abbrev bkD (p : Int × Option Int) : Dat := .tuple [.int p.1, valD p.2]
theorem bk_inv {news : Led} {v : Value} {p : Int × Option Int} (h : DatIn news v (bkD p)) : ∃ a t v2 n, v = .ref a ∧ (a, tup2 (.int p.1 t) v2 n) ∈ news ∧ DatIn [] v2 (valD p.2) := by
  obtain ⟨x, y⟩ := p
  cases h with
  | tuple hm r =>
    cases r with
    | cons h1 r =>
      cases h1
      cases r with
      | cons h2 r =>
        cases r
        refine ⟨_, _, _, _, rfl, hm, ?_⟩
        cases y with
        | none => cases h2; exact .none
        | some y => cases h2; exact .int _ _
/-- the book as the law keeps it, and what it tells -/
def keptF (bs : Bk) (kind : Nat) (name value : Int) : Bk × Dat :=
  let mine := (bs.filter fun p => lawOne p.1 name).map (·.2)
  let rest := bs.filter fun p => !lawOne p.1 name
  if badName name then (bs, .bool false)
  else if kind = 1 then (rest, .none)
  else if kind = 3 ∧ mine ≠ [] then (bs, match mine.headD none with | some v => .str (sgn v) | none => .str (Str.ofString ""))
  else if kind = 4 then (bs ++ [(name, none)], .none)
  else if badValue value then (if kind = 2 then rest else bs, .bool false)
  else if kind = 2 then (rest ++ [(name, some value)], .none)
  else (bs ++ [(name, some value)], if kind = 3 then .str (sgn value) else .none)
theorem sN1 {a b c : Addr × Obj} {news more : Led} : ∀ p ∈ news, p ∈ a :: b :: c :: (news ++ more) := fun _ hp => .tail _ (.tail _ (.tail _ (List.mem_append_left _ hp)))
theorem sN2 {a b c d e : Addr × Obj} {news more : Led} : ∀ p ∈ news, p ∈ a :: b :: c :: d :: e :: (news ++ more) := fun p hp => .tail _ (.tail _ (sN1 p hp))
theorem sN3 {a b c d e f : Addr × Obj} {news more : Led} : ∀ p ∈ news, p ∈ a :: b :: c :: d :: e :: f :: (news ++ more) := fun p hp => .tail _ (sN2 p hp)
theorem bk_new {T : Addr} {n : Int} {t : Tok} {v2 : Value} {y : Option Int} {k : Nat} {a b : Addr × Obj} {l : Led} (h : DatIn [] v2 (valD y) := by first | exact .none | exact .int _ _) : DatIn (a :: b :: (T, tup2 (.int n t) v2 k) :: l) (.ref T) (bkD (n, y)) :=
  DatIn.tuple (vs := [.int n t, v2]) (.tail _ (.tail _ (.head _))) (.cons (.int _ _) (.cons (h.mono fun _ h => (List.not_mem_nil h).elim) .nil))
theorem ins4 {a b c t : Addr × Obj} {n0 more : Led} : ∀ p ∈ a :: b :: c :: (n0 ++ (t :: more)), p ∈ t :: a :: b :: c :: (n0 ++ more) := fun p hp => by
  simp only [List.mem_cons, List.mem_append] at hp ⊢
  rcases hp with h | h | h | h | h | h <;> simp [h]
theorem off4 {n0 more : Led} {t : Addr × Obj} {P : Addr × Obj → Prop} (h : ∀ p ∈ n0 ++ more, P p) (ht : P t) : ∀ p ∈ n0 ++ (t :: more), P p := fun p hp => by
  simp only [List.mem_cons, List.mem_append] at hp
  rcases hp with h1 | rfl | h1
  · exact h p (List.mem_append_left _ h1)
  · exact ht
  · exact h p (List.mem_append_right _ h1)
theorem sub4 {n0 more : Led} {t : Addr × Obj} : ∀ p ∈ n0 ++ more, p ∈ n0 ++ (t :: more) := fun p hp => by
  simp only [List.mem_cons, List.mem_append] at hp ⊢
  rcases hp with h | h <;> simp [h]
section
theorem reg37 : True := by
  w_top off
  k_with_none
  k_with "own k_steps" => (repeat' (first
    | (k_unfold; (try dsimp only))
    | (dsimp only; k_unfold; (try dsimp only))
    | ((fail_if_success (with_reducible show PySem.wpAny _ _ (PySem.exec (PySem.Stmt.While _ _ _ _) _) _ _ _)); (fail_if_success (with_reducible show PySem.wpAny _ _ (PySem.exec (PySem.Stmt.For _ _ _ _ _) _) _ _ _)); (fail_if_success (with_reducible show PySem.wpAny _ _ (PySem.eval (PySem.Expr.ListComp _ _ _ _) _) _ _ _)); (fail_if_success (with_reducible show PySem.wpAny _ _ (PySem.exec (PySem.Stmt.Assign [PySem.Expr.Name _ _] (PySem.Expr.ListComp _ _ _ _) _) _) _ _ _)); (fail_if_success (with_reducible show PySem.wpAny _ _ (PySem.pyIter _) _ _ _)); (fail_if_success (with_reducible show PySem.W.UnrPostW _ _ _ _ _ _ _ _)); (fail_if_success (with_reducible show PySem.wpAny _ _ (PySem.compareOp PySem.CmpOp.NotEq (PySem.Value.ref _) _) _ _ _)); (fail_if_success (with_reducible show PySem.wpAny _ _ (PySem.binaryOp PySem.Operator.Add (PySem.Value.ref _) (PySem.Value.ref _)) _ _ _)); (first | walk1 | (dsimp only; walk1)))))
  k_with "own ktr_enter" => (first
    | (refine' code_def ?k1 ?k2 ?k3 ?k4 ?k5 ?kA ?kF ?kK ?k6 ?k7 ?k8 ?k9 ?kB ?_ ?c2 ?c3 ?c4 ?c5; (case kA => exact rfl); (case kF => exact rfl); (case kK => assumption); (case k1 => k_asm); (case k2 => k_asm); (case k3 => k_asm); (case k4 => k_asm); (case k5 => k_asm); (case k6 => k_is); (case k7 => k_is); (case k8 => ktr_room); (case k9 => first | exact BindsTo.of_eq rfl | exact binds_K (by k_in) rfl (by k_is) rfl rfl rfl); (case c5 => decide); (case kB => exact locs rfl); (case c2 => exact rfl); (case c3 => exact rfl); (case c4 => exact rfl); k_whole; intro zzg zzL zzh zzFG zzF zzN zzB zzX zzT; (try dsimp only); (try k_fold))
    | (refine' code_defC ?k1 ?k2 ?k3 ?k4 ?k5 ?kA ?kF ?kK ?k6 ?k7 ?k8 ?k9 ?kB ?kD ?_ ?c2 ?c3 ?c4; (case kA => exact rfl); (case kF => exact rfl); (case kK => assumption); (case k1 => k_asm); (case k2 => k_asm); (case k3 => k_asm); (case k4 => k_asm); (case k5 => k_asm); (case k6 => k_is); (case k7 => k_is); (case k8 => ktr_room); (case k9 => first | exact BindsTo.of_eq rfl | exact binds_K (by k_in) rfl (by k_is) rfl rfl rfl); (case kB => exact rfl); (case kD => decide +kernel); (case c2 => exact rfl); (case c3 => exact rfl); (case c4 => exact rfl); k_whole; intro zzg zzL zzh zztk zzcells zzFG zzF zzN zzY zzB zzX zzT zzl1; k_cells zzY; (try simp only [List.cons_append, List.nil_append] at zzN); (try dsimp only); (try k_fold))
    | (refine' kp_more ?k1 ?k2 ?k3 ?k4 ?k5 ?kA ?kF ?kK ?k6 ?k7 ?k8 ?kX ?kM ?kN ?kD ?kR ?kP ?kT ?kB ?_ ?c2 ?c3 ?c4 ?c5; (case kA => exact rfl); (case kF => exact rfl); (case kK => assumption); (case k1 => k_asm); (case k2 => k_asm); (case k3 => k_asm); (case k4 => k_asm); (case k5 => k_asm); (case k6 => k_is); (case k7 => k_is); (case k8 => ktr_room); (case kX => kp_lit); (case kM => exact rfl); (case kN => exact rfl); (case kD => kp_flats); (case kR => exact rfl); (case kP => exact rfl); (case kT => exact fun _ => rfl); (case kB => exact fun _ => locs rfl); (case c5 => decide); (case c2 => exact rfl); (case c3 => exact rfl); (case c4 => exact rfl); k_whole; intro zzD zzo zzg zzL zzh zztk zzl1 zzlo zzhs zzfs zzFG zzF zzN zzB zzX zzT; (try dsimp only); (try k_fold)))
  k_with "TPost" => ((first | refine TPost.ret ?_ | refine TPost.brk ?_; (try dsimp only)))
  k_with "own k_all" => (first | assumption | (refine all_lt (by assumption) ?_; (try dsimp only); omega) | (exact fun p hp => Ne.symm (‹∀ p ∈ _, _ ≠ p.1› p hp)))
  k_with "own k_mem" => (first | exact List.Mem.head _ | ktr_member | (refine' mem_tail ?_; k_mem))
  k_with "leaving ref" => ((k_here; first | (refine' leave_onX ?k1 ?k2 ?k3 ?k4 ?_ ?k5; (case k5 => rfl); (case k1 => assumption); (case k3 => assumption); (case k4 => assumption); (case k2 => assumption); k_whole; intro zzh zzR zzU) | (refine' leave_raiseS ?k1 (Heap.MadeExc.of (by assumption)) ?k2 ?k3 ?_; (case k2 => assumption); (case k1 => assumption); (case k3 => k_asm); k_whole; intro zzh zzt zzS zzR zzU; (try dsimp only at zzS zzR zzU ⊢))))
  k_with "call ref" => (((with_reducible show PySem.wpAny _ _ (PySem.call (PySem.Value.ref 329) _ _) _ _ _); k_dflt (refine' use_x (one_c _ _ _ _ _ _) ?k1 ?k2 ?k3 ?k4 ?k5 ?kK ?kd ?ku ?_ ?_; (case k1 => k_asm); (case k2 => k_asm); (case k3 => k_asm); (case k4 => k_asm); (case k5 => k_asm); (case kK => first | exact rfl | assumption); (case kd => ktr_room); (case ku => ktr_units)); (intros; (try dsimp only); (try k_fold))))
  k_with "call ref" => (((with_reducible show PySem.wpAny _ _ (PySem.call (PySem.Value.ref 336) _ _) _ _ _); k_dflt (refine' use_x (badName_c _ _ _ _) ?k1 ?k2 ?k3 ?k4 ?k5 ?kK ?kd ?ku ?_ ?_; (case k1 => k_asm); (case k2 => k_asm); (case k3 => k_asm); (case k4 => k_asm); (case k5 => k_asm); (case kK => first | exact rfl | assumption); (case kd => ktr_room); (case ku => ktr_units)); (intros; (try dsimp only); (try k_fold))))
  k_with "call ref" => (((with_reducible show PySem.wpAny _ _ (PySem.call (PySem.Value.ref 343) _ _) _ _ _); k_dflt (refine' use_x (badValue_c _ _ _ _) ?k1 ?k2 ?k3 ?k4 ?k5 ?kK ?kd ?ku ?_ ?_; (case k1 => k_asm); (case k2 => k_asm); (case k3 => k_asm); (case k4 => k_asm); (case k5 => k_asm); (case kK => first | exact rfl | assumption); (case kd => ktr_room); (case ku => ktr_units)); (intros; (try dsimp only); (try k_fold))))
  trivial
set_option maxHeartbeats 8000000 in
theorem kept_c (w : World) (news : Led) (bl : Addr) (bv : List Value) (kb : Nat) (bs : Bk) (kind : Nat) (name value : Int) (t1 t2 t3 : Tok) (hkind : kind ≤ 4) (hb : (bl, W.listOf bv.toArray kb) ∈ news) (hD : DatAll news bv (bs.map bkD)) (hsz : bv.length ≤ 900) (hn0 : 0 ≤ value) (hn1 : value < 4096) (hbk : ∀ p ∈ bs, ∀ v, p.2 = some v → 0 ≤ v ∧ v < 4096) :
    Con w 12 348 [.ref bl, .int (kind : Int) t1, .int name t2, .int value t3] [] news (fun kk => ∀ T B' bv' kb' r n rest', (∀ p ∈ news, p ∈ rest') → (B', W.listOf bv'.toArray kb') ∈ rest' → (B' = bl ∨ ∀ p ∈ news, p.1 ≠ B') → DatAll rest' bv' ((keptF bs kind name value).1.map bkD) → DatIn [] r (keptF bs kind name value).2 → kk (.ref T) ((T, tup2 (.ref B') r n) :: rest')) := by
  intro mean mg mb dp un gd cn cs a ccd cl outer A₀ base h₀ L mm s Q E B F X N T hk hd hu hret hexc
  refine wpAny_call ?_; ktr_enter
  k_steps
  rename Fr _ _ _ _ => lF
  rename News _ _ _ _ => lN
  refine cmp_asgn lF (by rfl) (by with_unfolding_all rfl) (by with_unfolding_all rfl) (by decide) (by rfl) (by decide) (by rfl) (by rfl) ?_
  k_steps
  rename News _ _ _ _ => lN
  rename Fr _ _ _ _ => lF
  refine CSrc.mk' (its := bv) (kk := kb) (fun v n₁ m₂ => ∀ t v₁ v₂ k, v = .ref t → (t, tup2 v₁ v₂ k) ∈ n₁ → m₂ (Str.ofString "n") = some v₁ ∧ m₂ (Str.ofString "v") = some v₂)
    (fun n0 r ys n₁ => n₁ = n0 ∧ (∀ p ∈ news, p ∈ n0) ∧ ∃ ps qs, DatAll news r (List.map bkD ps) ∧ DatAll [] ys (List.map (fun p : Int × Option Int => valD p.2) qs) ∧ qs ++ ps.filter (fun p => lawOne p.1 name) = bs.filter (fun p => lawOne p.1 name))
    rfl lF lN (Nat.le_trans hsz (by decide)) ⟨rfl, fun _ h => .tail _ h, bs, [], hD, .nil, rfl⟩ ?_ (asg_pair rfl rfl rfl (by decide) rfl ?_) ?_ ?_
  · rintro r ys n₁ ⟨rfl, hsub, _⟩
    exact hsub _ hb
  · rintro v r ys n₁ ⟨rfl, hsub, ps, qs, hd', _⟩
    cases ps with
    | nil => cases hd'
    | cons p ps =>
      cases hd' with
      | cons hd1 hd2 =>
        obtain ⟨a, t, v2, n, rfl, hm, _⟩ := bk_inv hd1
        exact ⟨_, _, _, _, rfl, hsub _ hm⟩
  · clear lF lN
    rintro g v r ys n₁ I oI C oC D m₂ h tk E' ⟨rfl, hsub, ps, qs, hd', hq, hfl⟩ hT hoC lF lN off ne1 ne2 ne3
    cases ps with
    | nil => cases hd'
    | cons p ps =>
      cases hd' with
      | cons hd1 hd2 =>
        obtain ⟨a, t, v2, n, rfl, hm, hv2⟩ := bk_inv hd1
        obtain ⟨hT1, hT2⟩ := hT _ _ _ _ rfl (hsub _ hm)
        clear hret hexc
        k_steps
        · trivial
        · rename lawOne p.1 name = true => e
          refine CEnd.go _ (by k_asm) (by k_asm) (fun _ h => h) off ⟨rfl, hsub, ps, qs ++ [p], hd2, ?_, ?_⟩
          · rw [List.map_append]; exact hq.append (.one hv2)
          · rw [← hfl, List.filter_cons, if_pos e, List.append_assoc]; rfl
        · rename lawOne p.1 name = false => e
          refine CEnd.go _ (by k_asm) (by k_asm) (fun _ h => h) off ⟨rfl, hsub, ps, qs, hd2, hq, ?_⟩
          rw [← hfl, List.filter_cons, if_neg (by rw [e]; exact Bool.false_ne_true)]
  · rintro g ys n₁ ⟨rfl, hsub, ps, qs, hd', hq, hfl⟩ hle D h tk lF lN ho
    cases ps with
    | cons => cases hd'
    | nil =>
      rw [List.filter_nil, List.append_nil] at hfl
      subst hfl
      k_steps
      rename Fr _ _ _ _ => lF
      rename News _ _ _ _ => lN
      refine cmp_asgn lF (by rfl) (by with_unfolding_all rfl) (by with_unfolding_all rfl) (by decide) (by rfl) (by decide) (by rfl) (by rfl) ?_
      k_steps
      rename News _ _ _ _ => lN
      rename Fr _ _ _ _ => lF
      refine CSrc.mk' (its := bv) (kk := kb) (fun v n₁ m₂ => ∀ t v₁ v₂ k, v = .ref t → (t, tup2 v₁ v₂ k) ∈ n₁ → m₂ (Str.ofString "n") = some v₁ ∧ m₂ (Str.ofString "v") = some v₂)
        (fun n0 r zs n₁ => (∃ more, n₁ = n0 ++ more) ∧ (∀ p ∈ news, p ∈ n0) ∧ ∃ ps qs, DatAll news r (List.map bkD ps) ∧ DatAll n₁ zs (List.map bkD qs) ∧ qs ++ ps.filter (fun p => !lawOne p.1 name) = bs.filter (fun p => !lawOne p.1 name))
        rfl lF lN (Nat.le_trans hsz (by decide)) ⟨⟨[], (List.append_nil _).symm⟩, fun _ h => .tail _ (hsub _ h), bs, [], hD, .nil, rfl⟩ ?_ (asg_pair rfl rfl rfl (by decide) rfl ?_) ?_ ?_
      · rintro r ys n₁ ⟨⟨more, rfl⟩, h2, _⟩
        exact List.mem_append_left _ (h2 _ hb)
      · rintro v r ys n₁ ⟨⟨more, rfl⟩, h2, ps, qs, hd', _⟩
        cases ps with
        | nil => cases hd'
        | cons p ps =>
          cases hd' with
          | cons hd1 hd2 =>
            obtain ⟨a, t, v2, n, rfl, hm, _⟩ := bk_inv hd1
            exact ⟨_, _, _, _, rfl, List.mem_append_left _ (h2 _ hm)⟩
      · clear lF lN
        rintro g v r zs n₁ I oI C oC D2 m₂ h tk E' ⟨⟨more, rfl⟩, h2, ps, qs2, hd', hq2, hfl2⟩ hT hoC lF lN off ne1 ne2 ne3
        cases ps with
        | nil => cases hd'
        | cons p ps =>
          cases hd' with
          | cons hd1 hd2 =>
            obtain ⟨a, t, v2, n, rfl, hm, hv2⟩ := bk_inv hd1
            obtain ⟨hT1, hT2⟩ := hT _ _ _ _ rfl (List.mem_append_left _ (h2 _ hm))
            clear hret hexc
            simp only [List.cons_append, List.nil_append] at lN
            k_steps
            · trivial
            · rename lawOne p.1 name = true => e
              refine CEnd.go _ (by k_asm) (by k_asm) (fun _ h => h) off ⟨⟨more, rfl⟩, h2, ps, qs2, hd2, hq2, ?_⟩
              rw [← hfl2, List.filter_cons, if_neg (by rw [e]; decide)]
            · rename lawOne p.1 name = false => e
              rename _ < _ ∧ _ < _ ∧ _ < _ ∧ _ => l1
              refine CEnd.go ((_ :: _ :: news) ++ ((_, tup2 (.int p.1 _) v2 0) :: more)) (by k_asm) (by k_asm) ins4 (off4 off ⟨Nat.ne_of_gt l1.1, Nat.ne_of_gt l1.2.1, Nat.ne_of_gt l1.2.2.1⟩) ⟨⟨_, rfl⟩, h2, ps, qs2 ++ [p], hd2, ?_, ?_⟩
              · rw [List.map_append]
                exact (hq2.mono fun q hq => sub4 q hq).append (.one (DatIn.tuple (vs := [.int p.1 _, v2]) (List.mem_append_right _ (.head _)) (.cons (.int _ _) (.cons (hv2.mono fun _ h => (List.not_mem_nil h).elim) .nil))))
              · rw [← hfl2, List.filter_cons, if_pos (by rw [e]; rfl), List.append_assoc]; rfl
      · rintro g zs n₁ ⟨⟨more, rfl⟩, h2, ps, qs2, hd', hq2, hfl2⟩ hle2 R h tk lF lN ho2
        cases ps with
        | cons => cases hd'
        | nil =>
          rw [List.filter_nil, List.append_nil] at hfl2
          subst hfl2
          simp only [List.cons_append, List.nil_append] at lN
          k_steps
          · trivial
          · rename badName name = true => b1
            have e : keptF bs kind name value = (bs, Dat.bool false) := by unfold keptF; simp only [b1, if_true]
            simp only [e] at hret
            rename News h₀ L _ (_ :: _) => kN
            exact hret _ _ _ _ _ _ _ sN1 (sN1 _ hb) (.inl rfl) (hD.mono sN1) (.bool _) _ _ (by assumption) kN
          · rename badName name = false => b1
            rename (kind : Int) = 1 => k1
            have k1' : kind = 1 := by omega
            have e : keptF bs kind name value = (bs.filter fun p => !lawOne p.1 name, Dat.none) := by unfold keptF; simp only [b1, Bool.false_eq_true, if_false, k1', if_true]
            simp only [e] at hret
            rename News h₀ L _ (_ :: _) => kN
            exact hret _ _ _ _ _ _ _ sN1 (.head _) (.inr fun p hp => by first | exact ho2 p (sN1 p hp) | exact ho2 p (h2 p hp) | exact ho2 p (List.mem_append_left _ (h2 p hp)) | exact Nat.ne_of_lt (hlt2 p (sN1 p hp))) (hq2.mono fun p hp => .tail _ hp) .none _ _ (by assumption) kN
          · rename badName name = false => b1
            rename (kind : Int) = 3 => k3
            have k3' : kind = 3 := by omega
            subst k3'
            cases hys : (bs.filter fun p => lawOne p.1 name) with
            | nil =>
              rw [hys] at hq
              obtain rfl := dat_nil hq
              have hm0 : ¬ ((3 : Nat) = 3 ∧ (bs.filter fun p => lawOne p.1 name).map (·.2) ≠ []) := by rw [hys]; simp
              refine kqd_ne (by k_asm) (.tail _ (.tail _ (.head _))) rfl rfl (xs := []) .nil (fun _ h => h) (.head _) rfl rfl (ys := []) .nil (fun _ h => h) (by simp) (by simp) (by ktr_units) ?_
              rw [decide_eq_true rfl]
              k_steps
              · trivial
              · rename badValue value = true => b2
                have e : keptF bs 3 name value = (bs, Dat.bool false) := by
                  unfold keptF
                  rw [b1, if_neg Bool.false_ne_true, if_neg (by decide : ¬ (3 : Nat) = 1), if_neg hm0, if_neg (by decide : ¬ (3 : Nat) = 4), if_neg (by decide : ¬ (3 : Nat) = 2), b2]
                  rfl
                simp only [e] at hret
                rename News h₀ L _ (_ :: _) => kN
                exact hret _ _ _ _ _ _ _ (fun p hp => .tail _ (sN1 p hp)) (.tail _ (sN1 _ hb)) (.inl rfl) (hD.mono fun p hp => .tail _ (sN1 p hp)) (.bool _) _ _ (by assumption) kN
              · rename badValue value = false => b2
                have e : keptF bs 3 name value = (bs ++ [(name, some value)], Dat.str (sgn value)) := by
                  unfold keptF
                  rw [b1, if_neg Bool.false_ne_true, if_neg (by decide : ¬ (3 : Nat) = 1), if_neg hm0, if_neg (by decide : ¬ (3 : Nat) = 4), if_neg (by decide : ¬ (3 : Nat) = 2), b2]
                  rfl
                simp only [e] at hret
                refine kmk_add_lit (by k_asm) (by k_asm) (News.isList (by k_asm) (.tail _ (sN2 _ hb))) (News.isList (by k_asm) (.head _)) rfl ?_ (by simp only [sizeLine_eq, List.length_cons, List.length_nil]; omega)
                intro D3 h3 F3 N3 l3
                k_steps
                refine use_x (sign_c w value _ _ hn0 hn1) (by k_asm) (by k_asm) (by k_asm) (by k_asm) (by k_asm) (by first | exact rfl | assumption) (by ktr_room) (by ktr_units) ?_ trivial
                intro t
                dsimp only
                intro h' tk' F' N'
                k_steps
                rename News h₀ L _ (_ :: _) => kN
                exact hret _ _ _ _ _ _ _ (fun p hp => .tail _ (sN3 p hp)) (.head _) (.inr fun p hp => Nat.ne_of_lt (by first | exact l3 p (sN2 p hp) | exact l3 p (sN1 p hp) | exact l3 p (.tail _ (sN2 p hp)) | exact l3 p (.tail _ (sN1 p hp)) | exact l3 p (sN3 p hp))) (by rw [List.map_append]; exact (hD.mono fun p hp => .tail _ (sN3 p hp)).append (.one bk_new)) (.str _ _) _ _ (by assumption) kN
            | cons p0 r0 =>
              rw [hys] at hq
              cases hq with
              | cons hy0 hyr =>
                refine kqd_ne (by k_asm) (.tail _ (.tail _ (.head _))) rfl rfl (.cons hy0 hyr) (fun _ h => (List.not_mem_nil h).elim) (.head _) rfl rfl (ys := []) .nil (fun _ h => h) (fun d hd => ?_) (by simp) (by ktr_units) ?_
                · obtain ⟨p, _, rfl⟩ := List.mem_map.mp (show d ∈ (p0 :: r0).map (fun p => valD p.2) from hd)
                  cases p.2 <;> rfl
                rw [decide_eq_false (by simp)]
                have hmem : p0 ∈ bs := (List.mem_filter.mp (hys ▸ List.Mem.head _ : p0 ∈ bs.filter fun p => lawOne p.1 name)).1
                have hm1 : (3 : Nat) = 3 ∧ (bs.filter fun p => lawOne p.1 name).map (·.2) ≠ [] := by rw [hys]; simp
                obtain ⟨n0, v0⟩ := p0
                cases v0 with
                | none =>
                  cases hy0
                  have e : keptF bs 3 name value = (bs, Dat.str (Str.ofString "")) := by
                    unfold keptF
                    rw [b1, if_neg Bool.false_ne_true, if_neg (by decide : ¬ (3 : Nat) = 1), if_pos hm1, hys]
                    rfl
                  simp only [e] at hret
                  k_steps
                  refine use_x (signN_c w _) (by k_asm) (by k_asm) (by k_asm) (by k_asm) (by k_asm) (by first | exact rfl | assumption) (by ktr_room) (by ktr_units) ?_ trivial
                  intro t
                  dsimp only
                  intro h' tk' F' N'
                  k_steps
                  rename News h₀ L _ (_ :: _) => kN
                  exact hret _ _ _ _ _ _ _ (fun p hp => .tail _ (sN1 p hp)) (.tail _ (sN1 _ hb)) (.inl rfl) (hD.mono fun p hp => .tail _ (sN1 p hp)) (.str _ _) _ _ (by assumption) kN
                | some v =>
                  cases hy0
                  have hv := hbk _ hmem v rfl
                  have e : keptF bs 3 name value = (bs, Dat.str (sgn v)) := by
                    unfold keptF
                    rw [b1, if_neg Bool.false_ne_true, if_neg (by decide : ¬ (3 : Nat) = 1), if_pos hm1, hys]
                    rfl
                  simp only [e] at hret
                  k_steps
                  refine use_x (sign_c w v _ _ hv.1 hv.2) (by k_asm) (by k_asm) (by k_asm) (by k_asm) (by k_asm) (by first | exact rfl | assumption) (by ktr_room) (by ktr_units) ?_ trivial
                  intro t
                  dsimp only
                  intro h' tk' F' N'
                  k_steps
                  rename News h₀ L _ (_ :: _) => kN
                  exact hret _ _ _ _ _ _ _ (fun p hp => .tail _ (sN1 p hp)) (.tail _ (sN1 _ hb)) (.inl rfl) (hD.mono fun p hp => .tail _ (sN1 p hp)) (.str _ _) _ _ (by assumption) kN
          · rename badName name = false => b1
            rename (kind : Int) ≠ 1 => k1
            rename (kind : Int) ≠ 3 => k3
            rename (kind : Int) = 4 => k4
            have k1' : ¬ kind = 1 := by omega
            have k3' : ¬ kind = 3 := by omega
            have k4' : kind = 4 := by omega
            have e : keptF bs kind name value = (bs ++ [(name, none)], Dat.none) := by unfold keptF; simp only [b1, Bool.false_eq_true, if_false, if_neg k1', if_neg (fun h : kind = 3 ∧ _ => k3' h.1), if_pos k4']
            simp only [e] at hret
            refine kmk_add_lit (by k_asm) (by k_asm) (News.isList (by k_asm) (sN2 _ hb)) (News.isList (by k_asm) (.head _)) rfl ?_ (by simp only [sizeLine_eq, List.length_cons, List.length_nil]; omega)
            intro D3 h3 F3 N3 l3
            k_steps
            rename News h₀ L _ (_ :: _) => kN
            exact hret _ _ _ _ _ _ _ sN3 (.head _) (.inr fun p hp => Nat.ne_of_lt (by first | exact l3 p (sN2 p hp) | exact l3 p (sN1 p hp) | exact l3 p (.tail _ (sN2 p hp)) | exact l3 p (.tail _ (sN1 p hp)) | exact l3 p (sN3 p hp))) (by rw [List.map_append]; exact (hD.mono sN3).append (.one bk_new)) .none _ _ (by assumption) kN
          · trivial
          · rename badName name = false => b1
            rename (kind : Int) ≠ 1 => k1
            rename (kind : Int) ≠ 3 => k3
            rename (kind : Int) ≠ 4 => k4
            rename (kind : Int) = 2 => k2
            rename badValue value = true => b2
            have k1' : ¬ kind = 1 := by omega
            have k3' : ¬ kind = 3 := by omega
            have k4' : ¬ kind = 4 := by omega
            have k2' : kind = 2 := by omega
            have e : keptF bs kind name value = (bs.filter fun p => !lawOne p.1 name, Dat.bool false) := by unfold keptF; simp only [b1, b2, Bool.false_eq_true, if_false, if_neg k1', if_neg (fun h : kind = 3 ∧ _ => k3' h.1), if_neg k4', if_pos k2', if_true]
            simp only [e] at hret
            rename News h₀ L _ (_ :: _) => kN
            exact hret _ _ _ _ _ _ _ sN1 (.head _) (.inr fun p hp => by first | exact ho2 p (sN1 p hp) | exact ho2 p (h2 p hp) | exact ho2 p (List.mem_append_left _ (h2 p hp)) | exact Nat.ne_of_lt (hlt2 p (sN1 p hp))) (hq2.mono fun p hp => .tail _ hp) (.bool _) _ _ (by assumption) kN
          · rename badName name = false => b1
            rename (kind : Int) ≠ 1 => k1
            rename (kind : Int) ≠ 3 => k3
            rename (kind : Int) ≠ 4 => k4
            rename (kind : Int) ≠ 2 => k2
            rename badValue value = true => b2
            have k1' : ¬ kind = 1 := by omega
            have k3' : ¬ kind = 3 := by omega
            have k4' : ¬ kind = 4 := by omega
            have k2' : ¬ kind = 2 := by omega
            have e : keptF bs kind name value = (bs, Dat.bool false) := by unfold keptF; simp only [b1, b2, Bool.false_eq_true, if_false, if_neg k1', if_neg (fun h : kind = 3 ∧ _ => k3' h.1), if_neg k4', if_neg k2', if_true]
            simp only [e] at hret
            rename News h₀ L _ (_ :: _) => kN
            exact hret _ _ _ _ _ _ _ sN1 (sN1 _ hb) (.inl rfl) (hD.mono sN1) (.bool _) _ _ (by assumption) kN
          · rename badName name = false => b1
            rename (kind : Int) ≠ 1 => k1
            rename (kind : Int) ≠ 3 => k3
            rename (kind : Int) ≠ 4 => k4
            rename (kind : Int) = 2 => k2
            rename badValue value = false => b2
            have k1' : ¬ kind = 1 := by omega
            have k3' : ¬ kind = 3 := by omega
            have k4' : ¬ kind = 4 := by omega
            have k2' : kind = 2 := by omega
            have e : keptF bs kind name value = ((bs.filter fun p => !lawOne p.1 name) ++ [(name, some value)], Dat.none) := by unfold keptF; simp only [b1, b2, Bool.false_eq_true, if_false, if_neg k1', if_neg (fun h : kind = 3 ∧ _ => k3' h.1), if_neg k4', if_pos k2']
            simp only [e] at hret
            refine kmk_add_lit (by k_asm) (by k_asm) (News.isList (by k_asm) (.tail _ (.tail _ (.head _)))) (News.isList (by k_asm) (.head _)) rfl ?_ (by simp only [sizeLine_eq, List.length_cons, List.length_nil]; omega)
            intro D3 h3 F3 N3 l3
            k_steps
            rename News h₀ L _ (_ :: _) => kN
            exact hret _ _ _ _ _ _ _ sN3 (.head _) (.inr fun p hp => Nat.ne_of_lt (by first | exact l3 p (sN2 p hp) | exact l3 p (sN1 p hp) | exact l3 p (.tail _ (sN2 p hp)) | exact l3 p (.tail _ (sN1 p hp)) | exact l3 p (sN3 p hp))) (by rw [List.map_append]; exact (hq2.mono fun p hp => .tail _ (.tail _ (.tail _ (.tail _ hp)))).append (.one bk_new)) .none _ _ (by assumption) kN
          · rename badName name = false => b1
            rename (kind : Int) ≠ 1 => k1
            rename (kind : Int) ≠ 3 => k3
            rename (kind : Int) ≠ 4 => k4
            rename (kind : Int) ≠ 2 => k2
            rename badValue value = false => b2
            have k1' : ¬ kind = 1 := by omega
            have k3' : ¬ kind = 3 := by omega
            have k4' : ¬ kind = 4 := by omega
            have k2' : ¬ kind = 2 := by omega
            have e : keptF bs kind name value = (bs ++ [(name, some value)], Dat.none) := by unfold keptF; simp only [b1, b2, Bool.false_eq_true, if_false, if_neg k1', if_neg (fun h : kind = 3 ∧ _ => k3' h.1), if_neg k4', if_neg k2', if_neg k3']
            simp only [e] at hret
            refine kmk_add_lit (by k_asm) (by k_asm) (News.isList (by k_asm) (sN2 _ hb)) (News.isList (by k_asm) (.head _)) rfl ?_ (by simp only [sizeLine_eq, List.length_cons, List.length_nil]; omega)
            intro D3 h3 F3 N3 l3
            k_steps
            · rename (kind : Int) = 3 => q
              exact absurd q k3
            rename News h₀ L _ (_ :: _) => kN
            exact hret _ _ _ _ _ _ _ sN3 (.head _) (.inr fun p hp => Nat.ne_of_lt (by first | exact l3 p (sN2 p hp) | exact l3 p (sN1 p hp) | exact l3 p (.tail _ (sN2 p hp)) | exact l3 p (.tail _ (sN1 p hp)) | exact l3 p (sN3 p hp))) (by rw [List.map_append]; exact (hD.mono sN3).append (.one bk_new)) .none _ _ (by assumption) kN
end
end Mine
end
section
-- part LS2
open PySem PySem.W PySem.Calls PySem.Spec PyProof.Rows PyProof.Rows.LCg
namespace Mine
theorem reg38 : True := by
  w_top off
  k_with_none
  trivial
abbrev ledB (w : World) (L : Addr) (co : Obj) (hl x0 dx bl : Addr) (hv bv : List Value) (k kb : Nat) (tk : Tok) (news : Led) : Led := (L + 1, co) :: (hl, W.listOf hv.toArray k) :: (x0, instObj 175 dx) :: (dx, hdict w tk hl) :: (bl, W.listOf bv.toArray kb) :: news
section
theorem reg39 : True := by
  w_top off
  k_with_none
  k_with "own k_steps" => (repeat' (first
    | (k_unfold; (try dsimp only))
    | (dsimp only; k_unfold; (try dsimp only))
    | ((fail_if_success (with_reducible show PySem.wpAny _ _ (PySem.exec (PySem.Stmt.While _ _ _ _) _) _ _ _)); (fail_if_success (with_reducible show PySem.wpAny _ _ (PySem.exec (PySem.Stmt.For _ _ _ _ _) _) _ _ _)); (fail_if_success (with_reducible show PySem.wpAny _ _ (PySem.eval (PySem.Expr.ListComp _ _ _ _) _) _ _ _)); (fail_if_success (with_reducible show PySem.wpAny _ _ (PySem.exec (PySem.Stmt.Assign [PySem.Expr.Name _ _] (PySem.Expr.ListComp _ _ _ _) _) _) _ _ _)); (fail_if_success (with_reducible show PySem.wpAny _ _ (PySem.pyIter _) _ _ _)); (fail_if_success (with_reducible show PySem.W.UnrPostW _ _ _ _ _ _ _ _)); (fail_if_success (with_reducible show PySem.wpAny _ _ (PySem.call (PySem.Value.ref _) _ _) _ _ _)); (first | walk1 | (dsimp only; walk1)))))
  k_with "own ktr_enter" => (first
    | (refine' code_defT ?k1 ?k2 ?k3 ?k4 ?k5 ?kA ?kF ?kK ?k6 ?k7 ?k8 ?k9 ?kB ?_ ?c2 ?c3 ?c4 ?c5; (case kA => exact rfl); (case kF => exact rfl); (case kK => first | assumption | exact rfl); (case k1 => k_asm); (case k2 => k_asm); (case k3 => k_asm); (case k4 => k_asm); (case k5 => k_asm); (case k6 => k_is); (case k7 => k_is); (case k8 => ktr_room); (case k9 => first | exact BindsTo.of_eq rfl | exact binds_K (by k_in) rfl (by k_is) rfl rfl rfl); (case c5 => decide); (case kB => exact locs rfl); (case c2 => exact rfl); (case c3 => exact rfl); (case c4 => exact rfl); k_whole; intro zzg zzL zzh zzFG zzF zzN zzB zzX zzT zzD; (try dsimp only); (try k_fold))
    | (refine' code_def ?k1 ?k2 ?k3 ?k4 ?k5 ?kA ?kF ?kK ?k6 ?k7 ?k8 ?k9 ?kB ?_ ?c2 ?c3 ?c4 ?c5; (case kA => exact rfl); (case kF => exact rfl); (case kK => first | assumption | exact rfl); (case k1 => k_asm); (case k2 => k_asm); (case k3 => k_asm); (case k4 => k_asm); (case k5 => k_asm); (case k6 => k_is); (case k7 => k_is); (case k8 => ktr_room); (case k9 => first | exact BindsTo.of_eq rfl | exact binds_K (by k_in) rfl (by k_is) rfl rfl rfl); (case c5 => decide); (case kB => exact locs rfl); (case c2 => exact rfl); (case c3 => exact rfl); (case c4 => exact rfl); k_whole; intro zzg zzL zzh zzFG zzF zzN zzB zzX zzT; (try dsimp only); (try k_fold))
    | (refine' code_defC ?k1 ?k2 ?k3 ?k4 ?k5 ?kA ?kF ?kK ?k6 ?k7 ?k8 ?k9 ?kB ?kD ?_ ?c2 ?c3 ?c4; (case kA => exact rfl); (case kF => exact rfl); (case kK => first | assumption | exact rfl); (case k1 => k_asm); (case k2 => k_asm); (case k3 => k_asm); (case k4 => k_asm); (case k5 => k_asm); (case k6 => k_is); (case k7 => k_is); (case k8 => ktr_room); (case k9 => first | exact BindsTo.of_eq rfl | exact binds_K (by k_in) rfl (by k_is) rfl rfl rfl); (case kB => exact rfl); (case kD => decide +kernel); (case c2 => exact rfl); (case c3 => exact rfl); (case c4 => exact rfl); k_whole; intro zzg zzL zzh zztk zzcells zzFG zzF zzN zzY zzB zzX zzT zzl1; k_cells zzY; (try simp only [List.cons_append, List.nil_append] at zzN); (try dsimp only); (try k_fold))
    | (refine' kp_more ?k1 ?k2 ?k3 ?k4 ?k5 ?kA ?kF ?kK ?k6 ?k7 ?k8 ?kX ?kM ?kN ?kD ?kR ?kP ?kT ?kB ?_ ?c2 ?c3 ?c4 ?c5; (case kA => exact rfl); (case kF => exact rfl); (case kK => first | assumption | exact rfl); (case k1 => k_asm); (case k2 => k_asm); (case k3 => k_asm); (case k4 => k_asm); (case k5 => k_asm); (case k6 => k_is); (case k7 => k_is); (case k8 => ktr_room); (case kX => kp_lit); (case kM => exact rfl); (case kN => exact rfl); (case kD => kp_flats); (case kR => exact rfl); (case kP => exact rfl); (case kT => exact fun _ => rfl); (case kB => exact fun _ => locs rfl); (case c5 => decide); (case c2 => exact rfl); (case c3 => exact rfl); (case c4 => exact rfl); k_whole; intro zzD zzo zzg zzL zzh zztk zzl1 zzlo zzhs zzfs zzFG zzF zzN zzB zzX zzT; (try dsimp only); (try k_fold)))
  k_with "TPost" => ((first | refine TPost.ret ?_ | refine TPost.brk ?_; (try dsimp only)))
  k_with "own k_all" => (first | assumption | (refine all_lt (by assumption) ?_; (try dsimp only); omega) | (exact fun p hp => Ne.symm (‹∀ p ∈ _, _ ≠ p.1› p hp)))
  k_with "own k_mem" => (first | exact List.Mem.head _ | ktr_member | (refine' mem_tail ?_; k_mem))
  k_with "leaving ref" => ((k_here; first | (refine' leave_onX ?k1 ?k2 ?k3 ?k4 ?_ ?k5; (case k5 => rfl); (case k1 => assumption); (case k3 => assumption); (case k4 => assumption); (case k2 => assumption); k_whole; intro zzh zzR zzU) | (refine' leave_raiseS ?k1 (Heap.MadeExc.of (by assumption)) ?k2 ?k3 ?_; (case k2 => assumption); (case k1 => assumption); (case k3 => k_asm); k_whole; intro zzh zzt zzS zzR zzU; (try dsimp only at zzS zzR zzU ⊢))))
  trivial
set_option maxHeartbeats 8000000 in
theorem seg2 {w : World} {rest : List Stmt} {mean : ExcName → Option Value} {mg mb : Str → Option Value} {dp un : Nat} {gd : Option (List Code)} {L fa : Addr} {cdv : Value} {A₀ : Around} {h₀ : Heap} {m : Str → Option Value} {s : Shared} {Q : Flow → Shared → Prop} {E : Value → Shared → Prop} (S : Std w mean mg mb dp un A₀ h₀) {news : Led}
    (x nm vl ahd : Int) (sg : Str) (tx ta tv ts tn : Tok) (x0 dx hl bl : Addr) (tk : Tok) (co : Obj) (hv bv : List Value) (k kb : Nat) (hs : List (Str × Str)) (bs : Bk)
    (F : Fr h₀ L s.heap m) (hm : locsOk m [(Str.ofString "x", .int x tx), (Str.ofString "table", .ref x0), (Str.ofString "book", .ref bl), (Str.ofString "ahead", .int ahd ta), (Str.ofString "value", .int vl tv), (Str.ofString "sign", .str sg ts)]) (N : News h₀ L s.heap (ledB w L co hl x0 dx bl hv bv k kb tk news)) (hco : co.data = .cell (some (.int nm tn)))
    (hD : DatAll (ledB w L co hl x0 dx bl hv bv k kb tk news) hv (hs.map hdD)) (hsh : ∀ p ∈ hs, p.1.length ≤ 2 ∧ p.2.length ≤ 2) (hsz : hv.length ≤ 900)
    (hDb : DatAll (ledB w L co hl x0 dx bl hv bv k kb tk news) bv (bs.map bkD)) (hszb : bv.length ≤ 900) (hvl : 0 ≤ vl ∧ vl < 4096) (hbk : ∀ p ∈ bs, ∀ v, p.2 = some v → 0 ≤ v ∧ v < 4096)
    (h : ∀ h' tk' m' news' B' kv kb' r t1, Fr h₀ L h' m' → locsOk m' [(Str.ofString "x", .int x tx), (Str.ofString "table", .ref x0), (Str.ofString "book", .ref bl), (Str.ofString "ahead", .int ahd ta), (Str.ofString "value", .int vl tv), (Str.ofString "sign", .str sg ts), (Str.ofString "text", .str (tabText hs) t1), (Str.ofString "kept", .ref B'), (Str.ofString "told", r)] → News h₀ L h' news' → (∀ p ∈ ledB w L co hl x0 dx bl hv bv k kb tk news, p ∈ news') → (B', W.listOf kv.toArray kb') ∈ news' → (B' = bl ∨ ∀ p ∈ ledB w L co hl x0 dx bl hv bv k kb tk news, p.1 ≠ B') → DatAll news' kv ((keptF bs (kindF x) nm vl).1.map bkD) → DatIn [] r (keptF bs (kindF x) nm vl).2 → LGo w dp un gd L fa cdv rest Q E { s with heap := h', toks := tk' }) :
    LGo w dp un gd L fa cdv (lawS 4 :: lawS 5 :: rest) Q E s := by
  obtain ⟨B, X, T, hd, hu⟩ := S
  replace F := fr_ovr _ F hm
  obtain ⟨K0, hK0⟩ : ∃ K0, K0 = LGo w dp un gd L fa cdv rest Q E := ⟨_, rfl⟩
  rw [← hK0] at h
  simp only [LGo, lawTop, lawEnv, cells_law] at *
  conv in lawS 4 => whnf
  conv in lawS 5 => whnf
  conv in (occs := *) lawScope => all_goals (whnf; zeta)
  k_steps
  refine kso_call (K := Mine.hd.heap_1 w.params) ?k1 (by k_in) (by k_inst) (by k_is) (by k_is) ?_
  (case k1 => ktr_units)
  refine use_x (str_c w _ x0 dx hl _ hv hs k (by k_mem) (by k_mem) (by k_mem) hD hsh (by omega)) (by k_asm) (by k_asm) (by k_asm) (by k_asm) (by k_asm) (by rfl) (by ktr_room) (by ktr_units) ?_ trivial
  intro t
  (try dsimp only)
  intro h' tk' F' N'
  show wpAny _ _ _ _ _ _
  k_steps
  rw [kindF_eq]
  refine use_x (kept_c w _ bl bv kb bs (kindF x) nm vl _ _ _ (kindF_le x) (by k_mem) hDb hszb hvl.1 hvl.2 hbk) (by k_asm) (by k_asm) (by k_asm) (by k_asm) (by k_asm) (by rfl) (by ktr_room) (by ktr_units) ?_ trivial
  intro T B' bv' kb' r n rest' hsub hB hfr hD' hr
  (try dsimp only)
  intro h' tk' F' N'
  k_steps
  subst hK0
  exact h _ _ _ _ _ _ _ _ _ (by assumption) (by repeat (first | exact List.forall_mem_nil _ | refine List.forall_mem_cons.mpr ⟨rfl, ?_⟩)) (by assumption) (fun p hp => .tail _ (hsub p hp)) (.tail _ hB) hfr (hD'.mono fun p hp => .tail _ hp) hr
end
end Mine
end
section
-- part G6
open PySem PySem.W PySem.Calls PySem.Spec PyProof.Rows PyProof.Rows.LCg
namespace Mine
section
variable {M : Model} {A : Around} {E : Value → Shared → Prop} {s : Shared} {K : Frag} {x C L f : Addr} {h₀ : Heap} {m : Str → Option Value} {ox : Obj} {od : Option Obj} {i v : Value}
theorem reg40 : True := by
  w_top off
  k_with_none
  trivial
theorem own_delItem {Q : Unit → Shared → Prop} (F : Fr h₀ L s.heap m) (X₀ : K.In h₀) (I : InstAt s.heap x ox C od) (hq : noSeq K C = true) (hs : findIn K (.ref C) "__delitem__" = some (some (.ref f))) (hf : isFn K (.ref f) = true)
    (h : wpAny M A (call (.ref f) [.ref x, i]) (fun _ s' => Q () s') E s) : wpAny M A (delItem (.ref x) i) Q E s := by
  have X := X₀.keeps F.keep
  unfold delItem sequenceKey
  refine wpAny_holding (wpAny_bind (wpAny_bind (I.type.here ?_)))
  refine wpAny_bind ((anyM_none X hq).here ?_)
  rw [if_pos (show (!false) = true from rfl)]
  exact wpAny_pure (wpAny_bind (special_fn X I hs (beq_iff_eq.mp hf) (wpAny_mono h (fun _ _ z => wpAny_pure z) fun _ _ z => z)))
end
section
theorem reg41 : True := by
  w_top off
  k_with_none
  k_with "own k_steps" => (repeat' (first
    | (k_unfold; (try dsimp only))
    | (dsimp only; k_unfold; (try dsimp only))
    | ((fail_if_success (with_reducible show PySem.wpAny _ _ (PySem.exec (PySem.Stmt.While _ _ _ _) _) _ _ _)); (fail_if_success (with_reducible show PySem.wpAny _ _ (PySem.exec (PySem.Stmt.For _ _ _ _ _) _) _ _ _)); (fail_if_success (with_reducible show PySem.wpAny _ _ (PySem.eval (PySem.Expr.ListComp _ _ _ _) _) _ _ _)); (fail_if_success (with_reducible show PySem.wpAny _ _ (PySem.exec (PySem.Stmt.Assign [PySem.Expr.Name _ _] (PySem.Expr.ListComp _ _ _ _) _) _) _ _ _)); (fail_if_success (with_reducible show PySem.wpAny _ _ (PySem.pyIter _) _ _ _)); (fail_if_success (with_reducible show PySem.W.UnrPostW _ _ _ _ _ _ _ _)); (first | walk1 | (dsimp only; walk1)))))
  k_with "own ktr_enter" => (first
    | (refine' code_def ?k1 ?k2 ?k3 ?k4 ?k5 ?kA ?kF ?kK ?k6 ?k7 ?k8 ?k9 ?kB ?_ ?c2 ?c3 ?c4 ?c5; (case kA => exact rfl); (case kF => exact rfl); (case kK => assumption); (case k1 => k_asm); (case k2 => k_asm); (case k3 => k_asm); (case k4 => k_asm); (case k5 => k_asm); (case k6 => k_is); (case k7 => k_is); (case k8 => ktr_room); (case k9 => first | exact BindsTo.of_eq rfl | exact binds_K (by k_in) rfl (by k_is) rfl rfl rfl); (case c5 => decide); (case kB => exact locs rfl); (case c2 => exact rfl); (case c3 => exact rfl); (case c4 => exact rfl); k_whole; intro zzg zzL zzh zzFG zzF zzN zzB zzX zzT; (try dsimp only); (try k_fold))
    | (refine' code_defC ?k1 ?k2 ?k3 ?k4 ?k5 ?kA ?kF ?kK ?k6 ?k7 ?k8 ?k9 ?kB ?kD ?_ ?c2 ?c3 ?c4; (case kA => exact rfl); (case kF => exact rfl); (case kK => assumption); (case k1 => k_asm); (case k2 => k_asm); (case k3 => k_asm); (case k4 => k_asm); (case k5 => k_asm); (case k6 => k_is); (case k7 => k_is); (case k8 => ktr_room); (case k9 => first | exact BindsTo.of_eq rfl | exact binds_K (by k_in) rfl (by k_is) rfl rfl rfl); (case kB => exact rfl); (case kD => decide +kernel); (case c2 => exact rfl); (case c3 => exact rfl); (case c4 => exact rfl); k_whole; intro zzg zzL zzh zztk zzcells zzFG zzF zzN zzY zzB zzX zzT zzl1; k_cells zzY; (try simp only [List.cons_append, List.nil_append] at zzN); (try dsimp only); (try k_fold))
    | (refine' kp_more ?k1 ?k2 ?k3 ?k4 ?k5 ?kA ?kF ?kK ?k6 ?k7 ?k8 ?kX ?kM ?kN ?kD ?kR ?kP ?kT ?kB ?_ ?c2 ?c3 ?c4 ?c5; (case kA => exact rfl); (case kF => exact rfl); (case kK => assumption); (case k1 => k_asm); (case k2 => k_asm); (case k3 => k_asm); (case k4 => k_asm); (case k5 => k_asm); (case k6 => k_is); (case k7 => k_is); (case k8 => ktr_room); (case kX => kp_lit); (case kM => exact rfl); (case kN => exact rfl); (case kD => kp_flats); (case kR => exact rfl); (case kP => exact rfl); (case kT => exact fun _ => rfl); (case kB => exact fun _ => locs rfl); (case c5 => decide); (case c2 => exact rfl); (case c3 => exact rfl); (case c4 => exact rfl); k_whole; intro zzD zzo zzg zzL zzh zztk zzl1 zzlo zzhs zzfs zzFG zzF zzN zzB zzX zzT; (try dsimp only); (try k_fold)))
  k_with "TPost" => ((first | refine TPost.ret ?_ | refine TPost.brk ?_; (try dsimp only)))
  k_with "own k_all" => (first | assumption | (refine all_lt (by assumption) ?_; (try dsimp only); omega) | (exact fun p hp => Ne.symm (‹∀ p ∈ _, _ ≠ p.1› p hp)))
  k_with "own k_mem" => (first | exact List.Mem.head _ | ktr_member | (refine' mem_tail ?_; k_mem))
  k_with "leaving ref" => ((k_here; first | (refine' leave_onX ?k1 ?k2 ?k3 ?k4 ?_ ?k5; (case k5 => rfl); (case k1 => assumption); (case k3 => assumption); (case k4 => assumption); (case k2 => assumption); k_whole; intro zzh zzR zzU) | (refine' leave_raiseS ?k1 (Heap.MadeExc.of (by assumption)) ?k2 ?k3 ?_; (case k2 => assumption); (case k1 => assumption); (case k3 => k_asm); k_whole; intro zzh zzt zzS zzR zzU; (try dsimp only at zzS zzR zzU ⊢))))
  k_with "call ref" => (((with_reducible show PySem.wpAny _ _ (PySem.call (PySem.Value.ref 76) _ _) _ _ _); k_dflt (refine' use_x (convN_c _ _ _ _ _ ?kx) ?k1 ?k2 ?k3 ?k4 ?k5 ?kK ?kd ?ku ?_ ?_; (case kx => assumption); (case k1 => k_asm); (case k2 => k_asm); (case k3 => k_asm); (case k4 => k_asm); (case k5 => k_asm); (case kK => first | exact rfl | assumption); (case kd => ktr_room); (case ku => ktr_units)); (intros; (try dsimp only); (try k_fold))))
  k_with "call ref" => (((with_reducible show PySem.wpAny _ _ (PySem.call (PySem.Value.ref 76) _ _) _ _ _); k_dflt (refine' use_x (convV_c _ _ _ _ _ ?kx) ?k1 ?k2 ?k3 ?k4 ?k5 ?kK ?kd ?ku ?_ ?_; (case kx => assumption); (case k1 => k_asm); (case k2 => k_asm); (case k3 => k_asm); (case k4 => k_asm); (case k5 => k_asm); (case kK => first | exact rfl | assumption); (case kd => ktr_room); (case ku => ktr_units)); (intros; (try dsimp only); (try k_fold))))
  k_with "delItem ref str" => ((k_dflt (refine' own_delItem ?F ?X ?I ?hQ ?hS ?hF ?_; (case F => k_asm); (case X => k_asm); (case I => k_inst); (case hS => k_is); (case hF => k_is); (case hQ => k_is); k_whole)))
  k_with "call builtin:list.append" => ((k_dflt (refine' append_L ?k1 ?k2 ?k3 ?z ?_; (case k1 => k_asm); (case k2 => k_asm); (case k3 => k_upd); (case z => first | assumption | omega)); intro zzh zzF zzN; (try k_sweep)))
  trivial
set_option maxHeartbeats 8000000 in
theorem set_c (w : World) (rest : Led) (x v : Str) (t tv : Tok) (self dx hl : Addr) (tk : Tok) (hv : List Value) (hs : List (Str × Str)) (k : Nat) (hx : Asc x) (hxl : Asc (Txt.lower x)) (hxv : Asc v) (hlx : x.length ≤ 2) (hbl : (Txt.lower x).cps.any badN = x.cps.any badN) (h1 : (self, instObj 175 dx) ∈ rest) (h2 : (dx, hdict w tk hl) ∈ rest) (ha : ∀ p ∈ rest, p.1 ≠ hl) (hD : DatAll rest hv (hs.map hdD)) (hsh : Short hs) (hsz : hv.length ≤ 900) (hs9 : hs.length ≤ 900) :
    ConX w 6 90 [.ref self, .str x t, .str v tv] [] ((hl, W.listOf hv.toArray k) :: rest) (fun kk => x.cps.any badN = false → v.cps.any badV = false → ∀ hv', DatAll rest hv' ((hs.filter (fun q => !(Txt.lower q.1 == Txt.lower x))).map hdD) → ∀ tp t1 t2 k' k2, tp ≠ hl → (∀ p ∈ rest, p.1 ≠ tp) → kk Value.none ((hl, W.listOf (hv' ++ [Value.ref tp]).toArray k') :: (tp, tup2 (Value.str x t1) (Value.str v t2) k2) :: rest)) (fun kk => (x.cps.any badN = true → kk ((hl, W.listOf hv.toArray k) :: rest)) ∧ (x.cps.any badN = false → v.cps.any badV = true → ∀ hv' k', DatAll rest hv' ((hs.filter (fun q => !(Txt.lower q.1 == Txt.lower x))).map hdD) → kk ((hl, W.listOf hv'.toArray k') :: rest))) := by
  intro mean mg mb dp un gd cn cs a ccd cl outer A₀ base h₀ L mm s Q E B F X N T hk hd hu hret hexc
  refine wpAny_call ?_; ktr_enter
  k_steps
  refine use_x (del_c w rest x t self dx hl _ hv hs k hxl hlx h1 h2 ha hD hsh (Nat.le_trans hsz (by decide))) (by k_asm) (by k_asm) (by k_asm) (by k_asm) (by k_asm) (by first | exact rfl | assumption) (by ktr_room) (by ktr_units) ?_ ?_
  · intro hb hv' k' hD'
    dsimp only
    intro h' tk' F' N'
    have hl9 : hv'.length ≤ 900 := by rw [hD'.length, List.length_map]; exact Nat.le_trans (List.length_filter_le _ _) hs9
    k_steps
    · rename hl < _ ∧ AllLt _ _ => l1
      rename News h₀ L _ _ => kN
      exact hret (by assumption) (by assumption) hv' hD' _ _ _ _ _ (Nat.ne_of_gt l1.1) (fun p hp => Nat.ne_of_lt (of_allLt l1.2 p hp)) _ _ (by assumption) (news_swap kN)
    · exact hexc.2 (by rw [← hbl]; assumption) (by assumption) hv' _ hD' _ _ _ _ _ _ (by assumption) (by assumption) (by assumption)
    · rename x.cps.any badN = true => e1
      rename (Txt.lower x).cps.any badN = false => e2
      rw [hbl, e1] at e2
      cases e2
  · intro hb
    dsimp only
    intro e t us g₂ h' tk' F' U' R'
    k_steps
    exact hexc.1 (by rw [← hbl]; assumption) _ _ _ _ _ _ (by assumption) (by assumption) (by assumption)
end
end Mine
end
section
-- part G7
open PySem PySem.W PySem.Calls PySem.Spec PyProof.Rows PyProof.Rows.LCg
namespace Mine
section
theorem reg42 : True := by
  w_top off
  k_with_none
  k_with "own k_steps" => (repeat' (first
    | (k_unfold; (try dsimp only))
    | (dsimp only; k_unfold; (try dsimp only))
    | ((fail_if_success (with_reducible show PySem.wpAny _ _ (PySem.exec (PySem.Stmt.While _ _ _ _) _) _ _ _)); (fail_if_success (with_reducible show PySem.wpAny _ _ (PySem.exec (PySem.Stmt.For _ _ _ _ _) _) _ _ _)); (fail_if_success (with_reducible show PySem.wpAny _ _ (PySem.eval (PySem.Expr.ListComp _ _ _ _) _) _ _ _)); (fail_if_success (with_reducible show PySem.wpAny _ _ (PySem.exec (PySem.Stmt.Assign [PySem.Expr.Name _ _] (PySem.Expr.ListComp _ _ _ _) _) _) _ _ _)); (fail_if_success (with_reducible show PySem.wpAny _ _ (PySem.pyIter _) _ _ _)); (fail_if_success (with_reducible show PySem.W.UnrPostW _ _ _ _ _ _ _ _)); (first | walk1 | (dsimp only; walk1)))))
  k_with "own ktr_enter" => (first
    | (refine' code_def ?k1 ?k2 ?k3 ?k4 ?k5 ?kA ?kF ?kK ?k6 ?k7 ?k8 ?k9 ?kB ?_ ?c2 ?c3 ?c4 ?c5; (case kA => exact rfl); (case kF => exact rfl); (case kK => assumption); (case k1 => k_asm); (case k2 => k_asm); (case k3 => k_asm); (case k4 => k_asm); (case k5 => k_asm); (case k6 => k_is); (case k7 => k_is); (case k8 => ktr_room); (case k9 => first | exact BindsTo.of_eq rfl | exact binds_K (by k_in) rfl (by k_is) rfl rfl rfl); (case c5 => decide); (case kB => exact locs rfl); (case c2 => exact rfl); (case c3 => exact rfl); (case c4 => exact rfl); k_whole; intro zzg zzL zzh zzFG zzF zzN zzB zzX zzT; (try dsimp only); (try k_fold))
    | (refine' code_defC ?k1 ?k2 ?k3 ?k4 ?k5 ?kA ?kF ?kK ?k6 ?k7 ?k8 ?k9 ?kB ?kD ?_ ?c2 ?c3 ?c4; (case kA => exact rfl); (case kF => exact rfl); (case kK => assumption); (case k1 => k_asm); (case k2 => k_asm); (case k3 => k_asm); (case k4 => k_asm); (case k5 => k_asm); (case k6 => k_is); (case k7 => k_is); (case k8 => ktr_room); (case k9 => first | exact BindsTo.of_eq rfl | exact binds_K (by k_in) rfl (by k_is) rfl rfl rfl); (case kB => exact rfl); (case kD => decide +kernel); (case c2 => exact rfl); (case c3 => exact rfl); (case c4 => exact rfl); k_whole; intro zzg zzL zzh zztk zzcells zzFG zzF zzN zzY zzB zzX zzT zzl1; k_cells zzY; (try simp only [List.cons_append, List.nil_append] at zzN); (try dsimp only); (try k_fold))
    | (refine' kp_more ?k1 ?k2 ?k3 ?k4 ?k5 ?kA ?kF ?kK ?k6 ?k7 ?k8 ?kX ?kM ?kN ?kD ?kR ?kP ?kT ?kB ?_ ?c2 ?c3 ?c4 ?c5; (case kA => exact rfl); (case kF => exact rfl); (case kK => assumption); (case k1 => k_asm); (case k2 => k_asm); (case k3 => k_asm); (case k4 => k_asm); (case k5 => k_asm); (case k6 => k_is); (case k7 => k_is); (case k8 => ktr_room); (case kX => kp_lit); (case kM => exact rfl); (case kN => exact rfl); (case kD => kp_flats); (case kR => exact rfl); (case kP => exact rfl); (case kT => exact fun _ => rfl); (case kB => exact fun _ => locs rfl); (case c5 => decide); (case c2 => exact rfl); (case c3 => exact rfl); (case c4 => exact rfl); k_whole; intro zzD zzo zzg zzL zzh zztk zzl1 zzlo zzhs zzfs zzFG zzF zzN zzB zzX zzT; (try dsimp only); (try k_fold)))
  k_with "TPost" => ((first | refine TPost.ret ?_ | refine TPost.brk ?_; (try dsimp only)))
  k_with "own k_all" => (first | assumption | (refine all_lt (by assumption) ?_; (try dsimp only); omega) | (exact fun p hp => Ne.symm (‹∀ p ∈ _, _ ≠ p.1› p hp)))
  k_with "own k_mem" => (first | exact List.Mem.head _ | ktr_member | (refine' mem_tail ?_; k_mem))
  k_with "leaving ref" => ((k_here; first | (refine' leave_onX ?k1 ?k2 ?k3 ?k4 ?_ ?k5; (case k5 => rfl); (case k1 => assumption); (case k3 => assumption); (case k4 => assumption); (case k2 => assumption); k_whole; intro zzh zzR zzU) | (refine' leave_raiseS ?k1 (Heap.MadeExc.of (by assumption)) ?k2 ?k3 ?_; (case k2 => assumption); (case k1 => assumption); (case k3 => k_asm); k_whole; intro zzh zzt zzS zzR zzU; (try dsimp only at zzS zzR zzU ⊢))))
  k_with "call ref" => (((with_reducible show PySem.wpAny _ _ (PySem.call (PySem.Value.ref 76) _ _) _ _ _); k_dflt (refine' use_x (convN_c _ _ _ _ _ ?kx) ?k1 ?k2 ?k3 ?k4 ?k5 ?kK ?kd ?ku ?_ ?_; (case kx => assumption); (case k1 => k_asm); (case k2 => k_asm); (case k3 => k_asm); (case k4 => k_asm); (case k5 => k_asm); (case kK => first | exact rfl | assumption); (case kd => ktr_room); (case ku => ktr_units)); (intros; (try dsimp only); (try k_fold))))
  k_with "call ref" => (((with_reducible show PySem.wpAny _ _ (PySem.call (PySem.Value.ref 76) _ _) _ _ _); k_dflt (refine' use_x (convV_c _ _ _ _ _ ?kx) ?k1 ?k2 ?k3 ?k4 ?k5 ?kK ?kd ?ku ?_ ?_; (case kx => assumption); (case k1 => k_asm); (case k2 => k_asm); (case k3 => k_asm); (case k4 => k_asm); (case k5 => k_asm); (case kK => first | exact rfl | assumption); (case kd => ktr_room); (case ku => ktr_units)); (intros; (try dsimp only); (try k_fold))))
  k_with "call builtin:list.append" => ((k_dflt (refine' append_L ?k1 ?k2 ?k3 ?z ?_; (case k1 => k_asm); (case k2 => k_asm); (case k3 => k_upd); (case z => first | assumption | omega)); intro zzh zzF zzN; (try k_sweep)))
  trivial
set_option maxHeartbeats 8000000 in
theorem setdef_c (w : World) (rest : Led) (x v : Str) (t tv : Tok) (self dx hl : Addr) (tk : Tok) (hv : List Value) (hs : List (Str × Str)) (k : Nat) (hx : Asc x) (hxl : Asc (Txt.lower x)) (hxv : Asc v) (hlx : x.length ≤ 2) (hbl : (Txt.lower x).cps.any badN = x.cps.any badN) (h1 : (self, instObj 175 dx) ∈ rest) (h2 : (dx, hdict w tk hl) ∈ rest) (ha : ∀ p ∈ rest, p.1 ≠ hl) (hD : DatAll rest hv (hs.map hdD)) (hsh : Short hs) (hsz : hv.length ≤ 1000) :
    ConX w 6 165 [.ref self, .str x t, .str v tv] [] ((hl, W.listOf hv.toArray k) :: rest) (fun kk => x.cps.any badN = false → (∀ q, hs.find? (fun q => Txt.lower q.1 == Txt.lower x) = some q → ∀ t, kk (.str q.2 t) ((hl, W.listOf hv.toArray k) :: rest)) ∧ (hs.find? (fun q => Txt.lower q.1 == Txt.lower x) = none → v.cps.any badV = false → ∀ tp t1 t2 k' k2, tp ≠ hl → (∀ p ∈ rest, p.1 ≠ tp) → kk (.str v tv) ((hl, W.listOf (hv ++ [Value.ref tp]).toArray k') :: (tp, tup2 (Value.str x t1) (Value.str v t2) k2) :: rest))) (fun kk => x.cps.any badN = true ∨ (hs.find? (fun q => Txt.lower q.1 == Txt.lower x) = none ∧ v.cps.any badV = true) → kk ((hl, W.listOf hv.toArray k) :: rest)) := by
  intro mean mg mb dp un gd cn cs a ccd cl outer A₀ base h₀ L mm s Q E B F X N T hk hd hu hret hexc
  refine wpAny_call ?_; ktr_enter
  k_steps
  refine use_x (get_c w _ x t self dx hl _ hv hs k hxl hlx (.tail _ h1) (.tail _ h2) (.head _) (hD.mono fun _ h => .tail _ h) hsh) (by k_asm) (by k_asm) (by k_asm) (by k_asm) (by k_asm) (by first | exact rfl | assumption) (by ktr_room) (by ktr_units) ?_ ?_
  · intro hb
    dsimp only
    refine ⟨?_, ?_⟩
    · intro q hq hf t' h' tk' F' N'
      k_steps
      exact (hret (by rw [← hbl]; assumption)).1 q hf _ _ _ (by assumption) (by assumption)
    · intro hf h' tk' F' N'
      k_steps
      · rename hl < _ ∧ AllLt _ _ => l1
        rename News h₀ L _ _ => kN
        exact (hret (by assumption)).2 hf (by assumption) _ _ _ _ _ (Nat.ne_of_gt l1.1) (fun p hp => Nat.ne_of_lt (of_allLt l1.2 p hp)) _ _ (by assumption) (news_swap kN)
      · exact hexc (.inr ⟨hf, by assumption⟩) _ _ _ _ _ _ (by assumption) (by assumption) (by assumption)
      all_goals exact hexc (.inl (by assumption)) _ _ _ _ _ _ (by assumption) (by assumption) (by assumption)
  · intro hb
    dsimp only
    intro e t us g₂ h' tk' F' U' R'
    k_steps
    exact hexc (.inl (by rw [← hbl]; assumption)) _ _ _ _ _ _ (by assumption) (by assumption) (by assumption)
end
end Mine
end
section
-- part LD
open PySem PySem.W PySem.Calls PySem.Spec PyProof.Rows PyProof.Rows.LCg
namespace Mine

theorem reg43 : True := by
  w_top off
  k_with_none
  trivial
/-- what a deed makes of the table, and what it tells -/
def deed (kind : Nat) (x v : Str) (hs : List (Str × Str)) : List (Str × Str) × Dat :=
  if x.cps.any badN then (hs, .bool false)
  else match kind with
    | 0 => if v.cps.any badV then (hs, .bool false) else (hs ++ [(x, v)], .none)
    | 1 => (hs.filter (fun q => !(Txt.lower q.1 == Txt.lower x)), .none)
    | 2 => if v.cps.any badV then (hs.filter (fun q => !(Txt.lower q.1 == Txt.lower x)), .bool false) else (hs.filter (fun q => !(Txt.lower q.1 == Txt.lower x)) ++ [(x, v)], .none)
    | 3 => match hs.find? (fun q => Txt.lower q.1 == Txt.lower x) with
      | some q => (hs, .str q.2)
      | none => if v.cps.any badV then (hs, .bool false) else (hs ++ [(x, v)], .str v)
    | _ => (hs ++ [(x, Str.ofString "")], .none)
theorem dat_pair {tp : Addr} {x v : Str} {t1 t2 : Tok} {k2 : Nat} {rest : Led} : DatIn ((tp, tup2 (Value.str x t1) (Value.str v t2) k2) :: rest) (.ref tp) (hdD (x, v)) :=
  DatIn.tuple (vs := [Value.str x t1, Value.str v t2]) (.head _) (.cons (.str _ _) (.cons (.str _ _) .nil))
theorem new_ne {tp hl : Addr} {o : Obj} {rest : Led} (ha : ∀ p ∈ rest, p.1 ≠ hl) (hne : tp ≠ hl) : ∀ p ∈ (tp, o) :: rest, p.1 ≠ hl := fun p hp => by
  rcases List.mem_cons.mp hp with rfl | hp
  · exact hne
  · exact ha p hp
section
theorem reg44 : True := by
  w_top off
  k_with_none
  k_with "own k_steps" => (repeat' (first
    | (k_unfold; (try dsimp only))
    | (dsimp only; k_unfold; (try dsimp only))
    | ((fail_if_success (with_reducible show PySem.wpAny _ _ (PySem.exec (PySem.Stmt.While _ _ _ _) _) _ _ _)); (fail_if_success (with_reducible show PySem.wpAny _ _ (PySem.exec (PySem.Stmt.For _ _ _ _ _) _) _ _ _)); (fail_if_success (with_reducible show PySem.wpAny _ _ (PySem.eval (PySem.Expr.ListComp _ _ _ _) _) _ _ _)); (fail_if_success (with_reducible show PySem.wpAny _ _ (PySem.exec (PySem.Stmt.Assign [PySem.Expr.Name _ _] (PySem.Expr.ListComp _ _ _ _) _) _) _ _ _)); (fail_if_success (with_reducible show PySem.wpAny _ _ (PySem.pyIter _) _ _ _)); (fail_if_success (with_reducible show PySem.W.UnrPostW _ _ _ _ _ _ _ _)); (fail_if_success (with_reducible show PySem.wpAny _ _ (PySem.call (PySem.Value.ref _) _ _) _ _ _)); (first | walk1 | (dsimp only; walk1)))))
  k_with "own ktr_enter" => (first
    | (refine' code_defT ?k1 ?k2 ?k3 ?k4 ?k5 ?kA ?kF ?kK ?k6 ?k7 ?k8 ?k9 ?kB ?_ ?c2 ?c3 ?c4 ?c5; (case kA => exact rfl); (case kF => exact rfl); (case kK => assumption); (case k1 => k_asm); (case k2 => k_asm); (case k3 => k_asm); (case k4 => k_asm); (case k5 => k_asm); (case k6 => k_is); (case k7 => k_is); (case k8 => ktr_room); (case k9 => first | exact BindsTo.of_eq rfl | exact binds_K (by k_in) rfl (by k_is) rfl rfl rfl); (case c5 => decide); (case kB => exact locs rfl); (case c2 => exact rfl); (case c3 => exact rfl); (case c4 => exact rfl); k_whole; intro zzg zzL zzh zzFG zzF zzN zzB zzX zzT zzD; (try dsimp only); (try k_fold))
    | (refine' code_def ?k1 ?k2 ?k3 ?k4 ?k5 ?kA ?kF ?kK ?k6 ?k7 ?k8 ?k9 ?kB ?_ ?c2 ?c3 ?c4 ?c5; (case kA => exact rfl); (case kF => exact rfl); (case kK => assumption); (case k1 => k_asm); (case k2 => k_asm); (case k3 => k_asm); (case k4 => k_asm); (case k5 => k_asm); (case k6 => k_is); (case k7 => k_is); (case k8 => ktr_room); (case k9 => first | exact BindsTo.of_eq rfl | exact binds_K (by k_in) rfl (by k_is) rfl rfl rfl); (case c5 => decide); (case kB => exact locs rfl); (case c2 => exact rfl); (case c3 => exact rfl); (case c4 => exact rfl); k_whole; intro zzg zzL zzh zzFG zzF zzN zzB zzX zzT; (try dsimp only); (try k_fold))
    | (refine' code_defC ?k1 ?k2 ?k3 ?k4 ?k5 ?kA ?kF ?kK ?k6 ?k7 ?k8 ?k9 ?kB ?kD ?_ ?c2 ?c3 ?c4; (case kA => exact rfl); (case kF => exact rfl); (case kK => assumption); (case k1 => k_asm); (case k2 => k_asm); (case k3 => k_asm); (case k4 => k_asm); (case k5 => k_asm); (case k6 => k_is); (case k7 => k_is); (case k8 => ktr_room); (case k9 => first | exact BindsTo.of_eq rfl | exact binds_K (by k_in) rfl (by k_is) rfl rfl rfl); (case kB => exact rfl); (case kD => decide +kernel); (case c2 => exact rfl); (case c3 => exact rfl); (case c4 => exact rfl); k_whole; intro zzg zzL zzh zztk zzcells zzFG zzF zzN zzY zzB zzX zzT zzl1; k_cells zzY; (try simp only [List.cons_append, List.nil_append] at zzN); (try dsimp only); (try k_fold))
    | (refine' kp_more ?k1 ?k2 ?k3 ?k4 ?k5 ?kA ?kF ?kK ?k6 ?k7 ?k8 ?kX ?kM ?kN ?kD ?kR ?kP ?kT ?kB ?_ ?c2 ?c3 ?c4 ?c5; (case kA => exact rfl); (case kF => exact rfl); (case kK => assumption); (case k1 => k_asm); (case k2 => k_asm); (case k3 => k_asm); (case k4 => k_asm); (case k5 => k_asm); (case k6 => k_is); (case k7 => k_is); (case k8 => ktr_room); (case kX => kp_lit); (case kM => exact rfl); (case kN => exact rfl); (case kD => kp_flats); (case kR => exact rfl); (case kP => exact rfl); (case kT => exact fun _ => rfl); (case kB => exact fun _ => locs rfl); (case c5 => decide); (case c2 => exact rfl); (case c3 => exact rfl); (case c4 => exact rfl); k_whole; intro zzD zzo zzg zzL zzh zztk zzl1 zzlo zzhs zzfs zzFG zzF zzN zzB zzX zzT; (try dsimp only); (try k_fold)))
  k_with "TPost" => ((first | refine TPost.ret ?_ | refine TPost.brk ?_; (try dsimp only)))
  k_with "own k_all" => (first | assumption | (refine all_lt (by assumption) ?_; (try dsimp only); omega) | (exact fun p hp => Ne.symm (‹∀ p ∈ _, _ ≠ p.1› p hp)))
  k_with "own k_mem" => (first | exact List.Mem.head _ | ktr_member | (refine' mem_tail ?_; k_mem))
  k_with "leaving ref" => ((k_here; first | (refine' leave_onX ?k1 ?k2 ?k3 ?k4 ?_ ?k5; (case k5 => rfl); (case k1 => assumption); (case k3 => assumption); (case k4 => assumption); (case k2 => assumption); k_whole; intro zzh zzR zzU) | (refine' leave_raiseS ?k1 (Heap.MadeExc.of (by assumption)) ?k2 ?k3 ?_; (case k2 => assumption); (case k1 => assumption); (case k3 => k_asm); k_whole; intro zzh zzt zzS zzR zzU; (try dsimp only at zzS zzR zzU ⊢))))
  k_with "delItem ref str" => ((k_dflt (refine' own_delItem ?F ?X ?I ?hQ ?hS ?hF ?_; (case F => k_asm); (case X => k_asm); (case I => k_inst); (case hS => k_is); (case hF => k_is); (case hQ => k_is); k_whole)))
  trivial
set_option maxHeartbeats 8000000 in
theorem done_c (w : World) (rest : Led) (x v : Str) (t tv tkd : Tok) (kind : Nat) (self dx hl : Addr) (tk : Tok) (hv : List Value) (hs : List (Str × Str)) (k : Nat) (hkind : kind ≤ 4) (hx : Asc x) (hxl : Asc (Txt.lower x)) (hxv : Asc v) (hlx : x.length ≤ 2) (hlv : v.length ≤ 2) (hbl : (Txt.lower x).cps.any badN = x.cps.any badN) (h1 : (self, instObj 175 dx) ∈ rest) (h2 : (dx, hdict w tk hl) ∈ rest) (ha : ∀ p ∈ rest, p.1 ≠ hl) (hD : DatAll rest hv (hs.map hdD)) (hsh : Short hs) (hsz : hv.length ≤ 900) :
    ConT w 10 355 [.ref self, .int (kind : Int) tkd, .str x t, .str v tv] [] ((hl, W.listOf hv.toArray k) :: rest) (fun kk => ∀ rest' hv' k' r, (∀ p ∈ rest, p ∈ rest') → (∀ p ∈ rest', p.1 ≠ hl) → DatAll rest' hv' (((deed kind x v hs).1).map hdD) → DatIn [] r (deed kind x v hs).2 → kk r ((hl, W.listOf hv'.toArray k') :: rest')) := by
  intro mean mg mb dp un gd cn cs a ccd cl A₀ h₀ L mm s Q E B F X N T hk hd hu hret
  have hs9 : hs.length ≤ 900 := by
    have := hD.length
    rw [List.length_map] at this
    omega
  obtain rfl | rfl | rfl | rfl | rfl : kind = 0 ∨ kind = 1 ∨ kind = 2 ∨ kind = 3 ∨ kind = 4 := by omega
  · refine wpAny_call ?_; ktr_enter
    k_steps
    refine use_x (addV_c w rest x v t tv self dx hl _ hv k hx hxv hlv h1 h2 ha (by omega)) (by k_asm) (by k_asm) (by k_asm) (by k_asm) (by k_asm) (by first | exact rfl | assumption) (by ktr_room) (by ktr_units) ?_ ?_
    · intro hb hbv tp t1 t2 k' k2 hne hall
      have e : deed 0 x v hs = (hs ++ [(x, v)], Dat.none) := by simp [deed, hb, hbv]
      simp only [e] at hret
      dsimp only
      intro h' tk' F' N'
      k_steps
      exact hret ((tp, tup2 (Value.str x t1) (Value.str v t2) k2) :: rest) _ _ _ (fun _ h => .tail _ h) (new_ne ha hne) (by rw [List.map_append]; exact (hD.mono fun _ h => .tail _ h).append (.one dat_pair)) .none _ _ (by assumption) (by assumption)
    · intro hb
      have e : deed 0 x v hs = (hs, Dat.bool false) := by unfold deed; cases hbn : x.cps.any badN <;> simp_all
      simp only [e] at hret
      dsimp only
      intro e t us g₂ h' tk' F' U' R'
      k_steps
      exact hret _ _ _ _ (fun _ h => h) ha hD (.bool _) _ _ (by assumption) (by assumption)
  · refine wpAny_call ?_; ktr_enter
    k_steps
    refine use_x (del_c w rest x t self dx hl _ hv hs k hxl hlx h1 h2 ha hD hsh (by omega)) (by k_asm) (by k_asm) (by k_asm) (by k_asm) (by k_asm) (by first | exact rfl | assumption) (by ktr_room) (by ktr_units) ?_ ?_
    · intro hb hv' k' hD'
      have e : deed 1 x v hs = (hs.filter (fun q => !(Txt.lower q.1 == Txt.lower x)), Dat.none) := by simp [deed, ← hbl, hb]
      simp only [e] at hret
      dsimp only
      intro h' tk' F' N'
      k_steps
      exact hret _ _ _ _ (fun _ h => h) ha hD' .none _ _ (by assumption) (by assumption)
    · intro hb
      have e : deed 1 x v hs = (hs, Dat.bool false) := by simp [deed, ← hbl, hb]
      simp only [e] at hret
      dsimp only
      intro e t us g₂ h' tk' F' U' R'
      k_steps
      exact hret _ _ _ _ (fun _ h => h) ha hD (.bool _) _ _ (by assumption) (by assumption)
  · refine wpAny_call ?_; ktr_enter
    k_steps
    refine use_x (set_c w rest x v t tv self dx hl _ hv hs k hx hxl hxv hlx hbl h1 h2 ha hD hsh hsz hs9) (by k_asm) (by k_asm) (by k_asm) (by k_asm) (by k_asm) (by first | exact rfl | assumption) (by ktr_room) (by ktr_units) ?_ ?_
    · intro hb hbv hv' hD' tp t1 t2 k' k2 hne hall
      have e : deed 2 x v hs = (hs.filter (fun q => !(Txt.lower q.1 == Txt.lower x)) ++ [(x, v)], Dat.none) := by simp [deed, hb, hbv]
      simp only [e] at hret
      dsimp only
      intro h' tk' F' N'
      k_steps
      exact hret ((tp, tup2 (Value.str x t1) (Value.str v t2) k2) :: rest) _ _ _ (fun _ h => .tail _ h) (new_ne ha hne) (by rw [List.map_append]; exact (hD'.mono fun _ h => .tail _ h).append (.one dat_pair)) .none _ _ (by assumption) (by assumption)
    · refine ⟨?_, ?_⟩
      · intro hb
        have e : deed 2 x v hs = (hs, Dat.bool false) := by simp [deed, hb]
        simp only [e] at hret
        dsimp only
        intro e t us g₂ h' tk' F' U' R'
        k_steps
        exact hret _ _ _ _ (fun _ h => h) ha hD (.bool _) _ _ (by assumption) (by assumption)
      · intro hb hbv hv' k' hD'
        have e : deed 2 x v hs = (hs.filter (fun q => !(Txt.lower q.1 == Txt.lower x)), Dat.bool false) := by simp [deed, hb, hbv]
        simp only [e] at hret
        dsimp only
        intro e t us g₂ h' tk' F' U' R'
        k_steps
        exact hret _ _ _ _ (fun _ h => h) ha hD' (.bool _) _ _ (by assumption) (by assumption)
  · refine wpAny_call ?_; ktr_enter
    k_steps
    refine use_x (setdef_c w rest x v t tv self dx hl _ hv hs k hx hxl hxv hlx hbl h1 h2 ha hD hsh (by omega)) (by k_asm) (by k_asm) (by k_asm) (by k_asm) (by k_asm) (by first | exact rfl | assumption) (by ktr_room) (by ktr_units) ?_ ?_
    · intro hb
      refine ⟨?_, ?_⟩
      · intro q hq
        have e : deed 3 x v hs = (hs, Dat.str q.2) := by simp only [deed, hb, hq]; rfl
        simp only [e] at hret
        dsimp only
        intro t h' tk' F' N'
        k_steps
        exact hret _ _ _ _ (fun _ h => h) ha hD (.str _ _) _ _ (by assumption) (by assumption)
      · intro hq hbv tp t1 t2 k' k2 hne hall
        have e : deed 3 x v hs = (hs ++ [(x, v)], Dat.str v) := by simp only [deed, hb, hbv, hq]; rfl
        simp only [e] at hret
        dsimp only
        intro h' tk' F' N'
        k_steps
        exact hret ((tp, tup2 (Value.str x t1) (Value.str v t2) k2) :: rest) _ _ _ (fun _ h => .tail _ h) (new_ne ha hne) (by rw [List.map_append]; exact (hD.mono fun _ h => .tail _ h).append (.one dat_pair)) (.str _ _) _ _ (by assumption) (by assumption)
    · intro hb
      have e : deed 3 x v hs = (hs, Dat.bool false) := by
        unfold deed
        rcases hb with hb | ⟨hq, hbv⟩
        · rw [if_pos hb]
        · cases hbn : x.cps.any badN
          · simp only [hq, hbv]; rfl
          · rfl
      simp only [e] at hret
      dsimp only
      intro e t us g₂ h' tk' F' U' R'
      k_steps
      exact hret _ _ _ _ (fun _ h => h) ha hD (.bool _) _ _ (by assumption) (by assumption)
  · refine wpAny_call ?_; ktr_enter
    k_steps
    refine use_x (addN_c w rest x t self dx hl _ hv k hx h1 h2 ha (by omega)) (by k_asm) (by k_asm) (by k_asm) (by k_asm) (by k_asm) (by first | exact rfl | assumption) (by ktr_room) (by ktr_units) ?_ ?_
    · intro hb tp t1 t2 k' k2 hne hall
      have e : deed 4 x v hs = (hs ++ [(x, Str.ofString "")], Dat.none) := by simp [deed, hb]
      simp only [e] at hret
      dsimp only
      intro h' tk' F' N'
      k_steps
      exact hret ((tp, tup2 (Value.str x t1) (Value.str (Str.ofString "") t2) k2) :: rest) _ _ _ (fun _ h => .tail _ h) (new_ne ha hne) (by rw [List.map_append]; exact (hD.mono fun _ h => .tail _ h).append (.one dat_pair)) .none _ _ (by assumption) (by assumption)
    · intro hb
      have e : deed 4 x v hs = (hs, Dat.bool false) := by simp [deed, hb]
      simp only [e] at hret
      dsimp only
      intro e t us g₂ h' tk' F' U' R'
      k_steps
      exact hret _ _ _ _ (fun _ h => h) ha hD (.bool _) _ _ (by assumption) (by assumption)
end
end Mine
end
section
-- part LS3
open PySem PySem.W PySem.Calls PySem.Spec PyProof.Rows PyProof.Rows.LCg
namespace Mine
theorem reg45 : True := by
  w_top off
  k_with_none
  trivial
abbrev ledC (w : World) (L : Addr) (co : Obj) (x0 dx hl B' : Addr) (kv : List Value) (kb : Nat) (tk : Tok) (news : Led) : Led := (L + 1, co) :: (x0, instObj 175 dx) :: (dx, hdict w tk hl) :: (B', W.listOf kv.toArray kb) :: news
section
theorem reg46 : True := by
  w_top off
  k_with_none
  k_with "own k_steps" => (repeat' (first
    | (k_unfold; (try dsimp only))
    | (dsimp only; k_unfold; (try dsimp only))
    | ((fail_if_success (with_reducible show PySem.wpAny _ _ (PySem.exec (PySem.Stmt.While _ _ _ _) _) _ _ _)); (fail_if_success (with_reducible show PySem.wpAny _ _ (PySem.exec (PySem.Stmt.For _ _ _ _ _) _) _ _ _)); (fail_if_success (with_reducible show PySem.wpAny _ _ (PySem.eval (PySem.Expr.ListComp _ _ _ _) _) _ _ _)); (fail_if_success (with_reducible show PySem.wpAny _ _ (PySem.exec (PySem.Stmt.Assign [PySem.Expr.Name _ _] (PySem.Expr.ListComp _ _ _ _) _) _) _ _ _)); (fail_if_success (with_reducible show PySem.wpAny _ _ (PySem.pyIter _) _ _ _)); (fail_if_success (with_reducible show PySem.W.UnrPostW _ _ _ _ _ _ _ _)); (fail_if_success (with_reducible show PySem.wpAny _ _ (PySem.call (PySem.Value.ref _) _ _) _ _ _)); (first | walk1 | (dsimp only; walk1)))))
  k_with "own ktr_enter" => (first
    | (refine' code_defT ?k1 ?k2 ?k3 ?k4 ?k5 ?kA ?kF ?kK ?k6 ?k7 ?k8 ?k9 ?kB ?_ ?c2 ?c3 ?c4 ?c5; (case kA => exact rfl); (case kF => exact rfl); (case kK => first | assumption | exact rfl); (case k1 => k_asm); (case k2 => k_asm); (case k3 => k_asm); (case k4 => k_asm); (case k5 => k_asm); (case k6 => k_is); (case k7 => k_is); (case k8 => ktr_room); (case k9 => first | exact BindsTo.of_eq rfl | exact binds_K (by k_in) rfl (by k_is) rfl rfl rfl); (case c5 => decide); (case kB => exact locs rfl); (case c2 => exact rfl); (case c3 => exact rfl); (case c4 => exact rfl); k_whole; intro zzg zzL zzh zzFG zzF zzN zzB zzX zzT zzD; (try dsimp only); (try k_fold))
    | (refine' code_def ?k1 ?k2 ?k3 ?k4 ?k5 ?kA ?kF ?kK ?k6 ?k7 ?k8 ?k9 ?kB ?_ ?c2 ?c3 ?c4 ?c5; (case kA => exact rfl); (case kF => exact rfl); (case kK => first | assumption | exact rfl); (case k1 => k_asm); (case k2 => k_asm); (case k3 => k_asm); (case k4 => k_asm); (case k5 => k_asm); (case k6 => k_is); (case k7 => k_is); (case k8 => ktr_room); (case k9 => first | exact BindsTo.of_eq rfl | exact binds_K (by k_in) rfl (by k_is) rfl rfl rfl); (case c5 => decide); (case kB => exact locs rfl); (case c2 => exact rfl); (case c3 => exact rfl); (case c4 => exact rfl); k_whole; intro zzg zzL zzh zzFG zzF zzN zzB zzX zzT; (try dsimp only); (try k_fold))
    | (refine' code_defC ?k1 ?k2 ?k3 ?k4 ?k5 ?kA ?kF ?kK ?k6 ?k7 ?k8 ?k9 ?kB ?kD ?_ ?c2 ?c3 ?c4; (case kA => exact rfl); (case kF => exact rfl); (case kK => first | assumption | exact rfl); (case k1 => k_asm); (case k2 => k_asm); (case k3 => k_asm); (case k4 => k_asm); (case k5 => k_asm); (case k6 => k_is); (case k7 => k_is); (case k8 => ktr_room); (case k9 => first | exact BindsTo.of_eq rfl | exact binds_K (by k_in) rfl (by k_is) rfl rfl rfl); (case kB => exact rfl); (case kD => decide +kernel); (case c2 => exact rfl); (case c3 => exact rfl); (case c4 => exact rfl); k_whole; intro zzg zzL zzh zztk zzcells zzFG zzF zzN zzY zzB zzX zzT zzl1; k_cells zzY; (try simp only [List.cons_append, List.nil_append] at zzN); (try dsimp only); (try k_fold))
    | (refine' kp_more ?k1 ?k2 ?k3 ?k4 ?k5 ?kA ?kF ?kK ?k6 ?k7 ?k8 ?kX ?kM ?kN ?kD ?kR ?kP ?kT ?kB ?_ ?c2 ?c3 ?c4 ?c5; (case kA => exact rfl); (case kF => exact rfl); (case kK => first | assumption | exact rfl); (case k1 => k_asm); (case k2 => k_asm); (case k3 => k_asm); (case k4 => k_asm); (case k5 => k_asm); (case k6 => k_is); (case k7 => k_is); (case k8 => ktr_room); (case kX => kp_lit); (case kM => exact rfl); (case kN => exact rfl); (case kD => kp_flats); (case kR => exact rfl); (case kP => exact rfl); (case kT => exact fun _ => rfl); (case kB => exact fun _ => locs rfl); (case c5 => decide); (case c2 => exact rfl); (case c3 => exact rfl); (case c4 => exact rfl); k_whole; intro zzD zzo zzg zzL zzh zztk zzl1 zzlo zzhs zzfs zzFG zzF zzN zzB zzX zzT; (try dsimp only); (try k_fold)))
  k_with "TPost" => ((first | refine TPost.ret ?_ | refine TPost.brk ?_; (try dsimp only)))
  k_with "own k_all" => (first | assumption | (refine all_lt (by assumption) ?_; (try dsimp only); omega) | (exact fun p hp => Ne.symm (‹∀ p ∈ _, _ ≠ p.1› p hp)))
  k_with "own k_mem" => (first | exact List.Mem.head _ | ktr_member | (refine' mem_tail ?_; k_mem))
  k_with "leaving ref" => ((k_here; first | (refine' leave_onX ?k1 ?k2 ?k3 ?k4 ?_ ?k5; (case k5 => rfl); (case k1 => assumption); (case k3 => assumption); (case k4 => assumption); (case k2 => assumption); k_whole; intro zzh zzR zzU) | (refine' leave_raiseS ?k1 (Heap.MadeExc.of (by assumption)) ?k2 ?k3 ?_; (case k2 => assumption); (case k1 => assumption); (case k3 => k_asm); k_whole; intro zzh zzt zzS zzR zzU; (try dsimp only at zzS zzR zzU ⊢))))
  trivial
set_option maxHeartbeats 8000000 in
theorem seg3 {w : World} {rest : List Stmt} {mean : ExcName → Option Value} {mg mb : Str → Option Value} {dp un : Nat} {gd : Option (List Code)} {L fa : Addr} {cdv : Value} {A₀ : Around} {h₀ : Heap} {m : Str → Option Value} {s : Shared} {Q : Flow → Shared → Prop} {E : Value → Shared → Prop} (S : Std w mean mg mb dp un A₀ h₀) {news : Led}
    (x nm vl ahd : Int) (sg : Str) (tx ta tv ts tn tt : Tok) (x0 dx hl bl B' : Addr) (tk : Tok) (co : Obj) (hv kv : List Value) (k kb : Nat) (hs : List (Str × Str)) (text : Str) (r0 : Value) (dk : Dat)
    (F : Fr h₀ L s.heap m) (hm : locsOk m [(Str.ofString "x", .int x tx), (Str.ofString "table", .ref x0), (Str.ofString "book", .ref bl), (Str.ofString "ahead", .int ahd ta), (Str.ofString "value", .int vl tv), (Str.ofString "sign", .str sg ts), (Str.ofString "text", .str text tt), (Str.ofString "kept", .ref B'), (Str.ofString "told", r0)]) (N : News h₀ L s.heap ((hl, W.listOf hv.toArray k) :: ledC w L co x0 dx hl B' kv kb tk news)) (hco : co.data = .cell (some (.int nm tn)))
    (ha : ∀ p ∈ ledC w L co x0 dx hl B' kv kb tk news, p.1 ≠ hl) (hD : DatAll (ledC w L co x0 dx hl B' kv kb tk news) hv (hs.map hdD)) (hsh : Short hs) (hsz : hv.length ≤ 900) (hvl : 0 ≤ vl ∧ vl < 4096)
    (hx : Asc sg) (hxl : Asc (Txt.lower sg)) (hxv : Asc (sgn vl)) (hlx : sg.length ≤ 2) (hlv : (sgn vl).length ≤ 2) (hbl : (Txt.lower sg).cps.any badN = sg.cps.any badN) (hr0 : DatIn [] r0 dk) (hdk : (deed (kindF x) sg (sgn vl) hs).2 = dk) (hdk3 : dk = .none ∨ dk = .bool false ∨ ∃ s, dk = .str s)
    (h : ∀ h' tk' m' rest' hv' k', Fr h₀ L h' m' → locsOk m' [(Str.ofString "x", .int x tx), (Str.ofString "table", .ref x0), (Str.ofString "book", .ref bl), (Str.ofString "ahead", .int ahd ta), (Str.ofString "value", .int vl tv), (Str.ofString "sign", .str sg ts), (Str.ofString "text", .str text tt), (Str.ofString "kept", .ref B'), (Str.ofString "told", r0)] → News h₀ L h' ((hl, W.listOf hv'.toArray k') :: rest') → (∀ p ∈ ledC w L co x0 dx hl B' kv kb tk news, p ∈ rest') → (∀ p ∈ rest', p.1 ≠ hl) → DatAll rest' hv' ((deed (kindF x) sg (sgn vl) hs).1.map hdD) → LGo w dp un gd L fa cdv rest Q E { s with heap := h', toks := tk' }) :
    LGo w dp un gd L fa cdv (lawS 6 :: rest) Q E s := by
  obtain ⟨B, X, T, hd, hu⟩ := S
  replace F := fr_ovr _ F hm
  obtain ⟨K0, hK0⟩ : ∃ K0, K0 = LGo w dp un gd L fa cdv rest Q E := ⟨_, rfl⟩
  rw [← hK0] at h
  simp only [LGo, lawTop, lawEnv, cells_law] at *
  conv in lawS 6 => whnf
  conv in (occs := *) lawScope => all_goals (whnf; zeta)
  k_steps
  refine use_x (sign_c w vl _ _ hvl.1 hvl.2) (by k_asm) (by k_asm) (by k_asm) (by k_asm) (by k_asm) (by rfl) (by ktr_room) (by ktr_units) ?_ trivial
  intro t
  (try dsimp only)
  intro h' tk' F' N'
  k_steps
  rw [kindF_eq]
  refine use_t (done_c w _ sg (sgn vl) _ _ _ (kindF x) x0 dx hl _ hv hs k (kindF_le x) hx hxl hxv hlx hlv hbl (by k_mem) (by k_mem) ha hD hsh hsz) (by k_asm) (by k_asm) (by k_asm) (by k_asm) (by k_asm) (by rfl) (by ktr_room) (by ktr_units) ?_
  intro rest' hv' k' r hsub ha' hD' hr
  (try dsimp only)
  intro h' tk' F' N'
  rw [hdk] at hr
  obtain rfl | rfl | ⟨sx, rfl⟩ := hdk3
  · cases hr
    cases hr0
    k_steps
    subst hK0
    exact h _ _ _ _ _ _ (by assumption) (by repeat (first | exact List.forall_mem_nil _ | refine List.forall_mem_cons.mpr ⟨rfl, ?_⟩)) (by assumption) hsub ha' hD'
  · cases hr
    cases hr0
    k_steps
    subst hK0
    exact h _ _ _ _ _ _ (by assumption) (by repeat (first | exact List.forall_mem_nil _ | refine List.forall_mem_cons.mpr ⟨rfl, ?_⟩)) (by assumption) hsub ha' hD'
  · cases hr
    cases hr0
    k_steps
    · exfalso; rename (!(_ == _)) = true => e; simp at e
    · subst hK0
      exact h _ _ _ _ _ _ (by assumption) (by repeat (first | exact List.forall_mem_nil _ | refine List.forall_mem_cons.mpr ⟨rfl, ?_⟩)) (by assumption) hsub ha' hD'
end
end Mine
end
section
-- part LS4
open PySem PySem.W PySem.Calls PySem.Spec PyProof.Rows PyProof.Rows.LCg
namespace Mine
theorem reg47 : True := by
  w_top off
  k_with_none
  trivial
def lineF (p : Int × Option Int) : List Int := match p.2 with
  | some v => [p.1, 58, 32, v, 13, 10]
  | none => [p.1, 58, 32, 13, 10]
theorem lineF_len (p : Int × Option Int) : (lineF p).length ≤ 6 := by
  unfold lineF; split <;> simp
theorem flat_len : ∀ ps : Bk, (ps.flatMap lineF).length ≤ 6 * ps.length
  | [] => by simp
  | p :: r => by
    have := flat_len r
    have h := lineF_len p
    rw [List.flatMap_cons, List.length_append, List.length_cons]
    omega
section
variable {prog : Program} {w : World} {A : Around} {E : Value → Shared → Prop} {s : Shared} {h₀ : Heap} {L D b : Addr} {m : Str → Option Value} {news : Led} {Q : Value → Shared → Prop}
theorem extend_L {its ys : List Value} {n n2 : Nat} {news' : Led} (F : Fr h₀ L s.heap m) (N : News h₀ L s.heap news) (hb : (b, W.listOf ys.toArray n2) ∈ news) (U : Upd D (W.listOf its.toArray n) (W.listOf (its ++ ys).toArray (n + 1)) news news') (hz : its.length ≤ 5400) (h0 : 0 < ys.length) (h1 : ys.length ≤ 10)
    (h : ∀ h', Fr h₀ L h' m → News h₀ L h' news' → Q .none { s with heap := h' }) : wpAny (model prog w) A (call (.builtin "list.extend") [.ref D, .ref b]) Q E s := by
  refine kl_extend (its := its.toArray) F N hb rfl ?_ U ?_ ?_ ?_ h
  · show ys.length ≠ 0
    omega
  · rw [Builtin.List.listTooLong, sizeLine_eq, List.size_toArray, List.size_toArray]
    rw [decide_eq_false (by omega), Bool.and_false]
    exact Bool.false_ne_true
  · rw [sizeLine_eq]; exact Nat.le_trans hz (by decide)
  · rw [sizeLine_eq, List.size_toArray, List.size_toArray]; omega
end
abbrev ledD (L : Addr) (co : Obj) (B' : Addr) (kv : List Value) (kb : Nat) (news : Led) : Led := (L + 1, co) :: (B', W.listOf kv.toArray kb) :: news
section
theorem reg48 : True := by
  w_top off
  k_with_none
  k_with "own k_steps" => (repeat' (first
    | (k_unfold; (try dsimp only))
    | (dsimp only; k_unfold; (try dsimp only))
    | ((fail_if_success (with_reducible show PySem.wpAny _ _ (PySem.exec (PySem.Stmt.While _ _ _ _) _) _ _ _)); (fail_if_success (with_reducible show PySem.wpAny _ _ (PySem.exec (PySem.Stmt.For _ _ _ _ _) _) _ _ _)); (fail_if_success (with_reducible show PySem.wpAny _ _ (PySem.eval (PySem.Expr.ListComp _ _ _ _) _) _ _ _)); (fail_if_success (with_reducible show PySem.wpAny _ _ (PySem.exec (PySem.Stmt.Assign [PySem.Expr.Name _ _] (PySem.Expr.ListComp _ _ _ _) _) _) _ _ _)); (fail_if_success (with_reducible show PySem.wpAny _ _ (PySem.pyIter _) _ _ _)); (fail_if_success (with_reducible show PySem.W.UnrPostW _ _ _ _ _ _ _ _)); (fail_if_success (with_reducible show PySem.wpAny _ _ (PySem.call (PySem.Value.ref _) _ _) _ _ _)); (first | walk1 | (dsimp only; walk1)))))
  k_with "own ktr_enter" => (first
    | (refine' code_defT ?k1 ?k2 ?k3 ?k4 ?k5 ?kA ?kF ?kK ?k6 ?k7 ?k8 ?k9 ?kB ?_ ?c2 ?c3 ?c4 ?c5; (case kA => exact rfl); (case kF => exact rfl); (case kK => first | assumption | exact rfl); (case k1 => k_asm); (case k2 => k_asm); (case k3 => k_asm); (case k4 => k_asm); (case k5 => k_asm); (case k6 => k_is); (case k7 => k_is); (case k8 => ktr_room); (case k9 => first | exact BindsTo.of_eq rfl | exact binds_K (by k_in) rfl (by k_is) rfl rfl rfl); (case c5 => decide); (case kB => exact locs rfl); (case c2 => exact rfl); (case c3 => exact rfl); (case c4 => exact rfl); k_whole; intro zzg zzL zzh zzFG zzF zzN zzB zzX zzT zzD; (try dsimp only); (try k_fold))
    | (refine' code_def ?k1 ?k2 ?k3 ?k4 ?k5 ?kA ?kF ?kK ?k6 ?k7 ?k8 ?k9 ?kB ?_ ?c2 ?c3 ?c4 ?c5; (case kA => exact rfl); (case kF => exact rfl); (case kK => first | assumption | exact rfl); (case k1 => k_asm); (case k2 => k_asm); (case k3 => k_asm); (case k4 => k_asm); (case k5 => k_asm); (case k6 => k_is); (case k7 => k_is); (case k8 => ktr_room); (case k9 => first | exact BindsTo.of_eq rfl | exact binds_K (by k_in) rfl (by k_is) rfl rfl rfl); (case c5 => decide); (case kB => exact locs rfl); (case c2 => exact rfl); (case c3 => exact rfl); (case c4 => exact rfl); k_whole; intro zzg zzL zzh zzFG zzF zzN zzB zzX zzT; (try dsimp only); (try k_fold))
    | (refine' code_defC ?k1 ?k2 ?k3 ?k4 ?k5 ?kA ?kF ?kK ?k6 ?k7 ?k8 ?k9 ?kB ?kD ?_ ?c2 ?c3 ?c4; (case kA => exact rfl); (case kF => exact rfl); (case kK => first | assumption | exact rfl); (case k1 => k_asm); (case k2 => k_asm); (case k3 => k_asm); (case k4 => k_asm); (case k5 => k_asm); (case k6 => k_is); (case k7 => k_is); (case k8 => ktr_room); (case k9 => first | exact BindsTo.of_eq rfl | exact binds_K (by k_in) rfl (by k_is) rfl rfl rfl); (case kB => exact rfl); (case kD => decide +kernel); (case c2 => exact rfl); (case c3 => exact rfl); (case c4 => exact rfl); k_whole; intro zzg zzL zzh zztk zzcells zzFG zzF zzN zzY zzB zzX zzT zzl1; k_cells zzY; (try simp only [List.cons_append, List.nil_append] at zzN); (try dsimp only); (try k_fold))
    | (refine' kp_more ?k1 ?k2 ?k3 ?k4 ?k5 ?kA ?kF ?kK ?k6 ?k7 ?k8 ?kX ?kM ?kN ?kD ?kR ?kP ?kT ?kB ?_ ?c2 ?c3 ?c4 ?c5; (case kA => exact rfl); (case kF => exact rfl); (case kK => first | assumption | exact rfl); (case k1 => k_asm); (case k2 => k_asm); (case k3 => k_asm); (case k4 => k_asm); (case k5 => k_asm); (case k6 => k_is); (case k7 => k_is); (case k8 => ktr_room); (case kX => kp_lit); (case kM => exact rfl); (case kN => exact rfl); (case kD => kp_flats); (case kR => exact rfl); (case kP => exact rfl); (case kT => exact fun _ => rfl); (case kB => exact fun _ => locs rfl); (case c5 => decide); (case c2 => exact rfl); (case c3 => exact rfl); (case c4 => exact rfl); k_whole; intro zzD zzo zzg zzL zzh zztk zzl1 zzlo zzhs zzfs zzFG zzF zzN zzB zzX zzT; (try dsimp only); (try k_fold)))
  k_with "TPost" => ((first | refine TPost.ret ?_ | refine TPost.brk ?_; (try dsimp only)))
  k_with "own k_all" => (first | assumption | (refine all_lt (by assumption) ?_; (try dsimp only); omega) | (exact fun p hp => Ne.symm (‹∀ p ∈ _, _ ≠ p.1› p hp)))
  k_with "own k_mem" => (first | exact List.Mem.head _ | ktr_member | (refine' mem_tail ?_; k_mem))
  k_with "leaving ref" => ((k_here; first | (refine' leave_onX ?k1 ?k2 ?k3 ?k4 ?_ ?k5; (case k5 => rfl); (case k1 => assumption); (case k3 => assumption); (case k4 => assumption); (case k2 => assumption); k_whole; intro zzh zzR zzU) | (refine' leave_raiseS ?k1 (Heap.MadeExc.of (by assumption)) ?k2 ?k3 ?_; (case k2 => assumption); (case k1 => assumption); (case k3 => k_asm); k_whole; intro zzh zzt zzS zzR zzU; (try dsimp only at zzS zzR zzU ⊢))))
  trivial
set_option maxHeartbeats 8000000 in
theorem seg4 {w : World} {rest : List Stmt} {mean : ExcName → Option Value} {mg mb : Str → Option Value} {dp un : Nat} {gd : Option (List Code)} {L fa : Addr} {cdv : Value} {A₀ : Around} {h₀ : Heap} {m : Str → Option Value} {s : Shared} {Q : Flow → Shared → Prop} {E : Value → Shared → Prop} (S : Std w mean mg mb dp un A₀ h₀) {news : Led}
    (x nm vl ahd : Int) (sg : Str) (tx ta tv ts tn tt : Tok) (x0 bl B' : Addr) (co : Obj) (kv : List Value) (kb : Nat) (ks : Bk) (text : Str) 
    (F : Fr h₀ L s.heap m) (hm : locsOk m [(Str.ofString "x", .int x tx), (Str.ofString "table", .ref x0), (Str.ofString "book", .ref bl), (Str.ofString "ahead", .int ahd ta), (Str.ofString "sign", .str sg ts), (Str.ofString "text", .str text tt), (Str.ofString "kept", .ref B')]) (N : News h₀ L s.heap (ledD L co B' kv kb news)) (hco : co.data = .cell (some (.int nm tn)))
    (hE : PassesOwn (model PySem.Challenge.rw_kl0503_01.row.prog w) (lawTop dp un gd L fa cdv) (lawEnv L fa cdv) E) (hD : DatAll (ledD L co B' kv kb news) kv (ks.map bkD)) (hsz : kv.length ≤ 900)
    (h : ∀ h' tk' m' ln lv c, Fr h₀ L h' m' → locsOk m' [(Str.ofString "x", .int x tx), (Str.ofString "table", .ref x0), (Str.ofString "book", .ref bl), (Str.ofString "ahead", .int ahd ta), (Str.ofString "sign", .str sg ts), (Str.ofString "text", .str text tt), (Str.ofString "kept", .ref B'), (Str.ofString "lines", .ref ln)] → News h₀ L h' ((ln, W.listOf lv.toArray c) :: ledD L co B' kv kb news) → DatAll [] lv ((ks.flatMap lineF).map Dat.int) → LGo w dp un gd L fa cdv rest Q E { s with heap := h', toks := tk' }) :
    LGo w dp un gd L fa cdv (lawS 7 :: lawS 8 :: rest) Q E s := by
  obtain ⟨B, X, T, hd, hu⟩ := S
  replace F := fr_ovr _ F hm
  obtain ⟨K0, hK0⟩ : ∃ K0, K0 = LGo w dp un gd L fa cdv rest Q E := ⟨_, rfl⟩
  rw [← hK0] at h
  simp only [LGo, lawTop, lawEnv, cells_law] at *
  conv in lawS 7 => whnf
  conv in lawS 8 => whnf
  conv in (occs := *) lawScope => all_goals (whnf; zeta)
  k_steps
  rename Fr _ _ _ _ => lF
  rename News _ _ _ _ => lN
  rename _ < _ ∧ _ < _ ∧ AllLt _ _ => lt1
  refine For_turns lF ?_ (hE := hE)
  k_steps
  refine iter_listTurns rfl (by k_asm) (by k_asm) (show (B', W.listOf kv.toArray kb) ∈ _ by k_mem) rfl rfl (fun I hI => ?_)
  have hks : ks.length ≤ 900 := by
    have e := hD.length
    rw [List.length_map] at e
    omega
  refine items_list (Inv := fun vs m₁ n₁ => ∃ ln, locsOk m₁ [(Str.ofString "x", .int x tx), (Str.ofString "table", .ref x0), (Str.ofString "book", .ref bl), (Str.ofString "ahead", .int ahd ta), (Str.ofString "sign", .str sg ts), (Str.ofString "text", .str text tt), (Str.ofString "kept", .ref B'), (Str.ofString "lines", .ref ln)] ∧
    (∀ p ∈ ledD L co B' kv kb news, p.1 ≠ ln) ∧ I ≠ ln ∧ ∃ lv c ps qs, n₁ = (ln, W.listOf lv.toArray c) :: ledD L co B' kv kb news ∧ DatAll (ledD L co B' kv kb news) vs (ps.map bkD) ∧ DatAll [] lv ((qs.flatMap lineF).map Dat.int) ∧ qs ++ ps = ks) ?_ ?_ _ _ _ ⟨_, (by repeat (first | exact List.forall_mem_nil _ | refine List.forall_mem_cons.mpr ⟨rfl, ?_⟩)), ?_, (Nat.ne_of_gt (hI _ (.head _)) : @Ne Nat _ _), [], 0, ks, [], rfl, hD, .nil, rfl⟩
  rotate_left 2
  · exact List.forall_mem_cons.mpr ⟨Nat.ne_of_lt lt1.1, List.forall_mem_cons.mpr ⟨Nat.ne_of_lt lt1.2.1, fun p hp => Nat.ne_of_lt (of_allLt lt1.2.2 p hp)⟩⟩
  · rintro m₁ n₁ h1 tk1 ⟨ln, hm1, hln, hIn, lv, c, ps, qs, rfl, hvs, hlv, hq⟩ lF lN
    cases ps with
    | cons => cases hvs
    | nil =>
      rw [List.append_nil] at hq
      subst hq
      subst hK0
      exact h _ _ _ _ _ _ lF hm1 lN hlv
  · clear lF lN
    rintro v r m₁ n₁ o h1 tk1 ⟨ln, hm1, hln, hIn, lv, c, ps, qs, rfl, hvs, hlv, hq⟩ ho lF lN
    cases ps with
    | nil => cases hvs
    | cons p ps =>
      cases hvs with
      | cons hd1 hd2 =>
        obtain ⟨a, t, v2, n2, rfl, hm2, hv2⟩ := bk_inv hd1
        replace lF := fr_ovr _ lF hm1
        have hT := News.isTup lN (.tail _ (.tail _ hm2))
        have hll : lv.length ≤ 5400 := by
          have e1 := hlv.length
          have e2 := flat_len qs
          have e3 := congrArg List.length hq
          rw [List.length_map] at e1
          rw [List.length_append, List.length_cons] at e3
          omega
        obtain ⟨pn, pv⟩ := p
        cases pv with
        | none =>
          cases hv2
          k_steps
          rename _ < _ ∧ _ < _ ∧ _ < _ ∧ _ < _ ∧ AllLt _ _ => lt2
          refine extend_L (its := lv) (by k_asm) (by k_asm) (.head _) (Upd.tail (Nat.ne_of_gt lt2.2.1) (Upd.tail hIn (Upd.head hln))) hll (by exact Nat.succ_pos _) (by simp) ?_
          intro h' F' N'
          (try dsimp only)
          k_steps
          refine TPost.go ((ln, _) :: ledD L co B' kv kb news) (by assumption) (by assumption) (.tail _ (.head _)) (fun p hp => .tail _ (.tail _ hp)) ?_ ⟨.tail _ (.tail _ (.head _)), trivial⟩ ⟨ln, (by repeat (first | exact List.forall_mem_nil _ | refine List.forall_mem_cons.mpr ⟨rfl, ?_⟩)), hln, hIn, lv ++ _, _, ps, qs ++ [_], rfl, hd2, ?_, by rw [List.append_assoc]; exact hq⟩
          · exact List.forall_mem_cons.mpr ⟨Ne.symm hIn, fun p hp => Nat.ne_of_lt (hI p (.tail _ hp))⟩
          · rw [List.flatMap_append, List.map_append]
            exact hlv.append (.cons (.int _ _) (.cons (.int _ _) (.cons (.int _ _) (.cons (.int _ _) (.cons (.int _ _) .nil)))))
        | some pv =>
          cases hv2
          k_steps
          rename _ < _ ∧ _ < _ ∧ _ < _ ∧ _ < _ ∧ AllLt _ _ => lt2
          refine extend_L (its := lv) (by k_asm) (by k_asm) (.head _) (Upd.tail (Nat.ne_of_gt lt2.2.1) (Upd.tail hIn (Upd.head hln))) hll (by exact Nat.succ_pos _) (by simp) ?_
          intro h' F' N'
          (try dsimp only)
          k_steps
          refine TPost.go ((ln, _) :: ledD L co B' kv kb news) (by assumption) (by assumption) (.tail _ (.head _)) (fun p hp => .tail _ (.tail _ hp)) ?_ ⟨.tail _ (.tail _ (.head _)), trivial⟩ ⟨ln, (by repeat (first | exact List.forall_mem_nil _ | refine List.forall_mem_cons.mpr ⟨rfl, ?_⟩)), hln, hIn, lv ++ _, _, ps, qs ++ [_], rfl, hd2, ?_, by rw [List.append_assoc]; exact hq⟩
          · exact List.forall_mem_cons.mpr ⟨Ne.symm hIn, fun p hp => Nat.ne_of_lt (hI p (.tail _ hp))⟩
          · rw [List.flatMap_append, List.map_append]
            exact hlv.append (.cons (.int _ _) (.cons (.int _ _) (.cons (.int _ _) (.cons (.int _ _) (.cons (.int _ _) (.cons (.int _ _) .nil))))))
end
end Mine
end
section
-- part LS5
open PySem PySem.W PySem.Calls PySem.Spec PyProof.Rows PyProof.Rows.LCg
namespace Mine
theorem reg49 : True := by
  w_top off
  k_with_none
  trivial
abbrev ledE (w : World) (L : Addr) (co : Obj) (hl x0 dx ln : Addr) (hv lv : List Value) (k c : Nat) (tk : Tok) (news : Led) : Led := (L + 1, co) :: (hl, W.listOf hv.toArray k) :: (x0, instObj 175 dx) :: (dx, hdict w tk hl) :: (ln, W.listOf lv.toArray c) :: news
theorem ints_ok (l : List Int) : ∀ d ∈ l.map Dat.int, kqdOk 8 d = true := fun d hd => by
  obtain ⟨n, _, rfl⟩ := List.mem_map.mp hd
  rfl
section
theorem reg50 : True := by
  w_top off
  k_with_none
  k_with "own k_steps" => (repeat' (first
    | (k_unfold; (try dsimp only))
    | (dsimp only; k_unfold; (try dsimp only))
    | ((fail_if_success (with_reducible show PySem.wpAny _ _ (PySem.exec (PySem.Stmt.While _ _ _ _) _) _ _ _)); (fail_if_success (with_reducible show PySem.wpAny _ _ (PySem.exec (PySem.Stmt.For _ _ _ _ _) _) _ _ _)); (fail_if_success (with_reducible show PySem.wpAny _ _ (PySem.eval (PySem.Expr.ListComp _ _ _ _) _) _ _ _)); (fail_if_success (with_reducible show PySem.wpAny _ _ (PySem.exec (PySem.Stmt.Assign [PySem.Expr.Name _ _] (PySem.Expr.ListComp _ _ _ _) _) _) _ _ _)); (fail_if_success (with_reducible show PySem.wpAny _ _ (PySem.pyIter _) _ _ _)); (fail_if_success (with_reducible show PySem.W.UnrPostW _ _ _ _ _ _ _ _)); (fail_if_success (with_reducible show PySem.wpAny _ _ (PySem.call (PySem.Value.ref _) _ _) _ _ _)); (fail_if_success (with_reducible show PySem.wpAny _ _ (PySem.call (PySem.Value.type "bytes") _ _) _ _ _)); (fail_if_success (with_reducible show PySem.wpAny _ _ (PySem.call (PySem.Value.type "list") _ _) _ _ _)); (fail_if_success (with_reducible show PySem.wpAny _ _ (PySem.compareOp _ (PySem.Value.ref _) _) _ _ _)); (fail_if_success (with_reducible show PySem.wpAny _ _ (PySem.binaryOp PySem.Operator.Add (PySem.Value.ref _) _) _ _ _)); (first | walk1 | (dsimp only; walk1)))))
  k_with "own ktr_enter" => (first
    | (refine' code_defT ?k1 ?k2 ?k3 ?k4 ?k5 ?kA ?kF ?kK ?k6 ?k7 ?k8 ?k9 ?kB ?_ ?c2 ?c3 ?c4 ?c5; (case kA => exact rfl); (case kF => exact rfl); (case kK => first | assumption | exact rfl); (case k1 => k_asm); (case k2 => k_asm); (case k3 => k_asm); (case k4 => k_asm); (case k5 => k_asm); (case k6 => k_is); (case k7 => k_is); (case k8 => ktr_room); (case k9 => first | exact BindsTo.of_eq rfl | exact binds_K (by k_in) rfl (by k_is) rfl rfl rfl); (case c5 => decide); (case kB => exact locs rfl); (case c2 => exact rfl); (case c3 => exact rfl); (case c4 => exact rfl); k_whole; intro zzg zzL zzh zzFG zzF zzN zzB zzX zzT zzD; (try dsimp only); (try k_fold))
    | (refine' code_def ?k1 ?k2 ?k3 ?k4 ?k5 ?kA ?kF ?kK ?k6 ?k7 ?k8 ?k9 ?kB ?_ ?c2 ?c3 ?c4 ?c5; (case kA => exact rfl); (case kF => exact rfl); (case kK => first | assumption | exact rfl); (case k1 => k_asm); (case k2 => k_asm); (case k3 => k_asm); (case k4 => k_asm); (case k5 => k_asm); (case k6 => k_is); (case k7 => k_is); (case k8 => ktr_room); (case k9 => first | exact BindsTo.of_eq rfl | exact binds_K (by k_in) rfl (by k_is) rfl rfl rfl); (case c5 => decide); (case kB => exact locs rfl); (case c2 => exact rfl); (case c3 => exact rfl); (case c4 => exact rfl); k_whole; intro zzg zzL zzh zzFG zzF zzN zzB zzX zzT; (try dsimp only); (try k_fold))
    | (refine' code_defC ?k1 ?k2 ?k3 ?k4 ?k5 ?kA ?kF ?kK ?k6 ?k7 ?k8 ?k9 ?kB ?kD ?_ ?c2 ?c3 ?c4; (case kA => exact rfl); (case kF => exact rfl); (case kK => first | assumption | exact rfl); (case k1 => k_asm); (case k2 => k_asm); (case k3 => k_asm); (case k4 => k_asm); (case k5 => k_asm); (case k6 => k_is); (case k7 => k_is); (case k8 => ktr_room); (case k9 => first | exact BindsTo.of_eq rfl | exact binds_K (by k_in) rfl (by k_is) rfl rfl rfl); (case kB => exact rfl); (case kD => decide +kernel); (case c2 => exact rfl); (case c3 => exact rfl); (case c4 => exact rfl); k_whole; intro zzg zzL zzh zztk zzcells zzFG zzF zzN zzY zzB zzX zzT zzl1; k_cells zzY; (try simp only [List.cons_append, List.nil_append] at zzN); (try dsimp only); (try k_fold))
    | (refine' kp_more ?k1 ?k2 ?k3 ?k4 ?k5 ?kA ?kF ?kK ?k6 ?k7 ?k8 ?kX ?kM ?kN ?kD ?kR ?kP ?kT ?kB ?_ ?c2 ?c3 ?c4 ?c5; (case kA => exact rfl); (case kF => exact rfl); (case kK => first | assumption | exact rfl); (case k1 => k_asm); (case k2 => k_asm); (case k3 => k_asm); (case k4 => k_asm); (case k5 => k_asm); (case k6 => k_is); (case k7 => k_is); (case k8 => ktr_room); (case kX => kp_lit); (case kM => exact rfl); (case kN => exact rfl); (case kD => kp_flats); (case kR => exact rfl); (case kP => exact rfl); (case kT => exact fun _ => rfl); (case kB => exact fun _ => locs rfl); (case c5 => decide); (case c2 => exact rfl); (case c3 => exact rfl); (case c4 => exact rfl); k_whole; intro zzD zzo zzg zzL zzh zztk zzl1 zzlo zzhs zzfs zzFG zzF zzN zzB zzX zzT; (try dsimp only); (try k_fold)))
  k_with "TPost" => ((first | refine TPost.ret ?_ | refine TPost.brk ?_; (try dsimp only)))
  k_with "own k_all" => (first | assumption | (refine all_lt (by assumption) ?_; (try dsimp only); omega) | (exact fun p hp => Ne.symm (‹∀ p ∈ _, _ ≠ p.1› p hp)))
  k_with "own k_mem" => (first | exact List.Mem.head _ | ktr_member | (refine' mem_tail ?_; k_mem))
  k_with "leaving ref" => ((k_here; first | (refine' leave_onX ?k1 ?k2 ?k3 ?k4 ?_ ?k5; (case k5 => rfl); (case k1 => assumption); (case k3 => assumption); (case k4 => assumption); (case k2 => assumption); k_whole; intro zzh zzR zzU) | (refine' leave_raiseS ?k1 (Heap.MadeExc.of (by assumption)) ?k2 ?k3 ?_; (case k2 => assumption); (case k1 => assumption); (case k3 => k_asm); k_whole; intro zzh zzt zzS zzR zzU; (try dsimp only at zzS zzR zzU ⊢))))
  trivial
set_option maxHeartbeats 8000000 in
theorem seg5 {w : World} {rest : List Stmt} {mean : ExcName → Option Value} {mg mb : Str → Option Value} {dp un : Nat} {gd : Option (List Code)} {L fa : Addr} {cdv : Value} {A₀ : Around} {h₀ : Heap} {m : Str → Option Value} {s : Shared} {Q : Flow → Shared → Prop} {E : Value → Shared → Prop} (S : Std w mean mg mb dp un A₀ h₀) {news : Led}
    (x nm vl ahd : Int) (sg : Str) (tx ta tv ts tn tt : Tok) (x0 dx hl bl B' ln : Addr) (tk : Tok) (co : Obj) (hv lv : List Value) (k c : Nat) (hs : List (Str × Str)) (text : Str) (zs : List Int) (ns : List Nat)
    (F : Fr h₀ L s.heap m) (hm : locsOk m [(Str.ofString "x", .int x tx), (Str.ofString "table", .ref x0), (Str.ofString "book", .ref bl), (Str.ofString "ahead", .int ahd ta), (Str.ofString "sign", .str sg ts), (Str.ofString "text", .str text tt), (Str.ofString "kept", .ref B'), (Str.ofString "lines", .ref ln)]) (N : News h₀ L s.heap (ledE w L co hl x0 dx ln hv lv k c tk news)) (hco : co.data = .cell (some (.int nm tn)))
    (hD : DatAll (ledE w L co hl x0 dx ln hv lv k c tk news) hv (hs.map hdD)) (hsh : ∀ p ∈ hs, p.1.length ≤ 2 ∧ p.2.length ≤ 2) (hsz : hv.length ≤ 900) (hb2 : 2 ≤ (tabText hs).cps.size) (hblt : ∀ c ∈ (tabText hs).cps, c < 256) (hbsz : (tabText hs).cps.size ≤ 2 ^ 20)
    (hlv : DatAll [] lv (zs.map Dat.int)) (hzs : zs.length ≤ 6000) (hns : (toBytes (tabText hs)).toList.map (fun c => (c.toNat : Int)) = ns.flatMap enc) (hnz : ns.map (fun (n : Nat) => (n : Int)) = zs ++ [13, 10]) (hn4 : ∀ n ∈ ns, n < 4096) (hnl : ns.length ≤ 900)
    (h : ∀ h' tk' m', Fr h₀ L h' m' → locsOk m' [(Str.ofString "x", .int x tx), (Str.ofString "table", .ref x0), (Str.ofString "book", .ref bl), (Str.ofString "ahead", .int ahd ta), (Str.ofString "sign", .str sg ts), (Str.ofString "text", .str text tt), (Str.ofString "kept", .ref B')] → News h₀ L h' (ledE w L co hl x0 dx ln hv lv k c tk news) → LGo w dp un gd L fa cdv rest Q E { s with heap := h', toks := tk' }) :
    LGo w dp un gd L fa cdv (lawS 9 :: rest) Q E s := by
  obtain ⟨B, X, T, hd, hu⟩ := S
  replace F := fr_ovr _ F hm
  obtain ⟨K0, hK0⟩ : ∃ K0, K0 = LGo w dp un gd L fa cdv rest Q E := ⟨_, rfl⟩
  rw [← hK0] at h
  simp only [LGo, lawTop, lawEnv, cells_law] at *
  conv in lawS 9 => whnf
  conv in (occs := *) lawScope => all_goals (whnf; zeta)
  k_steps
  refine own_bytes (K := Mine.hd.heap_1 w.params) (by k_in) (by k_inst) (by k_is) (by k_is) ?_
  refine use_x (bytes_c w _ x0 dx hl _ hv hs k (by k_mem) (by k_mem) (by k_mem) hD hsh (by omega) hb2 hblt hbsz) (by k_asm) (by k_asm) (by k_asm) (by k_asm) (by k_asm) (by rfl) (by ktr_room) (by ktr_units) ?_ trivial
  intro t
  (try dsimp only)
  intro h' tk' F' N'
  refine ⟨_, _, rfl, ?_⟩
  k_steps
  refine call_list_bytes (b := toBytes (tabText hs)) rfl (by rw [toBytes, Array.size_map]; exact hbsz) (by k_asm) (by k_asm) ?_
  intro D h2 tk2 vs c2 hneD F2 N2 hdat
  have hvl2 : vs.length ≤ 2 ^ 20 := by
    have e := hdat.length
    have e2 : (toBytes (tabText hs)).toList.length = (tabText hs).cps.size := by rw [Array.length_toList, toBytes, Array.size_map]
    rw [List.length_map] at e
    omega
  have hdat2 : DatAll [] vs ((ns.flatMap enc).map Dat.int) := by rw [← hns, List.map_map]; exact hdat
  have hll : lv.length ≤ 6000 := by
    have e := hlv.length
    rw [List.length_map] at e
    omega
  k_steps
  refine use_t (read_c w _ D vs c2 ns (.head _) hdat2 hn4 hvl2 hnl) (by k_asm) (by k_asm) (by k_asm) (by k_asm) (by k_asm) (by rfl) (by ktr_room) (by ktr_units) ?_
  intro T us c3 hneT hus
  (try dsimp only)
  intro h' tk' F' N'
  have hus2 : DatAll [] us ((zs ++ [13, 10, 5]).map Dat.int) := by
    have e : (ns ++ [5]).map (fun (n : Nat) => Dat.int (n : Int)) = (zs ++ [13, 10, 5]).map Dat.int := by
      have : (ns ++ [5]).map (fun (n : Nat) => Dat.int (n : Int)) = (ns.map (fun (n : Nat) => (n : Int)) ++ [5]).map Dat.int := by
        rw [List.map_append, List.map_append, List.map_map]; rfl
      rw [this, hnz, List.append_assoc]
      rfl
    rw [← e]
    exact hus
  k_steps
  refine kmk_add_lit (by k_asm) (by k_asm) (News.isList (by k_asm) (by k_mem)) (News.isList (by k_asm) (by k_mem)) rfl ?_ (by rw [sizeLine_eq]; exact Nat.le_trans (Nat.add_le_add hll (Nat.le_refl _)) (by simp))
  intro D4 h4 F4 N4 l4
  have hD4 : ∀ a b c, DatAll [] (lv ++ [Value.int 13 a, Value.int 10 b, Value.int 5 c]) ((zs ++ [13, 10, 5]).map Dat.int) := fun _ _ _ => by
    rw [List.map_append]
    exact hlv.append (.cons (.int _ _) (.cons (.int _ _) (.cons (.int _ _) .nil)))
  k_steps
  refine kqd_ne (by k_asm) (by k_mem) rfl rfl hus2 (fun _ h => (List.not_mem_nil h).elim) (.head _) rfl rfl (hD4 _ _ _) (fun _ h => (List.not_mem_nil h).elim) (ints_ok _) (ints_ok _) (by ktr_units) ?_
  rw [dec_self]
  k_steps
  subst hK0
  refine h _ _ _ (by assumption) (by repeat (first | exact List.forall_mem_nil _ | refine List.forall_mem_cons.mpr ⟨rfl, ?_⟩)) (news_sub (by assumption) ?_)
  intro p hp; repeat (first | exact hp | refine List.Mem.tail _ ?_)
end
end Mine
end
section
-- part LS6
open PySem PySem.W PySem.Calls PySem.Spec PyProof.Rows PyProof.Rows.LCg
namespace Mine
theorem reg51 : True := by
  w_top off
  k_with_none
  trivial
def optT : Option Int → Str
  | some v => sgn v
  | none => Str.ofString ""
/-- the texts of a name's values, and what setdefault would tell -/
def mineF (ks : Bk) (nm : Int) : List Str := (ks.filter fun p => lawOne p.1 nm).map fun p => optT p.2
def firstF (ks : Bk) (nm : Int) : Str := (mineF ks nm).headD (Str.ofString "none")
abbrev ledF (L : Addr) (co : Obj) (B' : Addr) (kv : List Value) (kb : Nat) (news : Led) : Led := (L + 1, co) :: (B', W.listOf kv.toArray kb) :: news
theorem optT_ok {v : Option Int} (h : ∀ n, v = some n → 0 ≤ n ∧ n < 4096) : kqdOk 8 (.str (optT v)) = true := by
  cases v with
  | none => decide +kernel
  | some v =>
    have := h v rfl
    show (sgn v).cps.all (· < 0x110000) = true
    unfold sgn
    split
    · simp; omega
    · simp; omega
theorem mineF_ok {ks : Bk} (nm : Int) (h : ∀ p ∈ ks, ∀ v, p.2 = some v → 0 ≤ v ∧ v < 4096) : ∀ d ∈ (mineF ks nm).map Dat.str, kqdOk 8 d = true := fun d hd => by
  obtain ⟨x, hx, rfl⟩ := List.mem_map.mp hd
  obtain ⟨p, hp, rfl⟩ := List.mem_map.mp hx
  exact optT_ok (h p (List.mem_filter.mp hp).1)
section
theorem reg52 : True := by
  w_top off
  k_with_none
  k_with "own k_steps" => (repeat' (first
    | (k_unfold; (try dsimp only))
    | (dsimp only; k_unfold; (try dsimp only))
    | ((fail_if_success (with_reducible show PySem.wpAny _ _ (PySem.exec (PySem.Stmt.While _ _ _ _) _) _ _ _)); (fail_if_success (with_reducible show PySem.wpAny _ _ (PySem.exec (PySem.Stmt.For _ _ _ _ _) _) _ _ _)); (fail_if_success (with_reducible show PySem.wpAny _ _ (PySem.eval (PySem.Expr.ListComp _ _ _ _) _) _ _ _)); (fail_if_success (with_reducible show PySem.wpAny _ _ (PySem.exec (PySem.Stmt.Assign [PySem.Expr.Name _ _] (PySem.Expr.ListComp _ _ _ _) _) _) _ _ _)); (fail_if_success (with_reducible show PySem.wpAny _ _ (PySem.pyIter _) _ _ _)); (fail_if_success (with_reducible show PySem.W.UnrPostW _ _ _ _ _ _ _ _));  (fail_if_success (with_reducible show PySem.wpAny _ _ (PySem.call (PySem.Value.type "bytes") _ _) _ _ _)); (fail_if_success (with_reducible show PySem.wpAny _ _ (PySem.call (PySem.Value.type "list") _ _) _ _ _)); (fail_if_success (with_reducible show PySem.wpAny _ _ (PySem.compareOp _ (PySem.Value.ref _) _) _ _ _)); (fail_if_success (with_reducible show PySem.wpAny _ _ (PySem.binaryOp PySem.Operator.Add (PySem.Value.ref _) _) _ _ _)); (first | walk1 | (dsimp only; walk1)))))
  k_with "own ktr_enter" => (first
    | (refine' code_defT ?k1 ?k2 ?k3 ?k4 ?k5 ?kA ?kF ?kK ?k6 ?k7 ?k8 ?k9 ?kB ?_ ?c2 ?c3 ?c4 ?c5; (case kA => exact rfl); (case kF => exact rfl); (case kK => first | assumption | exact rfl); (case k1 => k_asm); (case k2 => k_asm); (case k3 => k_asm); (case k4 => k_asm); (case k5 => k_asm); (case k6 => k_is); (case k7 => k_is); (case k8 => ktr_room); (case k9 => first | exact BindsTo.of_eq rfl | exact binds_K (by k_in) rfl (by k_is) rfl rfl rfl); (case c5 => decide); (case kB => exact locs rfl); (case c2 => exact rfl); (case c3 => exact rfl); (case c4 => exact rfl); k_whole; intro zzg zzL zzh zzFG zzF zzN zzB zzX zzT zzD; (try dsimp only); (try k_fold))
    | (refine' code_def ?k1 ?k2 ?k3 ?k4 ?k5 ?kA ?kF ?kK ?k6 ?k7 ?k8 ?k9 ?kB ?_ ?c2 ?c3 ?c4 ?c5; (case kA => exact rfl); (case kF => exact rfl); (case kK => first | assumption | exact rfl); (case k1 => k_asm); (case k2 => k_asm); (case k3 => k_asm); (case k4 => k_asm); (case k5 => k_asm); (case k6 => k_is); (case k7 => k_is); (case k8 => ktr_room); (case k9 => first | exact BindsTo.of_eq rfl | exact binds_K (by k_in) rfl (by k_is) rfl rfl rfl); (case c5 => decide); (case kB => exact locs rfl); (case c2 => exact rfl); (case c3 => exact rfl); (case c4 => exact rfl); k_whole; intro zzg zzL zzh zzFG zzF zzN zzB zzX zzT; (try dsimp only); (try k_fold))
    | (refine' code_defC ?k1 ?k2 ?k3 ?k4 ?k5 ?kA ?kF ?kK ?k6 ?k7 ?k8 ?k9 ?kB ?kD ?_ ?c2 ?c3 ?c4; (case kA => exact rfl); (case kF => exact rfl); (case kK => first | assumption | exact rfl); (case k1 => k_asm); (case k2 => k_asm); (case k3 => k_asm); (case k4 => k_asm); (case k5 => k_asm); (case k6 => k_is); (case k7 => k_is); (case k8 => ktr_room); (case k9 => first | exact BindsTo.of_eq rfl | exact binds_K (by k_in) rfl (by k_is) rfl rfl rfl); (case kB => exact rfl); (case kD => decide +kernel); (case c2 => exact rfl); (case c3 => exact rfl); (case c4 => exact rfl); k_whole; intro zzg zzL zzh zztk zzcells zzFG zzF zzN zzY zzB zzX zzT zzl1; k_cells zzY; (try simp only [List.cons_append, List.nil_append] at zzN); (try dsimp only); (try k_fold))
    | (refine' kp_more ?k1 ?k2 ?k3 ?k4 ?k5 ?kA ?kF ?kK ?k6 ?k7 ?k8 ?kX ?kM ?kN ?kD ?kR ?kP ?kT ?kB ?_ ?c2 ?c3 ?c4 ?c5; (case kA => exact rfl); (case kF => exact rfl); (case kK => first | assumption | exact rfl); (case k1 => k_asm); (case k2 => k_asm); (case k3 => k_asm); (case k4 => k_asm); (case k5 => k_asm); (case k6 => k_is); (case k7 => k_is); (case k8 => ktr_room); (case kX => kp_lit); (case kM => exact rfl); (case kN => exact rfl); (case kD => kp_flats); (case kR => exact rfl); (case kP => exact rfl); (case kT => exact fun _ => rfl); (case kB => exact fun _ => locs rfl); (case c5 => decide); (case c2 => exact rfl); (case c3 => exact rfl); (case c4 => exact rfl); k_whole; intro zzD zzo zzg zzL zzh zztk zzl1 zzlo zzhs zzfs zzFG zzF zzN zzB zzX zzT; (try dsimp only); (try k_fold)))
  k_with "TPost" => ((first | refine TPost.ret ?_ | refine TPost.brk ?_; (try dsimp only)))
  k_with "own k_all" => (first | assumption | (refine all_lt (by assumption) ?_; (try dsimp only); omega) | (exact fun p hp => Ne.symm (‹∀ p ∈ _, _ ≠ p.1› p hp)))
  k_with "own k_mem" => (first | exact List.Mem.head _ | ktr_member | (refine' mem_tail ?_; k_mem))
  k_with "leaving ref" => ((k_here; first | (refine' leave_onX ?k1 ?k2 ?k3 ?k4 ?_ ?k5; (case k5 => rfl); (case k1 => assumption); (case k3 => assumption); (case k4 => assumption); (case k2 => assumption); k_whole; intro zzh zzR zzU) | (refine' leave_raiseS ?k1 (Heap.MadeExc.of (by assumption)) ?k2 ?k3 ?_; (case k2 => assumption); (case k1 => assumption); (case k3 => k_asm); k_whole; intro zzh zzt zzS zzR zzU; (try dsimp only at zzS zzR zzU ⊢))))
  k_with "call ref" => (((with_reducible show PySem.wpAny _ _ (PySem.call (PySem.Value.ref 329) _ _) _ _ _); k_dflt (refine' use_x (one_c _ _ _ _ _ _) ?k1 ?k2 ?k3 ?k4 ?k5 ?kK ?kd ?ku ?_ ?_; (case k1 => k_asm); (case k2 => k_asm); (case k3 => k_asm); (case k4 => k_asm); (case k5 => k_asm); (case kK => first | exact rfl | assumption); (case kd => ktr_room); (case ku => ktr_units)); (intros; (try dsimp only); (try k_fold))))
  k_with "call ref" => (((with_reducible show PySem.wpAny _ _ (PySem.call (PySem.Value.ref 315) _ _) _ _ _); k_dflt (refine' use_x (signN_c _ _) ?k1 ?k2 ?k3 ?k4 ?k5 ?kK ?kd ?ku ?_ ?_; (case k1 => k_asm); (case k2 => k_asm); (case k3 => k_asm); (case k4 => k_asm); (case k5 => k_asm); (case kK => first | exact rfl | assumption); (case kd => ktr_room); (case ku => ktr_units)); (intros; (try dsimp only); (try k_fold))))
  k_with "call ref" => (((with_reducible show PySem.wpAny _ _ (PySem.call (PySem.Value.ref 315) _ _) _ _ _); k_dflt (refine' use_x (sign_c _ _ _ _ ?kx ?ky) ?k1 ?k2 ?k3 ?k4 ?k5 ?kK ?kd ?ku ?_ ?_; (case kx => assumption); (case ky => assumption); (case k1 => k_asm); (case k2 => k_asm); (case k3 => k_asm); (case k4 => k_asm); (case k5 => k_asm); (case kK => first | exact rfl | assumption); (case kd => ktr_room); (case ku => ktr_units)); (intros; (try dsimp only); (try k_fold))))
  trivial
set_option maxHeartbeats 8000000 in
theorem seg6 {w : World} {rest : List Stmt} {mean : ExcName → Option Value} {mg mb : Str → Option Value} {dp un : Nat} {gd : Option (List Code)} {L fa : Addr} {cdv : Value} {A₀ : Around} {h₀ : Heap} {m : Str → Option Value} {s : Shared} {Q : Flow → Shared → Prop} {E : Value → Shared → Prop} (S : Std w mean mg mb dp un A₀ h₀) {news : Led}
    (x nm vl ahd : Int) (sg : Str) (tx ta tv ts tn tt : Tok) (x0 bl B' : Addr) (co : Obj) (kv : List Value) (kb : Nat) (ks : Bk) (text : Str)
    (F : Fr h₀ L s.heap m) (hm : locsOk m [(Str.ofString "x", .int x tx), (Str.ofString "table", .ref x0), (Str.ofString "book", .ref bl), (Str.ofString "ahead", .int ahd ta), (Str.ofString "sign", .str sg ts), (Str.ofString "text", .str text tt), (Str.ofString "kept", .ref B')]) (N : News h₀ L s.heap (ledF L co B' kv kb news)) (hco : co.data = .cell (some (.int nm tn)))
    (hD : DatAll (ledF L co B' kv kb news) kv (ks.map bkD)) (hsz : kv.length ≤ 900) (hbk : ∀ p ∈ ks, ∀ v, p.2 = some v → 0 ≤ v ∧ v < 4096)
    (h : ∀ h' tk' m' D ys c t1, Fr h₀ L h' m' → locsOk m' [(Str.ofString "x", .int x tx), (Str.ofString "table", .ref x0), (Str.ofString "book", .ref bl), (Str.ofString "ahead", .int ahd ta), (Str.ofString "sign", .str sg ts), (Str.ofString "text", .str text tt), (Str.ofString "kept", .ref B'), (Str.ofString "mine", .ref D), (Str.ofString "first", .str (firstF ks nm) t1)] → News h₀ L h' ((D, W.listOf ys.toArray c) :: ledF L co B' kv kb news) → DatAll [] ys ((mineF ks nm).map Dat.str) → LGo w dp un gd L fa cdv rest Q E { s with heap := h', toks := tk' }) :
    LGo w dp un gd L fa cdv (lawS 10 :: lawS 11 :: rest) Q E s := by
  obtain ⟨B, X, T, hd, hu⟩ := S
  replace F := fr_ovr _ F hm
  obtain ⟨K0, hK0⟩ : ∃ K0, K0 = LGo w dp un gd L fa cdv rest Q E := ⟨_, rfl⟩
  rw [← hK0] at h
  simp only [LGo, lawTop, lawEnv, cells_law] at *
  conv in lawS 10 => whnf
  conv in lawS 11 => whnf
  conv in (occs := *) lawScope => all_goals (whnf; zeta)
  k_steps
  rename Fr _ _ _ _ => lF
  rename News _ _ _ _ => lN
  refine cmp_asgn lF (by rfl) (by with_unfolding_all rfl) (by with_unfolding_all rfl) (by decide) (by rfl) (by decide) (by rfl) (by rfl) ?_
  k_steps
  rename News _ _ _ _ => lN
  rename Fr _ _ _ _ => lF
  refine CSrc.mk' (its := kv) (kk := kb) (fun v n₁ m₂ => ∀ t v₁ v₂ k, v = .ref t → (t, tup2 v₁ v₂ k) ∈ n₁ → m₂ (Str.ofString "n") = some v₁ ∧ m₂ (Str.ofString "v") = some v₂)
    (fun n0 r ys n₁ => n₁ = n0 ∧ ∃ ps qs, DatAll (ledF L co B' kv kb news) r (List.map bkD ps) ∧ DatAll [] ys (List.map (fun p : Int × Option Int => Dat.str (optT p.2)) qs) ∧ qs ++ ps.filter (fun p => lawOne p.1 nm) = ks.filter (fun p => lawOne p.1 nm) ∧ ∀ p ∈ ps, p ∈ ks)
    rfl lF lN (Nat.le_trans hsz (by decide)) ⟨rfl, ks, [], hD, .nil, rfl, fun _ h => h⟩ ?_ (asg_pair rfl rfl rfl (by decide) rfl ?_) ?_ ?_
  · rintro r ys n₁ ⟨rfl, _⟩
    exact .tail _ (.head _)
  · rintro v r ys n₁ ⟨rfl, ps, qs, hd', _⟩
    cases ps with
    | nil => cases hd'
    | cons p ps =>
      cases hd' with
      | cons hd1 hd2 =>
        obtain ⟨a, t, v2, n, rfl, hm, _⟩ := bk_inv hd1
        exact ⟨_, _, _, _, rfl, hm⟩
  · clear lF lN
    rintro g v r ys n₁ I oI C oC D m₂ h1 tk E' ⟨rfl, ps, qs, hd', hq, hfl, hin⟩ hT hoC lF lN off ne1 ne2 ne3
    cases ps with
    | nil => cases hd'
    | cons p ps =>
      cases hd' with
      | cons hd1 hd2 =>
        obtain ⟨a, t, v2, n, rfl, hm2, hv2⟩ := bk_inv hd1
        obtain ⟨hT1, hT2⟩ := hT _ _ _ _ rfl hm2
        obtain ⟨pn, pv⟩ := p
        have hin0 := hin _ (.head _)
        cases pv with
        | none =>
          cases hv2
          k_steps
          all_goals try exact True.intro
          · rename lawOne _ nm = true => e
            refine CEnd.go _ (by k_asm) (by k_asm) (fun _ h => h) off ⟨rfl, ps, qs ++ [(pn, none)], hd2, ?_, ?_, fun q hq => hin q (.tail _ hq)⟩
            · rw [List.map_append]; exact hq.append (.one (.str _ _))
            · rw [← hfl, List.filter_cons, if_pos e, List.append_assoc]; rfl
          · rename lawOne _ nm = false => e
            refine CEnd.go _ (by k_asm) (by k_asm) (fun _ h => h) off ⟨rfl, ps, qs, hd2, hq, ?_, fun q hq => hin q (.tail _ hq)⟩
            rw [← hfl, List.filter_cons, if_neg (by rw [e]; exact Bool.false_ne_true)]
        | some pv =>
          cases hv2
          obtain ⟨hpv0, hpv1⟩ := hbk _ hin0 pv rfl
          k_steps
          all_goals try exact True.intro
          · rename lawOne _ nm = true => e
            refine CEnd.go _ (by k_asm) (by k_asm) (fun _ h => h) off ⟨rfl, ps, qs ++ [(pn, some pv)], hd2, ?_, ?_, fun q hq => hin q (.tail _ hq)⟩
            · rw [List.map_append]; exact hq.append (.one (.str _ _))
            · rw [← hfl, List.filter_cons, if_pos e, List.append_assoc]; rfl
          · rename lawOne _ nm = false => e
            refine CEnd.go _ (by k_asm) (by k_asm) (fun _ h => h) off ⟨rfl, ps, qs, hd2, hq, ?_, fun q hq => hin q (.tail _ hq)⟩
            rw [← hfl, List.filter_cons, if_neg (by rw [e]; exact Bool.false_ne_true)]
  · rintro g ys n₁ ⟨rfl, ps, qs, hd', hq, hfl, hin⟩ hle D h1 tk lF lN ho
    cases ps with
    | cons => cases hd'
    | nil =>
      rw [List.filter_nil, List.append_nil] at hfl
      subst hfl
      have hq' : DatAll [] ys ((mineF ks nm).map Dat.str) := by unfold mineF; rw [List.map_map]; exact hq
      have hok := mineF_ok nm hbk
      k_steps
      cases hms : mineF ks nm with
      | nil =>
        have e : firstF ks nm = Str.ofString "none" := by unfold firstF; rw [hms]; rfl
        rw [hms] at hq' h
        rw [e] at h
        cases hq'
        refine kqd_ne (by k_asm) (.tail _ (.head _)) rfl rfl (xs := []) .nil (fun _ h => h) (.head _) rfl rfl (ys := []) .nil (fun _ h => h) (by simp) (by simp) (by ktr_units) ?_
        rw [dec_self]
        k_steps
        subst hK0
        exact h _ _ _ _ _ _ _ (by assumption) (by repeat (first | exact List.forall_mem_nil _ | refine List.forall_mem_cons.mpr ⟨rfl, ?_⟩)) (news_sub (by assumption) (fun p hp => .tail _ hp)) .nil
      | cons y0 r0 =>
        have e : firstF ks nm = y0 := by unfold firstF; rw [hms]; rfl
        rw [hms] at hq' h hok
        rw [e] at h
        have hq2 := hq'
        cases hq' with
        | cons hy0 hyr =>
          cases hy0
          refine kqd_ne (by k_asm) (.tail _ (.head _)) rfl rfl hq2 (fun _ h => (List.not_mem_nil h).elim) (.head _) rfl rfl (ys := []) .nil (fun _ h => h) hok (by simp) (by ktr_units) ?_
          rw [decide_eq_false (by simp)]
          k_steps
          rename (List.map Dat.str (y0 :: r0))[Int.toNat 0]? = some _ => hk1
          cases Option.some.inj hk1
          rename DatIn [] _ (Dat.str y0) => hk2
          cases hk2
          subst hK0
          exact h _ _ _ _ _ _ _ (by assumption) (by repeat (first | exact List.forall_mem_nil _ | refine List.forall_mem_cons.mpr ⟨rfl, ?_⟩)) (news_sub (by assumption) (fun p hp => .tail _ hp)) hq2
end
end Mine
end
section
-- part G8
open PySem PySem.W PySem.Calls PySem.Spec PyProof.Rows PyProof.Rows.LCg
namespace Mine
theorem reg53 : True := by
  w_top off
  k_with_none
  trivial
abbrev ConK (w : World) (d : Nat) (f : Addr) (vs : List Value) (kw : List (Str × Value)) (news : Led) (Ret : (Value → Led → Prop) → Prop) (Exc : (Led → Prop) → Prop) : Prop :=
  ∀ (mean : ExcName → Option Value) (mg mb : Str → Option Value) (dp un : Nat) (gd : Option (List Code)) (cn : Str) (cs : Scope) (a : Addr) (ccd : Value) (cl : List (Str × Addr)) (outer : List Env) (A₀ : Around) (base h₀ : Heap) (L : Addr) (mm : Str → Option Value) (s : Shared) (Q E : Value → Shared → Prop),
    Below A₀ base outer h₀ → Fr h₀ L s.heap mm → (Mine.hd.heap_1 w.params).In h₀ → News h₀ L s.heap news → Top pv lz mean mg mb h₀ → cs.kind = .function → dp + d < recursionLimit → un + 8 * d < cLine →
    Ret (fun v news' => ∀ h' tk', Fr h₀ L h' mm → News h₀ L h' news' → Q v { s with heap := h', toks := tk' }) →
    Exc (fun news' => ∀ e t us g₂ h' tk', Fr h₀ L g₂ mm → g₂.UpToSlots h' → RaisedS base g₂ (envX cn cs L a ccd cl :: outer) e (.type "ValueError") t us news' h' → E (.ref e) { s with heap := h', toks := tk' }) →
    codeAny (model PySem.Challenge.rw_kl0503_01.row.prog w) (ktrTop dp un gd cn cs L a ccd cl outer) (.call (.ref f) ⟨vs, kw⟩) (fun r s' => match r with | .ok (.ret v) => Q v s' | .ok _ => False | .error e => E e s') s
theorem use_k {w : World} {d : Nat} {f : Addr} {vs : List Value} {kw : List (Str × Value)} {news : Led} {Ret : (Value → Led → Prop) → Prop} {Exc : (Led → Prop) → Prop} (C : ConK w d f vs kw news Ret Exc)
    {mean : ExcName → Option Value} {mg mb : Str → Option Value} {dp un : Nat} {gd : Option (List Code)} {cn : Str} {cs : Scope} {a : Addr} {ccd : Value} {cl : List (Str × Addr)} {outer : List Env} {A₀ : Around} {base h₀ : Heap} {L : Addr} {mm : Str → Option Value} {s : Shared} {Q E : Value → Shared → Prop}
    (B : Below A₀ base outer h₀) (F : Fr h₀ L s.heap mm) (X : (Mine.hd.heap_1 w.params).In h₀) (N : News h₀ L s.heap news) (T : Top pv lz mean mg mb h₀) (hk : cs.kind = .function) (hd : dp + d < recursionLimit) (hu : un + 8 * d < cLine)
    (ret : Ret (fun v news' => ∀ h' tk', Fr h₀ L h' mm → News h₀ L h' news' → Q v { s with heap := h', toks := tk' }))
    (exc : Exc (fun news' => ∀ e t us g₂ h' tk', Fr h₀ L g₂ mm → g₂.UpToSlots h' → RaisedS base g₂ (envX cn cs L a ccd cl :: outer) e (.type "ValueError") t us news' h' → E (.ref e) { s with heap := h', toks := tk' })) :
    codeAny (model PySem.Challenge.rw_kl0503_01.row.prog w) (ktrTop dp un gd cn cs L a ccd cl outer) (.call (.ref f) ⟨vs, kw⟩) (fun r s' => match r with | .ok (.ret v) => Q v s' | .ok _ => False | .error e => E e s') s := C _ _ _ _ _ _ _ _ _ _ _ _ _ _ _ _ _ _ _ _ B F X N T hk hd hu ret exc

section
theorem reg54 : True := by
  w_top off
  k_with_none
  k_with "own k_steps" => (repeat' (first
    | (k_unfold; (try dsimp only))
    | (dsimp only; k_unfold; (try dsimp only))
    | ((fail_if_success (with_reducible show PySem.wpAny _ _ (PySem.exec (PySem.Stmt.While _ _ _ _) _) _ _ _)); (fail_if_success (with_reducible show PySem.wpAny _ _ (PySem.exec (PySem.Stmt.For _ _ _ _ _) _) _ _ _)); (fail_if_success (with_reducible show PySem.wpAny _ _ (PySem.eval (PySem.Expr.ListComp _ _ _ _) _) _ _ _)); (fail_if_success (with_reducible show PySem.wpAny _ _ (PySem.exec (PySem.Stmt.Assign [PySem.Expr.Name _ _] (PySem.Expr.ListComp _ _ _ _) _) _) _ _ _)); (fail_if_success (with_reducible show PySem.wpAny _ _ (PySem.pyIter _) _ _ _)); (fail_if_success (with_reducible show PySem.W.UnrPostW _ _ _ _ _ _ _ _)); (first | walk1 | (dsimp only; walk1)))))
  k_with "own ktr_enter" => (first
    | (refine' code_def ?k1 ?k2 ?k3 ?k4 ?k5 ?kA ?kF ?kK ?k6 ?k7 ?k8 ?k9 ?kB ?_ ?c2 ?c3 ?c4 ?c5; (case kA => exact rfl); (case kF => exact rfl); (case kK => assumption); (case k1 => k_asm); (case k2 => k_asm); (case k3 => k_asm); (case k4 => k_asm); (case k5 => k_asm); (case k6 => k_is); (case k7 => k_is); (case k8 => ktr_room); (case k9 => first | exact BindsTo.of_eq rfl | exact binds_K (by k_in) rfl (by k_is) rfl rfl rfl); (case c5 => decide); (case kB => exact locs rfl); (case c2 => exact rfl); (case c3 => exact rfl); (case c4 => exact rfl); k_whole; intro zzg zzL zzh zzFG zzF zzN zzB zzX zzT; (try dsimp only); (try k_fold))
    | (refine' code_defC ?k1 ?k2 ?k3 ?k4 ?k5 ?kA ?kF ?kK ?k6 ?k7 ?k8 ?k9 ?kB ?kD ?_ ?c2 ?c3 ?c4; (case kA => exact rfl); (case kF => exact rfl); (case kK => assumption); (case k1 => k_asm); (case k2 => k_asm); (case k3 => k_asm); (case k4 => k_asm); (case k5 => k_asm); (case k6 => k_is); (case k7 => k_is); (case k8 => ktr_room); (case k9 => first | exact BindsTo.of_eq rfl | exact binds_K (by k_in) rfl (by k_is) rfl rfl rfl); (case kB => exact rfl); (case kD => decide +kernel); (case c2 => exact rfl); (case c3 => exact rfl); (case c4 => exact rfl); k_whole; intro zzg zzL zzh zztk zzcells zzFG zzF zzN zzY zzB zzX zzT zzl1; k_cells zzY; (try simp only [List.cons_append, List.nil_append] at zzN); (try dsimp only); (try k_fold))
    | (refine' kp_more ?k1 ?k2 ?k3 ?k4 ?k5 ?kA ?kF ?kK ?k6 ?k7 ?k8 ?kX ?kM ?kN ?kD ?kR ?kP ?kT ?kB ?_ ?c2 ?c3 ?c4 ?c5; (case kA => exact rfl); (case kF => exact rfl); (case kK => assumption); (case k1 => k_asm); (case k2 => k_asm); (case k3 => k_asm); (case k4 => k_asm); (case k5 => k_asm); (case k6 => k_is); (case k7 => k_is); (case k8 => ktr_room); (case kX => kp_lit); (case kM => exact rfl); (case kN => exact rfl); (case kD => kp_flats); (case kR => exact rfl); (case kP => exact rfl); (case kT => exact fun _ => rfl); (case kB => exact fun _ => locs rfl); (case c5 => decide); (case c2 => exact rfl); (case c3 => exact rfl); (case c4 => exact rfl); k_whole; intro zzD zzo zzg zzL zzh zztk zzl1 zzlo zzhs zzfs zzFG zzF zzN zzB zzX zzT; (try dsimp only); (try k_fold)))
  k_with "TPost" => ((first | refine TPost.ret ?_ | refine TPost.brk ?_; (try dsimp only)))
  k_with "own k_all" => (first | assumption | (refine all_lt (by assumption) ?_; (try dsimp only); omega) | (exact fun p hp => Ne.symm (‹∀ p ∈ _, _ ≠ p.1› p hp)))
  k_with "own k_mem" => (first | exact List.Mem.head _ | ktr_member | (refine' mem_tail ?_; k_mem))
  k_with "leaving ref" => ((k_here; first | (refine' leave_onX ?k1 ?k2 ?k3 ?k4 ?_ ?k5; (case k5 => rfl); (case k1 => assumption); (case k3 => assumption); (case k4 => assumption); (case k2 => assumption); k_whole; intro zzh zzR zzU) | (refine' leave_raiseS ?k1 (Heap.MadeExc.of (by assumption)) ?k2 ?k3 ?_; (case k2 => assumption); (case k1 => assumption); (case k3 => k_asm); k_whole; intro zzh zzt zzS zzR zzU; (try dsimp only at zzS zzR zzU ⊢))))
  k_with "call ref" => (((with_reducible show PySem.wpAny _ _ (PySem.call (PySem.Value.ref 76) _ _) _ _ _); k_dflt (refine' use_x (convN_c _ _ _ _ _ ?kx) ?k1 ?k2 ?k3 ?k4 ?k5 ?kK ?kd ?ku ?_ ?_; (case kx => assumption); (case k1 => k_asm); (case k2 => k_asm); (case k3 => k_asm); (case k4 => k_asm); (case k5 => k_asm); (case kK => first | exact rfl | assumption); (case kd => ktr_room); (case ku => ktr_units)); (intros; (try dsimp only); (try k_fold))))
  k_with "call builtin:str.lower" => ((refine SCL.lower (by omega) ?_; intro _))
  trivial
set_option maxHeartbeats 8000000 in
theorem getd_c (w : World) (news : Led) (dv : Str) (td : Tok) (x : Str) (t : Tok) (self dx hl : Addr) (tk : Tok) (hv : List Value) (hs : List (Str × Str)) (k : Nat) (hx : Asc (Txt.lower x)) (hlx : x.length ≤ 2) (h1 : (self, instObj 175 dx) ∈ news) (h2 : (dx, hdict w tk hl) ∈ news) (h3 : (hl, listOf hv.toArray k) ∈ news) (hD : DatAll news hv (hs.map hdD)) (hsh : Short hs) :
    ConK w 4 122 [.ref self, .str x t] [(Str.ofString "default", .str dv td)] news (fun k => (Txt.lower x).cps.any badN = false → (∀ q ∈ hs, hs.find? (fun q => Txt.lower q.1 == Txt.lower x) = some q → ∀ t, k (.str q.2 t) news) ∧ (hs.find? (fun q => Txt.lower q.1 == Txt.lower x) = none → k (.str dv td) news)) (fun k => (Txt.lower x).cps.any badN = true → k news) := by
  intro mean mg mb dp un gd cn cs a ccd cl outer A₀ base h₀ L mm s Q E B F X N T hk hd hu hret hexc
  ktr_enter
  k_steps
  · rename Fr _ _ _ _ => lF
    rename News _ _ _ _ => lN
    refine For_turns lF ?_
    k_steps
    refine iter_listTurns rfl (by k_asm) (by k_asm) h3 rfl rfl (fun I hI => ?_)
    refine items_list (Inv := fun vs m₁ n₁ => n₁ = news ∧ (∃ t', ∀ p ∈ [(Str.ofString "name", Value.str (Txt.lower x) t'), (Str.ofString "default", Value.str dv td)], m₁ p.1 = some p.2) ∧
      ∃ ps : List (Str × Str), DatAll news vs (ps.map hdD) ∧ hs.find? (fun q => Txt.lower q.1 == Txt.lower x) = ps.find? (fun q => Txt.lower q.1 == Txt.lower x) ∧ ∀ p ∈ ps, p ∈ hs) ?_ ?_ _ _ _ ⟨rfl, ⟨_, List.forall_mem_cons.mpr ⟨rfl, List.forall_mem_cons.mpr ⟨rfl, List.forall_mem_nil _⟩⟩⟩, hs, hD, rfl, fun _ h => h⟩
    · rintro m₁ n₁ h tk ⟨rfl, ⟨t', hm⟩, ps, hd', hf, _⟩ lF lN
      cases ps with
      | cons => cases hd'
      | nil =>
        replace lF := fr_ovr _ lF hm
        k_steps
        exact (hret (by assumption)).2 hf _ _ (by assumption) (by assumption)
    · rintro v r m₁ n₁ o h tk ⟨rfl, ⟨t', hm⟩, ps, hd', hf, hsub⟩ ho lF lN
      cases ps with
      | nil => cases hd'
      | cons p ps =>
        cases hd' with
        | cons hd1 hd2 =>
          obtain ⟨a, t1, t2, n1, rfl, hm1⟩ := hd_inv hd1
          replace lF := fr_ovr _ lF hm
          have hp := hsub p (.head _)
          have hT := News.isTup lN (.tail _ hm1)
          have hlp := hsh p hp
          k_steps
          · rename (Txt.lower p.1 == Txt.lower x) = true => e
            rename News h₀ L _ _ => kN
            exact ((hret (by assumption)).1 p hp (by rw [hf, List.find?_cons]; simp only [e]) _) _ _ (by assumption) fun p hp => kN p (.tail _ hp)
          · rename (Txt.lower p.1 == Txt.lower x) = false => e
            refine TPost.go n₁ (by assumption) (by assumption) (.head _) (fun p hp => .tail _ hp) (fun p hp => Nat.ne_of_lt (hI p hp)) ⟨h3, trivial⟩ ⟨rfl, ⟨t', List.forall_mem_cons.mpr ⟨rfl, List.forall_mem_cons.mpr ⟨rfl, List.forall_mem_nil _⟩⟩⟩, ps, hd2, ?_, fun q hq => hsub q (.tail _ hq)⟩
            rw [hf, List.find?_cons]; simp only [e]
  · exact hexc (by assumption) _ _ _ _ _ _ (by assumption) (by assumption) (by assumption)
end
end Mine
end
section
-- part U3
open PySem PySem.W PySem.Calls PySem.Spec PyProof.Rows
namespace Mine
section
variable {prog : Program} {w : World} {A : Around} {E : Value → Shared → Prop} {s : Shared} {h₀ : Heap} {L d : Addr} {m : Str → Option Value} {news : List (Addr × Obj)} {o : Obj} {kn : Str} {v : Value}
theorem reg55 : True := by
  w_top off
  k_with_none
  trivial
theorem dict_one (ho : o.IsDictOf (strKind prog w) [(kn, v)]) : ∃ t ep, o.ExactDict ∧ o.data = .dict #[⟨PyData.keyHash w.params kn, .str kn t, v⟩] ep := by
  obtain ⟨es, ep, hex, hdd, hk, hp, hn⟩ := ho
  obtain ⟨l⟩ := es
  cases hp with
  | cons h1 h2 h3 =>
    cases h3
    rename_i e
    obtain ⟨hh, kk, vv⟩ := e
    obtain ⟨t, rfl⟩ := PySem.Value.isStrOf_shape h1
    dsimp only at h2
    subst h2
    obtain ⟨k', hk1, hk2⟩ := hk ⟨hh, .str kn t, vv⟩ (by simp)
    refine ⟨t, ep, hex, ?_⟩
    have e2 : k' = kn := by
      obtain ⟨t', e'⟩ := PySem.Value.isStrOf_shape (show Value.isStrOf k' (.str kn t) = true from hk1)
      cases e'
      rfl
    subst e2
    rw [hdd]
    have : hh = PyData.keyHash w.params k' := hk2
    rw [this]
theorem slot_dict_iter2 : typeLookup (.type "dict") "__iter__" = pure (some (.builtin "dict.__iter__")) := by rw [typeLookup_type, builtinLookup_eq_fast]; kernel_rfl
theorem sub_dict2 : isSubtype (.type "dict") (.type "dict") = pure true := by rw [isSubtype_type]; kernel_rfl
/-- {**d} into a new dict, of a dict of one name -/
theorem merge_one {Q : Unit → Shared → Prop} {D : Addr} (hne : d ≠ D) (hlo : (d == sysModules) = false) (hd : s.heap.get? d = some o) (ho : o.IsDictOf (strKind prog w) [(kn, v)]) (hD : s.heap.get? D = some { cls := .type "dict", data := .dict #[] })
    (h : ∀ h' od, h'.get? D = some od → (∃ t n, od.data = .dict #[⟨PyData.keyHash w.params kn, .str kn t, v⟩] n) → Heap.SameBut D s.heap h' → Q () { s with heap := h' }) : wpAny (model prog w) A (mergeMapping D (.ref d) true) Q E s := by
  obtain ⟨t, ep, hex, hdd⟩ := dict_one ho
  have hT : s.TypeIs (.ref d) "dict" := ⟨o, hd, hex.1⟩
  unfold mergeMapping
  refine wpAny_bind (wpAny_isInstance (T := "dict") (b := true) hT sub_dict2 ?_)
  dsimp only
  rw [if_pos rfl]
  refine wpAny_bind (wpAny_specialOf hT slot_dict_iter2 ?_)
  refine wpAny_bind (wpAny_pure ?_)
  have e1 : (some (Value.builtin "dict.__iter__") == some (Value.builtin "dict.__iter__")) = true := by decide
  rw [e1]
  dsimp only
  rw [hlo, if_neg Bool.false_ne_true]
  refine wpAny_bind (wpAny_dictEntries hD rfl ?_)
  rw [if_pos (by rfl)]
  refine wpAny_bind (wpAny_dictEntries hd hdd ?_)
  refine wpAny_bind ?_
  rw [← Array.forIn_toList, List.forIn_cons]
  refine wpAny_bind (wpAny_pure ?_)
  dsimp only
  rw [List.forIn_nil]
  refine wpAny_pure ?_
  refine wpAny_bind (wpAny_dictEntries hd hdd ?_)
  refine wpAny_bind (wpAny_dictEpoch hd hdd ?_)
  refine wpAny_bind ?_
  rw [show List.range (#[({ hash := PyData.keyHash w.params kn, key := Value.str kn t, val := v } : DictEntry)] : Array DictEntry).size = [0] from rfl, List.forIn_cons]
  refine wpAny_bind ?_
  refine wpAny_bind (wpAny_dictEntries hd hdd ?_)
  rw [show (#[({ hash := PyData.keyHash w.params kn, key := Value.str kn t, val := v } : DictEntry)] : Array DictEntry)[0]? = some ⟨PyData.keyHash w.params kn, .str kn t, v⟩ from rfl]
  dsimp only
  refine wpAny_bind (wpAny_holding ?_)
  rw [if_pos rfl]
  have nf : ∀ {Q : Option Nat → Shared → Prop}, Q none s → wpAny (model prog w) A (dictFind D (.str kn t) (PyData.keyHash w.params kn)) Q E s := fun hq => wpAny_dictFind_of (knd := PySem.strKind prog w) (strKind_is prog w kn t) hD rfl (fun e he => by simp at he) (by rw [show (#[] : Array DictEntry).findIdx? (fun e => (PySem.strKind prog w).is kn e.key) = none from by simp]; exact hq)
  refine wpAny_bind (nf ?_)
  rw [if_neg (by decide)]
  unfold dictPut
  refine wpAny_bind (nf ?_)
  dsimp only
  refine wpAny_updateDictKeys hD rfl ?_
  have hsb : Heap.SameBut D s.heap (s.heap.update D (Obj.mapDictKeys (·.push ⟨PyData.keyHash w.params kn, .str kn t, v⟩))) := Heap.SameBut.update ..
  have hd2 : (s.heap.update D (Obj.mapDictKeys (·.push ⟨PyData.keyHash w.params kn, .str kn t, v⟩))).get? d = some o := hsb.extBut _ _ hne hd
  refine wpAny_bind (wpAny_dictEpoch (s := { s with heap := s.heap.update D (Obj.mapDictKeys (·.push ⟨PyData.keyHash w.params kn, .str kn t, v⟩)) }) hd2 hdd ?_)
  rw [if_neg (by simp)]
  refine wpAny_pure ?_
  dsimp only
  rw [List.forIn_nil]
  refine wpAny_pure (wpAny_pure ?_)
  refine h _ _ (Heap.get?_update_self _ hD rfl) ⟨t, _, rfl⟩ hsb
theorem kwin_one {Q : List (Str × Value) → Shared → Prop} {f : Value} {D : Addr} {od : Obj} {t : Tok} {n : Nat} (hD : s.heap.get? D = some od) (hdd : od.data = .dict #[⟨PyData.keyHash w.params kn, .str kn t, v⟩] n)
    (h : Q [(kn, v)] s) : wpAny (model prog w) A (keywordsIn f D) Q E s := by
  unfold keywordsIn
  refine wpAny_bind (wpAny_dictEntries hD hdd ?_)
  refine wpAny_bind ?_
  rw [← Array.forIn_toList, List.forIn_cons]
  refine wpAny_bind (wpAny_pure ?_)
  dsimp only
  rw [List.forIn_nil]
  exact wpAny_pure (wpAny_pure h)

theorem merged_one {Q : Addr → Shared → Prop} {f : Value} {y : Sem Value} (hlo : (d == sysModules) = false) (F : Fr h₀ L s.heap m) (N : News h₀ L s.heap news) (hd : (d, o) ∈ news) (ho : o.IsDictOf (strKind prog w) [(kn, v)])
    (hy : ∀ (s₁ : Shared) (Q₁ : Value → Shared → Prop) (E₁ : Value → Shared → Prop), Fr h₀ L s₁.heap m → Q₁ (.ref d) s₁ → wpAny (model prog w) A y Q₁ E₁ s₁)
    (h : ∀ D h' od t n, Fr h₀ L h' m → News h₀ L h' news → h'.get? D = some od → od.data = .dict #[⟨PyData.keyHash w.params kn, .str kn t, v⟩] n → Q D { s with heap := h' }) : wpAny (model prog w) A (mergedKeywords f [(none, y)]) Q E s := by
  unfold mergedKeywords
  refine wpAny_bind (wpAny_alloc ?_)
  have F1 := F.push { cls := .type "dict", data := .dict #[] }
  have N1 := News.push F N { cls := .type "dict", data := .dict #[] } rfl
  have hD : (s.heap.push { cls := .type "dict", data := .dict #[] }).get? s.heap.objs.size = some { cls := .type "dict", data := .dict #[] } := Heap.get?_push_size _ rfl
  have hne : d ≠ s.heap.objs.size := Nat.ne_of_lt (Heap.lt_size (N _ hd).1)
  refine wpAny_bind (wpAny_holding ?_)
  dsimp only
  rw [List.forIn_cons]
  refine wpAny_bind ?_
  dsimp only
  refine wpAny_bind ?_
  rw [if_pos (by rfl)]
  refine wpAny_bind (wpAny_pure ?_)
  refine wpAny_bind (hy _ _ _ F1 ?_)
  refine wpAny_bind (wpAny_onRaise (wpAny_holding (wpAny_tryCatch (wpAny_onRaise (merge_one hne hlo (N1 _ (.tail _ hd)).1 ho hD fun h' od g1 g2 g3 => ?_)))))
  obtain ⟨t, n, g2⟩ := g2
  refine wpAny_pure ?_
  dsimp only
  rw [List.forIn_nil]
  refine wpAny_pure ?_
  rw [if_pos (by rfl)]
  refine wpAny_pure (wpAny_pure ?_)
  have hDn : h₀.get? s.heap.objs.size = none := next_is_new F
  have hDL : s.heap.objs.size ≠ L := Nat.ne_of_gt F.ns.lt
  refine h _ h' od t n (F1.change g3 hDL hDn) (fun p hp => ⟨g3.extBut _ _ (Nat.ne_of_lt (Heap.lt_size (N p hp).1)) (N1 _ (.tail _ hp)).1, (N p hp).2⟩) g1 g2
/-- f(x, **d) by a bound method, of a dict of one name -/
theorem callWith_kw1 {K : Frag} {q g : Addr} {self x0 : Value} {x y : Sem Value} {pos : Pos} {Q : Value → Shared → Prop} (X₀ : K.In h₀) (hf : fnIn K g = true) (hlo : (d == sysModules) = false) (F : Fr h₀ L s.heap m) (N : News h₀ L s.heap news) (hd : (d, o) ∈ news) (ho : o.IsDictOf (strKind prog w) [(kn, v)]) (hq : (q, methodObj (.ref g) self) ∈ news)
    (hx : ∀ (s₁ : Shared) (Q₁ : Value → Shared → Prop) (E₁ : Value → Shared → Prop), Fr h₀ L s₁.heap m → Q₁ x0 s₁ → wpAny (model prog w) A x Q₁ E₁ s₁)
    (hy : ∀ (s₁ : Shared) (Q₁ : Value → Shared → Prop) (E₁ : Value → Shared → Prop), Fr h₀ L s₁.heap m → Q₁ (.ref d) s₁ → wpAny (model prog w) A y Q₁ E₁ s₁)
    (h : ∀ h', Fr h₀ L h' m → News h₀ L h' news → wpAny (model prog w) A (call (.ref q) [x0] [(kn, v)]) Q E { s with heap := h' }) :
    wpAny (model prog w) A (callWith pos (.ref q) [] [(false, x)] [(none, y)]) Q E s := by
  unfold callWith
  refine wpAny_bind (wpAny_holding ?_)
  unfold evalArgs
  refine wpAny_bind ?_
  dsimp only
  refine wpAny_bind ?_
  refine hx s _ _ F ?_
  dsimp only
  rw [if_neg Bool.false_ne_true]
  refine wpAny_bind (wpAny_pure ?_)
  refine wpAny_bind (wpAny_holding ?_)
  refine wpAny_pure (wpAny_pure ?_)
  refine wpAny_bind (wpAny_pure ?_)
  refine wpAny_holding ?_
  rw [if_neg (show ¬ (([(none, y)] : List (Option Str × Sem Value)).all fun x => x.1.isSome) = true from fun e => by cases e)]
  refine wpAny_bind (merged_one hlo F N hd ho hy fun D h' od t n F1 N1 g1 g2 => ?_)
  dsimp only
  refine wpAny_bind (wpAny_pure ?_)
  refine wpAny_bind (wpAny_holding (kwin_one (s := { s with heap := h' }) g1 g2 ?_))
  refine wpAny_pure ?_
  refine wpAny_bind (wpAny_standAt ?_)
  obtain ⟨k, hk', Lk⟩ := keeps_M hf h' (methP N1 hq (X₀.keeps F1.keep))
  refine wpAny_bind (Lk.here (s := { s with heap := h' }) ?_)
  have hc := h h' F1 N1
  have tail : ∀ {t : Sem Value} {s₁ : Shared}, wpAny (model prog w) A t Q E s₁ → wpAny (model prog w) A (t >>= fun r => holding [r] point >>= fun _ => pure r) Q E s₁ :=
    fun ht => wpAny_bind (wpAny_mono ht (fun r s₂ hr => wpAny_bind (wpAny_holding (wpAny_point (wpAny_pure hr)))) fun _ _ x => x)
  have marked (mk : Value) : wpAny (model prog w) A (callMarked mk (.ref q) ([] ++ [x0]) [(kn, v)]) Q E { s with heap := h' } := by unfold callMarked; exact Calls.wpAny_keep hc
  rcases hk' with rfl | rfl | rfl <;> dsimp only <;> first | exact tail (marked _) | exact tail (wpAny_operating hc)
end
end Mine
end
section
-- part LO
open PySem PySem.W PySem.Calls PySem.Spec PyProof.Rows PyProof.Rows.LCg
namespace Mine

theorem reg56 : True := by
  w_top off
  k_with_none
  trivial
/-- what _law_looked tells -/
def lookedD (x : Str) (hs : List (Str × Str)) : Dat :=
  match hs.find? (fun q => Txt.lower q.1 == Txt.lower x) with
  | some q => .list [.tuple [.str q.2, .str q.2], .list ((hs.filter (fun q => Txt.lower q.1 == Txt.lower x)).map fun q => Dat.str q.2)]
  | none => .list [.tuple [.str (Str.ofString "none"), .str (Str.ofString "none")], .list ((hs.filter (fun q => Txt.lower q.1 == Txt.lower x)).map fun q => Dat.str q.2)]
section
theorem reg57 : True := by
  w_top off
  k_with_none
  k_with "own k_steps" => (repeat' (first
    | (k_unfold; (try dsimp only))
    | (dsimp only; k_unfold; (try dsimp only))
    | ((fail_if_success (with_reducible show PySem.wpAny _ _ (PySem.exec (PySem.Stmt.While _ _ _ _) _) _ _ _)); (fail_if_success (with_reducible show PySem.wpAny _ _ (PySem.exec (PySem.Stmt.For _ _ _ _ _) _) _ _ _)); (fail_if_success (with_reducible show PySem.wpAny _ _ (PySem.eval (PySem.Expr.ListComp _ _ _ _) _) _ _ _)); (fail_if_success (with_reducible show PySem.wpAny _ _ (PySem.exec (PySem.Stmt.Assign [PySem.Expr.Name _ _] (PySem.Expr.ListComp _ _ _ _) _) _) _ _ _)); (fail_if_success (with_reducible show PySem.wpAny _ _ (PySem.pyIter _) _ _ _)); (fail_if_success (with_reducible show PySem.W.UnrPostW _ _ _ _ _ _ _ _)); (fail_if_success (with_reducible show PySem.wpAny _ _ (PySem.call (PySem.Value.ref _) _ _) _ _ _)); (first | walk1 | (dsimp only; walk1)))))
  k_with "own ktr_enter" => (first
    | (refine' code_defT ?k1 ?k2 ?k3 ?k4 ?k5 ?kA ?kF ?kK ?k6 ?k7 ?k8 ?k9 ?kB ?_ ?c2 ?c3 ?c4 ?c5; (case kA => exact rfl); (case kF => exact rfl); (case kK => first | assumption | exact rfl); (case k1 => k_asm); (case k2 => k_asm); (case k3 => k_asm); (case k4 => k_asm); (case k5 => k_asm); (case k6 => k_is); (case k7 => k_is); (case k8 => ktr_room); (case k9 => first | exact BindsTo.of_eq rfl | exact binds_K (by k_in) rfl (by k_is) rfl rfl rfl); (case c5 => decide); (case kB => exact locs rfl); (case c2 => exact rfl); (case c3 => exact rfl); (case c4 => exact rfl); k_whole; intro zzg zzL zzh zzFG zzF zzN zzB zzX zzT zzD; (try dsimp only); (try k_fold))
    | (refine' code_def ?k1 ?k2 ?k3 ?k4 ?k5 ?kA ?kF ?kK ?k6 ?k7 ?k8 ?k9 ?kB ?_ ?c2 ?c3 ?c4 ?c5; (case kA => exact rfl); (case kF => exact rfl); (case kK => first | assumption | exact rfl); (case k1 => k_asm); (case k2 => k_asm); (case k3 => k_asm); (case k4 => k_asm); (case k5 => k_asm); (case k6 => k_is); (case k7 => k_is); (case k8 => ktr_room); (case k9 => first | exact BindsTo.of_eq rfl | exact binds_K (by k_in) rfl (by k_is) rfl rfl rfl); (case c5 => decide); (case kB => exact locs rfl); (case c2 => exact rfl); (case c3 => exact rfl); (case c4 => exact rfl); k_whole; intro zzg zzL zzh zzFG zzF zzN zzB zzX zzT; (try dsimp only); (try k_fold))
    | (refine' code_defC ?k1 ?k2 ?k3 ?k4 ?k5 ?kA ?kF ?kK ?k6 ?k7 ?k8 ?k9 ?kB ?kD ?_ ?c2 ?c3 ?c4; (case kA => exact rfl); (case kF => exact rfl); (case kK => first | assumption | exact rfl); (case k1 => k_asm); (case k2 => k_asm); (case k3 => k_asm); (case k4 => k_asm); (case k5 => k_asm); (case k6 => k_is); (case k7 => k_is); (case k8 => ktr_room); (case k9 => first | exact BindsTo.of_eq rfl | exact binds_K (by k_in) rfl (by k_is) rfl rfl rfl); (case kB => exact rfl); (case kD => decide +kernel); (case c2 => exact rfl); (case c3 => exact rfl); (case c4 => exact rfl); k_whole; intro zzg zzL zzh zztk zzcells zzFG zzF zzN zzY zzB zzX zzT zzl1; k_cells zzY; (try simp only [List.cons_append, List.nil_append] at zzN); (try dsimp only); (try k_fold))
    | (refine' kp_more ?k1 ?k2 ?k3 ?k4 ?k5 ?kA ?kF ?kK ?k6 ?k7 ?k8 ?kX ?kM ?kN ?kD ?kR ?kP ?kT ?kB ?_ ?c2 ?c3 ?c4 ?c5; (case kA => exact rfl); (case kF => exact rfl); (case kK => first | assumption | exact rfl); (case k1 => k_asm); (case k2 => k_asm); (case k3 => k_asm); (case k4 => k_asm); (case k5 => k_asm); (case k6 => k_is); (case k7 => k_is); (case k8 => ktr_room); (case kX => kp_lit); (case kM => exact rfl); (case kN => exact rfl); (case kD => kp_flats); (case kR => exact rfl); (case kP => exact rfl); (case kT => exact fun _ => rfl); (case kB => exact fun _ => locs rfl); (case c5 => decide); (case c2 => exact rfl); (case c3 => exact rfl); (case c4 => exact rfl); k_whole; intro zzD zzo zzg zzL zzh zztk zzl1 zzlo zzhs zzfs zzFG zzF zzN zzB zzX zzT; (try dsimp only); (try k_fold)))
  k_with "TPost" => ((first | refine TPost.ret ?_ | refine TPost.brk ?_; (try dsimp only)))
  k_with "own k_all" => (first | assumption | (refine all_lt (by assumption) ?_; (try dsimp only); omega) | (exact fun p hp => Ne.symm (‹∀ p ∈ _, _ ≠ p.1› p hp)))
  k_with "own k_mem" => (first | exact List.Mem.head _ | ktr_member | (refine' mem_tail ?_; k_mem))
  k_with "leaving ref" => ((k_here; first | (refine' leave_onX ?k1 ?k2 ?k3 ?k4 ?_ ?k5; (case k5 => rfl); (case k1 => assumption); (case k3 => assumption); (case k4 => assumption); (case k2 => assumption); k_whole; intro zzh zzR zzU) | (refine' leave_raiseS ?k1 (Heap.MadeExc.of (by assumption)) ?k2 ?k3 ?_; (case k2 => assumption); (case k1 => assumption); (case k3 => k_asm); k_whole; intro zzh zzt zzS zzR zzU; (try dsimp only at zzS zzR zzU ⊢))))
  trivial
set_option maxHeartbeats 8000000 in
theorem looked_c (w : World) (news : Led) (x : Str) (t : Tok) (self dx hl : Addr) (tk : Tok) (hv : List Value) (hs : List (Str × Str)) (k : Nat) (hx : Asc (Txt.lower x)) (hlx : x.length ≤ 2) (h1 : (self, instObj 175 dx) ∈ news) (h2 : (dx, hdict w tk hl) ∈ news) (h3 : (hl, W.listOf hv.toArray k) ∈ news) (hD : DatAll news hv (hs.map hdD)) (hsh : Short hs) (hsz : hv.length ≤ 900) :
    ConT w 10 362 [.ref self, .str x t] [] news (fun kk => ((Txt.lower x).cps.any badN = true → kk (.bool false) news) ∧ ((Txt.lower x).cps.any badN = false → ∀ r rest', (∀ p ∈ news, p ∈ rest') → DatIn rest' r (lookedD x hs) → kk r rest')) := by
  intro mean mg mb dp un gd cn cs a ccd cl A₀ h₀ L mm s Q E B F X N T hk hd hu hret
  refine wpAny_call ?_; ktr_enter
  k_steps
  refine wpAny_call ?_; ktr_enter
  k_steps
  refine callWith_kw1 (K := Mine.hd.heap_1 w.params) (g := 122) (x0 := .str x t) (by k_asm) (by k_is) (by assumption) (by k_asm) (by k_asm) (.head _) (by assumption) (.tail _ (.head _)) ?_ ?_ ?_
  · intro s₁ Q₁ E₁ F₁ hq
    k_dflt (refine ld F₁ (by rfl) ?_)
    exact hq
  · intro s₁ Q₁ E₁ F₁ hq
    refine wpAny_bind ?_
    k_dflt (refine ld F₁ (by rfl) ?_)
    exact wpAny_bind (wpAny_standAt (wpAny_pure hq))
  intro h' F' N'
  refine call_meth (by k_asm) (.tail _ (.head _)) ?_
  refine use_k (getd_c w _ _ _ x t self dx hl _ hv hs k hx hlx (.tail _ (.tail _ h1)) (.tail _ (.tail _ h2)) (.tail _ (.tail _ h3)) (hD.mono fun _ h => .tail _ (.tail _ h)) hsh) (by k_asm) (by k_asm) (by k_asm) (by k_asm) (by k_asm) (by first | exact rfl | assumption) (by ktr_room) (by ktr_units) ?_ ?_
  · intro hb
    dsimp only
    refine ⟨fun q hq hf t' h' tk' F' N' => ?_, fun hf h' tk' F' N' => ?_⟩
    · have el : lookedD x hs = .list [.tuple [.str q.2, .str q.2], .list ((hs.filter (fun q => Txt.lower q.1 == Txt.lower x)).map fun q => Dat.str q.2)] := by unfold lookedD; rw [hf]
      k_steps
      rename News _ _ _ (_ :: _) => lN
      refine use_x (getAll_c w _ x t self dx hl _ hv hs k hx hlx (by k_mem) (by k_mem) (by k_mem) (hD.mono (by intro p hp; repeat (first | exact hp | refine List.Mem.tail _ ?_))) hsh (Nat.le_trans hsz (by decide))) (by k_asm) (by k_asm) (by k_asm) lN (by k_asm) (by first | exact rfl | assumption) (by ktr_room) (by ktr_units) ?_ ?_
      · intro hb2 D ys hne hdat
        dsimp only
        intro h' tk' F' N'
        k_steps
        rename News h₀ L _ (_ :: _) => kN
        refine hret.2 hb _ _ ?_ ?_ _ _ (by assumption) kN
        · intro p hp; repeat (first | exact hp | refine List.Mem.tail _ ?_)
        · rw [el]
          refine DatIn.list (.head _) (.cons (DatIn.tuple (vs := [_, _]) (by k_mem) (.cons (.str _ _) (.cons (.str _ _) .nil))) (.cons (DatIn.list (by k_mem) (hdat.mono fun _ h => (List.not_mem_nil h).elim)) .nil))
      · intro hb2
        rw [hb] at hb2
        cases hb2
    · have el : lookedD x hs = .list [.tuple [.str (Str.ofString "none"), .str (Str.ofString "none")], .list ((hs.filter (fun q => Txt.lower q.1 == Txt.lower x)).map fun q => Dat.str q.2)] := by unfold lookedD; rw [hf]
      k_steps
      rename News _ _ _ (_ :: _) => lN
      refine use_x (getAll_c w _ x t self dx hl _ hv hs k hx hlx (by k_mem) (by k_mem) (by k_mem) (hD.mono (by intro p hp; repeat (first | exact hp | refine List.Mem.tail _ ?_))) hsh (Nat.le_trans hsz (by decide))) (by k_asm) (by k_asm) (by k_asm) lN (by k_asm) (by first | exact rfl | assumption) (by ktr_room) (by ktr_units) ?_ ?_
      · intro hb2 D ys hne hdat
        dsimp only
        intro h' tk' F' N'
        k_steps
        rename News h₀ L _ (_ :: _) => kN
        refine hret.2 hb _ _ ?_ ?_ _ _ (by assumption) kN
        · intro p hp; repeat (first | exact hp | refine List.Mem.tail _ ?_)
        · rw [el]
          refine DatIn.list (.head _) (.cons (DatIn.tuple (vs := [_, _]) (by k_mem) (.cons (.str _ _) (.cons (.str _ _) .nil))) (.cons (DatIn.list (by k_mem) (hdat.mono fun _ h => (List.not_mem_nil h).elim)) .nil))
      · intro hb2
        rw [hb] at hb2
        cases hb2
  · intro hb
    dsimp only
    intro e t us g₂ h' tk' F' U' R'
    k_steps
    rename News h₀ L _ (_ :: _) => kN
    exact hret.1 hb _ _ (by assumption) (news_sub kN (by intro p hp; repeat (first | exact hp | refine List.Mem.tail _ ?_)))
end
end Mine
end
section
-- part LS7
open PySem PySem.W PySem.Calls PySem.Spec PyProof.Rows PyProof.Rows.LCg
namespace Mine
theorem reg58 : True := by
  w_top off
  k_with_none
  trivial
abbrev ledG (w : World) (L : Addr) (co : Obj) (hl x0 dx D : Addr) (hv ys : List Value) (k c : Nat) (tk : Tok) (news : Led) : Led := (L + 1, co) :: (hl, W.listOf hv.toArray k) :: (x0, instObj 175 dx) :: (dx, hdict w tk hl) :: (D, W.listOf ys.toArray c) :: news
theorem two_ok {fs : Str} {ms : List Str} (hfs : kqdOk 8 (.str fs) = true) (hok : ∀ d ∈ ms.map Dat.str, kqdOk 8 d = true) : ∀ d ∈ [Dat.tuple [Dat.str fs, Dat.str fs], Dat.list (ms.map Dat.str)], kqdOk 8 d = true := fun d hd => by
  rcases List.mem_cons.mp hd with rfl | hd
  · simpa [kqdOk] using hfs
  · rw [List.mem_singleton.mp hd]
    simpa [kqdOk] using hok
section
theorem reg59 : True := by
  w_top off
  k_with_none
  k_with "own k_steps" => (repeat' (first
    | (k_unfold; (try dsimp only))
    | (dsimp only; k_unfold; (try dsimp only))
    | ((fail_if_success (with_reducible show PySem.wpAny _ _ (PySem.exec (PySem.Stmt.While _ _ _ _) _) _ _ _)); (fail_if_success (with_reducible show PySem.wpAny _ _ (PySem.exec (PySem.Stmt.For _ _ _ _ _) _) _ _ _)); (fail_if_success (with_reducible show PySem.wpAny _ _ (PySem.eval (PySem.Expr.ListComp _ _ _ _) _) _ _ _)); (fail_if_success (with_reducible show PySem.wpAny _ _ (PySem.exec (PySem.Stmt.Assign [PySem.Expr.Name _ _] (PySem.Expr.ListComp _ _ _ _) _) _) _ _ _)); (fail_if_success (with_reducible show PySem.wpAny _ _ (PySem.pyIter _) _ _ _)); (fail_if_success (with_reducible show PySem.W.UnrPostW _ _ _ _ _ _ _ _));  (fail_if_success (with_reducible show PySem.wpAny _ _ (PySem.call (PySem.Value.type "bytes") _ _) _ _ _)); (fail_if_success (with_reducible show PySem.wpAny _ _ (PySem.call (PySem.Value.type "list") _ _) _ _ _)); (fail_if_success (with_reducible show PySem.wpAny _ _ (PySem.compareOp _ (PySem.Value.ref _) _) _ _ _)); (fail_if_success (with_reducible show PySem.wpAny _ _ (PySem.binaryOp PySem.Operator.Add (PySem.Value.ref _) _) _ _ _)); (fail_if_success (with_reducible show PySem.wpAny _ _ (PySem.call (PySem.Value.ref 362) _ _) _ _ _)); (first | walk1 | (dsimp only; walk1)))))
  k_with "own ktr_enter" => (first
    | (refine' code_defT ?k1 ?k2 ?k3 ?k4 ?k5 ?kA ?kF ?kK ?k6 ?k7 ?k8 ?k9 ?kB ?_ ?c2 ?c3 ?c4 ?c5; (case kA => exact rfl); (case kF => exact rfl); (case kK => first | assumption | exact rfl); (case k1 => k_asm); (case k2 => k_asm); (case k3 => k_asm); (case k4 => k_asm); (case k5 => k_asm); (case k6 => k_is); (case k7 => k_is); (case k8 => ktr_room); (case k9 => first | exact BindsTo.of_eq rfl | exact binds_K (by k_in) rfl (by k_is) rfl rfl rfl); (case c5 => decide); (case kB => exact locs rfl); (case c2 => exact rfl); (case c3 => exact rfl); (case c4 => exact rfl); k_whole; intro zzg zzL zzh zzFG zzF zzN zzB zzX zzT zzD; (try dsimp only); (try k_fold))
    | (refine' code_def ?k1 ?k2 ?k3 ?k4 ?k5 ?kA ?kF ?kK ?k6 ?k7 ?k8 ?k9 ?kB ?_ ?c2 ?c3 ?c4 ?c5; (case kA => exact rfl); (case kF => exact rfl); (case kK => first | assumption | exact rfl); (case k1 => k_asm); (case k2 => k_asm); (case k3 => k_asm); (case k4 => k_asm); (case k5 => k_asm); (case k6 => k_is); (case k7 => k_is); (case k8 => ktr_room); (case k9 => first | exact BindsTo.of_eq rfl | exact binds_K (by k_in) rfl (by k_is) rfl rfl rfl); (case c5 => decide); (case kB => exact locs rfl); (case c2 => exact rfl); (case c3 => exact rfl); (case c4 => exact rfl); k_whole; intro zzg zzL zzh zzFG zzF zzN zzB zzX zzT; (try dsimp only); (try k_fold))
    | (refine' code_defC ?k1 ?k2 ?k3 ?k4 ?k5 ?kA ?kF ?kK ?k6 ?k7 ?k8 ?k9 ?kB ?kD ?_ ?c2 ?c3 ?c4; (case kA => exact rfl); (case kF => exact rfl); (case kK => first | assumption | exact rfl); (case k1 => k_asm); (case k2 => k_asm); (case k3 => k_asm); (case k4 => k_asm); (case k5 => k_asm); (case k6 => k_is); (case k7 => k_is); (case k8 => ktr_room); (case k9 => first | exact BindsTo.of_eq rfl | exact binds_K (by k_in) rfl (by k_is) rfl rfl rfl); (case kB => exact rfl); (case kD => decide +kernel); (case c2 => exact rfl); (case c3 => exact rfl); (case c4 => exact rfl); k_whole; intro zzg zzL zzh zztk zzcells zzFG zzF zzN zzY zzB zzX zzT zzl1; k_cells zzY; (try simp only [List.cons_append, List.nil_append] at zzN); (try dsimp only); (try k_fold))
    | (refine' kp_more ?k1 ?k2 ?k3 ?k4 ?k5 ?kA ?kF ?kK ?k6 ?k7 ?k8 ?kX ?kM ?kN ?kD ?kR ?kP ?kT ?kB ?_ ?c2 ?c3 ?c4 ?c5; (case kA => exact rfl); (case kF => exact rfl); (case kK => first | assumption | exact rfl); (case k1 => k_asm); (case k2 => k_asm); (case k3 => k_asm); (case k4 => k_asm); (case k5 => k_asm); (case k6 => k_is); (case k7 => k_is); (case k8 => ktr_room); (case kX => kp_lit); (case kM => exact rfl); (case kN => exact rfl); (case kD => kp_flats); (case kR => exact rfl); (case kP => exact rfl); (case kT => exact fun _ => rfl); (case kB => exact fun _ => locs rfl); (case c5 => decide); (case c2 => exact rfl); (case c3 => exact rfl); (case c4 => exact rfl); k_whole; intro zzD zzo zzg zzL zzh zztk zzl1 zzlo zzhs zzfs zzFG zzF zzN zzB zzX zzT; (try dsimp only); (try k_fold)))
  k_with "TPost" => ((first | refine TPost.ret ?_ | refine TPost.brk ?_; (try dsimp only)))
  k_with "own k_all" => (first | assumption | (refine all_lt (by assumption) ?_; (try dsimp only); omega) | (exact fun p hp => Ne.symm (‹∀ p ∈ _, _ ≠ p.1› p hp)))
  k_with "own k_mem" => (first | exact List.Mem.head _ | ktr_member | (refine' mem_tail ?_; k_mem))
  k_with "leaving ref" => ((k_here; first | (refine' leave_onX ?k1 ?k2 ?k3 ?k4 ?_ ?k5; (case k5 => rfl); (case k1 => assumption); (case k3 => assumption); (case k4 => assumption); (case k2 => assumption); k_whole; intro zzh zzR zzU) | (refine' leave_raiseS ?k1 (Heap.MadeExc.of (by assumption)) ?k2 ?k3 ?_; (case k2 => assumption); (case k1 => assumption); (case k3 => k_asm); k_whole; intro zzh zzt zzS zzR zzU; (try dsimp only at zzS zzR zzU ⊢))))
  k_with "call ref" => (((with_reducible show PySem.wpAny _ _ (PySem.call (PySem.Value.ref 336) _ _) _ _ _); k_dflt (refine' use_x (badName_c _ _ _ _) ?k1 ?k2 ?k3 ?k4 ?k5 ?kK ?kd ?ku ?_ ?_; (case k1 => k_asm); (case k2 => k_asm); (case k3 => k_asm); (case k4 => k_asm); (case k5 => k_asm); (case kK => first | exact rfl | assumption); (case kd => ktr_room); (case ku => ktr_units)); (intros; (try dsimp only); (try k_fold))))
  trivial
set_option maxHeartbeats 8000000 in
theorem seg7 {w : World} {rest : List Stmt} {mean : ExcName → Option Value} {mg mb : Str → Option Value} {dp un : Nat} {gd : Option (List Code)} {L fa : Addr} {cdv : Value} {A₀ : Around} {h₀ : Heap} {m : Str → Option Value} {s : Shared} {Q : Flow → Shared → Prop} {E : Value → Shared → Prop} (S : Std w mean mg mb dp un A₀ h₀) {news : Led}
    (x nm vl ahd : Int) (sg fs : Str) (tx ta tv ts tn tt tf : Tok) (x0 dx hl bl B' D : Addr) (tk : Tok) (co : Obj) (hv ys : List Value) (k c : Nat) (hs : List (Str × Str)) (text : Str) (ms : List Str)
    (F : Fr h₀ L s.heap m) (hm : locsOk m [(Str.ofString "x", .int x tx), (Str.ofString "table", .ref x0), (Str.ofString "book", .ref bl), (Str.ofString "ahead", .int ahd ta), (Str.ofString "sign", .str sg ts), (Str.ofString "text", .str text tt), (Str.ofString "kept", .ref B'), (Str.ofString "mine", .ref D), (Str.ofString "first", .str fs tf)]) (N : News h₀ L s.heap (ledG w L co hl x0 dx D hv ys k c tk news)) (hco : co.data = .cell (some (.int nm tn)))
    (hD : DatAll (ledG w L co hl x0 dx D hv ys k c tk news) hv (hs.map hdD)) (hsh : Short hs) (hsz : hv.length ≤ 900) (hys : DatAll [] ys (ms.map Dat.str)) (hok : ∀ d ∈ ms.map Dat.str, kqdOk 8 d = true) (hfs : kqdOk 8 (.str fs) = true)
    (hx : Asc (Txt.lower sg)) (hlx : sg.length ≤ 2) (hbn : (Txt.lower sg).cps.any badN = badName nm) (hlk : badName nm = false → lookedD sg hs = .list [.tuple [.str fs, .str fs], .list (ms.map Dat.str)])
    (h : ∀ h' tk' m', Fr h₀ L h' m' → locsOk m' [(Str.ofString "x", .int x tx), (Str.ofString "table", .ref x0), (Str.ofString "book", .ref bl), (Str.ofString "ahead", .int ahd ta), (Str.ofString "sign", .str sg ts), (Str.ofString "text", .str text tt), (Str.ofString "kept", .ref B')] → News h₀ L h' (ledG w L co hl x0 dx D hv ys k c tk news) → LGo w dp un gd L fa cdv rest Q E { s with heap := h', toks := tk' }) :
    LGo w dp un gd L fa cdv (lawS 12 :: rest) Q E s := by
  obtain ⟨B, X, T, hd, hu⟩ := S
  replace F := fr_ovr _ F hm
  obtain ⟨K0, hK0⟩ : ∃ K0, K0 = LGo w dp un gd L fa cdv rest Q E := ⟨_, rfl⟩
  rw [← hK0] at h
  simp only [LGo, lawTop, lawEnv, cells_law] at *
  conv in lawS 12 => whnf
  conv in (occs := *) lawScope => all_goals (whnf; zeta)
  k_steps
  refine use_t (looked_c w _ sg ts x0 dx hl _ hv hs k hx hlx (by k_mem) (by k_mem) (by k_mem) hD hsh hsz) (by k_asm) (by k_asm) (by k_asm) (by k_asm) (by k_asm) (by rfl) (by ktr_room) (by ktr_units) ?_
  refine ⟨fun hb => ?_, fun hb r rest' hsub hr => ?_⟩
  · (try dsimp only)
    intro h' tk' F' N'
    k_steps
    · trivial
    · subst hK0
      exact h _ _ _ (by assumption) (by repeat (first | exact List.forall_mem_nil _ | refine List.forall_mem_cons.mpr ⟨rfl, ?_⟩)) (by assumption)
    · rename badName nm = false => e
      rw [hbn, e] at hb
      cases hb
  · (try dsimp only)
    intro h' tk' F' N'
    have hb2 : badName nm = false := hbn ▸ hb
    have hret := h
    clear h
    rw [hlk hb2] at hr
    cases hr with
    | list hm1 hr2 =>
      rename_i a1 vs1 n1
      have N2 : News h₀ L h' ((a1, W.listOf vs1.toArray n1) :: ledG w L co hl x0 dx D hv ys k c tk (news ++ rest')) := by
        refine news_sub N' ?_
        intro p hp
        simp only [ledG, List.mem_cons, List.mem_append] at hp
        rcases hp with rfl | rfl | rfl | rfl | rfl | rfl | hp | hp
        · exact hm1
        · exact hsub _ (.head _)
        · exact hsub _ (.tail _ (.head _))
        · exact hsub _ (.tail _ (.tail _ (.head _)))
        · exact hsub _ (.tail _ (.tail _ (.tail _ (.head _))))
        · exact hsub _ (.tail _ (.tail _ (.tail _ (.tail _ (.head _)))))
        · exact hsub _ (.tail _ (.tail _ (.tail _ (.tail _ (.tail _ hp)))))
        · exact hp
      clear N'
      k_steps
      · trivial
      · refine kqd_ne (by k_asm) (show (a1, W.listOf vs1.toArray n1) ∈ _ by k_mem) rfl rfl hr2 (by intro p hp; repeat (first | exact List.mem_append_right _ hp | refine List.Mem.tail _ ?_)) (.head _) rfl rfl
          (.cons (DatIn.tuple (vs := [_, _]) (by k_mem) (.cons (.str _ _) (.cons (.str _ _) .nil))) (.cons (DatIn.list (by k_mem) (hys.mono fun _ h => (List.not_mem_nil h).elim)) .nil)) (fun _ h => h) (two_ok hfs hok) (two_ok hfs hok) (by ktr_units) ?_
        rw [dec_self]
        k_steps
        subst hK0
        refine hret _ _ _ (by assumption) (by repeat (first | exact List.forall_mem_nil _ | refine List.forall_mem_cons.mpr ⟨rfl, ?_⟩)) (news_sub (by assumption) ?_)
        intro p hp
        simp only [ledG, List.mem_cons, List.mem_append] at hp ⊢
        rcases hp with h | h | h | h | h | h <;> simp [h]
end
end Mine
end
section
-- part M1
open PySem PySem.W PySem.Calls PySem.Spec PyProof.Rows PyProof.Rows.LCg
namespace Mine

theorem reg60 : True := by
  w_top off
  k_with_none
  trivial
theorem dec_t {p : Prop} {i : Decidable p} (h : p) : @decide p i = true := @decide_eq_true p i h
theorem dec_f {p : Prop} {i : Decidable p} (h : ¬ p) : @decide p i = false := @decide_eq_false p i h
theorem dat_take {news : Led} : ∀ (n : Nat) {vs : List Value} {ds : List Dat}, DatAll news vs ds → DatAll news (kms_pick vs none (some (-1))) (ds.take (vs.length - 1)) := fun _ vs ds h => by
  have e : kms_pick vs none (some (-1)) = vs.take (vs.length - 1) := by
    unfold kms_pick kms_lo kms_hi
    simp
  rw [e]
  exact go _ h
where go {news : Led} : ∀ (n : Nat) {vs : List Value} {ds : List Dat}, DatAll news vs ds → DatAll news (vs.take n) (ds.take n)
  | 0, _, _, _ => .nil
  | _ + 1, _, _, .nil => .nil
  | n + 1, _, _, .cons h r => .cons h (go n r)
theorem dat_drop {news : Led} : ∀ (n : Nat) {vs : List Value} {ds : List Dat}, DatAll news vs ds → DatAll news (vs.drop n) (ds.drop n)
  | 0, _, _, h => h
  | _ + 1, _, _, .nil => .nil
  | n + 1, _, _, .cons _ r => dat_drop n r
theorem take_ok {n : Nat} {ds : List Dat} (h : ∀ d ∈ ds, kqdOk 8 d = true) : ∀ d ∈ ds.take n, kqdOk 8 d = true := fun d hd => h d (List.mem_of_mem_take hd)
def lineLen (p : Int × Option Int) : Int := ((sgn p.1).length : Int) + (match p.2 with | some v => ((sgn v).length : Int) | none => 0) + 4
/-- by how many signs the table's text was moved, if the law can tell -/
def movedF (bs ks : Bk) (name : Int) : Option Int :=
  if ks = bs then some 0
  else if ks.take (ks.length - 1) = bs then (ks.drop (ks.length - 1)).head?.map lineLen
  else if (bs.filter fun p => lawOne p.1 name).length ≠ 1 ∨ (ks.length : Int) ≠ (bs.length : Int) - 1 then none
  else (bs.filter fun p => lawOne p.1 name).head?.map lineLen
def optD (t : Tok) : Option Int → Value
  | some n => .int n t
  | none => .none
theorem sgn_len (n : Int) : (sgn n).length ≤ 2 := by
  unfold sgn
  split <;> simp [len1, len2]
theorem pick_last {α : Type} {kv : List Value} {ks : List α} {v0 : Value} (hlk : kv.length = ks.length) (h : kv.drop (ks.length - 1) = [v0]) (hne : ks.length ≠ 0) : kms_pick kv.toArray.toList (some (-1)) none = [v0] := by
  unfold kms_pick kms_lo kms_hi
  have e : (-(-1 : Int)).toNat = 1 := by decide
  simp only [e, if_pos (show (-1 : Int) < 0 by decide)]
  show (kv.drop (kv.length - 1)).take (kv.length - (kv.length - 1)) = _
  rw [hlk, h, show ks.length - (ks.length - 1) = 1 by omega]
  rfl
theorem bk_ok (ps : Bk) : ∀ d ∈ ps.map bkD, kqdOk 8 d = true := fun d hd => by
  obtain ⟨⟨n, v⟩, _, rfl⟩ := List.mem_map.mp hd
  cases v <;> rfl
theorem bkD_inj {p q : Int × Option Int} (h : bkD p = bkD q) : p = q := by
  obtain ⟨n, v⟩ := p
  obtain ⟨m, u⟩ := q
  cases v <;> cases u <;> simp_all [bkD, valD]
theorem bk_inj : ∀ {ps qs : Bk}, ps.map bkD = qs.map bkD → ps = qs
  | [], [], _ => rfl
  | [], _ :: _, h => by cases h
  | _ :: _, [], h => by cases h
  | p :: ps, q :: qs, h => by
    rw [List.map_cons, List.map_cons, List.cons.injEq] at h
    rw [bkD_inj h.1, bk_inj h.2]
section
theorem reg61 : True := by
  w_top off
  k_with_none
  k_with "own k_steps" => (repeat' (first
    | (k_unfold; (try dsimp only))
    | (dsimp only; k_unfold; (try dsimp only))
    | ((fail_if_success (with_reducible show PySem.wpAny _ _ (PySem.exec (PySem.Stmt.While _ _ _ _) _) _ _ _)); (fail_if_success (with_reducible show PySem.wpAny _ _ (PySem.exec (PySem.Stmt.For _ _ _ _ _) _) _ _ _)); (fail_if_success (with_reducible show PySem.wpAny _ _ (PySem.eval (PySem.Expr.ListComp _ _ _ _) _) _ _ _)); (fail_if_success (with_reducible show PySem.wpAny _ _ (PySem.exec (PySem.Stmt.Assign [PySem.Expr.Name _ _] (PySem.Expr.ListComp _ _ _ _) _) _) _ _ _)); (fail_if_success (with_reducible show PySem.wpAny _ _ (PySem.pyIter _) _ _ _)); (fail_if_success (with_reducible show PySem.W.UnrPostW _ _ _ _ _ _ _ _)); (fail_if_success (with_reducible show PySem.wpAny _ _ (PySem.compareOp PySem.CmpOp.Eq (PySem.Value.ref _) _) _ _ _)); (first | walk1 | (dsimp only; walk1)))))
  k_with "own ktr_enter" => (first
    | (refine' code_def ?k1 ?k2 ?k3 ?k4 ?k5 ?kA ?kF ?kK ?k6 ?k7 ?k8 ?k9 ?kB ?_ ?c2 ?c3 ?c4 ?c5; (case kA => exact rfl); (case kF => exact rfl); (case kK => assumption); (case k1 => k_asm); (case k2 => k_asm); (case k3 => k_asm); (case k4 => k_asm); (case k5 => k_asm); (case k6 => k_is); (case k7 => k_is); (case k8 => ktr_room); (case k9 => first | exact BindsTo.of_eq rfl | exact binds_K (by k_in) rfl (by k_is) rfl rfl rfl); (case c5 => decide); (case kB => exact locs rfl); (case c2 => exact rfl); (case c3 => exact rfl); (case c4 => exact rfl); k_whole; intro zzg zzL zzh zzFG zzF zzN zzB zzX zzT; (try dsimp only); (try k_fold))
    | (refine' code_defC ?k1 ?k2 ?k3 ?k4 ?k5 ?kA ?kF ?kK ?k6 ?k7 ?k8 ?k9 ?kB ?kD ?_ ?c2 ?c3 ?c4; (case kA => exact rfl); (case kF => exact rfl); (case kK => assumption); (case k1 => k_asm); (case k2 => k_asm); (case k3 => k_asm); (case k4 => k_asm); (case k5 => k_asm); (case k6 => k_is); (case k7 => k_is); (case k8 => ktr_room); (case k9 => first | exact BindsTo.of_eq rfl | exact binds_K (by k_in) rfl (by k_is) rfl rfl rfl); (case kB => exact rfl); (case kD => decide +kernel); (case c2 => exact rfl); (case c3 => exact rfl); (case c4 => exact rfl); k_whole; intro zzg zzL zzh zztk zzcells zzFG zzF zzN zzY zzB zzX zzT zzl1; k_cells zzY; (try simp only [List.cons_append, List.nil_append] at zzN); (try dsimp only); (try k_fold))
    | (refine' kp_more ?k1 ?k2 ?k3 ?k4 ?k5 ?kA ?kF ?kK ?k6 ?k7 ?k8 ?kX ?kM ?kN ?kD ?kR ?kP ?kT ?kB ?_ ?c2 ?c3 ?c4 ?c5; (case kA => exact rfl); (case kF => exact rfl); (case kK => assumption); (case k1 => k_asm); (case k2 => k_asm); (case k3 => k_asm); (case k4 => k_asm); (case k5 => k_asm); (case k6 => k_is); (case k7 => k_is); (case k8 => ktr_room); (case kX => kp_lit); (case kM => exact rfl); (case kN => exact rfl); (case kD => kp_flats); (case kR => exact rfl); (case kP => exact rfl); (case kT => exact fun _ => rfl); (case kB => exact fun _ => locs rfl); (case c5 => decide); (case c2 => exact rfl); (case c3 => exact rfl); (case c4 => exact rfl); k_whole; intro zzD zzo zzg zzL zzh zztk zzl1 zzlo zzhs zzfs zzFG zzF zzN zzB zzX zzT; (try dsimp only); (try k_fold)))
  k_with "TPost" => ((first | refine TPost.ret ?_ | refine TPost.brk ?_; (try dsimp only)))
  k_with "own k_all" => (first | assumption | (refine all_lt (by assumption) ?_; (try dsimp only); omega) | (exact fun p hp => Ne.symm (‹∀ p ∈ _, _ ≠ p.1› p hp)))
  k_with "own k_mem" => (first | exact List.Mem.head _ | ktr_member | (refine' mem_tail ?_; k_mem))
  k_with "leaving ref" => ((k_here; first | (refine' leave_onX ?k1 ?k2 ?k3 ?k4 ?_ ?k5; (case k5 => rfl); (case k1 => assumption); (case k3 => assumption); (case k4 => assumption); (case k2 => assumption); k_whole; intro zzh zzR zzU) | (refine' leave_raiseS ?k1 (Heap.MadeExc.of (by assumption)) ?k2 ?k3 ?_; (case k2 => assumption); (case k1 => assumption); (case k3 => k_asm); k_whole; intro zzh zzt zzS zzR zzU; (try dsimp only at zzS zzR zzU ⊢))))
  k_with "call ref" => (((with_reducible show PySem.wpAny _ _ (PySem.call (PySem.Value.ref 329) _ _) _ _ _); k_dflt (refine' use_x (one_c _ _ _ _ _ _) ?k1 ?k2 ?k3 ?k4 ?k5 ?kK ?kd ?ku ?_ ?_; (case k1 => k_asm); (case k2 => k_asm); (case k3 => k_asm); (case k4 => k_asm); (case k5 => k_asm); (case kK => first | exact rfl | assumption); (case kd => ktr_room); (case ku => ktr_units)); (intros; (try dsimp only); (try k_fold))))
  trivial
set_option maxHeartbeats 8000000 in
theorem moved_c (w : World) (news : Led) (bl kl : Addr) (bv kv : List Value) (kb kk2 : Nat) (bs ks : Bk) (name : Int) (t2 : Tok) (hb : (bl, W.listOf bv.toArray kb) ∈ news) (hD : DatAll news bv (bs.map bkD)) (hb2 : (kl, W.listOf kv.toArray kk2) ∈ news) (hD2 : DatAll news kv (ks.map bkD)) (hsz : bv.length ≤ 900) (hsz2 : kv.length ≤ 900) (hnb : ∀ p ∈ bs, (0 ≤ p.1 ∧ p.1 < 4096) ∧ ∀ v, p.2 = some v → 0 ≤ v ∧ v < 4096) (hnk : ∀ p ∈ ks, (0 ≤ p.1 ∧ p.1 < 4096) ∧ ∀ v, p.2 = some v → 0 ≤ v ∧ v < 4096) :
    Con w 12 367 [.ref bl, .ref kl, .int name t2] [] news (fun kk => ∀ t, kk (optD t (movedF bs ks name)) news) := by
  intro mean mg mb dp un gd cn cs a ccd cl outer A₀ base h₀ L mm s Q E B F X N T hk hd hu hret hexc
  refine wpAny_call ?_; ktr_enter
  k_steps
  rename Fr _ _ _ _ => lF
  rename News _ _ _ _ => lN
  refine cmp_asgn lF (by rfl) (by with_unfolding_all rfl) (by with_unfolding_all rfl) (by decide) (by rfl) (by decide) (by rfl) (by rfl) ?_
  k_steps
  rename News _ _ _ _ => lN
  rename Fr _ _ _ _ => lF
  refine CSrc.mk' (its := bv) (kk := kb) (fun v _ m₂ => m₂ (Str.ofString "entry") = some v)
    (fun n0 r ys n₁ => n₁ = n0 ∧ (∀ p ∈ news, p ∈ n0) ∧ ∃ ps qs, DatAll news r (List.map bkD ps) ∧ DatAll news ys (List.map bkD qs) ∧ qs ++ ps.filter (fun p => lawOne p.1 name) = bs.filter (fun p => lawOne p.1 name))
    rfl lF lN (Nat.le_trans hsz (by decide)) ⟨rfl, fun _ h => .tail _ h, bs, [], hD, .nil, rfl⟩ ?_ (asg_name rfl rfl) ?_ ?_
  · rintro r ys n₁ ⟨rfl, hsub, _⟩
    exact hsub _ hb
  · clear lF lN
    rintro g v r ys n₁ I oI C oC D m₂ h tk E' ⟨rfl, hsub, ps, qs, hd', hq, hfl⟩ hT hoC lF lN off ne1 ne2 ne3
    cases ps with
    | nil => cases hd'
    | cons p ps =>
      cases hd' with
      | cons hd1 hd2 =>
        obtain ⟨a, t, v2, n, rfl, hm, hv2⟩ := bk_inv hd1
        have hm' := hsub _ hm
        clear hret hexc
        k_steps
        · trivial
        · rename lawOne p.1 name = true => e
          refine CEnd.go _ (by k_asm) (by k_asm) (fun _ h => h) off ⟨rfl, hsub, ps, qs ++ [p], hd2, ?_, ?_⟩
          · rw [List.map_append]; exact hq.append (.one hd1)
          · rw [← hfl, List.filter_cons, if_pos e, List.append_assoc]; rfl
        · rename lawOne p.1 name = false => e
          refine CEnd.go _ (by k_asm) (by k_asm) (fun _ h => h) off ⟨rfl, hsub, ps, qs, hd2, hq, ?_⟩
          rw [← hfl, List.filter_cons, if_neg (by rw [e]; exact Bool.false_ne_true)]
  · rintro g ys n₁ ⟨rfl, hsub, ps, qs, hd', hq, hfl⟩ hle D h tk lF lN ho
    cases ps with
    | cons => cases hd'
    | nil =>
      rw [List.filter_nil, List.append_nil] at hfl
      subst hfl
      k_steps
      refine kqd_eq (by k_asm) (.tail _ (.tail _ hb2)) rfl rfl hD2 (fun p hp => .tail _ (.tail _ hp)) (.tail _ (.tail _ hb)) rfl rfl hD (fun p hp => .tail _ (.tail _ hp)) (bk_ok _) (bk_ok _) (by ktr_units) ?_
      by_cases hkb : ks = bs
      · rw [dec_t (by rw [hkb])]
        have e : movedF bs ks name = some 0 := if_pos hkb
        simp only [e] at hret
        k_steps
        rename News h₀ L _ _ => kN
        exact hret _ _ _ (by assumption) (news_sub kN (by intro p hp; repeat (first | exact hp | refine List.Mem.tail _ ?_)))
      · rw [dec_f (fun h => hkb (bk_inj h))]
        k_steps
        refine kms_slice_lit (by k_asm) (by k_asm) (News.isList (by k_asm) (.tail _ (.tail _ hb2))) (by kmk_part) (by kmk_part) rfl ?_ (by rfl) (by intro _; rfl) (by rw [List.size_toArray]; exact Nat.le_trans hsz2 (by decide))
        intro D3 h3 F3 N3 l3
        k_steps
        refine kqd_eq (by k_asm) (.head _) rfl rfl (dat_take 0 hD2) (fun p hp => .tail _ (.tail _ (.tail _ hp))) (.tail _ (.tail _ (.tail _ hb))) rfl rfl hD (fun p hp => .tail _ (.tail _ (.tail _ hp))) (take_ok (bk_ok _)) (bk_ok _) (by ktr_units) ?_
        by_cases hk2 : ks.take (kv.length - 1) = bs
        · have hlk : kv.length = ks.length := by rw [hD2.length, List.length_map]
          have hne : ks.length ≠ 0 := fun h0 => hkb (by
            have : ks = [] := List.length_eq_zero_iff.mp h0
            subst this
            simpa using hk2)
          obtain ⟨p, hp⟩ := List.length_eq_one_iff.mp (show (ks.drop (ks.length - 1)).length = 1 by rw [List.length_drop]; omega)
          have e : movedF bs ks name = some (lineLen p) := by
            unfold movedF
            rw [if_neg hkb, if_pos (by rw [← hlk]; exact hk2), hp]
            rfl
          simp only [e] at hret
          have hd0 := dat_drop (ks.length - 1) hD2
          rw [← List.map_drop, hp] at hd0
          have hpm : p ∈ ks := List.mem_of_mem_drop (hp ▸ List.Mem.head _ : p ∈ ks.drop (ks.length - 1))
          obtain ⟨v0, hv0, hdv⟩ : ∃ v0, kv.drop (ks.length - 1) = [v0] ∧ DatIn news v0 (bkD p) := by
            cases hdd : kv.drop (ks.length - 1) with
            | nil => rw [hdd] at hd0; cases hd0
            | cons v0 r =>
              rw [hdd] at hd0
              cases hd0 with
              | cons a b => cases b; exact ⟨v0, rfl, a⟩
          obtain ⟨a, t, v2, n, rfl, hm, hv2⟩ := bk_inv hdv
          rw [dec_t (by rw [← List.map_take, hk2])]
          k_steps
          refine kms_slice_lit (zs := [.ref a]) (by k_asm) (by k_asm) (News.isList (by k_asm) (by k_mem)) (by kmk_part) (by kmk_part) (pick_last hlk hv0 hne) ?_ (by rfl) (by intro _; rfl) (by rw [List.size_toArray]; exact Nat.le_trans hsz2 (by decide))
          intro D4 h4 F4 N4 l4
          have hm4 : (a, tup2 (.int p.1 t) v2 n) ∈ (D4, W.listOf ([Value.ref a] : List Value).toArray 0) :: news := .tail _ hm
          k_steps
          refine use_x (sign_c w p.1 _ _ (hnk p hpm).1.1 (hnk p hpm).1.2) (by k_asm) (by k_asm) (by k_asm) (by k_asm) (by k_asm) (by first | exact rfl | assumption) (by ktr_room) (by ktr_units) ?_ trivial
          intro t1
          dsimp only
          intro h' tk' F' N'
          have hsl := sgn_len p.1
          k_steps
          obtain ⟨pn, pv⟩ := p
          cases pv with
          | none =>
            cases hv2
            k_steps
            refine use_x (signN_c w _) (by k_asm) (by k_asm) (by k_asm) (by k_asm) (by k_asm) (by first | exact rfl | assumption) (by ktr_room) (by ktr_units) ?_ trivial
            intro t1
            dsimp only
            intro h' tk' F' N'
            k_steps
            rename News h₀ L _ _ => kN
            exact hret _ _ _ (by assumption) (news_sub kN (by intro p hp; repeat (first | exact hp | refine List.Mem.tail _ ?_)))
          | some v =>
            cases hv2
            have hvv := (hnk _ hpm).2 v rfl
            k_steps
            refine use_x (sign_c w v _ _ hvv.1 hvv.2) (by k_asm) (by k_asm) (by k_asm) (by k_asm) (by k_asm) (by first | exact rfl | assumption) (by ktr_room) (by ktr_units) ?_ trivial
            intro t1
            dsimp only
            intro h' tk' F' N'
            have hsl2 := sgn_len v
            k_steps
            rename News h₀ L _ _ => kN
            exact hret _ _ _ (by assumption) (news_sub kN (by intro p hp; repeat (first | exact hp | refine List.Mem.tail _ ?_)))
        · rw [dec_f (fun h => hk2 (bk_inj (by rw [List.map_take]; exact h)))]
          have hle : ys.length = (bs.filter fun p => lawOne p.1 name).length := by rw [hq.length, List.length_map]
          have hlb : bv.length = bs.length := by rw [hD.length, List.length_map]
          have hlk : kv.length = ks.length := by rw [hD2.length, List.length_map]
          k_steps
          refine PyProof.Rows.len_list (News.isList (by k_asm) (.tail _ (.head _))) (by rw [List.size_toArray]; omega) ?_
          k_steps
          · rename ((ys.toArray.size : Nat) : Int) ≠ 1 => hn1
            rw [List.size_toArray] at hn1
            have e : movedF bs ks name = none := by
              unfold movedF
              rw [if_neg hkb, if_neg (by rw [← hlk]; exact hk2), if_pos (.inl (by omega))]
            simp only [e] at hret
            rename News h₀ L _ _ => kN
            exact hret 0 _ _ (by assumption) (news_sub kN (by intro p hp; repeat (first | exact hp | refine List.Mem.tail _ ?_)))
          · rename ((ys.toArray.size : Nat) : Int) = 1 => hn1
            rw [List.size_toArray] at hn1
            obtain ⟨v0, rfl⟩ := List.length_eq_one_iff.mp (show ys.length = 1 by omega)
            obtain ⟨p, hp⟩ := List.length_eq_one_iff.mp (show (bs.filter fun p => lawOne p.1 name).length = 1 by omega)
            have hpm : p ∈ bs := (List.mem_filter.mp (hp ▸ List.Mem.head _ : p ∈ bs.filter fun p => lawOne p.1 name)).1
            rw [hp] at hq
            obtain ⟨a, t, v2, n, rfl, hm, hv2⟩ : ∃ a t v2 n, v0 = .ref a ∧ (a, tup2 (.int p.1 t) v2 n) ∈ news ∧ DatIn [] v2 (valD p.2) := by
              cases hq with
              | cons a b => exact bk_inv a
            clear hq
            refine PyProof.Rows.len_list (News.isList (by k_asm) (.tail _ (.tail _ (.tail _ hb2)))) (by rw [List.size_toArray]; omega) ?_
            k_steps
            refine PyProof.Rows.len_list (News.isList (by k_asm) (.tail _ (.tail _ (.tail _ hb)))) (by rw [List.size_toArray]; omega) ?_
            k_steps
            · rename ((kv.toArray.size : Nat) : Int) ≠ ((bv.toArray.size : Nat) : Int) - 1 => hn2
              rw [List.size_toArray, List.size_toArray] at hn2
              have e : movedF bs ks name = none := by
                unfold movedF
                rw [if_neg hkb, if_neg (by rw [← hlk]; exact hk2), if_pos (.inr (by omega))]
              simp only [e] at hret
              rename News h₀ L _ _ => kN
              exact hret 0 _ _ (by assumption) (news_sub kN (by intro p hp; repeat (first | exact hp | refine List.Mem.tail _ ?_)))
            · rename ((kv.toArray.size : Nat) : Int) = ((bv.toArray.size : Nat) : Int) - 1 => hn2
              rw [List.size_toArray, List.size_toArray] at hn2
              have e : movedF bs ks name = some (lineLen p) := by
                unfold movedF
                rw [if_neg hkb, if_neg (by rw [← hlk]; exact hk2), if_neg (by rw [hp]; simp; omega), hp]
                rfl
              simp only [e] at hret
              refine use_x (sign_c w p.1 _ _ (hnb p hpm).1.1 (hnb p hpm).1.2) (by k_asm) (by k_asm) (by k_asm) (by k_asm) (by k_asm) (by first | exact rfl | assumption) (by ktr_room) (by ktr_units) ?_ trivial
              intro t1
              dsimp only
              intro h' tk' F' N'
              have hsl := sgn_len p.1
              k_steps
              obtain ⟨pn, pv⟩ := p
              cases pv with
              | none =>
                cases hv2
                k_steps
                refine use_x (signN_c w _) (by k_asm) (by k_asm) (by k_asm) (by k_asm) (by k_asm) (by first | exact rfl | assumption) (by ktr_room) (by ktr_units) ?_ trivial
                intro t1
                dsimp only
                intro h' tk' F' N'
                k_steps
                rename News h₀ L _ _ => kN
                exact hret _ _ _ (by assumption) (news_sub kN (by intro p hp; repeat (first | exact hp | refine List.Mem.tail _ ?_)))
              | some v =>
                cases hv2
                have hvv := (hnb _ hpm).2 v rfl
                k_steps
                refine use_x (sign_c w v _ _ hvv.1 hvv.2) (by k_asm) (by k_asm) (by k_asm) (by k_asm) (by k_asm) (by first | exact rfl | assumption) (by ktr_room) (by ktr_units) ?_ trivial
                intro t1
                dsimp only
                intro h' tk' F' N'
                have hsl2 := sgn_len v
                k_steps
                rename News h₀ L _ _ => kN
                exact hret _ _ _ (by assumption) (news_sub kN (by intro p hp; repeat (first | exact hp | refine List.Mem.tail _ ?_)))
end
end Mine
end
section
-- part Q1
open PySem PySem.W PySem.Calls PySem.Spec PyProof.Rows PyProof.Rows.LCg
namespace Mine

section
theorem reg62 : True := by
  w_top off
  k_with_none
  k_with "own k_steps" => (repeat' (first
    | (k_unfold; (try dsimp only))
    | (dsimp only; k_unfold; (try dsimp only))
    | ((fail_if_success (with_reducible show PySem.wpAny _ _ (PySem.exec (PySem.Stmt.While _ _ _ _) _) _ _ _)); (fail_if_success (with_reducible show PySem.wpAny _ _ (PySem.exec (PySem.Stmt.For _ _ _ _ _) _) _ _ _)); (fail_if_success (with_reducible show PySem.wpAny _ _ (PySem.eval (PySem.Expr.ListComp _ _ _ _) _) _ _ _)); (fail_if_success (with_reducible show PySem.wpAny _ _ (PySem.exec (PySem.Stmt.Assign [PySem.Expr.Name _ _] (PySem.Expr.ListComp _ _ _ _) _) _) _ _ _)); (fail_if_success (with_reducible show PySem.wpAny _ _ (PySem.pyIter _) _ _ _)); (fail_if_success (with_reducible show PySem.W.UnrPostW _ _ _ _ _ _ _ _)); (first | walk1 | (dsimp only; walk1)))))
  k_with "own ktr_enter" => (first
    | (refine' code_def ?k1 ?k2 ?k3 ?k4 ?k5 ?kA ?kF ?kK ?k6 ?k7 ?k8 ?k9 ?kB ?_ ?c2 ?c3 ?c4 ?c5; (case kA => exact rfl); (case kF => exact rfl); (case kK => assumption); (case k1 => k_asm); (case k2 => k_asm); (case k3 => k_asm); (case k4 => k_asm); (case k5 => k_asm); (case k6 => k_is); (case k7 => k_is); (case k8 => ktr_room); (case k9 => first | exact BindsTo.of_eq rfl | exact binds_K (by k_in) rfl (by k_is) rfl rfl rfl); (case c5 => decide); (case kB => exact locs rfl); (case c2 => exact rfl); (case c3 => exact rfl); (case c4 => exact rfl); k_whole; intro zzg zzL zzh zzFG zzF zzN zzB zzX zzT; (try dsimp only); (try k_fold))
    | (refine' code_defC ?k1 ?k2 ?k3 ?k4 ?k5 ?kA ?kF ?kK ?k6 ?k7 ?k8 ?k9 ?kB ?kD ?_ ?c2 ?c3 ?c4; (case kA => exact rfl); (case kF => exact rfl); (case kK => assumption); (case k1 => k_asm); (case k2 => k_asm); (case k3 => k_asm); (case k4 => k_asm); (case k5 => k_asm); (case k6 => k_is); (case k7 => k_is); (case k8 => ktr_room); (case k9 => first | exact BindsTo.of_eq rfl | exact binds_K (by k_in) rfl (by k_is) rfl rfl rfl); (case kB => exact rfl); (case kD => decide +kernel); (case c2 => exact rfl); (case c3 => exact rfl); (case c4 => exact rfl); k_whole; intro zzg zzL zzh zztk zzcells zzFG zzF zzN zzY zzB zzX zzT zzl1; k_cells zzY; (try simp only [List.cons_append, List.nil_append] at zzN); (try dsimp only); (try k_fold))
    | (refine' kp_more ?k1 ?k2 ?k3 ?k4 ?k5 ?kA ?kF ?kK ?k6 ?k7 ?k8 ?kX ?kM ?kN ?kD ?kR ?kP ?kT ?kB ?_ ?c2 ?c3 ?c4 ?c5; (case kA => exact rfl); (case kF => exact rfl); (case kK => assumption); (case k1 => k_asm); (case k2 => k_asm); (case k3 => k_asm); (case k4 => k_asm); (case k5 => k_asm); (case k6 => k_is); (case k7 => k_is); (case k8 => ktr_room); (case kX => kp_lit); (case kM => exact rfl); (case kN => exact rfl); (case kD => kp_flats); (case kR => exact rfl); (case kP => exact rfl); (case kT => exact fun _ => rfl); (case kB => exact fun _ => locs rfl); (case c5 => decide); (case c2 => exact rfl); (case c3 => exact rfl); (case c4 => exact rfl); k_whole; intro zzD zzo zzg zzL zzh zztk zzl1 zzlo zzhs zzfs zzFG zzF zzN zzB zzX zzT; (try dsimp only); (try k_fold)))
  k_with "TPost" => ((first | refine TPost.ret ?_ | refine TPost.brk ?_; (try dsimp only)))
  k_with "own k_all" => (first | assumption | (refine all_lt (by assumption) ?_; (try dsimp only); omega) | (exact fun p hp => Ne.symm (‹∀ p ∈ _, _ ≠ p.1› p hp)))
  k_with "own k_mem" => (first | exact List.Mem.head _ | ktr_member | (refine' mem_tail ?_; k_mem))
  k_with "leaving ref" => ((k_here; first | (refine' leave_onX ?k1 ?k2 ?k3 ?k4 ?_ ?k5; (case k5 => rfl); (case k1 => assumption); (case k3 => assumption); (case k4 => assumption); (case k2 => assumption); k_whole; intro zzh zzR zzU) | (refine' leave_raiseS ?k1 (Heap.MadeExc.of (by assumption)) ?k2 ?k3 ?_; (case k2 => assumption); (case k1 => assumption); (case k3 => k_asm); k_whole; intro zzh zzt zzS zzR zzU; (try dsimp only at zzS zzR zzU ⊢))))
  trivial
set_option maxHeartbeats 8000000 in
theorem cost_c (w : World) (news : Led) (x y : Str) (t1 t2 : Tok) (hx : x.length ≤ 2) (hy : y.length ≤ 2) :
    Con w 2 223 [.str x t1, .str y t2] [] news (fun kk => ∀ t, kk (.int (if x = y then 0 else if Txt.lower x = Txt.lower y then 1 else 2) t) news) := by
  intro mean mg mb dp un gd cn cs a ccd cl outer A₀ base h₀ L mm s Q E B F X N T hk hd hu hret hexc
  refine wpAny_call ?_; ktr_enter
  k_steps
  · rename (x == y) = true => e
    have := fun t => hret t
    rw [if_pos (by simpa using e)] at this
    exact this _ _ _ (by assumption) (by assumption)
  · rename (x == y) = false => e
    rename (Txt.lower x == Txt.lower y) = true => e2
    have := fun t => hret t
    rw [if_neg (by simpa using e), if_pos (by simpa using e2)] at this
    exact this _ _ _ (by assumption) (by assumption)
  · rename (x == y) = false => e
    rename (Txt.lower x == Txt.lower y) = false => e2
    have := fun t => hret t
    rw [if_neg (by simpa using e), if_neg (by simpa using e2)] at this
    exact this _ _ _ (by assumption) (by assumption)
end
end Mine
end
section
-- part P1
open PySem PySem.W PySem.Calls PySem.Spec PyProof.Rows
namespace Mine
theorem reg63 : True := by
  w_top off
  k_with_none
  trivial
theorem sl_from {x : Str} {i : Nat} (h : i ≤ x.length) : (Txt.slice x (some (i : Int)) none).cps.toList = x.cps.toList.drop i := by
  rw [slice_from_eq (b := (x.length : Int)) (by omega) (by omega) rfl]
  show ((x.cps.toList.drop (i : Int).toNat).take ((x.length : Int) - (i : Int)).toNat) = _
  rw [Int.toNat_natCast, List.take_of_length_le]
  rw [List.length_drop, Array.length_toList]
  have : x.length = x.cps.size := rfl
  omega
theorem str_ext {x y : Str} (h : x.cps.toList = y.cps.toList) : x = y := by
  obtain ⟨⟨a⟩⟩ := x
  obtain ⟨⟨b⟩⟩ := y
  have h : a = b := h
  subst h
  rfl
theorem sl_all (x : Str) : Txt.slice x none none = x := by
  have e : Txt.slice x none none = Txt.slice x (some ((0 : Nat) : Int)) none := by
    unfold Txt.slice
    rw [show Builtin.Str.strSliceIndices none none 1 x.length = Builtin.Str.strSliceIndices (some ((0 : Nat) : Int)) none 1 x.length from by
      simp only [Builtin.Str.strSliceIndices, show (1 : Int) > 0 by decide, if_true]
      rw [if_neg (show ¬ (((0 : Nat) : Int) < 0) by omega)]
      congr 1]
  rw [e]
  exact str_ext (by rw [sl_from (Nat.zero_le _), List.drop_zero])
theorem sl_upto {x : Str} {j : Nat} (h0 : 0 < j) (h : j ≤ x.length) : (Txt.slice x none (some (-(j : Int)))).cps.toList = x.cps.toList.take (x.length - j) := by
  have e : Txt.slice x none (some (-(j : Int))) = Txt.slice x none (some ((x.length - j : Nat) : Int)) := by
    unfold Txt.slice
    rw [show Builtin.Str.strSliceIndices none (some (-(j : Int))) 1 x.length = Builtin.Str.strSliceIndices none (some ((x.length - j : Nat) : Int)) 1 x.length from by
      simp only [Builtin.Str.strSliceIndices, show (1 : Int) > 0 by decide, if_true]
      rw [if_pos (show (-(j : Int)) < 0 by omega), if_neg (show ¬ (((x.length - j : Nat) : Int) < 0) by omega)]
      congr 2
      omega]
  rw [e]
  have hl : x.cps.toList.length = x.length := Array.length_toList
  rw [beq_iff_eq.mp (slice_closes_to (x := x) (j := ((x.length - j : Nat) : Int)) ⟨by omega, by omega⟩)]
  simp
theorem it_pos {x : Str} {i : Nat} {c : Nat} (h : x.cps.toList[i]? = some c) : Txt.item x (i : Int) = ⟨#[c]⟩ :=
  item_meets (by omega) (by rw [Int.toNat_natCast, ← Array.getElem?_toList]; exact h)
theorem it_neg {x : Str} {j : Nat} {c : Nat} (hj : j < x.length) (h : x.cps.toList[x.length - 1 - j]? = some c) : Txt.item x (-(j : Int) - 1) = ⟨#[c]⟩ := by
  rw [beq_iff_eq.mp (item_closes_neg (x := x) (i := -(j : Int) - 1) (j := ((x.length - 1 - j : Nat) : Int)) (by omega) (by omega) (by omega))]
  have : x.cps.getD (x.length - 1 - j) 0 = c := by
    rw [Array.getD_eq_getD_getElem?, ← Array.getElem?_toList, h]
    rfl
  rw [Int.toNat_natCast, this]
theorem one_beq {c d : Nat} : ((⟨#[c]⟩ : Str) == ⟨#[d]⟩) = decide (c = d) := by
  by_cases h : c = d
  · subst h; simp
  · rw [decide_eq_false h]
    exact beq_eq_false_iff_ne.mpr fun e => h (by cases e; rfl)
/-- one text is the other with signs put in at one place -/
def OneIn (X Y : List Nat) : Prop := ∃ u q v, (X = u ++ v ∧ Y = u ++ (q ++ v)) ∨ (Y = u ++ v ∧ X = u ++ (q ++ v))
theorem one_pre {X Y : List Nat} {u q v : List Nat} {i : Nat} (hX : X = u ++ v) (hY : Y = u ++ (q ++ v)) (hi : i ≤ X.length) (hex : i = X.length ∨ i = Y.length ∨ X[i]? ≠ Y[i]?) : u.length ≤ i := by
  rcases Nat.lt_or_ge i u.length with h | h
  · exfalso
    subst hX hY
    rcases hex with h1 | h1 | h1
    · simp at h1; omega
    · simp at h1; omega
    · exact h1 (by rw [List.getElem?_append_left h, List.getElem?_append_left h])
  · exact h
/-- behind the common signs at the head, the shorter is the end of the longer -/
theorem one_suf {X Y u q v : List Nat} {i : Nat} (hX : X = u ++ v) (hY : Y = u ++ (q ++ v)) (hi : i ≤ X.length) (hu : u.length ≤ i) : ∃ q', Y.drop i = q' ++ X.drop i := by
  subst hX hY
  rw [show (u ++ (q ++ v)).drop i = (q ++ v).drop (i - u.length) from by rw [List.drop_append, List.drop_eq_nil_of_le hu, List.nil_append], show (u ++ v).drop i = v.drop (i - u.length) from by rw [List.drop_append, List.drop_eq_nil_of_le hu, List.nil_append]]
  generalize i - u.length = k
  have h1 : v.drop k <:+ q ++ v := (List.drop_suffix k v).trans (List.suffix_append q v)
  have h2 : (q ++ v).drop k <:+ q ++ v := List.drop_suffix k _
  have h3 : v.drop k <:+ (q ++ v).drop k := List.suffix_of_suffix_length_le h1 h2 (by simp; omega)
  obtain ⟨t, ht⟩ := h3
  exact ⟨t, ht.symm⟩
/-- stripping equal signs from the ends, of texts of which one is the other's end, leaves nothing of the shorter -/
theorem suf_all {X' Y' q' : List Nat} {j : Nat} (hY : Y' = q' ++ X') (hj : j ≤ X'.length) (hex : j = X'.length ∨ j = Y'.length ∨ X'[X'.length - 1 - j]? ≠ Y'[Y'.length - 1 - j]?) : j = X'.length := by
  subst hY
  rcases hex with h | h | h
  · exact h
  · simp at h; omega
  · rcases Nat.lt_or_ge j X'.length with h2 | h2
    · exfalso
      apply h
      rw [List.length_append, List.getElem?_append_right (by omega)]
      congr 1
      omega
    · omega
end Mine
end
section
-- part E1
open PySem PySem.W PySem.Calls PySem.Spec PyProof.Rows PyProof.Rows.LCg
namespace Mine
theorem reg64 : True := by
  w_top off
  k_with_none
  trivial
def CutQ (h₀ : Heap) (L : Addr) (s : Shared) (Post : (Str → Option Value) → Led → Prop) (f : Flow) (s' : Shared) : Prop :=
  f = .next ∧ ∃ h' tk m' n', s' = { s with heap := h', toks := tk } ∧ Fr h₀ L h' m' ∧ News h₀ L h' n' ∧ Post m' n'
section
variable {prog : Program} {w : World} {A : Around} {E : Value → Shared → Prop} {Q : Flow → Shared → Prop} {s : Shared} {env : Env} {h₀ : Heap} {L : Addr}
/-- a while, and what stands behind it -/
theorem While_cut {test : PySem.Expr} {body : List Stmt} {pos : Pos} {m : Str → Option Value} {news : Led} (Post : (Str → Option Value) → Led → Prop) (J : Nat → (Str → Option Value) → Led → Prop) {n₀ : Nat}
    (F : Fr h₀ L s.heap m) (N : News h₀ L s.heap news) (hJ : J n₀ m news)
    (turn : ∀ n m₁ news₁ h₁ tk₁, Fr h₀ L h₁ m₁ → News h₀ L h₁ news₁ → J n m₁ news₁ →
      wpAny (model prog w) A (isTrue test env (eval test env)) (fun b s₂ =>
        if b = true then wpAny (model prog w) A (execs body env) (WhileStep2 h₀ L s J (CutQ h₀ L s Post) n) E s₂ else CutQ h₀ L s Post .next s₂) E { s with heap := h₁, toks := tk₁ })
    (rest : ∀ h' tk m' n', Fr h₀ L h' m' → News h₀ L h' n' → Post m' n' → Q .next { s with heap := h', toks := tk })
    (hE : PassesOwn (model prog w) A env E := by passes_own) :
    wpAny (model prog w) A (exec (.While test body [] pos) env) Q E s := by
  refine wpAny_mono (While_inv2 J F N hJ turn hE) (fun f s' hq => ?_) fun _ _ e => e
  obtain ⟨rfl, h', tk, m', n', rfl, F', N', P⟩ := hq
  exact rest h' tk m' n' F' N' P
end
section
variable {prog : Program} {w : World} {A : Around} {E : Value → Shared → Prop} {s : Shared} {h₀ : Heap} {L : Addr} {m : Str → Option Value} {news : Led} {value slice : PySem.Expr} {x : Str} {t : Tok} {Q : Value → Shared → Prop}
theorem sl_none (hF : Fr h₀ L s.heap m) (hN : News h₀ L s.heap news) (h : ∀ h' t' k, Fr h₀ L h' m → News h₀ L h' news → Q (.str x t') { s with heap := h', toks := k })
    (hs : subscripted slice false (.str x t) (.ref s.heap.objs.size) = operate [.ref s.heap.objs.size, .str x t] (getItem (.str x t) (.ref s.heap.objs.size)) := by with_unfolding_all rfl)
    (ht : ∀ r, letTemporaryGo value (.str x t) r = pure () := by intro _; with_unfolding_all rfl) (hsz : x.length ≤ sizeLine := by size_fits) :
    wpAny (model prog w) A (subscriptTail value slice (.str x t) (.ref s.heap.objs.size)) Q E { s with heap := s.heap.push { cls := .type "slice", data := .fields #[.none, .none, .none] } } :=
  slice_strN_nn hF hN (fun h' t' k a b => by rw [sl_all]; exact h h' t' k a b) hs ht hsz
end
section
variable {prog : Program} {w : World} {A : Around} {E : Value → Shared → Prop} {s : Shared} {h₀ : Heap} {L a : Addr} {m : Str → Option Value} {name xn : Str} {scope : Scope} {cd : Value} {z : Int} {t : Tok} {p p2 pos : Pos} {k : Nat} {Q : Value → Shared → Prop}
theorem or_pos (F : Fr h₀ L s.heap m) (hv : m xn = some (.int z t)) (hz : z ≠ 0) (h : Q (.int z t) s) (hk : scope.kind = .function := by rfl) (hl : (envOf name scope L a cd).kindOf xn = some .local := by rfl) (hd : (xn == ("__debug__" : Str)) = false := by decide) :
    wpAny (model prog w) A (eval (.BoolOp .Or [.Name xn p, .Constant .none k p2] pos) (envOf name scope L a cd)) Q E s := by
  refine BoolOp_or (ld F hv ?_ hk hl hd)
  refine PyProof.Rows.truthy_int ?_
  rw [show (z != 0) = true from by simpa using hz]
  exact h
theorem or_zero (F : Fr h₀ L s.heap m) (hv : m xn = some (.int z t)) (hz : z = 0) (h : Q .none s) (hk : scope.kind = .function := by rfl) (hl : (envOf name scope L a cd).kindOf xn = some .local := by rfl) (hd : (xn == ("__debug__" : Str)) = false := by decide) :
    wpAny (model prog w) A (eval (.BoolOp .Or [.Name xn p, .Constant .none k p2] pos) (envOf name scope L a cd)) Q E s := by
  refine BoolOp_or (ld F hv ?_ hk hl hd)
  refine PyProof.Rows.truthy_int ?_
  rw [show (z != 0) = false from by simpa using hz]
  exact BoolOp_one (wpAny_pure h)
end
section
variable {prog : Program} {w : World} {A : Around} {E : Value → Shared → Prop} {s : Shared} {h₀ : Heap} {L a : Addr} {m : Str → Option Value} {news : Led} {name xn yn : Str} {scope : Scope} {cd : Value} {z : Int} {t ty : Tok} {y : Str} {p p2 p3 p4 pos pos2 : Pos} {k : Nat} {Q : Value → Shared → Prop}
theorem sub_none (F : Fr h₀ L s.heap m) (N : News h₀ L s.heap news) (hy : m yn = some (.str y ty)) (hv : m xn = some (.int z t)) (hz : z = 0) (h : ∀ h' t' tk, Fr h₀ L h' m → News h₀ L h' news → Q (.str y t') { s with heap := h', toks := tk })
    (hk : scope.kind = .function := by rfl) (hly : (envOf name scope L a cd).kindOf yn = some .local := by rfl) (hdy : (yn == ("__debug__" : Str)) = false := by decide) (hl : (envOf name scope L a cd).kindOf xn = some .local := by rfl) (hd : (xn == ("__debug__" : Str)) = false := by decide) (hsz : y.length ≤ sizeLine := by size_fits) :
    wpAny (model prog w) A (eval (.Subscript (.Name yn p) (.Slice none (some (.BoolOp .Or [.Name xn p2, .Constant .none k p3] pos)) none p4) pos2) (envOf name scope L a cd)) Q E s := by
  refine Subscript_Slice (ld F hy (wpAny_Slice (evalPart_none_step (evalPart_some_step (or_zero F hv hz (evalPart_none_step ?_) hk hl hd)))) hk hly hdy)
  exact SBH.sliceItem_nn keptFrN ⟨F, N⟩ (fun h' t' tk a => by rw [sl_all]; exact h h' t' tk a.1 a.2) hsz
theorem sub_neg (F : Fr h₀ L s.heap m) (N : News h₀ L s.heap news) (hy : m yn = some (.str y ty)) (hv : m xn = some (.int z t)) (hz : z ≠ 0) (h : ∀ h' t' tk, Fr h₀ L h' m → News h₀ L h' news → Q (.str (Txt.slice y none (some z)) t') { s with heap := h', toks := tk })
    (hk : scope.kind = .function := by rfl) (hly : (envOf name scope L a cd).kindOf yn = some .local := by rfl) (hdy : (yn == ("__debug__" : Str)) = false := by decide) (hl : (envOf name scope L a cd).kindOf xn = some .local := by rfl) (hd : (xn == ("__debug__" : Str)) = false := by decide) (hsz : y.length ≤ sizeLine := by size_fits) :
    wpAny (model prog w) A (eval (.Subscript (.Name yn p) (.Slice none (some (.BoolOp .Or [.Name xn p2, .Constant .none k p3] pos)) none p4) pos2) (envOf name scope L a cd)) Q E s := by
  refine Subscript_Slice (ld F hy (wpAny_Slice (evalPart_none_step (evalPart_some_step (or_pos F hv hz (evalPart_none_step ?_) hk hl hd)))) hk hly hdy)
  exact SBH.sliceItem_ns keptFrN ⟨F, N⟩ (fun h' t' tk a => h h' t' tk a.1 a.2) hsz
end
theorem nxt_int {j : Nat} {t : Tok} : some (Value.int (-(j : Int) - 1) t) = some (Value.int (-((j + 1 : Nat) : Int)) t) := congrArg (fun z => some (Value.int z t)) (by omega)
theorem len_upto {x : Str} {j : Nat} (h0 : 0 < j) (h : j ≤ x.length) : (Txt.slice x none (some (-(j : Int)))).length = x.length - j := by
  have := congrArg List.length (sl_upto h0 h)
  rw [List.length_take, Array.length_toList, Array.length_toList] at this
  have e : x.length = x.cps.size := rfl
  have e2 : (Txt.slice x none (some (-(j : Int)))).length = (Txt.slice x none (some (-(j : Int)))).cps.size := rfl
  omega
def cut (y : Str) (j : Nat) : Str := if j = 0 then y else Txt.slice y none (some (-(j : Int)))
theorem len_cut {y : Str} {j : Nat} (h : j ≤ y.length) : (cut y j).length = y.length - j := by
  unfold cut
  split
  · subst j; rfl
  · exact len_upto (by omega) h
section
variable {prog : Program} {w : World} {A : Around} {E : Value → Shared → Prop} {s : Shared} {h₀ : Heap} {L a : Addr} {m : Str → Option Value} {news : Led} {name xn yn : Str} {scope : Scope} {cd : Value} {j : Nat} {t ty : Tok} {y : Str} {p p2 p3 p4 pos pos2 : Pos} {k : Nat} {Q : Value → Shared → Prop}
theorem sub_cut (F : Fr h₀ L s.heap m) (N : News h₀ L s.heap news) (hy : m yn = some (.str y ty)) (hv : m xn = some (.int (-(j : Int)) t)) (hj : j ≤ y.length) (h : ∀ h' t' tk, Fr h₀ L h' m → News h₀ L h' news → (cut y j).length = y.length - j → Q (.str (cut y j) t') { s with heap := h', toks := tk })
    (hsz : y.length ≤ 1000) (hk : scope.kind = .function := by rfl) (hly : (envOf name scope L a cd).kindOf yn = some .local := by rfl) (hdy : (yn == ("__debug__" : Str)) = false := by decide) (hl : (envOf name scope L a cd).kindOf xn = some .local := by rfl) (hd : (xn == ("__debug__" : Str)) = false := by decide) :
    wpAny (model prog w) A (eval (.Subscript (.Name yn p) (.Slice none (some (.BoolOp .Or [.Name xn p2, .Constant .none k p3] pos)) none p4) pos2) (envOf name scope L a cd)) Q E s := by
  have hs : y.length ≤ sizeLine := by rw [sizeLine_eq]; omega
  have hlen := len_cut hj
  by_cases hz : j = 0
  · refine sub_none F N hy hv (by omega) (fun h' t' tk a b => ?_) hk hly hdy hl hd hs
    have := h h' t' tk a b hlen
    rw [show cut y j = y from if_pos hz] at this
    exact this
  · refine sub_neg F N hy hv (by omega) (fun h' t' tk a b => ?_) hk hly hdy hl hd hs
    have := h h' t' tk a b hlen
    rw [show cut y j = Txt.slice y none (some (-(j : Int))) from if_neg hz] at this
    exact this
end
theorem len_from {x : Str} {i : Nat} (h : i ≤ x.length) : (Txt.slice x (some (i : Int)) none).length = x.length - i := by
  have := congrArg List.length (sl_from h)
  rw [List.length_drop, Array.length_toList, Array.length_toList] at this
  exact this
section
theorem reg65 : True := by
  w_top off
  k_with_none
  k_with "own k_steps" => (repeat' (first
    | (k_unfold; (try dsimp only))
    | (dsimp only; k_unfold; (try dsimp only))
    | ((fail_if_success (with_reducible show PySem.wpAny _ _ (PySem.exec (PySem.Stmt.While _ _ _ _) _) _ _ _)); (fail_if_success (with_reducible show PySem.wpAny _ _ (PySem.exec (PySem.Stmt.For _ _ _ _ _) _) _ _ _)); (fail_if_success (with_reducible show PySem.wpAny _ _ (PySem.eval (PySem.Expr.ListComp _ _ _ _) _) _ _ _)); (fail_if_success (with_reducible show PySem.wpAny _ _ (PySem.exec (PySem.Stmt.Assign [PySem.Expr.Name _ _] (PySem.Expr.ListComp _ _ _ _) _) _) _ _ _)); (fail_if_success (with_reducible show PySem.wpAny _ _ (PySem.pyIter _) _ _ _)); (fail_if_success (with_reducible show PySem.W.UnrPostW _ _ _ _ _ _ _ _)); (first | walk1 | (dsimp only; walk1)))))
  k_with "own ktr_enter" => (first
    | (refine' code_def ?k1 ?k2 ?k3 ?k4 ?k5 ?kA ?kF ?kK ?k6 ?k7 ?k8 ?k9 ?kB ?_ ?c2 ?c3 ?c4 ?c5; (case kA => exact rfl); (case kF => exact rfl); (case kK => first | assumption | exact rfl); (case k1 => k_asm); (case k2 => k_asm); (case k3 => k_asm); (case k4 => k_asm); (case k5 => k_asm); (case k6 => k_is); (case k7 => k_is); (case k8 => ktr_room); (case k9 => first | exact BindsTo.of_eq rfl | exact binds_K (by k_in) rfl (by k_is) rfl rfl rfl); (case c5 => decide); (case kB => exact locs rfl); (case c2 => exact rfl); (case c3 => exact rfl); (case c4 => exact rfl); k_whole; intro zzg zzL zzh zzFG zzF zzN zzB zzX zzT; (try dsimp only); (try k_fold))
    | (refine' code_defC ?k1 ?k2 ?k3 ?k4 ?k5 ?kA ?kF ?kK ?k6 ?k7 ?k8 ?k9 ?kB ?kD ?_ ?c2 ?c3 ?c4; (case kA => exact rfl); (case kF => exact rfl); (case kK => first | assumption | exact rfl); (case k1 => k_asm); (case k2 => k_asm); (case k3 => k_asm); (case k4 => k_asm); (case k5 => k_asm); (case k6 => k_is); (case k7 => k_is); (case k8 => ktr_room); (case k9 => first | exact BindsTo.of_eq rfl | exact binds_K (by k_in) rfl (by k_is) rfl rfl rfl); (case kB => exact rfl); (case kD => decide +kernel); (case c2 => exact rfl); (case c3 => exact rfl); (case c4 => exact rfl); k_whole; intro zzg zzL zzh zztk zzcells zzFG zzF zzN zzY zzB zzX zzT zzl1; k_cells zzY; (try simp only [List.cons_append, List.nil_append] at zzN); (try dsimp only); (try k_fold))
    | (refine' kp_more ?k1 ?k2 ?k3 ?k4 ?k5 ?kA ?kF ?kK ?k6 ?k7 ?k8 ?kX ?kM ?kN ?kD ?kR ?kP ?kT ?kB ?_ ?c2 ?c3 ?c4 ?c5; (case kA => exact rfl); (case kF => exact rfl); (case kK => first | assumption | exact rfl); (case k1 => k_asm); (case k2 => k_asm); (case k3 => k_asm); (case k4 => k_asm); (case k5 => k_asm); (case k6 => k_is); (case k7 => k_is); (case k8 => ktr_room); (case kX => kp_lit); (case kM => exact rfl); (case kN => exact rfl); (case kD => kp_flats); (case kR => exact rfl); (case kP => exact rfl); (case kT => exact fun _ => rfl); (case kB => exact fun _ => locs rfl); (case c5 => decide); (case c2 => exact rfl); (case c3 => exact rfl); (case c4 => exact rfl); k_whole; intro zzD zzo zzg zzL zzh zztk zzl1 zzlo zzhs zzfs zzFG zzF zzN zzB zzX zzT; (try dsimp only); (try k_fold)))
  k_with "TPost" => ((first | refine TPost.ret ?_ | refine TPost.brk ?_; (try dsimp only)))
  k_with "own k_all" => (first | assumption | (refine all_lt (by assumption) ?_; (try dsimp only); omega) | (exact fun p hp => Ne.symm (‹∀ p ∈ _, _ ≠ p.1› p hp)))
  k_with "own k_mem" => (first | exact List.Mem.head _ | ktr_member | (refine' mem_tail ?_; k_mem))
  k_with "leaving ref" => ((k_here; first | (refine' leave_onX ?k1 ?k2 ?k3 ?k4 ?_ ?k5; (case k5 => rfl); (case k1 => assumption); (case k3 => assumption); (case k4 => assumption); (case k2 => assumption); k_whole; intro zzh zzR zzU) | (refine' leave_raiseS ?k1 (Heap.MadeExc.of (by assumption)) ?k2 ?k3 ?_; (case k2 => assumption); (case k1 => assumption); (case k3 => k_asm); k_whole; intro zzh zzt zzS zzR zzU; (try dsimp only at zzS zzR zzU ⊢))))
  k_with "eval Subscript" => ((k_here; (with_reducible show PySem.wpAny _ _ (PySem.eval (PySem.Expr.Subscript (PySem.Expr.Name _ _) (PySem.Expr.Slice none (some (PySem.Expr.BoolOp _ _ _)) none _) _) _) _ _ _); k_dflt (refine' sub_cut (by k_asm) (by k_asm) (by rfl) (by rfl) (by assumption) ?_ (by assumption)); k_whole; intros; (try dsimp only); (try k_fold)))
  trivial
set_option maxHeartbeats 8000000 in
theorem lev_c (w : World) (news : Led) (x y : Str) (t1 t2 t3 : Tok) (mc : Int) (hx : x.length ≤ 1000) (hy : y.length ≤ 1000) (hone : x ≠ y → OneIn x.cps.toList y.cps.toList) :
    Con w 4 230 [.str x t1, .str y t2, .int mc t3] [] news (fun kk => ∀ t, kk (.int (2 * ((((x.length : Int) - y.length).natAbs : Nat) : Int)) t) news) := by
  intro mean mg mb dp un gd cn cs a ccd cl outer A₀ base h₀ L mm s Q E B F X N T hk hd hu hret hexc
  refine wpAny_call ?_; ktr_enter
  k_steps
  · rename (x == y) = true => e
    have e : x = y := by simpa using e
    subst e
    have e0 : (2 * ((((x.length : Int) - x.length).natAbs : Nat) : Int)) = 0 := by omega
    rw [e0] at hret
    exact hret _ _ _ (by assumption) (by assumption)
  rename (x == y) = false => hxy
  have hxy : x ≠ y := by simpa using hxy
  have hone := hone hxy
  rename Fr _ _ _ _ => lF
  rename News _ _ _ _ => lN
  refine While_cut (fun m' n' => news = n' ∧ ∃ (i : Nat) (t : Tok), (∀ p ∈ [(Str.ofString "a", Value.str x t1), (Str.ofString "b", Value.str y t2), (Str.ofString "max_cost", Value.int mc t3), (Str.ofString "pre", Value.int ((i : Nat) : Int) t)], m' p.1 = some p.2) ∧ i ≤ x.length ∧ i ≤ y.length ∧ (i = x.length ∨ i = y.length ∨ x.cps.toList[i]? ≠ y.cps.toList[i]?))
    (fun k m₁ news₁ => news = news₁ ∧ ∃ (i : Nat) (t : Tok), (∀ p ∈ [(Str.ofString "a", Value.str x t1), (Str.ofString "b", Value.str y t2), (Str.ofString "max_cost", Value.int mc t3), (Str.ofString "pre", Value.int ((i : Nat) : Int) t)], m₁ p.1 = some p.2) ∧ k = x.length - i ∧ i ≤ x.length ∧ i ≤ y.length) (n₀ := x.length) lF lN ⟨rfl, 0, _, List.forall_mem_cons.mpr ⟨rfl, List.forall_mem_cons.mpr ⟨rfl, List.forall_mem_cons.mpr ⟨rfl, List.forall_mem_cons.mpr ⟨rfl, List.forall_mem_nil _⟩⟩⟩⟩, rfl, Nat.zero_le _, Nat.zero_le _⟩ ?_ ?_
  · clear lF lN
    rintro k m₁ news₁ h₁ tk₁ lF lN ⟨rfl, i, t, ha, rfl, hi1, hi2⟩
    replace lF := fr_ovr _ lF ha
    clear ha hone hxy hret hexc
    have q1 := len_from hi1
    have q2 := len_from hi2
    k_steps
    · refine ⟨_, _, _, _, x.length - (i + 1), rfl, by assumption, by assumption, by omega, rfl, i + 1, _, List.forall_mem_cons.mpr ⟨rfl, List.forall_mem_cons.mpr ⟨rfl, List.forall_mem_cons.mpr ⟨rfl, List.forall_mem_cons.mpr ⟨rfl, List.forall_mem_nil _⟩⟩⟩⟩, rfl, by omega, by omega⟩
    · rename (Txt.item x (i : Int) == Txt.item y (i : Int)) = false => e
      refine ⟨rfl, _, _, _, _, rfl, by assumption, by assumption, rfl, i, _, List.forall_mem_cons.mpr ⟨rfl, List.forall_mem_cons.mpr ⟨rfl, List.forall_mem_cons.mpr ⟨rfl, List.forall_mem_cons.mpr ⟨rfl, List.forall_mem_nil _⟩⟩⟩⟩, hi1, hi2, .inr (.inr fun h => ?_)⟩
      have lx : x.cps.toList.length = x.length := Array.length_toList
      have hi3 : i < x.cps.toList.length := by omega
      have g1 : x.cps.toList[i]? = some (x.cps.toList[i]'hi3) := List.getElem?_eq_getElem _
      rw [it_pos g1, it_pos (h ▸ g1), one_beq] at e
      simp at e
    · exact ⟨rfl, _, _, _, _, rfl, by assumption, by assumption, rfl, i, _, List.forall_mem_cons.mpr ⟨rfl, List.forall_mem_cons.mpr ⟨rfl, List.forall_mem_cons.mpr ⟨rfl, List.forall_mem_cons.mpr ⟨rfl, List.forall_mem_nil _⟩⟩⟩⟩, hi1, hi2, .inr (.inl (by omega))⟩
    · exact ⟨rfl, _, _, _, _, rfl, by assumption, by assumption, rfl, i, _, List.forall_mem_cons.mpr ⟨rfl, List.forall_mem_cons.mpr ⟨rfl, List.forall_mem_cons.mpr ⟨rfl, List.forall_mem_cons.mpr ⟨rfl, List.forall_mem_nil _⟩⟩⟩⟩, hi1, hi2, .inl (by omega)⟩
  clear lF lN
  rintro h' tk m₁ n₁ lF lN ⟨rfl, i, t, ha, hi1, hi2, hex⟩
  replace lF := fr_ovr _ lF ha
  have hx2l : (Txt.slice x (some (i : Int)) none).length ≤ 1000 := Nat.le_trans (Nat.le_of_eq (len_from hi1)) (Nat.le_trans (Nat.sub_le _ _) hx)
  have hy2l : (Txt.slice y (some (i : Int)) none).length ≤ 1000 := Nat.le_trans (Nat.le_of_eq (len_from hi2)) (Nat.le_trans (Nat.sub_le _ _) hy)
  k_steps
  have q1 := len_from hi1
  have q2 := len_from hi2
  have hx2 := sl_from hi1
  have hy2 := sl_from hi2
  obtain ⟨x2, ex2⟩ : ∃ z, z = Txt.slice x (some (i : Int)) none := ⟨_, rfl⟩
  obtain ⟨y2, ey2⟩ : ∃ z, z = Txt.slice y (some (i : Int)) none := ⟨_, rfl⟩
  rename Fr _ _ _ _ => lF
  rename News _ _ _ _ => lN
  rw [← ex2, ← ey2] at lF
  rw [← ex2] at hx2 q1 hx2l
  rw [← ey2] at hy2 q2 hy2l
  clear ex2 ey2 ha
  refine While_cut (fun m' n' => news = n' ∧ ∃ (j : Nat) (t ta tb : Tok), (∀ p ∈ [(Str.ofString "a", Value.str x2 ta), (Str.ofString "b", Value.str y2 tb), (Str.ofString "post", Value.int (-((j : Nat) : Int)) t)], m' p.1 = some p.2) ∧ j ≤ x2.length ∧ j ≤ y2.length ∧ (j = x2.length ∨ j = y2.length ∨ x2.cps.toList[x2.length - 1 - j]? ≠ y2.cps.toList[y2.length - 1 - j]?))
    (fun k m₁ news₁ => news = news₁ ∧ ∃ (j : Nat) (t ta tb : Tok), (∀ p ∈ [(Str.ofString "a", Value.str x2 ta), (Str.ofString "b", Value.str y2 tb), (Str.ofString "post", Value.int (-((j : Nat) : Int)) t)], m₁ p.1 = some p.2) ∧ k = x2.length - j ∧ j ≤ x2.length ∧ j ≤ y2.length) (n₀ := x2.length) lF lN ⟨rfl, 0, _, _, _, List.forall_mem_cons.mpr ⟨rfl, List.forall_mem_cons.mpr ⟨rfl, List.forall_mem_cons.mpr ⟨rfl, List.forall_mem_nil _⟩⟩⟩, rfl, Nat.zero_le _, Nat.zero_le _⟩ ?_ ?_
  · clear lF lN
    rintro k m₁ news₁ h₁ tk₁ lF lN ⟨rfl, j, t, ta, tb, ha, rfl, hj1, hj2⟩
    replace lF := fr_ovr _ lF ha
    clear ha hone hxy hret hexc hx hy hi1 hi2 hex q1 q2 hx2 hy2
    k_steps
    · refine ⟨_, _, _, _, x2.length - (j + 1), rfl, by assumption, by assumption, by omega, rfl, j + 1, _, _, _, List.forall_mem_cons.mpr ⟨rfl, List.forall_mem_cons.mpr ⟨rfl, List.forall_mem_cons.mpr ⟨nxt_int, List.forall_mem_nil _⟩⟩⟩, rfl, by omega, by omega⟩
    · rename (Txt.item x2 (-(j : Int) - 1) == Txt.item y2 (-(j : Int) - 1)) = false => e
      refine ⟨rfl, _, _, _, _, rfl, by assumption, by assumption, rfl, j, _, _, _, List.forall_mem_cons.mpr ⟨rfl, List.forall_mem_cons.mpr ⟨rfl, List.forall_mem_cons.mpr ⟨rfl, List.forall_mem_nil _⟩⟩⟩, hj1, hj2, .inr (.inr fun h => ?_)⟩
      have lx2 : x2.cps.toList.length = x2.length := Array.length_toList
      have hi3 : x2.length - 1 - j < x2.cps.toList.length := by omega
      have g1 : x2.cps.toList[x2.length - 1 - j]? = some (x2.cps.toList[x2.length - 1 - j]'hi3) := List.getElem?_eq_getElem _
      have e1 := it_neg (j := j) (by omega) g1
      have e2 := it_neg (j := j) (by omega) (h ▸ g1)
      rw [e1, e2, one_beq] at e
      simp at e
    · exact ⟨rfl, _, _, _, _, rfl, by assumption, by assumption, rfl, j, _, _, _, List.forall_mem_cons.mpr ⟨rfl, List.forall_mem_cons.mpr ⟨rfl, List.forall_mem_cons.mpr ⟨rfl, List.forall_mem_nil _⟩⟩⟩, hj1, hj2, .inr (.inl (by omega))⟩
    · exact ⟨rfl, _, _, _, _, rfl, by assumption, by assumption, rfl, j, _, _, _, List.forall_mem_cons.mpr ⟨rfl, List.forall_mem_cons.mpr ⟨rfl, List.forall_mem_cons.mpr ⟨rfl, List.forall_mem_nil _⟩⟩⟩, hj1, hj2, .inl (by omega)⟩
  · clear lF lN
    rintro h' tk m₁ n₁ lF lN ⟨rfl, j, t, ta, tb, ha, hj1, hj2, hex2⟩
    replace lF := fr_ovr _ lF ha
    have lx : x.cps.toList.length = x.length := Array.length_toList
    have ly : y.cps.toList.length = y.length := Array.length_toList
    have lx2 : x2.cps.toList.length = x2.length := Array.length_toList
    have ly2 : y2.cps.toList.length = y2.length := Array.length_toList
    have hkey : (j = x2.length ∧ y2.length - j = y.length - x.length ∧ x.length ≤ y.length) ∨ (j = y2.length ∧ x2.length - j = x.length - y.length ∧ y.length ≤ x.length) := by
      obtain ⟨u, q, v, ⟨hX, hY⟩ | ⟨hY, hX⟩⟩ := hone
      · left
        have hu := one_pre (i := i) hX hY (by omega) (by rw [lx, ly]; exact hex)
        obtain ⟨q', hq⟩ := one_suf hX hY (by omega) hu
        rw [← hx2, ← hy2] at hq
        have hj := suf_all (j := j) hq (by omega) (by rw [lx2, ly2]; exact hex2)
        have hl := congrArg List.length hq
        rw [List.length_append] at hl
        omega
      · right
        have hu := one_pre (i := i) hY hX (by omega) (by rw [lx, ly]; rcases hex with h | h | h; exact .inr (.inl h); exact .inl h; exact .inr (.inr (Ne.symm h)))
        obtain ⟨q', hq⟩ := one_suf hY hX (by omega) hu
        rw [← hx2, ← hy2] at hq
        have hj := suf_all (j := j) hq (by omega) (by rw [lx2, ly2]; rcases hex2 with h | h | h; exact .inr (.inl h); exact .inl h; exact .inr (.inr (Ne.symm h)))
        have hl := congrArg List.length hq
        rw [List.length_append] at hl
        omega
    clear hex hex2 hone lx ly lx2 ly2 hx2 hy2 hexc ha
    have q3 := len_cut hj1
    have q4 := len_cut hj2
    have e : (2 * ((((x.length : Int) - y.length).natAbs : Nat) : Int)) = 2 * (((cut x2 j).length : Int) + ((cut y2 j).length : Int)) := by omega
    have hz : (cut x2 j).length = 0 ∨ (cut y2 j).length = 0 := by omega
    rw [e] at hret
    clear e hkey hi1 hi2 q1 q2 hx hy q3 q4
    k_steps
    · exfalso; omega
    all_goals exact hret _ _ _ (by assumption) (by assumption)
end
end Mine
end
section
-- part LS8
open PySem PySem.W PySem.Calls PySem.Spec PyProof.Rows PyProof.Rows.LCg
namespace Mine
theorem reg66 : True := by
  w_top off
  k_with_none
  trivial
abbrev ledH (w : World) (L : Addr) (co : Obj) (hl x0 dx bl B' : Addr) (hv bv kv : List Value) (k kb kb' : Nat) (tk : Tok) (news : Led) : Led := (L + 1, co) :: (hl, W.listOf hv.toArray k) :: (x0, instObj 175 dx) :: (dx, hdict w tk hl) :: (bl, W.listOf bv.toArray kb) :: (B', W.listOf kv.toArray kb') :: news
abbrev tabTextS (hs : List (Str × Str)) : Str := Txt.join (Str.ofString "\r\n") (hs.map hdLine ++ [Str.ofString "", Str.ofString ""])
section
theorem reg67 : True := by
  w_top off
  k_with_none
  k_with "own k_steps" => (repeat' (first
    | (k_unfold; (try dsimp only))
    | (dsimp only; k_unfold; (try dsimp only))
    | ((fail_if_success (with_reducible show PySem.wpAny _ _ (PySem.exec (PySem.Stmt.While _ _ _ _) _) _ _ _)); (fail_if_success (with_reducible show PySem.wpAny _ _ (PySem.exec (PySem.Stmt.For _ _ _ _ _) _) _ _ _)); (fail_if_success (with_reducible show PySem.wpAny _ _ (PySem.eval (PySem.Expr.ListComp _ _ _ _) _) _ _ _)); (fail_if_success (with_reducible show PySem.wpAny _ _ (PySem.exec (PySem.Stmt.Assign [PySem.Expr.Name _ _] (PySem.Expr.ListComp _ _ _ _) _) _) _ _ _)); (fail_if_success (with_reducible show PySem.wpAny _ _ (PySem.pyIter _) _ _ _)); (fail_if_success (with_reducible show PySem.W.UnrPostW _ _ _ _ _ _ _ _));  (fail_if_success (with_reducible show PySem.wpAny _ _ (PySem.call (PySem.Value.type "bytes") _ _) _ _ _)); (fail_if_success (with_reducible show PySem.wpAny _ _ (PySem.call (PySem.Value.type "list") _ _) _ _ _)); (fail_if_success (with_reducible show PySem.wpAny _ _ (PySem.compareOp _ (PySem.Value.ref _) _) _ _ _)); (fail_if_success (with_reducible show PySem.wpAny _ _ (PySem.binaryOp PySem.Operator.Add (PySem.Value.ref _) _) _ _ _)); (fail_if_success (with_reducible show PySem.wpAny _ _ (PySem.call (PySem.Value.ref 367) _ _) _ _ _)); (fail_if_success (with_reducible show PySem.wpAny _ _ (PySem.call (PySem.Value.ref 230) _ _) _ _ _)); (first | walk1 | (dsimp only; walk1)))))
  k_with "own ktr_enter" => (first
    | (refine' code_defT ?k1 ?k2 ?k3 ?k4 ?k5 ?kA ?kF ?kK ?k6 ?k7 ?k8 ?k9 ?kB ?_ ?c2 ?c3 ?c4 ?c5; (case kA => exact rfl); (case kF => exact rfl); (case kK => first | assumption | exact rfl); (case k1 => k_asm); (case k2 => k_asm); (case k3 => k_asm); (case k4 => k_asm); (case k5 => k_asm); (case k6 => k_is); (case k7 => k_is); (case k8 => ktr_room); (case k9 => first | exact BindsTo.of_eq rfl | exact binds_K (by k_in) rfl (by k_is) rfl rfl rfl); (case c5 => decide); (case kB => exact locs rfl); (case c2 => exact rfl); (case c3 => exact rfl); (case c4 => exact rfl); k_whole; intro zzg zzL zzh zzFG zzF zzN zzB zzX zzT zzD; (try dsimp only); (try k_fold))
    | (refine' code_def ?k1 ?k2 ?k3 ?k4 ?k5 ?kA ?kF ?kK ?k6 ?k7 ?k8 ?k9 ?kB ?_ ?c2 ?c3 ?c4 ?c5; (case kA => exact rfl); (case kF => exact rfl); (case kK => first | assumption | exact rfl); (case k1 => k_asm); (case k2 => k_asm); (case k3 => k_asm); (case k4 => k_asm); (case k5 => k_asm); (case k6 => k_is); (case k7 => k_is); (case k8 => ktr_room); (case k9 => first | exact BindsTo.of_eq rfl | exact binds_K (by k_in) rfl (by k_is) rfl rfl rfl); (case c5 => decide); (case kB => exact locs rfl); (case c2 => exact rfl); (case c3 => exact rfl); (case c4 => exact rfl); k_whole; intro zzg zzL zzh zzFG zzF zzN zzB zzX zzT; (try dsimp only); (try k_fold))
    | (refine' code_defC ?k1 ?k2 ?k3 ?k4 ?k5 ?kA ?kF ?kK ?k6 ?k7 ?k8 ?k9 ?kB ?kD ?_ ?c2 ?c3 ?c4; (case kA => exact rfl); (case kF => exact rfl); (case kK => first | assumption | exact rfl); (case k1 => k_asm); (case k2 => k_asm); (case k3 => k_asm); (case k4 => k_asm); (case k5 => k_asm); (case k6 => k_is); (case k7 => k_is); (case k8 => ktr_room); (case k9 => first | exact BindsTo.of_eq rfl | exact binds_K (by k_in) rfl (by k_is) rfl rfl rfl); (case kB => exact rfl); (case kD => decide +kernel); (case c2 => exact rfl); (case c3 => exact rfl); (case c4 => exact rfl); k_whole; intro zzg zzL zzh zztk zzcells zzFG zzF zzN zzY zzB zzX zzT zzl1; k_cells zzY; (try simp only [List.cons_append, List.nil_append] at zzN); (try dsimp only); (try k_fold))
    | (refine' kp_more ?k1 ?k2 ?k3 ?k4 ?k5 ?kA ?kF ?kK ?k6 ?k7 ?k8 ?kX ?kM ?kN ?kD ?kR ?kP ?kT ?kB ?_ ?c2 ?c3 ?c4 ?c5; (case kA => exact rfl); (case kF => exact rfl); (case kK => first | assumption | exact rfl); (case k1 => k_asm); (case k2 => k_asm); (case k3 => k_asm); (case k4 => k_asm); (case k5 => k_asm); (case k6 => k_is); (case k7 => k_is); (case k8 => ktr_room); (case kX => kp_lit); (case kM => exact rfl); (case kN => exact rfl); (case kD => kp_flats); (case kR => exact rfl); (case kP => exact rfl); (case kT => exact fun _ => rfl); (case kB => exact fun _ => locs rfl); (case c5 => decide); (case c2 => exact rfl); (case c3 => exact rfl); (case c4 => exact rfl); k_whole; intro zzD zzo zzg zzL zzh zztk zzl1 zzlo zzhs zzfs zzFG zzF zzN zzB zzX zzT; (try dsimp only); (try k_fold)))
  k_with "TPost" => ((first | refine TPost.ret ?_ | refine TPost.brk ?_; (try dsimp only)))
  k_with "own k_all" => (first | assumption | (refine all_lt (by assumption) ?_; (try dsimp only); omega) | (exact fun p hp => Ne.symm (‹∀ p ∈ _, _ ≠ p.1› p hp)))
  k_with "own k_mem" => (first | exact List.Mem.head _ | ktr_member | (refine' mem_tail ?_; k_mem))
  k_with "leaving ref" => ((k_here; first | (refine' leave_onX ?k1 ?k2 ?k3 ?k4 ?_ ?k5; (case k5 => rfl); (case k1 => assumption); (case k3 => assumption); (case k4 => assumption); (case k2 => assumption); k_whole; intro zzh zzR zzU) | (refine' leave_raiseS ?k1 (Heap.MadeExc.of (by assumption)) ?k2 ?k3 ?_; (case k2 => assumption); (case k1 => assumption); (case k3 => k_asm); k_whole; intro zzh zzt zzS zzR zzU; (try dsimp only at zzS zzR zzU ⊢))))
  trivial
set_option maxHeartbeats 8000000 in
theorem seg8 {w : World} {rest : List Stmt} {mean : ExcName → Option Value} {mg mb : Str → Option Value} {dp un : Nat} {gd : Option (List Code)} {L fa : Addr} {cdv : Value} {A₀ : Around} {h₀ : Heap} {m : Str → Option Value} {s : Shared} {Q : Flow → Shared → Prop} {E : Value → Shared → Prop} (S : Std w mean mg mb dp un A₀ h₀) {news : Led}
    (x nm vl ahd : Int) (sg : Str) (tx ta tv ts tn tt : Tok) (x0 dx hl bl B' : Addr) (tk : Tok) (co : Obj) (hv bv kv : List Value) (k kb kb' : Nat) (hs : List (Str × Str)) (text : Str) (bs ks : Bk)
    (F : Fr h₀ L s.heap m) (hm : locsOk m [(Str.ofString "x", .int x tx), (Str.ofString "table", .ref x0), (Str.ofString "book", .ref bl), (Str.ofString "ahead", .int ahd ta), (Str.ofString "sign", .str sg ts), (Str.ofString "text", .str text tt), (Str.ofString "kept", .ref B')]) (N : News h₀ L s.heap (ledH w L co hl x0 dx bl B' hv bv kv k kb kb' tk news)) (hco : co.data = .cell (some (.int nm tn)))
    (hD : DatAll (ledH w L co hl x0 dx bl B' hv bv kv k kb kb' tk news) hv (hs.map hdD)) (hsh : ∀ p ∈ hs, p.1.length ≤ 2 ∧ p.2.length ≤ 2) (hsz : hv.length ≤ 900) (hDb : DatAll (ledH w L co hl x0 dx bl B' hv bv kv k kb kb' tk news) bv (bs.map bkD)) (hszb : bv.length ≤ 900) (hDk : DatAll (ledH w L co hl x0 dx bl B' hv bv kv k kb kb' tk news) kv (ks.map bkD)) (hszk : kv.length ≤ 900)
    (hnb : ∀ p ∈ bs, (0 ≤ p.1 ∧ p.1 < 4096) ∧ ∀ v, p.2 = some v → 0 ≤ v ∧ v < 4096) (hnk : ∀ p ∈ ks, (0 ≤ p.1 ∧ p.1 < 4096) ∧ ∀ v, p.2 = some v → 0 ≤ v ∧ v < 4096)
    (hl1 : text.length ≤ 1000) (hl2 : (tabTextS hs).length ≤ 1000) (hmv : ∀ mv, movedF bs ks nm = some mv → (2 * ((((text.length : Int) - (tabTextS hs).length).natAbs : Nat) : Int)) = 2 * mv) (hone : ∀ mv, movedF bs ks nm = some mv → text ≠ tabTextS hs → OneIn text.cps.toList (tabTextS hs).cps.toList)
    (h : ∀ h' tk' m', Fr h₀ L h' m' → locsOk m' [(Str.ofString "x", .int x tx), (Str.ofString "table", .ref x0), (Str.ofString "book", .ref bl), (Str.ofString "ahead", .int ahd ta), (Str.ofString "sign", .str sg ts), (Str.ofString "kept", .ref B')] → News h₀ L h' (ledH w L co hl x0 dx bl B' hv bv kv k kb kb' tk news) → LGo w dp un gd L fa cdv rest Q E { s with heap := h', toks := tk' }) :
    LGo w dp un gd L fa cdv (lawS 13 :: lawS 14 :: rest) Q E s := by
  obtain ⟨B, X, T, hd, hu⟩ := S
  replace F := fr_ovr _ F hm
  obtain ⟨K0, hK0⟩ : ∃ K0, K0 = LGo w dp un gd L fa cdv rest Q E := ⟨_, rfl⟩
  rw [← hK0] at h
  simp only [LGo, lawTop, lawEnv, cells_law] at *
  conv in lawS 13 => whnf
  conv in lawS 14 => whnf
  conv in (occs := *) lawScope => all_goals (whnf; zeta)
  have hret := h
  clear h
  k_steps
  refine use_x (moved_c w _ bl B' bv kv kb kb' bs ks nm _ (by k_mem) hDb (by k_mem) hDk hszb hszk hnb hnk) (by k_asm) (by k_asm) (by k_asm) (by k_asm) (by k_asm) (by rfl) (by ktr_room) (by ktr_units) ?_ trivial
  intro t
  (try dsimp only)
  intro h' tk' F' N'
  cases hmo : movedF bs ks nm with
  | none =>
    (try dsimp only [optD])
    k_steps
    subst hK0
    exact hret _ _ _ (by assumption) (by repeat (first | exact List.forall_mem_nil _ | refine List.forall_mem_cons.mpr ⟨rfl, ?_⟩)) (by assumption)
  | some mv =>
    (try dsimp only [optD])
    k_steps
    refine kso_call (K := Mine.hd.heap_1 w.params) ?k1 (by k_in) (by k_inst) (by k_is) (by k_is) ?_
    (case k1 => ktr_units)
    refine use_x (str_c w _ x0 dx hl _ hv hs k (by k_mem) (by k_mem) (by k_mem) hD hsh (by omega)) (by k_asm) (by k_asm) (by k_asm) (by k_asm) (by k_asm) (by rfl) (by ktr_room) (by ktr_units) ?_ trivial
    intro t
    (try dsimp only)
    intro h' tk' F' N'
    show wpAny _ _ _ _ _ _
    k_steps
    refine use_x (lev_c w _ text (tabTextS hs) _ _ _ x hl1 hl2 (hone mv hmo)) (by k_asm) (by k_asm) (by k_asm) (by k_asm) (by k_asm) (by rfl) (by ktr_room) (by ktr_units) ?_ trivial
    intro t
    (try dsimp only)
    intro h' tk' F' N'
    rw [hmv mv hmo]
    k_steps
    · exfalso; omega
    · subst hK0
      exact hret _ _ _ (by assumption) (by repeat (first | exact List.forall_mem_nil _ | refine List.forall_mem_cons.mpr ⟨rfl, ?_⟩)) (by assumption)
end
end Mine
end
section
-- part Q2
open PySem PySem.W PySem.Calls PySem.Spec PyProof.Rows PyProof.Rows.LCg
namespace Mine

section
theorem reg68 : True := by
  w_top off
  k_with_none
  k_with "own k_steps" => (repeat' (first
    | (k_unfold; (try dsimp only))
    | (dsimp only; k_unfold; (try dsimp only))
    | ((fail_if_success (with_reducible show PySem.wpAny _ _ (PySem.exec (PySem.Stmt.While _ _ _ _) _) _ _ _)); (fail_if_success (with_reducible show PySem.wpAny _ _ (PySem.exec (PySem.Stmt.For _ _ _ _ _) _) _ _ _)); (fail_if_success (with_reducible show PySem.wpAny _ _ (PySem.eval (PySem.Expr.ListComp _ _ _ _) _) _ _ _)); (fail_if_success (with_reducible show PySem.wpAny _ _ (PySem.exec (PySem.Stmt.Assign [PySem.Expr.Name _ _] (PySem.Expr.ListComp _ _ _ _) _) _) _ _ _)); (fail_if_success (with_reducible show PySem.wpAny _ _ (PySem.pyIter _) _ _ _)); (fail_if_success (with_reducible show PySem.W.UnrPostW _ _ _ _ _ _ _ _)); (first | walk1 | (dsimp only; walk1)))))
  k_with "own ktr_enter" => (first
    | (refine' code_def ?k1 ?k2 ?k3 ?k4 ?k5 ?kA ?kF ?kK ?k6 ?k7 ?k8 ?k9 ?kB ?_ ?c2 ?c3 ?c4 ?c5; (case kA => exact rfl); (case kF => exact rfl); (case kK => assumption); (case k1 => k_asm); (case k2 => k_asm); (case k3 => k_asm); (case k4 => k_asm); (case k5 => k_asm); (case k6 => k_is); (case k7 => k_is); (case k8 => ktr_room); (case k9 => first | exact BindsTo.of_eq rfl | exact binds_K (by k_in) rfl (by k_is) rfl rfl rfl); (case c5 => decide); (case kB => exact locs rfl); (case c2 => exact rfl); (case c3 => exact rfl); (case c4 => exact rfl); k_whole; intro zzg zzL zzh zzFG zzF zzN zzB zzX zzT; (try dsimp only); (try k_fold))
    | (refine' code_defC ?k1 ?k2 ?k3 ?k4 ?k5 ?kA ?kF ?kK ?k6 ?k7 ?k8 ?k9 ?kB ?kD ?_ ?c2 ?c3 ?c4; (case kA => exact rfl); (case kF => exact rfl); (case kK => assumption); (case k1 => k_asm); (case k2 => k_asm); (case k3 => k_asm); (case k4 => k_asm); (case k5 => k_asm); (case k6 => k_is); (case k7 => k_is); (case k8 => ktr_room); (case k9 => first | exact BindsTo.of_eq rfl | exact binds_K (by k_in) rfl (by k_is) rfl rfl rfl); (case kB => exact rfl); (case kD => decide +kernel); (case c2 => exact rfl); (case c3 => exact rfl); (case c4 => exact rfl); k_whole; intro zzg zzL zzh zztk zzcells zzFG zzF zzN zzY zzB zzX zzT zzl1; k_cells zzY; (try simp only [List.cons_append, List.nil_append] at zzN); (try dsimp only); (try k_fold))
    | (refine' kp_more ?k1 ?k2 ?k3 ?k4 ?k5 ?kA ?kF ?kK ?k6 ?k7 ?k8 ?kX ?kM ?kN ?kD ?kR ?kP ?kT ?kB ?_ ?c2 ?c3 ?c4 ?c5; (case kA => exact rfl); (case kF => exact rfl); (case kK => assumption); (case k1 => k_asm); (case k2 => k_asm); (case k3 => k_asm); (case k4 => k_asm); (case k5 => k_asm); (case k6 => k_is); (case k7 => k_is); (case k8 => ktr_room); (case kX => kp_lit); (case kM => exact rfl); (case kN => exact rfl); (case kD => kp_flats); (case kR => exact rfl); (case kP => exact rfl); (case kT => exact fun _ => rfl); (case kB => exact fun _ => locs rfl); (case c5 => decide); (case c2 => exact rfl); (case c3 => exact rfl); (case c4 => exact rfl); k_whole; intro zzD zzo zzg zzL zzh zztk zzl1 zzlo zzhs zzfs zzFG zzF zzN zzB zzX zzT; (try dsimp only); (try k_fold)))
  k_with "TPost" => ((first | refine TPost.ret ?_ | refine TPost.brk ?_; (try dsimp only)))
  k_with "own k_all" => (first | assumption | (refine all_lt (by assumption) ?_; (try dsimp only); omega) | (exact fun p hp => Ne.symm (‹∀ p ∈ _, _ ≠ p.1› p hp)))
  k_with "own k_mem" => (first | exact List.Mem.head _ | ktr_member | (refine' mem_tail ?_; k_mem))
  k_with "leaving ref" => ((k_here; first | (refine' leave_onX ?k1 ?k2 ?k3 ?k4 ?_ ?k5; (case k5 => rfl); (case k1 => assumption); (case k3 => assumption); (case k4 => assumption); (case k2 => assumption); k_whole; intro zzh zzR zzU) | (refine' leave_raiseS ?k1 (Heap.MadeExc.of (by assumption)) ?k2 ?k3 ?_; (case k2 => assumption); (case k1 => assumption); (case k3 => k_asm); k_whole; intro zzh zzt zzS zzR zzU; (try dsimp only at zzS zzR zzU ⊢))))
  trivial
set_option maxHeartbeats 8000000 in
theorem qinit_c (w : World) (rest : Led) (x : Str) (t1 : Tok) (self d : Addr) (ha : ∀ p ∈ rest, p.1 ≠ d) (hs : (self, instObj 304 d) ∈ rest) :
    Con w 2 245 [.ref self, .str x t1] [] ((d, dictOf [] 0) :: rest) (fun kk => ∀ tk, kk .none ((d, dictOf [⟨PyData.keyHash w.params (Str.ofString "text"), .str (Str.ofString "text") tk, .str x t1⟩] 1) :: rest)) := by
  intro mean mg mb dp un gd cn cs a ccd cl outer A₀ base h₀ L mm s Q E B F X N T hk hd hu hret hexc
  refine wpAny_call ?_; ktr_enter
  k_steps
  rename News h₀ L _ _ => kN
  exact hret _ _ _ (by assumption) kN
set_option maxHeartbeats 8000000 in
theorem qlt_c (w : World) (news : Led) (x y : Str) (t1 t2 tk1 tk2 : Tok) (q1 d1 q2 d2 : Addr) (h1 : (q1, instObj 304 d1) ∈ news) (g1 : (d1, dictOf [⟨PyData.keyHash w.params (Str.ofString "text"), .str (Str.ofString "text") tk1, .str x t1⟩] 1) ∈ news) (h2 : (q2, instObj 304 d2) ∈ news) (g2 : (d2, dictOf [⟨PyData.keyHash w.params (Str.ofString "text"), .str (Str.ofString "text") tk2, .str y t2⟩] 1) ∈ news) :
    Con w 2 280 [.ref q1, .ref q2] [] news (fun kk => kk (.bool (decide (x.cps.toList < y.cps.toList))) news) := by
  intro mean mg mb dp un gd cn cs a ccd cl outer A₀ base h₀ L mm s Q E B F X N T hk hd hu hret hexc
  refine wpAny_call ?_; ktr_enter
  k_steps
  exact hret _ _ (by assumption) (by assumption)
set_option maxHeartbeats 8000000 in
theorem qeq_c (w : World) (news : Led) (x y : Str) (t1 t2 tk1 tk2 : Tok) (q1 d1 q2 d2 : Addr) (h1 : (q1, instObj 304 d1) ∈ news) (g1 : (d1, dictOf [⟨PyData.keyHash w.params (Str.ofString "text"), .str (Str.ofString "text") tk1, .str x t1⟩] 1) ∈ news) (h2 : (q2, instObj 304 d2) ∈ news) (g2 : (d2, dictOf [⟨PyData.keyHash w.params (Str.ofString "text"), .str (Str.ofString "text") tk2, .str y t2⟩] 1) ∈ news) :
    Con w 2 301 [.ref q1, .ref q2] [] news (fun kk => kk (.bool (x == y)) news) := by
  intro mean mg mb dp un gd cn cs a ccd cl outer A₀ base h₀ L mm s Q E B F X N T hk hd hu hret hexc
  refine wpAny_call ?_; ktr_enter
  k_steps
  exact hret _ _ (by assumption) (by assumption)
end
end Mine
end
section
-- part LS9
open PySem PySem.W PySem.Calls PySem.Spec PyProof.Rows PyProof.Rows.LCg
namespace Mine
theorem reg69 : True := by
  w_top off
  k_with_none
  trivial
def costF (nm ahd : Int) : Int := if nm = ahd then 0 else if lawOne nm ahd then 1 else 2
section
theorem reg70 : True := by
  w_top off
  k_with_none
  k_with "own k_steps" => (repeat' (first
    | (k_unfold; (try dsimp only))
    | (dsimp only; k_unfold; (try dsimp only))
    | ((fail_if_success (with_reducible show PySem.wpAny _ _ (PySem.exec (PySem.Stmt.While _ _ _ _) _) _ _ _)); (fail_if_success (with_reducible show PySem.wpAny _ _ (PySem.exec (PySem.Stmt.For _ _ _ _ _) _) _ _ _)); (fail_if_success (with_reducible show PySem.wpAny _ _ (PySem.eval (PySem.Expr.ListComp _ _ _ _) _) _ _ _)); (fail_if_success (with_reducible show PySem.wpAny _ _ (PySem.exec (PySem.Stmt.Assign [PySem.Expr.Name _ _] (PySem.Expr.ListComp _ _ _ _) _) _) _ _ _)); (fail_if_success (with_reducible show PySem.wpAny _ _ (PySem.pyIter _) _ _ _)); (fail_if_success (with_reducible show PySem.W.UnrPostW _ _ _ _ _ _ _ _));  (fail_if_success (with_reducible show PySem.wpAny _ _ (PySem.call (PySem.Value.type "bytes") _ _) _ _ _)); (fail_if_success (with_reducible show PySem.wpAny _ _ (PySem.call (PySem.Value.type "list") _ _) _ _ _)); (fail_if_success (with_reducible show PySem.wpAny _ _ (PySem.compareOp _ (PySem.Value.ref _) _) _ _ _)); (fail_if_success (with_reducible show PySem.wpAny _ _ (PySem.binaryOp PySem.Operator.Add (PySem.Value.ref _) _) _ _ _)); (fail_if_success (with_reducible show PySem.wpAny _ _ (PySem.call (PySem.Value.ref 223) _ _) _ _ _)); (first | walk1 | (dsimp only; walk1)))))
  k_with "own ktr_enter" => (first
    | (refine' code_defT ?k1 ?k2 ?k3 ?k4 ?k5 ?kA ?kF ?kK ?k6 ?k7 ?k8 ?k9 ?kB ?_ ?c2 ?c3 ?c4 ?c5; (case kA => exact rfl); (case kF => exact rfl); (case kK => first | assumption | exact rfl); (case k1 => k_asm); (case k2 => k_asm); (case k3 => k_asm); (case k4 => k_asm); (case k5 => k_asm); (case k6 => k_is); (case k7 => k_is); (case k8 => ktr_room); (case k9 => first | exact BindsTo.of_eq rfl | exact binds_K (by k_in) rfl (by k_is) rfl rfl rfl); (case c5 => decide); (case kB => exact locs rfl); (case c2 => exact rfl); (case c3 => exact rfl); (case c4 => exact rfl); k_whole; intro zzg zzL zzh zzFG zzF zzN zzB zzX zzT zzD; (try dsimp only); (try k_fold))
    | (refine' code_def ?k1 ?k2 ?k3 ?k4 ?k5 ?kA ?kF ?kK ?k6 ?k7 ?k8 ?k9 ?kB ?_ ?c2 ?c3 ?c4 ?c5; (case kA => exact rfl); (case kF => exact rfl); (case kK => first | assumption | exact rfl); (case k1 => k_asm); (case k2 => k_asm); (case k3 => k_asm); (case k4 => k_asm); (case k5 => k_asm); (case k6 => k_is); (case k7 => k_is); (case k8 => ktr_room); (case k9 => first | exact BindsTo.of_eq rfl | exact binds_K (by k_in) rfl (by k_is) rfl rfl rfl); (case c5 => decide); (case kB => exact locs rfl); (case c2 => exact rfl); (case c3 => exact rfl); (case c4 => exact rfl); k_whole; intro zzg zzL zzh zzFG zzF zzN zzB zzX zzT; (try dsimp only); (try k_fold))
    | (refine' code_defC ?k1 ?k2 ?k3 ?k4 ?k5 ?kA ?kF ?kK ?k6 ?k7 ?k8 ?k9 ?kB ?kD ?_ ?c2 ?c3 ?c4; (case kA => exact rfl); (case kF => exact rfl); (case kK => first | assumption | exact rfl); (case k1 => k_asm); (case k2 => k_asm); (case k3 => k_asm); (case k4 => k_asm); (case k5 => k_asm); (case k6 => k_is); (case k7 => k_is); (case k8 => ktr_room); (case k9 => first | exact BindsTo.of_eq rfl | exact binds_K (by k_in) rfl (by k_is) rfl rfl rfl); (case kB => exact rfl); (case kD => decide +kernel); (case c2 => exact rfl); (case c3 => exact rfl); (case c4 => exact rfl); k_whole; intro zzg zzL zzh zztk zzcells zzFG zzF zzN zzY zzB zzX zzT zzl1; k_cells zzY; (try simp only [List.cons_append, List.nil_append] at zzN); (try dsimp only); (try k_fold))
    | (refine' kp_more ?k1 ?k2 ?k3 ?k4 ?k5 ?kA ?kF ?kK ?k6 ?k7 ?k8 ?kX ?kM ?kN ?kD ?kR ?kP ?kT ?kB ?_ ?c2 ?c3 ?c4 ?c5; (case kA => exact rfl); (case kF => exact rfl); (case kK => first | assumption | exact rfl); (case k1 => k_asm); (case k2 => k_asm); (case k3 => k_asm); (case k4 => k_asm); (case k5 => k_asm); (case k6 => k_is); (case k7 => k_is); (case k8 => ktr_room); (case kX => kp_lit); (case kM => exact rfl); (case kN => exact rfl); (case kD => kp_flats); (case kR => exact rfl); (case kP => exact rfl); (case kT => exact fun _ => rfl); (case kB => exact fun _ => locs rfl); (case c5 => decide); (case c2 => exact rfl); (case c3 => exact rfl); (case c4 => exact rfl); k_whole; intro zzD zzo zzg zzL zzh zztk zzl1 zzlo zzhs zzfs zzFG zzF zzN zzB zzX zzT; (try dsimp only); (try k_fold)))
  k_with "TPost" => ((first | refine TPost.ret ?_ | refine TPost.brk ?_; (try dsimp only)))
  k_with "own k_all" => (first | assumption | (refine all_lt (by assumption) ?_; (try dsimp only); omega) | (exact fun p hp => Ne.symm (‹∀ p ∈ _, _ ≠ p.1› p hp)))
  k_with "own k_mem" => (first | exact List.Mem.head _ | ktr_member | (refine' mem_tail ?_; k_mem))
  k_with "leaving ref" => ((k_here; first | (refine' leave_onX ?k1 ?k2 ?k3 ?k4 ?_ ?k5; (case k5 => rfl); (case k1 => assumption); (case k3 => assumption); (case k4 => assumption); (case k2 => assumption); k_whole; intro zzh zzR zzU) | (refine' leave_raiseS ?k1 (Heap.MadeExc.of (by assumption)) ?k2 ?k3 ?_; (case k2 => assumption); (case k1 => assumption); (case k3 => k_asm); k_whole; intro zzh zzt zzS zzR zzU; (try dsimp only at zzS zzR zzU ⊢))))
  k_with "call ref" => (((with_reducible show PySem.wpAny _ _ (PySem.call (PySem.Value.ref 315) _ _) _ _ _); k_dflt (refine' use_x (sign_c _ _ _ _ ?kx ?ky) ?k1 ?k2 ?k3 ?k4 ?k5 ?kK ?kd ?ku ?_ ?_; (case kx => assumption); (case ky => assumption); (case k1 => k_asm); (case k2 => k_asm); (case k3 => k_asm); (case k4 => k_asm); (case k5 => k_asm); (case kK => first | exact rfl | assumption); (case kd => ktr_room); (case ku => ktr_units)); (intros; (try dsimp only); (try k_fold))))
  k_with "call ref" => (((with_reducible show PySem.wpAny _ _ (PySem.call (PySem.Value.ref 329) _ _) _ _ _); k_dflt (refine' use_x (one_c _ _ _ _ _ _) ?k1 ?k2 ?k3 ?k4 ?k5 ?kK ?kd ?ku ?_ ?_; (case k1 => k_asm); (case k2 => k_asm); (case k3 => k_asm); (case k4 => k_asm); (case k5 => k_asm); (case kK => first | exact rfl | assumption); (case kd => ktr_room); (case ku => ktr_units)); (intros; (try dsimp only); (try k_fold))))
  trivial
set_option maxHeartbeats 8000000 in
theorem seg9 {w : World} {rest : List Stmt} {mean : ExcName → Option Value} {mg mb : Str → Option Value} {dp un : Nat} {gd : Option (List Code)} {L fa : Addr} {cdv : Value} {A₀ : Around} {h₀ : Heap} {m : Str → Option Value} {s : Shared} {Q : Flow → Shared → Prop} {E : Value → Shared → Prop} (S : Std w mean mg mb dp un A₀ h₀) {news : Led}
    (x nm ahd : Int) (tx ta ts tn : Tok) (x0 bl B' : Addr) (co : Obj) 
    (F : Fr h₀ L s.heap m) (hm : locsOk m [(Str.ofString "x", .int x tx), (Str.ofString "table", .ref x0), (Str.ofString "book", .ref bl), (Str.ofString "ahead", .int ahd ta), (Str.ofString "sign", .str (sgn nm) ts), (Str.ofString "kept", .ref B')]) (N : News h₀ L s.heap ((L + 1, co) :: news)) (hco : co.data = .cell (some (.int nm tn)))
    (ha0 : 0 ≤ ahd) (ha1 : ahd < 4096)
    (h : ∀ h' tk' m' t1 t2, Fr h₀ L h' m' → locsOk m' [(Str.ofString "table", .ref x0), (Str.ofString "book", .ref bl), (Str.ofString "ahead", .int ahd ta), (Str.ofString "sign", .str (sgn nm) ts), (Str.ofString "kept", .ref B'), (Str.ofString "last", .str (sgn ahd) t1), (Str.ofString "cost", .int (costF nm ahd) t2)] → News h₀ L h' ((L + 1, co) :: news) → LGo w dp un gd L fa cdv rest Q E { s with heap := h', toks := tk' }) :
    LGo w dp un gd L fa cdv (lawS 15 :: lawS 16 :: rest) Q E s := by
  obtain ⟨B, X, T, hd, hu⟩ := S
  replace F := fr_ovr _ F hm
  obtain ⟨K0, hK0⟩ : ∃ K0, K0 = LGo w dp un gd L fa cdv rest Q E := ⟨_, rfl⟩
  rw [← hK0] at h
  simp only [LGo, lawTop, lawEnv, cells_law] at *
  conv in lawS 15 => whnf
  conv in lawS 16 => whnf
  conv in (occs := *) lawScope => all_goals (whnf; zeta)
  have hret := h
  clear h
  k_steps
  all_goals try exact True.intro
  · have e : costF nm ahd = 0 := by unfold costF; rw [if_pos (by omega)]
    rw [e] at hret
    subst hK0
    exact hret _ _ _ _ _ (by assumption) (by repeat (first | exact List.forall_mem_nil _ | refine List.forall_mem_cons.mpr ⟨rfl, ?_⟩)) (by assumption)
  · rename lawOne nm ahd = true => e1
    have e : costF nm ahd = 1 := by unfold costF; rw [if_neg (by omega), if_pos e1]
    rw [e] at hret
    subst hK0
    exact hret _ _ _ _ _ (by assumption) (by repeat (first | exact List.forall_mem_nil _ | refine List.forall_mem_cons.mpr ⟨rfl, ?_⟩)) (by assumption)
  · rename lawOne nm ahd = false => e1
    have e : costF nm ahd = 2 := by unfold costF; rw [if_neg (by omega), if_neg (by rw [e1]; exact Bool.false_ne_true)]
    rw [e] at hret
    subst hK0
    exact hret _ _ _ _ _ (by assumption) (by repeat (first | exact List.forall_mem_nil _ | refine List.forall_mem_cons.mpr ⟨rfl, ?_⟩)) (by assumption)
end
section
theorem reg71 : True := by
  w_top off
  k_with_none
  k_with "own k_steps" => (repeat' (first
    | (k_unfold; (try dsimp only))
    | (dsimp only; k_unfold; (try dsimp only))
    | ((fail_if_success (with_reducible show PySem.wpAny _ _ (PySem.exec (PySem.Stmt.While _ _ _ _) _) _ _ _)); (fail_if_success (with_reducible show PySem.wpAny _ _ (PySem.exec (PySem.Stmt.For _ _ _ _ _) _) _ _ _)); (fail_if_success (with_reducible show PySem.wpAny _ _ (PySem.eval (PySem.Expr.ListComp _ _ _ _) _) _ _ _)); (fail_if_success (with_reducible show PySem.wpAny _ _ (PySem.exec (PySem.Stmt.Assign [PySem.Expr.Name _ _] (PySem.Expr.ListComp _ _ _ _) _) _) _ _ _)); (fail_if_success (with_reducible show PySem.wpAny _ _ (PySem.pyIter _) _ _ _)); (fail_if_success (with_reducible show PySem.W.UnrPostW _ _ _ _ _ _ _ _)); (fail_if_success (with_reducible show PySem.wpAny _ _ (PySem.call (PySem.Value.ref 223) _ _) _ _ _)); (fail_if_success (with_reducible show PySem.wpAny _ _ (PySem.call (PySem.Value.ref 245) _ _) _ _ _)); (fail_if_success (with_reducible show PySem.wpAny _ _ (PySem.call (PySem.Value.ref 280) _ _) _ _ _)); (fail_if_success (with_reducible show PySem.wpAny _ _ (PySem.call (PySem.Value.ref 301) _ _) _ _ _)); (first | walk1 | (dsimp only; walk1)))))
  k_with "own ktr_enter" => (first
    | (refine' code_defT ?k1 ?k2 ?k3 ?k4 ?k5 ?kA ?kF ?kK ?k6 ?k7 ?k8 ?k9 ?kB ?_ ?c2 ?c3 ?c4 ?c5; (case kA => exact rfl); (case kF => exact rfl); (case kK => first | assumption | exact rfl); (case k1 => k_asm); (case k2 => k_asm); (case k3 => k_asm); (case k4 => k_asm); (case k5 => k_asm); (case k6 => k_is); (case k7 => k_is); (case k8 => ktr_room); (case k9 => first | exact BindsTo.of_eq rfl | exact binds_K (by k_in) rfl (by k_is) rfl rfl rfl); (case c5 => decide); (case kB => exact locs rfl); (case c2 => exact rfl); (case c3 => exact rfl); (case c4 => exact rfl); k_whole; intro zzg zzL zzh zzFG zzF zzN zzB zzX zzT zzD; (try dsimp only); (try k_fold))
    | (refine' code_def ?k1 ?k2 ?k3 ?k4 ?k5 ?kA ?kF ?kK ?k6 ?k7 ?k8 ?k9 ?kB ?_ ?c2 ?c3 ?c4 ?c5; (case kA => exact rfl); (case kF => exact rfl); (case kK => first | assumption | exact rfl); (case k1 => k_asm); (case k2 => k_asm); (case k3 => k_asm); (case k4 => k_asm); (case k5 => k_asm); (case k6 => k_is); (case k7 => k_is); (case k8 => ktr_room); (case k9 => first | exact BindsTo.of_eq rfl | exact binds_K (by k_in) rfl (by k_is) rfl rfl rfl); (case c5 => decide); (case kB => exact locs rfl); (case c2 => exact rfl); (case c3 => exact rfl); (case c4 => exact rfl); k_whole; intro zzg zzL zzh zzFG zzF zzN zzB zzX zzT; (try dsimp only); (try k_fold))
    | (refine' code_defC ?k1 ?k2 ?k3 ?k4 ?k5 ?kA ?kF ?kK ?k6 ?k7 ?k8 ?k9 ?kB ?kD ?_ ?c2 ?c3 ?c4; (case kA => exact rfl); (case kF => exact rfl); (case kK => first | assumption | exact rfl); (case k1 => k_asm); (case k2 => k_asm); (case k3 => k_asm); (case k4 => k_asm); (case k5 => k_asm); (case k6 => k_is); (case k7 => k_is); (case k8 => ktr_room); (case k9 => first | exact BindsTo.of_eq rfl | exact binds_K (by k_in) rfl (by k_is) rfl rfl rfl); (case kB => exact rfl); (case kD => decide +kernel); (case c2 => exact rfl); (case c3 => exact rfl); (case c4 => exact rfl); k_whole; intro zzg zzL zzh zztk zzcells zzFG zzF zzN zzY zzB zzX zzT zzl1; k_cells zzY; (try simp only [List.cons_append, List.nil_append] at zzN); (try dsimp only); (try k_fold))
    | (refine' kp_more ?k1 ?k2 ?k3 ?k4 ?k5 ?kA ?kF ?kK ?k6 ?k7 ?k8 ?kX ?kM ?kN ?kD ?kR ?kP ?kT ?kB ?_ ?c2 ?c3 ?c4 ?c5; (case kA => exact rfl); (case kF => exact rfl); (case kK => first | assumption | exact rfl); (case k1 => k_asm); (case k2 => k_asm); (case k3 => k_asm); (case k4 => k_asm); (case k5 => k_asm); (case k6 => k_is); (case k7 => k_is); (case k8 => ktr_room); (case kX => kp_lit); (case kM => exact rfl); (case kN => exact rfl); (case kD => kp_flats); (case kR => exact rfl); (case kP => exact rfl); (case kT => exact fun _ => rfl); (case kB => exact fun _ => locs rfl); (case c5 => decide); (case c2 => exact rfl); (case c3 => exact rfl); (case c4 => exact rfl); k_whole; intro zzD zzo zzg zzL zzh zztk zzl1 zzlo zzhs zzfs zzFG zzF zzN zzB zzX zzT; (try dsimp only); (try k_fold)))
  k_with "TPost" => ((first | refine TPost.ret ?_ | refine TPost.brk ?_; (try dsimp only)))
  k_with "own k_all" => (first | assumption | (refine all_lt (by assumption) ?_; (try dsimp only); omega) | (exact fun p hp => Ne.symm (‹∀ p ∈ _, _ ≠ p.1› p hp)))
  k_with "own k_mem" => (first | exact List.Mem.head _ | ktr_member | (refine' mem_tail ?_; k_mem))
  k_with "leaving ref" => ((k_here; first | (refine' leave_onX ?k1 ?k2 ?k3 ?k4 ?_ ?k5; (case k5 => rfl); (case k1 => assumption); (case k3 => assumption); (case k4 => assumption); (case k2 => assumption); k_whole; intro zzh zzR zzU) | (refine' leave_raiseS ?k1 (Heap.MadeExc.of (by assumption)) ?k2 ?k3 ?_; (case k2 => assumption); (case k1 => assumption); (case k3 => k_asm); k_whole; intro zzh zzt zzS zzR zzU; (try dsimp only at zzS zzR zzU ⊢))))
  k_with "call ref" => (((with_reducible show PySem.wpAny _ _ (PySem.call (PySem.Value.ref 304) _ _) _ _ _); k_dflt (refine' call_cls ?k1 ?k2 ?k3 ?k4 ?k5 ?k6 ?_; (case k1 => k_asm); (case k2 => k_asm); (case k3 => k_asm); (case k4 => k_is); (case k5 => k_is); (case k6 => k_is); k_whole; intro x' d' zzh zzF zzN zzl1 l2; (try k_lt zzl1); (try k_lt2 l2); ktr_enter)))
  trivial
set_option maxHeartbeats 8000000 in
theorem seg10 {w : World} {rest : List Stmt} {mean : ExcName → Option Value} {mg mb : Str → Option Value} {dp un : Nat} {gd : Option (List Code)} {L fa : Addr} {cdv : Value} {A₀ : Around} {h₀ : Heap} {m : Str → Option Value} {s : Shared} {Q : Flow → Shared → Prop} {E : Value → Shared → Prop} (S : Std w mean mg mb dp un A₀ h₀) {news : Led}
    (nm ahd cst : Int) (ta ts tn tl tc : Tok) (x0 bl B' : Addr) (co : Obj) 
    (F : Fr h₀ L s.heap m) (hm : locsOk m [(Str.ofString "table", .ref x0), (Str.ofString "book", .ref bl), (Str.ofString "ahead", .int ahd ta), (Str.ofString "sign", .str (sgn nm) ts), (Str.ofString "kept", .ref B'), (Str.ofString "last", .str (sgn ahd) tl), (Str.ofString "cost", .int cst tc)]) (N : News h₀ L s.heap ((L + 1, co) :: news)) (hco : co.data = .cell (some (.int nm tn)))
    (hcost : (if sgn nm = sgn ahd then 0 else if Txt.lower (sgn nm) = Txt.lower (sgn ahd) then 1 else 2 : Int) = cst) (heq : (sgn nm == sgn ahd) = decide (cst = 0)) (hlt : decide ((sgn nm).cps.toList < (sgn ahd).cps.toList) = decide (nm < ahd)) (hl1 : (sgn nm).length ≤ 2) (hl2 : (sgn ahd).length ≤ 2)
    (h : ∀ h' tk' m' t1, Fr h₀ L h' m' → locsOk m' [(Str.ofString "table", .ref x0), (Str.ofString "book", .ref B'), (Str.ofString "ahead", .int nm t1)] → News h₀ L h' ((L + 1, co) :: news) → LGo w dp un gd L fa cdv rest Q E { s with heap := h', toks := tk' }) :
    LGo w dp un gd L fa cdv (lawS 17 :: lawS 18 :: lawS 19 :: lawS 20 :: rest) Q E s := by
  obtain ⟨B, X, T, hd, hu⟩ := S
  replace F := fr_ovr _ F hm
  obtain ⟨K0, hK0⟩ : ∃ K0, K0 = LGo w dp un gd L fa cdv rest Q E := ⟨_, rfl⟩
  rw [← hK0] at h
  simp only [LGo, lawTop, lawEnv, cells_law] at *
  conv in lawS 17 => whnf
  conv in lawS 18 => whnf
  conv in lawS 19 => whnf
  conv in lawS 20 => whnf
  conv in (occs := *) lawScope => all_goals (whnf; zeta)
  have hret := h
  clear h
  k_steps
  refine use_x (cost_c w _ _ _ _ _ hl1 hl2) (by k_asm) (by k_asm) (by k_asm) (by k_asm) (by k_asm) (by rfl) (by ktr_room) (by ktr_units) ?_ trivial
  intro t
  (try dsimp only)
  intro h' tk' F' N'
  rw [hcost]
  k_steps
  · exfalso; rename cst ≠ cst => e; exact e rfl
  refine cmp_ofEq ?_
  refine' cmp_K ?k1 ?k2 ?k3 ?k4 ?k5 ?k6 ?k7 ?k8 ?_; (case k1 => ktr_units); (case k2 => k_asm); (case k3 => k_asm); (case k4 => k_inst); (case k5 => k_typeOf); (case k6 => k_is); (case k7 => k_is); (case k8 => k_is)
  rename News h₀ L _ _ => lN
  refine use_x (qeq_c w _ (sgn nm) (sgn ahd) _ _ _ _ _ _ _ _ (by k_mem) (by k_mem) (by k_mem) (by k_mem)) (by k_asm) (by k_asm) (by k_asm) lN (by k_asm) (by rfl) (by ktr_room) (by ktr_units) ?_ trivial
  (try dsimp only [CmpBack])
  intro h' tk' F' N'
  (try dsimp only at F' N')
  rw [heq]
  show wpAny _ _ _ _ _ _
  k_steps
  · exfalso; rename (decide (cst = 0) != (cst == 0)) = true => e; rw [show (cst == 0) = decide (cst = 0) from rfl] at e; simp at e
  refine cmp_ofLt ?_
  refine' cmp_K ?k1 ?k2 ?k3 ?k4 ?k5 ?k6 ?k7 ?k8 ?_; (case k1 => ktr_units); (case k2 => k_asm); (case k3 => k_asm); (case k4 => k_inst); (case k5 => k_typeOf); (case k6 => k_is); (case k7 => k_is); (case k8 => k_is)
  rename News h₀ L _ _ => lN2
  refine use_x (qlt_c w _ (sgn nm) (sgn ahd) _ _ _ _ _ _ _ _ (by k_mem) (by k_mem) (by k_mem) (by k_mem)) (by k_asm) (by k_asm) (by k_asm) lN2 (by k_asm) (by rfl) (by ktr_room) (by ktr_units) ?_ trivial
  (try dsimp only [CmpBack])
  intro h' tk' F' N'
  (try dsimp only at F' N')
  rw [hlt]
  show wpAny _ _ _ _ _ _
  k_steps
  · exfalso; rename (decide (nm < ahd) != decide (nm < ahd)) = true => e; simp at e
  subst hK0
  refine hret _ _ _ _ (by assumption) (by repeat (first | exact List.forall_mem_nil _ | refine List.forall_mem_cons.mpr ⟨rfl, ?_⟩)) (news_sub (by assumption) ?_)
  intro p hp; repeat (first | exact hp | refine List.Mem.tail _ ?_)
end
end Mine
end
section
-- part PL
open PySem PySem.W PyProof.Rows
namespace Mine
/-! the plain law: numbers against texts -/
theorem reg72 : True := by
  w_top off
  k_with_none
  trivial
def In4 (n : Int) : Prop := 0 ≤ n ∧ n < 4096
def lowN (n : Int) : Int := if 64 ≤ n ∧ n < 1728 then n + 2048 else n
theorem all4 {p : Int → Bool} (h : (List.range 4096).all (fun k => p (k : Int)) = true) {n : Int} (hn : In4 n) : p n = true := by
  have := List.all_eq_true.mp h n.toNat (List.mem_range.mpr (by unfold In4 at hn; omega))
  rwa [Int.toNat_of_nonneg hn.1] at this
theorem lowN_in {n : Int} (h : In4 n) : In4 (lowN n) := by
  unfold In4 at *; unfold lowN; split <;> omega
theorem sgn_cps (n : Int) : (sgn n).cps.toList = if n < 64 then [n.toNat] else [64 + (n / 64).toNat, (n % 64).toNat] := by
  unfold sgn; split <;> rfl
theorem sgn_ascii {n : Int} (h : In4 n) : ∀ c ∈ (sgn n).cps.toList, c < 128 := by
  have := all4 (p := fun n => (sgn n).cps.toList.all fun c => decide (c < 128)) (by decide +kernel) h
  exact fun c hc => of_decide_eq_true (List.all_eq_true.mp this c hc)
theorem low_sgn {n : Int} (h : In4 n) : Txt.lower (sgn n) = sgn (lowN n) := by
  rw [lower_ascii (sgn_ascii h)]
  apply str_ext
  show ((sgn n).cps.map lo1).toList = _
  rw [Array.toList_map]
  exact of_decide_eq_true (all4 (p := fun n => decide ((sgn n).cps.toList.map lo1 = (sgn (lowN n)).cps.toList)) (by decide +kernel) h)
def unC : List Nat → Int
  | [a] => a
  | [a, b] => 64 * ((a : Int) - 64) + b
  | _ => 0
theorem unC_sgn {n : Int} (h : In4 n) : unC (sgn n).cps.toList = n := of_decide_eq_true (all4 (p := fun n => decide (unC (sgn n).cps.toList = n)) (by decide +kernel) h)
theorem sgn_inj {n m : Int} (hn : In4 n) (hm : In4 m) (h : sgn n = sgn m) : n = m := by
  rw [← unC_sgn hn, h, unC_sgn hm]
theorem low_one {n m : Int} (hn : In4 n) (hm : In4 m) : (Txt.lower (sgn n) == Txt.lower (sgn m)) = lawOne n m := by
  rw [low_sgn hn, low_sgn hm, Bool.eq_iff_iff, beq_iff_eq]
  have : sgn (lowN n) = sgn (lowN m) ↔ lowN n = lowN m := ⟨sgn_inj (lowN_in hn) (lowN_in hm), fun h => by rw [h]⟩
  rw [this]
  unfold In4 at *
  unfold lowN
  simp only [lawOne, Bool.or_eq_true, Bool.and_eq_true, decide_eq_true_eq]
  split <;> split <;> omega
theorem sgn_beq {n m : Int} (hn : In4 n) (hm : In4 m) : (sgn n == sgn m) = decide (n = m) := by
  rw [Bool.eq_iff_iff, beq_iff_eq, decide_eq_true_eq]
  exact ⟨sgn_inj hn hm, fun h => by rw [h]⟩
theorem asc_sgn {n : Int} (h : In4 n) : Asc (sgn n) := by
  have hs : (sgn n).cps.size = 1 ∨ (sgn n).cps.size = 2 := by
    unfold sgn; split
    · exact .inl rfl
    · exact .inr rfl
  refine ⟨by omega, fun i hi => ?_, by omega⟩
  have : (sgn n).cps.getD i 0 ∈ (sgn n).cps.toList := by
    rw [Array.getD_eq_getD_getElem?, Array.getElem?_eq_getElem hi]
    exact Array.getElem_mem_toList hi
  exact sgn_ascii h _ this
theorem any_list (x : Str) (f : Nat → Bool) : x.cps.any f = x.cps.toList.any f := by rw [Array.any_toList]
theorem bad_sgn {n : Int} (h : In4 n) : (sgn n).cps.any badN = badName n := by
  rw [any_list]
  exact of_decide_eq_true (all4 (p := fun n => decide ((sgn n).cps.toList.any badN = badName n)) (by decide +kernel) h)
theorem badv_sgn {n : Int} (h : In4 n) : (sgn n).cps.any badV = badValue n := by
  rw [any_list]
  exact of_decide_eq_true (all4 (p := fun n => decide ((sgn n).cps.toList.any badV = badValue n)) (by decide +kernel) h)
theorem bad_low {n : Int} (h : In4 n) : badName (lowN n) = badName n :=
  of_decide_eq_true (all4 (p := fun n => decide (badName (lowN n) = badName n)) (by decide +kernel) h)
theorem bad_lower {n : Int} (h : In4 n) : (Txt.lower (sgn n)).cps.any badN = badName n := by
  rw [low_sgn h, bad_sgn (lowN_in h), bad_low h]
theorem asc_low {n : Int} (h : In4 n) : Asc (Txt.lower (sgn n)) := by rw [low_sgn h]; exact asc_sgn (lowN_in h)
theorem sgn_lt {n m : Int} (hn : In4 n) (hm : In4 m) : decide ((sgn n).cps.toList < (sgn m).cps.toList) = decide (n < m) := by
  rw [Bool.eq_iff_iff, decide_eq_true_eq, decide_eq_true_eq, sgn_cps, sgn_cps]
  unfold In4 at *
  split <;> split <;> simp [List.cons_lt_cons_iff] <;> omega
theorem cost_sgn {n m : Int} (hn : In4 n) (hm : In4 m) : (if sgn n = sgn m then 0 else if Txt.lower (sgn n) = Txt.lower (sgn m) then 1 else 2 : Int) = costF n m := by
  unfold costF
  have h1 : sgn n = sgn m ↔ n = m := ⟨sgn_inj hn hm, fun h => by rw [h]⟩
  have h2 := low_one hn hm
  by_cases e : n = m
  · rw [if_pos (h1.mpr e), if_pos e]
  · rw [if_neg (fun h => e (h1.mp h)), if_neg e, ← h2]
    simp only [beq_iff_eq]
theorem cost_zero {n m : Int} : (costF n m = 0) ↔ n = m := by
  unfold costF
  split
  · simp [*]
  · split <;> simp [*]
end Mine
end
section
-- part PM
open PySem PySem.W PyProof.Rows
namespace Mine
theorem reg73 : True := by
  w_top off
  k_with_none
  trivial
/-- a book whose numbers are in bounds -/
def Good (bs : Bk) : Prop := ∀ p ∈ bs, In4 p.1 ∧ ∀ v, p.2 = some v → In4 v
def lineP (p : Int × Option Int) : Str × Str := (sgn p.1, optT p.2)
theorem filt_low {nm : Int} (hn : In4 nm) : ∀ {bs : Bk}, Good bs → (bs.map lineP).filter (fun q => !(Txt.lower q.1 == Txt.lower (sgn nm))) = (bs.filter fun p => !lawOne p.1 nm).map lineP
  | [], _ => rfl
  | p :: r, h => by
    have ih := filt_low hn (bs := r) fun q hq => h q (.tail _ hq)
    have e : (Txt.lower (lineP p).1 == Txt.lower (sgn nm)) = lawOne p.1 nm := low_one (h p (.head _)).1 hn
    rw [List.map_cons, List.filter_cons, List.filter_cons, e, ih]
    split <;> rfl
theorem filt_one {nm : Int} (hn : In4 nm) : ∀ {bs : Bk}, Good bs → (bs.map lineP).filter (fun q => Txt.lower q.1 == Txt.lower (sgn nm)) = (bs.filter fun p => lawOne p.1 nm).map lineP
  | [], _ => rfl
  | p :: r, h => by
    have ih := filt_one hn (bs := r) fun q hq => h q (.tail _ hq)
    have e : (Txt.lower (lineP p).1 == Txt.lower (sgn nm)) = lawOne p.1 nm := low_one (h p (.head _)).1 hn
    rw [List.map_cons, List.filter_cons, List.filter_cons, e, ih]
    split <;> rfl
theorem find_one {nm : Int} (hn : In4 nm) {bs : Bk} (h : Good bs) : (bs.map lineP).find? (fun q => Txt.lower q.1 == Txt.lower (sgn nm)) = (bs.filter fun p => lawOne p.1 nm).head?.map lineP := by
  rw [← List.head?_filter, filt_one hn h, List.head?_map]
/-- the deed on the table is the deed on the book -/
theorem deed_kept {bs : Bk} {kind : Nat} {nm vl : Int} (hb : Good bs) (hn : In4 nm) (hv : In4 vl) (hk : kind ≤ 4) :
    deed kind (sgn nm) (sgn vl) (bs.map lineP) = ((keptF bs kind nm vl).1.map lineP, (keptF bs kind nm vl).2) := by
  unfold deed keptF
  simp only [bad_sgn hn, badv_sgn hv, filt_low hn hb, find_one hn hb]
  cases h1 : badName nm
  case true => rfl
  case false =>
    cases h2 : badValue vl <;>
    (obtain rfl | rfl | rfl | rfl | rfl : kind = 0 ∨ kind = 1 ∨ kind = 2 ∨ kind = 3 ∨ kind = 4 := by omega) <;>
    (try (cases h3 : bs.filter fun p => lawOne p.1 nm)) <;>
    simp [lineP, optT]
    all_goals (split <;> simp_all)

theorem looked_kept {ks : Bk} {nm : Int} (hb : Good ks) (hn : In4 nm) :
    lookedD (sgn nm) (ks.map lineP) = .list [.tuple [.str (firstF ks nm), .str (firstF ks nm)], .list ((mineF ks nm).map Dat.str)] := by
  unfold lookedD firstF mineF
  rw [find_one hn hb, filt_one hn hb]
  cases h : ks.filter fun p => lawOne p.1 nm with
  | nil => rfl
  | cons p r =>
    simp only [List.head?_cons, Option.map_some, List.map_cons, List.headD_cons, List.map_map]
    rfl
theorem kept_good {bs : Bk} {kind : Nat} {nm vl : Int} (hb : Good bs) (hn : In4 nm) (hv : In4 vl) : Good (keptF bs kind nm vl).1 := by
  have hf : ∀ f : Int × Option Int → Bool, Good (bs.filter f) := fun f p hp => hb p (List.mem_filter.mp hp).1
  have ha : ∀ {cs : Bk} {y : Option Int}, Good cs → (∀ v, y = some v → In4 v) → Good (cs ++ [(nm, y)]) := fun {cs y} hc hy p hp => by
    rcases List.mem_append.mp hp with hp | hp
    · exact hc p hp
    · rw [List.mem_singleton.mp hp]; exact ⟨hn, hy⟩
  have hs : ∀ v, some vl = some v → In4 v := fun v e => by cases e; exact hv
  have h0 : ∀ v, (none : Option Int) = some v → In4 v := fun v e => by cases e
  unfold keptF
  dsimp only
  split
  · exact hb
  split
  · exact hf _
  split
  · exact hb
  split
  · exact ha hb h0
  split
  · split
    · exact hf _
    · exact hb
  split
  · exact ha (hf _) hs
  · exact ha hb hs
theorem kept_len {bs : Bk} {kind : Nat} {nm vl : Int} : (keptF bs kind nm vl).1.length ≤ bs.length + 1 := by
  have hf : ∀ f : Int × Option Int → Bool, (bs.filter f).length ≤ bs.length := fun f => List.length_filter_le f bs
  unfold keptF
  dsimp only
  split
  · simp
  split
  · have := hf (fun p => !lawOne p.1 nm); dsimp only; omega
  split
  · simp
  split
  · simp
  split
  · split
    · have := hf (fun p => !lawOne p.1 nm); dsimp only; omega
    · simp
  split
  · have := hf (fun p => !lawOne p.1 nm); simp; omega
  · simp
theorem kept_tells {bs : Bk} {kind : Nat} {nm vl : Int} : (keptF bs kind nm vl).2 = .none ∨ (keptF bs kind nm vl).2 = .bool false ∨ ∃ s, (keptF bs kind nm vl).2 = .str s := by
  unfold keptF
  dsimp only
  split
  · simp
  split
  · simp
  split
  · split <;> simp
  split
  · simp
  split
  · simp
  split
  · simp
  · split <;> simp
/-! the table's text -/
def sgnC (n : Int) : List Nat := (sgn n).cps.toList
def optC (v : Option Int) : List Nat := (optT v).cps.toList
def lineC (p : Int × Option Int) : List Nat := sgnC p.1 ++ [58, 32] ++ optC p.2 ++ [13, 10]
theorem app_cps (x y : Str) : (x ++ y).cps.toList = x.cps.toList ++ y.cps.toList := by
  show (x.cps ++ y.cps).toList = _
  simp
theorem join_cps (sep : Str) : ∀ (l : List Str), (Str.join sep (l ++ [Str.ofString "", Str.ofString ""])).cps.toList = (l.flatMap fun x => x.cps.toList ++ sep.cps.toList) ++ sep.cps.toList
  | [] => by
    show (Str.ofString "" ++ sep ++ Str.ofString "").cps.toList = _
    rw [app_cps, app_cps]
    show [] ++ sep.cps.toList ++ [] = _
    simp
  | x :: r => by
    have ih := join_cps sep r
    obtain ⟨y, t, e⟩ : ∃ y t, r ++ [Str.ofString "", Str.ofString ""] = y :: t := by cases r <;> exact ⟨_, _, rfl⟩
    rw [List.cons_append, e]
    rw [e] at ih
    show (x ++ sep ++ Str.join sep (y :: t)).cps.toList = _
    rw [app_cps, app_cps, ih, List.flatMap_cons]
    simp only [List.append_assoc]
theorem tab_cps (bs : Bk) : (tabText (bs.map lineP)).cps.toList = bs.flatMap lineC ++ [13, 10] := by
  unfold tabText
  rw [beq_iff_eq.mp (join_plain_closes _ _), join_cps]
  congr 1
  rw [List.flatMap_map, List.flatMap_map]
  congr 1
  funext p
  show (hdLine (lineP p)).cps.toList ++ [13, 10] = _
  unfold hdLine lineP
  rw [app_cps, app_cps]
  rfl
theorem optC_lt {v : Option Int} (h : ∀ n, v = some n → In4 n) : ∀ c ∈ optC v, c < 128 := by
  cases v with
  | none => intro c hc; cases hc
  | some n => exact sgn_ascii (h n rfl)
theorem lineC_lt {p : Int × Option Int} (h : In4 p.1 ∧ ∀ v, p.2 = some v → In4 v) : ∀ c ∈ lineC p, c < 128 := by
  intro c hc
  simp only [lineC, List.mem_append, List.mem_cons, List.not_mem_nil, or_false] at hc
  rcases hc with ((hc | hc) | hc) | hc
  · exact sgn_ascii h.1 c hc
  · omega
  · exact optC_lt h.2 c hc
  · omega
theorem sgnC_len (n : Int) : (sgnC n).length ≤ 2 := sgn_len n
theorem optC_len (v : Option Int) : (optC v).length ≤ 2 := by
  cases v with
  | none => exact Nat.zero_le _
  | some n => exact sgn_len n
theorem lineC_len (p : Int × Option Int) : (lineC p).length ≤ 8 := by
  have h1 := sgnC_len p.1
  have h2 := optC_len p.2
  simp only [lineC, List.length_append, List.length_cons, List.length_nil]
  omega
theorem lines_len : ∀ bs : Bk, (bs.flatMap lineC).length ≤ 8 * bs.length
  | [] => by simp
  | p :: r => by
    have := lines_len r
    have := lineC_len p
    rw [List.flatMap_cons, List.length_append, List.length_cons]
    omega
theorem tab_len (bs : Bk) : (tabText (bs.map lineP)).cps.size = (bs.flatMap lineC).length + 2 := by
  rw [← Array.length_toList, tab_cps, List.length_append]
  rfl
theorem tab_lt {bs : Bk} (h : Good bs) : ∀ c ∈ (tabText (bs.map lineP)).cps, c < 256 := by
  intro c hc
  have hc : c ∈ (tabText (bs.map lineP)).cps.toList := by simpa using hc
  rw [tab_cps] at hc
  rcases List.mem_append.mp hc with hc | hc
  · obtain ⟨p, hp, hc⟩ := List.mem_flatMap.mp hc
    have := lineC_lt (h p hp) c hc
    omega
  · simp only [List.mem_cons, List.not_mem_nil, or_false] at hc
    omega
/-! what _parse_varint reads -/
theorem enc_sgn {n : Int} (h : In4 n) : enc n.toNat = (sgnC n).map fun (c : Nat) => (c : Int) :=
  of_decide_eq_true (all4 (p := fun n => decide (enc n.toNat = (sgnC n).map fun (c : Nat) => (c : Int))) (by decide +kernel) h)
theorem enc_line {p : Int × Option Int} (h : In4 p.1 ∧ ∀ v, p.2 = some v → In4 v) : ((lineF p).map Int.toNat).flatMap enc = (lineC p).map fun (c : Nat) => (c : Int) := by
  obtain ⟨n, v⟩ := p
  have h1 := enc_sgn h.1
  cases v with
  | none =>
    show enc n.toNat ++ (enc 58 ++ (enc 32 ++ (enc 13 ++ (enc 10 ++ [])))) = _
    rw [h1]
    simp only [lineC, List.map_append]
    rw [show optC none = [] from rfl]
    rw [List.append_assoc, List.append_assoc]
    rfl
  | some v =>
    have h2 := enc_sgn (h.2 v rfl)
    show enc n.toNat ++ (enc 58 ++ (enc 32 ++ (enc v.toNat ++ (enc 13 ++ (enc 10 ++ []))))) = _
    rw [h1, h2]
    simp only [lineC, List.map_append]
    rw [show optC (some v) = sgnC v from rfl, List.append_assoc, List.append_assoc]
    rfl
def readN (ks : Bk) : List Nat := (ks.flatMap lineF ++ [13, 10]).map Int.toNat
theorem enc_lines : ∀ {ks : Bk}, Good ks → ((ks.flatMap lineF).map Int.toNat).flatMap enc = (ks.flatMap lineC).map fun (c : Nat) => (c : Int)
  | [], _ => rfl
  | p :: r, h => by
    have ih := enc_lines (ks := r) fun q hq => h q (.tail _ hq)
    rw [List.flatMap_cons, List.map_append, List.flatMap_append, enc_line (h p (.head _)), ih, List.flatMap_cons, List.map_append]
theorem toBytes_list {x : Str} (h : ∀ c ∈ x.cps, c < 256) : (toBytes x).toList.map (fun c => (c.toNat : Int)) = x.cps.toList.map fun (c : Nat) => (c : Int) := by
  unfold toBytes
  rw [Array.toList_map, List.map_map]
  refine List.map_congr_left fun c hc => ?_
  have := h c (by simpa using hc)
  show ((c.toUInt8.toNat : Nat) : Int) = c
  rw [show c.toUInt8.toNat = c % 256 from rfl, Nat.mod_eq_of_lt this]
theorem read_bytes {ks : Bk} (h : Good ks) : (toBytes (tabText (ks.map lineP))).toList.map (fun c => (c.toNat : Int)) = (readN ks).flatMap enc := by
  rw [toBytes_list (tab_lt h), tab_cps, List.map_append]
  unfold readN
  rw [List.map_append, List.flatMap_append, enc_lines h]
  rfl
theorem lineF_in {p : Int × Option Int} (h : In4 p.1 ∧ ∀ v, p.2 = some v → In4 v) : ∀ n ∈ lineF p, In4 n := by
  obtain ⟨n, v⟩ := p
  have h1 := h.1
  cases v with
  | none =>
    intro c hc
    simp only [lineF, List.mem_cons, List.not_mem_nil, or_false] at hc
    unfold In4 at *
    rcases hc with rfl | rfl | rfl | rfl | rfl <;> first | exact h1 | decide
  | some v =>
    have h2 := h.2 v rfl
    intro c hc
    simp only [lineF, List.mem_cons, List.not_mem_nil, or_false] at hc
    unfold In4 at *
    rcases hc with rfl | rfl | rfl | rfl | rfl | rfl <;> first | exact h1 | exact h2 | decide
theorem flat_in {ks : Bk} (h : Good ks) : ∀ n ∈ ks.flatMap lineF ++ [13, 10], In4 n := by
  intro n hn
  rcases List.mem_append.mp hn with hn | hn
  · obtain ⟨p, hp, hn⟩ := List.mem_flatMap.mp hn
    exact lineF_in (h p hp) n hn
  · simp only [List.mem_cons, List.not_mem_nil, or_false] at hn
    unfold In4
    omega
theorem readN_lt {ks : Bk} (h : Good ks) : ∀ n ∈ readN ks, n < 4096 := by
  intro n hn
  obtain ⟨z, hz, rfl⟩ := List.mem_map.mp hn
  have := flat_in h z hz
  unfold In4 at this
  omega
theorem readN_back {ks : Bk} (h : Good ks) : (readN ks).map (fun (n : Nat) => (n : Int)) = ks.flatMap lineF ++ [13, 10] := by
  unfold readN
  rw [List.map_map]
  refine (List.map_congr_left fun n hn => ?_).trans (List.map_id _)
  have := flat_in h n hn
  unfold In4 at this
  exact Int.toNat_of_nonneg this.1
theorem readN_len (ks : Bk) : (readN ks).length ≤ 6 * ks.length + 2 := by
  have := flat_len ks
  unfold readN
  rw [List.length_map, List.length_append]
  exact Nat.add_le_add_right this 2
/-! how far a deed moves the text -/
theorem filt_at {f : Int × Option Int → Bool} {p : Int × Option Int} : ∀ {bs : Bk}, bs.filter f = [p] → ∃ u v, bs = u ++ p :: v ∧ bs.filter (fun q => !f q) = u ++ v
  | [], h => by cases h
  | q :: r, h => by
    rw [List.filter_cons] at h
    by_cases hq : f q = true
    · rw [if_pos hq] at h
      have h1 := (List.cons.inj h).1
      have h2 := (List.cons.inj h).2
      subst h1
      refine ⟨[], r, rfl, ?_⟩
      rw [List.filter_cons, hq]
      simp only [Bool.not_true, Bool.false_eq_true, if_false, List.nil_append]
      rw [List.filter_eq_self]
      intro a ha
      have := List.filter_eq_nil_iff.mp h2 a ha
      simpa using this
    · rw [if_neg hq] at h
      obtain ⟨u, v, e1, e2⟩ := filt_at h
      refine ⟨q :: u, v, by rw [e1]; rfl, ?_⟩
      rw [List.filter_cons, show (!f q) = true by simpa using hq, if_pos rfl, e2]
      rfl
theorem lineLen_eq (p : Int × Option Int) : lineLen p = ((lineC p).length : Int) := by
  obtain ⟨n, v⟩ := p
  cases v with
  | none =>
    simp only [lineLen, lineC, List.length_append]
    show ((sgn n).length : Int) + 0 + 4 = _
    show _ = (((sgn n).length + 2 + 0 + 2 : Nat) : Int)
    omega
  | some v =>
    simp only [lineLen, lineC, List.length_append]
    show _ = (((sgn n).length + 2 + (sgn v).length + 2 : Nat) : Int)
    omega
/-- one line more, or one less -/
def OneLine (bs ks : Bk) (mv : Int) : Prop := (ks = bs ∧ mv = 0) ∨ ∃ u p v, mv = lineLen p ∧ ((bs = u ++ v ∧ ks = u ++ p :: v) ∨ (ks = u ++ v ∧ bs = u ++ p :: v))
theorem moved_one {bs : Bk} {kind : Nat} {nm vl mv : Int} (h : movedF bs (keptF bs kind nm vl).1 nm = some mv) : OneLine bs (keptF bs kind nm vl).1 mv := by
  have hcase : (keptF bs kind nm vl).1 = bs ∨ (keptF bs kind nm vl).1 = (bs.filter fun p => !lawOne p.1 nm) ∨ (∃ y, (keptF bs kind nm vl).1 = bs ++ [y]) ∨ ∃ y, (keptF bs kind nm vl).1 = (bs.filter fun p => !lawOne p.1 nm) ++ [y] := by
    unfold keptF
    dsimp only
    split
    · exact .inl rfl
    split
    · exact .inr (.inl rfl)
    split
    · exact .inl rfl
    split
    · exact .inr (.inr (.inl ⟨_, rfl⟩))
    split
    · split
      · exact .inr (.inl rfl)
      · exact .inl rfl
    split
    · exact .inr (.inr (.inr ⟨_, rfl⟩))
    · exact .inr (.inr (.inl ⟨_, rfl⟩))
  generalize (keptF bs kind nm vl).1 = ks at h hcase
  unfold movedF at h
  by_cases h1 : ks = bs
  · rw [if_pos h1] at h
    exact .inl ⟨h1, (Option.some.inj h).symm⟩
  rw [if_neg h1] at h
  by_cases h2 : ks.take (ks.length - 1) = bs
  · rw [if_pos h2] at h
    have hd := List.take_append_drop (ks.length - 1) ks
    rw [h2] at hd
    cases hdr : ks.drop (ks.length - 1) with
    | nil => rw [hdr] at h; cases h
    | cons p r =>
      rw [hdr] at h hd
      have hr : r = [] := by
        have := congrArg List.length hdr
        rw [List.length_drop, List.length_cons] at this
        exact List.length_eq_zero_iff.mp (by omega)
      subst hr
      refine .inr ⟨bs, p, [], (Option.some.inj h).symm, .inl ⟨(List.append_nil _).symm, hd.symm⟩⟩
  rw [if_neg h2] at h
  by_cases h3 : (bs.filter fun p => lawOne p.1 nm).length ≠ 1 ∨ (ks.length : Int) ≠ (bs.length : Int) - 1
  · rw [if_pos h3] at h; cases h
  rw [if_neg h3] at h
  have h4 : (bs.filter fun p => lawOne p.1 nm).length = 1 := by omega
  have h5 : (ks.length : Int) = (bs.length : Int) - 1 := by omega
  obtain ⟨p, hp⟩ := List.length_eq_one_iff.mp h4
  rw [hp] at h
  obtain ⟨u, v, e1, e2⟩ := filt_at (f := fun p => lawOne p.1 nm) hp
  have hl := congrArg List.length e1
  have hl2 := congrArg List.length e2
  rw [List.length_append, List.length_cons] at hl
  rw [List.length_append] at hl2
  refine .inr ⟨u, p, v, (Option.some.inj h).symm, .inr ⟨?_, e1⟩⟩
  rcases hcase with hc | hc | ⟨y, hc⟩ | ⟨y, hc⟩
  · exact absurd hc h1
  · rw [hc, e2]
  · exfalso; have := congrArg List.length hc; rw [List.length_append, List.length_singleton] at this; omega
  · exfalso; have := congrArg List.length hc; rw [List.length_append, List.length_singleton, hl2] at this; omega
theorem moved_text {bs ks : Bk} {mv : Int} (h : OneLine bs ks mv) :
    (2 * (((((tabText (bs.map lineP)).length : Int) - (tabText (ks.map lineP)).length).natAbs : Nat) : Int)) = 2 * mv ∧ (tabText (bs.map lineP) ≠ tabText (ks.map lineP) → OneIn (tabText (bs.map lineP)).cps.toList (tabText (ks.map lineP)).cps.toList) := by
  rcases h with ⟨rfl, rfl⟩ | ⟨u, p, v, rfl, ⟨rfl, rfl⟩ | ⟨rfl, rfl⟩⟩
  · exact ⟨by omega, fun h => absurd rfl h⟩
  · refine ⟨?_, fun _ => ⟨u.flatMap lineC, lineC p, v.flatMap lineC ++ [13, 10], .inl ⟨?_, ?_⟩⟩⟩
    · have e1 : (tabText ((u ++ v).map lineP)).length = ((u ++ v).flatMap lineC).length + 2 := tab_len _
      have e2 : (tabText ((u ++ p :: v).map lineP)).length = ((u ++ p :: v).flatMap lineC).length + 2 := tab_len _
      rw [List.flatMap_append, List.length_append] at e1 e2
      rw [List.flatMap_cons, List.length_append] at e2
      rw [lineLen_eq]
      omega
    · rw [tab_cps, List.flatMap_append, List.append_assoc]
    · rw [tab_cps, List.flatMap_append, List.flatMap_cons, List.append_assoc, List.append_assoc]
  · refine ⟨?_, fun _ => ⟨u.flatMap lineC, lineC p, v.flatMap lineC ++ [13, 10], .inr ⟨?_, ?_⟩⟩⟩
    · have e1 : (tabText ((u ++ v).map lineP)).length = ((u ++ v).flatMap lineC).length + 2 := tab_len _
      have e2 : (tabText ((u ++ p :: v).map lineP)).length = ((u ++ p :: v).flatMap lineC).length + 2 := tab_len _
      rw [List.flatMap_append, List.length_append] at e1 e2
      rw [List.flatMap_cons, List.length_append] at e2
      rw [lineLen_eq]
      omega
    · rw [tab_cps, List.flatMap_append, List.append_assoc]
    · rw [tab_cps, List.flatMap_append, List.flatMap_cons, List.append_assoc, List.append_assoc]
end Mine
end
section
-- part TU
open PySem PySem.W PySem.Calls PySem.Spec PyProof.Rows PyProof.Rows.LCg
namespace Mine
theorem reg74 : True := by
  w_top off
  k_with_none
  trivial
def clean (a : Addr) (n : Led) : Led := n.filter fun p => !decide (@Eq Nat p.1 a)
theorem mem_clean {a : Addr} {n : Led} {p : Addr × Obj} (h : p ∈ n) (hne : p.1 ≠ a) : p ∈ clean a n := List.mem_filter.mpr ⟨h, by rw [decide_eq_false hne]; rfl⟩
theorem clean_sub {a : Addr} {n : Led} : ∀ p ∈ clean a n, p ∈ n := fun _ h => (List.mem_filter.mp h).1
theorem clean_ne {a : Addr} {n : Led} : ∀ p ∈ clean a n, p.1 ≠ a := fun p h e => by
  have := (List.mem_filter.mp h).2
  rw [decide_eq_true e] at this
  cases this
theorem news_fn {h₀ h : Heap} {L a : Addr} {n : Led} {o o' : Obj} (N : News h₀ L h n) (h1 : (a, o) ∈ n) (h2 : (a, o') ∈ n) : o = o' := Option.some.inj ((N.get h1).symm.trans (N.get h2))
/-- no tuple at this address -/
def NoTup (a : Addr) (n : Led) : Prop := ∀ p ∈ n, p.1 = a → p.2.cls = .type "tuple" → (∃ xs k, p.2.data = .seq xs k) → False
theorem noTup_cell {h₀ h : Heap} {L a : Addr} {n : Led} {o : Obj} {cv : Option Value} (N : News h₀ L h n) (h1 : (a, o) ∈ n) (ho : o.data = .cell cv) : NoTup a n := fun p hp e _ ⟨xs, k, hd⟩ => by
  obtain ⟨b, o'⟩ := p
  obtain rfl : b = a := e
  rw [news_fn N h1 hp] at ho
  rw [ho] at hd
  cases hd
theorem noTup_list {h₀ h : Heap} {L a : Addr} {n : Led} {its : Array Value} {k : Nat} (N : News h₀ L h n) (h1 : (a, W.listOf its k) ∈ n) : NoTup a n := fun p hp e hc _ => by
  obtain ⟨b, o'⟩ := p
  obtain rfl : b = a := e
  have := news_fn N h1 hp
  subst this
  have : Value.type "list" = Value.type "tuple" := hc
  injection this with this
  exact absurd this (by decide)
theorem clean_hd {a : Addr} {n : Led} (hx : NoTup a n) : ∀ {hv : List Value} {hs : List (Str × Str)}, DatAll n hv (hs.map hdD) → DatAll (clean a n) hv (hs.map hdD)
  | _, [], h => by cases h; exact .nil
  | _, q :: r, h => by
    cases h with
    | cons h1 h2 =>
      obtain ⟨ad, t, t', m, rfl, hm⟩ := hd_inv h1
      exact .cons (DatIn.tuple (vs := [.str q.1 t, .str q.2 t']) (mem_clean hm fun e => hx _ hm e rfl ⟨_, _, rfl⟩) (.cons (.str _ _) (.cons (.str _ _) .nil))) (clean_hd hx h2)
theorem clean_bk {a : Addr} {n : Led} (hx : NoTup a n) : ∀ {bv : List Value} {bs : Bk}, DatAll n bv (bs.map bkD) → DatAll (clean a n) bv (bs.map bkD)
  | _, [], h => by cases h; exact .nil
  | _, q :: r, h => by
    cases h with
    | cons h1 h2 =>
      obtain ⟨ad, t, v2, m, rfl, hm, hv2⟩ := bk_inv h1
      exact .cons (DatIn.tuple (vs := [.int q.1 t, v2]) (mem_clean hm fun e => hx _ hm e rfl ⟨_, _, rfl⟩) (.cons (.int _ _) (.cons (hv2.mono fun _ h => (List.not_mem_nil h).elim) .nil))) (clean_bk hx h2)
/-- what stands between two turns of the law's loop -/
structure TI (w : World) (L x0 dx hl : Addr) (tk : Tok) (st n : Led) (bl : Addr) (bs : Bk) : Prop where
  cell : ∃ co cv, (L + 1, co) ∈ n ∧ co.data = .cell cv
  inst : (x0, instObj 175 dx) ∈ n
  dict : (dx, hdict w tk hl) ∈ n
  tab : ∃ hv k, (hl, W.listOf hv.toArray k) ∈ n ∧ DatAll n hv ((bs.map lineP).map hdD)
  book : ∃ bv kb, (bl, W.listOf bv.toArray kb) ∈ n ∧ DatAll n bv (bs.map bkD)
  stn : ∀ p ∈ st, p ∈ n
  ne1 : @Ne Nat hl (L + 1)
  ne2 : @Ne Nat x0 (L + 1)
  ne3 : @Ne Nat dx (L + 1)
  ne4 : @Ne Nat x0 hl
  ne5 : @Ne Nat dx hl
  ne6 : @Ne Nat bl (L + 1)
  ne7 : @Ne Nat bl hl
  nst : ∀ p ∈ st, @Ne Nat p.1 (L + 1) ∧ @Ne Nat p.1 hl
  good : Good bs
theorem lawBody_eq : lawBody = [lawS 0, lawS 1, lawS 2, lawS 3, lawS 4, lawS 5, lawS 6, lawS 7, lawS 8, lawS 9, lawS 10, lawS 11, lawS 12, lawS 13, lawS 14, lawS 15, lawS 16, lawS 17, lawS 18, lawS 19, lawS 20] := rfl
theorem optT_len (v : Option Int) : (optT v).length ≤ 2 := optC_len v
theorem hs_short (bs : Bk) : ∀ p ∈ bs.map lineP, p.1.length ≤ 2 ∧ p.2.length ≤ 2 := fun p hp => by
  obtain ⟨q, _, rfl⟩ := List.mem_map.mp hp
  exact ⟨sgn_len _, optT_len _⟩
theorem good_val {bs : Bk} (h : Good bs) : ∀ p ∈ bs, ∀ v, p.2 = some v → 0 ≤ v ∧ v < 4096 := fun p hp => (h p hp).2
theorem tab_short (bs : Bk) (h : bs.length ≤ 100) : (tabText (bs.map lineP)).length ≤ 1000 := by
  have h1 : (tabText (bs.map lineP)).length = _ := tab_len bs
  have h2 := lines_len bs
  omega
theorem firstF_ok {ks : Bk} {nm : Int} (h : Good ks) : kqdOk 8 (.str (firstF ks nm)) = true := by
  have := mineF_ok nm (good_val h)
  unfold firstF
  cases hm : mineF ks nm with
  | nil => decide +kernel
  | cons y r => exact this _ (by rw [hm]; exact .head _)
/-- one turn of the law's loop -/
theorem turn_c {w : World} {mean : ExcName → Option Value} {mg mb : Str → Option Value} {dp un : Nat} {gd : Option (List Code)} {L fa : Addr} {cdv : Value} {A₀ : Around} {h₀ : Heap} {m : Str → Option Value} {s : Shared} {Q : Flow → Shared → Prop} {E : Value → Shared → Prop} (S : Std w mean mg mb dp un A₀ h₀)
    (hE : PassesOwn (model PySem.Challenge.rw_kl0503_01.row.prog w) (lawTop dp un gd L fa cdv) (lawEnv L fa cdv) E)
    (x ahd : Int) (tx ta : Tok) (x0 dx hl bl : Addr) (tk : Tok) (st n0 : Led) (bs : Bk)
    (F : Fr h₀ L s.heap m) (hm : locsOk m [(Str.ofString "x", .int x tx), (Str.ofString "table", .ref x0), (Str.ofString "book", .ref bl), (Str.ofString "ahead", .int ahd ta)]) (N : News h₀ L s.heap n0) (I : TI w L x0 dx hl tk st n0 bl bs) (hlen : bs.length ≤ 50) (hah : In4 ahd)
    (h : ∀ h' tk' m' n' bl' t1, Fr h₀ L h' m' → locsOk m' [(Str.ofString "table", .ref x0), (Str.ofString "book", .ref bl'), (Str.ofString "ahead", .int (nameF x) t1)] → News h₀ L h' n' → TI w L x0 dx hl tk st n' bl' (keptF bs (kindF x) (nameF x) (valF x)).1 → Q .next { s with heap := h', toks := tk' }) :
    LGo w dp un gd L fa cdv lawBody Q E s := by
  rw [lawBody_eq]
  obtain ⟨⟨co, cv, hc1, hc2⟩, hinst, hdic, ⟨hv, k, ht1, ht2⟩, ⟨bv, kb, hb1, hb2⟩, hst, ne1, ne2, ne3, ne4, ne5, ne6, ne7, nst, hgood⟩ := I
  have hnm : In4 (nameF x) := names_lt _ (nameF_in x)
  have hvl : In4 (valF x) := valF_lt x
  have hkg : Good (keptF bs (kindF x) (nameF x) (valF x)).1 := kept_good hgood hnm hvl
  have hkl : (keptF bs (kindF x) (nameF x) (valF x)).1.length ≤ bs.length + 1 := kept_len
  have hdk := deed_kept (kind := kindF x) hgood hnm hvl (kindF_le x)
  have hvl2 : hv.length = bs.length := by rw [ht2.length, List.length_map, List.length_map]
  have hbl2 : bv.length = bs.length := by rw [hb2.length, List.length_map]
  have c1 := noTup_cell N hc1 hc2
  have ht3 := clean_hd c1 ht2
  have hb3 := clean_bk c1 hb2
  -- statements 0 to 3
  refine seg1 S (clean (L + 1) n0) co cv x ahd tx ta x0 bl F hm (news_sub N ?_) hc2 clean_ne ?_
  · intro p hp
    rcases List.mem_cons.mp hp with rfl | hp
    · exact hc1
    · exact clean_sub p hp
  clear N F hm
  intro h1 tk1 co1 m1 t1 t2 t3 F hm N hco
  have sB : ∀ p ∈ ledB w L co1 hl x0 dx bl hv bv k kb tk (clean (L + 1) n0), p ∈ (L + 1, co1) :: clean (L + 1) n0 := by
    intro p hp
    simp only [ledB, List.mem_cons] at hp
    rcases hp with rfl | rfl | rfl | rfl | rfl | hp
    · exact .head _
    · exact .tail _ (mem_clean ht1 ne1)
    · exact .tail _ (mem_clean hinst ne2)
    · exact .tail _ (mem_clean hdic ne3)
    · exact .tail _ (mem_clean hb1 ne6)
    · exact .tail _ hp
  have tB : ∀ p ∈ clean (L + 1) n0, p ∈ ledB w L co1 hl x0 dx bl hv bv k kb tk (clean (L + 1) n0) := fun p hp => .tail _ (.tail _ (.tail _ (.tail _ (.tail _ hp))))
  refine seg2 S x (nameF x) (valF x) ahd (sgn (nameF x)) tx ta t1 t2 t3 x0 dx hl bl tk co1 hv bv k kb (bs.map lineP) bs F hm (news_sub N sB) hco (ht3.mono tB) (hs_short bs) (by omega) (hb3.mono tB) (by omega) hvl (good_val hgood) ?_
  clear N F hm
  intro h2 tk2 m2 n2 B' kv kb' r tt F hm N hsub hB hfr hk2 hr
  have hkv : kv.length = (keptF bs (kindF x) (nameF x) (valF x)).1.length := by rw [hk2.length, List.length_map]
  have hBh : @Ne Nat B' hl := by
    rcases hfr with rfl | hfr
    · exact ne7
    · exact fun e => hfr _ (.tail _ (.head _)) e.symm
  have hBc : @Ne Nat B' (L + 1) := by
    rcases hfr with rfl | hfr
    · exact ne6
    · exact fun e => hfr _ (.head _) e.symm
  have c2 := noTup_list N (hsub _ (.tail _ (.head _)))
  have ht4 := clean_hd c2 ((ht3.mono tB).mono hsub)
  have hk4 := clean_bk c2 hk2
  have sC : ∀ p ∈ (hl, W.listOf hv.toArray k) :: ledC w L co1 x0 dx hl B' kv kb' tk (clean hl n2), p ∈ n2 := by
    intro p hp
    simp only [ledC, List.mem_cons] at hp
    rcases hp with rfl | rfl | rfl | rfl | rfl | hp
    · exact hsub _ (.tail _ (.head _))
    · exact hsub _ (.head _)
    · exact hsub _ (.tail _ (.tail _ (.head _)))
    · exact hsub _ (.tail _ (.tail _ (.tail _ (.head _))))
    · exact hB
    · exact clean_sub p hp
  have aC : ∀ p ∈ ledC w L co1 x0 dx hl B' kv kb' tk (clean hl n2), p.1 ≠ hl := by
    intro p hp
    simp only [ledC, List.mem_cons] at hp
    rcases hp with rfl | rfl | rfl | rfl | hp
    · exact Ne.symm ne1
    · exact ne4
    · exact ne5
    · exact hBh
    · exact clean_ne p hp
  have tC : ∀ p ∈ clean hl n2, p ∈ ledC w L co1 x0 dx hl B' kv kb' tk (clean hl n2) := fun p hp => .tail _ (.tail _ (.tail _ (.tail _ hp)))
  refine seg3 S x (nameF x) (valF x) ahd (sgn (nameF x)) tx ta t1 t2 t3 tt x0 dx hl bl B' tk co1 hv kv k kb' (bs.map lineP) (tabText (bs.map lineP)) r (keptF bs (kindF x) (nameF x) (valF x)).2 F hm (news_sub N sC) hco aC (ht4.mono tC) (fun p hp => (hs_short bs p hp).1) (by omega) hvl (asc_sgn hnm) (asc_low hnm) (asc_sgn hvl) (sgn_len _) (sgn_len _) (by rw [bad_lower hnm, bad_sgn hnm]) hr (by rw [hdk]) kept_tells ?_
  have hst2 : ∀ p ∈ st, p ∈ clean hl n2 := fun p hp => mem_clean (hsub _ (tB _ (mem_clean (hst p hp) (nst p hp).1))) (nst p hp).2
  have hbo : (bl, W.listOf bv.toArray kb) ∈ clean hl n2 := mem_clean (hsub _ (.tail _ (.tail _ (.tail _ (.tail _ (.head _)))))) ne7
  have hbd : DatAll (clean hl n2) bv (bs.map bkD) := clean_bk c2 ((hb3.mono tB).mono hsub)
  clear N F hm
  intro h3 tk3 m3 n3 hv' k' F hm N hsub3 hne3 ht5
  rw [hdk] at ht5
  obtain ⟨ks, eks⟩ : ∃ ks, ks = (keptF bs (kindF x) (nameF x) (valF x)).1 := ⟨_, rfl⟩
  have hmov : ∀ mv, movedF bs ks (nameF x) = some mv → OneLine bs ks mv := fun mv hmv => by rw [eks] at hmv ⊢; exact moved_one hmv
  rw [← eks] at hkg hkl hk4 ht5 hkv h
  dsimp only at ht5
  clear hdk hk2 eks
  have hv2 : hv'.length = ks.length := by rw [ht5.length, List.length_map, List.length_map]
  have m1 : (L + 1, co1) ∈ n3 := hsub3 _ (.head _)
  have m2' : (x0, instObj 175 dx) ∈ n3 := hsub3 _ (.tail _ (.head _))
  have m3' : (dx, hdict w tk hl) ∈ n3 := hsub3 _ (.tail _ (.tail _ (.head _)))
  have m4 : (B', W.listOf kv.toArray kb') ∈ n3 := hsub3 _ (.tail _ (.tail _ (.tail _ (.head _))))
  have m5 : (bl, W.listOf bv.toArray kb) ∈ n3 := hsub3 _ (tC _ hbo)
  have dk := (hk4.mono tC).mono hsub3
  have db := (hbd.mono tC).mono hsub3
  have m6 : ∀ p ∈ st, p ∈ n3 := fun p hp => hsub3 _ (tC _ (hst2 p hp))
  -- the table's ledger from here on
  obtain ⟨nn, enn⟩ : ∃ nn, nn = (hl, W.listOf hv'.toArray k') :: n3 := ⟨_, rfl⟩
  have mh : (hl, W.listOf hv'.toArray k') ∈ nn := enn ▸ .head _
  have up : ∀ p ∈ n3, p ∈ nn := fun p hp => enn ▸ .tail _ hp
  rw [← enn] at N
  replace m1 := up _ m1
  replace m2' := up _ m2'
  replace m3' := up _ m3'
  replace m4 := up _ m4
  replace m5 := up _ m5
  replace dk := dk.mono up
  replace db := db.mono up
  replace ht5 := ht5.mono up
  replace m6 := fun p hp => up _ (m6 p hp)
  clear up enn hsub3 hne3
  have hm2 : locsOk m3 [(Str.ofString "x", .int x tx), (Str.ofString "table", .ref x0), (Str.ofString "book", .ref bl), (Str.ofString "ahead", .int ahd ta), (Str.ofString "sign", .str (sgn (nameF x)) t2), (Str.ofString "text", .str (tabText (bs.map lineP)) tt), (Str.ofString "kept", .ref B')] := fun p hp => hm p (by
    simp only [List.mem_cons, List.not_mem_nil, or_false] at hp ⊢
    rcases hp with h | h | h | h | h | h | h <;> simp [h])
  have sD : ∀ p ∈ ledD L co1 B' kv kb' nn, p ∈ nn := by
    intro p hp
    simp only [ledD, List.mem_cons] at hp
    rcases hp with rfl | rfl | hp
    · exact m1
    · exact m4
    · exact hp
  have tD : ∀ p ∈ nn, p ∈ ledD L co1 B' kv kb' nn := fun p hp => .tail _ (.tail _ hp)
  refine seg4 S x (nameF x) (valF x) ahd (sgn (nameF x)) tx ta t1 t2 t3 tt x0 bl B' co1 kv kb' ks (tabText (bs.map lineP)) F hm2 (news_sub N sD) hco hE (dk.mono tD) (by omega) ?_
  clear N F hm hm2
  intro h4 tk4 m4' ln lv c F hm N hlv
  have sE : ∀ p ∈ ledE w L co1 hl x0 dx ln hv' lv k' c tk nn, p ∈ (ln, W.listOf lv.toArray c) :: ledD L co1 B' kv kb' nn := by
    intro p hp
    simp only [ledE, List.mem_cons] at hp
    rcases hp with rfl | rfl | rfl | rfl | rfl | hp
    · exact .tail _ (tD _ m1)
    · exact .tail _ (tD _ mh)
    · exact .tail _ (tD _ m2')
    · exact .tail _ (tD _ m3')
    · exact .head _
    · exact .tail _ (tD _ hp)
  have tE : ∀ p ∈ nn, p ∈ ledE w L co1 hl x0 dx ln hv' lv k' c tk nn := fun p hp => .tail _ (.tail _ (.tail _ (.tail _ (.tail _ hp))))
  have hts := tab_len ks
  have hll := lines_len ks
  have hfl := flat_len ks
  have hrl := readN_len ks
  refine seg5 S x (nameF x) (valF x) ahd (sgn (nameF x)) tx ta t1 t2 t3 tt x0 dx hl bl B' ln tk co1 hv' lv k' c (ks.map lineP) (tabText (bs.map lineP)) (ks.flatMap lineF) (readN ks) F hm (news_sub N sE) hco (ht5.mono tE) (hs_short ks) (by omega) (by omega) (tab_lt hkg) (by omega) hlv (by omega) (read_bytes hkg) (readN_back hkg) (readN_lt hkg) (by omega) ?_
  clear N F hm
  intro h5 tk5 m5' F hm N
  refine seg6 S x (nameF x) (valF x) ahd (sgn (nameF x)) tx ta t1 t2 t3 tt x0 bl B' co1 kv kb' ks (tabText (bs.map lineP)) F hm (news_sub N fun p hp => tE _ (sD p hp)) hco (dk.mono tD) (by omega) (good_val hkg) ?_
  clear N F hm
  intro h6 tk6 m6' D ys cy tf F hm N hys
  have sG : ∀ p ∈ ledG w L co1 hl x0 dx D hv' ys k' cy tk nn, p ∈ (D, W.listOf ys.toArray cy) :: ledF L co1 B' kv kb' nn := by
    intro p hp
    simp only [ledG, List.mem_cons] at hp
    rcases hp with rfl | rfl | rfl | rfl | rfl | hp
    · exact .tail _ (tD _ m1)
    · exact .tail _ (tD _ mh)
    · exact .tail _ (tD _ m2')
    · exact .tail _ (tD _ m3')
    · exact .head _
    · exact .tail _ (tD _ hp)
  have tG : ∀ p ∈ nn, p ∈ ledG w L co1 hl x0 dx D hv' ys k' cy tk nn := fun p hp => .tail _ (.tail _ (.tail _ (.tail _ (.tail _ hp))))
  refine seg7 S x (nameF x) (valF x) ahd (sgn (nameF x)) (firstF ks (nameF x)) tx ta t1 t2 t3 tt tf x0 dx hl bl B' D tk co1 hv' ys k' cy (ks.map lineP) (tabText (bs.map lineP)) (mineF ks (nameF x)) F hm (news_sub N sG) hco (ht5.mono tG) (fun p hp => (hs_short ks p hp).1) (by omega) hys (mineF_ok _ (good_val hkg)) (firstF_ok hkg) (asc_low hnm) (sgn_len _) (bad_lower hnm) (fun _ => looked_kept hkg hnm) ?_
  clear N F hm
  intro h7 tk7 m7' F hm N
  have sH : ∀ p ∈ ledH w L co1 hl x0 dx bl B' hv' bv kv k' kb kb' tk nn, p ∈ nn := by
    intro p hp
    simp only [ledH, List.mem_cons] at hp
    rcases hp with rfl | rfl | rfl | rfl | rfl | rfl | hp
    · exact m1
    · exact mh
    · exact m2'
    · exact m3'
    · exact m5
    · exact m4
    · exact hp
  have tH : ∀ p ∈ nn, p ∈ ledH w L co1 hl x0 dx bl B' hv' bv kv k' kb kb' tk nn := fun p hp => .tail _ (.tail _ (.tail _ (.tail _ (.tail _ (.tail _ hp)))))
  refine seg8 S x (nameF x) (valF x) ahd (sgn (nameF x)) tx ta t1 t2 t3 tt x0 dx hl bl B' tk co1 hv' bv kv k' kb kb' (ks.map lineP) (tabText (bs.map lineP)) bs ks F hm (news_sub N fun p hp => tG _ (sH p hp)) hco (ht5.mono tH) (hs_short ks) (by omega) (db.mono tH) (by omega) (dk.mono tH) (by omega) hgood hkg (tab_short bs (by omega)) (tab_short ks (by omega)) (fun mv hmv => (moved_text (hmov mv hmv)).1) (fun mv hmv => (moved_text (hmov mv hmv)).2) ?_
  clear N F hm
  intro h8 tk8 m8' F hm N
  refine seg9 S x (nameF x) ahd tx ta t2 t3 x0 bl B' co1 F hm (news := nn) (news_sub N fun p hp => ?_) hco hah.1 hah.2 ?_
  · rcases List.mem_cons.mp hp with rfl | hp
    · exact .head _
    · exact tH _ hp
  clear N F hm
  intro h9 tk9 m9' tl tc F hm N
  refine seg10 S (nameF x) ahd (costF (nameF x) ahd) ta t2 t3 tl tc x0 bl B' co1 F hm N hco (cost_sgn hnm hah) ?_ (sgn_lt hnm hah) (sgn_len _) (sgn_len _) ?_
  · rw [sgn_beq hnm hah, Bool.eq_iff_iff, decide_eq_true_eq, decide_eq_true_eq, cost_zero]
  clear N F hm
  intro h10 tk10 m10' t10 F hm N
  refine wpAny_pure ?_
  refine h _ _ _ nn B' _ F hm (news_sub N fun p hp => .tail _ hp) ⟨⟨co1, _, m1, hco⟩, m2', m3', ⟨hv', k', mh, ht5⟩, ⟨kv, kb', m4, dk⟩, m6, ne1, ne2, ne3, ne4, ne5, hBc, hBh, nst, hkg⟩
theorem noTup_cls {h₀ h : Heap} {L a : Addr} {n : Led} {o : Obj} (N : News h₀ L h n) (h1 : (a, o) ∈ n) (ho : o.cls ≠ .type "tuple") : NoTup a n := fun p hp e hc _ => by
  obtain ⟨b, o'⟩ := p
  obtain rfl : b = a := e
  have := news_fn N h1 hp
  subst this
  exact ho hc
theorem x_local (L fa : Addr) (cdv : Value) : (lawEnv L fa cdv).kindOf (Str.ofString "x") = some .local := by kernel_rfl
/-- the law's loop -/
theorem loop_c {w : World} {mean : ExcName → Option Value} {mg mb : Str → Option Value} {dp un : Nat} {gd : Option (List Code)} {L fa : Addr} {cdv : Value} {A₀ : Around} {h₀ : Heap} {m : Str → Option Value} {s : Shared} {Q : Flow → Shared → Prop} {E : Value → Shared → Prop} {px : Pos} (S : Std w mean mg mb dp un A₀ h₀)
    (hE : PassesOwn (model PySem.Challenge.rw_kl0503_01.row.prog w) (lawTop dp un gd L fa cdv) (lawEnv L fa cdv) E)
    {D : Addr} {ws : List Value} {kD : Nat} {zs : List Int} {x0 dx hl bl : Addr} {tk : Tok} {n0 : Led} {ahd : Int} {ta : Tok}
    (hI : IntsAre ws zs) (hz : zs.length ≤ 9) (F : Fr h₀ L s.heap m) (hm : locsOk m [(Str.ofString "table", .ref x0), (Str.ofString "book", .ref bl), (Str.ofString "ahead", .int ahd ta)]) (hah : In4 ahd) (N : News h₀ L s.heap n0) (I : TI w L x0 dx hl tk [(D, W.listOf ws.toArray kD)] n0 bl [])
    (fin : ∀ h' tk' m' n', Fr h₀ L h' m' → News h₀ L h' n' → Q .next { s with heap := h', toks := tk' }) :
    wpAny (model PySem.Challenge.rw_kl0503_01.row.prog w) (lawTop dp un gd L fa cdv) (pyIter (.ref D)) (fun it s₂ => TurnsAt PySem.Challenge.rw_kl0503_01.row.prog w (lawTop dp un gd L fa cdv) h₀ (lawEnv L fa cdv) (.Name (Str.ofString "x") px) lawBody Q E it s₂) E s := by
  refine iter_listTurns rfl F N (I.stn _ (.head _)) rfl rfl (fun it hit => ?_)
  have hlen : ∀ {vs : List Value} {zs : List Int}, IntsAre vs zs → vs.length = zs.length := fun {vs zs} h => by
    induction h with
    | nil => rfl
    | cons n t _ ih => rw [List.length_cons, List.length_cons, ih]
  refine items_list (Inv := fun vs m₁ n₁ => ∃ (zs : List Int) (bs : Bk) (bl : Addr) (ahd : Int) (ta : Tok), IntsAre vs zs ∧ bs.length + vs.length ≤ 9 ∧ In4 ahd ∧ locsOk m₁ [(Str.ofString "table", .ref x0), (Str.ofString "book", .ref bl), (Str.ofString "ahead", .int ahd ta)] ∧ TI w L x0 dx hl tk [(D, W.listOf ws.toArray kD)] n₁ bl bs ∧ ∀ p ∈ n₁, @Ne Nat p.1 it) ?_ ?_ _ _ _
    ⟨zs, [], bl, ahd, ta, hI, by rw [hlen hI]; simpa using hz, hah, hm, I, fun p hp => Nat.ne_of_lt (hit p hp)⟩
  · rintro m₁ n₁ h1 tk1 _ lF lN
    exact fin _ _ _ _ lF lN
  · clear F N I hm hah hit hI
    rintro v r m₁ n₁ o h1 tk1 ⟨zs, bs, bl, ahd, ta, hI, hl9, hah, hm, hT, hnI⟩ ho lF lN
    cases hI with
    | cons z t hI =>
      refine assign_Name (storeX_L lF lN (fun h2 F N => ?_) kind_law (x_local _ _ _))
      obtain ⟨co, cv, hc1, hc2⟩ := hT.cell
      obtain ⟨hv, k, ht1, ht2⟩ := hT.tab
      obtain ⟨bv, kb, hb1, hb2⟩ := hT.book
      have ncl : o.cls ≠ .type "tuple" := fun e => by
        rw [ho] at e
        injection e with e
        exact absurd e (by decide)
      refine turn_c S hE z ahd t ta x0 dx hl bl tk [(D, W.listOf ws.toArray kD), (it, o)] ((it, o) :: n₁) bs F ?_ N ?_ (by rw [List.length_cons] at hl9; omega) hah ?_
      · intro p hp
        rcases List.mem_cons.mp hp with rfl | hp
        · rfl
        · have := hm p hp
          rw [← this]
          refine if_neg fun e => ?_
          simp only [List.mem_cons, List.not_mem_nil, or_false] at hp
          rcases hp with rfl | rfl | rfl
          · exact absurd (show Str.ofString "table" = Str.ofString "x" from e) (by decide)
          · exact absurd (show Str.ofString "book" = Str.ofString "x" from e) (by decide)
          · exact absurd (show Str.ofString "ahead" = Str.ofString "x" from e) (by decide)
      · exact ⟨⟨co, cv, .tail _ hc1, hc2⟩, .tail _ hT.inst, .tail _ hT.dict, ⟨hv, k, .tail _ ht1, ht2.mono fun _ h => .tail _ h⟩, ⟨bv, kb, .tail _ hb1, hb2.mono fun _ h => .tail _ h⟩,
          List.forall_mem_cons.mpr ⟨.tail _ (hT.stn _ (.head _)), List.forall_mem_cons.mpr ⟨.head _, List.forall_mem_nil _⟩⟩, hT.ne1, hT.ne2, hT.ne3, hT.ne4, hT.ne5, hT.ne6, hT.ne7,
          List.forall_mem_cons.mpr ⟨hT.nst _ (.head _), List.forall_mem_cons.mpr ⟨⟨Ne.symm (hnI _ hc1), Ne.symm (hnI _ ht1)⟩, List.forall_mem_nil _⟩⟩, hT.good⟩
      · intro h3 tk3 m3 n3 bl3 t3 F3 F3m N3 T3
        have mI : (it, o) ∈ n3 := T3.stn _ (.tail _ (.head _))
        have mD : (D, W.listOf ws.toArray kD) ∈ n3 := T3.stn _ (.head _)
        have nt := noTup_cls N3 mI ncl
        obtain ⟨co3, cv3, hc3, hc4⟩ := T3.cell
        obtain ⟨hv3, k3, ht3, ht4⟩ := T3.tab
        obtain ⟨bv3, kb3, hb3, hb4⟩ := T3.book
        have hbI : @Ne Nat bl3 it := fun e => by
          have hb3' := hb3
          rw [show bl3 = it from e] at hb3'
          have := news_fn N3 mI hb3'
          subst this
          have e : Value.type "list" = Value.type "list_iterator" := ho
          injection e with e
          exact absurd e (by decide)
        refine TPost.go (clean it n3) F3 N3 mI clean_sub clean_ne ⟨mem_clean mD (hnI _ (hT.stn _ (.head _))), trivial⟩ ⟨_, (keptF bs (kindF z) (nameF z) (valF z)).1, bl3, nameF z, t3, hI, ?_, names_lt _ (nameF_in z), F3m, ?_, clean_ne⟩
        · have := kept_len (bs := bs) (kind := kindF z) (nm := nameF z) (vl := valF z)
          rw [List.length_cons] at hl9
          omega
        · exact ⟨⟨co3, cv3, mem_clean hc3 (hnI (L + 1, co) hc1), hc4⟩, mem_clean T3.inst (hnI _ hT.inst), mem_clean T3.dict (hnI _ hT.dict), ⟨hv3, k3, mem_clean ht3 (hnI (hl, W.listOf hv.toArray k) ht1), clean_hd nt ht4⟩, ⟨bv3, kb3, mem_clean hb3 hbI, clean_bk nt hb4⟩,
            List.forall_mem_cons.mpr ⟨mem_clean mD (hnI _ (hT.stn _ (.head _))), List.forall_mem_nil _⟩, T3.ne1, T3.ne2, T3.ne3, T3.ne4, T3.ne5, T3.ne6, T3.ne7, List.forall_mem_cons.mpr ⟨T3.nst _ (.head _), List.forall_mem_nil _⟩, T3.good⟩
theorem ti_start {w : World} {L D D1 l b hl x0 dx : Addr} {tk : Tok} {ws : List Value} {o1 o2 co : Obj} {cv : Option Value} (h1 : @LT.lt Nat _ (L + 1) dx) (h2 : @LT.lt Nat _ dx x0) (h3 : @LT.lt Nat _ x0 hl ∧ @LT.lt Nat _ dx hl ∧ @LT.lt Nat _ (L + 1) hl) (h4 : @LT.lt Nat _ hl b ∧ @LT.lt Nat _ x0 b ∧ @LT.lt Nat _ dx b ∧ @LT.lt Nat _ (L + 1) b)
    (h5 : @LT.lt Nat _ D1 D ∧ @LT.lt Nat _ l D ∧ @LT.lt Nat _ b D ∧ @LT.lt Nat _ hl D ∧ @LT.lt Nat _ x0 D ∧ @LT.lt Nat _ dx D ∧ @LT.lt Nat _ (L + 1) D) (hco : co.data = .cell cv) :
    TI w L x0 dx hl tk [(D, W.listOf ws.toArray 0)] [(D, W.listOf ws.toArray 0), (D1, o1), (l, o2), (b, W.listOf #[] 0), (hl, W.listOf #[] 0), (x0, instObj 175 dx), (dx, hdict w tk hl), (L + 1, co)] b [] :=
  ⟨⟨co, cv, .tail _ (.tail _ (.tail _ (.tail _ (.tail _ (.tail _ (.tail _ (.head _))))))), hco⟩, .tail _ (.tail _ (.tail _ (.tail _ (.tail _ (.head _))))), .tail _ (.tail _ (.tail _ (.tail _ (.tail _ (.tail _ (.head _)))))),
    ⟨[], 0, .tail _ (.tail _ (.tail _ (.tail _ (.head _)))), .nil⟩, ⟨[], 0, .tail _ (.tail _ (.tail _ (.head _))), .nil⟩, List.forall_mem_cons.mpr ⟨.head _, List.forall_mem_nil _⟩,
    Nat.ne_of_gt h3.2.2, Nat.ne_of_gt (Nat.lt_trans h1 h2), Nat.ne_of_gt h1, Nat.ne_of_lt h3.1, Nat.ne_of_lt h3.2.1, Nat.ne_of_gt h4.2.2.2, Nat.ne_of_gt h4.1,
    List.forall_mem_cons.mpr ⟨⟨Nat.ne_of_gt h5.2.2.2.2.2.2, Nat.ne_of_gt h5.2.2.2.1⟩, List.forall_mem_nil _⟩, fun _ h => (List.not_mem_nil h).elim⟩
end Mine
end
section
-- part ZZ
open PySem PySem.W PySem.Calls PySem.Spec PyProof.Rows PyProof.Rows.LCg
namespace Mine
section
theorem reg75 : True := by
  w_top off
  k_with_none
  k_with "own k_steps" => (repeat' (first
    | (k_unfold; (try dsimp only))
    | (dsimp only; k_unfold; (try dsimp only))
    | ((fail_if_success (with_reducible show PySem.wpAny _ _ (PySem.exec (PySem.Stmt.While _ _ _ _) _) _ _ _)); (fail_if_success (with_reducible show PySem.wpAny _ _ (PySem.eval (PySem.Expr.ListComp _ _ _ _) _) _ _ _)); (fail_if_success (with_reducible show PySem.wpAny _ _ (PySem.exec (PySem.Stmt.Assign [PySem.Expr.Name _ _] (PySem.Expr.ListComp _ _ _ _) _) _) _ _ _)); (fail_if_success (with_reducible show PySem.wpAny _ _ (PySem.exec (PySem.Stmt.For (PySem.Expr.Name _ _) _ _ _ _) _) _ _ _)); (first | walk1 | (dsimp only; walk1)))))
  k_with "own ktr_enter" => (first
    | (refine' code_def ?k1 ?k2 ?k3 ?k4 ?k5 ?kA ?kF ?kK ?k6 ?k7 ?k8 ?k9 ?kB ?_ ?c2 ?c3 ?c4 ?c5; (case kA => exact rfl); (case kF => exact rfl); (case kK => first | assumption | exact rfl); (case k1 => k_asm); (case k2 => k_asm); (case k3 => k_asm); (case k4 => k_asm); (case k5 => k_asm); (case k6 => k_is); (case k7 => k_is); (case k8 => ktr_room); (case k9 => first | exact BindsTo.of_eq rfl | exact binds_K (by k_in) rfl (by k_is) rfl rfl rfl); (case c5 => decide); (case kB => exact locs rfl); (case c2 => exact rfl); (case c3 => exact rfl); (case c4 => exact rfl); k_whole; intro zzg zzL zzh zzFG zzF zzN zzB zzX zzT; (try dsimp only); (try k_fold))
    | (refine' code_defC ?k1 ?k2 ?k3 ?k4 ?k5 ?kA ?kF ?kK ?k6 ?k7 ?k8 ?k9 ?kB ?kD ?_ ?c2 ?c3 ?c4; (case kA => exact rfl); (case kF => exact rfl); (case kK => first | assumption | exact rfl); (case k1 => k_asm); (case k2 => k_asm); (case k3 => k_asm); (case k4 => k_asm); (case k5 => k_asm); (case k6 => k_is); (case k7 => k_is); (case k8 => ktr_room); (case k9 => first | exact BindsTo.of_eq rfl | exact binds_K (by k_in) rfl (by k_is) rfl rfl rfl); (case kB => exact rfl); (case kD => decide +kernel); (case c2 => exact rfl); (case c3 => exact rfl); (case c4 => exact rfl); k_whole; intro zzg zzL zzh zztk zzcells zzFG zzF zzN zzY zzB zzX zzT zzl1; k_cells zzY; (try simp only [List.cons_append, List.nil_append] at zzN); (try dsimp only); (try k_fold))
    | (refine' kp_more ?k1 ?k2 ?k3 ?k4 ?k5 ?kA ?kF ?kK ?k6 ?k7 ?k8 ?kX ?kM ?kN ?kD ?kR ?kP ?kT ?kB ?_ ?c2 ?c3 ?c4 ?c5; (case kA => exact rfl); (case kF => exact rfl); (case kK => first | assumption | exact rfl); (case k1 => k_asm); (case k2 => k_asm); (case k3 => k_asm); (case k4 => k_asm); (case k5 => k_asm); (case k6 => k_is); (case k7 => k_is); (case k8 => ktr_room); (case kX => kp_lit); (case kM => exact rfl); (case kN => exact rfl); (case kD => kp_flats); (case kR => exact rfl); (case kP => exact rfl); (case kT => exact fun _ => rfl); (case kB => exact fun _ => locs rfl); (case c5 => decide); (case c2 => exact rfl); (case c3 => exact rfl); (case c4 => exact rfl); k_whole; intro zzD zzo zzg zzL zzh zztk zzl1 zzlo zzhs zzfs zzFG zzF zzN zzB zzX zzT; (try dsimp only); (try k_fold)))
  k_with "TPost" => ((first | refine TPost.ret ?_ | refine TPost.brk ?_; (try dsimp only)))
  k_with "own k_all" => (first | assumption | (refine all_lt (by assumption) ?_; (try dsimp only); omega) | (exact fun p hp => Ne.symm (‹∀ p ∈ _, _ ≠ p.1› p hp)))
  k_with "own k_mem" => (first | exact List.Mem.head _ | ktr_member | (refine' mem_tail ?_; k_mem))
  k_with "leaving ref" => ((k_here; first | (refine' leave_onX ?k1 ?k2 ?k3 ?k4 ?_ ?k5; (case k5 => rfl); (case k1 => assumption); (case k3 => assumption); (case k4 => assumption); (case k2 => assumption); k_whole; intro zzh zzR zzU) | (refine' leave_raiseS ?k1 (Heap.MadeExc.of (by assumption)) ?k2 ?k3 ?_; (case k2 => assumption); (case k1 => assumption); (case k3 => k_asm); k_whole; intro zzh zzt zzS zzR zzU; (try dsimp only at zzS zzR zzU ⊢))))
  k_with "own k_qdec" => (decide +kernel)
  trivial
set_option maxHeartbeats 8000000 in
theorem zz : PySem.Challenge.rw_kl0503_01.Holds := Mine.hd (by
  w_strict (k_go0; (all_goals try k_fold); k_steps)
  rename Fr _ _ _ _ => lF
  refine For_turns lF ?_
  k_steps
  rename Fr _ _ _ _ => lF
  rename News _ _ _ _ => lN
  rename IntsAre _ _ => hI
  rename (Mine.hd.heap_1 _).In _ => kX
  refine loop_c (dp := 302) (un := 7) (gd := some []) ⟨below_caller _, kX, by assumption, by decide, by decide⟩ (by passes_own) hI ?_ lF (by repeat (first | exact List.forall_mem_nil _ | refine List.forall_mem_cons.mpr ⟨rfl, ?_⟩)) ⟨by decide, by decide⟩ lN (ti_start (by assumption) (by assumption) (by assumption) (by assumption) (by assumption) (by assumption)) ?_
  · rw [List.length_append, List.length_take]
    show 4 + min 5 _ ≤ 9
    omega
  intro h' tk' m' n' F N
  (try dsimp only)
  k_steps
  first
    | exact goodW_bool F (by assumption) (fun _ => rfl) (by rfl)
    | exact goodW_bool F (by assumption) (by intro _; with_unfolding_all rfl) (by with_unfolding_all rfl)
    | exact goodW_bool F (by assumption) (by intro _; simp [OpenLaw.claim]) (by simp [OpenLaw.claim]))
end
end Mine
end
set_option maxRecDepth 100000 in
set_option maxHeartbeats 8000000 in
theorem PySem.Challenge.cw_kl0503_01_holds : PySem.Challenge.rw_kl0503_01.Holds := by
  exact Mine.zz

