import PyProof.Rows.All
import Wide.All
import OpenK.AllK
import Wide.FinOn
import Open.Tops
import PySem.Challenge.RW_af0030_01
set_option linter.unusedVariables false
set_option linter.unusedSimpArgs false
set_option maxRecDepth 100000
set_option Elab.async false
namespace Ind
open PySem PySem.W PySem.Calls PyProof.Rows
def fPar : Stmt → Arguments
  | .FunctionDef _ a _ _ _ _ _ _ _ _ => a
  | _ => ⟨[], [], none, [], [], none, []⟩
def fBody : Stmt → List Stmt
  | .FunctionDef _ _ b _ _ _ _ _ _ _ => b
  | .ClassDef _ _ _ b _ _ _ _ _ _ _ => b
  | _ => []
def fScope : Stmt → Scope
  | .FunctionDef _ _ _ _ _ _ s _ _ _ => s
  | .ClassDef _ _ _ _ _ _ s _ _ _ _ => s
  | _ => ⟨.function, [], false, false, []⟩
def stAt : List Stmt → Nat → Stmt
  | [], _ => .Pass ⟨0, 0, 0, 0⟩
  | s :: _, 0 => s
  | _ :: r, n + 1 => stAt r n
def stK (den : Code → Sem Fin) (p : Program) (w : World) (L : Nat) (s : SharedT) (t : Thread) : Option (SharedT × Thread) :=
  match t with
  | ⟨cur, code, pos, stack⟩ => match cur with
    | .pure f => match f with
      | .again c => match c.quiet with
        | true => some (s, ⟨den c, c, pos, stack⟩)
        | false => none
      | .done f => match Nat.blt L stack.length with
        | true => match stack with
          | .ret k _ _ _ c q _ :: st => some (s, ⟨k (.ok f), c, q, st⟩)
          | _ => none
        | false => none
    | .raise e => match Nat.blt L stack.length with
        | true => match stack with
          | .ret k _ _ _ c q _ :: st => some (s, ⟨k (.error e), c, q, st⟩)
          | _ => none
        | false => none
    | .call c h g l k => some (s, ⟨den c, c, pos, .ret k h g l code pos [] :: stack⟩)
    | .load .. | .update .. | .alloc .. | .rule .. | .at .. | .point .. | .fresh .. | .ask .. | .stack .. | .handled .. | .loadIfAlive .. => stepT den p w s ⟨cur, code, pos, stack⟩
    | _ => none
def goK (den : Code → Sem Fin) (p : Program) (w : World) (L : Nat) : Nat → SharedT → Thread → Option (SharedT × Thread)
  | 0, s, t => some (s, t)
  | n + 1, s, t => match stK den p w L s t with
    | some r => goK den p w L n r.1 r.2
    | none => none
def loc : Sem Fin → Bool
  | .load .. | .update .. | .alloc .. | .rule .. | .at .. | .point .. | .fresh .. | .ask .. | .stack .. | .handled .. | .loadIfAlive .. => true
  | _ => false
theorem mstep_of {prog : Program} {w : World} {s s' : Shared} {t t' : Thread} (hl : t.loud = false) (h1 : ∀ c, t.cur ≠ .pure (.again c)) (h2 : ∀ c h g l k, t.cur ≠ .call c h g l k)
    (h : step (denote table) prog w s t = .go s' t') : (model prog w).step s t = .go s' t' := by
  rw [Model.step_quiet (model prog w) hl]
  show stepK (denote table) prog w s t = _
  obtain ⟨cur, code, pos, st⟩ := t
  cases cur with
  | pure f => cases f with
    | again c => exact absurd rfl (h1 c)
    | done f => exact h
  | call c hh g l k => exact absurd rfl (h2 c hh g l k)
  | _ => exact h
theorem app_len {α : Type} {pre base st : List α} {x : α} (h : pre ++ base = x :: st) (hl : base.length < (x :: st).length) : ∃ pre', pre = x :: pre' ∧ st = pre' ++ base := by
  cases pre with
  | nil => simp only [List.nil_append] at h; subst h; omega
  | cons y pre => simp only [List.cons_append, List.cons.injEq] at h; obtain ⟨rfl, rfl⟩ := h; exact ⟨pre, rfl, rfl⟩
theorem stepT_stack {den : Code → Sem Fin} {p : Program} {w : World} {s s' : SharedT} {cur : Sem Fin} {code : Code} {pos : Pos} {st : List Frame} {t' : Thread}
    (hc : loc cur = true)
    (h : stepT den p w s ⟨cur, code, pos, st⟩ = some (s', t')) : t'.stack = st := by
  obtain ⟨T, n, life, gens, drawn, toks, os⟩ := s
  cases cur <;> simp only [loc, Bool.false_eq_true] at hc <;> simp only [stepT, step] at h <;> (repeat' split at h) <;> simp_all
  all_goals (obtain ⟨_, h⟩ := h; subst h; rfl)
theorem stK_reach {prog : Program} {w : World} {base : List Frame} {s s' : SharedT} {cur : Sem Fin} {c : Code} {p : Pos} {pre : List Frame} {t' : Thread}
    (h : stK (denote table) prog w base.length s ⟨cur, c, p, pre ++ base⟩ = some (s', t')) :
    ∃ pre', t'.stack = pre' ++ base ∧ ∀ s₂ e, Reach (model prog w) base s'.abs t'.cur t'.code t'.pos pre' s₂ e → Reach (model prog w) base s.abs cur c p pre s₂ e := by
  have key : ∀ {t' : Thread}, t'.stack = pre ++ base → (model prog w).step s.abs ⟨cur, c, p, pre ++ base⟩ = .go s'.abs t' →
      ∃ pre', t'.stack = pre' ++ base ∧ ∀ s₂ e, Reach (model prog w) base s'.abs t'.cur t'.code t'.pos pre' s₂ e → Reach (model prog w) base s.abs cur c p pre s₂ e := by
    intro t' e hs
    refine ⟨pre, e, fun s₂ e₂ r => ?_⟩
    obtain ⟨c2, co, po, st⟩ := t'
    dsimp only at e r
    subst e
    exact .step hs r
  have hloc : loc cur = true →
      stepT (denote table) prog w s ⟨cur, c, p, pre ++ base⟩ = some (s', t') → ∃ pre', t'.stack = pre' ++ base ∧ ∀ s₂ e, Reach (model prog w) base s'.abs t'.cur t'.code t'.pos pre' s₂ e → Reach (model prog w) base s.abs cur c p pre s₂ e := by
    intro hc h
    refine key (stepT_stack hc h) (mstep_of ?_ ?_ ?_ (stepT_spec h))
    · cases cur <;> simp only [loc, Bool.false_eq_true] at hc <;> rfl
    · intro c e; dsimp only at e; subst e; simp [loc] at hc
    · intro a b c' d e' e; dsimp only at e; subst e; simp [loc] at hc
  cases cur with
  | pure f => cases f with
    | again c' =>
      simp only [stK] at h
      split at h
      · rename_i hq
        cases h
        exact ⟨pre, rfl, fun s₂ e r => .step (pre₁ := pre) (PySem.step_again (M := model prog w) (c' := c') (hq := hq) ..) r⟩
      · cases h
    | done f =>
      simp only [stK] at h
      split at h
      · rename_i hb
        split at h
        · rename_i k _ _ _ c2 q _ st hst
          cases h
          obtain ⟨pre', rfl, rfl⟩ := app_len hst (by rw [← hst]; exact Nat.le_of_ble_eq_true hb)
          exact ⟨pre', rfl, fun s₂ e r => .step (pre₁ := pre') (step_leaf_ret (M := model prog w) (r := .ok f) ..) r⟩
        · cases h
      · cases h
  | raise e =>
    simp only [stK] at h
    split at h
    · rename_i hb
      split at h
      · rename_i k _ _ _ c2 q _ st hst
        cases h
        obtain ⟨pre', rfl, rfl⟩ := app_len hst (by rw [← hst]; exact Nat.le_of_ble_eq_true hb)
        exact ⟨pre', rfl, fun s₂ e' r => .step (pre₁ := pre') (step_leaf_ret (M := model prog w) (r := .error e) ..) r⟩
      · cases h
    · cases h
  | call c' hh g l k =>
    simp only [stK] at h
    cases h
    exact ⟨.ret k hh g l c p [] :: pre, rfl, fun s₂ e r => .step (pre₁ := .ret k hh g l c p [] :: pre) (step_call ..) r⟩
  | load | update | alloc | rule | «at» | point | fresh | ask | stack | handled | loadIfAlive => exact hloc rfl h
  | _ => cases h
theorem goK_reach {prog : Program} {w : World} {base : List Frame} : ∀ (n : Nat) {s s' : SharedT} {cur cur' : Sem Fin} {c c' : Code} {p p' : Pos} {pre pre' : List Frame},
    goK (denote table) prog w base.length n s ⟨cur, c, p, pre ++ base⟩ = some (s', ⟨cur', c', p', pre' ++ base⟩) →
    ∀ s₂ e, Reach (model prog w) base s'.abs cur' c' p' pre' s₂ e → Reach (model prog w) base s.abs cur c p pre s₂ e
  | 0, s, s', cur, cur', c, c', p, p', pre, pre', h, s₂, e, r => by
    simp only [goK, Option.some.injEq, Prod.mk.injEq, Thread.mk.injEq] at h
    obtain ⟨rfl, rfl, rfl, rfl, h⟩ := h
    rw [List.append_cancel_right h]
    exact r
  | n + 1, s, s', cur, cur', c, c', p, p', pre, pre', h, s₂, e, r => by
    simp only [goK] at h
    split at h
    · rename_i x hx
      obtain ⟨s1, c1, co1, p1, st1⟩ := x
      obtain ⟨pre1, e1, k⟩ := stK_reach hx
      dsimp only at e1 h k
      subst e1
      exact k _ _ (goK_reach n h s₂ e r)
    · cases h
end Ind
set_option maxRecDepth 100000
set_option Elab.async false
namespace Ind
open PySem PySem.W PySem.Calls PyProof.Rows
theorem runNI_go {den : Code → Sem PySem.Fin} {prog : Program} {w : World} : ∀ (n : Nat) (s : Shared) (t : Thread) (s' : Shared) (t' : Thread), runNI den prog w n s t = .running s' t' →
    runNK den prog w n s t = .running s' t' ∧ ∀ k, k < n → ∀ s₁ t₁, runNK den prog w k s t = .running s₁ t₁ → t₁.calm = true
  | 0, s, t, s', t', h => ⟨h, fun k hk => absurd hk (Nat.not_lt_zero k)⟩
  | n + 1, s, t, s', t', h => by
    simp only [runNI] at h
    cases hl : t.loud with
    | true => rw [stepI_loud den prog w hl] at h; cases h
    | false =>
      rw [stepI_quiet den prog w hl] at h
      cases hs : stepK den prog w s t with
      | halt o s₂ => rw [hs] at h; cases h
      | go s₂ t₂ =>
        rw [hs] at h
        obtain ⟨a, b⟩ := runNI_go n s₂ t₂ s' t' h
        have hc : t.calm = true := by
          rw [Thread.calm_eq, hl]
          cases hr : t.refused with
          | false => rfl
          | true => obtain ⟨what, e⟩ := stepK_refused den prog w hr (s := s); rw [hs] at e; cases e
        refine ⟨by simp only [runNK, hs]; exact a, fun k hk s₁ t₁ e => ?_⟩
        cases k with
        | zero => simp only [runNK, Run.running.injEq] at e; rw [← e.2]; exact hc
        | succ k => simp only [runNK, hs] at e; exact b k (Nat.lt_of_succ_lt_succ hk) s₁ t₁ e
theorem sched_run {den : Code → Sem PySem.Fin} {prog : Program} {w : World} : ∀ (n : Nat) (s : Shared) (t : Thread) (s' : Shared) (t' : Thread), s.asleep → runN den prog w n s t = .running s' t' →
    (∀ k, k < n → ∀ s₁ t₁, runN den prog w k s t = .running s₁ t₁ → t₁.calm = true) → schedN den prog w n (.single s t) = .running (.single s' t') ∧ s'.heap.life = s.heap.life
  | 0, s, t, s', t', _, h, _ => by cases h; exact ⟨rfl, rfl⟩
  | n + 1, s, t, s', t', hz, h, hc => by
    simp only [runN] at h
    cases hs : step den prog w s t with
    | halt o s₂ => rw [hs] at h; cases h
    | go s₂ t₂ =>
      rw [hs] at h
      have hl := step_life den prog w s s₂ t t₂ hs
      obtain ⟨a, b⟩ := sched_run n s₂ t₂ s' t' (Shared.asleep_of_life hl hz) h fun k hk s₁ t₁ e => hc (k + 1) (Nat.succ_lt_succ hk) s₁ t₁ (by simp only [runN, hs]; exact e)
      have e : sstep den prog w (.single s t) = .go (.single s₂ t₂) := by
        rcases sstep_single den prog w s t (hc 0 (Nat.succ_pos n) s t rfl) hz with e | e
        · rw [e, hs]; rfl
        · rw [hs] at e; cases e
      exact ⟨by simp only [schedN, e]; exact a, b.trans hl⟩
theorem sched_of_reach {prog : Program} {w : World} {s s' : Shared} {t : Sem PySem.Fin} {c : Code} {p : Pos} {f : Flow} (hz : s.asleep) (hg : s'.gens = #[])
    (h : Reach (model prog w) [] s t c p [] s' (.ret (.ok f))) :
    (∃ n t', schedN (denote table) prog w n (.single s ⟨t, c, p, []⟩) = .running (.single s' t') ∧ through t' = true) ∧ s'.heap.life = s.heap.life := by
  obtain ⟨n, t', c', p', pre', hn, rfl, rfl⟩ := h.runN
  obtain ⟨hk, hc⟩ := runNI_go _ _ _ _ _ (show runNI (denote table) prog w n s ⟨t, c, p, []⟩ = _ from hn)
  have hsame := fun k => runNK_same (denote table) prog w k (s₁ := s) (s₂ := s) (t₁ := ⟨t, c, p, []⟩) (t₂ := ⟨t, c, p, []⟩) rfl rfl
  have e := hsame n
  rw [hk] at e
  cases hr : runN (denote table) prog w n s ⟨t, c, p, []⟩ with
  | halted o s₂ => rw [hr] at e; cases e
  | running s₂ t₂ =>
    rw [hr] at e
    simp only [Run.forget, Run.running.injEq] at e
    obtain ⟨e1, e2⟩ := e
    have es : s₂ = s' := by
      first
        | exact Shared.eq_of_forget_eq e1 hg
        | exact Shared.eq_of_forget_eq e1.symm hg
    subst es
    obtain ⟨cur2, co2, po2, st2⟩ := t₂
    have hthr : through ⟨cur2, co2, po2, st2⟩ = true := by
      simp only [Thread.forget, Thread.mk.injEq, List.append_nil] at e2
      obtain ⟨a, _, _, d⟩ := e2
      have hst : st2 = [] := by cases st2 with
        | nil => rfl
        | cons x r => simp at d
      subst hst
      unfold through
      first
        | (rw [a]; rfl)
        | (rw [← a]; rfl)
    obtain ⟨x, y⟩ := sched_run n s _ _ _ hz hr fun k hk' s₁ t₁ q => by
      have e3 := hsame k
      rw [q] at e3
      cases hr3 : runNK (denote table) prog w k s ⟨t, c, p, []⟩ with
      | halted o s₃ => rw [hr3] at e3; cases e3
      | running s₃ t₃ =>
        rw [hr3] at e3
        simp only [Run.forget, Run.running.injEq] at e3
        have := hc k hk' s₃ t₃ hr3
        rw [← Thread.calm_forget] at this ⊢
        first
          | (rw [← e3.2]; exact this)
          | (rw [e3.2]; exact this)
    exact ⟨⟨n, _, x, hthr⟩, y⟩
end Ind
set_option maxRecDepth 100000
set_option Elab.async false
namespace Ind
open PySem PySem.W PySem.Calls PyProof.Rows
theorem wp_wrap {α β : Type} {M : Model} {Γ : Ctx} (m : Sem α) (K : α → Sem β) (H : Value → Sem β) (gd lv) (Q : β → Pos → Shared → Prop) (E : Value → Pos → Shared → Prop) (p : Pos) (s : Shared) :
    Sem.wp M Γ (m.wrap K H gd lv) Q E p s = Sem.wp M Γ m (fun a p' s' => Sem.wp M Γ (K a) Q E p' s') (fun e p' s' => Sem.wp M Γ (H e) Q E p' s') p s := by
  induction m generalizing p s <;> simp only [Sem.wrap, Sem.wp, *]
section
variable {prog : Program} {w : World} {A : Around} {E : Value → Shared → Prop}
def strsOf (xs : List Str) (t : Tok) : List Value := match xs with
  | [] => []
  | x :: r => .str x t :: strsOf r (t + 1)
theorem consts_all {env : Env} {k : Nat} {ps : Pos} : ∀ (xs : List Str) (es : List PySem.Expr) (s : Shared) (Q : List Value → Shared → Prop),
    (es.map fun e => match e with | .Constant (.str x) _ _ => some x | _ => none) = xs.map some →
    Q (strsOf xs s.toks) { s with toks := s.toks + xs.length } → KdsAll (model prog w) A E env es Q s
  | [], [], s, Q, _, h => by simpa [KdsAll, strsOf] using h
  | [], _ :: _, _, _, e, _ => by simp at e
  | _ :: _, [], _, _, e, _ => by simp at e
  | x :: xs, e :: es, s, Q, he, h => by
    simp only [List.map_cons, List.cons.injEq] at he
    obtain ⟨h1, h2⟩ := he
    split at h1
    · cases h1
      show wpAny _ _ (eval _ env) _ _ _
      refine wpAny_Constant_str ?_
      refine consts_all (k := k) (ps := ps) xs es _ _ h2 ?_
      simp only [strsOf, List.length_cons] at h
      have e : s.toks + 1 + xs.length = s.toks + (xs.length + 1) := by omega
      simpa [e] using h
    · cases h1
def addAll (S : Str → Bool) : List Str → Str → Bool
  | [] => S
  | x :: r => addAll (fun k => S k || decide (k = x)) r
theorem unled_of {a : Addr} {S : Str → Bool} {n : Nat} {s : Shared} {Q : Unit → Shared → Prop} (hS : s.heap.SetOf (strKind prog w) a S n)
    (h : ∀ h', Heap.SameBut a s.heap h' → h'.SetOf (strKind prog w) a S n → Q () { s with heap := h' }) : wpAny (model prog w) A (setUnled a) Q E s := by
  obtain ⟨o, es, ep, t, ho, hex, hd, hel, hmem, hb, hf, hn⟩ := hS
  have hf' : ({ t with led := false } : SetTable).fits es.size = true := by cases t; exact hf
  unfold setUnled
  refine wpAny_bind (wpAny_setState_of ho hd hf ?_)
  dsimp only
  refine wpAny_storeSet_of ho hd ?_ (fits_of_scanBound hb)
  obtain ⟨_, hS'⟩ := SetOf_store (knd := strKind prog w) ho hex hd hel hmem hb hf'
  rw [hn] at hS'
  exact h _ (Heap.SameBut.update s.heap a _) hS'
theorem fill_strs {d : Addr} {Q : Value → Shared → Prop} : ∀ (xs : List Str) (t : Tok) (s : Shared) (S : Str → Bool) (n : Nat), s.heap.SetOf (strKind prog w) d S n → n + xs.length < scanBound →
    xs.Nodup → (∀ x ∈ xs, S x = false) →
    (∀ h', Heap.SameBut d s.heap h' → h'.SetOf (strKind prog w) d (addAll S xs) (n + xs.length) → Q (.ref d) { s with heap := h', toks := s.toks + xs.length }) →
    KdsFill (model prog w) A E true d Q (strsOf xs t) s
  | [], t, s, S, n, hS, _, _, _, h => by
    refine kds_fill_unled rfl (unled_of hS fun h' sb hS' => ?_)
    simpa [addAll] using h h' sb hS'
  | x :: xs, t, s, S, n, hS, hb, hnd, hx, h => by
    rw [List.length_cons] at hb
    refine kds_fill_cons ?_
    unfold setAdd
    refine wpAny_holding (wpAny_bind ((strKind prog w).pyHash (strKind_is prog w x t) ?_))
    refine wpAny_setAddHashed_of (s := { s with toks := s.toks + 1 }) (strKind_is prog w x t) rfl hS (by omega) fun h' sb hS' => ?_
    rw [hx x (.head _), if_neg Bool.false_ne_true] at hS'
    refine fill_strs xs (t + 1) { s with heap := h', toks := s.toks + 1 } _ (n + 1) hS' (by omega) (List.nodup_cons.mp hnd).2 (fun y hy => ?_) fun h2 sb2 hS2 => ?_
    · rw [hx y (.tail _ hy), Bool.false_or]
      exact decide_eq_false fun e => (List.nodup_cons.mp hnd).1 (e ▸ hy)
    · have := h h2 (sb.trans sb2) (by rw [List.length_cons]; have e : n + (xs.length + 1) = n + 1 + xs.length := by omega
                                      rw [e]; exact hS2)
      rw [List.length_cons] at this
      have e : s.toks + 1 + xs.length = s.toks + (xs.length + 1) := by omega
      simpa [e] using this
theorem set_strs {elts : List PySem.Expr} {k : Nat} {pos : Pos} {env : Env} {xs : List Str} {s : Shared} {Q : Value → Shared → Prop} {c : Addr} {o : Obj} {vs : Array Value}
    (hc : env.code = .ref c) (ho : s.heap.get? c = some o) (hd : o.data = .fields vs)
    (hroad : displayRoad k elts = .unsure) (hp : elts.all kdsPlain = true) (hlen : elts.length ≤ 30)
    (hx : (elts.map fun e => match e with | .Constant (.str x) _ _ => some x | _ => none) = xs.map some) (hl : xs.length < scanBound) (hnd : xs.Nodup)
    (h : ∀ h' so, (∀ b, b ≠ s.heap.objs.size → h'.get? b = s.heap.get? b) → h'.objs.size = s.heap.objs.size + 1 → h'.get? s.heap.objs.size = some so →
      so.SetObjOf (strKind prog w) (addAll (fun _ => false) xs) xs.length → Q (.ref s.heap.objs.size) { s with heap := h', toks := s.toks + xs.length + xs.length }) :
    wpAny (model prog w) A (eval (.Set elts k pos) env) Q E s := by
  rw [arm_eval_Set]
  refine wpAny_bind (wpAny_standAt ?_)
  have hmain : ∀ {Q' : Bool → Shared → Prop}, (∀ b, Q' b s) → wpAny (model prog w) A (inMainModule env) Q' E s := by
    intro Q' hq
    unfold inMainModule
    rw [hc]
    split
    · exact wpAny_pure (hq _)
    · refine wpAny_bind (wpAny_fieldsOf ho hd ?_)
      split
      · exact wpAny_bind (wpAny_askSetting (wpAny_pure (hq _)))
      · exact wpAny_pure (hq _)
  refine wpAny_bind (hmain fun b => ?_)
  rw [kds_star elts hp, List.map_map]
  refine kds_core (ts := (evalEach elts env).map fun t => do let v ← t; standAt pos; pure v) (by rw [hroad]; rfl) ?_ ?_ ?_ fun led => ?_
  · refine List.findIdx?_eq_none_iff.mpr fun x hx => ?_
    obtain ⟨t, _, rfl⟩ := List.mem_map.mp hx
    rfl
  · rw [List.length_map, kds_len]; exact hlen
  · rw [List.map_map]; try rfl
  · rw [hroad]
    refine kds_all pos elts _ _ (consts_all (k := 0) (ps := pos) xs elts _ _ hx ?_)
    refine fill_strs xs _ _ (fun _ => false) 0 ?_ (by omega) hnd (fun _ _ => rfl) fun h' sb hS => ?_
    · exact ⟨_, #[], 0, _, Heap.get?_push_size _ rfl, ⟨rfl, rfl, rfl⟩, rfl, fun e he => by simp at he, fun k => by simp, by decide, by rfl, rfl⟩
    · obtain ⟨so, ho', hso⟩ := hS.objOf
      rw [Nat.zero_add] at hso
      have sb1 : h'.objs.size = (s.heap.push _).objs.size := sb.1
      refine h h' so (fun b hb => (sb.2 b hb).trans (Heap.get?_push_ne _ _ _ hb)) (by rw [sb1, Heap.size_push]) ho' hso
end
def aliveT (T : BT) (n : Nat) : Bool := (List.range n).all fun i => match T.get i with
  | some o => !o.isFreed
  | none => false
theorem get_objs {h : Heap} {a : Addr} {o : Obj} (e : h.get? a = some o) : h.objs[a]? = some o := by
  unfold Heap.get? at e
  split at e
  · cases e
  · exact e
theorem abs_alive {T : BT} {n : Nat} {life : Life} (hT : aliveT T n = true) {a : Nat} (ha : a < n) : ∃ o, T.get a = some o ∧ (absHeap T n life).get? a = some o := by
  have := List.all_eq_true.mp hT a (List.mem_range.mpr ha)
  cases e : T.get a with
  | none => rw [e] at this; cases this
  | some o =>
    rw [e] at this
    refine ⟨o, rfl, ?_⟩
    rw [abs_get ha e]
    obtain ⟨c, d, dt, sl⟩ := o
    cases dt <;> first | rfl | simp [Obj.isFreed] at this
theorem abs_of_same {T T' : BT} {n : Nat} {life : Life} {h' : Heap} {so : Obj} (hT : aliveT T n = true) (hT' : ∀ i, i < n → T'.get i = T.get i) (hn : T'.get n = some so)
    (hs : ∀ b, b ≠ n → h'.get? b = (absHeap T n life).get? b) (hz : h'.objs.size = n + 1) (ho : h'.get? n = some so) : h' = absHeap T' (n + 1) h'.life := by
  have : h'.objs = (absHeap T' (n + 1) h'.life).objs := by
    apply Array.ext_getElem?
    intro i
    rw [absHeap_at]
    by_cases hi : i < n + 1
    · rw [if_pos hi]
      by_cases e : i = n
      · subst e; rw [hn]; exact get_objs ho
      · have hlt : i < n := by omega
        obtain ⟨o, e1, e2⟩ := abs_alive (life := life) hT hlt
        rw [hT' i hlt, e1]
        exact get_objs ((hs i e).trans e2)
    · rw [if_neg hi]
      exact Array.getElem?_eq_none (by omega)
  obtain ⟨objs, lf⟩ := h'
  dsimp only at this
  subst this
  rfl
theorem setObj_form {prog : Program} {w : World} {so : Obj} {S : Str → Bool} {n : Nat} (h : so.SetObjOf (strKind prog w) S n) : ∃ es ep st, so = ⟨.type "set", none, .set es ep st, #[]⟩ := by
  obtain ⟨⟨h1, h2, h3⟩, es, ep, t, hd, _⟩ := h
  obtain ⟨c, d, dt, sl⟩ := so
  dsimp only at h1 h2 h3 hd
  subst h1 h2 h3 hd
  exact ⟨es, ep, t, rfl⟩
end Ind
set_option maxRecDepth 1000000
set_option maxHeartbeats 0
set_option Elab.async false
set_option linter.unusedVariables false
namespace Ind01
open PySem PySem.W PySem.Calls PyProof.Rows Ind
noncomputable section
def en (P : Params) (s : Str) (t : Nat) (v : Value) : DictEntry := ⟨(PyData.keyHash P s), (.str s t), v⟩
def iz (n : Nat) : Value := .int (.ofNat n) 0
abbrev nd := BT.node
def lf (o : Obj) : BT := .node o .nil .nil
def s_0 : Str := ⟨⟨[47, 99, 108, 97, 105, 109, 47, 99, 117, 116, 46, 112, 121]⟩⟩
def s_1 : Str := ⟨⟨[115]⟩⟩
def s_2 : Str := ⟨⟨[115, 117, 98, 115, 116, 114, 105, 110, 103, 95, 105]⟩⟩
def s_3 : Str := ⟨⟨[114, 101, 115, 117, 108, 116]⟩⟩
def s_4 : Str := ⟨⟨[115, 101, 108, 102]⟩⟩
def s_5 : Str := ⟨⟨[95, 95, 109, 111, 100, 117, 108, 101, 95, 95]⟩⟩
def s_6 : Str := ⟨⟨[95, 95, 102, 105, 114, 115, 116, 108, 105, 110, 101, 110, 111, 95, 95]⟩⟩
def s_7 : Str := ⟨⟨[115, 110, 111, 119, 98, 97, 108, 108, 115, 116, 101, 109, 109, 101, 114, 46, 98, 97, 115, 101, 115, 116, 101, 109, 109, 101, 114]⟩⟩
def s_8 : Str := ⟨⟨[95, 95, 113, 117, 97, 108, 110, 97, 109, 101, 95, 95]⟩⟩
def s_9 : Str := ⟨⟨[115, 110, 111, 119, 98, 97, 108, 108, 115, 116, 101, 109, 109, 101, 114, 46, 105, 110, 100, 111, 110, 101, 115, 105, 97, 110, 95, 115, 116, 101, 109, 109, 101, 114]⟩⟩
def s_a : Str := ⟨⟨[95, 95, 115, 116, 97, 116, 105, 99, 95, 97, 116, 116, 114, 105, 98, 117, 116, 101, 115, 95, 95]⟩⟩
def s_b : Str := ⟨⟨[66, 97, 115, 101, 83, 116, 101, 109, 109, 101, 114]⟩⟩
def s_c : Str := ⟨⟨[95, 95, 100, 111, 99, 95, 95]⟩⟩
def s_d : Str := ⟨⟨[73, 110, 100, 111, 110, 101, 115, 105, 97, 110, 83, 116, 101, 109, 109, 101, 114]⟩⟩
def s_e : Str := ⟨⟨[114, 95, 114, 101, 109, 111, 118, 101, 95, 112, 97, 114, 116, 105, 99, 108, 101]⟩⟩
def s_f : Str := ⟨⟨[114, 95, 114, 101, 109, 111, 118, 101, 95, 112, 111, 115, 115, 101, 115, 115, 105, 118, 101, 95, 112, 114, 111, 110, 111, 117, 110]⟩⟩
def s_g : Str := ⟨⟨[114, 95, 114, 101, 109, 111, 118, 101, 95, 115, 117, 102, 102, 105, 120]⟩⟩
def s_h : Str := ⟨⟨[114, 95, 114, 101, 109, 111, 118, 101, 95, 102, 105, 114, 115, 116, 95, 111, 114, 100, 101, 114, 95, 112, 114, 101, 102, 105, 120]⟩⟩
def s_i : Str := ⟨⟨[114, 95, 114, 101, 109, 111, 118, 101, 95, 115, 101, 99, 111, 110, 100, 95, 111, 114, 100, 101, 114, 95, 112, 114, 101, 102, 105, 120]⟩⟩
def s_j : Str := ⟨⟨[95, 115, 116, 101, 109]⟩⟩
def s_k : Str := ⟨⟨[103, 95, 118, 111, 119, 101, 108]⟩⟩
def s_l : Str := ⟨⟨[73, 95, 112, 114, 101, 102, 105, 120]⟩⟩
def s_m : Str := ⟨⟨[73, 95, 109, 101, 97, 115, 117, 114, 101]⟩⟩
def s_n : Str := ⟨⟨[95, 119, 97, 108, 108]⟩⟩
def s_o : Str := ⟨⟨[95, 95, 105, 110, 105, 116, 95, 95]⟩⟩
def s_p : Str := ⟨⟨[65, 109, 111, 110, 103]⟩⟩
def s_q : Str := ⟨⟨[108, 97, 119, 95, 97, 102, 48, 48, 51, 48, 95, 48, 49]⟩⟩
def s_r : Str := ⟨⟨[95, 95, 119, 101, 97, 107, 114, 101, 102, 95, 95]⟩⟩
def s_s : Str := ⟨⟨[97, 95, 48]⟩⟩
def s_t : Str := ⟨⟨[97, 95, 49]⟩⟩
def s_u : Str := ⟨⟨[97, 95, 50]⟩⟩
def s_v : Str := ⟨⟨[108, 97, 98, 48]⟩⟩
def s_w : Str := ⟨⟨[108, 97, 98, 49]⟩⟩
def s_x : Str := ⟨⟨[95, 95, 110, 97, 109, 101, 95, 95]⟩⟩
def s_y : Str := ⟨⟨[95, 95, 112, 97, 99, 107, 97, 103, 101, 95, 95]⟩⟩
def s_z : Str := ⟨⟨[95, 95, 108, 111, 97, 100, 101, 114, 95, 95]⟩⟩
def s_10 : Str := ⟨⟨[95, 95, 115, 112, 101, 99, 95, 95]⟩⟩
def s_11 : Str := ⟨⟨[95, 95, 97, 110, 110, 111, 116, 97, 116, 105, 111, 110, 115, 95, 95]⟩⟩
def s_12 : Str := ⟨⟨[95, 95, 98, 117, 105, 108, 116, 105, 110, 115, 95, 95]⟩⟩
def s_13 : Str := ⟨⟨[95, 95, 102, 105, 108, 101, 95, 95]⟩⟩
def s_14 : Str := ⟨⟨[95, 95, 99, 97, 99, 104, 101, 100, 95, 95]⟩⟩
def s_15 : Str := ⟨⟨[97, 95, 51]⟩⟩
def s_16 : Str := ⟨⟨[95, 108, 97, 119, 95, 104, 101, 97, 100, 115]⟩⟩
def s_17 : Str := ⟨⟨[95, 108, 97, 119, 95, 116, 97, 105, 108, 115]⟩⟩
def s_18 : Str := ⟨⟨[95, 108, 97, 119, 95, 111, 119, 110, 101, 114, 115]⟩⟩
def s_19 : Str := ⟨⟨[95, 108, 97, 119, 95, 112, 97, 114, 116, 115]⟩⟩
def s_1a : Str := ⟨⟨[95, 108, 97, 119, 95, 97, 116]⟩⟩
def s_1b : Str := ⟨⟨[95, 108, 97, 119, 95, 104, 101, 97, 100]⟩⟩
def s_1c : Str := ⟨⟨[95, 108, 97, 119, 95, 114, 101, 115, 116]⟩⟩
def s_1d : Str := ⟨⟨[95, 108, 97, 119, 95, 115, 111, 117, 110, 100, 101, 100]⟩⟩
def s_1e : Str := ⟨⟨[95, 108, 97, 119, 95, 102, 114, 111, 110, 116, 101, 100]⟩⟩
def s_1f : Str := ⟨⟨[95, 108, 97, 119, 95, 98, 101, 104, 105, 110, 100]⟩⟩
def s_1g : Str := ⟨⟨[95, 108, 97, 119, 95, 119, 111, 114, 100]⟩⟩
def s_1h : Str := ⟨⟨[108, 97, 119]⟩⟩
def s_1i : Str := ⟨⟨[115, 101, 116, 95, 99, 117, 114, 114, 101, 110, 116]⟩⟩
def s_1j : Str := ⟨⟨[103, 101, 116, 95, 99, 117, 114, 114, 101, 110, 116]⟩⟩
def s_1k : Str := ⟨⟨[99, 111, 112, 121, 95, 102, 114, 111, 109]⟩⟩
def s_1l : Str := ⟨⟨[105, 110, 95, 103, 114, 111, 117, 112, 105, 110, 103]⟩⟩
def s_1m : Str := ⟨⟨[103, 111, 95, 105, 110, 95, 103, 114, 111, 117, 112, 105, 110, 103]⟩⟩
def s_1n : Str := ⟨⟨[105, 110, 95, 103, 114, 111, 117, 112, 105, 110, 103, 95, 98]⟩⟩
def s_1o : Str := ⟨⟨[103, 111, 95, 105, 110, 95, 103, 114, 111, 117, 112, 105, 110, 103, 95, 98]⟩⟩
def s_1p : Str := ⟨⟨[111, 117, 116, 95, 103, 114, 111, 117, 112, 105, 110, 103]⟩⟩
def s_1q : Str := ⟨⟨[103, 111, 95, 111, 117, 116, 95, 103, 114, 111, 117, 112, 105, 110, 103]⟩⟩
def s_1r : Str := ⟨⟨[111, 117, 116, 95, 103, 114, 111, 117, 112, 105, 110, 103, 95, 98]⟩⟩
def s_1s : Str := ⟨⟨[103, 111, 95, 111, 117, 116, 95, 103, 114, 111, 117, 112, 105, 110, 103, 95, 98]⟩⟩
def s_1t : Str := ⟨⟨[101, 113, 95, 115]⟩⟩
def s_1u : Str := ⟨⟨[101, 113, 95, 115, 95, 98]⟩⟩
def s_1v : Str := ⟨⟨[102, 105, 110, 100, 95, 97, 109, 111, 110, 103]⟩⟩
def s_1w : Str := ⟨⟨[102, 105, 110, 100, 95, 97, 109, 111, 110, 103, 95, 98]⟩⟩
def s_1x : Str := ⟨⟨[114, 101, 112, 108, 97, 99, 101, 95, 115]⟩⟩
def s_1y : Str := ⟨⟨[115, 108, 105, 99, 101, 95, 102, 114, 111, 109]⟩⟩
def s_1z : Str := ⟨⟨[115, 108, 105, 99, 101, 95, 100, 101, 108]⟩⟩
def s_20 : Str := ⟨⟨[105, 110, 115, 101, 114, 116]⟩⟩
def s_21 : Str := ⟨⟨[115, 108, 105, 99, 101, 95, 116, 111]⟩⟩
def s_22 : Str := ⟨⟨[97, 115, 115, 105, 103, 110, 95, 116, 111]⟩⟩
def s_23 : Str := ⟨⟨[115, 116, 101, 109, 87, 111, 114, 100]⟩⟩
def s_24 : Str := ⟨⟨[115, 116, 101, 109, 87, 111, 114, 100, 115]⟩⟩
def s_25 : Str := ⟨⟨[105]⟩⟩
def s_26 : Str := ⟨⟨[95, 95, 100, 105, 99, 116, 95, 95]⟩⟩
def s_27 : Str := ⟨⟨[97, 95, 52]⟩⟩
def s_28 : Str := ⟨⟨[114, 111, 111, 116]⟩⟩
def s_29 : Str := ⟨⟨[115, 110, 111, 119, 98, 97, 108, 108, 115, 116, 101, 109, 109, 101, 114, 46, 97, 109, 111, 110, 103]⟩⟩
def s_2a : Str := ⟨⟨[118, 95, 49]⟩⟩
def s_2b : Str := ⟨⟨[115, 99, 114, 105, 112, 116]⟩⟩
def s_2c : Str := ⟨⟨[66, 97, 115, 101, 83, 116, 101, 109, 109, 101, 114, 46, 95, 95, 105, 110, 105, 116, 95, 95]⟩⟩
def s_2d : Str := ⟨⟨[66, 97, 115, 101, 83, 116, 101, 109, 109, 101, 114, 46, 115, 101, 116, 95, 99, 117, 114, 114, 101, 110, 116]⟩⟩
def s_2e : Str := ⟨⟨[66, 97, 115, 101, 83, 116, 101, 109, 109, 101, 114, 46, 103, 101, 116, 95, 99, 117, 114, 114, 101, 110, 116]⟩⟩
def s_2f : Str := ⟨⟨[66, 97, 115, 101, 83, 116, 101, 109, 109, 101, 114, 46, 99, 111, 112, 121, 95, 102, 114, 111, 109]⟩⟩
def s_2g : Str := ⟨⟨[66, 97, 115, 101, 83, 116, 101, 109, 109, 101, 114, 46, 105, 110, 95, 103, 114, 111, 117, 112, 105, 110, 103]⟩⟩
def s_2h : Str := ⟨⟨[66, 97, 115, 101, 83, 116, 101, 109, 109, 101, 114, 46, 103, 111, 95, 105, 110, 95, 103, 114, 111, 117, 112, 105, 110, 103]⟩⟩
def s_2i : Str := ⟨⟨[66, 97, 115, 101, 83, 116, 101, 109, 109, 101, 114, 46, 105, 110, 95, 103, 114, 111, 117, 112, 105, 110, 103, 95, 98]⟩⟩
def s_2j : Str := ⟨⟨[66, 97, 115, 101, 83, 116, 101, 109, 109, 101, 114, 46, 103, 111, 95, 105, 110, 95, 103, 114, 111, 117, 112, 105, 110, 103, 95, 98]⟩⟩
def s_2k : Str := ⟨⟨[66, 97, 115, 101, 83, 116, 101, 109, 109, 101, 114, 46, 111, 117, 116, 95, 103, 114, 111, 117, 112, 105, 110, 103]⟩⟩
def s_2l : Str := ⟨⟨[66, 97, 115, 101, 83, 116, 101, 109, 109, 101, 114, 46, 103, 111, 95, 111, 117, 116, 95, 103, 114, 111, 117, 112, 105, 110, 103]⟩⟩
def s_2m : Str := ⟨⟨[66, 97, 115, 101, 83, 116, 101, 109, 109, 101, 114, 46, 111, 117, 116, 95, 103, 114, 111, 117, 112, 105, 110, 103, 95, 98]⟩⟩
def s_2n : Str := ⟨⟨[66, 97, 115, 101, 83, 116, 101, 109, 109, 101, 114, 46, 103, 111, 95, 111, 117, 116, 95, 103, 114, 111, 117, 112, 105, 110, 103, 95, 98]⟩⟩
def s_2o : Str := ⟨⟨[66, 97, 115, 101, 83, 116, 101, 109, 109, 101, 114, 46, 101, 113, 95, 115]⟩⟩
def s_2p : Str := ⟨⟨[66, 97, 115, 101, 83, 116, 101, 109, 109, 101, 114, 46, 101, 113, 95, 115, 95, 98]⟩⟩
def s_2q : Str := ⟨⟨[66, 97, 115, 101, 83, 116, 101, 109, 109, 101, 114, 46, 102, 105, 110, 100, 95, 97, 109, 111, 110, 103]⟩⟩
def s_2r : Str := ⟨⟨[66, 97, 115, 101, 83, 116, 101, 109, 109, 101, 114, 46, 102, 105, 110, 100, 95, 97, 109, 111, 110, 103, 95, 98]⟩⟩
def s_2s : Str := ⟨⟨[66, 97, 115, 101, 83, 116, 101, 109, 109, 101, 114, 46, 114, 101, 112, 108, 97, 99, 101, 95, 115]⟩⟩
def s_2t : Str := ⟨⟨[66, 97, 115, 101, 83, 116, 101, 109, 109, 101, 114, 46, 115, 108, 105, 99, 101, 95, 102, 114, 111, 109]⟩⟩
def s_2u : Str := ⟨⟨[66, 97, 115, 101, 83, 116, 101, 109, 109, 101, 114, 46, 115, 108, 105, 99, 101, 95, 100, 101, 108]⟩⟩
def s_2v : Str := ⟨⟨[66, 97, 115, 101, 83, 116, 101, 109, 109, 101, 114, 46, 105, 110, 115, 101, 114, 116]⟩⟩
def s_2w : Str := ⟨⟨[66, 97, 115, 101, 83, 116, 101, 109, 109, 101, 114, 46, 115, 108, 105, 99, 101, 95, 116, 111]⟩⟩
def s_2x : Str := ⟨⟨[66, 97, 115, 101, 83, 116, 101, 109, 109, 101, 114, 46, 97, 115, 115, 105, 103, 110, 95, 116, 111]⟩⟩
def s_2y : Str := ⟨⟨[119, 111, 114, 100]⟩⟩
def s_2z : Str := ⟨⟨[66, 97, 115, 101, 83, 116, 101, 109, 109, 101, 114, 46, 115, 116, 101, 109, 87, 111, 114, 100]⟩⟩
def s_30 : Str := ⟨⟨[66, 97, 115, 101, 83, 116, 101, 109, 109, 101, 114, 46, 115, 116, 101, 109, 87, 111, 114, 100, 115]⟩⟩
def s_31 : Str := ⟨⟨[65, 109, 111, 110, 103, 46, 95, 95, 105, 110, 105, 116, 95, 95]⟩⟩
def s_32 : Str := ⟨⟨[73, 110, 100, 111, 110, 101, 115, 105, 97, 110, 83, 116, 101, 109, 109, 101, 114, 46, 114, 95, 114, 101, 109, 111, 118, 101, 95, 112, 97, 114, 116, 105, 99, 108, 101]⟩⟩
def s_33 : Str := ⟨⟨[73, 110, 100, 111, 110, 101, 115, 105, 97, 110, 83, 116, 101, 109, 109, 101, 114, 46, 114, 95, 114, 101, 109, 111, 118, 101, 95, 112, 111, 115, 115, 101, 115, 115, 105, 118, 101, 95, 112, 114, 111, 110, 111, 117, 110]⟩⟩
def s_34 : Str := ⟨⟨[97, 109, 111, 110, 103, 95, 118, 97, 114]⟩⟩
def s_35 : Str := ⟨⟨[73, 110, 100, 111, 110, 101, 115, 105, 97, 110, 83, 116, 101, 109, 109, 101, 114, 46, 114, 95, 114, 101, 109, 111, 118, 101, 95, 115, 117, 102, 102, 105, 120]⟩⟩
def s_36 : Str := ⟨⟨[118, 95, 50]⟩⟩
def s_37 : Str := ⟨⟨[73, 110, 100, 111, 110, 101, 115, 105, 97, 110, 83, 116, 101, 109, 109, 101, 114, 46, 114, 95, 114, 101, 109, 111, 118, 101, 95, 102, 105, 114, 115, 116, 95, 111, 114, 100, 101, 114, 95, 112, 114, 101, 102, 105, 120]⟩⟩
def s_38 : Str := ⟨⟨[73, 110, 100, 111, 110, 101, 115, 105, 97, 110, 83, 116, 101, 109, 109, 101, 114, 46, 114, 95, 114, 101, 109, 111, 118, 101, 95, 115, 101, 99, 111, 110, 100, 95, 111, 114, 100, 101, 114, 95, 112, 114, 101, 102, 105, 120]⟩⟩
def s_39 : Str := ⟨⟨[73, 110, 100, 111, 110, 101, 115, 105, 97, 110, 83, 116, 101, 109, 109, 101, 114, 46, 95, 115, 116, 101, 109]⟩⟩
def s_3a : Str := ⟨⟨[104, 97, 114, 100]⟩⟩
def s_3b : Str := ⟨⟨[60, 109, 111, 100, 117, 108, 101, 62]⟩⟩
def s_3c : Str := ⟨⟨[95, 95, 109, 97, 105, 110, 95, 95]⟩⟩
def s_3d : Str := ⟨⟨[99, 111, 109, 109, 111, 110, 95, 105]⟩⟩
def s_3e : Str := ⟨⟨[99, 111, 109, 109, 111, 110, 95, 106]⟩⟩
def s_3f : Str := ⟨⟨[102, 105, 114, 115, 116, 95, 107, 101, 121, 95, 105, 110, 115, 112, 101, 99, 116, 101, 100]⟩⟩
def s_3g : Str := ⟨⟨[99, 111, 109, 109, 111, 110]⟩⟩
def s_3h : Str := ⟨⟨[99, 117, 114, 115, 111, 114]⟩⟩
def s_3i : Str := ⟨⟨[108, 105, 109, 105, 116, 95, 98, 97, 99, 107, 119, 97, 114, 100]⟩⟩
def s_3j : Str := ⟨⟨[116, 121, 112, 101, 46, 95, 95, 115, 117, 98, 99, 108, 97, 115, 115, 101, 115, 95, 95, 46, 69, 120, 99, 101, 112, 116, 105, 111, 110, 46, 48]⟩⟩
def s_3k : Str := ⟨⟨[116, 121, 112, 101, 46, 95, 95, 115, 117, 98, 99, 108, 97, 115, 115, 101, 115, 95, 95, 46, 69, 120, 99, 101, 112, 116, 105, 111, 110, 46, 110]⟩⟩
def s_3l : Str := ⟨⟨[116, 121, 112, 101, 46, 95, 95, 115, 117, 98, 99, 108, 97, 115, 115, 101, 115, 95, 95, 46, 69, 120, 99, 101, 112, 116, 105, 111, 110, 46, 49]⟩⟩
def s_3m : Str := ⟨⟨[95, 108, 97, 119, 95, 99, 111, 110, 115, 111, 110, 97, 110, 116, 115]⟩⟩
def s_3n : Str := ⟨⟨[95, 108, 97, 119, 95, 104, 97, 114, 100, 115]⟩⟩
def s_3o : Str := ⟨⟨[95, 108, 97, 119, 95, 108, 97, 115, 116, 115]⟩⟩
def s_3p : Str := ⟨⟨[95, 108, 97, 119, 95, 118, 111, 119, 101, 108, 115]⟩⟩
def bd : List Stmt := PySem.Challenge.pw_af0030_01.main.body
def tp (i : Nat) : Stmt := stAt bd i
def inr (i j : Nat) : Stmt := stAt (fBody (tp i)) j
def T0 (P : Params) : BT := (nd (boot_o_0 P) (nd (boot_o_1 P) (nd (boot_o_3 P) (lf (boot_o_7 P)) .nil) (nd (boot_o_5 P) (lf (boot_o_9 P)) .nil)) (nd (boot_o_2 P) (nd (boot_o_4 P) (lf (boot_o_8 P)) .nil) (nd (boot_o_6 P) (lf (boot_o_10 P)) .nil)))
def S0 (w : World) (os : OsState) (life : Life) : SharedT := ⟨T0 w.params, 11, life, ⟨[]⟩, ⟨0, 0, 0, 0⟩, 181, os⟩
def x0 : Obj := ⟨(.type "tuple"), none, (.seq ⟨[]⟩ 0), ⟨[]⟩⟩
def x1 : Obj := ⟨.none, none, (.fields ⟨[]⟩), ⟨[]⟩⟩
def x2 : Obj := ⟨(.type "code"), none, (.fields ⟨[(.str s_3b 182), (.str s_3b 183), (.str s_0 184), (iz 1), (iz 0), (iz 0), (iz 0), (iz 0), (.ref 11), (.bool false), (iz 181), (.ref 12), .none, .none, .none, .none, (iz 185), (iz 1), (.str s_0 186)]⟩), ⟨[]⟩⟩
def x3 : Obj := ⟨(.type "frame"), none, .plain, ⟨[(some (.ref 13)), (some (.ref 3)), (some (.ref 3)), none, (some (.str s_3c 164)), none, (some (.ref 0))]⟩⟩
def T1 (P : Params) : BT := (nd (boot_o_0 P) (nd (boot_o_1 P) (nd (boot_o_3 P) (lf (boot_o_7 P)) (lf x0)) (nd (boot_o_5 P) (lf (boot_o_9 P)) (lf x2))) (nd (boot_o_2 P) (nd (boot_o_4 P) (lf (boot_o_8 P)) (lf x1)) (nd (boot_o_6 P) (lf (boot_o_10 P)) (lf x3))))
def S1 (w : World) (os : OsState) (life : Life) : SharedT := ⟨T1 w.params, 15, life, ⟨[]⟩, ⟨0, 0, 0, 0⟩, 187, os⟩
def env : Env := ⟨PySem.Challenge.pw_af0030_01.main.scope, 3, 3, [], ⟨⟨[]⟩⟩, none, (.ref 13), (some 14), 0⟩
def cM : Code := .body bd env
def BM : List Frame := [topFrame ⟨0, 0, 0, 0⟩]
def Q0 : Prop := ∀ (w : World) (os : OsState) (life : Life), goK (denote treeTable) PySem.Challenge.pw_af0030_01 w 0 12 (S0 w os life) (topStub PySem.Challenge.pw_af0030_01) = some (S1 w os life, ⟨denote treeTable cM, cM, ⟨0, 0, 0, 0⟩, BM⟩)
lay_quick Q0
theorem q0 : Q0 := by rw [PySem.W.Fast.te14834047983706831396]; delta PySem.W.Fast.tw14834047983706831396; intros; kernel_rfl
def x4 (P : Params) : Obj := ⟨(.type "dict"), none, (.dict ⟨[(en P s_x 165 (.str s_7 194)), (en P s_c 166 .none), (en P s_y 167 .none), (en P s_z 168 (.builtin "__main__.__loader__#opaque")), (en P s_10 169 .none), (en P s_11 170 (.ref 6)), (en P s_12 171 (.ref 4)), (en P s_13 173 (.str s_0 172)), (en P s_14 174 .none), (en P s_n 193 (.ref 21)), (en P s_b 435 (.ref 197))]⟩ 11), ⟨[]⟩⟩
def x5 : Obj := ⟨.none, none, (.fields ⟨[(iz 1), (iz 0), (.ref 20), (iz 5), (iz 0), (.ref 27)]⟩), ⟨[]⟩⟩
def x6 : Obj := ⟨(.type "tuple"), none, (.seq ⟨[]⟩ 0), ⟨[]⟩⟩
def x7 : Obj := ⟨.none, none, (.fields ⟨[]⟩), ⟨[]⟩⟩
def x8 : Obj := ⟨(.type "tuple"), none, (.seq ⟨[(.str ⟨⟨[107]⟩⟩ 190)]⟩ 0), ⟨[]⟩⟩
def x9 : Obj := ⟨(.type "tuple"), none, (.seq ⟨[]⟩ 0), ⟨[]⟩⟩
def xa : Obj := ⟨.none, none, (.func ⟨s_n, s_n, fPar (tp 0), .stmts (fBody (tp 0)), fScope (tp 0), 0, [], .none, .none, .none, .none, none, .none, .none, 0⟩), ⟨[]⟩⟩
def xb : Obj := ⟨(.type "code"), none, (.fields ⟨[(.str s_n 187), (.str s_n 188), (.str s_0 189), (iz 1), (iz 1), (iz 0), (iz 0), (iz 3), (.ref 15), (.bool true), (iz 181), (.ref 16), .none, (.ref 17), (.ref 18), (.ref 19), (iz 191), (iz 1), (.str s_0 192)]⟩), ⟨[]⟩⟩
def xc : Obj := ⟨(.type "function"), none, (.func ⟨s_n, s_n, fPar (tp 0), .stmts (fBody (tp 0)), fScope (tp 0), 3, [], .none, .none, .none, (.str s_3c 164), none, (.ref 20), .none, 0⟩), ⟨[]⟩⟩
def xd : Obj := ⟨(.type "tuple"), none, (.seq ⟨[]⟩ 0), ⟨[]⟩⟩
def xe : Obj := ⟨(.type "builtin_function_or_method"), none, (.fields ⟨[(.builtin "type.__prepare__"), (.type "type")]⟩), ⟨[]⟩⟩
def xf (P : Params) : Obj := ⟨(.type "dict"), none, (.dict ⟨[(en P s_5 203 (.str s_7 194)), (en P s_8 205 (.str s_b 204)), (en P s_6 207 (.int (.ofNat 5) 206)), (en P s_o 214 (.ref 35)), (en P s_1i 222 (.ref 42)), (en P s_1j 229 (.ref 49)), (en P s_1k 237 (.ref 56)), (en P s_1l 245 (.ref 63)), (en P s_1m 253 (.ref 70)), (en P s_1n 261 (.ref 77)), (en P s_1o 269 (.ref 84)), (en P s_1p 277 (.ref 91)), (en P s_1q 285 (.ref 98)), (en P s_1r 293 (.ref 105)), (en P s_1s 301 (.ref 112)), (en P s_1t 309 (.ref 119)), (en P s_1u 317 (.ref 126)), (en P s_1v 337 (.ref 133)), (en P s_1w 357 (.ref 140)), (en P s_1x 368 (.ref 147)), (en P s_1y 376 (.ref 154)), (en P s_1z 383 (.ref 161)), (en P s_20 393 (.ref 168)), (en P s_21 400 (.ref 175)), (en P s_22 407 (.ref 182)), (en P s_23 415 (.ref 189)), (en P s_24 421 (.ref 194)), (en P s_a 428 (.ref 195))]⟩ 28), ⟨[]⟩⟩
def xg : Obj := ⟨(.type "tuple"), none, (.seq ⟨[]⟩ 0), ⟨[]⟩⟩
def xh : Obj := ⟨.none, none, (.fields ⟨[(iz 7), (iz 4), (.ref 34), (iz 10), (iz 4), (.ref 41), (iz 18), (iz 4), (.ref 48), (iz 21), (iz 4), (.ref 55), (iz 24), (iz 4), (.ref 62), (iz 32), (iz 4), (.ref 69), (iz 35), (iz 4), (.ref 76), (iz 38), (iz 4), (.ref 83), (iz 41), (iz 4), (.ref 90), (iz 49), (iz 4), (.ref 97), (iz 56), (iz 4), (.ref 104), (iz 59), (iz 4), (.ref 111), (iz 62), (iz 4), (.ref 118), (iz 68), (iz 4), (.ref 125), (iz 71), (iz 4), (.ref 132), (iz 116), (iz 4), (.ref 139), (iz 161), (iz 4), (.ref 146), (iz 171), (iz 4), (.ref 153), (iz 179), (iz 4), (.ref 160), (iz 182), (iz 4), (.ref 167), (iz 185), (iz 4), (.ref 174), (iz 188), (iz 4), (.ref 181), (iz 191), (iz 4), (.ref 188), (iz 196), (iz 4), (.ref 193)]⟩), ⟨[]⟩⟩
def xi : Obj := ⟨(.type "code"), none, (.fields ⟨[(.str s_b 198), (.str s_b 199), (.str s_0 200), (iz 5), (iz 0), (iz 0), (iz 0), (iz 0), (.ref 25), (.bool false), (iz 181), (.ref 26), .none, .none, .none, .none, (iz 201), (iz 5), (.str s_0 202)]⟩), ⟨[]⟩⟩
def xj : Obj := ⟨(.type "frame"), none, .plain, ⟨[(some (.ref 27)), (some (.ref 3)), (some (.ref 24)), none, (some (.str s_7 194)), none, (some (.ref 0))]⟩⟩
def xk : Obj := ⟨(.type "tuple"), none, (.seq ⟨[]⟩ 0), ⟨[]⟩⟩
def xl : Obj := ⟨.none, none, (.fields ⟨[]⟩), ⟨[]⟩⟩
def xm : Obj := ⟨(.type "tuple"), none, (.seq ⟨[(.str s_4 211)]⟩ 0), ⟨[]⟩⟩
def xn : Obj := ⟨(.type "tuple"), none, (.seq ⟨[]⟩ 0), ⟨[]⟩⟩
def xo : Obj := ⟨.none, none, (.func ⟨s_o, s_2c, fPar (inr 2 0), .stmts (fBody (inr 2 0)), fScope (inr 2 0), 0, [], .none, .none, .none, .none, none, .none, .none, 0⟩), ⟨[]⟩⟩
def xp : Obj := ⟨(.type "code"), none, (.fields ⟨[(.str s_o 208), (.str s_2c 209), (.str s_0 210), (iz 7), (iz 1), (iz 0), (iz 0), (iz 3), (.ref 29), (.bool true), (iz 181), (.ref 30), .none, (.ref 31), (.ref 32), (.ref 33), (iz 212), (iz 7), (.str s_0 213)]⟩), ⟨[]⟩⟩
def xq : Obj := ⟨(.type "function"), none, (.func ⟨s_o, s_2c, fPar (inr 2 0), .stmts (fBody (inr 2 0)), fScope (inr 2 0), 3, [], .none, .none, .none, (.str s_7 194), none, (.ref 34), .none, 0⟩), ⟨[]⟩⟩
def xr : Obj := ⟨(.type "tuple"), none, (.seq ⟨[]⟩ 0), ⟨[]⟩⟩
def xs : Obj := ⟨.none, none, (.fields ⟨[]⟩), ⟨[]⟩⟩
def xt : Obj := ⟨(.type "tuple"), none, (.seq ⟨[(.str s_4 218), (.str ⟨⟨[118, 97, 108, 117, 101]⟩⟩ 219)]⟩ 0), ⟨[]⟩⟩
def xu : Obj := ⟨(.type "tuple"), none, (.seq ⟨[]⟩ 0), ⟨[]⟩⟩
def xv : Obj := ⟨.none, none, (.func ⟨s_1i, s_2d, fPar (inr 2 1), .stmts (fBody (inr 2 1)), fScope (inr 2 1), 0, [], .none, .none, .none, .none, none, .none, .none, 0⟩), ⟨[]⟩⟩
def xw : Obj := ⟨(.type "code"), none, (.fields ⟨[(.str s_1i 215), (.str s_2d 216), (.str s_0 217), (iz 10), (iz 2), (iz 0), (iz 0), (iz 3), (.ref 36), (.bool true), (iz 181), (.ref 37), .none, (.ref 38), (.ref 39), (.ref 40), (iz 220), (iz 10), (.str s_0 221)]⟩), ⟨[]⟩⟩
def xx : Obj := ⟨(.type "function"), none, (.func ⟨s_1i, s_2d, fPar (inr 2 1), .stmts (fBody (inr 2 1)), fScope (inr 2 1), 3, [], .none, .none, .none, (.str s_7 194), none, (.ref 41), .none, 0⟩), ⟨[]⟩⟩
def xy : Obj := ⟨(.type "tuple"), none, (.seq ⟨[]⟩ 0), ⟨[]⟩⟩
def xz : Obj := ⟨.none, none, (.fields ⟨[]⟩), ⟨[]⟩⟩
def x10 : Obj := ⟨(.type "tuple"), none, (.seq ⟨[(.str s_4 226)]⟩ 0), ⟨[]⟩⟩
def x11 : Obj := ⟨(.type "tuple"), none, (.seq ⟨[]⟩ 0), ⟨[]⟩⟩
def x12 : Obj := ⟨.none, none, (.func ⟨s_1j, s_2e, fPar (inr 2 2), .stmts (fBody (inr 2 2)), fScope (inr 2 2), 0, [], .none, .none, .none, .none, none, .none, .none, 0⟩), ⟨[]⟩⟩
def x13 : Obj := ⟨(.type "code"), none, (.fields ⟨[(.str s_1j 223), (.str s_2e 224), (.str s_0 225), (iz 18), (iz 1), (iz 0), (iz 0), (iz 3), (.ref 43), (.bool true), (iz 181), (.ref 44), .none, (.ref 45), (.ref 46), (.ref 47), (iz 227), (iz 18), (.str s_0 228)]⟩), ⟨[]⟩⟩
def x14 : Obj := ⟨(.type "function"), none, (.func ⟨s_1j, s_2e, fPar (inr 2 2), .stmts (fBody (inr 2 2)), fScope (inr 2 2), 3, [], .none, .none, .none, (.str s_7 194), none, (.ref 48), .none, 0⟩), ⟨[]⟩⟩
def x15 : Obj := ⟨(.type "tuple"), none, (.seq ⟨[]⟩ 0), ⟨[]⟩⟩
def x16 : Obj := ⟨.none, none, (.fields ⟨[]⟩), ⟨[]⟩⟩
def x17 : Obj := ⟨(.type "tuple"), none, (.seq ⟨[(.str s_4 233), (.str ⟨⟨[111, 116, 104, 101, 114]⟩⟩ 234)]⟩ 0), ⟨[]⟩⟩
def x18 : Obj := ⟨(.type "tuple"), none, (.seq ⟨[]⟩ 0), ⟨[]⟩⟩
def x19 : Obj := ⟨.none, none, (.func ⟨s_1k, s_2f, fPar (inr 2 3), .stmts (fBody (inr 2 3)), fScope (inr 2 3), 0, [], .none, .none, .none, .none, none, .none, .none, 0⟩), ⟨[]⟩⟩
def x1a : Obj := ⟨(.type "code"), none, (.fields ⟨[(.str s_1k 230), (.str s_2f 231), (.str s_0 232), (iz 21), (iz 2), (iz 0), (iz 0), (iz 3), (.ref 50), (.bool true), (iz 181), (.ref 51), .none, (.ref 52), (.ref 53), (.ref 54), (iz 235), (iz 21), (.str s_0 236)]⟩), ⟨[]⟩⟩
def x1b : Obj := ⟨(.type "function"), none, (.func ⟨s_1k, s_2f, fPar (inr 2 3), .stmts (fBody (inr 2 3)), fScope (inr 2 3), 3, [], .none, .none, .none, (.str s_7 194), none, (.ref 55), .none, 0⟩), ⟨[]⟩⟩
def x1c : Obj := ⟨(.type "tuple"), none, (.seq ⟨[]⟩ 0), ⟨[]⟩⟩
def x1d : Obj := ⟨.none, none, (.fields ⟨[]⟩), ⟨[]⟩⟩
def x1e : Obj := ⟨(.type "tuple"), none, (.seq ⟨[(.str s_4 241), (.str s_1 242)]⟩ 0), ⟨[]⟩⟩
def x1f : Obj := ⟨(.type "tuple"), none, (.seq ⟨[]⟩ 0), ⟨[]⟩⟩
def x1g : Obj := ⟨.none, none, (.func ⟨s_1l, s_2g, fPar (inr 2 4), .stmts (fBody (inr 2 4)), fScope (inr 2 4), 0, [], .none, .none, .none, .none, none, .none, .none, 0⟩), ⟨[]⟩⟩
def x1h : Obj := ⟨(.type "code"), none, (.fields ⟨[(.str s_1l 238), (.str s_2g 239), (.str s_0 240), (iz 24), (iz 2), (iz 0), (iz 0), (iz 3), (.ref 57), (.bool true), (iz 181), (.ref 58), .none, (.ref 59), (.ref 60), (.ref 61), (iz 243), (iz 24), (.str s_0 244)]⟩), ⟨[]⟩⟩
def x1i : Obj := ⟨(.type "function"), none, (.func ⟨s_1l, s_2g, fPar (inr 2 4), .stmts (fBody (inr 2 4)), fScope (inr 2 4), 3, [], .none, .none, .none, (.str s_7 194), none, (.ref 62), .none, 0⟩), ⟨[]⟩⟩
def x1j : Obj := ⟨(.type "tuple"), none, (.seq ⟨[]⟩ 0), ⟨[]⟩⟩
def x1k : Obj := ⟨.none, none, (.fields ⟨[]⟩), ⟨[]⟩⟩
def x1l : Obj := ⟨(.type "tuple"), none, (.seq ⟨[(.str s_4 249), (.str s_1 250)]⟩ 0), ⟨[]⟩⟩
def x1m : Obj := ⟨(.type "tuple"), none, (.seq ⟨[]⟩ 0), ⟨[]⟩⟩
def x1n : Obj := ⟨.none, none, (.func ⟨s_1m, s_2h, fPar (inr 2 5), .stmts (fBody (inr 2 5)), fScope (inr 2 5), 0, [], .none, .none, .none, .none, none, .none, .none, 0⟩), ⟨[]⟩⟩
def x1o : Obj := ⟨(.type "code"), none, (.fields ⟨[(.str s_1m 246), (.str s_2h 247), (.str s_0 248), (iz 32), (iz 2), (iz 0), (iz 0), (iz 3), (.ref 64), (.bool true), (iz 181), (.ref 65), .none, (.ref 66), (.ref 67), (.ref 68), (iz 251), (iz 32), (.str s_0 252)]⟩), ⟨[]⟩⟩
def x1p : Obj := ⟨(.type "function"), none, (.func ⟨s_1m, s_2h, fPar (inr 2 5), .stmts (fBody (inr 2 5)), fScope (inr 2 5), 3, [], .none, .none, .none, (.str s_7 194), none, (.ref 69), .none, 0⟩), ⟨[]⟩⟩
def x1q : Obj := ⟨(.type "tuple"), none, (.seq ⟨[]⟩ 0), ⟨[]⟩⟩
def x1r : Obj := ⟨.none, none, (.fields ⟨[]⟩), ⟨[]⟩⟩
def x1s : Obj := ⟨(.type "tuple"), none, (.seq ⟨[(.str s_4 257), (.str s_1 258)]⟩ 0), ⟨[]⟩⟩
def x1t : Obj := ⟨(.type "tuple"), none, (.seq ⟨[]⟩ 0), ⟨[]⟩⟩
def x1u : Obj := ⟨.none, none, (.func ⟨s_1n, s_2i, fPar (inr 2 6), .stmts (fBody (inr 2 6)), fScope (inr 2 6), 0, [], .none, .none, .none, .none, none, .none, .none, 0⟩), ⟨[]⟩⟩
def x1v : Obj := ⟨(.type "code"), none, (.fields ⟨[(.str s_1n 254), (.str s_2i 255), (.str s_0 256), (iz 35), (iz 2), (iz 0), (iz 0), (iz 3), (.ref 71), (.bool true), (iz 181), (.ref 72), .none, (.ref 73), (.ref 74), (.ref 75), (iz 259), (iz 35), (.str s_0 260)]⟩), ⟨[]⟩⟩
def x1w : Obj := ⟨(.type "function"), none, (.func ⟨s_1n, s_2i, fPar (inr 2 6), .stmts (fBody (inr 2 6)), fScope (inr 2 6), 3, [], .none, .none, .none, (.str s_7 194), none, (.ref 76), .none, 0⟩), ⟨[]⟩⟩
def x1x : Obj := ⟨(.type "tuple"), none, (.seq ⟨[]⟩ 0), ⟨[]⟩⟩
def x1y : Obj := ⟨.none, none, (.fields ⟨[]⟩), ⟨[]⟩⟩
def x1z : Obj := ⟨(.type "tuple"), none, (.seq ⟨[(.str s_4 265), (.str s_1 266)]⟩ 0), ⟨[]⟩⟩
def x20 : Obj := ⟨(.type "tuple"), none, (.seq ⟨[]⟩ 0), ⟨[]⟩⟩
def x21 : Obj := ⟨.none, none, (.func ⟨s_1o, s_2j, fPar (inr 2 7), .stmts (fBody (inr 2 7)), fScope (inr 2 7), 0, [], .none, .none, .none, .none, none, .none, .none, 0⟩), ⟨[]⟩⟩
def x22 : Obj := ⟨(.type "code"), none, (.fields ⟨[(.str s_1o 262), (.str s_2j 263), (.str s_0 264), (iz 38), (iz 2), (iz 0), (iz 0), (iz 3), (.ref 78), (.bool true), (iz 181), (.ref 79), .none, (.ref 80), (.ref 81), (.ref 82), (iz 267), (iz 38), (.str s_0 268)]⟩), ⟨[]⟩⟩
def x23 : Obj := ⟨(.type "function"), none, (.func ⟨s_1o, s_2j, fPar (inr 2 7), .stmts (fBody (inr 2 7)), fScope (inr 2 7), 3, [], .none, .none, .none, (.str s_7 194), none, (.ref 83), .none, 0⟩), ⟨[]⟩⟩
def x24 : Obj := ⟨(.type "tuple"), none, (.seq ⟨[]⟩ 0), ⟨[]⟩⟩
def x25 : Obj := ⟨.none, none, (.fields ⟨[]⟩), ⟨[]⟩⟩
def x26 : Obj := ⟨(.type "tuple"), none, (.seq ⟨[(.str s_4 273), (.str s_1 274)]⟩ 0), ⟨[]⟩⟩
def x27 : Obj := ⟨(.type "tuple"), none, (.seq ⟨[]⟩ 0), ⟨[]⟩⟩
def x28 : Obj := ⟨.none, none, (.func ⟨s_1p, s_2k, fPar (inr 2 8), .stmts (fBody (inr 2 8)), fScope (inr 2 8), 0, [], .none, .none, .none, .none, none, .none, .none, 0⟩), ⟨[]⟩⟩
def x29 : Obj := ⟨(.type "code"), none, (.fields ⟨[(.str s_1p 270), (.str s_2k 271), (.str s_0 272), (iz 41), (iz 2), (iz 0), (iz 0), (iz 3), (.ref 85), (.bool true), (iz 181), (.ref 86), .none, (.ref 87), (.ref 88), (.ref 89), (iz 275), (iz 41), (.str s_0 276)]⟩), ⟨[]⟩⟩
def x2a : Obj := ⟨(.type "function"), none, (.func ⟨s_1p, s_2k, fPar (inr 2 8), .stmts (fBody (inr 2 8)), fScope (inr 2 8), 3, [], .none, .none, .none, (.str s_7 194), none, (.ref 90), .none, 0⟩), ⟨[]⟩⟩
def x2b : Obj := ⟨(.type "tuple"), none, (.seq ⟨[]⟩ 0), ⟨[]⟩⟩
def x2c : Obj := ⟨.none, none, (.fields ⟨[]⟩), ⟨[]⟩⟩
def x2d : Obj := ⟨(.type "tuple"), none, (.seq ⟨[(.str s_4 281), (.str s_1 282)]⟩ 0), ⟨[]⟩⟩
def x2e : Obj := ⟨(.type "tuple"), none, (.seq ⟨[]⟩ 0), ⟨[]⟩⟩
def x2f : Obj := ⟨.none, none, (.func ⟨s_1q, s_2l, fPar (inr 2 9), .stmts (fBody (inr 2 9)), fScope (inr 2 9), 0, [], .none, .none, .none, .none, none, .none, .none, 0⟩), ⟨[]⟩⟩
def x2g : Obj := ⟨(.type "code"), none, (.fields ⟨[(.str s_1q 278), (.str s_2l 279), (.str s_0 280), (iz 49), (iz 2), (iz 0), (iz 0), (iz 3), (.ref 92), (.bool true), (iz 181), (.ref 93), .none, (.ref 94), (.ref 95), (.ref 96), (iz 283), (iz 49), (.str s_0 284)]⟩), ⟨[]⟩⟩
def x2h : Obj := ⟨(.type "function"), none, (.func ⟨s_1q, s_2l, fPar (inr 2 9), .stmts (fBody (inr 2 9)), fScope (inr 2 9), 3, [], .none, .none, .none, (.str s_7 194), none, (.ref 97), .none, 0⟩), ⟨[]⟩⟩
def x2i : Obj := ⟨(.type "tuple"), none, (.seq ⟨[]⟩ 0), ⟨[]⟩⟩
def x2j : Obj := ⟨.none, none, (.fields ⟨[]⟩), ⟨[]⟩⟩
def x2k : Obj := ⟨(.type "tuple"), none, (.seq ⟨[(.str s_4 289), (.str s_1 290)]⟩ 0), ⟨[]⟩⟩
def x2l : Obj := ⟨(.type "tuple"), none, (.seq ⟨[]⟩ 0), ⟨[]⟩⟩
def x2m : Obj := ⟨.none, none, (.func ⟨s_1r, s_2m, fPar (inr 2 10), .stmts (fBody (inr 2 10)), fScope (inr 2 10), 0, [], .none, .none, .none, .none, none, .none, .none, 0⟩), ⟨[]⟩⟩
def x2n : Obj := ⟨(.type "code"), none, (.fields ⟨[(.str s_1r 286), (.str s_2m 287), (.str s_0 288), (iz 56), (iz 2), (iz 0), (iz 0), (iz 3), (.ref 99), (.bool true), (iz 181), (.ref 100), .none, (.ref 101), (.ref 102), (.ref 103), (iz 291), (iz 56), (.str s_0 292)]⟩), ⟨[]⟩⟩
def x2o : Obj := ⟨(.type "function"), none, (.func ⟨s_1r, s_2m, fPar (inr 2 10), .stmts (fBody (inr 2 10)), fScope (inr 2 10), 3, [], .none, .none, .none, (.str s_7 194), none, (.ref 104), .none, 0⟩), ⟨[]⟩⟩
def x2p : Obj := ⟨(.type "tuple"), none, (.seq ⟨[]⟩ 0), ⟨[]⟩⟩
def x2q : Obj := ⟨.none, none, (.fields ⟨[]⟩), ⟨[]⟩⟩
def x2r : Obj := ⟨(.type "tuple"), none, (.seq ⟨[(.str s_4 297), (.str s_1 298)]⟩ 0), ⟨[]⟩⟩
def x2s : Obj := ⟨(.type "tuple"), none, (.seq ⟨[]⟩ 0), ⟨[]⟩⟩
def x2t : Obj := ⟨.none, none, (.func ⟨s_1s, s_2n, fPar (inr 2 11), .stmts (fBody (inr 2 11)), fScope (inr 2 11), 0, [], .none, .none, .none, .none, none, .none, .none, 0⟩), ⟨[]⟩⟩
def x2u : Obj := ⟨(.type "code"), none, (.fields ⟨[(.str s_1s 294), (.str s_2n 295), (.str s_0 296), (iz 59), (iz 2), (iz 0), (iz 0), (iz 3), (.ref 106), (.bool true), (iz 181), (.ref 107), .none, (.ref 108), (.ref 109), (.ref 110), (iz 299), (iz 59), (.str s_0 300)]⟩), ⟨[]⟩⟩
def x2v : Obj := ⟨(.type "function"), none, (.func ⟨s_1s, s_2n, fPar (inr 2 11), .stmts (fBody (inr 2 11)), fScope (inr 2 11), 3, [], .none, .none, .none, (.str s_7 194), none, (.ref 111), .none, 0⟩), ⟨[]⟩⟩
def x2w : Obj := ⟨(.type "tuple"), none, (.seq ⟨[]⟩ 0), ⟨[]⟩⟩
def x2x : Obj := ⟨.none, none, (.fields ⟨[]⟩), ⟨[]⟩⟩
def x2y : Obj := ⟨(.type "tuple"), none, (.seq ⟨[(.str s_4 305), (.str s_1 306)]⟩ 0), ⟨[]⟩⟩
def x2z : Obj := ⟨(.type "tuple"), none, (.seq ⟨[]⟩ 0), ⟨[]⟩⟩
def x30 : Obj := ⟨.none, none, (.func ⟨s_1t, s_2o, fPar (inr 2 12), .stmts (fBody (inr 2 12)), fScope (inr 2 12), 0, [], .none, .none, .none, .none, none, .none, .none, 0⟩), ⟨[]⟩⟩
def x31 : Obj := ⟨(.type "code"), none, (.fields ⟨[(.str s_1t 302), (.str s_2o 303), (.str s_0 304), (iz 62), (iz 2), (iz 0), (iz 0), (iz 3), (.ref 113), (.bool true), (iz 181), (.ref 114), .none, (.ref 115), (.ref 116), (.ref 117), (iz 307), (iz 62), (.str s_0 308)]⟩), ⟨[]⟩⟩
def x32 : Obj := ⟨(.type "function"), none, (.func ⟨s_1t, s_2o, fPar (inr 2 12), .stmts (fBody (inr 2 12)), fScope (inr 2 12), 3, [], .none, .none, .none, (.str s_7 194), none, (.ref 118), .none, 0⟩), ⟨[]⟩⟩
def x33 : Obj := ⟨(.type "tuple"), none, (.seq ⟨[]⟩ 0), ⟨[]⟩⟩
def x34 : Obj := ⟨.none, none, (.fields ⟨[]⟩), ⟨[]⟩⟩
def x35 : Obj := ⟨(.type "tuple"), none, (.seq ⟨[(.str s_4 313), (.str s_1 314)]⟩ 0), ⟨[]⟩⟩
def x36 : Obj := ⟨(.type "tuple"), none, (.seq ⟨[]⟩ 0), ⟨[]⟩⟩
def x37 : Obj := ⟨.none, none, (.func ⟨s_1u, s_2p, fPar (inr 2 13), .stmts (fBody (inr 2 13)), fScope (inr 2 13), 0, [], .none, .none, .none, .none, none, .none, .none, 0⟩), ⟨[]⟩⟩
def x38 : Obj := ⟨(.type "code"), none, (.fields ⟨[(.str s_1u 310), (.str s_2p 311), (.str s_0 312), (iz 68), (iz 2), (iz 0), (iz 0), (iz 3), (.ref 120), (.bool true), (iz 181), (.ref 121), .none, (.ref 122), (.ref 123), (.ref 124), (iz 315), (iz 68), (.str s_0 316)]⟩), ⟨[]⟩⟩
def x39 : Obj := ⟨(.type "function"), none, (.func ⟨s_1u, s_2p, fPar (inr 2 13), .stmts (fBody (inr 2 13)), fScope (inr 2 13), 3, [], .none, .none, .none, (.str s_7 194), none, (.ref 125), .none, 0⟩), ⟨[]⟩⟩
def x3a : Obj := ⟨(.type "tuple"), none, (.seq ⟨[]⟩ 0), ⟨[]⟩⟩
def x3b : Obj := ⟨.none, none, (.fields ⟨[]⟩), ⟨[]⟩⟩
def x3c : Obj := ⟨(.type "tuple"), none, (.seq ⟨[(.str s_4 321), (.str ⟨⟨[118]⟩⟩ 322), (.str s_25 323), (.str ⟨⟨[106]⟩⟩ 324), (.str ⟨⟨[99]⟩⟩ 325), (.str ⟨⟨[108]⟩⟩ 326), (.str s_3d 327), (.str s_3e 328), (.str s_3f 329), (.str ⟨⟨[107]⟩⟩ 330), (.str ⟨⟨[100, 105, 102, 102]⟩⟩ 331), (.str s_3g 332), (.str ⟨⟨[119]⟩⟩ 333), (.str ⟨⟨[105, 50]⟩⟩ 334)]⟩ 0), ⟨[]⟩⟩
def x3d : Obj := ⟨(.type "tuple"), none, (.seq ⟨[]⟩ 0), ⟨[]⟩⟩
def x3e : Obj := ⟨.none, none, (.func ⟨s_1v, s_2q, fPar (inr 2 14), .stmts (fBody (inr 2 14)), fScope (inr 2 14), 0, [], .none, .none, .none, .none, none, .none, .none, 0⟩), ⟨[]⟩⟩
def x3f : Obj := ⟨(.type "code"), none, (.fields ⟨[(.str s_1v 318), (.str s_2q 319), (.str s_0 320), (iz 71), (iz 2), (iz 0), (iz 0), (iz 3), (.ref 127), (.bool true), (iz 181), (.ref 128), .none, (.ref 129), (.ref 130), (.ref 131), (iz 335), (iz 71), (.str s_0 336)]⟩), ⟨[]⟩⟩
def x3g : Obj := ⟨(.type "function"), none, (.func ⟨s_1v, s_2q, fPar (inr 2 14), .stmts (fBody (inr 2 14)), fScope (inr 2 14), 3, [], .none, .none, .none, (.str s_7 194), none, (.ref 132), .none, 0⟩), ⟨[]⟩⟩
def x3h : Obj := ⟨(.type "tuple"), none, (.seq ⟨[]⟩ 0), ⟨[]⟩⟩
def x3i : Obj := ⟨.none, none, (.fields ⟨[]⟩), ⟨[]⟩⟩
def x3j : Obj := ⟨(.type "tuple"), none, (.seq ⟨[(.str s_4 341), (.str ⟨⟨[118]⟩⟩ 342), (.str s_25 343), (.str ⟨⟨[106]⟩⟩ 344), (.str ⟨⟨[99]⟩⟩ 345), (.str ⟨⟨[108, 98]⟩⟩ 346), (.str s_3d 347), (.str s_3e 348), (.str s_3f 349), (.str ⟨⟨[107]⟩⟩ 350), (.str ⟨⟨[100, 105, 102, 102]⟩⟩ 351), (.str s_3g 352), (.str ⟨⟨[119]⟩⟩ 353), (.str ⟨⟨[105, 50]⟩⟩ 354)]⟩ 0), ⟨[]⟩⟩
def x3k : Obj := ⟨(.type "tuple"), none, (.seq ⟨[]⟩ 0), ⟨[]⟩⟩
def x3l : Obj := ⟨.none, none, (.func ⟨s_1w, s_2r, fPar (inr 2 15), .stmts (fBody (inr 2 15)), fScope (inr 2 15), 0, [], .none, .none, .none, .none, none, .none, .none, 0⟩), ⟨[]⟩⟩
def x3m : Obj := ⟨(.type "code"), none, (.fields ⟨[(.str s_1w 338), (.str s_2r 339), (.str s_0 340), (iz 116), (iz 2), (iz 0), (iz 0), (iz 3), (.ref 134), (.bool true), (iz 181), (.ref 135), .none, (.ref 136), (.ref 137), (.ref 138), (iz 355), (iz 116), (.str s_0 356)]⟩), ⟨[]⟩⟩
def x3n : Obj := ⟨(.type "function"), none, (.func ⟨s_1w, s_2r, fPar (inr 2 15), .stmts (fBody (inr 2 15)), fScope (inr 2 15), 3, [], .none, .none, .none, (.str s_7 194), none, (.ref 139), .none, 0⟩), ⟨[]⟩⟩
def x3o : Obj := ⟨(.type "tuple"), none, (.seq ⟨[]⟩ 0), ⟨[]⟩⟩
def x3p : Obj := ⟨.none, none, (.fields ⟨[]⟩), ⟨[]⟩⟩
def x3q : Obj := ⟨(.type "tuple"), none, (.seq ⟨[(.str s_4 361), (.str ⟨⟨[99, 95, 98, 114, 97]⟩⟩ 362), (.str ⟨⟨[99, 95, 107, 101, 116]⟩⟩ 363), (.str s_1 364), (.str ⟨⟨[97, 100, 106, 117, 115, 116, 109, 101, 110, 116]⟩⟩ 365)]⟩ 0), ⟨[]⟩⟩
def x3r : Obj := ⟨(.type "tuple"), none, (.seq ⟨[]⟩ 0), ⟨[]⟩⟩
def x3s : Obj := ⟨.none, none, (.func ⟨s_1x, s_2s, fPar (inr 2 16), .stmts (fBody (inr 2 16)), fScope (inr 2 16), 0, [], .none, .none, .none, .none, none, .none, .none, 0⟩), ⟨[]⟩⟩
def x3t : Obj := ⟨(.type "code"), none, (.fields ⟨[(.str s_1x 358), (.str s_2s 359), (.str s_0 360), (iz 161), (iz 4), (iz 0), (iz 0), (iz 3), (.ref 141), (.bool true), (iz 181), (.ref 142), .none, (.ref 143), (.ref 144), (.ref 145), (iz 366), (iz 161), (.str s_0 367)]⟩), ⟨[]⟩⟩
def x3u : Obj := ⟨(.type "function"), none, (.func ⟨s_1x, s_2s, fPar (inr 2 16), .stmts (fBody (inr 2 16)), fScope (inr 2 16), 3, [], .none, .none, .none, (.str s_7 194), none, (.ref 146), .none, 0⟩), ⟨[]⟩⟩
def x3v : Obj := ⟨(.type "tuple"), none, (.seq ⟨[]⟩ 0), ⟨[]⟩⟩
def x3w : Obj := ⟨.none, none, (.fields ⟨[]⟩), ⟨[]⟩⟩
def x3x : Obj := ⟨(.type "tuple"), none, (.seq ⟨[(.str s_4 372), (.str s_1 373)]⟩ 0), ⟨[]⟩⟩
def x3y : Obj := ⟨(.type "tuple"), none, (.seq ⟨[]⟩ 0), ⟨[]⟩⟩
def x3z : Obj := ⟨.none, none, (.func ⟨s_1y, s_2t, fPar (inr 2 17), .stmts (fBody (inr 2 17)), fScope (inr 2 17), 0, [], .none, .none, .none, .none, none, .none, .none, 0⟩), ⟨[]⟩⟩
def x40 : Obj := ⟨(.type "code"), none, (.fields ⟨[(.str s_1y 369), (.str s_2t 370), (.str s_0 371), (iz 171), (iz 2), (iz 0), (iz 0), (iz 3), (.ref 148), (.bool true), (iz 181), (.ref 149), .none, (.ref 150), (.ref 151), (.ref 152), (iz 374), (iz 171), (.str s_0 375)]⟩), ⟨[]⟩⟩
def x41 : Obj := ⟨(.type "function"), none, (.func ⟨s_1y, s_2t, fPar (inr 2 17), .stmts (fBody (inr 2 17)), fScope (inr 2 17), 3, [], .none, .none, .none, (.str s_7 194), none, (.ref 153), .none, 0⟩), ⟨[]⟩⟩
def x42 : Obj := ⟨(.type "tuple"), none, (.seq ⟨[]⟩ 0), ⟨[]⟩⟩
def x43 : Obj := ⟨.none, none, (.fields ⟨[]⟩), ⟨[]⟩⟩
def x44 : Obj := ⟨(.type "tuple"), none, (.seq ⟨[(.str s_4 380)]⟩ 0), ⟨[]⟩⟩
def x45 : Obj := ⟨(.type "tuple"), none, (.seq ⟨[]⟩ 0), ⟨[]⟩⟩
def x46 : Obj := ⟨.none, none, (.func ⟨s_1z, s_2u, fPar (inr 2 18), .stmts (fBody (inr 2 18)), fScope (inr 2 18), 0, [], .none, .none, .none, .none, none, .none, .none, 0⟩), ⟨[]⟩⟩
def x47 : Obj := ⟨(.type "code"), none, (.fields ⟨[(.str s_1z 377), (.str s_2u 378), (.str s_0 379), (iz 179), (iz 1), (iz 0), (iz 0), (iz 3), (.ref 155), (.bool true), (iz 181), (.ref 156), .none, (.ref 157), (.ref 158), (.ref 159), (iz 381), (iz 179), (.str s_0 382)]⟩), ⟨[]⟩⟩
def x48 : Obj := ⟨(.type "function"), none, (.func ⟨s_1z, s_2u, fPar (inr 2 18), .stmts (fBody (inr 2 18)), fScope (inr 2 18), 3, [], .none, .none, .none, (.str s_7 194), none, (.ref 160), .none, 0⟩), ⟨[]⟩⟩
def x49 : Obj := ⟨(.type "tuple"), none, (.seq ⟨[]⟩ 0), ⟨[]⟩⟩
def x4a : Obj := ⟨.none, none, (.fields ⟨[]⟩), ⟨[]⟩⟩
def x4b : Obj := ⟨(.type "tuple"), none, (.seq ⟨[(.str s_4 387), (.str ⟨⟨[99, 95, 98, 114, 97]⟩⟩ 388), (.str ⟨⟨[99, 95, 107, 101, 116]⟩⟩ 389), (.str s_1 390)]⟩ 0), ⟨[]⟩⟩
def x4c : Obj := ⟨(.type "tuple"), none, (.seq ⟨[]⟩ 0), ⟨[]⟩⟩
def x4d : Obj := ⟨.none, none, (.func ⟨s_20, s_2v, fPar (inr 2 19), .stmts (fBody (inr 2 19)), fScope (inr 2 19), 0, [], .none, .none, .none, .none, none, .none, .none, 0⟩), ⟨[]⟩⟩
def x4e : Obj := ⟨(.type "code"), none, (.fields ⟨[(.str s_20 384), (.str s_2v 385), (.str s_0 386), (iz 182), (iz 4), (iz 0), (iz 0), (iz 3), (.ref 162), (.bool true), (iz 181), (.ref 163), .none, (.ref 164), (.ref 165), (.ref 166), (iz 391), (iz 182), (.str s_0 392)]⟩), ⟨[]⟩⟩
def x4f : Obj := ⟨(.type "function"), none, (.func ⟨s_20, s_2v, fPar (inr 2 19), .stmts (fBody (inr 2 19)), fScope (inr 2 19), 3, [], .none, .none, .none, (.str s_7 194), none, (.ref 167), .none, 0⟩), ⟨[]⟩⟩
def x4g : Obj := ⟨(.type "tuple"), none, (.seq ⟨[]⟩ 0), ⟨[]⟩⟩
def x4h : Obj := ⟨.none, none, (.fields ⟨[]⟩), ⟨[]⟩⟩
def x4i : Obj := ⟨(.type "tuple"), none, (.seq ⟨[(.str s_4 397)]⟩ 0), ⟨[]⟩⟩
def x4j : Obj := ⟨(.type "tuple"), none, (.seq ⟨[]⟩ 0), ⟨[]⟩⟩
def x4k : Obj := ⟨.none, none, (.func ⟨s_21, s_2w, fPar (inr 2 20), .stmts (fBody (inr 2 20)), fScope (inr 2 20), 0, [], .none, .none, .none, .none, none, .none, .none, 0⟩), ⟨[]⟩⟩
def x4l : Obj := ⟨(.type "code"), none, (.fields ⟨[(.str s_21 394), (.str s_2w 395), (.str s_0 396), (iz 185), (iz 1), (iz 0), (iz 0), (iz 3), (.ref 169), (.bool true), (iz 181), (.ref 170), .none, (.ref 171), (.ref 172), (.ref 173), (iz 398), (iz 185), (.str s_0 399)]⟩), ⟨[]⟩⟩
def x4m : Obj := ⟨(.type "function"), none, (.func ⟨s_21, s_2w, fPar (inr 2 20), .stmts (fBody (inr 2 20)), fScope (inr 2 20), 3, [], .none, .none, .none, (.str s_7 194), none, (.ref 174), .none, 0⟩), ⟨[]⟩⟩
def x4n : Obj := ⟨(.type "tuple"), none, (.seq ⟨[]⟩ 0), ⟨[]⟩⟩
def x4o : Obj := ⟨.none, none, (.fields ⟨[]⟩), ⟨[]⟩⟩
def x4p : Obj := ⟨(.type "tuple"), none, (.seq ⟨[(.str s_4 404)]⟩ 0), ⟨[]⟩⟩
def x4q : Obj := ⟨(.type "tuple"), none, (.seq ⟨[]⟩ 0), ⟨[]⟩⟩
def x4r : Obj := ⟨.none, none, (.func ⟨s_22, s_2x, fPar (inr 2 21), .stmts (fBody (inr 2 21)), fScope (inr 2 21), 0, [], .none, .none, .none, .none, none, .none, .none, 0⟩), ⟨[]⟩⟩
def x4s : Obj := ⟨(.type "code"), none, (.fields ⟨[(.str s_22 401), (.str s_2x 402), (.str s_0 403), (iz 188), (iz 1), (iz 0), (iz 0), (iz 3), (.ref 176), (.bool true), (iz 181), (.ref 177), .none, (.ref 178), (.ref 179), (.ref 180), (iz 405), (iz 188), (.str s_0 406)]⟩), ⟨[]⟩⟩
def x4t : Obj := ⟨(.type "function"), none, (.func ⟨s_22, s_2x, fPar (inr 2 21), .stmts (fBody (inr 2 21)), fScope (inr 2 21), 3, [], .none, .none, .none, (.str s_7 194), none, (.ref 181), .none, 0⟩), ⟨[]⟩⟩
def x4u : Obj := ⟨(.type "tuple"), none, (.seq ⟨[]⟩ 0), ⟨[]⟩⟩
def x4v : Obj := ⟨.none, none, (.fields ⟨[]⟩), ⟨[]⟩⟩
def x4w : Obj := ⟨(.type "tuple"), none, (.seq ⟨[(.str s_4 411), (.str s_2y 412)]⟩ 0), ⟨[]⟩⟩
def x4x : Obj := ⟨(.type "tuple"), none, (.seq ⟨[]⟩ 0), ⟨[]⟩⟩
def x4y : Obj := ⟨.none, none, (.func ⟨s_23, s_2z, fPar (inr 2 22), .stmts (fBody (inr 2 22)), fScope (inr 2 22), 0, [], .none, .none, .none, .none, none, .none, .none, 0⟩), ⟨[]⟩⟩
def x4z : Obj := ⟨(.type "code"), none, (.fields ⟨[(.str s_23 408), (.str s_2z 409), (.str s_0 410), (iz 191), (iz 2), (iz 0), (iz 0), (iz 3), (.ref 183), (.bool true), (iz 181), (.ref 184), .none, (.ref 185), (.ref 186), (.ref 187), (iz 413), (iz 191), (.str s_0 414)]⟩), ⟨[]⟩⟩
def x50 : Obj := ⟨(.type "function"), none, (.func ⟨s_23, s_2z, fPar (inr 2 22), .stmts (fBody (inr 2 22)), fScope (inr 2 22), 3, [], .none, .none, .none, (.str s_7 194), none, (.ref 188), .none, 0⟩), ⟨[]⟩⟩
def x51 : Obj := ⟨(.type "tuple"), none, (.seq ⟨[]⟩ 0), ⟨[]⟩⟩
def x52 : Obj := ⟨.none, none, (.fields ⟨[]⟩), ⟨[]⟩⟩
def x53 : Obj := ⟨.none, none, (.func ⟨s_24, s_30, fPar (inr 2 23), .stmts (fBody (inr 2 23)), fScope (inr 2 23), 0, [], .none, .none, .none, .none, none, .none, .none, 0⟩), ⟨[]⟩⟩
def x54 : Obj := ⟨(.type "code"), none, (.fields ⟨[(.str s_24 416), (.str s_30 417), (.str s_0 418), (iz 196), (iz 2), (iz 0), (iz 0), (iz 3), (.ref 190), (.bool true), (iz 181), (.ref 191), .none, .none, .none, (.ref 192), (iz 419), (iz 196), (.str s_0 420)]⟩), ⟨[]⟩⟩
def x55 : Obj := ⟨(.type "function"), none, (.func ⟨s_24, s_30, fPar (inr 2 23), .stmts (fBody (inr 2 23)), fScope (inr 2 23), 3, [], .none, .none, .none, (.str s_7 194), none, (.ref 193), .none, 0⟩), ⟨[]⟩⟩
def x56 : Obj := ⟨(.type "tuple"), none, (.seq ⟨[(.str ⟨⟨[98, 114, 97]⟩⟩ 422), (.str ⟨⟨[99, 117, 114, 114, 101, 110, 116]⟩⟩ 423), (.str s_3h 424), (.str ⟨⟨[107, 101, 116]⟩⟩ 425), (.str ⟨⟨[108, 105, 109, 105, 116]⟩⟩ 426), (.str s_3i 427)]⟩ 0), ⟨[]⟩⟩
def x57 (P : Params) : Obj := ⟨(.type "dict"), none, (.dict ⟨[(en P s_5 203 (.str s_7 194)), (en P s_6 207 (.int (.ofNat 5) 206)), (en P s_o 214 (.ref 35)), (en P s_1i 222 (.ref 42)), (en P s_1j 229 (.ref 49)), (en P s_1k 237 (.ref 56)), (en P s_1l 245 (.ref 63)), (en P s_1m 253 (.ref 70)), (en P s_1n 261 (.ref 77)), (en P s_1o 269 (.ref 84)), (en P s_1p 277 (.ref 91)), (en P s_1q 285 (.ref 98)), (en P s_1r 293 (.ref 105)), (en P s_1s 301 (.ref 112)), (en P s_1t 309 (.ref 119)), (en P s_1u 317 (.ref 126)), (en P s_1v 337 (.ref 133)), (en P s_1w 357 (.ref 140)), (en P s_1x 368 (.ref 147)), (en P s_1y 376 (.ref 154)), (en P s_1z 383 (.ref 161)), (en P s_20 393 (.ref 168)), (en P s_21 400 (.ref 175)), (en P s_22 407 (.ref 182)), (en P s_23 415 (.ref 189)), (en P s_24 421 (.ref 194)), (en P s_a 428 (.ref 195)), (en P s_26 430 (.ref 198)), (en P s_r 432 (.ref 199)), (en P s_c 433 .none)]⟩ 4), ⟨[]⟩⟩
def x58 : Obj := ⟨(.type "type"), none, (.cls ⟨s_b, [(.type "object")], [(.ref 197), (.type "object")], 196, s_b, true, [], [], false, none, false⟩), ⟨[none, none, (some (.str s_b 196)), (some (.str s_b 204)), (some (.builtin "object.__new__")), (some (.bool true))]⟩⟩
def x59 : Obj := ⟨(.type "getset_descriptor"), none, (.fields ⟨[(.str s_26 429), (.ref 197), (.builtin "function.__dict__"), (.builtin "function.__dict__#set")]⟩), ⟨[]⟩⟩
def x5a : Obj := ⟨(.type "getset_descriptor"), none, (.fields ⟨[(.str s_r 431), (.ref 197), (.builtin "ExceptionGroup.__weakref__"), .none]⟩), ⟨[]⟩⟩
def x5b : Obj := ⟨(.type "super"), none, (.fields ⟨[(.ref 197), (.ref 197), (.ref 197)]⟩), ⟨[]⟩⟩
def x5c : Obj := ⟨(.type "builtin_function_or_method"), none, (.fields ⟨[(.builtin "object.__init_subclass__"), (.ref 197)]⟩), ⟨[]⟩⟩
def T2 (P : Params) : BT := (nd (boot_o_0 P) (nd (boot_o_1 P) (nd (x4 P) (nd (boot_o_7 P) (nd x6 (nd xm (nd x1i (lf x3a) (lf x52)) (nd x2e (lf x46) .nil)) (nd x12 (nd x1y (lf x3q) .nil) (nd x2u (lf x4m) .nil))) (nd xe (nd xu (nd x1q (lf x3i) (lf x5a)) (nd x2m (lf x4e) .nil)) (nd x1a (nd x26 (lf x3y) .nil) (nd x32 (lf x4u) .nil)))) (nd x0 (nd xa (nd xq (nd x1m (lf x3e) (lf x56)) (nd x2i (lf x4a) .nil)) (nd x16 (nd x22 (lf x3u) .nil) (nd x2y (lf x4q) .nil))) (nd xi (nd xy (nd x1u (lf x3m) .nil) (nd x2q (lf x4i) .nil)) (nd x1e (nd x2a (lf x42) .nil) (nd x36 (lf x4y) .nil))))) (nd (boot_o_5 P) (nd (boot_o_9 P) (nd x8 (nd xo (nd x1k (lf x3c) (lf x54)) (nd x2g (lf x48) .nil)) (nd x14 (nd x20 (lf x3s) .nil) (nd x2w (lf x4o) .nil))) (nd xg (nd xw (nd x1s (lf x3k) (lf x5c)) (nd x2o (lf x4g) .nil)) (nd x1c (nd x28 (lf x40) .nil) (nd x34 (lf x4w) .nil)))) (nd x2 (nd xc (nd xs (nd x1o (lf x3g) (lf x58)) (nd x2k (lf x4c) .nil)) (nd x18 (nd x24 (lf x3w) .nil) (nd x30 (lf x4s) .nil))) (nd xk (nd x10 (nd x1w (lf x3o) .nil) (nd x2s (lf x4k) .nil)) (nd x1g (nd x2c (lf x44) .nil) (nd x38 (lf x50) .nil)))))) (nd (boot_o_2 P) (nd (boot_o_4 P) (nd (boot_o_8 P) (nd x7 (nd xn (nd x1j (lf x3b) (lf x53)) (nd x2f (lf x47) .nil)) (nd x13 (nd x1z (lf x3r) .nil) (nd x2v (lf x4n) .nil))) (nd (xf P) (nd xv (nd x1r (lf x3j) (lf x5b)) (nd x2n (lf x4f) .nil)) (nd x1b (nd x27 (lf x3z) .nil) (nd x33 (lf x4v) .nil)))) (nd x5 (nd xb (nd xr (nd x1n (lf x3f) (lf (x57 P))) (nd x2j (lf x4b) .nil)) (nd x17 (nd x23 (lf x3v) .nil) (nd x2z (lf x4r) .nil))) (nd xj (nd xz (nd x1v (lf x3n) .nil) (nd x2r (lf x4j) .nil)) (nd x1f (nd x2b (lf x43) .nil) (nd x37 (lf x4z) .nil))))) (nd (boot_o_6 P) (nd (boot_o_10 P) (nd x9 (nd xp (nd x1l (lf x3d) (lf x55)) (nd x2h (lf x49) .nil)) (nd x15 (nd x21 (lf x3t) .nil) (nd x2x (lf x4p) .nil))) (nd xh (nd xx (nd x1t (lf x3l) .nil) (nd x2p (lf x4h) .nil)) (nd x1d (nd x29 (lf x41) .nil) (nd x35 (lf x4x) .nil)))) (nd x3 (nd xd (nd xt (nd x1p (lf x3h) (lf x59)) (nd x2l (lf x4d) .nil)) (nd x19 (nd x25 (lf x3x) .nil) (nd x31 (lf x4t) .nil))) (nd xl (nd x11 (nd x1x (lf x3p) .nil) (nd x2t (lf x4l) .nil)) (nd x1h (nd x2d (lf x45) .nil) (nd x39 (lf x51) .nil)))))))
def S2 (w : World) (os : OsState) (life : Life) : SharedT := ⟨T2 w.params, 202, life, ⟨[]⟩, ⟨0, 0, 0, 0⟩, 436, os⟩
def Q2 : Prop := ∀ (w : World) (os : OsState) (life : Life) (K : Flow → Sem PySem.Fin) (H : Value → Sem PySem.Fin), goK (denote treeTable) PySem.Challenge.pw_af0030_01 w 0 1021 (S1 w os life) ⟨(execs [tp 0, tp 1, tp 2] env).wrap K H id id, cM, ⟨0, 0, 0, 0⟩, BM⟩ = some (S2 w os life, ⟨K .next, cM, ⟨5, 0, 197, 54⟩, BM⟩)
lay_quick Q2
theorem q2 : Q2 := by rw [PySem.W.Fast.te656184162254034712]; delta PySem.W.Fast.tw656184162254034712; intros; kernel_rfl
def x5d (P : Params) : Obj := ⟨(.type "dict"), none, (.dict ⟨[(en P s_x 165 (.str s_9 471)), (en P s_c 166 .none), (en P s_y 167 .none), (en P s_z 168 (.builtin "__main__.__loader__#opaque")), (en P s_10 169 .none), (en P s_11 170 (.ref 6)), (en P s_12 171 (.ref 4)), (en P s_13 173 (.str s_0 172)), (en P s_14 174 .none), (en P s_n 193 (.ref 21)), (en P s_b 435 (.ref 197)), (en P s_p 470 (.ref 218))]⟩ 12), ⟨[]⟩⟩
def x5e : Obj := ⟨.none, none, (.fields ⟨[(iz 1), (iz 0), (.ref 20), (iz 5), (iz 0), (.ref 27), (iz 199), (iz 0), (.ref 207)]⟩), ⟨[]⟩⟩
def x5f : Obj := ⟨(.type "tuple"), none, (.seq ⟨[]⟩ 0), ⟨[]⟩⟩
def x5g : Obj := ⟨(.type "builtin_function_or_method"), none, (.fields ⟨[(.builtin "type.__prepare__"), (.type "type")]⟩), ⟨[]⟩⟩
def x5h (P : Params) : Obj := ⟨(.type "dict"), none, (.dict ⟨[(en P s_5 445 (.str s_29 436)), (en P s_8 447 (.str s_p 446)), (en P s_6 449 (.int (.ofNat 199) 448)), (en P s_o 459 (.ref 215)), (en P s_a 463 (.ref 216))]⟩ 5), ⟨[]⟩⟩
def x5i : Obj := ⟨(.type "tuple"), none, (.seq ⟨[]⟩ 0), ⟨[]⟩⟩
def x5j : Obj := ⟨.none, none, (.fields ⟨[(iz 201), (iz 4), (.ref 214)]⟩), ⟨[]⟩⟩
def x5k : Obj := ⟨(.type "code"), none, (.fields ⟨[(.str s_p 440), (.str s_p 441), (.str s_0 442), (iz 199), (iz 0), (iz 0), (iz 0), (iz 0), (.ref 205), (.bool false), (iz 181), (.ref 206), .none, .none, .none, .none, (iz 443), (iz 199), (.str s_0 444)]⟩), ⟨[]⟩⟩
def x5l : Obj := ⟨(.type "frame"), none, .plain, ⟨[(some (.ref 207)), (some (.ref 3)), (some (.ref 204)), none, (some (.str s_29 436)), none, (some (.ref 0))]⟩⟩
def x5m : Obj := ⟨(.type "tuple"), none, (.seq ⟨[]⟩ 0), ⟨[]⟩⟩
def x5n : Obj := ⟨.none, none, (.fields ⟨[]⟩), ⟨[]⟩⟩
def x5o : Obj := ⟨(.type "tuple"), none, (.seq ⟨[(.str s_4 453), (.str s_1 454), (.str s_2 455), (.str s_3 456)]⟩ 0), ⟨[]⟩⟩
def x5p : Obj := ⟨(.type "tuple"), none, (.seq ⟨[]⟩ 0), ⟨[]⟩⟩
def x5q : Obj := ⟨.none, none, (.func ⟨s_o, s_31, fPar (inr 4 0), .stmts (fBody (inr 4 0)), fScope (inr 4 0), 0, [], .none, .none, .none, .none, none, .none, .none, 0⟩), ⟨[]⟩⟩
def x5r : Obj := ⟨(.type "code"), none, (.fields ⟨[(.str s_o 450), (.str s_31 451), (.str s_0 452), (iz 201), (iz 4), (iz 0), (iz 0), (iz 3), (.ref 209), (.bool true), (iz 181), (.ref 210), .none, (.ref 211), (.ref 212), (.ref 213), (iz 457), (iz 201), (.str s_0 458)]⟩), ⟨[]⟩⟩
def x5s : Obj := ⟨(.type "function"), none, (.func ⟨s_o, s_31, fPar (inr 4 0), .stmts (fBody (inr 4 0)), fScope (inr 4 0), 3, [], .none, .none, .none, (.str s_29 436), none, (.ref 214), .none, 0⟩), ⟨[]⟩⟩
def x5t : Obj := ⟨(.type "tuple"), none, (.seq ⟨[(.str s_3 460), (.str s_1 461), (.str s_2 462)]⟩ 0), ⟨[]⟩⟩
def x5u (P : Params) : Obj := ⟨(.type "dict"), none, (.dict ⟨[(en P s_5 445 (.str s_29 436)), (en P s_6 449 (.int (.ofNat 199) 448)), (en P s_o 459 (.ref 215)), (en P s_a 463 (.ref 216)), (en P s_26 465 (.ref 219)), (en P s_r 467 (.ref 220)), (en P s_c 468 .none)]⟩ 4), ⟨[]⟩⟩
def x5v : Obj := ⟨(.type "type"), none, (.cls ⟨s_p, [(.type "object")], [(.ref 218), (.type "object")], 217, s_p, true, [], [], false, none, false⟩), ⟨[none, none, (some (.str s_p 438)), (some (.str s_p 446)), (some (.builtin "object.__new__")), (some (.bool true))]⟩⟩
def x5w : Obj := ⟨(.type "getset_descriptor"), none, (.fields ⟨[(.str s_26 464), (.ref 218), (.builtin "function.__dict__"), (.builtin "function.__dict__#set")]⟩), ⟨[]⟩⟩
def x5x : Obj := ⟨(.type "getset_descriptor"), none, (.fields ⟨[(.str s_r 466), (.ref 218), (.builtin "ExceptionGroup.__weakref__"), .none]⟩), ⟨[]⟩⟩
def x5y : Obj := ⟨(.type "super"), none, (.fields ⟨[(.ref 218), (.ref 218), (.ref 218)]⟩), ⟨[]⟩⟩
def x5z : Obj := ⟨(.type "builtin_function_or_method"), none, (.fields ⟨[(.builtin "object.__init_subclass__"), (.ref 218)]⟩), ⟨[]⟩⟩
def T3 (P : Params) : BT := (nd (boot_o_0 P) (nd (boot_o_1 P) (nd (x5d P) (nd (boot_o_7 P) (nd x6 (nd xm (nd x1i (lf x3a) (lf x52)) (nd x2e (lf x46) .nil)) (nd x12 (nd x1y (lf x3q) (lf x5k)) (nd x2u (lf x4m) .nil))) (nd xe (nd xu (nd x1q (lf x3i) (lf x5a)) (nd x2m (lf x4e) .nil)) (nd x1a (nd x26 (lf x3y) (lf x5s)) (nd x32 (lf x4u) .nil)))) (nd x0 (nd xa (nd xq (nd x1m (lf x3e) (lf x56)) (nd x2i (lf x4a) .nil)) (nd x16 (nd x22 (lf x3u) (lf x5o)) (nd x2y (lf x4q) .nil))) (nd xi (nd xy (nd x1u (lf x3m) (lf x5g)) (nd x2q (lf x4i) .nil)) (nd x1e (nd x2a (lf x42) (lf x5w)) (nd x36 (lf x4y) .nil))))) (nd (boot_o_5 P) (nd (boot_o_9 P) (nd x8 (nd xo (nd x1k (lf x3c) (lf x54)) (nd x2g (lf x48) .nil)) (nd x14 (nd x20 (lf x3s) (lf x5m)) (nd x2w (lf x4o) .nil))) (nd xg (nd xw (nd x1s (lf x3k) (lf x5c)) (nd x2o (lf x4g) .nil)) (nd x1c (nd x28 (lf x40) (lf (x5u P))) (nd x34 (lf x4w) .nil)))) (nd x2 (nd xc (nd xs (nd x1o (lf x3g) (lf x58)) (nd x2k (lf x4c) .nil)) (nd x18 (nd x24 (lf x3w) (lf x5q)) (nd x30 (lf x4s) .nil))) (nd xk (nd x10 (nd x1w (lf x3o) (lf x5i)) (nd x2s (lf x4k) .nil)) (nd x1g (nd x2c (lf x44) (lf x5y)) (nd x38 (lf x50) .nil)))))) (nd (boot_o_2 P) (nd (boot_o_4 P) (nd (boot_o_8 P) (nd x7 (nd xn (nd x1j (lf x3b) (lf x53)) (nd x2f (lf x47) .nil)) (nd x13 (nd x1z (lf x3r) (lf x5l)) (nd x2v (lf x4n) .nil))) (nd (xf P) (nd xv (nd x1r (lf x3j) (lf x5b)) (nd x2n (lf x4f) .nil)) (nd x1b (nd x27 (lf x3z) (lf x5t)) (nd x33 (lf x4v) .nil)))) (nd x5e (nd xb (nd xr (nd x1n (lf x3f) (lf (x57 P))) (nd x2j (lf x4b) .nil)) (nd x17 (nd x23 (lf x3v) (lf x5p)) (nd x2z (lf x4r) .nil))) (nd xj (nd xz (nd x1v (lf x3n) (lf (x5h P))) (nd x2r (lf x4j) .nil)) (nd x1f (nd x2b (lf x43) (lf x5x)) (nd x37 (lf x4z) .nil))))) (nd (boot_o_6 P) (nd (boot_o_10 P) (nd x9 (nd xp (nd x1l (lf x3d) (lf x55)) (nd x2h (lf x49) .nil)) (nd x15 (nd x21 (lf x3t) (lf x5n)) (nd x2x (lf x4p) .nil))) (nd xh (nd xx (nd x1t (lf x3l) (lf x5f)) (nd x2p (lf x4h) .nil)) (nd x1d (nd x29 (lf x41) (lf x5v)) (nd x35 (lf x4x) .nil)))) (nd x3 (nd xd (nd xt (nd x1p (lf x3h) (lf x59)) (nd x2l (lf x4d) .nil)) (nd x19 (nd x25 (lf x3x) (lf x5r)) (nd x31 (lf x4t) .nil))) (nd xl (nd x11 (nd x1x (lf x3p) (lf x5j)) (nd x2t (lf x4l) .nil)) (nd x1h (nd x2d (lf x45) (lf x5z)) (nd x39 (lf x51) .nil)))))))
def S3 (w : World) (os : OsState) (life : Life) : SharedT := ⟨T3 w.params, 223, life, ⟨[]⟩, ⟨0, 0, 0, 0⟩, 473, os⟩
def Q3 : Prop := ∀ (w : World) (os : OsState) (life : Life) (K : Flow → Sem PySem.Fin) (H : Value → Sem PySem.Fin), goK (denote treeTable) PySem.Challenge.pw_af0030_01 w 0 244 (S2 w os life) ⟨(execs [tp 3, tp 4, tp 5] env).wrap K H id id, cM, ⟨5, 0, 197, 54⟩, BM⟩ = some (S3 w os life, ⟨K .next, cM, ⟨205, 0, 205, 8⟩, BM⟩)
lay_quick Q3
theorem q3 : Q3 := by rw [PySem.W.Fast.te14962532762502850887]; delta PySem.W.Fast.tw14962532762502850887; intros; kernel_rfl
def x60 : Obj := ⟨.none, none, (.fields ⟨[(iz 1), (iz 0), (.ref 20), (iz 5), (iz 0), (.ref 27), (iz 199), (iz 0), (.ref 207), (iz 206), (iz 0), (.ref 228)]⟩), ⟨[]⟩⟩
def x61 : Obj := ⟨(.type "tuple"), none, (.seq ⟨[(.ref 197)]⟩ 0), ⟨[]⟩⟩
def x62 : Obj := ⟨(.type "builtin_function_or_method"), none, (.fields ⟨[(.builtin "type.__prepare__"), (.type "type")]⟩), ⟨[]⟩⟩
def x63 (P : Params) : Obj := ⟨(.type "dict"), none, (.dict ⟨[(en P s_5 480 (.str s_9 471)), (en P s_8 482 (.str s_d 481)), (en P s_6 484 (.int (.ofNat 206) 483))]⟩ 3), ⟨[]⟩⟩
def x64 : Obj := ⟨(.type "tuple"), none, (.seq ⟨[]⟩ 0), ⟨[]⟩⟩
def x65 : Obj := ⟨.none, none, (.fields ⟨[]⟩), ⟨[]⟩⟩
def x66 : Obj := ⟨(.type "code"), none, (.fields ⟨[(.str s_d 475), (.str s_d 476), (.str s_0 477), (iz 206), (iz 0), (iz 0), (iz 0), (iz 0), (.ref 226), (.bool false), (iz 181), (.ref 227), .none, .none, .none, .none, (iz 478), (iz 206), (.str s_0 479)]⟩), ⟨[]⟩⟩
def x67 : Obj := ⟨(.type "frame"), none, .plain, ⟨[(some (.ref 228)), (some (.ref 3)), (some (.ref 225)), none, (some (.str s_9 471)), none, (some (.ref 0))]⟩⟩
def TC (P : Params) : BT := (nd (boot_o_0 P) (nd (boot_o_1 P) (nd (x5d P) (nd (boot_o_7 P) (nd x6 (nd xm (nd x1i (lf x3a) (lf x52)) (nd x2e (lf x46) (lf x61))) (nd x12 (nd x1y (lf x3q) (lf x5k)) (nd x2u (lf x4m) .nil))) (nd xe (nd xu (nd x1q (lf x3i) (lf x5a)) (nd x2m (lf x4e) .nil)) (nd x1a (nd x26 (lf x3y) (lf x5s)) (nd x32 (lf x4u) .nil)))) (nd x0 (nd xa (nd xq (nd x1m (lf x3e) (lf x56)) (nd x2i (lf x4a) (lf x65))) (nd x16 (nd x22 (lf x3u) (lf x5o)) (nd x2y (lf x4q) .nil))) (nd xi (nd xy (nd x1u (lf x3m) (lf x5g)) (nd x2q (lf x4i) .nil)) (nd x1e (nd x2a (lf x42) (lf x5w)) (nd x36 (lf x4y) .nil))))) (nd (boot_o_5 P) (nd (boot_o_9 P) (nd x8 (nd xo (nd x1k (lf x3c) (lf x54)) (nd x2g (lf x48) (lf (x63 P)))) (nd x14 (nd x20 (lf x3s) (lf x5m)) (nd x2w (lf x4o) .nil))) (nd xg (nd xw (nd x1s (lf x3k) (lf x5c)) (nd x2o (lf x4g) .nil)) (nd x1c (nd x28 (lf x40) (lf (x5u P))) (nd x34 (lf x4w) .nil)))) (nd x2 (nd xc (nd xs (nd x1o (lf x3g) (lf x58)) (nd x2k (lf x4c) (lf x67))) (nd x18 (nd x24 (lf x3w) (lf x5q)) (nd x30 (lf x4s) .nil))) (nd xk (nd x10 (nd x1w (lf x3o) (lf x5i)) (nd x2s (lf x4k) .nil)) (nd x1g (nd x2c (lf x44) (lf x5y)) (nd x38 (lf x50) .nil)))))) (nd (boot_o_2 P) (nd (boot_o_4 P) (nd (boot_o_8 P) (nd x7 (nd xn (nd x1j (lf x3b) (lf x53)) (nd x2f (lf x47) (lf x62))) (nd x13 (nd x1z (lf x3r) (lf x5l)) (nd x2v (lf x4n) .nil))) (nd (xf P) (nd xv (nd x1r (lf x3j) (lf x5b)) (nd x2n (lf x4f) .nil)) (nd x1b (nd x27 (lf x3z) (lf x5t)) (nd x33 (lf x4v) .nil)))) (nd x60 (nd xb (nd xr (nd x1n (lf x3f) (lf (x57 P))) (nd x2j (lf x4b) (lf x66))) (nd x17 (nd x23 (lf x3v) (lf x5p)) (nd x2z (lf x4r) .nil))) (nd xj (nd xz (nd x1v (lf x3n) (lf (x5h P))) (nd x2r (lf x4j) .nil)) (nd x1f (nd x2b (lf x43) (lf x5x)) (nd x37 (lf x4z) .nil))))) (nd (boot_o_6 P) (nd (boot_o_10 P) (nd x9 (nd xp (nd x1l (lf x3d) (lf x55)) (nd x2h (lf x49) (lf x64))) (nd x15 (nd x21 (lf x3t) (lf x5n)) (nd x2x (lf x4p) .nil))) (nd xh (nd xx (nd x1t (lf x3l) (lf x5f)) (nd x2p (lf x4h) .nil)) (nd x1d (nd x29 (lf x41) (lf x5v)) (nd x35 (lf x4x) .nil)))) (nd x3 (nd xd (nd xt (nd x1p (lf x3h) (lf x59)) (nd x2l (lf x4d) .nil)) (nd x19 (nd x25 (lf x3x) (lf x5r)) (nd x31 (lf x4t) .nil))) (nd xl (nd x11 (nd x1x (lf x3p) (lf x5j)) (nd x2t (lf x4l) .nil)) (nd x1h (nd x2d (lf x45) (lf x5z)) (nd x39 (lf x51) .nil)))))))
def SC (w : World) (os : OsState) (life : Life) : SharedT := ⟨TC w.params, 230, life, ⟨[]⟩, ⟨0, 0, 0, 0⟩, 485, os⟩
def cb : List Stmt := fBody (tp 6)
def cenv : Env := ⟨fScope (tp 6), 225, 3, [], ⟨⟨[73, 110, 100, 111, 110, 101, 115, 105, 97, 110, 83, 116, 101, 109, 109, 101, 114, 46]⟩⟩, none, (.ref 228), (some 229), 0⟩
def cC : Code := .body cb cenv
def cAddr : Nat := 228
def thC (K : Flow → Sem PySem.Fin) (H : Value → Sem PySem.Fin) : Thread := ⟨(execs [tp 6] env).wrap K H id id, cM, ⟨205, 0, 205, 8⟩, BM⟩
def kk (w : World) (os : OsState) (life : Life) (K : Flow → Sem PySem.Fin) (H : Value → Sem PySem.Fin) : Result → Sem PySem.Fin := match goK (denote treeTable) PySem.Challenge.pw_af0030_01 w 0 64 (S3 w os life) (thC K H) with
  | some (_, ⟨_, _, _, .ret k _ _ _ _ _ _ :: _⟩) => k
  | _ => fun _ => .raise .none
def FC (k : Result → Sem PySem.Fin) : Frame := .ret k none false [(.ref 197), (.ref 223), (.ref 223), (.ref 225), (.ref 229)] cM ⟨206, 0, 515, 50⟩ []
def QC : Prop := ∀ (w : World) (os : OsState) (life : Life) (K : Flow → Sem PySem.Fin) (H : Value → Sem PySem.Fin), goK (denote treeTable) PySem.Challenge.pw_af0030_01 w 0 64 (S3 w os life) (thC K H) = some (SC w os life, ⟨denote treeTable cC, cC, ⟨206, 0, 515, 50⟩, FC (kk w os life K H) :: BM⟩)
lay_quick QC
theorem qC : QC := by rw [PySem.W.Fast.te526560216330195215]; delta PySem.W.Fast.tw526560216330195215; intros; kernel_rfl
def x68 (P : Params) (es : Array (Int × Value)) (ep : Nat) (st : SetTable) : Obj := ⟨(.type "set"), none, (.set es ep st), ⟨[]⟩⟩
def TD (P : Params) (es : Array (Int × Value)) (ep : Nat) (st : SetTable) : BT := (nd (boot_o_0 P) (nd (boot_o_1 P) (nd (x5d P) (nd (boot_o_7 P) (nd x6 (nd xm (nd x1i (lf x3a) (lf x52)) (nd x2e (lf x46) (lf x61))) (nd x12 (nd x1y (lf x3q) (lf x5k)) (nd x2u (lf x4m) .nil))) (nd xe (nd xu (nd x1q (lf x3i) (lf x5a)) (nd x2m (lf x4e) .nil)) (nd x1a (nd x26 (lf x3y) (lf x5s)) (nd x32 (lf x4u) .nil)))) (nd x0 (nd xa (nd xq (nd x1m (lf x3e) (lf x56)) (nd x2i (lf x4a) (lf x65))) (nd x16 (nd x22 (lf x3u) (lf x5o)) (nd x2y (lf x4q) .nil))) (nd xi (nd xy (nd x1u (lf x3m) (lf x5g)) (nd x2q (lf x4i) .nil)) (nd x1e (nd x2a (lf x42) (lf x5w)) (nd x36 (lf x4y) .nil))))) (nd (boot_o_5 P) (nd (boot_o_9 P) (nd x8 (nd xo (nd x1k (lf x3c) (lf x54)) (nd x2g (lf x48) (lf (x63 P)))) (nd x14 (nd x20 (lf x3s) (lf x5m)) (nd x2w (lf x4o) .nil))) (nd xg (nd xw (nd x1s (lf x3k) (lf x5c)) (nd x2o (lf x4g) .nil)) (nd x1c (nd x28 (lf x40) (lf (x5u P))) (nd x34 (lf x4w) .nil)))) (nd x2 (nd xc (nd xs (nd x1o (lf x3g) (lf x58)) (nd x2k (lf x4c) (lf x67))) (nd x18 (nd x24 (lf x3w) (lf x5q)) (nd x30 (lf x4s) .nil))) (nd xk (nd x10 (nd x1w (lf x3o) (lf x5i)) (nd x2s (lf x4k) .nil)) (nd x1g (nd x2c (lf x44) (lf x5y)) (nd x38 (lf x50) .nil)))))) (nd (boot_o_2 P) (nd (boot_o_4 P) (nd (boot_o_8 P) (nd x7 (nd xn (nd x1j (lf x3b) (lf x53)) (nd x2f (lf x47) (lf x62))) (nd x13 (nd x1z (lf x3r) (lf x5l)) (nd x2v (lf x4n) .nil))) (nd (xf P) (nd xv (nd x1r (lf x3j) (lf x5b)) (nd x2n (lf x4f) .nil)) (nd x1b (nd x27 (lf x3z) (lf x5t)) (nd x33 (lf x4v) .nil)))) (nd x60 (nd xb (nd xr (nd x1n (lf x3f) (lf (x57 P))) (nd x2j (lf x4b) (lf x66))) (nd x17 (nd x23 (lf x3v) (lf x5p)) (nd x2z (lf x4r) .nil))) (nd xj (nd xz (nd x1v (lf x3n) (lf (x5h P))) (nd x2r (lf x4j) .nil)) (nd x1f (nd x2b (lf x43) (lf x5x)) (nd x37 (lf x4z) .nil))))) (nd (boot_o_6 P) (nd (boot_o_10 P) (nd x9 (nd xp (nd x1l (lf x3d) (lf x55)) (nd x2h (lf x49) (lf x64))) (nd x15 (nd x21 (lf x3t) (lf x5n)) (nd x2x (lf x4p) .nil))) (nd xh (nd xx (nd x1t (lf x3l) (lf x5f)) (nd x2p (lf x4h) .nil)) (nd x1d (nd x29 (lf x41) (lf x5v)) (nd x35 (lf x4x) .nil)))) (nd x3 (nd xd (nd xt (nd x1p (lf x3h) (lf x59)) (nd x2l (lf x4d) (lf (x68 P es ep st)))) (nd x19 (nd x25 (lf x3x) (lf x5r)) (nd x31 (lf x4t) .nil))) (nd xl (nd x11 (nd x1x (lf x3p) (lf x5j)) (nd x2t (lf x4l) .nil)) (nd x1h (nd x2d (lf x45) (lf x5z)) (nd x39 (lf x51) .nil)))))))
def SD (w : World) (os : OsState) (life : Life) (es : Array (Int × Value)) (ep : Nat) (st : SetTable) : SharedT := ⟨TD w.params es ep st, 231, life, ⟨[]⟩, ⟨0, 0, 0, 0⟩, 495, os⟩
def gTgt : PySem.Expr := match tp 6 with | .ClassDef _ _ _ (.Assign [t] _ _ :: _) _ _ _ _ _ _ _ => t | _ => .Constant .none 0 ⟨0, 0, 0, 0⟩
def gVal : PySem.Expr := match tp 6 with | .ClassDef _ _ _ (.Assign _ v _ :: _) _ _ _ _ _ _ _ => v | _ => .Constant .none 0 ⟨0, 0, 0, 0⟩
def gPos : Pos := ⟨207, 4, 207, 39⟩
def gElts : List PySem.Expr := match gVal with | .Set es _ _ => es | _ => []
def gSpos : Pos := ⟨207, 14, 207, 39⟩
theorem gVal_eq : gVal = .Set gElts 0 gSpos := by kernel_rfl
theorem cb0_eq : stAt cb 0 = .Assign [gTgt] gVal gPos := by kernel_rfl
def RT (v : Value) : Sem Flow := do assignStores cenv v (← swappedStores [gTgt] gVal cenv) ((assignEach [gTgt] cenv).map (·.2))
def setA : Nat := 230
def x69 (P : Params) : Obj := ⟨(.type "dict"), none, (.dict ⟨[(en P s_5 480 (.str s_9 471)), (en P s_8 482 (.str s_d 481)), (en P s_6 484 (.int (.ofNat 206) 483)), (en P s_k 495 (.ref 230))]⟩ 4), ⟨[]⟩⟩
def TE (P : Params) (es : Array (Int × Value)) (ep : Nat) (st : SetTable) : BT := (nd (boot_o_0 P) (nd (boot_o_1 P) (nd (x5d P) (nd (boot_o_7 P) (nd x6 (nd xm (nd x1i (lf x3a) (lf x52)) (nd x2e (lf x46) (lf x61))) (nd x12 (nd x1y (lf x3q) (lf x5k)) (nd x2u (lf x4m) .nil))) (nd xe (nd xu (nd x1q (lf x3i) (lf x5a)) (nd x2m (lf x4e) .nil)) (nd x1a (nd x26 (lf x3y) (lf x5s)) (nd x32 (lf x4u) .nil)))) (nd x0 (nd xa (nd xq (nd x1m (lf x3e) (lf x56)) (nd x2i (lf x4a) (lf x65))) (nd x16 (nd x22 (lf x3u) (lf x5o)) (nd x2y (lf x4q) .nil))) (nd xi (nd xy (nd x1u (lf x3m) (lf x5g)) (nd x2q (lf x4i) .nil)) (nd x1e (nd x2a (lf x42) (lf x5w)) (nd x36 (lf x4y) .nil))))) (nd (boot_o_5 P) (nd (boot_o_9 P) (nd x8 (nd xo (nd x1k (lf x3c) (lf x54)) (nd x2g (lf x48) (lf (x69 P)))) (nd x14 (nd x20 (lf x3s) (lf x5m)) (nd x2w (lf x4o) .nil))) (nd xg (nd xw (nd x1s (lf x3k) (lf x5c)) (nd x2o (lf x4g) .nil)) (nd x1c (nd x28 (lf x40) (lf (x5u P))) (nd x34 (lf x4w) .nil)))) (nd x2 (nd xc (nd xs (nd x1o (lf x3g) (lf x58)) (nd x2k (lf x4c) (lf x67))) (nd x18 (nd x24 (lf x3w) (lf x5q)) (nd x30 (lf x4s) .nil))) (nd xk (nd x10 (nd x1w (lf x3o) (lf x5i)) (nd x2s (lf x4k) .nil)) (nd x1g (nd x2c (lf x44) (lf x5y)) (nd x38 (lf x50) .nil)))))) (nd (boot_o_2 P) (nd (boot_o_4 P) (nd (boot_o_8 P) (nd x7 (nd xn (nd x1j (lf x3b) (lf x53)) (nd x2f (lf x47) (lf x62))) (nd x13 (nd x1z (lf x3r) (lf x5l)) (nd x2v (lf x4n) .nil))) (nd (xf P) (nd xv (nd x1r (lf x3j) (lf x5b)) (nd x2n (lf x4f) .nil)) (nd x1b (nd x27 (lf x3z) (lf x5t)) (nd x33 (lf x4v) .nil)))) (nd x60 (nd xb (nd xr (nd x1n (lf x3f) (lf (x57 P))) (nd x2j (lf x4b) (lf x66))) (nd x17 (nd x23 (lf x3v) (lf x5p)) (nd x2z (lf x4r) .nil))) (nd xj (nd xz (nd x1v (lf x3n) (lf (x5h P))) (nd x2r (lf x4j) .nil)) (nd x1f (nd x2b (lf x43) (lf x5x)) (nd x37 (lf x4z) .nil))))) (nd (boot_o_6 P) (nd (boot_o_10 P) (nd x9 (nd xp (nd x1l (lf x3d) (lf x55)) (nd x2h (lf x49) (lf x64))) (nd x15 (nd x21 (lf x3t) (lf x5n)) (nd x2x (lf x4p) .nil))) (nd xh (nd xx (nd x1t (lf x3l) (lf x5f)) (nd x2p (lf x4h) .nil)) (nd x1d (nd x29 (lf x41) (lf x5v)) (nd x35 (lf x4x) .nil)))) (nd x3 (nd xd (nd xt (nd x1p (lf x3h) (lf x59)) (nd x2l (lf x4d) (lf (x68 P es ep st)))) (nd x19 (nd x25 (lf x3x) (lf x5r)) (nd x31 (lf x4t) .nil))) (nd xl (nd x11 (nd x1x (lf x3p) (lf x5j)) (nd x2t (lf x4l) .nil)) (nd x1h (nd x2d (lf x45) (lf x5z)) (nd x39 (lf x51) .nil)))))))
def SE (w : World) (os : OsState) (life : Life) (es : Array (Int × Value)) (ep : Nat) (st : SetTable) : SharedT := ⟨TE w.params es ep st, 231, life, ⟨[]⟩, ⟨0, 0, 0, 0⟩, 496, os⟩
def QD : Prop := ∀ (w : World) (os : OsState) (life : Life) (es : Array (Int × Value)) (ep : Nat) (st : SetTable) (k : Result → Sem PySem.Fin) (K : Flow → Sem PySem.Fin) (H : Value → Sem PySem.Fin) (p : Pos), goK (denote treeTable) PySem.Challenge.pw_af0030_01 w 2 8 (SD w os life es ep st) ⟨(RT (.ref setA)).wrap K H id id, cC, p, (FC k :: BM)⟩ = some (SE w os life es ep st, ⟨K .next, cC, ⟨207, 4, 207, 11⟩, (FC k :: BM)⟩)
lay_quick QD
theorem qD : QD := by rw [PySem.W.Fast.te8495536612975976603]; delta PySem.W.Fast.tw8495536612975976603; intros; kernel_rfl
def x6a (P : Params) : Obj := ⟨(.type "dict"), none, (.dict ⟨[(en P s_5 480 (.str s_9 471)), (en P s_8 482 (.str s_d 481)), (en P s_6 484 (.int (.ofNat 206) 483)), (en P s_k 495 (.ref 230)), (en P s_l 497 (.int (.ofNat 0) 496)), (en P s_m 499 (.int (.ofNat 0) 498)), (en P s_e 506 (.ref 237)), (en P s_f 513 (.ref 244)), (en P s_g 522 (.ref 251)), (en P s_h 538 (.ref 258)), (en P s_i 548 (.ref 265)), (en P s_j 565 (.ref 272))]⟩ 12), ⟨[]⟩⟩
def x6b : Obj := ⟨.none, none, (.fields ⟨[(iz 211), (iz 4), (.ref 236), (iz 220), (iz 4), (.ref 243), (iz 229), (iz 4), (.ref 250), (iz 268), (iz 4), (.ref 257), (iz 364), (iz 4), (.ref 264), (iz 430), (iz 4), (.ref 271)]⟩), ⟨[]⟩⟩
def x6c : Obj := ⟨(.type "tuple"), none, (.seq ⟨[]⟩ 0), ⟨[]⟩⟩
def x6d : Obj := ⟨.none, none, (.fields ⟨[]⟩), ⟨[]⟩⟩
def x6e : Obj := ⟨(.type "tuple"), none, (.seq ⟨[(.str s_4 503)]⟩ 0), ⟨[]⟩⟩
def x6f : Obj := ⟨(.type "tuple"), none, (.seq ⟨[]⟩ 0), ⟨[]⟩⟩
def x6g : Obj := ⟨.none, none, (.func ⟨s_e, s_32, fPar (inr 6 3), .stmts (fBody (inr 6 3)), fScope (inr 6 3), 0, [], .none, .none, .none, .none, none, .none, .none, 0⟩), ⟨[]⟩⟩
def x6h : Obj := ⟨(.type "code"), none, (.fields ⟨[(.str s_e 500), (.str s_32 501), (.str s_0 502), (iz 211), (iz 1), (iz 0), (iz 0), (iz 3), (.ref 231), (.bool true), (iz 181), (.ref 232), .none, (.ref 233), (.ref 234), (.ref 235), (iz 504), (iz 211), (.str s_0 505)]⟩), ⟨[]⟩⟩
def x6i : Obj := ⟨(.type "function"), none, (.func ⟨s_e, s_32, fPar (inr 6 3), .stmts (fBody (inr 6 3)), fScope (inr 6 3), 3, [], .none, .none, .none, (.str s_9 471), none, (.ref 236), .none, 0⟩), ⟨[]⟩⟩
def x6j : Obj := ⟨(.type "tuple"), none, (.seq ⟨[]⟩ 0), ⟨[]⟩⟩
def x6k : Obj := ⟨.none, none, (.fields ⟨[]⟩), ⟨[]⟩⟩
def x6l : Obj := ⟨(.type "tuple"), none, (.seq ⟨[(.str s_4 510)]⟩ 0), ⟨[]⟩⟩
def x6m : Obj := ⟨(.type "tuple"), none, (.seq ⟨[]⟩ 0), ⟨[]⟩⟩
def x6n : Obj := ⟨.none, none, (.func ⟨s_f, s_33, fPar (inr 6 4), .stmts (fBody (inr 6 4)), fScope (inr 6 4), 0, [], .none, .none, .none, .none, none, .none, .none, 0⟩), ⟨[]⟩⟩
def x6o : Obj := ⟨(.type "code"), none, (.fields ⟨[(.str s_f 507), (.str s_33 508), (.str s_0 509), (iz 220), (iz 1), (iz 0), (iz 0), (iz 3), (.ref 238), (.bool true), (iz 181), (.ref 239), .none, (.ref 240), (.ref 241), (.ref 242), (iz 511), (iz 220), (.str s_0 512)]⟩), ⟨[]⟩⟩
def x6p : Obj := ⟨(.type "function"), none, (.func ⟨s_f, s_33, fPar (inr 6 4), .stmts (fBody (inr 6 4)), fScope (inr 6 4), 3, [], .none, .none, .none, (.str s_9 471), none, (.ref 243), .none, 0⟩), ⟨[]⟩⟩
def x6q : Obj := ⟨(.type "tuple"), none, (.seq ⟨[]⟩ 0), ⟨[]⟩⟩
def x6r : Obj := ⟨.none, none, (.fields ⟨[]⟩), ⟨[]⟩⟩
def x6s : Obj := ⟨(.type "tuple"), none, (.seq ⟨[(.str s_4 517), (.str s_34 518), (.str s_2a 519)]⟩ 0), ⟨[]⟩⟩
def x6t : Obj := ⟨(.type "tuple"), none, (.seq ⟨[]⟩ 0), ⟨[]⟩⟩
def x6u : Obj := ⟨.none, none, (.func ⟨s_g, s_35, fPar (inr 6 5), .stmts (fBody (inr 6 5)), fScope (inr 6 5), 0, [], .none, .none, .none, .none, none, .none, .none, 0⟩), ⟨[]⟩⟩
def x6v : Obj := ⟨(.type "code"), none, (.fields ⟨[(.str s_g 514), (.str s_35 515), (.str s_0 516), (iz 229), (iz 1), (iz 0), (iz 0), (iz 3), (.ref 245), (.bool true), (iz 181), (.ref 246), .none, (.ref 247), (.ref 248), (.ref 249), (iz 520), (iz 229), (.str s_0 521)]⟩), ⟨[]⟩⟩
def x6w : Obj := ⟨(.type "function"), none, (.func ⟨s_g, s_35, fPar (inr 6 5), .stmts (fBody (inr 6 5)), fScope (inr 6 5), 3, [], .none, .none, .none, (.str s_9 471), none, (.ref 250), .none, 0⟩), ⟨[]⟩⟩
def x6x : Obj := ⟨(.type "tuple"), none, (.seq ⟨[]⟩ 0), ⟨[]⟩⟩
def x6y : Obj := ⟨.none, none, (.fields ⟨[]⟩), ⟨[]⟩⟩
def x6z : Obj := ⟨(.type "tuple"), none, (.seq ⟨[(.str s_4 526), (.str s_34 527), (.str s_2a 528), (.str s_36 529), (.str ⟨⟨[118, 95, 51]⟩⟩ 530), (.str ⟨⟨[118, 95, 52]⟩⟩ 531), (.str ⟨⟨[118, 95, 53]⟩⟩ 532), (.str ⟨⟨[118, 95, 54]⟩⟩ 533), (.str ⟨⟨[118, 95, 55]⟩⟩ 534), (.str ⟨⟨[118, 95, 56]⟩⟩ 535)]⟩ 0), ⟨[]⟩⟩
def x70 : Obj := ⟨(.type "tuple"), none, (.seq ⟨[]⟩ 0), ⟨[]⟩⟩
def x71 : Obj := ⟨.none, none, (.func ⟨s_h, s_37, fPar (inr 6 6), .stmts (fBody (inr 6 6)), fScope (inr 6 6), 0, [], .none, .none, .none, .none, none, .none, .none, 0⟩), ⟨[]⟩⟩
def x72 : Obj := ⟨(.type "code"), none, (.fields ⟨[(.str s_h 523), (.str s_37 524), (.str s_0 525), (iz 268), (iz 1), (iz 0), (iz 0), (iz 3), (.ref 252), (.bool true), (iz 181), (.ref 253), .none, (.ref 254), (.ref 255), (.ref 256), (iz 536), (iz 268), (.str s_0 537)]⟩), ⟨[]⟩⟩
def x73 : Obj := ⟨(.type "function"), none, (.func ⟨s_h, s_37, fPar (inr 6 6), .stmts (fBody (inr 6 6)), fScope (inr 6 6), 3, [], .none, .none, .none, (.str s_9 471), none, (.ref 257), .none, 0⟩), ⟨[]⟩⟩
def x74 : Obj := ⟨(.type "tuple"), none, (.seq ⟨[]⟩ 0), ⟨[]⟩⟩
def x75 : Obj := ⟨.none, none, (.fields ⟨[]⟩), ⟨[]⟩⟩
def x76 : Obj := ⟨(.type "tuple"), none, (.seq ⟨[(.str s_4 542), (.str s_34 543), (.str s_2a 544), (.str s_36 545)]⟩ 0), ⟨[]⟩⟩
def x77 : Obj := ⟨(.type "tuple"), none, (.seq ⟨[]⟩ 0), ⟨[]⟩⟩
def x78 : Obj := ⟨.none, none, (.func ⟨s_i, s_38, fPar (inr 6 7), .stmts (fBody (inr 6 7)), fScope (inr 6 7), 0, [], .none, .none, .none, .none, none, .none, .none, 0⟩), ⟨[]⟩⟩
def x79 : Obj := ⟨(.type "code"), none, (.fields ⟨[(.str s_i 539), (.str s_38 540), (.str s_0 541), (iz 364), (iz 1), (iz 0), (iz 0), (iz 3), (.ref 259), (.bool true), (iz 181), (.ref 260), .none, (.ref 261), (.ref 262), (.ref 263), (iz 546), (iz 364), (.str s_0 547)]⟩), ⟨[]⟩⟩
def x7a : Obj := ⟨(.type "function"), none, (.func ⟨s_i, s_38, fPar (inr 6 7), .stmts (fBody (inr 6 7)), fScope (inr 6 7), 3, [], .none, .none, .none, (.str s_9 471), none, (.ref 264), .none, 0⟩), ⟨[]⟩⟩
def x7b : Obj := ⟨(.type "tuple"), none, (.seq ⟨[]⟩ 0), ⟨[]⟩⟩
def x7c : Obj := ⟨.none, none, (.fields ⟨[]⟩), ⟨[]⟩⟩
def x7d : Obj := ⟨(.type "tuple"), none, (.seq ⟨[(.str s_4 552), (.str s_2a 553), (.str s_36 554), (.str ⟨⟨[118, 95, 51]⟩⟩ 555), (.str ⟨⟨[118, 95, 52]⟩⟩ 556), (.str ⟨⟨[118, 95, 53]⟩⟩ 557), (.str ⟨⟨[118, 95, 54]⟩⟩ 558), (.str ⟨⟨[118, 95, 55]⟩⟩ 559), (.str ⟨⟨[118, 95, 56]⟩⟩ 560), (.str ⟨⟨[118, 95, 57]⟩⟩ 561), (.str ⟨⟨[118, 95, 49, 48]⟩⟩ 562)]⟩ 0), ⟨[]⟩⟩
def x7e : Obj := ⟨(.type "tuple"), none, (.seq ⟨[]⟩ 0), ⟨[]⟩⟩
def x7f : Obj := ⟨.none, none, (.func ⟨s_j, s_39, fPar (inr 6 8), .stmts (fBody (inr 6 8)), fScope (inr 6 8), 0, [], .none, .none, .none, .none, none, .none, .none, 0⟩), ⟨[]⟩⟩
def x7g : Obj := ⟨(.type "code"), none, (.fields ⟨[(.str s_j 549), (.str s_39 550), (.str s_0 551), (iz 430), (iz 1), (iz 0), (iz 0), (iz 3), (.ref 266), (.bool true), (iz 181), (.ref 267), .none, (.ref 268), (.ref 269), (.ref 270), (iz 563), (iz 430), (.str s_0 564)]⟩), ⟨[]⟩⟩
def x7h : Obj := ⟨(.type "function"), none, (.func ⟨s_j, s_39, fPar (inr 6 8), .stmts (fBody (inr 6 8)), fScope (inr 6 8), 3, [], .none, .none, .none, (.str s_9 471), none, (.ref 271), .none, 0⟩), ⟨[]⟩⟩
def TE1 (P : Params) (es : Array (Int × Value)) (ep : Nat) (st : SetTable) : BT := (nd (boot_o_0 P) (nd (boot_o_1 P) (nd (x5d P) (nd (boot_o_7 P) (nd x6 (nd xm (nd x1i (nd x3a (lf x70) .nil) (lf x52)) (nd x2e (lf x46) (lf x61))) (nd x12 (nd x1y (nd x3q (lf x7g) .nil) (lf x5k)) (nd x2u (lf x4m) (lf x6k)))) (nd xe (nd xu (nd x1q (nd x3i (lf x78) .nil) (lf x5a)) (nd x2m (lf x4e) (lf x6c))) (nd x1a (nd x26 (lf x3y) (lf x5s)) (nd x32 (lf x4u) (lf x6s))))) (nd x0 (nd xa (nd xq (nd x1m (nd x3e (lf x74) .nil) (lf x56)) (nd x2i (lf x4a) (lf x6b))) (nd x16 (nd x22 (lf x3u) (lf x5o)) (nd x2y (lf x4q) (lf x6o)))) (nd xi (nd xy (nd x1u (nd x3m (lf x7c) .nil) (lf x5g)) (nd x2q (lf x4i) (lf x6g))) (nd x1e (nd x2a (lf x42) (lf x5w)) (nd x36 (lf x4y) (lf x6w)))))) (nd (boot_o_5 P) (nd (boot_o_9 P) (nd x8 (nd xo (nd x1k (nd x3c (lf x72) .nil) (lf x54)) (nd x2g (lf x48) (lf (x6a P)))) (nd x14 (nd x20 (lf x3s) (lf x5m)) (nd x2w (lf x4o) (lf x6m)))) (nd xg (nd xw (nd x1s (nd x3k (lf x7a) .nil) (lf x5c)) (nd x2o (lf x4g) (lf x6e))) (nd x1c (nd x28 (lf x40) (lf (x5u P))) (nd x34 (lf x4w) (lf x6u))))) (nd x2 (nd xc (nd xs (nd x1o (nd x3g (lf x76) .nil) (lf x58)) (nd x2k (lf x4c) (lf x67))) (nd x18 (nd x24 (lf x3w) (lf x5q)) (nd x30 (lf x4s) (lf x6q)))) (nd xk (nd x10 (nd x1w (nd x3o (lf x7e) .nil) (lf x5i)) (nd x2s (lf x4k) (lf x6i))) (nd x1g (nd x2c (lf x44) (lf x5y)) (nd x38 (lf x50) (lf x6y))))))) (nd (boot_o_2 P) (nd (boot_o_4 P) (nd (boot_o_8 P) (nd x7 (nd xn (nd x1j (nd x3b (lf x71) .nil) (lf x53)) (nd x2f (lf x47) (lf x62))) (nd x13 (nd x1z (nd x3r (lf x7h) .nil) (lf x5l)) (nd x2v (lf x4n) (lf x6l)))) (nd (xf P) (nd xv (nd x1r (nd x3j (lf x79) .nil) (lf x5b)) (nd x2n (lf x4f) (lf x6d))) (nd x1b (nd x27 (lf x3z) (lf x5t)) (nd x33 (lf x4v) (lf x6t))))) (nd x60 (nd xb (nd xr (nd x1n (nd x3f (lf x75) .nil) (lf (x57 P))) (nd x2j (lf x4b) (lf x66))) (nd x17 (nd x23 (lf x3v) (lf x5p)) (nd x2z (lf x4r) (lf x6p)))) (nd xj (nd xz (nd x1v (nd x3n (lf x7d) .nil) (lf (x5h P))) (nd x2r (lf x4j) (lf x6h))) (nd x1f (nd x2b (lf x43) (lf x5x)) (nd x37 (lf x4z) (lf x6x)))))) (nd (boot_o_6 P) (nd (boot_o_10 P) (nd x9 (nd xp (nd x1l (nd x3d (lf x73) .nil) (lf x55)) (nd x2h (lf x49) (lf x64))) (nd x15 (nd x21 (lf x3t) (lf x5n)) (nd x2x (lf x4p) (lf x6n)))) (nd xh (nd xx (nd x1t (nd x3l (lf x7b) .nil) (lf x5f)) (nd x2p (lf x4h) (lf x6f))) (nd x1d (nd x29 (lf x41) (lf x5v)) (nd x35 (lf x4x) (lf x6v))))) (nd x3 (nd xd (nd xt (nd x1p (nd x3h (lf x77) .nil) (lf x59)) (nd x2l (lf x4d) (lf (x68 P es ep st)))) (nd x19 (nd x25 (lf x3x) (lf x5r)) (nd x31 (lf x4t) (lf x6r)))) (nd xl (nd x11 (nd x1x (nd x3p (lf x7f) .nil) (lf x5j)) (nd x2t (lf x4l) (lf x6j))) (nd x1h (nd x2d (lf x45) (lf x5z)) (nd x39 (lf x51) (lf x6z))))))))
def SE1 (w : World) (os : OsState) (life : Life) (es : Array (Int × Value)) (ep : Nat) (st : SetTable) : SharedT := ⟨TE1 w.params es ep st, 273, life, ⟨[]⟩, ⟨0, 0, 0, 0⟩, 566, os⟩
def QE1 : Prop := ∀ (w : World) (os : OsState) (life : Life) (es : Array (Int × Value)) (ep : Nat) (st : SetTable) (k : Result → Sem PySem.Fin) (K : Flow → Sem PySem.Fin) (H : Value → Sem PySem.Fin), goK (denote treeTable) PySem.Challenge.pw_af0030_01 w 2 224 (SE w os life es ep st) ⟨(execs [inr 6 1, inr 6 2, inr 6 3, inr 6 4, inr 6 5, inr 6 6, inr 6 7, inr 6 8] cenv).wrap K H id id, cC, ⟨207, 4, 207, 11⟩, (FC k :: BM)⟩ = some (SE1 w os life es ep st, ⟨K .next, cC, ⟨430, 4, 510, 19⟩, (FC k :: BM)⟩)
lay_quick QE1
theorem qE1 : QE1 := by rw [PySem.W.Fast.te10988345818586983607]; delta PySem.W.Fast.tw10988345818586983607; intros; kernel_rfl
def x7i (P : Params) : Obj := ⟨(.type "dict"), none, (.dict ⟨[(en P s_5 480 (.str s_9 471)), (en P s_8 482 (.str s_d 481)), (en P s_6 484 (.int (.ofNat 206) 483)), (en P s_k 495 (.ref 230)), (en P s_l 497 (.int (.ofNat 0) 496)), (en P s_m 499 (.int (.ofNat 0) 498)), (en P s_e 506 (.ref 237)), (en P s_f 513 (.ref 244)), (en P s_g 522 (.ref 251)), (en P s_h 538 (.ref 258)), (en P s_i 548 (.ref 265)), (en P s_j 565 (.ref 272)), (en P s_s 608 (.ref 282)), (en P s_t 651 (.ref 292))]⟩ 14), ⟨[]⟩⟩
def x7j (P : Params) : Obj := ⟨(.type "dict"), none, (.dict ⟨[(en P s_1 575 (.str ⟨⟨[107, 97, 104]⟩⟩ 566)), (en P s_2 577 (.int (.negSucc 0) 568)), (en P s_3 579 (.int (.ofNat 1) 569))]⟩ 3), ⟨[]⟩⟩
def x7k : Obj := ⟨(.ref 218), (some 273), .plain, ⟨[]⟩⟩
def x7l (P : Params) : Obj := ⟨(.type "frame"), none, (.dict ⟨[(en P s_4 570 (.ref 274)), (en P s_1 571 (.str ⟨⟨[107, 97, 104]⟩⟩ 566)), (en P s_2 572 (.int (.negSucc 0) 568)), (en P s_3 573 (.int (.ofNat 1) 569))]⟩ 4), ⟨[]⟩⟩
def x7m (P : Params) : Obj := ⟨(.type "dict"), none, (.dict ⟨[(en P s_1 589 (.str ⟨⟨[108, 97, 104]⟩⟩ 580)), (en P s_2 591 (.int (.negSucc 0) 582)), (en P s_3 593 (.int (.ofNat 1) 583))]⟩ 3), ⟨[]⟩⟩
def x7n : Obj := ⟨(.ref 218), (some 276), .plain, ⟨[]⟩⟩
def x7o (P : Params) : Obj := ⟨(.type "frame"), none, (.dict ⟨[(en P s_4 584 (.ref 277)), (en P s_1 585 (.str ⟨⟨[108, 97, 104]⟩⟩ 580)), (en P s_2 586 (.int (.negSucc 0) 582)), (en P s_3 587 (.int (.ofNat 1) 583))]⟩ 4), ⟨[]⟩⟩
def x7p (P : Params) : Obj := ⟨(.type "dict"), none, (.dict ⟨[(en P s_1 603 (.str ⟨⟨[112, 117, 110]⟩⟩ 594)), (en P s_2 605 (.int (.negSucc 0) 596)), (en P s_3 607 (.int (.ofNat 1) 597))]⟩ 3), ⟨[]⟩⟩
def x7q : Obj := ⟨(.ref 218), (some 279), .plain, ⟨[]⟩⟩
def x7r (P : Params) : Obj := ⟨(.type "frame"), none, (.dict ⟨[(en P s_4 598 (.ref 280)), (en P s_1 599 (.str ⟨⟨[112, 117, 110]⟩⟩ 594)), (en P s_2 600 (.int (.negSucc 0) 596)), (en P s_3 601 (.int (.ofNat 1) 597))]⟩ 4), ⟨[]⟩⟩
def x7s : Obj := ⟨(.type "list"), none, (.seq ⟨[(.ref 274), (.ref 277), (.ref 280)]⟩ 0), ⟨[]⟩⟩
def x7t (P : Params) : Obj := ⟨(.type "dict"), none, (.dict ⟨[(en P s_1 618 (.str ⟨⟨[110, 121, 97]⟩⟩ 609)), (en P s_2 620 (.int (.negSucc 0) 611)), (en P s_3 622 (.int (.ofNat 1) 612))]⟩ 3), ⟨[]⟩⟩
def x7u : Obj := ⟨(.ref 218), (some 283), .plain, ⟨[]⟩⟩
def x7v (P : Params) : Obj := ⟨(.type "frame"), none, (.dict ⟨[(en P s_4 613 (.ref 284)), (en P s_1 614 (.str ⟨⟨[110, 121, 97]⟩⟩ 609)), (en P s_2 615 (.int (.negSucc 0) 611)), (en P s_3 616 (.int (.ofNat 1) 612))]⟩ 4), ⟨[]⟩⟩
def x7w (P : Params) : Obj := ⟨(.type "dict"), none, (.dict ⟨[(en P s_1 632 (.str ⟨⟨[107, 117]⟩⟩ 623)), (en P s_2 634 (.int (.negSucc 0) 625)), (en P s_3 636 (.int (.ofNat 1) 626))]⟩ 3), ⟨[]⟩⟩
def x7x : Obj := ⟨(.ref 218), (some 286), .plain, ⟨[]⟩⟩
def x7y (P : Params) : Obj := ⟨(.type "frame"), none, (.dict ⟨[(en P s_4 627 (.ref 287)), (en P s_1 628 (.str ⟨⟨[107, 117]⟩⟩ 623)), (en P s_2 629 (.int (.negSucc 0) 625)), (en P s_3 630 (.int (.ofNat 1) 626))]⟩ 4), ⟨[]⟩⟩
def x7z (P : Params) : Obj := ⟨(.type "dict"), none, (.dict ⟨[(en P s_1 646 (.str ⟨⟨[109, 117]⟩⟩ 637)), (en P s_2 648 (.int (.negSucc 0) 639)), (en P s_3 650 (.int (.ofNat 1) 640))]⟩ 3), ⟨[]⟩⟩
def x80 : Obj := ⟨(.ref 218), (some 289), .plain, ⟨[]⟩⟩
def x81 (P : Params) : Obj := ⟨(.type "frame"), none, (.dict ⟨[(en P s_4 641 (.ref 290)), (en P s_1 642 (.str ⟨⟨[109, 117]⟩⟩ 637)), (en P s_2 643 (.int (.negSucc 0) 639)), (en P s_3 644 (.int (.ofNat 1) 640))]⟩ 4), ⟨[]⟩⟩
def x82 : Obj := ⟨(.type "list"), none, (.seq ⟨[(.ref 284), (.ref 287), (.ref 290)]⟩ 0), ⟨[]⟩⟩
def TE2 (P : Params) (es : Array (Int × Value)) (ep : Nat) (st : SetTable) : BT := (nd (boot_o_0 P) (nd (boot_o_1 P) (nd (x5d P) (nd (boot_o_7 P) (nd x6 (nd xm (nd x1i (nd x3a (lf x70) .nil) (lf x52)) (nd x2e (nd x46 (lf x7x) .nil) (lf x61))) (nd x12 (nd x1y (nd x3q (lf x7g) .nil) (lf x5k)) (nd x2u (lf x4m) (lf x6k)))) (nd xe (nd xu (nd x1q (nd x3i (lf x78) .nil) (lf x5a)) (nd x2m (lf x4e) (lf x6c))) (nd x1a (nd x26 (nd x3y (lf (x7p P)) .nil) (lf x5s)) (nd x32 (lf x4u) (lf x6s))))) (nd x0 (nd xa (nd xq (nd x1m (nd x3e (lf x74) .nil) (lf x56)) (nd x2i (nd x4a (lf (x81 P)) .nil) (lf x6b))) (nd x16 (nd x22 (nd x3u (lf (x7l P)) .nil) (lf x5o)) (nd x2y (lf x4q) (lf x6o)))) (nd xi (nd xy (nd x1u (nd x3m (lf x7c) .nil) (lf x5g)) (nd x2q (lf x4i) (lf x6g))) (nd x1e (nd x2a (nd x42 (lf (x7t P)) .nil) (lf x5w)) (nd x36 (lf x4y) (lf x6w)))))) (nd (boot_o_5 P) (nd (boot_o_9 P) (nd x8 (nd xo (nd x1k (nd x3c (lf x72) .nil) (lf x54)) (nd x2g (nd x48 (lf (x7z P)) .nil) (lf (x7i P)))) (nd x14 (nd x20 (nd x3s (lf (x7j P)) .nil) (lf x5m)) (nd x2w (lf x4o) (lf x6m)))) (nd xg (nd xw (nd x1s (nd x3k (lf x7a) .nil) (lf x5c)) (nd x2o (lf x4g) (lf x6e))) (nd x1c (nd x28 (nd x40 (lf (x7r P)) .nil) (lf (x5u P))) (nd x34 (lf x4w) (lf x6u))))) (nd x2 (nd xc (nd xs (nd x1o (nd x3g (lf x76) .nil) (lf x58)) (nd x2k (lf x4c) (lf x67))) (nd x18 (nd x24 (nd x3w (lf x7n) .nil) (lf x5q)) (nd x30 (lf x4s) (lf x6q)))) (nd xk (nd x10 (nd x1w (nd x3o (lf x7e) .nil) (lf x5i)) (nd x2s (lf x4k) (lf x6i))) (nd x1g (nd x2c (nd x44 (lf (x7v P)) .nil) (lf x5y)) (nd x38 (lf x50) (lf x6y))))))) (nd (boot_o_2 P) (nd (boot_o_4 P) (nd (boot_o_8 P) (nd x7 (nd xn (nd x1j (nd x3b (lf x71) .nil) (lf x53)) (nd x2f (nd x47 (lf (x7y P)) .nil) (lf x62))) (nd x13 (nd x1z (nd x3r (lf x7h) .nil) (lf x5l)) (nd x2v (lf x4n) (lf x6l)))) (nd (xf P) (nd xv (nd x1r (nd x3j (lf x79) .nil) (lf x5b)) (nd x2n (lf x4f) (lf x6d))) (nd x1b (nd x27 (nd x3z (lf x7q) .nil) (lf x5t)) (nd x33 (lf x4v) (lf x6t))))) (nd x60 (nd xb (nd xr (nd x1n (nd x3f (lf x75) .nil) (lf (x57 P))) (nd x2j (nd x4b (lf x82) .nil) (lf x66))) (nd x17 (nd x23 (nd x3v (lf (x7m P)) .nil) (lf x5p)) (nd x2z (lf x4r) (lf x6p)))) (nd xj (nd xz (nd x1v (nd x3n (lf x7d) .nil) (lf (x5h P))) (nd x2r (lf x4j) (lf x6h))) (nd x1f (nd x2b (nd x43 (lf x7u) .nil) (lf x5x)) (nd x37 (lf x4z) (lf x6x)))))) (nd (boot_o_6 P) (nd (boot_o_10 P) (nd x9 (nd xp (nd x1l (nd x3d (lf x73) .nil) (lf x55)) (nd x2h (nd x49 (lf x80) .nil) (lf x64))) (nd x15 (nd x21 (nd x3t (lf x7k) .nil) (lf x5n)) (nd x2x (lf x4p) (lf x6n)))) (nd xh (nd xx (nd x1t (nd x3l (lf x7b) .nil) (lf x5f)) (nd x2p (lf x4h) (lf x6f))) (nd x1d (nd x29 (nd x41 (lf x7s) .nil) (lf x5v)) (nd x35 (lf x4x) (lf x6v))))) (nd x3 (nd xd (nd xt (nd x1p (nd x3h (lf x77) .nil) (lf x59)) (nd x2l (lf x4d) (lf (x68 P es ep st)))) (nd x19 (nd x25 (nd x3x (lf (x7o P)) .nil) (lf x5r)) (nd x31 (lf x4t) (lf x6r)))) (nd xl (nd x11 (nd x1x (nd x3p (lf x7f) .nil) (lf x5j)) (nd x2t (lf x4l) (lf x6j))) (nd x1h (nd x2d (nd x45 (lf (x7w P)) .nil) (lf x5z)) (nd x39 (lf x51) (lf x6z))))))))
def SE2 (w : World) (os : OsState) (life : Life) (es : Array (Int × Value)) (ep : Nat) (st : SetTable) : SharedT := ⟨TE2 w.params es ep st, 293, life, ⟨[]⟩, ⟨0, 0, 0, 0⟩, 652, os⟩
def QE2 : Prop := ∀ (w : World) (os : OsState) (life : Life) (es : Array (Int × Value)) (ep : Nat) (st : SetTable) (k : Result → Sem PySem.Fin) (K : Flow → Sem PySem.Fin) (H : Value → Sem PySem.Fin), goK (denote treeTable) PySem.Challenge.pw_af0030_01 w 2 1042 (SE1 w os life es ep st) ⟨(execs [inr 6 9, inr 6 10] cenv).wrap K H id id, cC, ⟨430, 4, 510, 19⟩, (FC k :: BM)⟩ = some (SE2 w os life es ep st, ⟨K .next, cC, ⟨512, 4, 512, 7⟩, (FC k :: BM)⟩)
lay_quick QE2
theorem qE2 : QE2 := by rw [PySem.W.Fast.te1485649171649272832]; delta PySem.W.Fast.tw1485649171649272832; intros; kernel_rfl
def x83 (P : Params) : Obj := ⟨(.type "dict"), none, (.dict ⟨[(en P s_5 480 (.str s_9 471)), (en P s_8 482 (.str s_d 481)), (en P s_6 484 (.int (.ofNat 206) 483)), (en P s_k 495 (.ref 230)), (en P s_l 497 (.int (.ofNat 0) 496)), (en P s_m 499 (.int (.ofNat 0) 498)), (en P s_e 506 (.ref 237)), (en P s_f 513 (.ref 244)), (en P s_g 522 (.ref 251)), (en P s_h 538 (.ref 258)), (en P s_i 548 (.ref 265)), (en P s_j 565 (.ref 272)), (en P s_s 608 (.ref 282)), (en P s_t 651 (.ref 292)), (en P s_u 680 (.ref 299))]⟩ 15), ⟨[]⟩⟩
def x84 (P : Params) : Obj := ⟨(.type "dict"), none, (.dict ⟨[(en P s_1 661 (.str s_25 652)), (en P s_2 663 (.int (.negSucc 0) 654)), (en P s_3 665 (.int (.ofNat 2) 655))]⟩ 3), ⟨[]⟩⟩
def x85 : Obj := ⟨(.ref 218), (some 293), .plain, ⟨[]⟩⟩
def x86 (P : Params) : Obj := ⟨(.type "frame"), none, (.dict ⟨[(en P s_4 656 (.ref 294)), (en P s_1 657 (.str s_25 652)), (en P s_2 658 (.int (.negSucc 0) 654)), (en P s_3 659 (.int (.ofNat 2) 655))]⟩ 4), ⟨[]⟩⟩
def x87 (P : Params) : Obj := ⟨(.type "dict"), none, (.dict ⟨[(en P s_1 675 (.str ⟨⟨[97, 110]⟩⟩ 666)), (en P s_2 677 (.int (.negSucc 0) 668)), (en P s_3 679 (.int (.ofNat 1) 669))]⟩ 3), ⟨[]⟩⟩
def x88 : Obj := ⟨(.ref 218), (some 296), .plain, ⟨[]⟩⟩
def x89 (P : Params) : Obj := ⟨(.type "frame"), none, (.dict ⟨[(en P s_4 670 (.ref 297)), (en P s_1 671 (.str ⟨⟨[97, 110]⟩⟩ 666)), (en P s_2 672 (.int (.negSucc 0) 668)), (en P s_3 673 (.int (.ofNat 1) 669))]⟩ 4), ⟨[]⟩⟩
def x8a : Obj := ⟨(.type "list"), none, (.seq ⟨[(.ref 294), (.ref 297)]⟩ 0), ⟨[]⟩⟩
def TE3 (P : Params) (es : Array (Int × Value)) (ep : Nat) (st : SetTable) : BT := (nd (boot_o_0 P) (nd (boot_o_1 P) (nd (x5d P) (nd (boot_o_7 P) (nd x6 (nd xm (nd x1i (nd x3a (lf x70) .nil) (lf x52)) (nd x2e (nd x46 (lf x7x) .nil) (lf x61))) (nd x12 (nd x1y (nd x3q (lf x7g) .nil) (lf x5k)) (nd x2u (lf x4m) (lf x6k)))) (nd xe (nd xu (nd x1q (nd x3i (lf x78) .nil) (lf x5a)) (nd x2m (nd x4e (lf (x86 P)) .nil) (lf x6c))) (nd x1a (nd x26 (nd x3y (lf (x7p P)) .nil) (lf x5s)) (nd x32 (lf x4u) (lf x6s))))) (nd x0 (nd xa (nd xq (nd x1m (nd x3e (lf x74) .nil) (lf x56)) (nd x2i (nd x4a (lf (x81 P)) .nil) (lf x6b))) (nd x16 (nd x22 (nd x3u (lf (x7l P)) .nil) (lf x5o)) (nd x2y (lf x4q) (lf x6o)))) (nd xi (nd xy (nd x1u (nd x3m (lf x7c) .nil) (lf x5g)) (nd x2q (nd x4i (lf x8a) .nil) (lf x6g))) (nd x1e (nd x2a (nd x42 (lf (x7t P)) .nil) (lf x5w)) (nd x36 (lf x4y) (lf x6w)))))) (nd (boot_o_5 P) (nd (boot_o_9 P) (nd x8 (nd xo (nd x1k (nd x3c (lf x72) .nil) (lf x54)) (nd x2g (nd x48 (lf (x7z P)) .nil) (lf (x83 P)))) (nd x14 (nd x20 (nd x3s (lf (x7j P)) .nil) (lf x5m)) (nd x2w (lf x4o) (lf x6m)))) (nd xg (nd xw (nd x1s (nd x3k (lf x7a) .nil) (lf x5c)) (nd x2o (nd x4g (lf x88) .nil) (lf x6e))) (nd x1c (nd x28 (nd x40 (lf (x7r P)) .nil) (lf (x5u P))) (nd x34 (lf x4w) (lf x6u))))) (nd x2 (nd xc (nd xs (nd x1o (nd x3g (lf x76) .nil) (lf x58)) (nd x2k (nd x4c (lf (x84 P)) .nil) (lf x67))) (nd x18 (nd x24 (nd x3w (lf x7n) .nil) (lf x5q)) (nd x30 (lf x4s) (lf x6q)))) (nd xk (nd x10 (nd x1w (nd x3o (lf x7e) .nil) (lf x5i)) (nd x2s (lf x4k) (lf x6i))) (nd x1g (nd x2c (nd x44 (lf (x7v P)) .nil) (lf x5y)) (nd x38 (lf x50) (lf x6y))))))) (nd (boot_o_2 P) (nd (boot_o_4 P) (nd (boot_o_8 P) (nd x7 (nd xn (nd x1j (nd x3b (lf x71) .nil) (lf x53)) (nd x2f (nd x47 (lf (x7y P)) .nil) (lf x62))) (nd x13 (nd x1z (nd x3r (lf x7h) .nil) (lf x5l)) (nd x2v (lf x4n) (lf x6l)))) (nd (xf P) (nd xv (nd x1r (nd x3j (lf x79) .nil) (lf x5b)) (nd x2n (nd x4f (lf (x87 P)) .nil) (lf x6d))) (nd x1b (nd x27 (nd x3z (lf x7q) .nil) (lf x5t)) (nd x33 (lf x4v) (lf x6t))))) (nd x60 (nd xb (nd xr (nd x1n (nd x3f (lf x75) .nil) (lf (x57 P))) (nd x2j (nd x4b (lf x82) .nil) (lf x66))) (nd x17 (nd x23 (nd x3v (lf (x7m P)) .nil) (lf x5p)) (nd x2z (lf x4r) (lf x6p)))) (nd xj (nd xz (nd x1v (nd x3n (lf x7d) .nil) (lf (x5h P))) (nd x2r (lf x4j) (lf x6h))) (nd x1f (nd x2b (nd x43 (lf x7u) .nil) (lf x5x)) (nd x37 (lf x4z) (lf x6x)))))) (nd (boot_o_6 P) (nd (boot_o_10 P) (nd x9 (nd xp (nd x1l (nd x3d (lf x73) .nil) (lf x55)) (nd x2h (nd x49 (lf x80) .nil) (lf x64))) (nd x15 (nd x21 (nd x3t (lf x7k) .nil) (lf x5n)) (nd x2x (lf x4p) (lf x6n)))) (nd xh (nd xx (nd x1t (nd x3l (lf x7b) .nil) (lf x5f)) (nd x2p (nd x4h (lf (x89 P)) .nil) (lf x6f))) (nd x1d (nd x29 (nd x41 (lf x7s) .nil) (lf x5v)) (nd x35 (lf x4x) (lf x6v))))) (nd x3 (nd xd (nd xt (nd x1p (nd x3h (lf x77) .nil) (lf x59)) (nd x2l (nd x4d (lf x85) .nil) (lf (x68 P es ep st)))) (nd x19 (nd x25 (nd x3x (lf (x7o P)) .nil) (lf x5r)) (nd x31 (lf x4t) (lf x6r)))) (nd xl (nd x11 (nd x1x (nd x3p (lf x7f) .nil) (lf x5j)) (nd x2t (lf x4l) (lf x6j))) (nd x1h (nd x2d (nd x45 (lf (x7w P)) .nil) (lf x5z)) (nd x39 (lf x51) (lf x6z))))))))
def SE3 (w : World) (os : OsState) (life : Life) (es : Array (Int × Value)) (ep : Nat) (st : SetTable) : SharedT := ⟨TE3 w.params es ep st, 300, life, ⟨[]⟩, ⟨0, 0, 0, 0⟩, 681, os⟩
def QE3 : Prop := ∀ (w : World) (os : OsState) (life : Life) (es : Array (Int × Value)) (ep : Nat) (st : SetTable) (k : Result → Sem PySem.Fin) (K : Flow → Sem PySem.Fin) (H : Value → Sem PySem.Fin), goK (denote treeTable) PySem.Challenge.pw_af0030_01 w 2 351 (SE2 w os life es ep st) ⟨(execs [inr 6 11] cenv).wrap K H id id, cC, ⟨512, 4, 512, 7⟩, (FC k :: BM)⟩ = some (SE3 w os life es ep st, ⟨K .next, cC, ⟨513, 4, 513, 7⟩, (FC k :: BM)⟩)
lay_quick QE3
theorem qE3 : QE3 := by rw [PySem.W.Fast.te14152654921884476425]; delta PySem.W.Fast.tw14152654921884476425; intros; kernel_rfl
def x8b (P : Params) : Obj := ⟨(.type "dict"), none, (.dict ⟨[(en P s_5 480 (.str s_9 471)), (en P s_8 482 (.str s_d 481)), (en P s_6 484 (.int (.ofNat 206) 483)), (en P s_k 495 (.ref 230)), (en P s_l 497 (.int (.ofNat 0) 496)), (en P s_m 499 (.int (.ofNat 0) 498)), (en P s_e 506 (.ref 237)), (en P s_f 513 (.ref 244)), (en P s_g 522 (.ref 251)), (en P s_h 538 (.ref 258)), (en P s_i 548 (.ref 265)), (en P s_j 565 (.ref 272)), (en P s_s 608 (.ref 282)), (en P s_t 651 (.ref 292)), (en P s_u 680 (.ref 299)), (en P s_15 817 (.ref 330))]⟩ 16), ⟨[]⟩⟩
def x8c (P : Params) : Obj := ⟨(.type "dict"), none, (.dict ⟨[(en P s_1 690 (.str ⟨⟨[100, 105]⟩⟩ 681)), (en P s_2 692 (.int (.negSucc 0) 683)), (en P s_3 694 (.int (.ofNat 1) 684))]⟩ 3), ⟨[]⟩⟩
def x8d : Obj := ⟨(.ref 218), (some 300), .plain, ⟨[]⟩⟩
def x8e (P : Params) : Obj := ⟨(.type "frame"), none, (.dict ⟨[(en P s_4 685 (.ref 301)), (en P s_1 686 (.str ⟨⟨[100, 105]⟩⟩ 681)), (en P s_2 687 (.int (.negSucc 0) 683)), (en P s_3 688 (.int (.ofNat 1) 684))]⟩ 4), ⟨[]⟩⟩
def x8f (P : Params) : Obj := ⟨(.type "dict"), none, (.dict ⟨[(en P s_1 704 (.str ⟨⟨[107, 101]⟩⟩ 695)), (en P s_2 706 (.int (.negSucc 0) 697)), (en P s_3 708 (.int (.ofNat 3) 698))]⟩ 3), ⟨[]⟩⟩
def x8g : Obj := ⟨(.ref 218), (some 303), .plain, ⟨[]⟩⟩
def x8h (P : Params) : Obj := ⟨(.type "frame"), none, (.dict ⟨[(en P s_4 699 (.ref 304)), (en P s_1 700 (.str ⟨⟨[107, 101]⟩⟩ 695)), (en P s_2 701 (.int (.negSucc 0) 697)), (en P s_3 702 (.int (.ofNat 3) 698))]⟩ 4), ⟨[]⟩⟩
def x8i (P : Params) : Obj := ⟨(.type "dict"), none, (.dict ⟨[(en P s_1 718 (.str ⟨⟨[109, 101]⟩⟩ 709)), (en P s_2 720 (.int (.negSucc 0) 711)), (en P s_3 722 (.int (.ofNat 1) 712))]⟩ 3), ⟨[]⟩⟩
def x8j : Obj := ⟨(.ref 218), (some 306), .plain, ⟨[]⟩⟩
def x8k (P : Params) : Obj := ⟨(.type "frame"), none, (.dict ⟨[(en P s_4 713 (.ref 307)), (en P s_1 714 (.str ⟨⟨[109, 101]⟩⟩ 709)), (en P s_2 715 (.int (.negSucc 0) 711)), (en P s_3 716 (.int (.ofNat 1) 712))]⟩ 4), ⟨[]⟩⟩
def x8l (P : Params) : Obj := ⟨(.type "dict"), none, (.dict ⟨[(en P s_1 731 (.str ⟨⟨[109, 101, 109]⟩⟩ 723)), (en P s_2 733 (.int (.ofNat 2) 724)), (en P s_3 735 (.int (.ofNat 5) 725))]⟩ 3), ⟨[]⟩⟩
def x8m : Obj := ⟨(.ref 218), (some 309), .plain, ⟨[]⟩⟩
def x8n (P : Params) : Obj := ⟨(.type "frame"), none, (.dict ⟨[(en P s_4 726 (.ref 310)), (en P s_1 727 (.str ⟨⟨[109, 101, 109]⟩⟩ 723)), (en P s_2 728 (.int (.ofNat 2) 724)), (en P s_3 729 (.int (.ofNat 5) 725))]⟩ 4), ⟨[]⟩⟩
def x8o (P : Params) : Obj := ⟨(.type "dict"), none, (.dict ⟨[(en P s_1 744 (.str ⟨⟨[109, 101, 110]⟩⟩ 736)), (en P s_2 746 (.int (.ofNat 2) 737)), (en P s_3 748 (.int (.ofNat 2) 738))]⟩ 3), ⟨[]⟩⟩
def x8p : Obj := ⟨(.ref 218), (some 312), .plain, ⟨[]⟩⟩
def x8q (P : Params) : Obj := ⟨(.type "frame"), none, (.dict ⟨[(en P s_4 739 (.ref 313)), (en P s_1 740 (.str ⟨⟨[109, 101, 110]⟩⟩ 736)), (en P s_2 741 (.int (.ofNat 2) 737)), (en P s_3 742 (.int (.ofNat 2) 738))]⟩ 4), ⟨[]⟩⟩
def x8r (P : Params) : Obj := ⟨(.type "dict"), none, (.dict ⟨[(en P s_1 757 (.str ⟨⟨[109, 101, 110, 103]⟩⟩ 749)), (en P s_2 759 (.int (.ofNat 4) 750)), (en P s_3 761 (.int (.ofNat 1) 751))]⟩ 3), ⟨[]⟩⟩
def x8s : Obj := ⟨(.ref 218), (some 315), .plain, ⟨[]⟩⟩
def x8t (P : Params) : Obj := ⟨(.type "frame"), none, (.dict ⟨[(en P s_4 752 (.ref 316)), (en P s_1 753 (.str ⟨⟨[109, 101, 110, 103]⟩⟩ 749)), (en P s_2 754 (.int (.ofNat 4) 750)), (en P s_3 755 (.int (.ofNat 1) 751))]⟩ 4), ⟨[]⟩⟩
def x8u (P : Params) : Obj := ⟨(.type "dict"), none, (.dict ⟨[(en P s_1 771 (.str ⟨⟨[112, 101, 109]⟩⟩ 762)), (en P s_2 773 (.int (.negSucc 0) 764)), (en P s_3 775 (.int (.ofNat 6) 765))]⟩ 3), ⟨[]⟩⟩
def x8v : Obj := ⟨(.ref 218), (some 318), .plain, ⟨[]⟩⟩
def x8w (P : Params) : Obj := ⟨(.type "frame"), none, (.dict ⟨[(en P s_4 766 (.ref 319)), (en P s_1 767 (.str ⟨⟨[112, 101, 109]⟩⟩ 762)), (en P s_2 768 (.int (.negSucc 0) 764)), (en P s_3 769 (.int (.ofNat 6) 765))]⟩ 4), ⟨[]⟩⟩
def x8x (P : Params) : Obj := ⟨(.type "dict"), none, (.dict ⟨[(en P s_1 785 (.str ⟨⟨[112, 101, 110]⟩⟩ 776)), (en P s_2 787 (.int (.negSucc 0) 778)), (en P s_3 789 (.int (.ofNat 4) 779))]⟩ 3), ⟨[]⟩⟩
def x8y : Obj := ⟨(.ref 218), (some 321), .plain, ⟨[]⟩⟩
def x8z (P : Params) : Obj := ⟨(.type "frame"), none, (.dict ⟨[(en P s_4 780 (.ref 322)), (en P s_1 781 (.str ⟨⟨[112, 101, 110]⟩⟩ 776)), (en P s_2 782 (.int (.negSucc 0) 778)), (en P s_3 783 (.int (.ofNat 4) 779))]⟩ 4), ⟨[]⟩⟩
def x90 (P : Params) : Obj := ⟨(.type "dict"), none, (.dict ⟨[(en P s_1 798 (.str ⟨⟨[112, 101, 110, 103]⟩⟩ 790)), (en P s_2 800 (.int (.ofNat 7) 791)), (en P s_3 802 (.int (.ofNat 3) 792))]⟩ 3), ⟨[]⟩⟩
def x91 : Obj := ⟨(.ref 218), (some 324), .plain, ⟨[]⟩⟩
def x92 (P : Params) : Obj := ⟨(.type "frame"), none, (.dict ⟨[(en P s_4 793 (.ref 325)), (en P s_1 794 (.str ⟨⟨[112, 101, 110, 103]⟩⟩ 790)), (en P s_2 795 (.int (.ofNat 7) 791)), (en P s_3 796 (.int (.ofNat 3) 792))]⟩ 4), ⟨[]⟩⟩
def x93 (P : Params) : Obj := ⟨(.type "dict"), none, (.dict ⟨[(en P s_1 812 (.str ⟨⟨[116, 101, 114]⟩⟩ 803)), (en P s_2 814 (.int (.negSucc 0) 805)), (en P s_3 816 (.int (.ofNat 1) 806))]⟩ 3), ⟨[]⟩⟩
def x94 : Obj := ⟨(.ref 218), (some 327), .plain, ⟨[]⟩⟩
def x95 (P : Params) : Obj := ⟨(.type "frame"), none, (.dict ⟨[(en P s_4 807 (.ref 328)), (en P s_1 808 (.str ⟨⟨[116, 101, 114]⟩⟩ 803)), (en P s_2 809 (.int (.negSucc 0) 805)), (en P s_3 810 (.int (.ofNat 1) 806))]⟩ 4), ⟨[]⟩⟩
def x96 : Obj := ⟨(.type "list"), none, (.seq ⟨[(.ref 301), (.ref 304), (.ref 307), (.ref 310), (.ref 313), (.ref 316), (.ref 319), (.ref 322), (.ref 325), (.ref 328)]⟩ 0), ⟨[]⟩⟩
def TE4 (P : Params) (es : Array (Int × Value)) (ep : Nat) (st : SetTable) : BT := (nd (boot_o_0 P) (nd (boot_o_1 P) (nd (x5d P) (nd (boot_o_7 P) (nd x6 (nd xm (nd x1i (nd x3a (lf x70) .nil) (nd x52 (lf x8v) .nil)) (nd x2e (nd x46 (lf x7x) .nil) (lf x61))) (nd x12 (nd x1y (nd x3q (lf x7g) .nil) (lf x5k)) (nd x2u (nd x4m (lf (x8f P)) .nil) (lf x6k)))) (nd xe (nd xu (nd x1q (nd x3i (lf x78) .nil) (nd x5a (lf (x93 P)) .nil)) (nd x2m (nd x4e (lf (x86 P)) .nil) (lf x6c))) (nd x1a (nd x26 (nd x3y (lf (x7p P)) .nil) (lf x5s)) (nd x32 (nd x4u (lf (x8n P)) .nil) (lf x6s))))) (nd x0 (nd xa (nd xq (nd x1m (nd x3e (lf x74) .nil) (nd x56 (lf (x8z P)) .nil)) (nd x2i (nd x4a (lf (x81 P)) .nil) (lf x6b))) (nd x16 (nd x22 (nd x3u (lf (x7l P)) .nil) (lf x5o)) (nd x2y (nd x4q (lf x8j) .nil) (lf x6o)))) (nd xi (nd xy (nd x1u (nd x3m (lf x7c) .nil) (lf x5g)) (nd x2q (nd x4i (lf x8a) .nil) (lf x6g))) (nd x1e (nd x2a (nd x42 (lf (x7t P)) .nil) (lf x5w)) (nd x36 (nd x4y (lf (x8r P)) .nil) (lf x6w)))))) (nd (boot_o_5 P) (nd (boot_o_9 P) (nd x8 (nd xo (nd x1k (nd x3c (lf x72) .nil) (nd x54 (lf (x8x P)) .nil)) (nd x2g (nd x48 (lf (x7z P)) .nil) (lf (x8b P)))) (nd x14 (nd x20 (nd x3s (lf (x7j P)) .nil) (lf x5m)) (nd x2w (nd x4o (lf (x8h P)) .nil) (lf x6m)))) (nd xg (nd xw (nd x1s (nd x3k (lf x7a) .nil) (nd x5c (lf (x95 P)) .nil)) (nd x2o (nd x4g (lf x88) .nil) (lf x6e))) (nd x1c (nd x28 (nd x40 (lf (x7r P)) .nil) (lf (x5u P))) (nd x34 (nd x4w (lf x8p) .nil) (lf x6u))))) (nd x2 (nd xc (nd xs (nd x1o (nd x3g (lf x76) .nil) (nd x58 (lf x91) .nil)) (nd x2k (nd x4c (lf (x84 P)) .nil) (lf x67))) (nd x18 (nd x24 (nd x3w (lf x7n) .nil) (lf x5q)) (nd x30 (nd x4s (lf (x8l P)) .nil) (lf x6q)))) (nd xk (nd x10 (nd x1w (nd x3o (lf x7e) .nil) (lf x5i)) (nd x2s (nd x4k (lf x8d) .nil) (lf x6i))) (nd x1g (nd x2c (nd x44 (lf (x7v P)) .nil) (lf x5y)) (nd x38 (nd x50 (lf (x8t P)) .nil) (lf x6y))))))) (nd (boot_o_2 P) (nd (boot_o_4 P) (nd (boot_o_8 P) (nd x7 (nd xn (nd x1j (nd x3b (lf x71) .nil) (nd x53 (lf (x8w P)) .nil)) (nd x2f (nd x47 (lf (x7y P)) .nil) (lf x62))) (nd x13 (nd x1z (nd x3r (lf x7h) .nil) (lf x5l)) (nd x2v (nd x4n (lf x8g) .nil) (lf x6l)))) (nd (xf P) (nd xv (nd x1r (nd x3j (lf x79) .nil) (nd x5b (lf x94) .nil)) (nd x2n (nd x4f (lf (x87 P)) .nil) (lf x6d))) (nd x1b (nd x27 (nd x3z (lf x7q) .nil) (lf x5t)) (nd x33 (nd x4v (lf (x8o P)) .nil) (lf x6t))))) (nd x60 (nd xb (nd xr (nd x1n (nd x3f (lf x75) .nil) (nd (x57 P) (lf (x90 P)) .nil)) (nd x2j (nd x4b (lf x82) .nil) (lf x66))) (nd x17 (nd x23 (nd x3v (lf (x7m P)) .nil) (lf x5p)) (nd x2z (nd x4r (lf (x8k P)) .nil) (lf x6p)))) (nd xj (nd xz (nd x1v (nd x3n (lf x7d) .nil) (lf (x5h P))) (nd x2r (nd x4j (lf (x8c P)) .nil) (lf x6h))) (nd x1f (nd x2b (nd x43 (lf x7u) .nil) (lf x5x)) (nd x37 (nd x4z (lf x8s) .nil) (lf x6x)))))) (nd (boot_o_6 P) (nd (boot_o_10 P) (nd x9 (nd xp (nd x1l (nd x3d (lf x73) .nil) (nd x55 (lf x8y) .nil)) (nd x2h (nd x49 (lf x80) .nil) (lf x64))) (nd x15 (nd x21 (nd x3t (lf x7k) .nil) (lf x5n)) (nd x2x (nd x4p (lf (x8i P)) .nil) (lf x6n)))) (nd xh (nd xx (nd x1t (nd x3l (lf x7b) .nil) (nd x5f (lf x96) .nil)) (nd x2p (nd x4h (lf (x89 P)) .nil) (lf x6f))) (nd x1d (nd x29 (nd x41 (lf x7s) .nil) (lf x5v)) (nd x35 (nd x4x (lf (x8q P)) .nil) (lf x6v))))) (nd x3 (nd xd (nd xt (nd x1p (nd x3h (lf x77) .nil) (nd x59 (lf (x92 P)) .nil)) (nd x2l (nd x4d (lf x85) .nil) (lf (x68 P es ep st)))) (nd x19 (nd x25 (nd x3x (lf (x7o P)) .nil) (lf x5r)) (nd x31 (nd x4t (lf x8m) .nil) (lf x6r)))) (nd xl (nd x11 (nd x1x (nd x3p (lf x7f) .nil) (lf x5j)) (nd x2t (nd x4l (lf (x8e P)) .nil) (lf x6j))) (nd x1h (nd x2d (nd x45 (lf (x7w P)) .nil) (lf x5z)) (nd x39 (nd x51 (lf (x8u P)) .nil) (lf x6z))))))))
def SE4 (w : World) (os : OsState) (life : Life) (es : Array (Int × Value)) (ep : Nat) (st : SetTable) : SharedT := ⟨TE4 w.params es ep st, 331, life, ⟨[]⟩, ⟨0, 0, 0, 0⟩, 818, os⟩
def QE4 : Prop := ∀ (w : World) (os : OsState) (life : Life) (es : Array (Int × Value)) (ep : Nat) (st : SetTable) (k : Result → Sem PySem.Fin) (K : Flow → Sem PySem.Fin) (H : Value → Sem PySem.Fin), goK (denote treeTable) PySem.Challenge.pw_af0030_01 w 2 1691 (SE3 w os life es ep st) ⟨(execs [inr 6 12] cenv).wrap K H id id, cC, ⟨513, 4, 513, 7⟩, (FC k :: BM)⟩ = some (SE4 w os life es ep st, ⟨K .next, cC, ⟨514, 4, 514, 7⟩, (FC k :: BM)⟩)
lay_quick QE4
theorem qE4 : QE4 := by rw [PySem.W.Fast.te11308591617746065659]; delta PySem.W.Fast.tw11308591617746065659; intros; kernel_rfl
def x97 (P : Params) : Obj := ⟨(.type "dict"), none, (.dict ⟨[(en P s_5 480 (.str s_9 471)), (en P s_8 482 (.str s_d 481)), (en P s_6 484 (.int (.ofNat 206) 483)), (en P s_k 495 (.ref 230)), (en P s_l 497 (.int (.ofNat 0) 496)), (en P s_m 499 (.int (.ofNat 0) 498)), (en P s_e 506 (.ref 237)), (en P s_f 513 (.ref 244)), (en P s_g 522 (.ref 251)), (en P s_h 538 (.ref 258)), (en P s_i 548 (.ref 265)), (en P s_j 565 (.ref 272)), (en P s_s 608 (.ref 282)), (en P s_t 651 (.ref 292)), (en P s_u 680 (.ref 299)), (en P s_15 817 (.ref 330)), (en P s_27 846 (.ref 337))]⟩ 17), ⟨[]⟩⟩
def x98 (P : Params) : Obj := ⟨(.type "dict"), none, (.dict ⟨[(en P s_1 827 (.str ⟨⟨[98, 101]⟩⟩ 818)), (en P s_2 829 (.int (.negSucc 0) 820)), (en P s_3 831 (.int (.ofNat 2) 821))]⟩ 3), ⟨[]⟩⟩
def x99 : Obj := ⟨(.ref 218), (some 331), .plain, ⟨[]⟩⟩
def x9a (P : Params) : Obj := ⟨(.type "frame"), none, (.dict ⟨[(en P s_4 822 (.ref 332)), (en P s_1 823 (.str ⟨⟨[98, 101]⟩⟩ 818)), (en P s_2 824 (.int (.negSucc 0) 820)), (en P s_3 825 (.int (.ofNat 2) 821))]⟩ 4), ⟨[]⟩⟩
def x9b (P : Params) : Obj := ⟨(.type "dict"), none, (.dict ⟨[(en P s_1 841 (.str ⟨⟨[112, 101]⟩⟩ 832)), (en P s_2 843 (.int (.negSucc 0) 834)), (en P s_3 845 (.int (.ofNat 1) 835))]⟩ 3), ⟨[]⟩⟩
def x9c : Obj := ⟨(.ref 218), (some 334), .plain, ⟨[]⟩⟩
def x9d (P : Params) : Obj := ⟨(.type "frame"), none, (.dict ⟨[(en P s_4 836 (.ref 335)), (en P s_1 837 (.str ⟨⟨[112, 101]⟩⟩ 832)), (en P s_2 838 (.int (.negSucc 0) 834)), (en P s_3 839 (.int (.ofNat 1) 835))]⟩ 4), ⟨[]⟩⟩
def x9e : Obj := ⟨(.type "list"), none, (.seq ⟨[(.ref 332), (.ref 335)]⟩ 0), ⟨[]⟩⟩
def TE5 (P : Params) (es : Array (Int × Value)) (ep : Nat) (st : SetTable) : BT := (nd (boot_o_0 P) (nd (boot_o_1 P) (nd (x5d P) (nd (boot_o_7 P) (nd x6 (nd xm (nd x1i (nd x3a (lf x70) .nil) (nd x52 (lf x8v) .nil)) (nd x2e (nd x46 (lf x7x) .nil) (lf x61))) (nd x12 (nd x1y (nd x3q (lf x7g) .nil) (nd x5k (lf x9c) .nil)) (nd x2u (nd x4m (lf (x8f P)) .nil) (lf x6k)))) (nd xe (nd xu (nd x1q (nd x3i (lf x78) .nil) (nd x5a (lf (x93 P)) .nil)) (nd x2m (nd x4e (lf (x86 P)) .nil) (lf x6c))) (nd x1a (nd x26 (nd x3y (lf (x7p P)) .nil) (lf x5s)) (nd x32 (nd x4u (lf (x8n P)) .nil) (lf x6s))))) (nd x0 (nd xa (nd xq (nd x1m (nd x3e (lf x74) .nil) (nd x56 (lf (x8z P)) .nil)) (nd x2i (nd x4a (lf (x81 P)) .nil) (lf x6b))) (nd x16 (nd x22 (nd x3u (lf (x7l P)) .nil) (lf x5o)) (nd x2y (nd x4q (lf x8j) .nil) (lf x6o)))) (nd xi (nd xy (nd x1u (nd x3m (lf x7c) .nil) (nd x5g (lf (x98 P)) .nil)) (nd x2q (nd x4i (lf x8a) .nil) (lf x6g))) (nd x1e (nd x2a (nd x42 (lf (x7t P)) .nil) (lf x5w)) (nd x36 (nd x4y (lf (x8r P)) .nil) (lf x6w)))))) (nd (boot_o_5 P) (nd (boot_o_9 P) (nd x8 (nd xo (nd x1k (nd x3c (lf x72) .nil) (nd x54 (lf (x8x P)) .nil)) (nd x2g (nd x48 (lf (x7z P)) .nil) (lf (x97 P)))) (nd x14 (nd x20 (nd x3s (lf (x7j P)) .nil) (nd x5m (lf x9e) .nil)) (nd x2w (nd x4o (lf (x8h P)) .nil) (lf x6m)))) (nd xg (nd xw (nd x1s (nd x3k (lf x7a) .nil) (nd x5c (lf (x95 P)) .nil)) (nd x2o (nd x4g (lf x88) .nil) (lf x6e))) (nd x1c (nd x28 (nd x40 (lf (x7r P)) .nil) (lf (x5u P))) (nd x34 (nd x4w (lf x8p) .nil) (lf x6u))))) (nd x2 (nd xc (nd xs (nd x1o (nd x3g (lf x76) .nil) (nd x58 (lf x91) .nil)) (nd x2k (nd x4c (lf (x84 P)) .nil) (lf x67))) (nd x18 (nd x24 (nd x3w (lf x7n) .nil) (lf x5q)) (nd x30 (nd x4s (lf (x8l P)) .nil) (lf x6q)))) (nd xk (nd x10 (nd x1w (nd x3o (lf x7e) .nil) (nd x5i (lf (x9a P)) .nil)) (nd x2s (nd x4k (lf x8d) .nil) (lf x6i))) (nd x1g (nd x2c (nd x44 (lf (x7v P)) .nil) (lf x5y)) (nd x38 (nd x50 (lf (x8t P)) .nil) (lf x6y))))))) (nd (boot_o_2 P) (nd (boot_o_4 P) (nd (boot_o_8 P) (nd x7 (nd xn (nd x1j (nd x3b (lf x71) .nil) (nd x53 (lf (x8w P)) .nil)) (nd x2f (nd x47 (lf (x7y P)) .nil) (lf x62))) (nd x13 (nd x1z (nd x3r (lf x7h) .nil) (nd x5l (lf (x9d P)) .nil)) (nd x2v (nd x4n (lf x8g) .nil) (lf x6l)))) (nd (xf P) (nd xv (nd x1r (nd x3j (lf x79) .nil) (nd x5b (lf x94) .nil)) (nd x2n (nd x4f (lf (x87 P)) .nil) (lf x6d))) (nd x1b (nd x27 (nd x3z (lf x7q) .nil) (lf x5t)) (nd x33 (nd x4v (lf (x8o P)) .nil) (lf x6t))))) (nd x60 (nd xb (nd xr (nd x1n (nd x3f (lf x75) .nil) (nd (x57 P) (lf (x90 P)) .nil)) (nd x2j (nd x4b (lf x82) .nil) (lf x66))) (nd x17 (nd x23 (nd x3v (lf (x7m P)) .nil) (lf x5p)) (nd x2z (nd x4r (lf (x8k P)) .nil) (lf x6p)))) (nd xj (nd xz (nd x1v (nd x3n (lf x7d) .nil) (nd (x5h P) (lf x99) .nil)) (nd x2r (nd x4j (lf (x8c P)) .nil) (lf x6h))) (nd x1f (nd x2b (nd x43 (lf x7u) .nil) (lf x5x)) (nd x37 (nd x4z (lf x8s) .nil) (lf x6x)))))) (nd (boot_o_6 P) (nd (boot_o_10 P) (nd x9 (nd xp (nd x1l (nd x3d (lf x73) .nil) (nd x55 (lf x8y) .nil)) (nd x2h (nd x49 (lf x80) .nil) (lf x64))) (nd x15 (nd x21 (nd x3t (lf x7k) .nil) (lf x5n)) (nd x2x (nd x4p (lf (x8i P)) .nil) (lf x6n)))) (nd xh (nd xx (nd x1t (nd x3l (lf x7b) .nil) (nd x5f (lf x96) .nil)) (nd x2p (nd x4h (lf (x89 P)) .nil) (lf x6f))) (nd x1d (nd x29 (nd x41 (lf x7s) .nil) (lf x5v)) (nd x35 (nd x4x (lf (x8q P)) .nil) (lf x6v))))) (nd x3 (nd xd (nd xt (nd x1p (nd x3h (lf x77) .nil) (nd x59 (lf (x92 P)) .nil)) (nd x2l (nd x4d (lf x85) .nil) (lf (x68 P es ep st)))) (nd x19 (nd x25 (nd x3x (lf (x7o P)) .nil) (lf x5r)) (nd x31 (nd x4t (lf x8m) .nil) (lf x6r)))) (nd xl (nd x11 (nd x1x (nd x3p (lf x7f) .nil) (nd x5j (lf (x9b P)) .nil)) (nd x2t (nd x4l (lf (x8e P)) .nil) (lf x6j))) (nd x1h (nd x2d (nd x45 (lf (x7w P)) .nil) (lf x5z)) (nd x39 (nd x51 (lf (x8u P)) .nil) (lf x6z))))))))
def SE5 (w : World) (os : OsState) (life : Life) (es : Array (Int × Value)) (ep : Nat) (st : SetTable) : SharedT := ⟨TE5 w.params es ep st, 338, life, ⟨[]⟩, ⟨0, 0, 0, 0⟩, 847, os⟩
def QE5 : Prop := ∀ (w : World) (os : OsState) (life : Life) (es : Array (Int × Value)) (ep : Nat) (st : SetTable) (k : Result → Sem PySem.Fin) (K : Flow → Sem PySem.Fin) (H : Value → Sem PySem.Fin), goK (denote treeTable) PySem.Challenge.pw_af0030_01 w 2 351 (SE4 w os life es ep st) ⟨(execs [inr 6 13] cenv).wrap K H id id, cC, ⟨514, 4, 514, 7⟩, (FC k :: BM)⟩ = some (SE5 w os life es ep st, ⟨K .next, cC, ⟨515, 4, 515, 7⟩, (FC k :: BM)⟩)
lay_quick QE5
theorem qE5 : QE5 := by rw [PySem.W.Fast.te14279283841184907996]; delta PySem.W.Fast.tw14279283841184907996; intros; kernel_rfl
def x9f (P : Params) : Obj := ⟨(.type "dict"), none, (.dict ⟨[(en P s_x 165 (.str s_9 471)), (en P s_c 166 .none), (en P s_y 167 .none), (en P s_z 168 (.builtin "__main__.__loader__#opaque")), (en P s_10 169 .none), (en P s_11 170 (.ref 6)), (en P s_12 171 (.ref 4)), (en P s_13 173 (.str s_0 172)), (en P s_14 174 .none), (en P s_n 193 (.ref 21)), (en P s_b 435 (.ref 197)), (en P s_p 470 (.ref 218)), (en P s_d 856 (.ref 340))]⟩ 13), ⟨[]⟩⟩
def x9g : Obj := ⟨(.type "type"), none, (.cls ⟨s_b, [(.type "object")], [(.ref 197), (.type "object")], 196, s_b, true, [], [(.ref 340)], false, none, false⟩), ⟨[none, none, (some (.str s_b 196)), (some (.str s_b 204)), (some (.builtin "object.__new__")), (some (.bool true))]⟩⟩
def x9h (P : Params) : Obj := ⟨(.type "dict"), none, (.dict ⟨[(en P s_5 480 (.str s_9 471)), (en P s_8 482 (.str s_d 481)), (en P s_6 484 (.int (.ofNat 206) 483)), (en P s_k 495 (.ref 230)), (en P s_l 497 (.int (.ofNat 0) 496)), (en P s_m 499 (.int (.ofNat 0) 498)), (en P s_e 506 (.ref 237)), (en P s_f 513 (.ref 244)), (en P s_g 522 (.ref 251)), (en P s_h 538 (.ref 258)), (en P s_i 548 (.ref 265)), (en P s_j 565 (.ref 272)), (en P s_s 608 (.ref 282)), (en P s_t 651 (.ref 292)), (en P s_u 680 (.ref 299)), (en P s_15 817 (.ref 330)), (en P s_27 846 (.ref 337)), (en P s_a 853 (.ref 338))]⟩ 18), ⟨[]⟩⟩
def x9i : Obj := ⟨(.type "tuple"), none, (.seq ⟨[(.str s_m 847), (.str s_l 848), (.str ⟨⟨[98, 114, 97]⟩⟩ 849), (.str s_3h 850), (.str ⟨⟨[107, 101, 116]⟩⟩ 851), (.str s_3i 852)]⟩ 0), ⟨[]⟩⟩
def x9j (P : Params) : Obj := ⟨(.type "dict"), none, (.dict ⟨[(en P s_5 480 (.str s_9 471)), (en P s_6 484 (.int (.ofNat 206) 483)), (en P s_k 495 (.ref 230)), (en P s_l 497 (.int (.ofNat 0) 496)), (en P s_m 499 (.int (.ofNat 0) 498)), (en P s_e 506 (.ref 237)), (en P s_f 513 (.ref 244)), (en P s_g 522 (.ref 251)), (en P s_h 538 (.ref 258)), (en P s_i 548 (.ref 265)), (en P s_j 565 (.ref 272)), (en P s_s 608 (.ref 282)), (en P s_t 651 (.ref 292)), (en P s_u 680 (.ref 299)), (en P s_15 817 (.ref 330)), (en P s_27 846 (.ref 337)), (en P s_a 853 (.ref 338)), (en P s_c 854 .none)]⟩ 2), ⟨[]⟩⟩
def x9k : Obj := ⟨(.type "type"), none, (.cls ⟨s_d, [(.ref 197)], [(.ref 340), (.ref 197), (.type "object")], 339, s_d, true, [], [], false, none, false⟩), ⟨[(some (.ref 223)), none, (some (.str s_d 473)), (some (.str s_d 481)), (some (.builtin "object.__new__")), (some (.bool true))]⟩⟩
def x9l : Obj := ⟨(.type "super"), none, (.fields ⟨[(.ref 340), (.ref 340), (.ref 340)]⟩), ⟨[]⟩⟩
def x9m : Obj := ⟨(.type "builtin_function_or_method"), none, (.fields ⟨[(.builtin "object.__init_subclass__"), (.ref 340)]⟩), ⟨[]⟩⟩
def T4 (P : Params) (es : Array (Int × Value)) (ep : Nat) (st : SetTable) : BT := (nd (boot_o_0 P) (nd (boot_o_1 P) (nd (x9f P) (nd (boot_o_7 P) (nd x6 (nd xm (nd x1i (nd x3a (lf x70) .nil) (nd x52 (lf x8v) .nil)) (nd x2e (nd x46 (lf x7x) .nil) (lf x61))) (nd x12 (nd x1y (nd x3q (lf x7g) .nil) (nd x5k (lf x9c) .nil)) (nd x2u (nd x4m (lf (x8f P)) .nil) (lf x6k)))) (nd xe (nd xu (nd x1q (nd x3i (lf x78) .nil) (nd x5a (lf (x93 P)) .nil)) (nd x2m (nd x4e (lf (x86 P)) .nil) (lf x6c))) (nd x1a (nd x26 (nd x3y (lf (x7p P)) .nil) (lf x5s)) (nd x32 (nd x4u (lf (x8n P)) .nil) (lf x6s))))) (nd x0 (nd xa (nd xq (nd x1m (nd x3e (lf x74) .nil) (nd x56 (lf (x8z P)) .nil)) (nd x2i (nd x4a (lf (x81 P)) .nil) (lf x6b))) (nd x16 (nd x22 (nd x3u (lf (x7l P)) .nil) (nd x5o (lf (x9j P)) .nil)) (nd x2y (nd x4q (lf x8j) .nil) (lf x6o)))) (nd xi (nd xy (nd x1u (nd x3m (lf x7c) .nil) (nd x5g (lf (x98 P)) .nil)) (nd x2q (nd x4i (lf x8a) .nil) (lf x6g))) (nd x1e (nd x2a (nd x42 (lf (x7t P)) .nil) (lf x5w)) (nd x36 (nd x4y (lf (x8r P)) .nil) (lf x6w)))))) (nd (boot_o_5 P) (nd (boot_o_9 P) (nd x8 (nd xo (nd x1k (nd x3c (lf x72) .nil) (nd x54 (lf (x8x P)) .nil)) (nd x2g (nd x48 (lf (x7z P)) .nil) (lf (x9h P)))) (nd x14 (nd x20 (nd x3s (lf (x7j P)) .nil) (nd x5m (lf x9e) .nil)) (nd x2w (nd x4o (lf (x8h P)) .nil) (lf x6m)))) (nd xg (nd xw (nd x1s (nd x3k (lf x7a) .nil) (nd x5c (lf (x95 P)) .nil)) (nd x2o (nd x4g (lf x88) .nil) (lf x6e))) (nd x1c (nd x28 (nd x40 (lf (x7r P)) .nil) (lf (x5u P))) (nd x34 (nd x4w (lf x8p) .nil) (lf x6u))))) (nd x2 (nd xc (nd xs (nd x1o (nd x3g (lf x76) .nil) (nd x9g (lf x91) .nil)) (nd x2k (nd x4c (lf (x84 P)) .nil) (lf x67))) (nd x18 (nd x24 (nd x3w (lf x7n) .nil) (nd x5q (lf x9l) .nil)) (nd x30 (nd x4s (lf (x8l P)) .nil) (lf x6q)))) (nd xk (nd x10 (nd x1w (nd x3o (lf x7e) .nil) (nd x5i (lf (x9a P)) .nil)) (nd x2s (nd x4k (lf x8d) .nil) (lf x6i))) (nd x1g (nd x2c (nd x44 (lf (x7v P)) .nil) (lf x5y)) (nd x38 (nd x50 (lf (x8t P)) .nil) (lf x6y))))))) (nd (boot_o_2 P) (nd (boot_o_4 P) (nd (boot_o_8 P) (nd x7 (nd xn (nd x1j (nd x3b (lf x71) .nil) (nd x53 (lf (x8w P)) .nil)) (nd x2f (nd x47 (lf (x7y P)) .nil) (lf x62))) (nd x13 (nd x1z (nd x3r (lf x7h) .nil) (nd x5l (lf (x9d P)) .nil)) (nd x2v (nd x4n (lf x8g) .nil) (lf x6l)))) (nd (xf P) (nd xv (nd x1r (nd x3j (lf x79) .nil) (nd x5b (lf x94) .nil)) (nd x2n (nd x4f (lf (x87 P)) .nil) (lf x6d))) (nd x1b (nd x27 (nd x3z (lf x7q) .nil) (lf x5t)) (nd x33 (nd x4v (lf (x8o P)) .nil) (lf x6t))))) (nd x60 (nd xb (nd xr (nd x1n (nd x3f (lf x75) .nil) (nd (x57 P) (lf (x90 P)) .nil)) (nd x2j (nd x4b (lf x82) .nil) (lf x66))) (nd x17 (nd x23 (nd x3v (lf (x7m P)) .nil) (nd x5p (lf x9k) .nil)) (nd x2z (nd x4r (lf (x8k P)) .nil) (lf x6p)))) (nd xj (nd xz (nd x1v (nd x3n (lf x7d) .nil) (nd (x5h P) (lf x99) .nil)) (nd x2r (nd x4j (lf (x8c P)) .nil) (lf x6h))) (nd x1f (nd x2b (nd x43 (lf x7u) .nil) (lf x5x)) (nd x37 (nd x4z (lf x8s) .nil) (lf x6x)))))) (nd (boot_o_6 P) (nd (boot_o_10 P) (nd x9 (nd xp (nd x1l (nd x3d (lf x73) .nil) (nd x55 (lf x8y) .nil)) (nd x2h (nd x49 (lf x80) .nil) (lf x64))) (nd x15 (nd x21 (nd x3t (lf x7k) .nil) (nd x5n (lf x9i) .nil)) (nd x2x (nd x4p (lf (x8i P)) .nil) (lf x6n)))) (nd xh (nd xx (nd x1t (nd x3l (lf x7b) .nil) (nd x5f (lf x96) .nil)) (nd x2p (nd x4h (lf (x89 P)) .nil) (lf x6f))) (nd x1d (nd x29 (nd x41 (lf x7s) .nil) (lf x5v)) (nd x35 (nd x4x (lf (x8q P)) .nil) (lf x6v))))) (nd x3 (nd xd (nd xt (nd x1p (nd x3h (lf x77) .nil) (nd x59 (lf (x92 P)) .nil)) (nd x2l (nd x4d (lf x85) .nil) (lf (x68 P es ep st)))) (nd x19 (nd x25 (nd x3x (lf (x7o P)) .nil) (nd x5r (lf x9m) .nil)) (nd x31 (nd x4t (lf x8m) .nil) (lf x6r)))) (nd xl (nd x11 (nd x1x (nd x3p (lf x7f) .nil) (nd x5j (lf (x9b P)) .nil)) (nd x2t (nd x4l (lf (x8e P)) .nil) (lf x6j))) (nd x1h (nd x2d (nd x45 (lf (x7w P)) .nil) (lf x5z)) (nd x39 (nd x51 (lf (x8u P)) .nil) (lf x6z))))))))
def S4 (w : World) (os : OsState) (life : Life) (es : Array (Int × Value)) (ep : Nat) (st : SetTable) : SharedT := ⟨T4 w.params es ep st, 343, life, ⟨[]⟩, ⟨0, 0, 0, 0⟩, 857, os⟩
theorem cb_eq : cb = stAt cb 0 :: ([inr 6 1, inr 6 2, inr 6 3, inr 6 4, inr 6 5, inr 6 6, inr 6 7, inr 6 8] ++ [inr 6 9, inr 6 10] ++ [inr 6 11] ++ [inr 6 12] ++ [inr 6 13]) := by kernel_rfl
def cg0 : List Stmt := [inr 6 1, inr 6 2, inr 6 3, inr 6 4, inr 6 5, inr 6 6, inr 6 7, inr 6 8]
def cg1 : List Stmt := [inr 6 9, inr 6 10]
def cg2 : List Stmt := [inr 6 11]
def cg3 : List Stmt := [inr 6 12]
def cg4 : List Stmt := [inr 6 13]
def posZ : Pos := ⟨515, 4, 515, 7⟩
def posC : Pos := ⟨206, 0, 515, 50⟩
def QZ : Prop := ∀ (life2 : Life) (w : World) (os : OsState) (life : Life) (es : Array (Int × Value)) (ep : Nat) (st : SetTable) (K : Flow → Sem PySem.Fin) (H : Value → Sem PySem.Fin) (c : Code) (p : Pos), goK (denote treeTable) PySem.Challenge.pw_af0030_01 w 0 166 (SE5 w os life es ep st) ⟨doneF .next, c, p, FC (kk w os life2 K H) :: BM⟩ = some (S4 w os life es ep st, ⟨K .next, cM, ⟨206, 0, 515, 50⟩, BM⟩)
lay_quick QZ
theorem qZ : QZ := by rw [PySem.W.Fast.te10068491476786908200]; delta PySem.W.Fast.tw10068491476786908200; intros; kernel_rfl
def x9n (P : Params) : Obj := ⟨.none, none, (.dict ⟨[(en P s_3j 873 (iz 352)), (en P s_3k 874 (iz 2)), (en P s_3l 893 (iz 365))]⟩ 3), ⟨[]⟩⟩
def x9o (P : Params) : Obj := ⟨(.type "dict"), none, (.dict ⟨[(en P s_x 165 (.str s_q 897)), (en P s_c 166 .none), (en P s_y 167 .none), (en P s_z 168 (.builtin "__main__.__loader__#opaque")), (en P s_10 169 .none), (en P s_11 170 (.ref 6)), (en P s_12 171 (.ref 4)), (en P s_13 173 (.str s_0 172)), (en P s_14 174 .none), (en P s_n 193 (.ref 21)), (en P s_b 435 (.ref 197)), (en P s_p 470 (.ref 218)), (en P s_d 856 (.ref 340)), (en P s_v 876 (.ref 352)), (en P s_w 896 (.ref 365)), (en P s_16 904 (.ref 375)), (en P s_3m 906 (.str ⟨⟨[98, 99, 100, 102, 103, 104, 106, 107, 108, 109, 110, 112, 113, 114, 115, 116, 118, 119, 120, 121, 122]⟩⟩ 905)), (en P s_3n 908 (.str ⟨⟨[98, 99, 100, 102, 103, 104, 106, 107, 108, 109, 110, 112, 113, 115, 116, 118, 119, 120, 121, 122]⟩⟩ 907)), (en P s_3o 910 (.str ⟨⟨[98, 99, 100, 102, 103, 106, 107, 108, 109, 112, 113, 114, 115, 116, 118, 119, 120, 121, 122]⟩⟩ 909)), (en P s_3p 912 (.str ⟨⟨[97, 105, 117, 101, 111]⟩⟩ 911)), (en P s_17 918 (.ref 382)), (en P s_18 924 (.ref 389)), (en P s_19 930 (.ref 396)), (en P s_1a 938 (.ref 403)), (en P s_1b 946 (.ref 410)), (en P s_1c 954 (.ref 417)), (en P s_1d 963 (.ref 424)), (en P s_1e 973 (.ref 431)), (en P s_1f 982 (.ref 438)), (en P s_1g 1000 (.ref 445)), (en P s_1h 1016 (.ref 452))]⟩ 31), ⟨[]⟩⟩
def x9p : Obj := ⟨.none, none, (.fields ⟨[(iz 1), (iz 0), (.ref 20), (iz 5), (iz 0), (.ref 27), (iz 199), (iz 0), (.ref 207), (iz 206), (iz 0), (.ref 228), (iz 516), (iz 0), (.ref 348), (iz 518), (iz 0), (.ref 361), (iz 521), (iz 0), (.ref 374), (iz 527), (iz 0), (.ref 381), (iz 529), (iz 0), (.ref 388), (iz 531), (iz 0), (.ref 395), (iz 533), (iz 0), (.ref 402), (iz 537), (iz 0), (.ref 409), (iz 542), (iz 0), (.ref 416), (iz 552), (iz 0), (.ref 423), (iz 563), (iz 0), (.ref 430), (iz 589), (iz 0), (.ref 437), (iz 607), (iz 0), (.ref 444), (iz 615), (iz 0), (.ref 451)]⟩), ⟨[]⟩⟩
def x9q : Obj := ⟨(.type "tuple"), none, (.seq ⟨[(.type "Exception")]⟩ 0), ⟨[]⟩⟩
def x9r : Obj := ⟨(.type "builtin_function_or_method"), none, (.fields ⟨[(.builtin "type.__prepare__"), (.type "type")]⟩), ⟨[]⟩⟩
def x9s (P : Params) : Obj := ⟨(.type "dict"), none, (.dict ⟨[(en P s_5 864 (.str s_9 471)), (en P s_8 866 (.str s_v 865)), (en P s_6 868 (.int (.ofNat 516) 867)), (en P s_a 869 (.ref 350))]⟩ 4), ⟨[]⟩⟩
def x9t : Obj := ⟨(.type "tuple"), none, (.seq ⟨[]⟩ 0), ⟨[]⟩⟩
def x9u : Obj := ⟨.none, none, (.fields ⟨[]⟩), ⟨[]⟩⟩
def x9v : Obj := ⟨(.type "code"), none, (.fields ⟨[(.str s_v 859), (.str s_v 860), (.str s_0 861), (iz 516), (iz 0), (iz 0), (iz 0), (iz 0), (.ref 346), (.bool false), (iz 181), (.ref 347), .none, .none, .none, .none, (iz 862), (iz 516), (.str s_0 863)]⟩), ⟨[]⟩⟩
def x9w : Obj := ⟨(.type "frame"), none, .plain, ⟨[(some (.ref 348)), (some (.ref 3)), (some (.ref 345)), none, (some (.str s_9 471)), none, (some (.ref 0))]⟩⟩
def x9x : Obj := ⟨(.type "tuple"), none, (.seq ⟨[]⟩ 0), ⟨[]⟩⟩
def x9y (P : Params) : Obj := ⟨(.type "dict"), none, (.dict ⟨[(en P s_5 864 (.str s_9 471)), (en P s_6 868 (.int (.ofNat 516) 867)), (en P s_a 869 (.ref 350)), (en P s_r 871 (.ref 353)), (en P s_c 872 .none)]⟩ 3), ⟨[]⟩⟩
def x9z : Obj := ⟨(.type "type"), none, (.cls ⟨s_v, [(.type "Exception")], [(.ref 352), (.type "Exception"), (.type "BaseException"), (.type "object")], 351, s_v, true, [], [], false, none, false⟩), ⟨[(some (.ref 343)), none, (some (.str s_v 857)), (some (.str s_v 865)), (some (.builtin "Exception.__new__")), (some (.bool true))]⟩⟩
def xa0 : Obj := ⟨(.type "getset_descriptor"), none, (.fields ⟨[(.str s_r 870), (.ref 352), (.builtin "ExceptionGroup.__weakref__"), .none]⟩), ⟨[]⟩⟩
def xa1 : Obj := ⟨(.type "super"), none, (.fields ⟨[(.ref 352), (.ref 352), (.ref 352)]⟩), ⟨[]⟩⟩
def xa2 : Obj := ⟨(.type "builtin_function_or_method"), none, (.fields ⟨[(.builtin "object.__init_subclass__"), (.ref 352)]⟩), ⟨[]⟩⟩
def xa3 : Obj := ⟨(.type "tuple"), none, (.seq ⟨[(.type "Exception")]⟩ 0), ⟨[]⟩⟩
def xa4 : Obj := ⟨(.type "builtin_function_or_method"), none, (.fields ⟨[(.builtin "type.__prepare__"), (.type "type")]⟩), ⟨[]⟩⟩
def xa5 (P : Params) : Obj := ⟨(.type "dict"), none, (.dict ⟨[(en P s_5 884 (.str s_9 471)), (en P s_8 886 (.str s_w 885)), (en P s_6 888 (.int (.ofNat 518) 887)), (en P s_a 889 (.ref 363))]⟩ 4), ⟨[]⟩⟩
def xa6 : Obj := ⟨(.type "tuple"), none, (.seq ⟨[]⟩ 0), ⟨[]⟩⟩
def xa7 : Obj := ⟨.none, none, (.fields ⟨[]⟩), ⟨[]⟩⟩
def xa8 : Obj := ⟨(.type "code"), none, (.fields ⟨[(.str s_w 879), (.str s_w 880), (.str s_0 881), (iz 518), (iz 0), (iz 0), (iz 0), (iz 0), (.ref 359), (.bool false), (iz 181), (.ref 360), .none, .none, .none, .none, (iz 882), (iz 518), (.str s_0 883)]⟩), ⟨[]⟩⟩
def xa9 : Obj := ⟨(.type "frame"), none, .plain, ⟨[(some (.ref 361)), (some (.ref 3)), (some (.ref 358)), none, (some (.str s_9 471)), none, (some (.ref 0))]⟩⟩
def xaa : Obj := ⟨(.type "tuple"), none, (.seq ⟨[]⟩ 0), ⟨[]⟩⟩
def xab (P : Params) : Obj := ⟨(.type "dict"), none, (.dict ⟨[(en P s_5 884 (.str s_9 471)), (en P s_6 888 (.int (.ofNat 518) 887)), (en P s_a 889 (.ref 363)), (en P s_r 891 (.ref 366)), (en P s_c 892 .none)]⟩ 3), ⟨[]⟩⟩
def xac : Obj := ⟨(.type "type"), none, (.cls ⟨s_w, [(.type "Exception")], [(.ref 365), (.type "Exception"), (.type "BaseException"), (.type "object")], 364, s_w, true, [], [], false, none, false⟩), ⟨[(some (.ref 356)), none, (some (.str s_w 877)), (some (.str s_w 885)), (some (.builtin "Exception.__new__")), (some (.bool true))]⟩⟩
def xad : Obj := ⟨(.type "getset_descriptor"), none, (.fields ⟨[(.str s_r 890), (.ref 365), (.builtin "ExceptionGroup.__weakref__"), .none]⟩), ⟨[]⟩⟩
def xae : Obj := ⟨(.type "super"), none, (.fields ⟨[(.ref 365), (.ref 365), (.ref 365)]⟩), ⟨[]⟩⟩
def xaf : Obj := ⟨(.type "builtin_function_or_method"), none, (.fields ⟨[(.builtin "object.__init_subclass__"), (.ref 365)]⟩), ⟨[]⟩⟩
def xag : Obj := ⟨(.type "tuple"), none, (.seq ⟨[]⟩ 0), ⟨[]⟩⟩
def xah : Obj := ⟨.none, none, (.fields ⟨[]⟩), ⟨[]⟩⟩
def xai : Obj := ⟨(.type "tuple"), none, (.seq ⟨[]⟩ 0), ⟨[]⟩⟩
def xaj : Obj := ⟨(.type "tuple"), none, (.seq ⟨[]⟩ 0), ⟨[]⟩⟩
def xak : Obj := ⟨.none, none, (.func ⟨s_16, s_16, fPar (tp 10), .stmts (fBody (tp 10)), fScope (tp 10), 0, [], .none, .none, .none, .none, none, .none, .none, 0⟩), ⟨[]⟩⟩
def xal : Obj := ⟨(.type "code"), none, (.fields ⟨[(.str s_16 899), (.str s_16 900), (.str s_0 901), (iz 521), (iz 0), (iz 0), (iz 0), (iz 3), (.ref 369), (.bool true), (iz 181), (.ref 370), .none, (.ref 371), (.ref 372), (.ref 373), (iz 902), (iz 521), (.str s_0 903)]⟩), ⟨[]⟩⟩
def xam : Obj := ⟨(.type "function"), none, (.func ⟨s_16, s_16, fPar (tp 10), .stmts (fBody (tp 10)), fScope (tp 10), 3, [], .none, .none, .none, (.str s_q 897), none, (.ref 374), .none, 0⟩), ⟨[]⟩⟩
def xan : Obj := ⟨(.type "tuple"), none, (.seq ⟨[]⟩ 0), ⟨[]⟩⟩
def xao : Obj := ⟨.none, none, (.fields ⟨[]⟩), ⟨[]⟩⟩
def xap : Obj := ⟨(.type "tuple"), none, (.seq ⟨[]⟩ 0), ⟨[]⟩⟩
def xaq : Obj := ⟨(.type "tuple"), none, (.seq ⟨[]⟩ 0), ⟨[]⟩⟩
def xar : Obj := ⟨.none, none, (.func ⟨s_17, s_17, fPar (tp 15), .stmts (fBody (tp 15)), fScope (tp 15), 0, [], .none, .none, .none, .none, none, .none, .none, 0⟩), ⟨[]⟩⟩
def xas : Obj := ⟨(.type "code"), none, (.fields ⟨[(.str s_17 913), (.str s_17 914), (.str s_0 915), (iz 527), (iz 0), (iz 0), (iz 0), (iz 3), (.ref 376), (.bool true), (iz 181), (.ref 377), .none, (.ref 378), (.ref 379), (.ref 380), (iz 916), (iz 527), (.str s_0 917)]⟩), ⟨[]⟩⟩
def xat : Obj := ⟨(.type "function"), none, (.func ⟨s_17, s_17, fPar (tp 15), .stmts (fBody (tp 15)), fScope (tp 15), 3, [], .none, .none, .none, (.str s_q 897), none, (.ref 381), .none, 0⟩), ⟨[]⟩⟩
def xau : Obj := ⟨(.type "tuple"), none, (.seq ⟨[]⟩ 0), ⟨[]⟩⟩
def xav : Obj := ⟨.none, none, (.fields ⟨[]⟩), ⟨[]⟩⟩
def xaw : Obj := ⟨(.type "tuple"), none, (.seq ⟨[]⟩ 0), ⟨[]⟩⟩
def xax : Obj := ⟨(.type "tuple"), none, (.seq ⟨[]⟩ 0), ⟨[]⟩⟩
def xay : Obj := ⟨.none, none, (.func ⟨s_18, s_18, fPar (tp 16), .stmts (fBody (tp 16)), fScope (tp 16), 0, [], .none, .none, .none, .none, none, .none, .none, 0⟩), ⟨[]⟩⟩
def xaz : Obj := ⟨(.type "code"), none, (.fields ⟨[(.str s_18 919), (.str s_18 920), (.str s_0 921), (iz 529), (iz 0), (iz 0), (iz 0), (iz 3), (.ref 383), (.bool true), (iz 181), (.ref 384), .none, (.ref 385), (.ref 386), (.ref 387), (iz 922), (iz 529), (.str s_0 923)]⟩), ⟨[]⟩⟩
def xb0 : Obj := ⟨(.type "function"), none, (.func ⟨s_18, s_18, fPar (tp 16), .stmts (fBody (tp 16)), fScope (tp 16), 3, [], .none, .none, .none, (.str s_q 897), none, (.ref 388), .none, 0⟩), ⟨[]⟩⟩
def xb1 : Obj := ⟨(.type "tuple"), none, (.seq ⟨[]⟩ 0), ⟨[]⟩⟩
def xb2 : Obj := ⟨.none, none, (.fields ⟨[]⟩), ⟨[]⟩⟩
def xb3 : Obj := ⟨(.type "tuple"), none, (.seq ⟨[]⟩ 0), ⟨[]⟩⟩
def xb4 : Obj := ⟨(.type "tuple"), none, (.seq ⟨[]⟩ 0), ⟨[]⟩⟩
def xb5 : Obj := ⟨.none, none, (.func ⟨s_19, s_19, fPar (tp 17), .stmts (fBody (tp 17)), fScope (tp 17), 0, [], .none, .none, .none, .none, none, .none, .none, 0⟩), ⟨[]⟩⟩
def xb6 : Obj := ⟨(.type "code"), none, (.fields ⟨[(.str s_19 925), (.str s_19 926), (.str s_0 927), (iz 531), (iz 0), (iz 0), (iz 0), (iz 3), (.ref 390), (.bool true), (iz 181), (.ref 391), .none, (.ref 392), (.ref 393), (.ref 394), (iz 928), (iz 531), (.str s_0 929)]⟩), ⟨[]⟩⟩
def xb7 : Obj := ⟨(.type "function"), none, (.func ⟨s_19, s_19, fPar (tp 17), .stmts (fBody (tp 17)), fScope (tp 17), 3, [], .none, .none, .none, (.str s_q 897), none, (.ref 395), .none, 0⟩), ⟨[]⟩⟩
def xb8 : Obj := ⟨(.type "tuple"), none, (.seq ⟨[]⟩ 0), ⟨[]⟩⟩
def xb9 : Obj := ⟨.none, none, (.fields ⟨[]⟩), ⟨[]⟩⟩
def xba : Obj := ⟨(.type "tuple"), none, (.seq ⟨[(.str s_2b 934), (.str s_25 935)]⟩ 0), ⟨[]⟩⟩
def xbb : Obj := ⟨(.type "tuple"), none, (.seq ⟨[]⟩ 0), ⟨[]⟩⟩
def xbc : Obj := ⟨.none, none, (.func ⟨s_1a, s_1a, fPar (tp 18), .stmts (fBody (tp 18)), fScope (tp 18), 0, [], .none, .none, .none, .none, none, .none, .none, 0⟩), ⟨[]⟩⟩
def xbd : Obj := ⟨(.type "code"), none, (.fields ⟨[(.str s_1a 931), (.str s_1a 932), (.str s_0 933), (iz 533), (iz 2), (iz 0), (iz 0), (iz 3), (.ref 397), (.bool true), (iz 181), (.ref 398), .none, (.ref 399), (.ref 400), (.ref 401), (iz 936), (iz 533), (.str s_0 937)]⟩), ⟨[]⟩⟩
def xbe : Obj := ⟨(.type "function"), none, (.func ⟨s_1a, s_1a, fPar (tp 18), .stmts (fBody (tp 18)), fScope (tp 18), 3, [], .none, .none, .none, (.str s_q 897), none, (.ref 402), .none, 0⟩), ⟨[]⟩⟩
def xbf : Obj := ⟨(.type "tuple"), none, (.seq ⟨[]⟩ 0), ⟨[]⟩⟩
def xbg : Obj := ⟨.none, none, (.fields ⟨[]⟩), ⟨[]⟩⟩
def xbh : Obj := ⟨(.type "tuple"), none, (.seq ⟨[(.str s_2b 942), (.str ⟨⟨[104, 101, 97, 100]⟩⟩ 943)]⟩ 0), ⟨[]⟩⟩
def xbi : Obj := ⟨(.type "tuple"), none, (.seq ⟨[]⟩ 0), ⟨[]⟩⟩
def xbj : Obj := ⟨.none, none, (.func ⟨s_1b, s_1b, fPar (tp 19), .stmts (fBody (tp 19)), fScope (tp 19), 0, [], .none, .none, .none, .none, none, .none, .none, 0⟩), ⟨[]⟩⟩
def xbk : Obj := ⟨(.type "code"), none, (.fields ⟨[(.str s_1b 939), (.str s_1b 940), (.str s_0 941), (iz 537), (iz 1), (iz 0), (iz 0), (iz 3), (.ref 404), (.bool true), (iz 181), (.ref 405), .none, (.ref 406), (.ref 407), (.ref 408), (iz 944), (iz 537), (.str s_0 945)]⟩), ⟨[]⟩⟩
def xbl : Obj := ⟨(.type "function"), none, (.func ⟨s_1b, s_1b, fPar (tp 19), .stmts (fBody (tp 19)), fScope (tp 19), 3, [], .none, .none, .none, (.str s_q 897), none, (.ref 409), .none, 0⟩), ⟨[]⟩⟩
def xbm : Obj := ⟨(.type "tuple"), none, (.seq ⟨[]⟩ 0), ⟨[]⟩⟩
def xbn : Obj := ⟨.none, none, (.fields ⟨[]⟩), ⟨[]⟩⟩
def xbo : Obj := ⟨(.type "tuple"), none, (.seq ⟨[(.str s_2b 950), (.str ⟨⟨[114, 101, 115, 116]⟩⟩ 951)]⟩ 0), ⟨[]⟩⟩
def xbp : Obj := ⟨(.type "tuple"), none, (.seq ⟨[]⟩ 0), ⟨[]⟩⟩
def xbq : Obj := ⟨.none, none, (.func ⟨s_1c, s_1c, fPar (tp 20), .stmts (fBody (tp 20)), fScope (tp 20), 0, [], .none, .none, .none, .none, none, .none, .none, 0⟩), ⟨[]⟩⟩
def xbr : Obj := ⟨(.type "code"), none, (.fields ⟨[(.str s_1c 947), (.str s_1c 948), (.str s_0 949), (iz 542), (iz 1), (iz 0), (iz 0), (iz 3), (.ref 411), (.bool true), (iz 181), (.ref 412), .none, (.ref 413), (.ref 414), (.ref 415), (iz 952), (iz 542), (.str s_0 953)]⟩), ⟨[]⟩⟩
def xbs : Obj := ⟨(.type "function"), none, (.func ⟨s_1c, s_1c, fPar (tp 20), .stmts (fBody (tp 20)), fScope (tp 20), 3, [], .none, .none, .none, (.str s_q 897), none, (.ref 416), .none, 0⟩), ⟨[]⟩⟩
def xbt : Obj := ⟨(.type "tuple"), none, (.seq ⟨[]⟩ 0), ⟨[]⟩⟩
def xbu : Obj := ⟨.none, none, (.fields ⟨[]⟩), ⟨[]⟩⟩
def xbv : Obj := ⟨(.type "tuple"), none, (.seq ⟨[(.str ⟨⟨[102, 114, 111, 110, 116]⟩⟩ 958), (.str s_28 959), (.str ⟨⟨[102, 105, 114, 115, 116]⟩⟩ 960)]⟩ 0), ⟨[]⟩⟩
def xbw : Obj := ⟨(.type "tuple"), none, (.seq ⟨[]⟩ 0), ⟨[]⟩⟩
def xbx : Obj := ⟨.none, none, (.func ⟨s_1d, s_1d, fPar (tp 21), .stmts (fBody (tp 21)), fScope (tp 21), 0, [], .none, .none, .none, .none, none, .none, .none, 0⟩), ⟨[]⟩⟩
def xby : Obj := ⟨(.type "code"), none, (.fields ⟨[(.str s_1d 955), (.str s_1d 956), (.str s_0 957), (iz 552), (iz 2), (iz 0), (iz 0), (iz 3), (.ref 418), (.bool true), (iz 181), (.ref 419), .none, (.ref 420), (.ref 421), (.ref 422), (iz 961), (iz 552), (.str s_0 962)]⟩), ⟨[]⟩⟩
def xbz : Obj := ⟨(.type "function"), none, (.func ⟨s_1d, s_1d, fPar (tp 21), .stmts (fBody (tp 21)), fScope (tp 21), 3, [], .none, .none, .none, (.str s_q 897), none, (.ref 423), .none, 0⟩), ⟨[]⟩⟩
def xc0 : Obj := ⟨(.type "tuple"), none, (.seq ⟨[]⟩ 0), ⟨[]⟩⟩
def xc1 : Obj := ⟨.none, none, (.fields ⟨[]⟩), ⟨[]⟩⟩
def xc2 : Obj := ⟨(.type "tuple"), none, (.seq ⟨[(.str s_28 967), (.str s_3a 968), (.str ⟨⟨[107, 105, 110, 100]⟩⟩ 969), (.str ⟨⟨[109, 111, 114, 101]⟩⟩ 970)]⟩ 0), ⟨[]⟩⟩
def xc3 : Obj := ⟨(.type "tuple"), none, (.seq ⟨[]⟩ 0), ⟨[]⟩⟩
def xc4 : Obj := ⟨.none, none, (.func ⟨s_1e, s_1e, fPar (tp 22), .stmts (fBody (tp 22)), fScope (tp 22), 0, [], .none, .none, .none, .none, none, .none, .none, 0⟩), ⟨[]⟩⟩
def xc5 : Obj := ⟨(.type "code"), none, (.fields ⟨[(.str s_1e 964), (.str s_1e 965), (.str s_0 966), (iz 563), (iz 4), (iz 0), (iz 0), (iz 3), (.ref 425), (.bool true), (iz 181), (.ref 426), .none, (.ref 427), (.ref 428), (.ref 429), (iz 971), (iz 563), (.str s_0 972)]⟩), ⟨[]⟩⟩
def xc6 : Obj := ⟨(.type "function"), none, (.func ⟨s_1e, s_1e, fPar (tp 22), .stmts (fBody (tp 22)), fScope (tp 22), 3, [], .none, .none, .none, (.str s_q 897), none, (.ref 430), .none, 0⟩), ⟨[]⟩⟩
def xc7 : Obj := ⟨(.type "tuple"), none, (.seq ⟨[]⟩ 0), ⟨[]⟩⟩
def xc8 : Obj := ⟨.none, none, (.fields ⟨[]⟩), ⟨[]⟩⟩
def xc9 : Obj := ⟨(.type "tuple"), none, (.seq ⟨[(.str s_28 977), (.str ⟨⟨[115, 111, 114, 116]⟩⟩ 978), (.str ⟨⟨[116, 97, 105, 108]⟩⟩ 979)]⟩ 0), ⟨[]⟩⟩
def xca : Obj := ⟨(.type "tuple"), none, (.seq ⟨[]⟩ 0), ⟨[]⟩⟩
def xcb : Obj := ⟨.none, none, (.func ⟨s_1f, s_1f, fPar (tp 23), .stmts (fBody (tp 23)), fScope (tp 23), 0, [], .none, .none, .none, .none, none, .none, .none, 0⟩), ⟨[]⟩⟩
def xcc : Obj := ⟨(.type "code"), none, (.fields ⟨[(.str s_1f 974), (.str s_1f 975), (.str s_0 976), (iz 589), (iz 3), (iz 0), (iz 0), (iz 3), (.ref 432), (.bool true), (iz 181), (.ref 433), .none, (.ref 434), (.ref 435), (.ref 436), (iz 980), (iz 589), (.str s_0 981)]⟩), ⟨[]⟩⟩
def xcd : Obj := ⟨(.type "function"), none, (.func ⟨s_1f, s_1f, fPar (tp 23), .stmts (fBody (tp 23)), fScope (tp 23), 3, [], .none, .none, .none, (.str s_q 897), none, (.ref 437), .none, 0⟩), ⟨[]⟩⟩
def xce : Obj := ⟨(.type "tuple"), none, (.seq ⟨[]⟩ 0), ⟨[]⟩⟩
def xcf : Obj := ⟨.none, none, (.fields ⟨[]⟩), ⟨[]⟩⟩
def xcg : Obj := ⟨(.type "tuple"), none, (.seq ⟨[(.str s_28 986), (.str s_3a 987), (.str ⟨⟨[120]⟩⟩ 988), (.str ⟨⟨[121]⟩⟩ 989), (.str ⟨⟨[102, 114, 111, 110, 116]⟩⟩ 990), (.str ⟨⟨[107, 101, 114, 110, 101, 108]⟩⟩ 991), (.str ⟨⟨[115, 111, 114, 116]⟩⟩ 992), (.str ⟨⟨[105, 110, 110, 101, 114]⟩⟩ 993), (.str ⟨⟨[116, 97, 105, 108]⟩⟩ 994), (.str s_2y 995), (.str ⟨⟨[102, 97, 108, 108, 115]⟩⟩ 996), (.str ⟨⟨[108, 101, 102, 116]⟩⟩ 997)]⟩ 0), ⟨[]⟩⟩
def xch : Obj := ⟨(.type "tuple"), none, (.seq ⟨[]⟩ 0), ⟨[]⟩⟩
def xci : Obj := ⟨.none, none, (.func ⟨s_1g, s_1g, fPar (tp 24), .stmts (fBody (tp 24)), fScope (tp 24), 0, [], .none, .none, .none, .none, none, .none, .none, 0⟩), ⟨[]⟩⟩
def xcj : Obj := ⟨(.type "code"), none, (.fields ⟨[(.str s_1g 983), (.str s_1g 984), (.str s_0 985), (iz 607), (iz 4), (iz 0), (iz 0), (iz 3), (.ref 439), (.bool true), (iz 181), (.ref 440), .none, (.ref 441), (.ref 442), (.ref 443), (iz 998), (iz 607), (.str s_0 999)]⟩), ⟨[]⟩⟩
def xck : Obj := ⟨(.type "function"), none, (.func ⟨s_1g, s_1g, fPar (tp 24), .stmts (fBody (tp 24)), fScope (tp 24), 3, [], .none, .none, .none, (.str s_q 897), none, (.ref 444), .none, 0⟩), ⟨[]⟩⟩
def xcl : Obj := ⟨(.type "tuple"), none, (.seq ⟨[]⟩ 0), ⟨[]⟩⟩
def xcm : Obj := ⟨.none, none, (.fields ⟨[]⟩), ⟨[]⟩⟩
def xcn : Obj := ⟨(.type "tuple"), none, (.seq ⟨[(.str s_2b 1004), (.str ⟨⟨[114, 101, 115, 116]⟩⟩ 1005), (.str s_28 1006), (.str s_3a 1007), (.str ⟨⟨[119, 111, 114, 100, 115]⟩⟩ 1008), (.str ⟨⟨[115, 116, 101, 109, 115]⟩⟩ 1009), (.str s_25 1010), (.str s_2y 1011), (.str ⟨⟨[115, 116, 101, 109]⟩⟩ 1012), (.str ⟨⟨[115, 116, 101, 109, 109, 101, 114]⟩⟩ 1013)]⟩ 0), ⟨[]⟩⟩
def xco : Obj := ⟨(.type "tuple"), none, (.seq ⟨[]⟩ 0), ⟨[]⟩⟩
def xcp : Obj := ⟨.none, none, (.func ⟨s_1h, s_1h, fPar (tp 25), .stmts (fBody (tp 25)), fScope (tp 25), 0, [], .none, .none, .none, .none, none, .none, .none, 0⟩), ⟨[]⟩⟩
def xcq : Obj := ⟨(.type "code"), none, (.fields ⟨[(.str s_1h 1001), (.str s_1h 1002), (.str s_0 1003), (iz 615), (iz 1), (iz 0), (iz 0), (iz 3), (.ref 446), (.bool true), (iz 181), (.ref 447), .none, (.ref 448), (.ref 449), (.ref 450), (iz 1014), (iz 615), (.str s_0 1015)]⟩), ⟨[]⟩⟩
def xcr : Obj := ⟨(.type "function"), none, (.func ⟨s_1h, s_1h, fPar (tp 25), .stmts (fBody (tp 25)), fScope (tp 25), 3, [], .none, .none, .none, (.str s_q 897), none, (.ref 451), .none, 0⟩), ⟨[]⟩⟩
def T5 (P : Params) (es : Array (Int × Value)) (ep : Nat) (st : SetTable) : BT := (nd (boot_o_0 P) (nd (boot_o_1 P) (nd (x9o P) (nd (boot_o_7 P) (nd x6 (nd xm (nd x1i (nd x3a (lf x70) (lf xau)) (nd x52 (lf x8v) (lf xcm))) (nd x2e (nd x46 (lf x7x) (lf xbq)) (nd x61 (lf (x9y P)) .nil))) (nd x12 (nd x1y (nd x3q (lf x7g) (lf xba)) (nd x5k (lf x9c) .nil)) (nd x2u (nd x4m (lf (x8f P)) (lf xc6)) (nd x6k (lf xae) .nil)))) (nd xe (nd xu (nd x1q (nd x3i (lf x78) (lf xb2)) (nd x5a (lf (x93 P)) .nil)) (nd x2m (nd x4e (lf (x86 P)) (lf xby)) (nd x6c (lf xa6) .nil))) (nd x1a (nd x26 (nd x3y (lf (x7p P)) (lf xbi)) (nd x5s (lf x9q) .nil)) (nd x32 (nd x4u (lf (x8n P)) (lf xce)) (nd x6s (lf xam) .nil))))) (nd x0 (nd xa (nd xq (nd x1m (nd x3e (lf x74) (lf xay)) (nd x56 (lf (x8z P)) (lf xcq))) (nd x2i (nd x4a (lf (x81 P)) (lf xbu)) (nd x6b (lf xa2) .nil))) (nd x16 (nd x22 (nd x3u (lf (x7l P)) (lf xbe)) (nd x5o (lf (x9j P)) .nil)) (nd x2y (nd x4q (lf x8j) (lf xca)) (nd x6o (lf xai) .nil)))) (nd xi (nd xy (nd x1u (nd x3m (lf x7c) (lf xb6)) (nd x5g (lf (x98 P)) .nil)) (nd x2q (nd x4i (lf x8a) (lf xc2)) (nd x6g (lf xaa) .nil))) (nd x1e (nd x2a (nd x42 (lf (x7t P)) (lf xbm)) (nd x5w (lf x9u) .nil)) (nd x36 (nd x4y (lf (x8r P)) (lf xci)) (nd x6w (lf xaq) .nil)))))) (nd (boot_o_5 P) (nd (boot_o_9 P) (nd x8 (nd xo (nd x1k (nd x3c (lf x72) (lf xaw)) (nd x54 (lf (x8x P)) (lf xco))) (nd x2g (nd x48 (lf (x7z P)) (lf xbs)) (nd (x9h P) (lf xa0) .nil))) (nd x14 (nd x20 (nd x3s (lf (x7j P)) (lf xbc)) (nd x5m (lf x9e) .nil)) (nd x2w (nd x4o (lf (x8h P)) (lf xc8)) (nd x6m (lf xag) .nil)))) (nd xg (nd xw (nd x1s (nd x3k (lf x7a) (lf xb4)) (nd x5c (lf (x95 P)) .nil)) (nd x2o (nd x4g (lf x88) (lf xc0)) (nd x6e (lf xa8) .nil))) (nd x1c (nd x28 (nd x40 (lf (x7r P)) (lf xbk)) (nd (x5u P) (lf (x9s P)) .nil)) (nd x34 (nd x4w (lf x8p) (lf xcg)) (nd x6u (lf xao) .nil))))) (nd x2 (nd xc (nd xs (nd x1o (nd x3g (lf x76) (lf xb0)) (nd x9g (lf x91) .nil)) (nd x2k (nd x4c (lf (x84 P)) (lf xbw)) (nd x67 (lf xa4) .nil))) (nd x18 (nd x24 (nd x3w (lf x7n) (lf xbg)) (nd x5q (lf x9l) .nil)) (nd x30 (nd x4s (lf (x8l P)) (lf xcc)) (nd x6q (lf xak) .nil)))) (nd xk (nd x10 (nd x1w (nd x3o (lf x7e) (lf xb8)) (nd x5i (lf (x9a P)) .nil)) (nd x2s (nd x4k (lf x8d) (lf xc4)) (nd x6i (lf xac) .nil))) (nd x1g (nd x2c (nd x44 (lf (x7v P)) (lf xbo)) (nd x5y (lf x9w) .nil)) (nd x38 (nd x50 (lf (x8t P)) (lf xck)) (nd x6y (lf xas) .nil))))))) (nd (x9n P) (nd (boot_o_4 P) (nd (boot_o_8 P) (nd x7 (nd xn (nd x1j (nd x3b (lf x71) (lf xav)) (nd x53 (lf (x8w P)) (lf xcn))) (nd x2f (nd x47 (lf (x7y P)) (lf xbr)) (nd x62 (lf x9z) .nil))) (nd x13 (nd x1z (nd x3r (lf x7h) (lf xbb)) (nd x5l (lf (x9d P)) .nil)) (nd x2v (nd x4n (lf x8g) (lf xc7)) (nd x6l (lf xaf) .nil)))) (nd (xf P) (nd xv (nd x1r (nd x3j (lf x79) (lf xb3)) (nd x5b (lf x94) .nil)) (nd x2n (nd x4f (lf (x87 P)) (lf xbz)) (nd x6d (lf xa7) .nil))) (nd x1b (nd x27 (nd x3z (lf x7q) (lf xbj)) (nd x5t (lf x9r) .nil)) (nd x33 (nd x4v (lf (x8o P)) (lf xcf)) (nd x6t (lf xan) .nil))))) (nd x9p (nd xb (nd xr (nd x1n (nd x3f (lf x75) (lf xaz)) (nd (x57 P) (lf (x90 P)) (lf xcr))) (nd x2j (nd x4b (lf x82) (lf xbv)) (nd x66 (lf xa3) .nil))) (nd x17 (nd x23 (nd x3v (lf (x7m P)) (lf xbf)) (nd x5p (lf x9k) .nil)) (nd x2z (nd x4r (lf (x8k P)) (lf xcb)) (nd x6p (lf xaj) .nil)))) (nd xj (nd xz (nd x1v (nd x3n (lf x7d) (lf xb7)) (nd (x5h P) (lf x99) .nil)) (nd x2r (nd x4j (lf (x8c P)) (lf xc3)) (nd x6h (lf (xab P)) .nil))) (nd x1f (nd x2b (nd x43 (lf x7u) (lf xbn)) (nd x5x (lf x9v) .nil)) (nd x37 (nd x4z (lf x8s) (lf xcj)) (nd x6x (lf xar) .nil)))))) (nd (boot_o_6 P) (nd (boot_o_10 P) (nd x9 (nd xp (nd x1l (nd x3d (lf x73) (lf xax)) (nd x55 (lf x8y) (lf xcp))) (nd x2h (nd x49 (lf x80) (lf xbt)) (nd x64 (lf xa1) .nil))) (nd x15 (nd x21 (nd x3t (lf x7k) (lf xbd)) (nd x5n (lf x9i) .nil)) (nd x2x (nd x4p (lf (x8i P)) (lf xc9)) (nd x6n (lf xah) .nil)))) (nd xh (nd xx (nd x1t (nd x3l (lf x7b) (lf xb5)) (nd x5f (lf x96) .nil)) (nd x2p (nd x4h (lf (x89 P)) (lf xc1)) (nd x6f (lf xa9) .nil))) (nd x1d (nd x29 (nd x41 (lf x7s) (lf xbl)) (nd x5v (lf x9t) .nil)) (nd x35 (nd x4x (lf (x8q P)) (lf xch)) (nd x6v (lf xap) .nil))))) (nd x3 (nd xd (nd xt (nd x1p (nd x3h (lf x77) (lf xb1)) (nd x59 (lf (x92 P)) .nil)) (nd x2l (nd x4d (lf x85) (lf xbx)) (nd (x68 P es ep st) (lf (xa5 P)) .nil))) (nd x19 (nd x25 (nd x3x (lf (x7o P)) (lf xbh)) (nd x5r (lf x9m) .nil)) (nd x31 (nd x4t (lf x8m) (lf xcd)) (nd x6r (lf xal) .nil)))) (nd xl (nd x11 (nd x1x (nd x3p (lf x7f) (lf xb9)) (nd x5j (lf (x9b P)) .nil)) (nd x2t (nd x4l (lf (x8e P)) (lf xc5)) (nd x6j (lf xad) .nil))) (nd x1h (nd x2d (nd x45 (lf (x7w P)) (lf xbp)) (nd x5z (lf x9x) .nil)) (nd x39 (nd x51 (lf (x8u P)) (lf xcl)) (nd x6z (lf xat) .nil))))))))
def S5 (w : World) (os : OsState) (life : Life) (es : Array (Int × Value)) (ep : Nat) (st : SetTable) : SharedT := ⟨T5 w.params es ep st, 453, life, ⟨[]⟩, ⟨0, 0, 0, 0⟩, 1017, os⟩
def Q5 : Prop := ∀ (w : World) (os : OsState) (life : Life) (es : Array (Int × Value)) (ep : Nat) (st : SetTable) (K : Flow → Sem PySem.Fin) (H : Value → Sem PySem.Fin), goK (denote treeTable) PySem.Challenge.pw_af0030_01 w 0 811 (S4 w os life es ep st) ⟨(execs [tp 7, tp 8, tp 9, tp 10, tp 11, tp 12, tp 13, tp 14, tp 15, tp 16, tp 17, tp 18, tp 19, tp 20, tp 21, tp 22, tp 23, tp 24, tp 25] env).wrap K H id id, cM, ⟨206, 0, 515, 50⟩, BM⟩ = some (S5 w os life es ep st, ⟨K .next, cM, ⟨615, 0, 626, 87⟩, BM⟩)
lay_quick Q5
theorem q5 : Q5 := by rw [PySem.W.Fast.te9017575715729957214]; delta PySem.W.Fast.tw9017575715729957214; intros; kernel_rfl
def TF (P : Params) (es : Array (Int × Value)) (ep : Nat) (st : SetTable) : BT := (nd (boot_o_0 P) (nd (boot_o_1 P) (nd (x9o P) (nd (boot_o_7 P) (nd x6 (nd xm (nd x1i (nd x3a (lf x70) (lf xau)) (nd x52 (lf x8v) (lf xcm))) (nd x2e (nd x46 (lf x7x) (lf xbq)) (nd x61 (lf (x9y P)) .nil))) (nd x12 (nd x1y (nd x3q (lf x7g) (lf xba)) (nd x5k (lf x9c) .nil)) (nd x2u (nd x4m (lf (x8f P)) (lf xc6)) (nd x6k (lf xae) .nil)))) (nd xe (nd xu (nd x1q (nd x3i (lf x78) (lf xb2)) (nd x5a (lf (x93 P)) .nil)) (nd x2m (nd x4e (lf (x86 P)) (lf xby)) (nd x6c (lf xa6) .nil))) (nd x1a (nd x26 (nd x3y (lf (x7p P)) (lf xbi)) (nd x5s (lf x9q) .nil)) (nd x32 (nd x4u (lf (x8n P)) (lf xce)) (nd x6s (lf xam) .nil))))) (nd x0 (nd xa (nd xq (nd x1m (nd x3e (lf x74) (lf xay)) (nd x56 (lf (x8z P)) (lf xcq))) (nd x2i (nd x4a (lf (x81 P)) (lf xbu)) (nd x6b (lf xa2) .nil))) (nd x16 (nd x22 (nd x3u (lf (x7l P)) (lf xbe)) (nd x5o (lf (x9j P)) .nil)) (nd x2y (nd x4q (lf x8j) (lf xca)) (nd x6o (lf xai) .nil)))) (nd xi (nd xy (nd x1u (nd x3m (lf x7c) (lf xb6)) (nd x5g (lf (x98 P)) .nil)) (nd x2q (nd x4i (lf x8a) (lf xc2)) (nd x6g (lf xaa) .nil))) (nd x1e (nd x2a (nd x42 (lf (x7t P)) (lf xbm)) (nd x5w (lf x9u) .nil)) (nd x36 (nd x4y (lf (x8r P)) (lf xci)) (nd x6w (lf xaq) .nil)))))) (nd (boot_o_5 P) (nd (boot_o_9 P) (nd x8 (nd xo (nd x1k (nd x3c (lf x72) (lf xaw)) (nd x54 (lf (x8x P)) (lf xco))) (nd x2g (nd x48 (lf (x7z P)) (lf xbs)) (nd (x9h P) (lf xa0) .nil))) (nd x14 (nd x20 (nd x3s (lf (x7j P)) (lf xbc)) (nd x5m (lf x9e) .nil)) (nd x2w (nd x4o (lf (x8h P)) (lf xc8)) (nd x6m (lf xag) .nil)))) (nd xg (nd xw (nd x1s (nd x3k (lf x7a) (lf xb4)) (nd x5c (lf (x95 P)) .nil)) (nd x2o (nd x4g (lf x88) (lf xc0)) (nd x6e (lf xa8) .nil))) (nd x1c (nd x28 (nd x40 (lf (x7r P)) (lf xbk)) (nd (x5u P) (lf (x9s P)) .nil)) (nd x34 (nd x4w (lf x8p) (lf xcg)) (nd x6u (lf xao) .nil))))) (nd x2 (nd xc (nd xs (nd x1o (nd x3g (lf x76) (lf xb0)) (nd x9g (lf x91) .nil)) (nd x2k (nd x4c (lf (x84 P)) (lf xbw)) (nd x67 (lf xa4) .nil))) (nd x18 (nd x24 (nd x3w (lf x7n) (lf xbg)) (nd x5q (lf x9l) .nil)) (nd x30 (nd x4s (lf (x8l P)) (lf xcc)) (nd x6q (lf xak) .nil)))) (nd xk (nd x10 (nd x1w (nd x3o (lf x7e) (lf xb8)) (nd x5i (lf (x9a P)) .nil)) (nd x2s (nd x4k (lf x8d) (lf xc4)) (nd x6i (lf xac) .nil))) (nd x1g (nd x2c (nd x44 (lf (x7v P)) (lf xbo)) (nd x5y (lf x9w) .nil)) (nd x38 (nd x50 (lf (x8t P)) (lf xck)) (nd x6y (lf xas) .nil))))))) (nd (x9n P) (nd (boot_o_4 P) (nd (boot_o_8 P) (nd x7 (nd xn (nd x1j (nd x3b (lf x71) (lf xav)) (nd x53 (lf (x8w P)) (lf xcn))) (nd x2f (nd x47 (lf (x7y P)) (lf xbr)) (nd x62 (lf x9z) .nil))) (nd x13 (nd x1z (nd x3r (lf x7h) (lf xbb)) (nd x5l (lf (x9d P)) .nil)) (nd x2v (nd x4n (lf x8g) (lf xc7)) (nd x6l (lf xaf) .nil)))) (nd (xf P) (nd xv (nd x1r (nd x3j (lf x79) (lf xb3)) (nd x5b (lf x94) .nil)) (nd x2n (nd x4f (lf (x87 P)) (lf xbz)) (nd x6d (lf xa7) .nil))) (nd x1b (nd x27 (nd x3z (lf x7q) (lf xbj)) (nd x5t (lf x9r) .nil)) (nd x33 (nd x4v (lf (x8o P)) (lf xcf)) (nd x6t (lf xan) .nil))))) (nd x9p (nd xb (nd xr (nd x1n (nd x3f (lf x75) (lf xaz)) (nd (x57 P) (lf (x90 P)) (lf xcr))) (nd x2j (nd x4b (lf x82) (lf xbv)) (nd x66 (lf xa3) .nil))) (nd x17 (nd x23 (nd x3v (lf (x7m P)) (lf xbf)) (nd x5p (lf x9k) .nil)) (nd x2z (nd x4r (lf (x8k P)) (lf xcb)) (nd x6p (lf xaj) .nil)))) (nd xj (nd xz (nd x1v (nd x3n (lf x7d) (lf xb7)) (nd (x5h P) (lf x99) .nil)) (nd x2r (nd x4j (lf (x8c P)) (lf xc3)) (nd x6h (lf (xab P)) .nil))) (nd x1f (nd x2b (nd x43 (lf x7u) (lf xbn)) (nd x5x (lf x9v) .nil)) (nd x37 (nd x4z (lf x8s) (lf xcj)) (nd x6x (lf xar) .nil)))))) (nd (boot_o_6 P) (nd (boot_o_10 P) (nd x9 (nd xp (nd x1l (nd x3d (lf x73) (lf xax)) (nd x55 (lf x8y) (lf xcp))) (nd x2h (nd x49 (lf x80) (lf xbt)) (nd x64 (lf xa1) .nil))) (nd x15 (nd x21 (nd x3t (lf x7k) (lf xbd)) (nd x5n (lf x9i) .nil)) (nd x2x (nd x4p (lf (x8i P)) (lf xc9)) (nd x6n (lf xah) .nil)))) (nd xh (nd xx (nd x1t (nd x3l (lf x7b) (lf xb5)) (nd x5f (lf x96) .nil)) (nd x2p (nd x4h (lf (x89 P)) (lf xc1)) (nd x6f (lf xa9) .nil))) (nd x1d (nd x29 (nd x41 (lf x7s) (lf xbl)) (nd x5v (lf x9t) .nil)) (nd x35 (nd x4x (lf (x8q P)) (lf xch)) (nd x6v (lf xap) .nil))))) (nd x3 (nd xd (nd xt (nd x1p (nd x3h (lf x77) (lf xb1)) (nd x59 (lf (x92 P)) .nil)) (nd x2l (nd x4d (lf x85) (lf xbx)) (nd (x68 P es ep st) (lf (xa5 P)) .nil))) (nd x19 (nd x25 (nd x3x (lf (x7o P)) (lf xbh)) (nd x5r (lf x9m) .nil)) (nd x31 (nd x4t (lf x8m) (lf xcd)) (nd x6r (lf xal) .nil)))) (nd xl (nd x11 (nd x1x (nd x3p (lf x7f) (lf xb9)) (nd x5j (lf (x9b P)) .nil)) (nd x2t (nd x4l (lf (x8e P)) (lf xc5)) (nd x6j (lf xad) .nil))) (nd x1h (nd x2d (nd x45 (lf (x7w P)) (lf xbp)) (nd x5z (lf x9x) .nil)) (nd x39 (nd x51 (lf (x8u P)) (lf xcl)) (nd x6z (lf xat) .nil))))))))
def SF (w : World) (os : OsState) (life : Life) (es : Array (Int × Value)) (ep : Nat) (st : SetTable) : SharedT := ⟨TF w.params es ep st, 453, life, ⟨[]⟩, ⟨0, 0, 0, 0⟩, 1017, os⟩
def nF : Nat := 453
def lawA : Nat := 452
def posY : Pos := ⟨615, 0, 626, 87⟩
def QY : Prop := ∀ (w : World) (os : OsState) (life : Life) (es : Array (Int × Value)) (ep : Nat) (st : SetTable), goK (denote treeTable) PySem.Challenge.pw_af0030_01 w 0 1 (S5 w os life es ep st) ⟨doneF .next, cM, posY, BM⟩ = some (SF w os life es ep st, ⟨.pure (.done (.ret .none)), .builtin "claim.caller" ⟨[], []⟩, ⟨0, 0, 0, 0⟩, []⟩)
lay_quick QY
theorem qY : QY := by rw [PySem.W.Fast.te17412078876794474649]; delta PySem.W.Fast.tw17412078876794474649; intros; kernel_rfl
def tg0 : List Stmt := [tp 0, tp 1, tp 2]
def tg1 : List Stmt := [tp 3, tp 4, tp 5]
def tg2 : List Stmt := [tp 6]
def tg3 : List Stmt := [tp 7, tp 8, tp 9, tp 10, tp 11, tp 12, tp 13, tp 14, tp 15, tp 16, tp 17, tp 18, tp 19, tp 20, tp 21, tp 22, tp 23, tp 24, tp 25]
theorem bd_eq : bd = [tp 0, tp 1, tp 2, tp 3, tp 4, tp 5, tp 6, tp 7, tp 8, tp 9, tp 10, tp 11, tp 12, tp 13, tp 14, tp 15, tp 16, tp 17, tp 18, tp 19, tp 20, tp 21, tp 22, tp 23, tp 24, tp 25] := by kernel_rfl
end
end Ind01
set_option maxRecDepth 1000000
set_option Elab.async false
namespace Ind01
open PySem PySem.W PySem.Calls PyProof.Rows Ind
noncomputable section
abbrev pw := PySem.Challenge.pw_af0030_01
theorem go0 {w : World} {n : Nat} {s s' : SharedT} {cur cur' : Sem PySem.Fin} {c c' : Code} {p p' : Pos} {st st' : List PySem.Frame}
    (h : goK (denote treeTable) pw w 0 n s ⟨cur, c, p, st⟩ = some (s', ⟨cur', c', p', st'⟩)) {s₂ : Shared} {e : End} (r : Reach (model pw w) [] s'.abs cur' c' p' st' s₂ e) :
    Reach (model pw w) [] s.abs cur c p st s₂ e := by
  rw [← table_eq_tree] at h
  exact goK_reach (base := []) n (by rw [List.append_nil, List.append_nil]; exact h) s₂ e r
theorem goB {w : World} {n : Nat} (k : Result → Sem PySem.Fin) {s s' : SharedT} {cur cur' : Sem PySem.Fin} {c c' : Code} {p p' : Pos}
    (h : goK (denote treeTable) pw w 2 n s ⟨cur, c, p, FC k :: BM⟩ = some (s', ⟨cur', c', p', FC k :: BM⟩)) {s₂ : Shared} {e : End} (r : Reach (model pw w) (FC k :: BM) s'.abs cur' c' p' [] s₂ e) :
    Reach (model pw w) (FC k :: BM) s.abs cur c p [] s₂ e := by
  rw [← table_eq_tree] at h
  exact goK_reach (base := FC k :: BM) (pre := []) (pre' := []) n h s₂ e r
theorem block_nil {b : List Stmt} {e : Env} (h1 : hasAnns b = false) (h2 : docOf b = none) : blockStart b e = pure () := by
  unfold blockStart
  rw [h1, h2]
  cases interactive e <;> rfl
theorem ann_bd : hasAnns bd = false := by kernel_rfl
theorem doc_bd : docOf bd = none := by kernel_rfl
theorem ann_cb : hasAnns cb = false := by kernel_rfl
theorem doc_cb : docOf cb = none := by kernel_rfl
theorem body_M : denote table cM = (execs bd env).wrap doneF (leaveH env) id id := by
  unfold cM
  rw [body_wrap, block_nil ann_bd doc_bd]
  rfl
theorem body_C : denote table cC = (execs cb cenv).wrap doneF (leaveH cenv) id id := by
  unfold cC
  rw [body_wrap, block_nil ann_cb doc_cb]
  rfl
def vowelStrs : List Str := [⟨⟨[97]⟩⟩, ⟨⟨[101]⟩⟩, ⟨⟨[105]⟩⟩, ⟨⟨[111]⟩⟩, ⟨⟨[117]⟩⟩]
def GoodSet (w : World) (es : Array (Int × Value)) (ep : Nat) (st : SetTable) : Prop :=
  Obj.SetObjOf (strKind pw w) ⟨.type "set", none, .set es ep st, #[]⟩ (addAll (fun _ => false) vowelStrs) 5
theorem alive_C (P : Params) : aliveT (TC P) setA = true := by kernel_rfl
theorem TD_eq (P : Params) (es : Array (Int × Value)) (ep : Nat) (st : SetTable) : TD P es ep st = (TC P).ins setA ⟨.type "set", none, .set es ep st, #[]⟩ := by kernel_rfl
theorem TD_new (P : Params) (es : Array (Int × Value)) (ep : Nat) (st : SetTable) : (((TC P).ins setA ⟨.type "set", none, .set es ep st, #[]⟩).get setA).isSome = true := by kernel_rfl
theorem code_obj (P : Params) : ∃ o vs, (TC P).get cAddr = some o ∧ o.data = .fields vs ∧ o.isFreed = false := ⟨_, _, rfl, rfl, rfl⟩
theorem elts_map : (gElts.map fun e => match e with | .Constant (.str x) _ _ => some x | _ => none) = vowelStrs.map some := by kernel_rfl
theorem exec_set : exec (.Assign [gTgt] (.Set gElts 0 gSpos) gPos) cenv = (do standAt gPos; let v ← eval (.Set gElts 0 gSpos) cenv; assignStores cenv v (← swappedStores [gTgt] (.Set gElts 0 gSpos) cenv) ((assignEach [gTgt] cenv).map (·.2))) := rfl
theorem set_wp (w : World) (os : OsState) (life : Life) (Γ : PySem.Ctx) (p : Pos) :
    Sem.wp (model pw w) Γ (eval (.Set gElts 0 gSpos) cenv) (fun v _ s' => v = .ref setA ∧ ∃ es ep st life', GoodSet w es ep st ∧ s' = (SD w os life' es ep st).abs) (fun _ _ _ => False) p (SC w os life).abs := by
  have hIn : Γ.In ⟨Γ.handled, frameCount Γ.below + Γ.code.weight, none, none, Γ.units⟩ := ⟨rfl, Nat.le_refl _, fun _ h => (nomatch h), fun _ h => (nomatch h), Nat.le_refl _⟩
  obtain ⟨o, vs, e1, e2, e3⟩ := code_obj w.params
  have hsz : (SC w os life).abs.heap.objs.size = setA := absHeap_size _ _ _
  have ho : (SC w os life).abs.heap.get? cAddr = some o := by
    obtain ⟨o', a, b⟩ := abs_alive (life := life) (alive_C w.params) (a := cAddr) (by decide)
    rw [e1] at a; cases a; exact b
  refine set_strs (prog := pw) (w := w) (A := ⟨Γ.handled, frameCount Γ.below + Γ.code.weight, none, none, Γ.units⟩) (E := fun _ _ => False) (xs := vowelStrs) (c := cAddr) (o := o) (vs := vs)
    (Q := fun v s' => v = .ref setA ∧ ∃ es ep st life', GoodSet w es ep st ∧ s' = (SD w os life' es ep st).abs) rfl ho e2 (by kernel_rfl) (by kernel_rfl) (by decide +kernel) elts_map (by decide) (by decide) ?_ Γ p hIn
  intro h' so hs hz ho' hso
  rw [hsz] at hs hz ho' ⊢
  obtain ⟨es, ep, st, rfl⟩ := setObj_form hso
  refine ⟨rfl, es, ep, st, h'.life, hso, ?_⟩
  have key : h' = absHeap (TD w.params es ep st) (setA + 1) h'.life := by
    refine abs_of_same (T := TC w.params) (life := life) (alive_C w.params) (fun i hi => ?_) ?_ hs hz ho'
    · rw [TD_eq, BT.get_ins _ _ _ (TD_new _ _ _ _), if_neg (Nat.ne_of_lt hi)]
    · rw [TD_eq, BT.get_ins _ _ _ (TD_new _ _ _ _), if_pos rfl]
  exact (congrArg (fun hh => ({ (SC w os life).abs with heap := hh, toks := (SC w os life).abs.toks + vowelStrs.length + vowelStrs.length } : Shared)) key).trans rfl
theorem inner (w : World) (os : OsState) (life : Life) (k : Result → Sem PySem.Fin) :
    ∃ r s', Reach (model pw w) (FC k :: BM) (SC w os life).abs (denote table cC) cC posC [] s' (.ret r) ∧ (r = .ok .next ∧ ∃ es ep st life', GoodSet w es ep st ∧ s' = (SE5 w os life' es ep st).abs) := by
  refine (wp_iff_reach (M := model pw w) (base := FC k :: BM) (c := cC) (denote table cC) (fun r s' => r = .ok .next ∧ ∃ es ep st life', GoodSet w es ep st ∧ s' = (SE5 w os life' es ep st).abs) posC (SC w os life).abs).mp ?_
  rw [body_C, cb_eq, cb0_eq, gVal_eq, execs_cons_wrap, wp_wrap, exec_set]
  simp only [Sem.wp_bind']
  show Sem.wp _ _ (eval (.Set gElts 0 gSpos) cenv) _ _ gPos _
  refine Sem.wp_mono _ _ _ ?_ ?_ _ _ (set_wp w os life (PySem.Ctx.of cC (FC k :: BM)) gPos)
  · rintro v p' s' ⟨rfl, es, ep, st, life', hg, rfl⟩
    have run : Reach (model pw w) (FC k :: BM) (SD w os life' es ep st).abs ((RT (.ref setA)).wrap (fun f => match f with | .next => (execs (cg0 ++ (cg1 ++ (cg2 ++ (cg3 ++ cg4)))) cenv).wrap doneF (leaveH cenv) id id | f => doneF f) (leaveH cenv) id id) cC p' [] (SE5 w os life' es ep st).abs (.ret (.ok .next)) := by
      refine goB k (qD w os life' es ep st k _ _ p') ?_
      dsimp only
      rw [execs_app_wrap]
      refine goB k (qE1 w os life' es ep st k _ _) ?_
      dsimp only
      rw [execs_app_wrap]
      refine goB k (qE2 w os life' es ep st k _ _) ?_
      dsimp only
      rw [execs_app_wrap]
      refine goB k (qE3 w os life' es ep st k _ _) ?_
      dsimp only
      rw [execs_app_wrap]
      refine goB k (qE4 w os life' es ep st k _ _) ?_
      dsimp only
      refine goB k (qE5 w os life' es ep st k _ _) ?_
      exact .exit ⟨rfl, rfl⟩
    have w2 := (wp_iff_reach (M := model pw w) (base := FC k :: BM) (c := cC) _ (fun r s' => r = .ok .next ∧ ∃ es ep st life', GoodSet w es ep st ∧ s' = (SE5 w os life' es ep st).abs) p' (SD w os life' es ep st).abs).mpr ⟨_, _, run, rfl, es, ep, st, life', hg, rfl⟩
    rw [wp_wrap] at w2
    simp only [RT, Sem.wp_bind', gVal_eq] at w2
    simp only [List.append_assoc]
    exact w2
  · intro e p' s' h; exact h.elim
theorem head (w : World) (os : OsState) (life : Life) : ∃ es ep st life', GoodSet w es ep st ∧
    Reach (model pw w) [] (S0 w os life).abs (topStub pw).cur (topStub pw).code (topStub pw).pos [] (SF w os life' es ep st).abs (.ret (.ok (.ret .none))) := by
  obtain ⟨r, s', hin, rfl, es, ep, st, life', hg, rfl⟩ := inner w os life (kk w os life (fun f => match f with | .next => (execs tg3 env).wrap doneF (leaveH env) id id | f => doneF f) (leaveH env))
  refine ⟨es, ep, st, life', hg, ?_⟩
  have rY : Reach (model pw w) [] (S5 w os life' es ep st).abs (doneF .next) cM posY BM (SF w os life' es ep st).abs (.ret (.ok (.ret .none))) := go0 (qY w os life' es ep st) (.exit ⟨rfl, rfl⟩)
  have r5 := go0 (q5 w os life' es ep st doneF (leaveH env)) rY
  have rC := Reach.under (base := []) (B := FC (kk w os life (fun f => match f with | .next => (execs tg3 env).wrap doneF (leaveH env) id id | f => doneF f) (leaveH env)) :: BM) (pre := []) (by rw [List.append_nil]; exact hin) (s' := (SF w os life' es ep st).abs) (e := .ret (.ok (.ret .none))) (fun t' c' p' pre' hx => by
    obtain ⟨h1, h2⟩ : t' = leafOf (.ok .next) ∧ pre' = [] := hx
    subst h1 h2
    exact go0 (qZ life w os life' es ep st (fun f => match f with | .next => (execs tg3 env).wrap doneF (leaveH env) id id | f => doneF f) (leaveH env) c' p') r5)
  have r4 := go0 (by have := qC w os life (fun f => match f with | .next => (execs tg3 env).wrap doneF (leaveH env) id id | f => doneF f) (leaveH env); rw [← table_eq_tree] at this ⊢; exact this) rC
  have hb : bd = tg0 ++ (tg1 ++ (tg2 ++ tg3)) := bd_eq.trans rfl
  have rM : Reach (model pw w) [] (S1 w os life).abs (denote table cM) cM ⟨0, 0, 0, 0⟩ BM (SF w os life' es ep st).abs (.ret (.ok (.ret .none))) := by
    rw [body_M, hb, execs_app_wrap]
    refine go0 (q2 w os life _ _) ?_
    dsimp only
    rw [execs_app_wrap]
    refine go0 (q3 w os life _ _) ?_
    dsimp only
    rw [execs_app_wrap]
    exact r4
  exact go0 (by have := q0 w os life; rw [← table_eq_tree] at this ⊢; exact this) rM
end
end Ind01
set_option maxRecDepth 1000000
set_option maxHeartbeats 4000000
set_option Elab.async false
namespace Ind01
open PySem PySem.W PySem.Calls PyProof.Rows Ind
noncomputable section
abbrev rw0 := PySem.Challenge.rw_af0030_01
-- the opening
theorem open_eq : opening pw = plainProg pw.main.scope.names := by kernel_rfl
theorem fence_eq (s : Shared) : fenceModules? pw s = some s := by
  have : ∀ s : Shared, fenceModules? pw s = some s := fun s => by kernel_rfl
  exact this s
theorem opened (w : World) : (fencedOpening treeTable pw w 600).map (fun s => (s.heap, s.gens, s.drawn, s.toks)) = some (boot_heap w.params, Array.mk [], boot_drawn, boot_toks) :=
  boot_open open_eq (by decide) fence_eq w
def life0 : Life := (boot_heap ⟨fun _ => 0, fun _ => 0, id, fun _ => 0, fun _ _ => 0, fun _ => false, fun _ => 0, .refcount, .text, fun _ => 0, fun _ => none, fun _ => false, fun _ _ _ => true, fun _ _ _ => true, true, fun _ => false, fun _ => none, fun _ => none, fun _ _ _ => 0, fun _ _ => none, fun _ => none, fun _ => (0, false, ⟨⟨[]⟩⟩), fun _ => none, fun d => d, fun _ => false⟩).life
theorem S0_boot (w : World) (os : OsState) : (S0 w os life0).abs = ⟨boot_heap w.params, Array.mk [], boot_drawn, boot_toks, os⟩ := by kernel_rfl
theorem asleep0 : life0.registered = [] ∧ life0.counting = false := ⟨by kernel_rfl, by kernel_rfl⟩
def hF (P : Params) (es : Array (Int × Value)) (ep : Nat) (st : SetTable) (life : Life) : Heap := absHeap (TF P es ep st) nF life
def QL : Prop := ∀ (P : Params) (es : Array (Int × Value)) (ep : Nat) (st : SetTable) (life : Life), (staticsOk [] (boot_heap P) (hF P es ep st life), namesBound pw (hF P es ep st life), laidKept (boot_heap P) (hF P es ep st life), (hF P es ep st life).accountedOkI [], (hF P es ep st life).isNs mainGlobals, (hF P es ep st life).isNs builtinsNs) = (true, true, true, true, true, true)
lay_quick QL
theorem qL : QL := by rw [PySem.W.Fast.te13063933605061225564]; delta PySem.W.Fast.tw13063933605061225564; intros; kernel_rfl
def QM : Prop := ∀ (P : Params) (es : Array (Int × Value)) (ep : Nat) (st : SetTable) (life : Life), ((hF P es ep st life).bltView, (hF P es ep st life).bmainOk, (hF P es ep st life).nsMap mainGlobals "law") = (bltViewBooted, true, some (Value.ref lawA))
lay_quick QM
theorem qM : QM := by rw [PySem.W.Fast.te16353400647557302337]; delta PySem.W.Fast.tw16353400647557302337; intros; kernel_rfl
def CallOk : Prop := ∀ (w : World) (es : Array (Int × Value)) (ep : Nat) (st : SetTable), GoodSet w es ep st → ∀ (s₁ : Shared) (ns : List Int) (a : Addr) (vs : List Value),
    (∀ i o, (TF w.params es ep st).get i = some o → s₁.heap.get? i = some o) → s₁.gens = #[] → ns.length ≤ 63 → s₁.heap.IsList a vs.toArray → IntsAre vs ns →
    wpAny (model pw w) callerA (PySem.call (.ref lawA) [.ref a]) (fun v s' => v = .bool true ∧ (∀ b o, s₁.heap.get? b = some o → s'.heap.get? b = some o) ∧ s'.os = s₁.os ∧ s'.gens = #[]) (fun _ _ => False) s₁
theorem top_get {P : Params} {es : Array (Int × Value)} {ep : Nat} {st : SetTable} {life : Life} {h : Heap} (k : ∀ b o, (hF P es ep st life).get? b = some o → h.get? b = some o)
    (hal : aliveT (TF P es ep st) nF = true) (i : Addr) (o : Obj) (e : (TF P es ep st).get i = some o) (hi : i < nF) : h.get? i = some o := by
  obtain ⟨o', e1, e2⟩ := abs_alive (life := life) hal hi
  rw [e1] at e; cases e
  exact k i o e2
def maxLt (T : BT) (a b n : Nat) : Bool := match T with
  | .nil => true
  | .node _ l r => Nat.blt b n && maxLt l (2 * a) (a + b) n && maxLt r (2 * a) (2 * a + b) n
theorem maxLt_get : ∀ (T : BT) (a b n i : Nat) (o : Obj), maxLt T a b n = true → T.get i = some o → a * i + b < n
  | .nil, _, _, _, _, _, _, e => by cases e
  | .node v l r, a, b, n, i, o, h, e => by
    simp only [maxLt, Bool.and_eq_true] at h
    obtain ⟨⟨h1, h2⟩, h3⟩ := h
    rw [BT.get_node] at e
    by_cases h0 : i = 0
    · subst h0; rw [Nat.mul_zero, Nat.zero_add]; exact Nat.le_of_ble_eq_true h1
    · rw [if_neg h0] at e
      by_cases q : i % 2 = 1
      · rw [if_pos q] at e
        have := maxLt_get l _ _ _ _ _ h2 e
        rw [← X.KT.arith1 q] at this
        exact this
      · rw [if_neg q] at e
        have := maxLt_get r _ _ _ _ _ h3 e
        rw [← X.KT.arith2 h0 q] at this
        exact this
theorem top_dom (P : Params) (es : Array (Int × Value)) (ep : Nat) (st : SetTable) (i : Nat) (o : Obj) (e : (TF P es ep st).get i = some o) : i < nF := by
  have h : maxLt (TF P es ep st) 1 0 nF = true := by kernel_rfl
  have := maxLt_get _ _ _ _ _ _ h e
  omega
theorem alive_F (P : Params) (es : Array (Int × Value)) (ep : Nat) (st : SetTable) : aliveT (TF P es ep st) nF = true := by kernel_rfl
theorem lt11 (b : Nat) (h : b < 11) (h3 : b ≠ 3) (h2 : b ≠ 2) : b = 0 ∨ b = 1 ∨ b = 4 ∨ b = 5 ∨ b = 6 ∨ b = 7 ∨ b = 8 ∨ b = 9 ∨ b = 10 := by omega
theorem boot_kept (P : Params) (es : Array (Int × Value)) (ep : Nat) (st : SetTable) (life : Life) : ∀ b o, (boot_heap P).get? b = some o → ¬ theTopsOwn (boot_heap P) b → (hF P es ep st life).get? b = some o := by
  intro b o hb hn
  have hlt : b < 11 := Heap.lt_size hb
  have hown : ∀ a, globalOf (boot_heap P) "__annotations__" = some (.ref a) → ¬ b = a := fun a ha e => hn (.inr (.inr (e ▸ ha)))
  have h3 : b ≠ 3 := fun e => hn (.inl e)
  have hs : b ≠ cStatics := fun e => hn (.inr (.inl e))
  have key : (TF P es ep st).get b = some o := by
    have e0 : (T0 P).get b = some o := by
      have := get_objs hb
      have e1 : (boot_heap P).objs = (absHeap (T0 P) 11 life0).objs := by kernel_rfl
      rw [e1, absHeap_at, if_pos hlt] at this
      obtain ⟨o', a1, a2⟩ := abs_alive (T := T0 P) (n := 11) (life := life0) (by kernel_rfl) hlt
      rw [a1] at this ⊢
      exact this
    rw [← e0]
    have hc : cStatics = 2 := rfl
    rw [hc] at hs
    rcases lt11 b hlt h3 hs with rfl | rfl | rfl | rfl | rfl | rfl | rfl | rfl | rfl
    all_goals rfl
  obtain ⟨o', e1, e2⟩ := abs_alive (life := life) (alive_F P es ep st) (a := b) (Nat.lt_of_lt_of_le hlt (by decide))
  rw [e1] at key; cases key
  exact e2
theorem top_ran (w : World) (os : OsState) : ∃ es ep st life, GoodSet w es ep st ∧ TopRan pw w ⟨boot_heap w.params, Array.mk [], boot_drawn, boot_toks, os⟩ (SF w os life es ep st).abs ∧ (SF w os life es ep st).abs.asleep := by
  obtain ⟨es, ep, st, life, hg, hr⟩ := head w os life0
  rw [S0_boot] at hr
  have hz : Shared.asleep ⟨boot_heap w.params, Array.mk [], boot_drawn, boot_toks, os⟩ := by
    have e : (boot_heap w.params).life = life0 := by kernel_rfl
    unfold Shared.asleep
    rw [e]
    exact asleep0
  obtain ⟨hrun, hl⟩ := sched_of_reach hz (by rfl) hr
  have q := qL w.params es ep st life
  simp only [Prod.mk.injEq] at q
  obtain ⟨q1, q2, q3, q4, q5, q6⟩ := q
  have q' := qM w.params es ep st life
  simp only [Prod.mk.injEq] at q'
  obtain ⟨m1, m2, m3⟩ := q'
  have him : importedModules pw.main.body = [] := by kernel_rfl
  have hh : (SF w os life es ep st).abs.heap = hF w.params es ep st life := rfl
  refine ⟨es, ep, st, life, hg, ⟨hrun, hl, Shared.rest_eq rfl, fun b o hb hn => ?_, ?_, ?_, ?_, ?_, ?_, fun g hg' => ?_, ?_, ?_⟩, Shared.asleep_of_life hl hz⟩
  · exact boot_kept w.params es ep st life b o hb hn
  · rw [him, hh]; exact Heap.accountedI_of_ok q4
  · rw [him, hh]; exact statics_of_ok q1
  · rw [hh]; exact Pin.keysAreStrs_of q5
  · intro x hx; rw [hh]; exact (Pin.builtinOf_eq q6 x).trans (Heap.of_bltView q6 m1 x hx)
  · rw [hh]
    obtain ⟨bm, ob, a, _, c, d, f, _⟩ := Heap.bmainOk_spec m2
    exact ⟨bm, ob, (Pin.globalOf_eq q5 _).trans a, c, d, f⟩
  · have : (SF w os life es ep st).abs.gens = Array.mk [] := rfl
    rw [this] at hg'; simp at hg'
  · rw [hh]; exact names_of_bound q2
  · rw [hh]; exact laid_of_kept q3
theorem law_obj (P : Params) (es : Array (Int × Value)) (ep : Nat) (st : SetTable) : ∃ o fd, (TF P es ep st).get lawA = some o ∧ o.data = .func fd ∧ pw.theDef "law" = some (fd.params, fBody (tp 25), fd.scope) ∧ fd.name = "law" ∧ fd.qualname = "law" ∧ fd.body = .stmts (fBody (tp 25)) ∧ fd.globals = mainNs ∧ fd.closure = [] ∧ fd.builtins = builtinsNs ∧
    fd.params.defaults = [] ∧ fd.defaults = .none ∧ kwWritten? fd.params.kwonlyargs fd.params.kw_defaults = some [] ∧ fd.kwdefaults = .none :=
  ⟨_, _, rfl, rfl, by kernel_rfl, by kernel_rfl, by kernel_rfl, rfl, rfl, rfl, rfl, by kernel_rfl, rfl, by kernel_rfl, rfl⟩
theorem law_def (w : World) (os : OsState) (life : Life) (es : Array (Int × Value)) (ep : Nat) (st : SetTable) : isTheDefsW pw (SF w os life es ep st).abs.heap "law" := by
  obtain ⟨o, fd, h1, h2, h3, h4, h5, h6, h7, h8, h9, h10, h11, h12, h13⟩ := law_obj w.params es ep st
  have q := qL w.params es ep st life
  simp only [Prod.mk.injEq] at q
  have q' := qM w.params es ep st life
  simp only [Prod.mk.injEq] at q'
  refine ⟨lawA, o, fd, _, _, _, (Pin.globalOf_eq q.2.2.2.2.1 _).trans q'.2.2, top_get (life := life) (fun _ _ e => e) (alive_F _ _ _ _) _ _ h1 (by decide), h2, h3, h4, h5, rfl, h6, rfl, h7, h8, h9, .inl ⟨h10, h11⟩, [], h12, .inl ⟨rfl, h13⟩⟩
theorem claim_frees : (frees rw0.row.toRowW && rw0.row.within.isEmpty) = true := by kernel_rfl
theorem holds_of_call (call : CallOk) : rw0.Holds := by
  o_law
  rename_i said
  refine ⟨said, ⟨[.list []], by decide +kernel, by decide +kernel⟩, ?_⟩
  obtain ⟨k5, k6⟩ := Bool.and_eq_true_iff.mp claim_frees
  obtain ⟨hsame, hu, ha, hap, hm⟩ := frees_parts k5
  have hi := ident_freeW hu ha hap
  have hwi : rw0.row.toRowW.claim.within = [] := List.isEmpty_iff.mp k6
  refine ⟨⟨⟨rfl, rfl, rfl, rfl, rfl, by decide +kernel⟩, by decide +kernel, by rfl⟩, ⟨[.list []], by decide +kernel, by decide +kernel⟩, fun w => ?_⟩
  have h := opened w
  rw [← table_eq_tree] at h
  obtain ⟨s₀, h1, e⟩ := Option.map_eq_some_iff.mp h
  obtain ⟨s, h2, h3⟩ := Option.bind_eq_some_iff.mp h1
  have A := AfterImport.of_importEnds h2
  refine ⟨⟨s, A⟩, fun s' hs' => ?_⟩
  obtain rfl : s' = s := AfterImport.unique hs' A
  obtain ⟨hp, gs, dr, tk, os⟩ := s₀
  simp only [Prod.mk.injEq] at e
  obtain ⟨rfl, rfl, rfl, rfl⟩ := e
  obtain ⟨es, ep, st, life, hg, hT, hz⟩ := top_ran w os
  refine ⟨_, h3, rfl, (SF w os life es ep st).abs, hT, fun n hn => ?_, fun x hx => (nomatch hx), fun x hx => (nomatch hx), ?_⟩
  · obtain rfl : n = "law" := by
      have : n ∈ (["law"] : List Str) := hn
      simpa using this
    exact law_def w os life es ep st
  refine ClaimW.callFrom_of_specG (c := rw0.row.toRowW.claim) hz rfl fun args hpre hlay ord hord => ?_
  obtain ⟨⟨vs, s₁⟩, hlaid⟩ := Option.isSome_iff_exists.mp (layAllW_isSome (R := []) (cl := classAt (SF w os life es ep st).abs.heap) (P := w.params) (ord := ord) (fun c hc => absurd hc (by simp [WRecords.fields?])) args rw0.row.toRowW.args (SF w os life es ep st).abs (pre_splitW hpre).1)
  have keeps := layAllW_keeps _ _ _ hlaid
  have hal := layAllW_rest _ _ _ hlaid
  obtain ⟨as, hrd, hin, hold⟩ := reads_layAllW hord _ _ _ hlaid hlay s₁.heap (fun _ _ e => e)
  have L : Laid [] w (SF w os life es ep st).abs s₁ args vs as := ⟨⟨ord, hord, hlaid⟩, hrd, hin, hold, keeps, hal.1.trans rfl, hal.2.2.1⟩
  have q := qL w.params es ep st life
  simp only [Prod.mk.injEq] at q
  have q' := qM w.params es ep st life
  simp only [Prod.mk.injEq] at q'
  have hNs : s₁.heap.Ns mainNs ((hF w.params es ep st life).nsMap mainGlobals) := (Heap.Ns.of_isNs q.2.2.2.2.1).keeps keeps
  refine ⟨vs, s₁, hlaid, ?_⟩
  refine wpAny_bind (wpAny_nsGet hNs ?_)
  rw [show ((hF w.params es ep st life).nsMap mainGlobals) rw0.row.name = some (Value.ref lawA) from q'.2.2]
  refine wpAny_bind ?_
  have hwl := L.well
  have hlo := L.low (by show sysModules < (absHeap _ _ _).objs.size; rw [absHeap_size]; exact (by decide : sysModules < nF))
  wrow_args hpre hlay hrd hwl hlo
  rename Heap.IsList _ _ _ => hL
  rename PyProof.Rows.IntsAre _ _ => hI
  rename ¬ (((63 : Nat) : Int) < _) => hlen
  refine wpAny_mono (call w es ep st hg s₁ _ _ _ (fun i o e => ?_) (hal.1.trans rfl) (by omega) hL hI) (fun v s2 hv => ?_) (fun e s2 hv => hv.elim)
  · have hi : i < nF := by
      have := top_dom w.params es ep st i o e
      exact this
    exact top_get (life := life) keeps (alive_F _ _ _ _) i o e hi
  · obtain ⟨rfl, hk, hos, hge⟩ := hv
    refine wpAny_pure ⟨_, rfl, ?_⟩
    have z := GoodWG.laid (c := rw0.row.toRowW.claim) (r := .ok (.ret (.bool true))) (s' := s2) hsame hwi hi L
      ⟨.inl ⟨_, _, [], rfl, fun _ => rfl, ReadsW.bool true, by kernel_rfl, fun _ => ⟨List.nodup_nil, fun _ hm => (nomatch hm)⟩⟩, .of_keep hk, hos, .of_eq hge⟩
    exact ⟨z.1, z.2.1, z.2.2, fun q => nomatch q⟩
end
end Ind01
set_option maxRecDepth 100000
set_option Elab.async false
namespace Ind
open PySem PySem.W PySem.Calls PyProof.Rows
inductive At where
  | none | bool (b : Bool) | int (i : Int) | str (l : List Nat)
  deriving DecidableEq, Repr
inductive MV where
  | at (a : At) | list (l : List At) | tup (l : List At) | self | ml (i : Nat) | stat (v : Value)
  deriving Repr
structure Sto where
  on : Bool
  cnt : Nat
  f : Str → Option At
  ls : List (List At)
structure Sta where
  K : Frag
  C : Addr
  setA : Addr
  setL : List (List Nat)
  exc : List (Str × Addr)
  mls : List Str
  funs : List Addr
  fields : List Str
abbrev Lm := Str → Option MV
def Lm.set (m : Lm) (x : Str) (v : MV) : Lm := fun y => if y = x then some v else m y
def Sto.put (σ : Sto) (x : Str) (v : At) : Option Sto := if σ.cnt < 500 then some { σ with f := (fun y => if y = x then some v else σ.f y), cnt := if (σ.f x).isSome then σ.cnt else σ.cnt + 1 } else none
def compSc (sc outer : Scope) : Scope := { sc with names := sc.names.map fun (n, k) => if (k == .free && outer.kind == .function && outer.names.lookup n == some .cell) then (n, .cell) else (n, k) }
def Lm.comp (m : Lm) (sc : Scope) (x : Str) (v : MV) : Lm := fun y => if y = x then some v else if sc.names.lookup y = some .local then none else m y
def lstr (l : List Nat) : Str := ⟨l.toArray⟩
def ofVal : Value → MV
  | .none => .at .none
  | .bool b => .at (.bool b)
  | .int i _ => .at (.int i)
  | .str s _ => .at (.str s.cps.toList)
  | v => .stat v
def ofConst : Const → Option MV
  | .none => some (.at .none)
  | .bool b => some (.at (.bool b))
  | .int i => some (.at (.int i))
  | .str s => some (.at (.str s.cps.toList))
  | _ => none
def truth (_σ : Sto) : MV → Option Bool
  | .at (.bool b) => some b
  | .list l => if l.length ≤ 100000 then some (!l.isEmpty) else none
  | _ => none
def big : Nat := 100000
def arith (op : Operator) (a b : Int) : Option Int := match op with
  | .Add => some (a + b)
  | .Sub => some (a - b)
  | .Mult => if a.natAbs < 1000000 ∧ b.natAbs < 1000000 then some (a * b) else none
  | .Mod => if b ≠ 0 ∧ b.natAbs < 1000000 then some (Int.fmod a b) else none
  | .FloorDiv => if b ≠ 0 ∧ b.natAbs < 1000000 then some (Int.fdiv a b) else none
  | .RShift => if b = 1 ∧ 0 ≤ a then some (Int.fdiv a 2) else none
  | _ => none
def augop (op : Operator) : MV → MV → Option At
  | .at (.int a), .at (.int b) => (match op with | .Add => some (.int (a + b)) | .Sub => some (.int (a - b)) | _ => none)
  | _, _ => none
def binop (op : Operator) : MV → MV → Option MV
  | .at (.int a), .at (.int b) => (arith op a b).map fun i => .at (.int i)
  | .at (.str a), .at (.str b) => if op = .Add ∧ a.length + b.length ≤ big then some (.at (.str (a ++ b))) else none
  | .list a, .list b => if op = .Add ∧ a.length + b.length ≤ big then some (.list (a ++ b)) else none
  | _, _ => none
def atEq : At → At → Option Bool
  | .int a, .int b => some (decide (a = b))
  | .str a, .str b => some (decide (a = b))
  | .bool a, .bool b => some (a == b)
  | _, _ => none
def strsAtL : List At → Option (List (List Nat))
  | [] => some []
  | .str l :: r => (strsAtL r).map (l :: ·)
  | _ => none
def compare (S : Sta) (σ : Sto) (op : CmpOp) (a b : MV) : Option Bool := match op with
  | .Eq => (match a, b with
      | .at x, .at y => atEq x y
      | .list x, .ml i => (σ.ls[i]?).bind fun y => (strsAtL x).bind fun x => (strsAtL y).map fun y => decide (x = y)
      | _, _ => none)
  | .NotEq => (match a, b with | .at x, .at y => (atEq x y).map (!·) | _, _ => none)
  | .Lt => (match a, b with | .at (.int x), .at (.int y) => some (decide (x < y)) | _, _ => none)
  | .LtE => (match a, b with | .at (.int x), .at (.int y) => some (decide (x ≤ y)) | _, _ => none)
  | .Gt => (match a, b with | .at (.int x), .at (.int y) => some (decide (y < x)) | _, _ => none)
  | .GtE => (match a, b with | .at (.int x), .at (.int y) => some (decide (y ≤ x)) | _, _ => none)
  | .In => (match a, b with
      | .at (.str x), .at (.str y) => some (Txt.contains (lstr y) (lstr x))
      | .at (.str x), .list l => (strsAtL l).map fun l => decide (x ∈ l)
      | .at (.str x), .stat (.ref s) => if s = S.setA then some (decide (x ∈ S.setL)) else none
      | _, _ => none)
  | .NotIn => (match a, b with
      | .at (.str x), .stat (.ref s) => if s = S.setA then some (!decide (x ∈ S.setL)) else none
      | _, _ => none)
  | _ => none
def idx {α : Type} (l : List α) (i : Int) : Option α :=
  if big < l.length then none else (seqIndex? i l.length).bind fun k => l[k]?
def index (S : Sta) (σ : Sto) (v : MV) (i : Int) : Option MV := match v with
  | .at (.str l) => (idx l i).map fun c => .at (.str [c])
  | .list l => (idx l i).map .at
  | .ml k => (σ.ls[k]?).bind fun l => (idx l i).map .at
  | .stat (.ref a) => (match S.K.lookup a with
      | some ⟨.type "list", _, .seq items _, _⟩ => (idx items.toList i).map ofVal
      | _ => none)
  | _ => none
def clp (n d : Nat) : Option Int → Nat
  | none => d
  | some i => (max 0 (min (if i < 0 then i + n else i) n)).toNat
def slc {α : Type} (l : List α) (lo hi : Option Int) : List α := (l.take (clp l.length l.length hi)).drop (clp l.length 0 lo)
def small (o : Option Int) : Bool := match o with | some i => i.natAbs < 1000000 | none => true
def sliceV (v : MV) (lo hi : Option Int) : Option MV := match v with
  | .at (.str l) => if l.length ≤ big ∧ small lo ∧ small hi then some (.at (.str (slc l lo hi))) else none
  | .list l => if l.length ≤ big ∧ small lo ∧ small hi then some (.list (slc l lo hi)) else none
  | _ => none
def atsOf (S : Sta) : MV → Option (List At)
  | .list l => some l
  | .stat (.ref a) => (match S.K.lookup a with
      | some ⟨.type "list", _, .seq items _, _⟩ => items.toList.mapM fun v => match ofVal v with | .at a => some a | _ => none
      | _ => none)
  | _ => none
def lenOf (S : Sta) (σ : Sto) : MV → Option Int
  | .at (.str l) => if l.length ≤ big then some l.length else none
  | .list l => if l.length ≤ big then some l.length else none
  | .ml k => (σ.ls[k]?).bind fun l => if l.length ≤ big then some (l.length : Int) else none
  | .stat (.ref a) => (match S.K.lookup a with
      | some ⟨.type "list", _, .seq items _, _⟩ => if items.size ≤ big then some items.size else none
      | _ => none)
  | _ => none
def sumOf : List At → Option Int
  | [] => some 0
  | .int i :: r => (sumOf r).map (i + ·)
  | _ => none
def statAttr (S : Sta) (a : Addr) (name : Str) : Option Value := match S.K.lookup a with
  | some ⟨_, _, .cls _, _⟩ => (match findCls S.K (.ref a) (.type "type") name with | some (.val v) => if readsIn S.K a (.type "type") && handedIn v then some v else none | _ => none)
  | some ⟨.ref c, some d, .plain, _⟩ => (match S.K.lookup d with
      | some od => (match findObj S.K c (some od) name with | some (.value v) => if (findIn S.K (.ref c) "__getattribute__" == some (some (.builtin "object.__getattribute__"))) && handedIn v then some v else none | _ => none)
      | none => none)
  | _ => none
def globIn (S : Sta) (x : Str) : Option Value := match nsIn S.K mainGlobals x with
  | some (some v) => some v
  | some none => (match nsIn S.K builtinsNs x with | some (some v) => some v | _ => none)
  | none => none
def ats : List MV → Option (List At)
  | [] => some []
  | .at a :: r => (ats r).map (a :: ·)
  | _ => none
def boolsOf : List At → Option (List Bool)
  | [] => some []
  | .bool b :: r => (boolsOf r).map (b :: ·)
  | _ => none
def notStar : Expr → Bool
  | .Starred .. => false
  | _ => true
def notComp : Expr → Bool
  | .ListComp .. => false
  | .SetComp .. => false
  | .DictComp .. => false
  | _ => true
def baseOk : Expr → Bool
  | .Name .. => true
  | .Subscript .. => true
  | _ => false
def builtin1 (S : Sta) (σ : Sto) (id : String) (args : List MV) : Option MV := match id, args with
  | "len", [v] => (lenOf S σ v).map fun i => .at (.int i)
  | "min", [.at (.int a), .at (.int b)] => some (.at (.int (if b < a then b else a)))
  | "ord", [.at (.str [c])] => some (.at (.int c))
  | "sum", [.list l] => (sumOf l).map fun i => .at (.int i)
  | "any", [.list l] => (boolsOf l).map fun l => .at (.bool (l.any fun b => b))
  | _, _ => none
inductive Out where
  | next | ret (v : MV) | brk | cont | exc (k : Addr)
def rngOk (a k : Int) : Bool := a.natAbs < 1000000 ∧ k.natAbs < 1000000
def rangeUp (a b : Int) : List Int := (List.range (b - a).toNat).map fun (k : Nat) => a + (k : Int)
def rangeDown (a b : Int) : List Int := (List.range (a - b).toNat).map fun (k : Nat) => a - (k : Int)
def dictOfE : List (Option Expr) → List Expr → Option (List (List Nat × List Nat))
  | [], [] => some []
  | some (.Constant (.str k) _ _) :: ks, .Constant (.str v) _ _ :: vs => (dictOfE ks vs).map ((k.cps.toList, v.cps.toList) :: ·)
  | _, _ => none
def funIn (S : Sta) (f : Addr) : Option (List Str × List Stmt × Scope) := if f ∉ S.funs then none else match S.K.lookup f with
  | some ⟨_, _, .func fd, _⟩ => (match fd.body with
      | .stmts b => some (fd.params.args.map (·.arg), b, fd.scope)
      | _ => none)
  | _ => none
def bnd : List Str → List MV → Option Lm
  | [], [] => some fun _ => none
  | p :: ps, v :: vs => (bnd ps vs).map fun m => fun y => if y = p then some v else m y
  | _, _ => none
abbrev R (α : Type) := Option (α × Sto)
mutual
def ev (S : Sta) : Nat → Scope → Expr → Lm → Sto → R MV
  | 0, _, _, _, _ => none
  | n + 1, sc, e, m, σ => match e with
    | .Constant c _ _ => (ofConst c).map (·, σ)
    | .Name x _ => if x == ("__debug__" : Str) then none else (match sc.names.lookup x with
        | some .local => (m x).map (·, σ)
        | some .cell => (m x).map (·, σ)
        | some .free => if x == ("__classdict__" : Str) then none else (m x).map (·, σ)
        | some .globalImplicit => (globIn S x).map fun v => (ofVal v, σ)
        | _ => none)
    | .Attribute o name _ => if baseOk o = true then (ev S n sc o m σ).bind fun (v, σ) => (match v with
        | .self => if name ∈ S.fields then (σ.f name).map fun a => (.at a, σ) else none
        | .stat (.ref a) => (statAttr S a name).map fun v => (ofVal v, σ)
        | _ => none) else none
    | .Subscript (.Dict ks vs _) i _ => (ev S n sc i m σ).bind fun (v, σ) => (match v, dictOfE ks vs with
        | .at (.str k), some [(k1, v1), (k2, v2)] => if k1 = k2 then none else if k = k1 then some (.at (.str v1), σ) else if k = k2 then some (.at (.str v2), σ) else none
        | _, _ => none)
    | .Subscript o (.Slice lo hi none _) _ => (ev S n sc o m σ).bind fun (v, σ) => (evI S n sc lo m σ).bind fun (a, σ) => (evI S n sc hi m σ).bind fun (b, σ) => (sliceV v a b).map (·, σ)
    | .Subscript o i _ => (ev S n sc o m σ).bind fun (v, σ) => (ev S n sc i m σ).bind fun (j, σ) => (match j with
        | .at (.int j) => (index S σ v j).map (·, σ)
        | _ => none)
    | .BinOp l op r _ => (ev S n sc l m σ).bind fun (a, σ) => (ev S n sc r m σ).bind fun (b, σ) => (binop op a b).map (·, σ)
    | .UnaryOp .Not x _ => (ev S n sc x m σ).bind fun (v, σ) => (truth σ v).map fun b => (.at (.bool !b), σ)
    | .UnaryOp .USub x _ => (ev S n sc x m σ).bind fun (v, σ) => (match v with | .at (.int i) => some (.at (.int (-i)), σ) | _ => none)
    | .Compare l [op] [r] _ => (ev S n sc l m σ).bind fun (a, σ) => (ev S n sc r m σ).bind fun (b, σ) => (compare S σ op a b).map fun b => (.at (.bool b), σ)
    | .BoolOp .And es _ => evAnd S n sc es m σ
    | .BoolOp .Or es _ => evOr S n sc es m σ
    | .List es _ => if es.length ≤ 1000 then (evs S n sc es m σ).bind fun (vs, σ) => (ats vs).map fun l => (.list l, σ) else none
    | .Tuple es _ _ => if es.length ≤ 1000 then (evs S n sc es m σ).bind fun (vs, σ) => (ats vs).map fun l => (.tup l, σ) else none
    | .ListComp elt [⟨.Name x _, it, ifs, 0⟩] cs _ => if cs.kind = .function ∧ sc.kind = .function ∧ (cs.names.all fun y => y.2 != .cell) = true ∧ (cs.names.all fun y => y.2 != .local || cs.names.lookup y.1 == some .local) = true ∧ cs.names.lookup x = some .local ∧ (cs.names.all fun y => y.2 != .free || sc.names.lookup y.1 == some .cell) = true then (ev S n sc it m σ).bind fun (v, σ) => (match v with
        | .list l => (comp S n (compSc cs sc) elt x ifs l m σ).map fun (r, σ) => (.list r, σ)
        | .ml k => (σ.ls[k]?).bind fun l => (comp S n (compSc cs sc) elt x ifs l m σ).map fun (r, σ) => (.list r, σ)
        | .at (.str l) => (comp S n (compSc cs sc) elt x ifs (l.map fun c => .str [c]) m σ).map fun (r, σ) => (.list r, σ)
        | _ => none) else none
    | .Call (.Name f _) args [] _ => if sc.names.lookup f = some .globalImplicit ∧ (f == ("__debug__" : Str)) = false ∧ args.length < 20 ∧ (args.all notStar) = true then (match globIn S f with
        | some (.builtin id) => (match args with
            | [x, .Name t _] => if id = "isinstance" then (ev S n sc x m σ).bind fun (v, σ) => (match v, globIn S t with | .at (.str _), some (.type "str") => if sc.names.lookup t = some .globalImplicit ∧ (t == ("__debug__" : Str)) = false then some (.at (.bool true), σ) else none | _, _ => none)
                else (evs S n sc args m σ).bind fun (vs, σ) => (builtin1 S σ id vs).map (·, σ)
            | _ => (evs S n sc args m σ).bind fun (vs, σ) => (builtin1 S σ id vs).map (·, σ))
        | some (.ref a) => (evs S n sc args m σ).bind fun (vs, σ) => callF S n a vs σ
        | _ => none) else none
    | .Call (.Attribute o name ap) args [] p => if baseOk o = true ∧ args.length < 20 ∧ ap.endLine = p.line ∧ (args.all notStar) = true then (ev S n sc o m σ).bind fun (v, σ) => (match v with
        | .self => (match σ.f name, findIn S.K (.ref S.C) name with
            | none, some (some (.ref f)) => (evs S n sc args m σ).bind fun (vs, σ) => callF S n f (.self :: vs) σ
            | _, _ => none)
        | .at (.str s) => if name == ("startswith" : Str) then (evs S n sc args m σ).bind fun (vs, σ) => (match vs with | [.at (.str t)] => some (.at (.bool (Txt.startswith (lstr s) (lstr t))), σ) | _ => none) else none
        | .ml k => if name == ("append" : Str) then (evs S n sc args m σ).bind fun (vs, σ) => (match vs, σ.ls[k]? with | [.at a], some l => if 1000 ≤ l.length then none else some (.at .none, { σ with ls := σ.ls.set k (l ++ [a]) }) | _, _ => none) else none
        | _ => none) else none
    | _ => none
def evI (S : Sta) : Nat → Scope → Option Expr → Lm → Sto → R (Option Int)
  | 0, _, _, _, _ => none
  | _ + 1, _, none, _, σ => some (none, σ)
  | n + 1, sc, some e, m, σ => (ev S n sc e m σ).bind fun (v, σ) => (match v with | .at (.int i) => some (some i, σ) | _ => none)
def evs (S : Sta) : Nat → Scope → List Expr → Lm → Sto → R (List MV)
  | 0, _, _, _, _ => none
  | _ + 1, _, [], _, σ => some ([], σ)
  | n + 1, sc, e :: es, m, σ => (ev S n sc e m σ).bind fun (v, σ) => (evs S n sc es m σ).map fun (vs, σ) => (v :: vs, σ)
def evAnd (S : Sta) : Nat → Scope → List Expr → Lm → Sto → R MV
  | 0, _, _, _, _ => none
  | _ + 1, _, [], _, _ => none
  | n + 1, sc, e :: es, m, σ => (ev S n sc e m σ).bind fun (v, σ) => if es.isEmpty then some (v, σ) else (truth σ v).bind fun b => if b then evAnd S n sc es m σ else some (v, σ)
def evOr (S : Sta) : Nat → Scope → List Expr → Lm → Sto → R MV
  | 0, _, _, _, _ => none
  | _ + 1, _, [], _, _ => none
  | n + 1, sc, e :: es, m, σ => (ev S n sc e m σ).bind fun (v, σ) => if es.isEmpty then some (v, σ) else (truth σ v).bind fun b => if b then some (v, σ) else evOr S n sc es m σ
def comp (S : Sta) : Nat → Scope → Expr → Str → List Expr → List At → Lm → Sto → R (List At)
  | 0, _, _, _, _, _, _, _ => none
  | _ + 1, _, _, _, _, [], _, σ => some ([], σ)
  | n + 1, sc, elt, x, ifs, a :: r, m, σ => let ls := σ.ls; (tests S n sc ifs (m.comp sc x (.at a)) σ).bind fun (b, σ) =>
      if b then (ev S n sc elt (m.comp sc x (.at a)) σ).bind fun (v, σ) => (match v with
        | .at y => if σ.ls = ls then (comp S n sc elt x ifs r m σ).map fun (l, σ) => (y :: l, σ) else none
        | _ => none)
      else if σ.ls = ls then comp S n sc elt x ifs r m σ else none
def tests (S : Sta) : Nat → Scope → List Expr → Lm → Sto → R Bool
  | 0, _, _, _, _ => none
  | _ + 1, _, [], _, σ => some (true, σ)
  | n + 1, sc, e :: es, m, σ => (test S n sc e m σ).bind fun (b, σ) => if b then tests S n sc es m σ else some (false, σ)
def test (S : Sta) : Nat → Scope → Expr → Lm → Sto → R Bool
  | 0, _, _, _, _ => none
  | n + 1, sc, e, m, σ => match e with
    | .UnaryOp .Not x _ => (test S n sc x m σ).map fun (b, σ) => (!b, σ)
    | .BoolOp .And es _ => testAll S n sc true es m σ
    | .BoolOp .Or es _ => testAll S n sc false es m σ
    | e => (ev S n sc e m σ).bind fun (v, σ) => (truth σ v).map (·, σ)
def testAll (S : Sta) : Nat → Scope → Bool → List Expr → Lm → Sto → R Bool
  | 0, _, _, _, _, _ => none
  | _ + 1, _, c, [], _, σ => some (c, σ)
  | n + 1, sc, c, e :: es, m, σ => (test S n sc e m σ).bind fun (b, σ) => if b = c then testAll S n sc c es m σ else some (!c, σ)
def callF (S : Sta) : Nat → Addr → List MV → Sto → R MV
  | 0, _, _, _ => none
  | n + 1, a, vs, σ => (funIn S a).bind fun (ps, body, sc) => (bnd ps vs).bind fun m => (exs S n false sc body m σ).bind fun (o, _, σ) => (match o with
      | .ret v => some (v, σ)
      | .next => some (.at .none, σ)
      | _ => none)
def ex (S : Sta) : Nat → Bool → Scope → Stmt → Lm → Sto → Option (Out × Lm × Sto)
  | 0, _, _, _, _, _ => none
  | n + 1, top, sc, st, m, σ => match st with
    | .Pass _ => some (.next, m, σ)
    | .Break _ => some (.brk, m, σ)
    | .Continue _ => some (.cont, m, σ)
    | .Return (some e) _ => (ev S n sc e m σ).map fun (v, σ) => (.ret v, m, σ)
    | .Expr e _ => if notComp e = true then (ev S n sc e m σ).bind fun (v, σ) => (match v with | .at _ => some (.next, m, σ) | _ => none) else none
    | .Assign [.Name x _] e _ => if sc.names.lookup x = some .local ∧ notComp e = true then (match top, e with
        | true, .List es _ => if x ∈ S.mls ∧ es.length ≤ 1000 then (evs S n sc es m σ).bind fun (vs, σ) => (ats vs).map fun l => (.next, m.set x (.ml σ.ls.length), { σ with ls := σ.ls ++ [l] }) else (ev S n sc e m σ).map fun (v, σ) => (.next, m.set x v, σ)
        | true, .Call (.Name c _) [] [] _ => if σ.on = false ∧ sc.names.lookup c = some .globalImplicit ∧ (c == ("__debug__" : Str)) = false ∧ globIn S c = some (.ref S.C) then
            (match findIn S.K (.ref S.C) "__init__" with
              | some (some (.ref f)) => (callF S n f [.self] { σ with on := true, cnt := 0, f := fun _ => none }).bind fun (v, σ) => (match v with | .at .none => some (.next, m.set x .self, σ) | _ => none)
              | _ => none)
          else (ev S n sc e m σ).map fun (v, σ) => (.next, m.set x v, σ)
        | _, _ => (ev S n sc e m σ).map fun (v, σ) => (.next, m.set x v, σ)) else none
    | .Assign [.Tuple ts _ _] (.Call f args kws cp) _ => (ev S n sc (.Call f args kws cp) m σ).bind fun (v, σ) => (match v with
        | .tup l => (unp sc ts l m).map fun m => (.next, m, σ)
        | _ => none)
    | .Assign [.Attribute o name _] e _ => if notComp e = false then none else (ev S n sc e m σ).bind fun (v, σ) => (ev S n sc o m σ).bind fun (ov, σ) => (match v, ov with
        | .at a, .self => if name ∈ S.fields then (σ.put name a).map fun σ => (.next, m, σ) else none
        | _, _ => none)
    | .AugAssign (.Name x _) op e _ => if sc.names.lookup x = some .local then (m x).bind fun old => (ev S n sc e m σ).bind fun (v, σ) => (match old, v with
        | .at a, .at b => (augop op (.at a) (.at b)).map fun r => (.next, m.set x (.at r), σ)
        | _, _ => none) else none
    | .AugAssign (.Attribute o name _) op e _ => (ev S n sc o m σ).bind fun (ov, σ) => (match ov with
        | .self => if name ∉ S.fields then none else (σ.f name).bind fun old => (ev S n sc e m σ).bind fun (v, σ) => (match v with
            | .at b => (augop op (.at old) (.at b)).bind fun r => (σ.put name r).map fun σ => (.next, m, σ)
            | _ => none)
        | _ => none)
    | .If t b o _ => (test S n sc t m σ).bind fun (c, σ) => if c then exs S n top sc b m σ else exs S n top sc o m σ
    | .While t b [] _ => whil S n sc t b m σ
    | .For (.Name x _) (.Call (.Name r _) args [] _) b [] _ => if sc.names.lookup x = some .local ∧ sc.names.lookup r = some .globalImplicit ∧ (r == ("__debug__" : Str)) = false ∧ (args.all notStar) = true ∧ globIn S r = some (.type "range") then (evs S n sc args m σ).bind fun (vs, σ) => (match vs with
        | [.at (.int k)] => if rngOk 0 k then fo S n sc x b ((rangeUp 0 k).map .int) m σ else none
        | [.at (.int a), .at (.int k)] => if rngOk a k then fo S n sc x b ((rangeUp a k).map .int) m σ else none
        | [.at (.int a), .at (.int k), .at (.int (-1))] => if rngOk a k then fo S n sc x b ((rangeDown a k).map .int) m σ else none
        | _ => none) else none
    | .For (.Name x _) it b [] _ => if sc.names.lookup x = some .local then (ev S n sc it m σ).bind fun (v, σ) => (match v with
        | .list l => fo S n sc x b l m σ
        | _ => none) else none
    | .Assert t none _ => (test S n sc t m σ).bind fun (c, σ) => if c then some (.next, m, σ) else none
    | .Raise (some (.Call (.Name c _) [] [] _)) none _ => if sc.names.lookup c = some .globalImplicit ∧ (c == ("__debug__" : Str)) = false then (match globIn S c, S.exc.lookup c with
        | some (.ref a), some b => if a = b then some (.exc a, m, σ) else none
        | _, _ => none) else none
    | .Try b [.ExceptHandler (some (.Name c _)) none [.Pass _] _] [] [] _ => (exs S n false sc b m σ).bind fun (o, m, σ) => (match o with
        | .exc k => if sc.names.lookup c = some .globalImplicit ∧ (c == ("__debug__" : Str)) = false ∧ globIn S c = some (.ref k) then some (.next, m, σ) else none
        | o => some (o, m, σ))
    | _ => none
def unp (sc : Scope) : List Expr → List At → Lm → Option Lm
  | [], [], m => some m
  | .Name x _ :: ts, a :: l, m => if sc.names.lookup x = some .local then unp sc ts l (m.set x (.at a)) else none
  | _, _, _ => none
def exs (S : Sta) : Nat → Bool → Scope → List Stmt → Lm → Sto → Option (Out × Lm × Sto)
  | 0, _, _, _, _, _ => none
  | _ + 1, _, _, [], m, σ => some (.next, m, σ)
  | n + 1, top, sc, st :: rest, m, σ => (ex S n top sc st m σ).bind fun (o, m, σ) => (match o with
      | .next => exs S n top sc rest m σ
      | o => some (o, m, σ))
def whil (S : Sta) : Nat → Scope → Expr → List Stmt → Lm → Sto → Option (Out × Lm × Sto)
  | 0, _, _, _, _, _ => none
  | n + 1, sc, t, b, m, σ => (test S n sc t m σ).bind fun (c, σ) => if c then (exs S n false sc b m σ).bind fun (o, m, σ) => (match o with
      | .next | .cont => whil S n sc t b m σ
      | .brk => some (.next, m, σ)
      | .ret v => some (.ret v, m, σ)
      | .exc _ => none)
    else some (.next, m, σ)
def fo (S : Sta) : Nat → Scope → Str → List Stmt → List At → Lm → Sto → Option (Out × Lm × Sto)
  | 0, _, _, _, _, _, _ => none
  | _ + 1, _, _, _, [], m, σ => some (.next, m, σ)
  | n + 1, sc, x, b, a :: l, m, σ => (exs S n false sc b (m.set x (.at a)) σ).bind fun (o, m, σ) => (match o with
      | .next | .cont => fo S n sc x b l m σ
      | .brk => some (.next, m, σ)
      | .ret v => some (.ret v, m, σ)
      | .exc _ => none)
end
end Ind
set_option maxRecDepth 100000
set_option Elab.async false
namespace Ind
open PySem PySem.W PySem.Calls PyProof.Rows
def AtIs : At → Value → Prop
  | .none, v => v = .none
  | .bool b, v => v = .bool b
  | .int i, v => ∃ t, v = .int i t
  | .str l, v => ∃ t, v = .str (lstr l) t
inductive AtsAre : List At → List Value → Prop
  | nil : AtsAre [] []
  | cons {a v l vs} : AtIs a v → AtsAre l vs → AtsAre (a :: l) (v :: vs)
theorem AtsAre.length {l : List At} {vs : List Value} (h : AtsAre l vs) : l.length = vs.length := by
  induction h with
  | nil => rfl
  | cons _ _ ih => simp [ih]
theorem AtsAre.append {l l' : List At} {vs vs' : List Value} (h : AtsAre l vs) (h' : AtsAre l' vs') : AtsAre (l ++ l') (vs ++ vs') := by
  induction h with
  | nil => exact h'
  | cons a _ ih => exact .cons a ih
theorem AtsAre.get {l : List At} {vs : List Value} (h : AtsAre l vs) : ∀ {i : Nat} {a : At}, l[i]? = some a → ∃ v, vs[i]? = some v ∧ AtIs a v := by
  induction h with
  | nil => intro i a e; simp at e
  | cons x _ ih =>
    intro i a e
    cases i with
    | zero => simp at e; subst e; exact ⟨_, rfl, x⟩
    | succ i => simpa using ih (by simpa using e)
theorem AtsAre.take {l : List At} {vs : List Value} (h : AtsAre l vs) : ∀ n, AtsAre (l.take n) (vs.take n) := by
  induction h with
  | nil => intro n; simp; exact .nil
  | cons x _ ih =>
    intro n
    cases n with
    | zero => exact .nil
    | succ n => exact .cons x (ih n)
theorem AtsAre.drop {l : List At} {vs : List Value} (h : AtsAre l vs) : ∀ n, AtsAre (l.drop n) (vs.drop n) := by
  induction h with
  | nil => intro n; simp; exact .nil
  | cons x t ih =>
    intro n
    cases n with
    | zero => exact .cons x t
    | succ n => exact ih n
structure Rho where
  st : Option (Addr × Addr)
  ls : List Addr
def Rho.mu (ρ : Rho) : List Addr := (match ρ.st with | some (a, d) => [a, d] | none => []) ++ ρ.ls
def VIs (ρ : Rho) (h : Heap) : MV → Value → Prop
  | .at a, v => AtIs a v
  | .list l, v => ∃ a vs, v = .ref a ∧ a ∉ ρ.mu ∧ h.IsList a vs.toArray ∧ AtsAre l vs
  | .tup l, v => ∃ a vs, v = .ref a ∧ a ∉ ρ.mu ∧ h.TupAt a vs ∧ AtsAre l vs
  | .self, v => ∃ a d, ρ.st = some (a, d) ∧ v = .ref a
  | .ml i, v => ∃ a, ρ.ls[i]? = some a ∧ v = .ref a
  | .stat x, v => v = x
def GetIs : Option At → Option (Option Value) → Prop
  | some a, r => ∃ v, r = some (some v) ∧ AtIs a v
  | none, r => r = some none
structure StemAt (C : Addr) (h : Heap) (a d : Addr) (cnt : Nat) (f : Str → Option At) : Prop where
  obj : h.get? a = some ⟨.ref C, some d, .plain, #[]⟩
  dict : ∃ es n, h.get? d = some (dictOf es n) ∧ es.length ≤ cnt ∧ ∀ x, GetIs (f x) (getL x es)
structure Rep (C : Addr) (hb : Heap) (σ : Sto) (ρ : Rho) (h : Heap) : Prop where
  stem : match ρ.st with
    | some (a, d) => σ.on = true ∧ StemAt C h a d σ.cnt σ.f
    | none => σ.on = false
  len : σ.ls.length = ρ.ls.length
  lists : ∀ (i : Nat) (l : List At) (a : Addr), σ.ls[i]? = some l → ρ.ls[i]? = some a → ∃ vs n, h.get? a = some (listOf vs n) ∧ AtsAre l vs.toList
  nodup : ρ.mu.Nodup
  new : ∀ a ∈ ρ.mu, hb.get? a = none
theorem Rep.live {C : Addr} {hb : Heap} {σ : Sto} {ρ : Rho} {h : Heap} (R : Rep C hb σ ρ h) : ∀ a ∈ ρ.mu, (h.get? a).isSome = true := by
  intro a ha
  have q := R.stem
  unfold Rho.mu at ha
  rcases List.mem_append.mp ha with ha | ha
  · split at ha
    · rename_i x d e
      rw [e] at q
      rcases List.mem_cons.mp ha with rfl | ha
      · rw [q.2.obj]; rfl
      · obtain rfl := List.mem_singleton.mp ha
        obtain ⟨es, n, e1, _⟩ := q.2.dict
        rw [e1]; rfl
    · cases ha
  · obtain ⟨i, hi, rfl⟩ := List.getElem_of_mem ha
    have hl : i < σ.ls.length := R.len ▸ hi
    obtain ⟨vs, n, e, _⟩ := R.lists i _ _ (List.getElem?_eq_getElem hl) (List.getElem?_eq_getElem hi)
    rw [e]; rfl
def frA (fr : List Env) : List Addr := fr.filterMap (·.frame)
def Holds (env : Env) (ρ : Rho) (h : Heap) (mv : Str → Option Value) (x : Str) (v : MV) : Prop := match env.kindOf x with
  | some .local => ∃ val, mv x = some val ∧ VIs ρ h v val
  | some .cell | some .free => ∃ c val, env.cells.lookup x = some c ∧ h.IsCell c (some val) ∧ VIs ρ h v val
  | _ => True
structure Iv (C : Addr) (hb : Heap) (os : OsState) (env : Env) (fr : List Env) (ρ : Rho) (m : Lm) (σ : Sto) (s : Shared) : Prop where
  base : hb.StaysIn s.heap
  rep : Rep C hb σ ρ s.heap
  loc : ∃ mv, s.heap.Ns env.locals mv ∧ ∀ x v, m x = some v → Holds env ρ s.heap mv x v
  lnew : hb.get? env.locals = none
  lmu : env.locals ∉ ρ.mu
  frs : ∀ e ∈ fr, e.scope.kind ≠ .module ∧ ∃ L o es ep, e.frame = some L ∧ hb.get? L = none ∧ s.heap.get? L = some o ∧ o.data = .dict es ep ∧ L ∉ ρ.mu
  gens : s.gens = #[]
  os : s.os = os
def Stp (env : Env) (fr : List Env) (ρ : Rho) (h h' : Heap) : Prop := ∀ b o, h.get? b = some o → b ≠ env.locals → b ∉ ρ.mu →
  (b ∉ frA fr → h'.get? b = some o) ∧ ∃ sl, h'.get? b = some { o with slots := sl }
theorem Stp.refl {env : Env} {fr : List Env} {ρ : Rho} (h : Heap) : Stp env fr ρ h h := fun _ o e _ _ => ⟨fun _ => e, o.slots, e⟩
theorem Stp.trans {env : Env} {fr : List Env} {ρ : Rho} {h h' h'' : Heap} (x : Stp env fr ρ h h') (y : Stp env fr ρ h' h'') : Stp env fr ρ h h'' := fun b o e h1 h2 => by
  obtain ⟨a, sl, b'⟩ := x b o e h1 h2
  obtain ⟨c, sl', d⟩ := y b _ b' h1 h2
  exact ⟨fun q => (y b o (a q) h1 h2).1 q, sl', d⟩
theorem Stp.of_keeps {env : Env} {fr : List Env} {ρ : Rho} {h h' : Heap} (k : ∀ b o, h.get? b = some o → h'.get? b = some o) : Stp env fr ρ h h' := fun b o e _ _ => ⟨fun _ => k b o e, o.slots, k b o e⟩
theorem Stp.of_but {env : Env} {fr : List Env} {ρ : Rho} {h h' : Heap} (k : ∀ b o, b ≠ env.locals → b ∉ ρ.mu → h.get? b = some o → h'.get? b = some o) : Stp env fr ρ h h' := fun b o e h1 h2 => ⟨fun _ => k b o h1 h2 e, o.slots, k b o h1 h2 e⟩
theorem Stp.ext {env : Env} {fr : List Env} {ρ ρ' : Rho} {h h' h'' : Heap} (x : Stp env fr ρ h h') (y : Stp env fr ρ' h' h'') (hm : ∀ b ∈ ρ'.mu, b ∉ ρ.mu → h.get? b = none) : Stp env fr ρ h h'' := fun b o e h1 h2 => by
  have h2' : b ∉ ρ'.mu := fun q => by have := hm b q h2; rw [e] at this; cases this
  obtain ⟨a, sl, b'⟩ := x b o e h1 h2
  obtain ⟨c, sl', d⟩ := y b _ b' h1 h2'
  exact ⟨fun q => (y b o (a q) h1 h2').1 q, sl', d⟩
theorem list_slots {h h' : Heap} {a : Addr} {its : Array Value} (x : h.IsList a its) (k : ∀ o, h.get? a = some o → ∃ sl, h'.get? a = some { o with slots := sl }) : h'.IsList a its := by
  obtain ⟨o, e, c, n, d⟩ := x
  obtain ⟨sl, e'⟩ := k o e
  exact ⟨_, e', c, n, d⟩
theorem tup_slots {h h' : Heap} {a : Addr} {vs : List Value} (x : h.TupAt a vs) (k : ∀ o, h.get? a = some o → ∃ sl, h'.get? a = some { o with slots := sl }) : h'.TupAt a vs := by
  obtain ⟨o, n, e, c, d⟩ := x
  obtain ⟨sl, e'⟩ := k o e
  exact ⟨_, n, e', c, d⟩
theorem ns_ne {h : Heap} {L a : Addr} {mv : Str → Option Value} {o : Obj} (hn : h.Ns L mv) (e : h.get? a = some o) (nd : ∀ es ep, o.data ≠ .dict es ep) : a ≠ L := by
  rintro rfl
  obtain ⟨o', es, ep, e', d, _⟩ := hn
  rw [e] at e'; cases e'
  exact nd _ _ d
theorem VIs.step {env : Env} {fr : List Env} {ρ : Rho} {h h' : Heap} {mv : Str → Option Value} (hn : h.Ns env.locals mv) (x : Stp env fr ρ h h') {v : MV} {val : Value} (hv : VIs ρ h v val) : VIs ρ h' v val := by
  cases v with
  | list l =>
    obtain ⟨a, vs, e, hm, hl, ha⟩ := hv
    refine ⟨a, vs, e, hm, list_slots hl fun o eo => (x a o eo (ns_ne hn eo fun es ep q => ?_) hm).2, ha⟩
    obtain ⟨o', e', _, n, d⟩ := hl
    rw [eo] at e'; cases e'; rw [d] at q; cases q
  | tup l =>
    obtain ⟨a, vs, e, hm, hl, ha⟩ := hv
    refine ⟨a, vs, e, hm, tup_slots hl fun o eo => (x a o eo (ns_ne hn eo fun es ep q => ?_) hm).2, ha⟩
    obtain ⟨o', n, e', _, d⟩ := hl
    rw [eo] at e'; cases e'; rw [d] at q; cases q
  | _ => exact hv
theorem VIs.ext {ρ ρ' : Rho} {h : Heap} {v : MV} {val : Value} (hv : VIs ρ h v val) (hst : ∀ p, ρ.st = some p → ρ'.st = some p) (hls : ∀ (i : Nat) (a : Addr), ρ.ls[i]? = some a → ρ'.ls[i]? = some a)
    (hm : ∀ b ∈ ρ'.mu, b ∉ ρ.mu → h.get? b = none) : VIs ρ' h v val := by
  cases v with
  | list l =>
    obtain ⟨a, vs, e, hm', hl, ha⟩ := hv
    exact ⟨a, vs, e, fun q => (by have := hm a q hm'; obtain ⟨o, eo, _⟩ := hl; rw [eo] at this; cases this), hl, ha⟩
  | tup l =>
    obtain ⟨a, vs, e, hm', hl, ha⟩ := hv
    exact ⟨a, vs, e, fun q => (by have := hm a q hm'; obtain ⟨o, n, eo, _⟩ := hl; rw [eo] at this; cases this), hl, ha⟩
  | self => obtain ⟨a, d, e, q⟩ := hv; exact ⟨a, d, hst _ e, q⟩
  | ml i => obtain ⟨a, e, q⟩ := hv; exact ⟨a, hls _ _ e, q⟩
  | _ => exact hv
theorem Iv.keeps {C : Addr} {hb : Heap} {os : OsState} {env : Env} {fr : List Env} {ρ : Rho} {m : Lm} {σ : Sto} {s : Shared} (I : Iv C hb os env fr ρ m σ s) {h' : Heap} (k : ∀ b o, s.heap.get? b = some o → h'.get? b = some o) {tk : Tok} {dr : Drawn} :
    Iv C hb os env fr ρ m σ ⟨h', s.gens, dr, tk, s.os⟩ := by
  obtain ⟨mv, hn, hl⟩ := I.loc
  refine ⟨fun b o e => k b o (I.base b o e), ?_, ⟨mv, hn.keeps k, fun x v e => ?_⟩, I.lnew, I.lmu, fun e he => ?_, I.gens, I.os⟩
  · have R := I.rep
    refine ⟨?_, R.len, fun i l a h1 h2 => ?_, R.nodup, R.new⟩
    · have q := R.stem
      split
      · rename_i a d e
        rw [e] at q
        exact ⟨q.1, k _ _ q.2.obj, let ⟨es, n, e1, e2⟩ := q.2.dict; ⟨es, n, k _ _ e1, e2⟩⟩
      · rename_i e; rw [e] at q; exact q
    · obtain ⟨vs, n, e1, e2⟩ := R.lists i l a h1 h2
      exact ⟨vs, n, k _ _ e1, e2⟩
  · have q := hl x v e
    have st : ∀ {val : Value}, VIs ρ s.heap v val → VIs ρ h' v val := fun z => VIs.step hn (Stp.of_keeps (fr := fr) k) z
    unfold Holds at q ⊢
    split at q
    · obtain ⟨val, e1, e2⟩ := q; exact ⟨val, e1, st e2⟩
    · obtain ⟨c, val, e1, e2, e3⟩ := q; exact ⟨c, val, e1, e2.keeps k, st e3⟩
    · obtain ⟨c, val, e1, e2, e3⟩ := q; exact ⟨c, val, e1, e2.keeps k, st e3⟩
    · trivial
  · obtain ⟨hk, L, o, es, ep, e1, e2, e3, e4⟩ := I.frs e he
    exact ⟨hk, L, o, es, ep, e1, e2, k _ _ e3, e4⟩
theorem Iv.toks {C : Addr} {hb : Heap} {os : OsState} {env : Env} {fr : List Env} {ρ : Rho} {m : Lm} {σ : Sto} {s : Shared} (I : Iv C hb os env fr ρ m σ s) (tk : Tok) : Iv C hb os env fr ρ m σ { s with toks := tk } :=
  I.keeps fun _ _ e => e
theorem Iv.push {C : Addr} {hb : Heap} {os : OsState} {env : Env} {fr : List Env} {ρ : Rho} {m : Lm} {σ : Sto} {s : Shared} (I : Iv C hb os env fr ρ m σ s) (o : Obj) : Iv C hb os env fr ρ m σ { s with heap := s.heap.push o } :=
  I.keeps fun _ _ e => Heap.get?_push_of_some _ e
theorem Iv.store {C : Addr} {hb : Heap} {os : OsState} {env : Env} {fr : List Env} {ρ : Rho} {m : Lm} {σ : Sto} {s : Shared} (I : Iv C hb os env fr ρ m σ s) {x : Str} {v : MV} {val : Value} {h' : Heap} {tk : Tok} {mv : Str → Option Value}
    (hm : s.heap.Ns env.locals mv) (hl : ∀ x v, m x = some v → Holds env ρ s.heap mv x v) (hk : env.kindOf x = some .local) (hv : VIs ρ s.heap v val)
    (hn : h'.Ns env.locals (fun y => if y = x then some val else mv y)) (hs : Heap.SameBut env.locals s.heap h') :
    Iv C hb os env fr ρ (m.set x v) σ { s with heap := h', toks := tk } ∧ Stp env fr ρ s.heap h' := by
  have st : Stp env fr ρ s.heap h' := Stp.of_but fun b o h1 _ e => hs.extBut b o h1 e
  have cell : ∀ {c : Addr} {val : Value}, s.heap.IsCell c (some val) → h'.IsCell c (some val) := fun {c val} q => by
    obtain ⟨o, e, d⟩ := q
    exact ⟨o, (hs.2 c (ns_ne hm e fun es ep q => by rw [d] at q; cases q)).trans e, d⟩
  refine ⟨⟨fun b o e => hs.extBut b o (fun q => ?_) (I.base b o e), ?_, ⟨_, hn, fun y u e => ?_⟩, I.lnew, I.lmu, fun e he => ?_, I.gens, I.os⟩, st⟩
  · rw [q, I.lnew] at e; cases e
  · have R := I.rep
    have ne : ∀ a ∈ ρ.mu, a ≠ env.locals := fun a ha q => I.lmu (q ▸ ha)
    refine ⟨?_, R.len, fun i l a h1 h2 => ?_, R.nodup, R.new⟩
    · have q := R.stem
      split
      · rename_i a d e
        rw [e] at q
        have ha : a ∈ ρ.mu := by unfold Rho.mu; rw [e]; simp
        have hd : d ∈ ρ.mu := by unfold Rho.mu; rw [e]; simp
        exact ⟨q.1, (hs.2 _ (ne a ha)).trans q.2.obj, let ⟨es, n, e1, e2⟩ := q.2.dict; ⟨es, n, (hs.2 _ (ne d hd)).trans e1, e2⟩⟩
      · rename_i e; rw [e] at q; exact q
    · obtain ⟨vs, n, e1, e2⟩ := R.lists i l a h1 h2
      exact ⟨vs, n, (hs.2 _ (ne a (by unfold Rho.mu; exact List.mem_append_right _ (List.mem_of_getElem? h2)))).trans e1, e2⟩
  · by_cases hy : y = x
    · subst hy
      have : u = v := by simpa [Lm.set] using e.symm
      subst this
      unfold Holds
      rw [hk]
      exact ⟨val, by simp, VIs.step hm st hv⟩
    · have q := hl y u (by simpa [Lm.set, hy] using e)
      unfold Holds at q ⊢
      split at q
      · obtain ⟨w, e1, e2⟩ := q; exact ⟨w, by simp [hy, e1], VIs.step hm st e2⟩
      · obtain ⟨c, w, e1, e2, e3⟩ := q; exact ⟨c, w, e1, cell e2, VIs.step hm st e3⟩
      · obtain ⟨c, w, e1, e2, e3⟩ := q; exact ⟨c, w, e1, cell e2, VIs.step hm st e3⟩
      · trivial
  · obtain ⟨hk, L, o, es, ep, e1, e2, e3, e4, e5⟩ := I.frs e he
    by_cases q : L = env.locals
    · obtain ⟨o', es', ep', f1, f2, _⟩ := hn
      exact ⟨hk, L, o', es', ep', e1, e2, q ▸ f1, f2, e5⟩
    · exact ⟨hk, L, o, es, ep, e1, e2, (hs.2 _ q).trans e3, e4, e5⟩
end Ind
set_option maxRecDepth 100000
set_option Elab.async false
namespace Ind
open PySem PySem.W PySem.Calls PyProof.Rows
def Out1 (ρ : Rho) (s : Shared) (v : MV) (Q : Value → Shared → Prop) : Prop :=
  ∀ x h' tk, (∀ b o, s.heap.get? b = some o → h'.get? b = some o) → VIs ρ h' v x → Q x { s with heap := h', toks := tk }
theorem out_tok {ρ : Rho} {s : Shared} {v : MV} {Q : Value → Shared → Prop} (h : Out1 ρ s v Q) {x : Value} {tk : Tok} (e : VIs ρ s.heap v x) : Q x { s with toks := tk } :=
  h x s.heap tk (fun _ _ e => e) e
theorem out_same {ρ : Rho} {s : Shared} {v : MV} {Q : Value → Shared → Prop} (h : Out1 ρ s v Q) {x : Value} (e : VIs ρ s.heap v x) : Q x s :=
  h x s.heap s.toks (fun _ _ e => e) e
theorem lstr_append (a b : List Nat) : lstr a ++ lstr b = lstr (a ++ b) := by
  show (⟨a.toArray ++ b.toArray⟩ : Str) = ⟨(a ++ b).toArray⟩
  simp
theorem lstr_length (a : List Nat) : (lstr a).length = a.length := by
  show (a.toArray).size = a.length
  simp
theorem lstr_list (a : List Nat) : (lstr a).cps.toList = a := by
  show a.toArray.toList = a
  simp
theorem lstr_of (s : Str) : lstr s.cps.toList = s := by
  obtain ⟨a⟩ := s
  simp [lstr]
theorem lstr_inj {a b : List Nat} : lstr a = lstr b ↔ a = b := ⟨fun e => by rw [← lstr_list a, e, lstr_list], fun e => by rw [e]⟩
theorem intBits_small {a : Int} (h : a.natAbs < 1000000) : Builtin.Int.intBits a ≤ 64 := by
  unfold Builtin.Int.intBits
  split
  · omega
  · rename_i h0
    have hz : a.natAbs ≠ 0 := by simpa using h0
    have : a.natAbs.log2 < 20 := (Nat.log2_lt hz).mpr (by omega)
    omega
theorem big_le : big ≤ sizeLine := by decide
def Live (ρ : Rho) (h : Heap) : Prop := ∀ a ∈ ρ.mu, (h.get? a).isSome = true
theorem Live.fresh {ρ : Rho} {h : Heap} (L : Live ρ h) {a : Addr} (hn : h.get? a = none) : a ∉ ρ.mu := fun q => by have := L a q; rw [hn] at this; cases this
theorem get_size {h : Heap} : h.get? h.objs.size = none := Heap.get?_none_of_le (Nat.le_refl _)
theorem out_list {ρ : Rho} {s : Shared} {l : List At} {vs : List Value} {Q : Value → Shared → Prop} (L : Live ρ s.heap) (ha : AtsAre l vs) (h : Out1 ρ s (.list l) Q) {its : Array Value} (e : its = vs.toArray) {tk : Tok} :
    Q (.ref s.heap.objs.size) { s with heap := s.heap.push { cls := .type "list", data := .seq its }, toks := tk } :=
  h _ _ _ (fun _ _ e => Heap.get?_push_of_some _ e) ⟨_, vs, rfl, L.fresh get_size, ⟨_, Heap.get?_push_size _ rfl, rfl, _, by rw [e]⟩, ha⟩
theorem out_tup {ρ : Rho} {s : Shared} {l : List At} {vs : List Value} {Q : Value → Shared → Prop} (L : Live ρ s.heap) (ha : AtsAre l vs) (h : Out1 ρ s (.tup l) Q) {tk : Tok} :
    Q (.ref s.heap.objs.size) { s with heap := s.heap.push { cls := .type "tuple", data := .seq vs.toArray }, toks := tk } :=
  h _ _ _ (fun _ _ e => Heap.get?_push_of_some _ e) ⟨_, vs, rfl, L.fresh get_size, ⟨_, 0, Heap.get?_push_size _ rfl, rfl, rfl⟩, ha⟩
section
variable {prog : Program} {w : World} {A : Around} {E : Value → Shared → Prop} {s : Shared} {ρ : Rho} {Q : Value → Shared → Prop}
theorem binop_int {op : Operator} {a b : Int} {t u : Tok} {r : Int} (e : arith op a b = some r) (h : Out1 ρ s (.at (.int r)) Q) :
    wpAny (model prog w) A (binaryOp op (.int a t) (.int b u)) Q E s := by
  cases op with
  | Add => cases e; exact add_int (out_tok h ⟨_, rfl⟩)
  | Sub => cases e; exact sub_int (out_tok h ⟨_, rfl⟩)
  | Mult =>
    simp only [arith] at e
    split at e
    · rename_i q; cases e
      exact mul_int (out_tok h ⟨_, rfl⟩) (IntMulOk.of_left (intBits_small q.1))
    · cases e
  | Mod =>
    simp only [arith] at e
    split at e
    · rename_i q; cases e; exact mod_int' q.1 (out_tok h ⟨_, rfl⟩)
    · cases e
  | FloorDiv =>
    simp only [arith] at e
    split at e
    · rename_i q; cases e; exact floordiv_int q.1 (out_tok h ⟨_, rfl⟩) (.inl (PyProof.noPylong_small (Nat.lt_trans q.2 (by decide))))
    · cases e
  | RShift =>
    simp only [arith] at e
    split at e
    · rename_i q; cases e
      obtain ⟨rfl, q2⟩ := q
      by_cases hc : (1 : Int) ≥ ((Builtin.Int.intBits a : Nat) : Int)
      · have ha : a < 2 := by
          unfold Builtin.Int.intBits at hc
          split at hc
          · rename_i z; have : a = 0 := by simpa using z
            omega
          · rename_i z
            have hz : a.natAbs ≠ 0 := by simpa using z
            have hl : a.natAbs.log2 < 1 := by omega
            have := (Nat.log2_lt hz).mp hl
            omega
        refine AutoIntOps.rshift_1 (by decide) hc ?_
        rw [if_neg (by omega)]
        have e0 : Int.fdiv a 2 = 0 := by
          rw [Int.fdiv_eq_ediv_of_nonneg _ (by decide)]; omega
        exact out_tok h (tk := s.toks + 1) ⟨_, by rw [e0]⟩
      · exact AutoIntOps.rshift_2 (by decide) hc (out_tok h (tk := s.toks + 1) ⟨_, rfl⟩)
    · cases e
  | _ => cases e
theorem augop_wp {op : Operator} {a b : MV} {x y : Value} {r : At} (e : augop op a b = some r) (ha : VIs ρ s.heap a x) (hb : VIs ρ s.heap b y) (h : Out1 ρ s (.at r) Q) :
    wpAny (model prog w) A (inplaceOp op x y) Q E s := by
  cases a with
  | «at» a =>
    cases a with
    | int a =>
      cases b with
      | «at» b =>
        cases b with
        | int b =>
          obtain ⟨t, rfl⟩ := ha
          obtain ⟨u, rfl⟩ := hb
          cases op with
          | Add => cases e; exact iadd_int (out_tok h ⟨_, rfl⟩)
          | Sub => cases e; exact isub_int (out_tok h ⟨_, rfl⟩)
          | _ => cases e
        | _ => cases e
      | _ => cases e
    | _ => cases e
  | _ => cases e
theorem concat_lists {l b : Addr} {vs ws : List Value} (hl : s.heap.IsList l vs.toArray) (hb : s.heap.IsList b ws.toArray)
    (h : Q (.ref s.heap.objs.size) { s with heap := s.heap.push { cls := .type "list", data := .seq (vs ++ ws).toArray } }) (hsz : vs.length + ws.length ≤ sizeLine) :
    wpAny (model prog w) A (binaryOp .Add (.ref l) (.ref b)) Q E s := by
  obtain ⟨⟨cls, dd, data, sl⟩, ho, hc, n, hd⟩ := id hl
  obtain ⟨⟨cls2, dd2, data2, sl2⟩, ho2, hc2, n2, hd2⟩ := id hb
  simp only at hc hd hc2 hd2
  subst hc hd hc2 hd2
  have e : vs.toArray ++ ws.toArray = (vs ++ ws).toArray := by simp
  refine concat_meets ⟨_, ho, rfl⟩ ⟨_, ho2, rfl⟩ noFill_list_add seq_list_add PySem.F.slot_list_add PySem.F.entry_list_add (PySem.F.args_list_add_2 _ _) (list_addW l b vs.toArray ws.toArray n n2 dd dd2 sl sl2 (by simpa using hsz)) ⟨ho, ho2, ?_⟩
  rw [e]
  exact h
theorem binop_wp {op : Operator} {a b : MV} {x y : Value} {r : MV} (L : Live ρ s.heap) (e : binop op a b = some r) (ha : VIs ρ s.heap a x) (hb : VIs ρ s.heap b y) (h : Out1 ρ s r Q) :
    wpAny (model prog w) A (binaryOp op x y) Q E s := by
  unfold binop at e
  split at e
  · rename_i a b
    obtain ⟨t, rfl⟩ := ha
    obtain ⟨u, rfl⟩ := hb
    obtain ⟨i, hi, rfl⟩ := Option.map_eq_some_iff.mp e
    exact binop_int hi h
  · rename_i a b
    obtain ⟨t, rfl⟩ := ha
    obtain ⟨u, rfl⟩ := hb
    split at e
    · rename_i q; cases e
      obtain ⟨rfl, q⟩ := q
      refine PyProof.Rows.add_str (fun t' tk => out_tok h ⟨_, by rw [lstr_append]⟩) ?_
      rw [lstr_length, lstr_length]
      exact Nat.le_trans q big_le
    · cases e
  · rename_i a b
    obtain ⟨l1, vs, rfl, m1, hl, av⟩ := ha
    obtain ⟨l2, ws, rfl, m2, hl2, aw⟩ := hb
    split at e
    · rename_i q; cases e
      obtain ⟨rfl, q⟩ := q
      exact concat_lists hl hl2 (out_list L (av.append aw) h rfl) (by rw [← av.length, ← aw.length]; exact Nat.le_trans q big_le)
    · cases e
  · cases e
end
end Ind
set_option maxRecDepth 100000
set_option Elab.async false
namespace Ind
open PySem PySem.W PySem.Calls PyProof.Rows
section
variable {prog : Program} {w : World} {A : Around} {E : Value → Shared → Prop} {s : Shared} {ρ : Rho} {Q : Value → Shared → Prop}
theorem truth_wp {σ : Sto} {v : MV} {x : Value} {b : Bool} {Q : Bool → Shared → Prop} (e : truth σ v = some b) (hv : VIs ρ s.heap v x) (h : ∀ tk, Q b { s with toks := tk }) :
    wpAny (model prog w) A (truthy x) Q E s := by
  unfold truth at e
  split at e
  · cases e; cases hv; exact wpAny_truthy_bool (h _)
  · rename_i l
    split at e
    · rename_i q; cases e
      obtain ⟨a, vs, rfl, _, hl, ha⟩ := hv
      refine wpAny_truthy_list hl (by rw [List.size_toArray, ← ha.length]; omega) ?_
      have : (!vs.toArray.isEmpty) = (!l.isEmpty) := by cases ha <;> simp
      rw [this]; exact h _
    · cases e
  · cases e
def clsOk (K : Frag) (C : Addr) (fields : List Str) : Bool :=
  findIn K (.ref C) "__getattribute__" == some (some (.builtin "object.__getattribute__")) && findIn K (.ref C) "__getattr__" == some none && findIn K (.ref C) "__setattr__" == some (some (.builtin "object.__setattr__")) &&
  hasDictIn K C && plainOver K C && fields.all fun x => takerIn K C x == some none && (match findIn K (.ref C) x with | some a => noGet K a | none => false)
def fnOk (K : Frag) (f : Addr) : Bool := match K.lookup f with
  | some ⟨.type "function", _, .func fd, _⟩ => decide (fd.globals = mainGlobals) && fd.closure.isEmpty && decide (fd.builtins = builtinsNs) && codeIn K fd.code fd.qualname && fd.scope.kind == .function && !fd.scope.isGenerator && !fd.scope.isCoroutine &&
      decide ((fd.params.args.map (·.arg)).Nodup) && decide (((cellsFrom 0 fd.scope.names []).map (·.1)).Nodup) &&
      (fd.params.args.map (·.arg)).all fun p => fd.scope.names.lookup p == some .local || (fd.scope.names.lookup p == some .cell && ((cellsFrom 0 fd.scope.names []).lookup p).isSome)
  | _ => false
def ExcC (h : Heap) (C : Addr) : Prop := ∃ B newId initId bmB bm N nm q bs hdct sn sub ab col dd k0 k1 k2 k3 k5 mN, ExcBaseFacts B newId initId bmB ∧
  h.get? C = some (excClassObj nm q C N bs bm hdct sn sub ab col dd k0 k1 k2 k3 k5 newId) ∧ h.Ns N mN ∧ mN "__init__" = none ∧ OwnTail h bmB bm
theorem ExcC.keeps {h h' : Heap} {C : Addr} (x : ExcC h C) (k : ∀ b o, h.get? b = some o → h'.get? b = some o) : ExcC h' C :=
  let ⟨B, newId, initId, bmB, bm, N, nm, q, bs, hdct, sn, sub, ab, col, dd, k0, k1, k2, k3, k5, mN, a, b, c, d, e⟩ := x
  ⟨B, newId, initId, bmB, bm, N, nm, q, bs, hdct, sn, sub, ab, col, dd, k0, k1, k2, k3, k5, mN, a, k _ _ b, c.keeps k, d, e.keeps k⟩
structure Base (prog : Program) (w : World) (S : Sta) (hb : Heap) : Prop where
  K : S.K.In hb
  lim : hb.NoLimit
  set : ∃ n, hb.SetOf (PySem.strKind prog w) S.setA (fun k => decide (k.cps.toList ∈ S.setL)) n
  cls : clsOk S.K S.C S.fields = true
  makes : makesIn S.K S.C = true ∧ keepIn S.K (.ref S.C) = true
  exc : ∀ p ∈ S.exc, ExcC hb p.2
  fns : ∀ f ∈ S.funs, fnOk S.K f = true
  bind : ∀ f ∈ S.funs, ∀ o fd, S.K.lookup f = some o → o.data = .func fd → ∀ vals : List Value, vals.length = fd.params.args.length → bindArgs fd ⟨vals, []⟩ = pure ((fd.params.args.map (·.arg)).zip vals)
theorem setOf_keeps {h h' : Heap} {K : Type} [DecidableEq K] {knd : PySem.KeyKind prog w K} {a : Addr} {f : K → Bool} {n : Nat} (x : h.SetOf knd a f n) (k : ∀ b o, h.get? b = some o → h'.get? b = some o) : h'.SetOf knd a f n :=
  let ⟨o, es, ep, t, e, r⟩ := x; ⟨o, es, ep, t, k _ _ e, r⟩
theorem strsOf_get {l : List At} {ss : List (List Nat)} (e : strsAtL l = some ss) : l = ss.map .str := by
  induction l generalizing ss with
  | nil => cases e; rfl
  | cons a r ih =>
    cases a with
    | str x =>
      obtain ⟨t, ht, rfl⟩ := Option.map_eq_some_iff.mp e
      rw [ih ht]; rfl
    | _ => cases e
theorem strs_values {ss : List (List Nat)} {vs : List Value} (h : AtsAre (ss.map .str) vs) : ∀ v ∈ vs, ∃ x t, v = .str (lstr x) t ∧ x ∈ ss := by
  induction ss generalizing vs with
  | nil => cases h; intro v hv; cases hv
  | cons a r ih =>
    cases h with
    | cons x y =>
      intro v hv
      rcases List.mem_cons.mp hv with rfl | hv
      · obtain ⟨t, e⟩ := x; exact ⟨a, t, e, .head _⟩
      · obtain ⟨x, t, e, m⟩ := ih y v hv; exact ⟨x, t, e, .tail _ m⟩
def strIs (x : List Nat) : Value → Bool
  | .str s _ => s.cps.toList == x
  | _ => false
theorem any_strs {ss : List (List Nat)} {vs : List Value} (h : AtsAre (ss.map .str) vs) (x : List Nat) : vs.any (strIs x) = decide (x ∈ ss) := by
  induction ss generalizing vs with
  | nil => cases h; rfl
  | cons a r ih =>
    cases h with
    | cons y z =>
      obtain ⟨t, rfl⟩ := y
      rw [List.any_cons, ih z]
      show ((lstr a).cps.toList == x || _) = _
      rw [lstr_list]
      by_cases q : a = x
      · subst q; simp
      · simp [q, Ne.symm q]
theorem all_strs : ∀ {x y : List (List Nat)} {vs ws : List Value}, AtsAre (x.map .str) vs → AtsAre (y.map .str) ws → x.length = y.length →
    (∀ (j : Nat) (h1 : j < vs.length) (h2 : j < ws.length), ∃ a b t u, vs[j] = .str (lstr a) t ∧ ws[j] = .str (lstr b) u ∧ x[j]? = some a ∧ y[j]? = some b) := by
  intro x y vs ws h1 h2 hl j l1 l2
  have e1 := h1.length
  have e2 := h2.length
  simp only [List.length_map] at e1 e2
  have a1 : (x.map At.str)[j]? = some (.str (x[j]'(by omega))) := by rw [List.getElem?_map, List.getElem?_eq_getElem (by omega)]; rfl
  have a2 : (y.map At.str)[j]? = some (.str (y[j]'(by omega))) := by rw [List.getElem?_map, List.getElem?_eq_getElem (by omega)]; rfl
  obtain ⟨v, b1, t, c1⟩ := h1.get a1
  obtain ⟨u, b2, t', c2⟩ := h2.get a2
  rw [List.getElem?_eq_getElem l1] at b1
  rw [List.getElem?_eq_getElem l2] at b2
  cases b1; cases b2
  exact ⟨_, _, t, t', c1, c2, List.getElem?_eq_getElem _, List.getElem?_eq_getElem _⟩
theorem compare_wp {C : Addr} {hb : Heap} {S : Sta} {σ : Sto} {op : CmpOp} {a b : MV} {x y : Value} {r : Bool} (B : Base prog w S hb) (k : hb.StaysIn s.heap) (R : Rep C hb σ ρ s.heap) (hu : A.units < cLine)
    (e : compare S σ op a b = some r) (ha : VIs ρ s.heap a x) (hb' : VIs ρ s.heap b y) (h : Out1 ρ s (.at (.bool r)) Q) :
    wpAny (model prog w) A (compareOp op x y) Q E s := by
  have done : ∀ {r'} (tk : Tok), r' = r → Q (.bool r') { s with toks := tk } := fun tk q => out_tok h (by rw [q]; rfl)
  cases op with
  | Eq =>
    simp only [compare] at e
    split at e
    · rename_i a b
      cases a with
      | int a => cases b <;> first | (cases e; done) | skip
                 obtain ⟨t, rfl⟩ := ha; obtain ⟨u, rfl⟩ := hb'
                 cases e
                 exact eq_int (done s.toks (by rw [Bool.eq_iff_iff]; simp))
      | str a => cases b <;> first | (cases e; done) | skip
                 obtain ⟨t, rfl⟩ := ha; obtain ⟨u, rfl⟩ := hb'
                 cases e
                 exact P.eq_str (done s.toks (by rw [lstr_list, lstr_list, Bool.eq_iff_iff]; simp))
      | bool a => cases b <;> first | (cases e; done) | skip
                  cases ha; cases hb'
                  cases e
                  exact eq_bool (done s.toks rfl)
      | none => cases e
    · rename_i l i
      obtain ⟨l2, h2, e7⟩ := Option.bind_eq_some_iff.mp e
      obtain ⟨ss, h3, e8⟩ := Option.bind_eq_some_iff.mp e7
      obtain ⟨ts, h4, e9⟩ := Option.map_eq_some_iff.mp e8
      obtain ⟨a1, vs, rfl, _, hl, av⟩ := ha
      obtain ⟨a2, q2, rfl⟩ := hb'
      obtain ⟨ws, n, g2, aw⟩ := R.lists _ _ _ h2 q2
      have hl2 : s.heap.IsList a2 ws := ⟨_, g2, rfl, _, rfl⟩
      have e1 := strsOf_get h3
      have e2 := strsOf_get h4
      subst e1 e2
      have n1 := av.length
      have n2 := aw.length
      simp only [List.length_map, Array.length_toList] at n1 n2
      by_cases hz : ss.length = ts.length
      · refine SeqAt.eq_listAt (e := fun j => decide (ss[j]? = ts[j]?)) hl hl2 (by rw [List.size_toArray]; omega) hu (fun j h1 h2' => ?_) ?_
        · obtain ⟨a, b, t, u, e3, e4, e5, e6⟩ := all_strs av aw hz j (by simpa using h1) (by simpa using h2')
          have e4' : ws[j] = Value.str (lstr b) u := by rw [← e4]; simp
          have e3' : vs.toArray[j] = Value.str (lstr a) t := by rw [← e3]; simp
          rw [e3', e4', e5, e6]
          have := (SeqRoads2.EqGives.str (lstr a) (lstr b) t u).at A.in1 s
          rw [lstr_list, lstr_list] at this
          rw [show decide (some a = some b) = (a == b) from by rw [Bool.eq_iff_iff]; simp]
          exact this
        · refine done s.toks ?_
          rw [← e9, Bool.eq_iff_iff]
          simp only [List.all_eq_true, List.mem_range, decide_eq_true_eq, List.size_toArray]
          constructor
          · intro q
            refine List.ext_getElem? fun j => ?_
            by_cases hj : j < vs.length
            · exact q j hj
            · rw [List.getElem?_eq_none (by omega), List.getElem?_eq_none (by omega)]
          · rintro rfl j _; rfl
      · refine SeqAt.eq_list_lengthsAt hl hl2 (by rw [List.size_toArray, bne_iff_ne]; omega) hu (done s.toks ?_)
        rw [← e9]
        simp only [Bool.false_eq, decide_eq_false_iff_not]
        rintro rfl; exact hz rfl
    · cases e
  | NotEq =>
    simp only [compare] at e
    split at e
    · rename_i a b
      cases a with
      | int a => cases b <;> first | (cases e; done) | skip
                 obtain ⟨t, rfl⟩ := ha; obtain ⟨u, rfl⟩ := hb'
                 cases e
                 exact ne_int (done s.toks (by rw [Bool.eq_iff_iff]; simp))
      | str a => cases b <;> first | (cases e; done) | skip
                 obtain ⟨t, rfl⟩ := ha; obtain ⟨u, rfl⟩ := hb'
                 cases e
                 exact P.ne_str (done s.toks (by rw [lstr_list, lstr_list, Bool.eq_iff_iff]; simp))
      | bool a => cases b <;> first | (cases e; done) | skip
                  cases ha; cases hb'
                  cases e
                  exact ne_bool (done s.toks rfl)
      | none => cases e
    · cases e
  | Lt =>
    simp only [compare] at e
    split at e
    · cases e; obtain ⟨t, rfl⟩ := ha; obtain ⟨u, rfl⟩ := hb'; exact lt_int (done s.toks rfl)
    · cases e
  | LtE =>
    simp only [compare] at e
    split at e
    · cases e; obtain ⟨t, rfl⟩ := ha; obtain ⟨u, rfl⟩ := hb'; exact le_int (done s.toks rfl)
    · cases e
  | Gt =>
    simp only [compare] at e
    split at e
    · cases e; obtain ⟨t, rfl⟩ := ha; obtain ⟨u, rfl⟩ := hb'; exact gt_int (done s.toks rfl)
    · cases e
  | GtE =>
    simp only [compare] at e
    split at e
    · cases e; obtain ⟨t, rfl⟩ := ha; obtain ⟨u, rfl⟩ := hb'; exact ge_int (done s.toks rfl)
    · cases e
  | In =>
    simp only [compare] at e
    split at e
    · cases e; obtain ⟨t, rfl⟩ := ha; obtain ⟨u, rfl⟩ := hb'; exact P.in_str (done s.toks rfl)
    · rename_i x l
      obtain ⟨ss, h3, e9⟩ := Option.map_eq_some_iff.mp e
      obtain ⟨t, rfl⟩ := ha
      obtain ⟨a1, vs, rfl, _, hl, av⟩ := hb'
      have e1 := strsOf_get h3
      subst e1
      refine SeqInW.in_listW (strIs x) (fun y hy => ?_) hl (done s.toks ?_)
      · obtain ⟨z, u, rfl, _⟩ := strs_values av y (by simpa using hy)
        have := SeqRoads2.EqGives.str (lstr z) (lstr x) u t
        rw [lstr_list x] at this
        exact this
      · rw [← e9, ← any_strs av x]; simp
    · rename_i x sA
      split at e
      · rename_i q; cases e
        obtain ⟨t, rfl⟩ := ha
        cases hb'
        obtain ⟨n, hS⟩ := B.set
        subst q
        refine wpAny_inSet_of (k := lstr x) (by simp [PySem.strKind, Value.isStrOf]) rfl (setOf_keeps hS k) (done _ ?_)
        rw [lstr_list]
      · cases e
    · cases e
  | NotIn =>
    simp only [compare] at e
    split at e
    · rename_i x sA
      split at e
      · rename_i q; cases e
        obtain ⟨t, rfl⟩ := ha
        cases hb'
        obtain ⟨n, hS⟩ := B.set
        subst q
        refine wpAny_notInSet_of (k := lstr x) (by simp [PySem.strKind, Value.isStrOf]) rfl (setOf_keeps hS k) (done _ ?_)
        rw [lstr_list]
      · cases e
    · cases e
  | _ => cases e
end
end Ind
set_option maxRecDepth 100000
set_option Elab.async false
namespace Ind
open PySem PySem.W PySem.Calls PyProof.Rows
theorem ofVal_is (ρ : Rho) (h : Heap) (v : Value) : VIs ρ h (ofVal v) v := by
  cases v with
  | str s t => exact ⟨t, by rw [lstr_of]⟩
  | int i t => exact ⟨t, rfl⟩
  | none => rfl
  | bool b => rfl
  | _ => rfl
theorem seqIndex_of {i : Int} {n k : Nat} (e : seqIndex? i n = some k) : k < n ∧ ((0 ≤ i ∧ k = i.toNat) ∨ (i < 0 ∧ -(n : Int) ≤ i ∧ k = (i + n).toNat)) := by
  unfold seqIndex? at e
  dsimp only at e
  by_cases hi : i < 0
  · rw [if_pos hi] at e
    by_cases q : (decide (0 ≤ i + (n : Int)) && decide (i + (n : Int) < n)) = true
    · rw [if_pos q] at e
      simp only [Bool.and_eq_true, decide_eq_true_eq] at q
      have e := Option.some.inj e
      exact ⟨by omega, .inr ⟨hi, by omega, e.symm⟩⟩
    · rw [if_neg q] at e; cases e
  · rw [if_neg hi] at e
    by_cases q : (decide (0 ≤ i) && decide (i < (n : Int))) = true
    · rw [if_pos q] at e
      simp only [Bool.and_eq_true, decide_eq_true_eq] at q
      have e := Option.some.inj e
      exact ⟨by omega, .inl ⟨by omega, e.symm⟩⟩
    · rw [if_neg q] at e; cases e
section
variable {prog : Program} {w : World} {A : Around} {E : Value → Shared → Prop} {s : Shared} {ρ : Rho} {Q : Value → Shared → Prop}
theorem subscripted_plain {e : Expr} (h : ∀ a b c p, e ≠ .Slice a b c p) (o i : Value) : subscripted e false o i = operate [o, i] (getItem o i) := by
  cases e <;> first | rfl | exact absurd rfl (h _ _ _ _)
theorem item_list {value slice : Expr} {a : Addr} {its : Array Value} {i : Int} {u : Tok} {k : Nat} {v : Value} (hl : s.heap.IsList a its) (hz : its.size ≤ big) (he : seqIndex? i its.size = some k) (hv : its[k]? = some v)
    (hs : ∀ a b c p, slice ≠ .Slice a b c p) (h : Q v s) : wpAny (model prog w) A (subscriptTail value slice (.ref a) (.int i u)) Q E s := by
  obtain ⟨h1, h2⟩ := seqIndex_of he
  have hb : big = 100000 := rfl
  refine tail_any hl.typeIs PySem.slot_list_getitem.lookup ?_ (subscripted_plain hs _ _)
  rcases h2 with ⟨h2, rfl⟩ | ⟨h2, h3, rfl⟩
  · exact wpAny_getItem_list hl h2 (by omega) hv h
  · exact wpAny_getItem_list_neg hl h2 h3 (by omega) hv h
theorem item_strI {value slice : Expr} {l : List Nat} {t u : Tok} {i : Int} {c : Nat} (e : idx l i = some c)
    (hs : ∀ a b c p, slice ≠ .Slice a b c p) (h : Q (.str ⟨#[c]⟩ s.toks) { s with toks := s.toks + 1 }) : wpAny (model prog w) A (subscriptTail value slice (.str (lstr l) t) (.int i u)) Q E s := by
  unfold idx at e
  split at e
  · cases e
  · rename_i hz
    obtain ⟨k, e1, e2⟩ := Option.bind_eq_some_iff.mp e
    obtain ⟨h1, h2⟩ := seqIndex_of e1
    have hb : big = 100000 := rfl
    refine tail_any (typeIs_str s _ t) PySem.F.slot_str_getitem.lookup (P.getItem_str ?_ ?_ h) (subscripted_plain hs _ _)
    · simp only [Bool.or_eq_false_iff, decide_eq_false_iff_not]
      omega
    · rw [lstr_length, e1, Option.bind_some]
      simpa [lstr] using e2
theorem index_wp {C : Addr} {hb : Heap} {S : Sta} {σ : Sto} {value slice : Expr} {v : MV} {x : Value} {i : Int} {u : Tok} {r : MV} (B : Base prog w S hb) (k : hb.StaysIn s.heap) (R : Rep C hb σ ρ s.heap)
    (e : index S σ v i = some r) (hv : VIs ρ s.heap v x) (hs : ∀ a b c p, slice ≠ .Slice a b c p) (h : Out1 ρ s r Q) : wpAny (model prog w) A (subscriptTail value slice x (.int i u)) Q E s := by
  unfold index at e
  split at e
  · rename_i l
    obtain ⟨c, e1, rfl⟩ := Option.map_eq_some_iff.mp e
    obtain ⟨t, rfl⟩ := hv
    exact item_strI e1 hs (out_tok h ⟨_, rfl⟩)
  · rename_i l
    obtain ⟨c, e1, rfl⟩ := Option.map_eq_some_iff.mp e
    obtain ⟨a, vs, rfl, _, hl, ha⟩ := hv
    unfold idx at e1
    split at e1
    · cases e1
    · rename_i hz
      obtain ⟨j, e2, e3⟩ := Option.bind_eq_some_iff.mp e1
      obtain ⟨y, e4, hy⟩ := ha.get e3
      have n1 := ha.length
      exact item_list hl (by rw [List.size_toArray]; omega) (by rw [List.size_toArray, ← n1]; exact e2) (by simpa using e4) hs (out_same h hy)
  · rename_i i'
    obtain ⟨l, e0, e⟩ := Option.bind_eq_some_iff.mp e
    obtain ⟨c, e1, rfl⟩ := Option.map_eq_some_iff.mp e
    obtain ⟨a, q, rfl⟩ := hv
    obtain ⟨vs, n, g, ha⟩ := R.lists _ _ _ e0 q
    have hl : s.heap.IsList a vs := ⟨_, g, rfl, _, rfl⟩
    unfold idx at e1
    split at e1
    · cases e1
    · rename_i hz
      obtain ⟨j, e2, e3⟩ := Option.bind_eq_some_iff.mp e1
      obtain ⟨y, e4, hy⟩ := ha.get e3
      have n1 := ha.length
      have n1 : l.length = vs.size := by simpa using n1
      exact item_list hl (by omega) (by rw [← n1]; exact e2) (by simpa using e4) hs (out_same h hy)
  · rename_i a
    split at e
    · rename_i d items n sl hK
      obtain ⟨y, e1, rfl⟩ := Option.map_eq_some_iff.mp e
      cases hv
      have hl : s.heap.IsList a items := ⟨_, k _ _ (B.K _ _ hK), rfl, _, rfl⟩
      unfold idx at e1
      split at e1
      · cases e1
      · rename_i hz
        obtain ⟨j, e2, e3⟩ := Option.bind_eq_some_iff.mp e1
        rw [Array.length_toList] at e2 hz
        exact item_list hl (by omega) e2 (by simpa using e3) hs (out_same h (ofVal_is _ _ _))
    · cases e
  · cases e
theorem AtsAre.filterMap {l : List At} {vs : List Value} (h : AtsAre l vs) : ∀ is : List Nat, AtsAre (is.filterMap fun k => l[k]?) (is.filterMap fun k => vs[k]?)
  | [] => .nil
  | i :: is => by
    have n := h.length
    cases e : l[i]? with
    | none =>
      have : vs[i]? = none := by rw [List.getElem?_eq_none_iff] at e ⊢; omega
      simp only [List.filterMap_cons, e, this]
      exact AtsAre.filterMap h is
    | some a =>
      obtain ⟨v, e1, e2⟩ := h.get e
      simp only [List.filterMap_cons, e, e1]
      exact .cons e2 (AtsAre.filterMap h is)
theorem pick_range {α : Type} (l : List α) (a b : Nat) (hb : b ≤ l.length) : ((List.range (b - a)).map fun k => a + k).filterMap (fun k => l[k]?) = (l.take b).drop a := by
  have key : ∀ (n a : Nat), a + n ≤ l.length → ((List.range n).map fun k => a + k).filterMap (fun k => l[k]?) = (l.drop a).take n := by
    intro n
    induction n with
    | zero => intro a _; simp
    | succ n ih =>
      intro a h
      rw [List.range_succ_eq_map, List.map_cons, List.map_map, List.filterMap_cons]
      have e : (l[a + 0]?) = some (l[a]'(by omega)) := List.getElem?_eq_getElem (by omega)
      rw [e]
      have e2 : ((fun k => a + k) ∘ Nat.succ) = fun k => (a + 1) + k := by funext k; simp; omega
      rw [e2, ih (a + 1) (by omega)]
      rw [List.drop_eq_getElem_cons (show a < l.length by omega), List.take_succ_cons]
  by_cases hab : a ≤ b
  · rw [key (b - a) a (by omega), List.drop_take]
  · rw [show b - a = 0 by omega]
    simp [List.drop_eq_nil_of_le (show (l.take b).length ≤ a by simp; omega)]
theorem clp_le (n d : Nat) (hd : d ≤ n) (o : Option Int) : clp n d o ≤ n := by
  cases o with
  | none => exact hd
  | some i => simp only [clp]; omega
theorem range_nat (a b : Nat) : sliceRange (a : Int) (b : Int) 1 = (List.range (b - a)).map fun k => a + k := by
  unfold sliceRange
  have h1 : (1 : Int) > 0 := by decide
  simp only [h1, if_true, Int.ediv_one]
  have hc : (if (a : Int) < b then (b : Int) - a + 1 - 1 else 0).toNat = b - a := by split <;> omega
  rw [hc]
  refine List.map_congr_left fun k _ => ?_
  omega
theorem str_indices (lo hi : Option Int) (n : Nat) : Builtin.Str.strSliceIndices lo hi 1 n = (List.range (clp n n hi - clp n 0 lo)).map fun k => clp n 0 lo + k := by
  rw [← range_nat]
  unfold Builtin.Str.strSliceIndices
  have h1 : (1 : Int) > 0 := by decide
  simp only [h1, if_true]
  congr 1
  · cases lo with
    | none => rfl
    | some i => simp only [clp]; omega
  · cases hi with
    | none => rfl
    | some i => simp only [clp]; omega
theorem list_bounds (lo hi : Option Int) (n : Nat) : sliceBounds lo hi none n = ((clp n 0 lo : Int), (clp n n hi : Int), 1) := by
  unfold sliceBounds
  have h1 : (1 : Int) > 0 := by decide
  simp only [Option.getD_none, h1, if_true, Prod.mk.injEq, and_true]
  constructor
  · cases lo with
    | none => rfl
    | some i => simp only [clp]; omega
  · cases hi with
    | none => rfl
    | some i => simp only [clp]; omega
def partOf : Option Int → Tok → Option (Int × Tok)
  | some i, t => some (i, t)
  | none, _ => none
def PartIs : Option Int → Value → Prop
  | none, v => v = .none
  | some i, v => ∃ t, v = .int i t
theorem slice_wp {value : Expr} {lo hi : Option Expr} {p : Pos} {v : MV} {x : Value} {a b : Option Int} {va vb : Value} {c : Addr} {r : MV} (L : Live ρ s.heap) (e : sliceV v a b = some r) (hv : VIs ρ s.heap v x) (ha : PartIs a va) (hb : PartIs b vb)
    (hc : s.heap.get? c = some { cls := .type "slice", dict := none, data := .fields #[va, vb, .none] }) (h : Out1 ρ s r Q) :
    wpAny (model prog w) A (subscriptTail value (.Slice lo hi none p) x (.ref c)) Q E s := by
  have hs : ∀ o, subscripted (.Slice lo hi none p) false o (.ref c) = operate [.ref c, o] (getItem o (.ref c)) := fun _ => rfl
  unfold sliceV at e
  split at e
  · rename_i l
    split at e
    · rename_i q; cases e
      obtain ⟨t, rfl⟩ := hv
      obtain ⟨pa, ea, fa⟩ : ∃ pa : Option (Int × Tok), va = partValue pa ∧ pa.map (·.1) = a := by
        cases a with
        | none => exact ⟨none, ha, rfl⟩
        | some i => obtain ⟨t, e⟩ := ha; exact ⟨some (i, t), e, rfl⟩
      obtain ⟨pb, eb, fb⟩ : ∃ pb : Option (Int × Tok), vb = partValue pb ∧ pb.map (·.1) = b := by
        cases b with
        | none => exact ⟨none, hb, rfl⟩
        | some i => obtain ⟨t, e⟩ := hb; exact ⟨some (i, t), e, rfl⟩
      subst ea eb fa fb
      refine tail_any (typeIs_str s _ t) PySem.F.slot_str_getitem.lookup (wpAny_getItem_str_slice (l := pa) (u := pb) (st := none) ⟨_, hc, rfl, rfl⟩ rfl ?_) (hs _)
      unfold sliceMade
      have ei : slicePicked (lstr l) pa pb none = (List.range (clp l.length l.length (pb.map (·.1)) - clp l.length 0 (pa.map (·.1)))).map fun k => clp l.length 0 (pa.map (·.1)) + k := by
        unfold slicePicked
        rw [lstr_length]
        exact str_indices _ _ _
      have key : (List.filterMap (fun k => (lstr l).cps[k]?) (slicePicked (lstr l) pa pb none)) = slc l (pa.map (·.1)) (pb.map (·.1)) := by
        rw [ei]
        unfold slc
        rw [← pick_range l _ _ (clp_le _ _ (Nat.le_refl _) _)]
        show List.filterMap (fun k => l.toArray[k]?) _ = _
        simp
      have b1 := clp_le l.length l.length (Nat.le_refl _) (pb.map (·.1))
      have b2 := clp_le l.length 0 (Nat.zero_le _) (pa.map (·.1))
      split
      · rename_i whole
        simp only [Bool.and_eq_true, beq_iff_eq, ei, List.length_map, List.length_range, lstr_length] at whole
        refine out_tok h (tk := s.toks) ⟨t, ?_⟩
        congr 2
        unfold slc
        by_cases hz : l.length = 0
        · rw [List.eq_nil_of_length_eq_zero hz]; simp
        · rw [show clp l.length 0 (pa.map (·.1)) = 0 by omega, show clp l.length l.length (pb.map (·.1)) = l.length by omega]; simp
      · show (_ : Nat) ≤ _ ∧ _
        refine ⟨?_, out_tok h (tk := s.toks + 1) ⟨_, by show Value.str ⟨(List.filterMap (fun k => (lstr l).cps[k]?) (slicePicked (lstr l) pa pb none)).toArray⟩ _ = _; rw [key]; rfl⟩⟩
        show (List.filterMap (fun k => (lstr l).cps[k]?) (slicePicked (lstr l) pa pb none)).toArray.size ≤ _
        rw [key, List.size_toArray]
        unfold slc
        have := Nat.le_trans q.1 big_le
        simp only [List.length_drop, List.length_take]
        omega
    · cases e
  · rename_i l
    split at e
    · rename_i q; cases e
      obtain ⟨a1, vs, rfl, _, hl, av⟩ := hv
      have n1 := av.length
      refine tail_any hl.typeIs PySem.slot_list_getitem.lookup (wpAny_getItem_list_slice (vs := .none) (lo := a) (hi := b) (st := none) hl ⟨_, hc, rfl, rfl⟩ ?_ ?_ .none (by simp) (out_list L (l := slc l a b) (vs := slc vs a b) ?_ h ?_) ?_) (hs _)
      · cases a with
        | none => cases ha; exact .none
        | some i => obtain ⟨t, rfl⟩ := ha; exact .int _ _
      · cases b with
        | none => cases hb; exact .none
        | some i => obtain ⟨t, rfl⟩ := hb; exact .int _ _
      · unfold slc
        rw [n1]
        exact (av.take _).drop _
      · unfold slicePick slc
        rw [List.size_toArray, list_bounds, range_nat, ← pick_range vs _ _ (clp_le _ _ (Nat.le_refl _) _)]
        simp
      · rw [List.size_toArray, ← n1]; exact Nat.le_trans q.1 big_le
    · cases e
  · cases e
end
end Ind
set_option maxRecDepth 100000
set_option Elab.async false
namespace Ind
open PySem PySem.W PySem.Calls PyProof.Rows
inductive VAll (ρ : Rho) (h : Heap) : List MV → List Value → Prop
  | nil : VAll ρ h [] []
  | cons {v vs x xs} : VIs ρ h v x → VAll ρ h vs xs → VAll ρ h (v :: vs) (x :: xs)
theorem sumOf_ints : ∀ {l : List At} {vs : List Value} {n : Int}, AtsAre l vs → sumOf l = some n → ∃ xs : Array (Int × Tok), vs.toArray = intItems xs ∧ (xs.toList.map (·.1)).sum = n
  | [], _, n, .nil, e => by cases e; exact ⟨#[], by simp [intItems], rfl⟩
  | a :: r, _, n, .cons h t, e => by
    cases a with
    | int i =>
      obtain ⟨m, hm, rfl⟩ := Option.map_eq_some_iff.mp e
      obtain ⟨xs, e1, e2⟩ := sumOf_ints t hm
      obtain ⟨u, rfl⟩ := h
      refine ⟨((i, u) :: xs.toList).toArray, ?_, by simp [e2]⟩
      have e3 : _ = (intItems xs).toList := congrArg Array.toList e1
      simp only [intItems] at e3 ⊢
      simp at e3 ⊢
      exact e3
    | _ => cases e
theorem boolsOf_get : ∀ {l : List At} {bs : List Bool}, boolsOf l = some bs → l = bs.map .bool
  | [], _, e => by cases e; rfl
  | a :: r, _, e => by
    cases a with
    | bool b =>
      obtain ⟨m, hm, rfl⟩ := Option.map_eq_some_iff.mp e
      rw [boolsOf_get hm]; rfl
    | _ => cases e
theorem bools_vals : ∀ {bs : List Bool} {vs : List Value}, AtsAre (bs.map .bool) vs → vs = bs.map .bool
  | [], _, .nil => rfl
  | b :: r, _, .cons h t => by rw [bools_vals t]; cases h; rfl
section
variable {prog : Program} {w : World} {A : Around} {E : Value → Shared → Prop} {s : Shared} {ρ : Rho} {Q : Value → Shared → Prop}
theorem len_wp {C : Addr} {hb : Heap} {S : Sta} {σ : Sto} {v : MV} {x : Value} {r : Int} (B : Base prog w S hb) (k : hb.StaysIn s.heap) (R : Rep C hb σ ρ s.heap)
    (e : lenOf S σ v = some r) (hv : VIs ρ s.heap v x) (h : Out1 ρ s (.at (.int r)) Q) : wpAny (model prog w) A (call (.builtin "len") [x]) Q E s := by
  have hb' : big = 100000 := rfl
  unfold lenOf at e
  split at e
  · rename_i l
    split at e
    · rename_i q; cases e
      obtain ⟨t, rfl⟩ := hv
      refine P.len_str (by rw [lstr_length]; omega) (out_tok h ⟨s.toks + 1, by rw [lstr_length]⟩)
    · cases e
  · rename_i l
    split at e
    · rename_i q; cases e
      obtain ⟨a, vs, rfl, _, hl, ha⟩ := hv
      have n1 := ha.length
      exact Calls.call_len_list hl (by rw [List.size_toArray]; omega) (out_tok h ⟨s.toks + 1, by rw [List.size_toArray, n1]⟩)
    · cases e
  · rename_i i
    obtain ⟨l, e0, e1⟩ := Option.bind_eq_some_iff.mp e
    split at e1
    · rename_i q; cases e1
      obtain ⟨a, qa, rfl⟩ := hv
      obtain ⟨vs, n, g, ha⟩ := R.lists _ _ _ e0 qa
      have n1 : l.length = vs.size := by simpa using ha.length
      exact Calls.call_len_list (items := vs) ⟨_, g, rfl, _, rfl⟩ (by omega) (out_tok h ⟨s.toks + 1, by rw [n1]⟩)
    · cases e1
  · rename_i a
    split at e
    · rename_i d items n sl hK
      split at e
      · rename_i q; cases e
        cases hv
        exact Calls.call_len_list (items := items) ⟨_, k _ _ (B.K _ _ hK), rfl, _, rfl⟩ (by omega) (out_tok h ⟨s.toks + 1, rfl⟩)
      · cases e
    · cases e
  · cases e
theorem any_wp {a : Addr} {bs : List Bool} (hh : A.handled = none) (hl : s.heap.IsList a (bs.map Value.bool).toArray) (h : Out1 ρ s (.at (.bool (bs.any fun b => b))) Q) :
    wpAny (model prog w) A (call (.builtin "any") [.ref a]) Q E s := by
  have hlt : a < s.heap.objs.size := by obtain ⟨_, e, _⟩ := hl; exact Heap.lt_size e
  refine call_any_walk (wpAny_pyIter_list hl ?_)
  refine ⟨_, _, _, _, _, _, fun i => bs.getD i false, rfl, Walks.list (A := A.in1) hh _ a (Nat.ne_of_lt hlt) (bs.map Value.bool).toArray, ⟨⟨_, Heap.get?_push_size _ rfl, rfl, rfl⟩, hl.push _⟩, ?_, fun h' tk hk => ?_⟩
  · intro i v s Q E hP hQ
    have : ∃ b, bs[i]? = some b ∧ v = .bool b := by
      have hP : ((bs.map Value.bool).toArray)[i]? = some v := hP
      simp only [List.getElem?_toArray, List.getElem?_map, Option.map_eq_some_iff] at hP
      obtain ⟨b, e1, e2⟩ := hP
      exact ⟨b, e1, e2.symm⟩
    obtain ⟨b, e1, rfl⟩ := this
    refine wpAny_truthy_bool ?_
    have hQ : Q (bs.getD i false) s := hQ
    rwa [List.getD_eq_getElem?_getD, e1, Option.getD_some] at hQ
  · have e : ((List.range (bs.map Value.bool).toArray.size).any fun i => bs.getD i false) = bs.any fun b => b := by
      rw [Bool.eq_iff_iff]
      simp only [List.any_eq_true, List.mem_range, List.size_toArray, List.length_map]
      constructor
      · rintro ⟨i, h1, h2⟩
        rw [List.getD_eq_getElem?_getD, List.getElem?_eq_getElem h1] at h2
        exact ⟨_, List.getElem_mem h1, h2⟩
      · rintro ⟨b, h1, h2⟩
        obtain ⟨i, h3, rfl⟩ := List.getElem_of_mem h1
        exact ⟨i, h3, by rw [List.getD_eq_getElem?_getD, List.getElem?_eq_getElem h3]; exact h2⟩
    rw [e]
    exact h _ h' tk (fun b o eb => hk b o (fun q => by rw [List.mem_singleton.mp q] at eb; exact absurd (Heap.lt_size eb) (Nat.lt_irrefl _)) (Heap.get?_push_of_some _ eb)) rfl
theorem builtin1_wp {C : Addr} {hb : Heap} {S : Sta} {σ : Sto} {id : String} {vs : List MV} {xs : List Value} {r : MV} (B : Base prog w S hb) (k : hb.StaysIn s.heap) (R : Rep C hb σ ρ s.heap) (hh : A.handled = none)
    (e : builtin1 S σ id vs = some r) (hv : VAll ρ s.heap vs xs) (h : Out1 ρ s r Q) : wpAny (model prog w) A (call (.builtin id) xs) Q E s := by
  unfold builtin1 at e
  split at e
  · obtain ⟨i, e1, rfl⟩ := Option.map_eq_some_iff.mp e
    cases hv with
    | cons v1 t => cases t; exact len_wp B k R e1 v1 h
  · cases e
    cases hv with
    | cons v1 t =>
      cases t with
      | cons v2 t =>
        cases t
        obtain ⟨t, rfl⟩ := v1
        obtain ⟨u, rfl⟩ := v2
        refine min_two_ints hh fun h' tk hk => ?_
        split
        · rename_i q; exact h _ _ _ hk ⟨u, by rw [if_pos q]⟩
        · rename_i q; exact h _ _ _ hk ⟨t, by rw [if_neg q]⟩
  · cases e
    cases hv with
    | cons v1 t =>
      cases t
      obtain ⟨t, rfl⟩ := v1
      exact P.ord_of_char (out_tok h ⟨_, rfl⟩)
  · obtain ⟨i, e1, rfl⟩ := Option.map_eq_some_iff.mp e
    cases hv with
    | cons v1 t =>
      cases t
      obtain ⟨a, vs, rfl, _, hl, av⟩ := v1
      obtain ⟨xs, e2, e3⟩ := sumOf_ints av e1
      refine sum_intListG hh (e2 ▸ hl) fun h' tk t' hk => h _ _ _ hk ⟨t', ?_⟩
      rw [preSum_eq, List.take_of_length_le (by simp), e3]
  · obtain ⟨bs, e1, rfl⟩ := Option.map_eq_some_iff.mp e
    cases hv with
    | cons v1 t =>
      cases t
      obtain ⟨a, vs, rfl, _, hl, av⟩ := v1
      have e2 := boolsOf_get e1
      subst e2
      have e3 := bools_vals av
      subst e3
      exact any_wp hh hl h
  · cases e
end
end Ind
set_option maxRecDepth 100000
set_option Elab.async false
namespace Ind
open PySem PySem.W PySem.Calls PyProof.Rows
structure ClsFacts (K : Frag) (C : Addr) (fields : List Str) : Prop where
  ga : findIn K (.ref C) "__getattribute__" = some (some (.builtin "object.__getattribute__"))
  gt : findIn K (.ref C) "__getattr__" = some none
  sa : findIn K (.ref C) "__setattr__" = some (some (.builtin "object.__setattr__"))
  hd : hasDictIn K C = true
  po : plainOver K C = true
  taker : ∀ x ∈ fields, takerIn K C x = some none
  attr : ∀ x ∈ fields, ∃ a, findIn K (.ref C) x = some a ∧ noGet K a = true
theorem clsFacts {K : Frag} {C : Addr} {fields : List Str} (h : clsOk K C fields = true) : ClsFacts K C fields := by
  unfold clsOk at h
  simp only [Bool.and_eq_true, beq_iff_eq, List.all_eq_true] at h
  obtain ⟨⟨⟨⟨⟨h1, h2⟩, h3⟩, h4⟩, h5⟩, h6⟩ := h
  refine ⟨h1, h2, h3, h4, h5, fun x hx => (h6 x hx).1, fun x hx => ?_⟩
  have := (h6 x hx).2
  split at this
  · rename_i a e; exact ⟨a, e, this⟩
  · cases this
theorem atIs_handed {a : At} {v : Value} (h : AtIs a v) : handedIn v = true := by
  cases a with
  | none => cases h; rfl
  | bool b => cases h; rfl
  | int i => obtain ⟨t, rfl⟩ := h; rfl
  | str l => obtain ⟨t, rfl⟩ := h; rfl
theorem isStr_iff {v : Value} {x : Str} : v.isStr x = true ↔ ∃ t, v = .str x t := by
  cases v with
  | str s t =>
    constructor
    · intro h
      have h : (s == x) = true := h
      exact ⟨t, by rw [beq_iff_eq.mp h]⟩
    · rintro ⟨t', e⟩
      cases e
      exact beq_self_eq_true x
  | _ => exact ⟨fun h => (nomatch h), fun ⟨_, e⟩ => (nomatch e)⟩
theorem isStr_other {v : Value} {x y : Str} (h : v.isStr x = true) : v.isStr y = decide (y = x) := by
  obtain ⟨t, rfl⟩ := isStr_iff.mp h
  by_cases q : y = x
  · subst q; rw [h]; simp
  · rw [decide_eq_false q]
    cases e : (Value.str x t).isStr y with
    | false => rfl
    | true => obtain ⟨_, e⟩ := isStr_iff.mp e; cases e; exact absurd rfl q
theorem isStr_self (x : Str) (t : Tok) : (Value.str x t).isStr x = true := isStr_iff.mpr ⟨t, rfl⟩
theorem put_find (name : Str) (hsh : Int) (tk : Tok) (v : Value) (y : Str) : ∀ es : List DictEntry, (putL name hsh (.str name tk) v es).find? (·.key.isStr y) =
    if y = name then (match es.find? (·.key.isStr y) with | some e => some ⟨e.hash, e.key, v⟩ | none => some ⟨hsh, .str name tk, v⟩) else es.find? (·.key.isStr y)
  | [] => by
    show List.find? (fun e : DictEntry => e.key.isStr y) [⟨hsh, .str name tk, v⟩] = _
    rw [List.find?_cons]
    dsimp only
    rw [isStr_other (isStr_self name tk)]
    by_cases q : y = name
    · rw [if_pos q, decide_eq_true q]; rfl
    · rw [if_neg q, decide_eq_false q]
  | e :: r => by
    have ih := put_find name hsh tk v y r
    unfold putL
    by_cases c : e.key.isStr name = true
    · rw [if_pos c, List.find?_cons, List.find?_cons]
      dsimp only
      rw [isStr_other (y := y) c]
      by_cases q : y = name
      · rw [if_pos q, decide_eq_true q]
      · rw [if_neg q, decide_eq_false q]
    · rw [if_neg c, List.find?_cons, List.find?_cons, ih]
      cases hc : e.key.isStr y with
      | true =>
        have q : y ≠ name := fun q => c (q ▸ hc)
        show some e = if y = name then _ else some e
        rw [if_neg q]
      | false => rfl
theorem put_any (name : Str) (hsh : Int) (tk : Tok) (v : Value) : ∀ es : List DictEntry, (putL name hsh (.str name tk) v es).any (·.refKey) = es.any (·.refKey)
  | [] => rfl
  | e :: r => by
    unfold putL
    by_cases c : e.key.isStr name = true
    · rw [if_pos c]; rfl
    · rw [if_neg c, List.any_cons, List.any_cons, put_any name hsh tk v r]
theorem getL_put (name : Str) (hsh : Int) (tk : Tok) (v : Value) (y : Str) (es : List DictEntry) :
    getL y (putL name hsh (.str name tk) v es) = if y = name then some (some v) else getL y es := by
  unfold getL
  rw [put_find, put_any]
  by_cases q : y = name
  · rw [if_pos q, if_pos q]
    cases List.find? (fun x : DictEntry => x.key.isStr y) es <;> rfl
  · rw [if_neg q, if_neg q]
theorem putL_len (name : Str) (hsh : Int) (key v : Value) : ∀ es : List DictEntry, (putL name hsh key v es).length = if es.any (·.key.isStr name) = true then es.length else es.length + 1
  | [] => rfl
  | e :: r => by
    have ih := putL_len name hsh key v r
    unfold putL
    rw [List.any_cons]
    by_cases c : e.key.isStr name = true
    · rw [if_pos c, c, Bool.true_or, if_pos rfl]; rfl
    · rw [if_neg c, Bool.eq_false_iff.mpr c, Bool.false_or, List.length_cons, ih]
      by_cases d : r.any (fun x => x.key.isStr name) = true
      · rw [if_pos d, if_pos d]; rfl
      · rw [if_neg d, if_neg d]; rfl
theorem getL_any {x : Str} {es : List DictEntry} (h : getL x es = some none) : es.any (·.key.isStr x) = false := by
  unfold getL at h
  split at h
  · cases h
  · rename_i e
    rw [Bool.eq_false_iff]
    intro q
    obtain ⟨a, ha, hb⟩ := List.any_eq_true.mp q
    have := List.find?_eq_none.mp e a ha
    exact this hb
theorem getL_any' {x : Str} {es : List DictEntry} {v : Value} (h : getL x es = some (some v)) : es.any (·.key.isStr x) = true := by
  unfold getL at h
  split at h
  · rename_i e he; exact List.any_eq_true.mpr ⟨e, List.mem_of_find?_eq_some he, List.find?_some (p := fun y : DictEntry => y.key.isStr x) he⟩
  · split at h <;> cases h
theorem instAt {C a d : Addr} {h : Heap} {cnt : Nat} {f : Str → Option At} (X : StemAt C h a d cnt f) : ∃ es n, InstAt h a ⟨.ref C, some d, .plain, #[]⟩ C (some (dictOf es n)) ∧ h.get? d = some (dictOf es n) ∧ es.length ≤ cnt ∧ ∀ x, GetIs (f x) (getL x es) := by
  obtain ⟨es, n, e1, e2, e3⟩ := X.dict
  exact ⟨es, n, ⟨X.obj, rfl, rfl, e1⟩, e1, e2, e3⟩
section
variable {prog : Program} {w : World} {A : Around} {E : Value → Shared → Prop} {s : Shared} {ρ : Rho}
theorem self_stem {C : Addr} {hb : Heap} {σ : Sto} {h : Heap} {x : Value} (R : Rep C hb σ ρ h) (hv : VIs ρ h .self x) : ∃ a d, x = .ref a ∧ ρ.st = some (a, d) ∧ σ.on = true ∧ StemAt C h a d σ.cnt σ.f := by
  obtain ⟨a, d, e, rfl⟩ := hv
  have q := R.stem
  rw [e] at q
  exact ⟨a, d, rfl, e, q.1, q.2⟩
theorem self_get {S : Sta} {hb : Heap} {σ : Sto} {name : Str} {x : Value} {a : At} {expr : Bool} {Q : Value → Shared → Prop} (B : Base prog w S hb) (k : hb.StaysIn s.heap) (R : Rep S.C hb σ ρ s.heap) (hn : name ∈ S.fields)
    (e : σ.f name = some a) (hv : VIs ρ s.heap .self x) (h : Out1 ρ s (.at a) Q) : wpAny (model prog w) A (getAttr x name expr) Q E s := by
  obtain ⟨p, d, rfl, _, _, X⟩ := self_stem R hv
  obtain ⟨es, n, I, _, _, g⟩ := instAt X
  have CF := clsFacts B.cls
  have KX : S.K.In s.heap := B.K.keeps k
  obtain ⟨attr, e1, e2⟩ := CF.attr name hn
  have g1 := g name
  rw [e] at g1
  obtain ⟨v, g2, g3⟩ := g1
  exact get_value KX I CF.ga (findObj_own CF.hd e1 e2 (by rw [lookIn_dict]; exact g2)) (atIs_handed g3) (out_tok h g3)
theorem osa_raw {K : Frag} {C x dx : Addr} {es : List DictEntry} {n : Nat} {name : Str} {tk : Tok} {v : Value} {R : Result → Shared → Prop} (X : K.In s.heap)
    (I : InstAt s.heap x ⟨.ref C, some dx, .plain, #[]⟩ C (some (dictOf es n))) (D : s.heap.get? dx = some (dictOf es n)) (hp : plainOver K C = true) (ht : takerIn K C name = some none) (hh : (clsIn K C).any (·.hasDict) = true)
    (hl : (getL name es).isSome = true) (hz : es.length ≤ 1000)
    (h : R (.ok (.ret .none)) { s with heap := s.heap.update dx (Obj.putName name (PyData.keyHash w.params name) (.str name s.toks) v), toks := s.toks + 1 }) :
    codeAny (model prog w) A (.call (.builtin "object.__setattr__") ⟨[.ref x, .str name tk, v], []⟩) R s := by
  refine osa_open X I hp ht fun b => ?_
  obtain ⟨cd, hc, hd'⟩ := any_some hh
  obtain ⟨hx, hcl, hn, -⟩ := I
  have e' : (Obj.putName name (PyData.keyHash w.params name) (.str name s.toks) v (dictOf es n)) = dictOf (putL name (PyData.keyHash w.params name) (.str name s.toks) v es) (putN name es n) := putName_dict _ _ _ _ _ _
  have D' : (s.heap.update dx (Obj.putName name (PyData.keyHash w.params name) (.str name s.toks) v)).get? dx = some (dictOf (putL name (PyData.keyHash w.params name) (.str name s.toks) v es) (putN name es n)) := by
    rw [Heap.get?_update_self _ D (by rw [e']; rfl), e']
  refine wpAny_bind (wpAny_pure (wpAny_bind (wpAny_bind (wpAny_loadPart hx (wpAny_bind ((looks_clsIn X hc).here ?_))))))
  rw [hd']
  refine wpAny_pure (a := some dx) (wpAny_bind (wpAny_pure (wpAny_bind ?_)))
  unfold nsSet
  refine wpAny_bind (wpAny_bind (wpAny_askSetting (wpAny_pure (wpAny_bind (wpAny_mkText (wpAny_bind (wpAny_loadPart D ?_)))))))
  unfold getL at hl
  dsimp only
  have c : (!es.toArray.any (·.key.isStr name) && es.toArray.any (·.refKey)) = false := by
    rw [← Array.any_toList, ← Array.any_toList]
    show (!es.any (·.key.isStr name) && es.any (·.refKey)) = false
    split at hl
    · rename_i en he
      rw [List.any_eq_true.mpr ⟨en, List.mem_of_find?_eq_some he, List.find?_some (p := fun y : DictEntry => y.key.isStr name) he⟩]; rfl
    · split at hl
      · cases hl
      · rename_i z; rw [Bool.not_eq_true] at z; rw [z, Bool.and_false]
  rw [aRefKeyMayBeTheName_at, c]
  refine wpAny_updatePart D ?_
  refine wpAny_bind (wpAny_lookBehind D' (pastItsLine_dict (by rw [List.size_toArray, putL_len, sizeLine_eq]; split <;> omega)) ?_)
  exact wpAny_pure h
end
end Ind
set_option maxRecDepth 100000
set_option Elab.async false
namespace Ind
open PySem PySem.W PySem.Calls PyProof.Rows
section
variable {prog : Program} {w : World} {A : Around} {E : Value → Shared → Prop} {s : Shared} {ρ : Rho}
theorem mu_st {ρ : Rho} {a d : Addr} (e : ρ.st = some (a, d)) : a ∈ ρ.mu ∧ d ∈ ρ.mu := by
  unfold Rho.mu; rw [e]; simp
theorem mu_ls {ρ : Rho} {a : Addr} (h : a ∈ ρ.ls) : a ∈ ρ.mu := List.mem_append_right _ h
theorem Iv.upd {C : Addr} {hb : Heap} {os : OsState} {env : Env} {fr : List Env} {m : Lm} {σ σ' : Sto} (I : Iv C hb os env fr ρ m σ s) {d : Addr} {h' : Heap} {tk : Tok} (hd : d ∈ ρ.mu) (hs : Heap.SameBut d s.heap h')
    (R : Rep C hb σ' ρ h') : Iv C hb os env fr ρ m σ' { s with heap := h', toks := tk } ∧ Stp env fr ρ s.heap h' := by
  have st : Stp env fr ρ s.heap h' := Stp.of_but fun b o _ h2 e => hs.extBut b o (fun q => h2 (q ▸ hd)) e
  have dne : env.locals ≠ d := fun q => I.lmu (q ▸ hd)
  obtain ⟨mv, hn, hl⟩ := I.loc
  have cell : ∀ {c : Addr} {val : Value}, s.heap.IsCell c (some val) → c ≠ d → h'.IsCell c (some val) := fun {c val} q ne => by
    obtain ⟨o, e, dd⟩ := q
    exact ⟨o, (hs.2 c ne).trans e, dd⟩
  have dcell : ∀ {c : Addr} {val : Value}, s.heap.IsCell c (some val) → c ≠ d := by
    rintro c val ⟨o, e, dd⟩ rfl
    have hm := hd
    unfold Rho.mu at hm
    have Rs := I.rep
    rcases List.mem_append.mp hm with hm | hm
    · have q := Rs.stem
      split at hm
      · rename_i x y e'
        rw [e'] at q
        rcases List.mem_cons.mp hm with rfl | hm
        · rw [q.2.obj] at e; cases e; cases dd
        · obtain rfl := List.mem_singleton.mp hm
          obtain ⟨es, n, e1, _⟩ := q.2.dict
          rw [e1] at e; cases e; cases dd
      · cases hm
    · obtain ⟨i, hi, rfl⟩ := List.getElem_of_mem hm
      obtain ⟨vs, n, e1, _⟩ := Rs.lists i _ _ (List.getElem?_eq_getElem (Rs.len ▸ hi)) (List.getElem?_eq_getElem hi)
      rw [e1] at e; cases e; cases dd
  refine ⟨⟨fun b o e => hs.extBut b o (fun q => ?_) (I.base b o e), R, ⟨mv, hn.sameBut hs dne, fun x v e => ?_⟩, I.lnew, I.lmu, fun e he => ?_, I.gens, I.os⟩, st⟩
  · have := I.rep.new d hd
    rw [← q, e] at this; cases this
  · have q := hl x v e
    unfold Holds at q ⊢
    split at q
    · obtain ⟨u, e1, e2⟩ := q; exact ⟨u, e1, VIs.step hn st e2⟩
    · obtain ⟨c, u, e1, e2, e3⟩ := q; exact ⟨c, u, e1, cell e2 (dcell e2), VIs.step hn st e3⟩
    · obtain ⟨c, u, e1, e2, e3⟩ := q; exact ⟨c, u, e1, cell e2 (dcell e2), VIs.step hn st e3⟩
    · trivial
  · obtain ⟨hk, L, o, es, ep, e1, e2, e3, e4, e5⟩ := I.frs e he
    exact ⟨hk, L, o, es, ep, e1, e2, (hs.2 L fun q => e5 (by rw [q]; exact hd)).trans e3, e4, e5⟩
theorem self_set {S : Sta} {hb : Heap} {os : OsState} {env : Env} {fr : List Env} {m : Lm} {σ σ' : Sto} {name : Str} {x v : Value} {a : At} {Q : Unit → Shared → Prop} (B : Base prog w S hb) (I : Iv S.C hb os env fr ρ m σ s)
    (hn : name ∈ S.fields) (e : σ.put name a = some σ') (hv : VIs ρ s.heap .self x) (ha : AtIs a v)
    (h : ∀ h' tk, Iv S.C hb os env fr ρ m σ' { s with heap := h', toks := tk } → Stp env fr ρ s.heap h' → Q () { s with heap := h', toks := tk }) : wpAny (model prog w) A (setAttr x name v) Q E s := by
  obtain ⟨p, d, rfl, est, hon, X⟩ := self_stem I.rep hv
  obtain ⟨es, n, J, D, hz, g⟩ := instAt X
  have CF := clsFacts B.cls
  have KX : S.K.In s.heap := B.K.keeps I.base
  unfold Sto.put at e
  split at e
  · rename_i hc; cases e
    have gs : ∀ y, (getL y es).isSome = true := fun y => by
      have := g y
      unfold GetIs at this
      split at this
      · obtain ⟨u, e1, _⟩ := this; rw [e1]; rfl
      · rw [this]; rfl
    refine set_plain KX J CF.sa (osa_raw (s := { s with toks := s.toks + 1 }) KX J D CF.po (CF.taker name hn) CF.hd (gs name) (by omega) ?_)
    obtain ⟨ma, md⟩ := mu_st est
    have hs := Heap.SameBut.update s.heap d (Obj.putName name (PyData.keyHash w.params name) (.str name (s.toks + 1)) v)
    have e' : (Obj.putName name (PyData.keyHash w.params name) (.str name (s.toks + 1)) v (dictOf es n)) = dictOf (putL name (PyData.keyHash w.params name) (.str name (s.toks + 1)) v es) (putN name es n) := putName_dict _ _ _ _ _ _
    have D' : (s.heap.update d (Obj.putName name (PyData.keyHash w.params name) (.str name (s.toks + 1)) v)).get? d = some (dictOf (putL name (PyData.keyHash w.params name) (.str name (s.toks + 1)) v es) (putN name es n)) := by
      rw [Heap.get?_update_self _ D (by rw [e']; rfl), e']
    have Rp := I.rep
    have nd := Rp.nodup
    have pd : p ≠ d := by
      unfold Rho.mu at nd; rw [est] at nd
      have := (List.nodup_append.mp nd).1
      simp at this; exact this
    have R' : Rep S.C hb { σ with f := (fun y => if y = name then some a else σ.f y), cnt := if (σ.f name).isSome = true then σ.cnt else σ.cnt + 1 } ρ (s.heap.update d (Obj.putName name (PyData.keyHash w.params name) (.str name (s.toks + 1)) v)) := by
      refine ⟨?_, Rp.len, fun i l b h1 h2 => ?_, Rp.nodup, Rp.new⟩
      · rw [est]
        refine ⟨hon, (hs.2 p pd).trans X.obj, _, _, D', ?_, fun y => ?_⟩
        · rw [putL_len]
          have g0 := g name
          cases hf : σ.f name with
          | none =>
            rw [hf] at g0
            rw [getL_any g0]
            simpa using hz
          | some b =>
            rw [hf] at g0
            obtain ⟨u, e1, _⟩ := g0
            rw [getL_any' e1]
            simpa using hz
        · rw [getL_put]
          dsimp only
          by_cases q : y = name
          · rw [if_pos q, if_pos q]; exact ⟨v, rfl, ha⟩
          · rw [if_neg q, if_neg q]; exact g y
      · obtain ⟨vs, k, e1, e2⟩ := Rp.lists i l b h1 h2
        refine ⟨vs, k, (hs.2 b ?_).trans e1, e2⟩
        rintro rfl
        rw [D] at e1
        have e3 := congrArg (fun o : Option Obj => o.map (·.cls)) e1
        simp at e3
    obtain ⟨I', st⟩ := I.upd (tk := s.toks + 1 + 1) md hs R'
    exact h _ _ I' st
  · cases e
end
end Ind
set_option maxRecDepth 100000
set_option Elab.async false
namespace Ind
open PySem PySem.W PySem.Calls PyProof.Rows
structure Cx where
  prog : Program
  w : World
  S : Sta
  hb : Heap
  os : OsState
  base : Base prog w S hb
structure Lok (A : Around) (n : Nat) (env : Env) (fr : List Env) (sc : Scope) : Prop where
  handled : A.handled = none
  frames : A.frames = some fr
  depth : A.depth + n < recursionLimit
  units : A.units + 8 * n + 60 < cLine
  scope : env.scope = sc
  kind : sc.kind = .function
  globals : env.globals = mainGlobals
  builtins : env.builtins = builtinsNs
  cells : ∀ x, sc.names.lookup x = some .cell → (env.cells.lookup x).isSome = true
theorem Lok.mono {A : Around} {n k : Nat} {env : Env} {fr : List Env} {sc : Scope} (L : Lok A n env fr sc) (h : k ≤ n) : Lok A k env fr sc :=
  ⟨L.handled, L.frames, by have := L.depth; omega, by have := L.units; omega, L.scope, L.kind, L.globals, L.builtins, L.cells⟩
theorem Lok.room {A : Around} {n : Nat} {env : Env} {fr : List Env} {sc : Scope} (L : Lok A n env fr sc) : A.units < cLine := by have := L.units; omega
variable (X : Cx)
abbrev Ix (env : Env) (fr : List Env) (ρ : Rho) (m : Lm) (σ : Sto) (s : Shared) : Prop := Iv X.S.C X.hb X.os env fr ρ m σ s
def PE (env : Env) (fr : List Env) (ρ : Rho) (m : Lm) (s₀ : Shared) (v : MV) (σ : Sto) : Value → Shared → Prop := fun x s => Ix X env fr ρ m σ s ∧ VIs ρ s.heap v x ∧ Stp env fr ρ s₀.heap s.heap
def PEs (env : Env) (fr : List Env) (ρ : Rho) (m : Lm) (s₀ : Shared) (vs : List MV) (σ : Sto) : List Value → Shared → Prop := fun xs s => Ix X env fr ρ m σ s ∧ VAll ρ s.heap vs xs ∧ Stp env fr ρ s₀.heap s.heap
def PB (env : Env) (fr : List Env) (ρ : Rho) (m : Lm) (s₀ : Shared) (c : Bool) (σ : Sto) : Bool → Shared → Prop := fun b s => b = c ∧ Ix X env fr ρ m σ s ∧ Stp env fr ρ s₀.heap s.heap
def SimE (n : Nat) : Prop := ∀ sc e m σ v σ', ev X.S n sc e m σ = some (v, σ') → ∀ A env fr ρ s E, Lok A n env fr sc → Ix X env fr ρ m σ s → wpAny (model X.prog X.w) A (eval e env) (PE X env fr ρ m s v σ') E s
def SimI (n : Nat) : Prop := ∀ sc o m σ i σ', evI X.S n sc o m σ = some (i, σ') → ∀ A env fr ρ s E, Lok A n env fr sc → Ix X env fr ρ m σ s →
  wpAny (model X.prog X.w) A (valueOrNone (evalOpt o env)) (fun x s' => Ix X env fr ρ m σ' s' ∧ PartIs i x ∧ Stp env fr ρ s.heap s'.heap) E s
def SimEs (n : Nat) : Prop := ∀ sc es m σ vs σ', evs X.S n sc es m σ = some (vs, σ') → ∀ A env fr ρ s E pos, Lok A n env fr sc → Ix X env fr ρ m σ s →
  wpAny (model X.prog X.w) A (spliced (backTo pos (starEach es env))) (PEs X env fr ρ m s vs σ') E s
def SimAnd (n : Nat) : Prop := ∀ sc es m σ v σ', evAnd X.S n sc es m σ = some (v, σ') → ∀ A env fr ρ s E pos, Lok A n env fr sc → Ix X env fr ρ m σ s → wpAny (model X.prog X.w) A (boolOp pos .And (evalEach es env)) (PE X env fr ρ m s v σ') E s
def SimOr (n : Nat) : Prop := ∀ sc es m σ v σ', evOr X.S n sc es m σ = some (v, σ') → ∀ A env fr ρ s E pos, Lok A n env fr sc → Ix X env fr ρ m σ s → wpAny (model X.prog X.w) A (boolOp pos .Or (evalEach es env)) (PE X env fr ρ m s v σ') E s
def SimT (n : Nat) : Prop := ∀ sc e m σ c σ', test X.S n sc e m σ = some (c, σ') → ∀ A env fr ρ s E, Lok A n env fr sc → Ix X env fr ρ m σ s → wpAny (model X.prog X.w) A (isTrue e env (eval e env)) (PB X env fr ρ m s c σ') E s
def opOf (c : Bool) : BoolOp := if c then .And else .Or
def SimTA (n : Nat) : Prop := ∀ sc k es m σ c σ', testAll X.S n sc k es m σ = some (c, σ') → ∀ A env fr ρ s E, Lok A n env fr sc → Ix X env fr ρ m σ s → wpAny (model X.prog X.w) A (allTrue (opOf k) es env) (PB X env fr ρ m s c σ') E s
section
variable {X}
variable {A : Around} {env : Env} {fr : List Env} {ρ : Rho} {m : Lm} {σ σ' : Sto} {s : Shared} {E : Value → Shared → Prop} {sc : Scope} {n : Nat}
theorem Iv.live {C : Addr} {hb : Heap} {os : OsState} (I : Iv C hb os env fr ρ m σ s) : Live ρ s.heap := I.rep.live
theorem Iv.stepV {C : Addr} {hb : Heap} {os : OsState} {s' : Shared} (I : Iv C hb os env fr ρ m σ s) (st : Stp env fr ρ s.heap s'.heap) {v : MV} {x : Value} (hv : VIs ρ s.heap v x) : VIs ρ s'.heap v x := by
  obtain ⟨mv, hn, _⟩ := I.loc
  exact VIs.step hn st hv
theorem Iv.stepVs {C : Addr} {hb : Heap} {os : OsState} {s' : Shared} (I : Iv C hb os env fr ρ m σ s) (st : Stp env fr ρ s.heap s'.heap) {vs : List MV} {xs : List Value} (hv : VAll ρ s.heap vs xs) : VAll ρ s'.heap vs xs := by
  induction hv with
  | nil => exact .nil
  | cons a _ ih => exact .cons (I.stepV st a) ih
theorem out_pe {s₀ : Shared} {v : MV} (I : Ix X env fr ρ m σ s) (st : Stp env fr ρ s₀.heap s.heap) : Out1 ρ s v (PE X env fr ρ m s₀ v σ) := fun _ _ _ hk hv =>
  ⟨I.keeps hk, hv, st.trans (Stp.of_keeps hk)⟩
theorem out_mono {v : MV} {Q Q' : Value → Shared → Prop} (h : Out1 ρ s v Q) (k : ∀ x s, Q x s → Q' x s) : Out1 ρ s v Q' := fun x h' tk hk hv => k _ _ (h x h' tk hk hv)
theorem SimE.use {e : Expr} {v : MV} {Q : Value → Shared → Prop} (H : SimE X n) (h : ev X.S n sc e m σ = some (v, σ')) (L : Lok A n env fr sc) (I : Ix X env fr ρ m σ s)
    (k : ∀ x s', Ix X env fr ρ m σ' s' → VIs ρ s'.heap v x → Stp env fr ρ s.heap s'.heap → Q x s') : wpAny (model X.prog X.w) A (eval e env) Q E s :=
  wpAny_mono (H sc e m σ v σ' h A env fr ρ s E L I) (fun x s' ⟨a, b, c⟩ => k x s' a b c) fun _ _ x => x
theorem name_local {x : Str} {pos : Pos} {v : MV} {Q : Value → Shared → Prop} (L : Lok A n env fr sc) (I : Ix X env fr ρ m σ s) (hd : (x == ("__debug__" : Str)) = false)
    (hk : sc.names.lookup x = some .local ∨ sc.names.lookup x = some .cell ∨ (sc.names.lookup x = some .free ∧ (x == ("__classdict__" : Str)) = false)) (hm : m x = some v)
    (k : ∀ y, VIs ρ s.heap v y → Q y s) : wpAny (model X.prog X.w) A (eval (.Name x pos) env) Q E s := by
  obtain ⟨mv, hn, hl⟩ := I.loc
  have q := hl x v hm
  have hkind : env.scope.kind = .function := by rw [L.scope]; exact L.kind
  refine wpAny_Name ?_ hd
  rcases hk with hk | hk | ⟨hk, hc⟩
  · have hk' : env.kindOf x = some .local := by unfold Env.kindOf; rw [L.scope]; exact hk
    unfold Holds at q
    rw [hk'] at q
    obtain ⟨val, e1, e2⟩ := q
    exact wpAny_loadName_local hkind hk' hn e1 (k _ e2)
  · have hk' : env.kindOf x = some .cell := by unfold Env.kindOf; rw [L.scope]; exact hk
    unfold Holds at q
    rw [hk'] at q
    obtain ⟨c, val, e1, e2, e3⟩ := q
    exact wpAny_loadName_cell hkind hk' e1 e2 (k _ e3)
  · have hk' : env.kindOf x = some .free := by unfold Env.kindOf; rw [L.scope]; exact hk
    unfold Holds at q
    rw [hk'] at q
    obtain ⟨c, val, e1, e2, e3⟩ := q
    exact wpAny_loadName_free hkind hk' e1 e2 (k _ e3) hc
theorem name_global {x : Str} {pos : Pos} {v : Value} {Q : Value → Shared → Prop} (L : Lok A n env fr sc) (I : Ix X env fr ρ m σ s) (hd : (x == ("__debug__" : Str)) = false)
    (hk : sc.names.lookup x = some .globalImplicit) (hg : globIn X.S x = some v) (k : Q v s) : wpAny (model X.prog X.w) A (eval (.Name x pos) env) Q E s := by
  have hkind : env.scope.kind = .function := by rw [L.scope]; exact L.kind
  have hk' : env.kindOf x = some .globalImplicit := by unfold Env.kindOf; rw [L.scope]; exact hk
  have KX : X.S.K.In s.heap := X.base.K.keeps I.base
  refine Name_function_global hkind hk' ?_ hd
  unfold loadGlobal
  rw [L.globals, L.builtins]
  unfold globIn at hg
  split at hg
  · rename_i u hu; cases hg
    exact wpAny_bind ((looks_nsIn KX hu).here (wpAny_pure k))
  · rename_i hu
    split at hg
    · rename_i u hb; cases hg
      exact wpAny_bind ((looks_nsIn KX hu).here (wpAny_bind ((looks_nsIn KX hb).here (wpAny_pure k))))
    · cases hg
  · cases hg
end
end Ind
set_option maxRecDepth 100000
set_option Elab.async false
namespace Ind
open PySem PySem.W PySem.Calls PyProof.Rows
def SimCall (X : Cx) (n : Nat) : Prop := ∀ a vs σ v σ', callF X.S n a vs σ = some (v, σ') → ∀ A env fr ρ m s xs E sc, Lok A n env fr sc → Ix X env fr ρ m σ s → VAll ρ s.heap vs xs →
  wpAny (model X.prog X.w) A (call (.ref a) xs) (PE X env fr ρ m s v σ') E s
section
variable {X : Cx}
variable {A : Around} {env : Env} {fr : List Env} {ρ : Rho} {m : Lm} {σ σ' : Sto} {s : Shared} {E : Value → Shared → Prop} {sc : Scope} {n : Nat}
theorem not_starred {e : Expr} (h : notStar e = true) (rest : List Expr) : starEach (e :: rest) env = (false, eval e env) :: starEach rest env := by
  cases e <;> first | rfl | cases h
theorem ev_not_starred {e : Expr} {v} (h : ev X.S n sc e m σ = some v) (rest : List Expr) : starEach (e :: rest) env = (false, eval e env) :: starEach rest env := by
  cases e <;> first | rfl | (cases n <;> simp [ev] at h)
theorem plain_args : ∀ {args : List Expr} {pos : Pos}, (args.all notStar) = true → (backTo pos (starEach args env)).any (·.1) = false
  | [], _, _ => rfl
  | e :: r, pos, h => by
    rw [List.all_cons, Bool.and_eq_true] at h
    rw [not_starred h.1]
    show (false || (backTo pos (starEach r env)).any (·.1)) = false
    rw [plain_args h.2]; rfl
theorem plain_args_all : ∀ {args : List Expr} {pos : Pos}, (args.all notStar) = true → (backTo pos (starEach args env)).all (fun x => !x.1) = true
  | [], _, _ => rfl
  | e :: r, pos, h => by
    rw [List.all_cons, Bool.and_eq_true] at h
    rw [not_starred h.1]
    show (true && (backTo pos (starEach r env)).all (fun x => !x.1)) = true
    rw [plain_args_all h.2]; rfl
theorem simEs_succ (H : SimE X n) (Hs : SimEs X n) : SimEs X (n + 1) := by
  intro sc es m σ vs σ' h A env fr ρ s E pos L I
  cases es with
  | nil =>
    simp only [evs] at h; cases h
    exact wpAny_items_nil ⟨I, .nil, Stp.refl _⟩
  | cons e r =>
    simp only [evs] at h
    obtain ⟨⟨v, σ₁⟩, h1, h2⟩ := Option.bind_eq_some_iff.mp h
    obtain ⟨⟨ws, σ₂⟩, h3, h4⟩ := Option.map_eq_some_iff.mp h2
    cases h4
    refine wpAny_items_cons (SimE.use H h1 (L.mono (by omega)) I fun x s₁ I₁ v₁ st₁ => ?_) (ev_not_starred h1 r)
    refine wpAny_mono (Hs _ _ _ _ _ _ h3 A env fr ρ s₁ E pos (L.mono (by omega)) I₁) (fun xs s₂ ⟨I₂, w₂, st₂⟩ => ?_) fun _ _ x => x
    exact ⟨I₂, .cons (I₁.stepV st₂ v₁) w₂, st₁.trans st₂⟩
theorem simI_succ (H : SimE X n) : SimI X (n + 1) := by
  intro sc o m σ i σ' h A env fr ρ s E L I
  cases o with
  | none =>
    simp only [evI] at h; cases h
    exact wpAny_pure ⟨I, rfl, Stp.refl _⟩
  | some e =>
    simp only [evI] at h
    obtain ⟨⟨v, σ₁⟩, h1, h2⟩ := Option.bind_eq_some_iff.mp h
    have : wpAny (model X.prog X.w) A (eval e env) (fun x s' => Ix X env fr ρ m σ' s' ∧ PartIs i x ∧ Stp env fr ρ s.heap s'.heap) E s := by
      refine SimE.use H h1 (L.mono (by omega)) I fun x s₁ I₁ v₁ st₁ => ?_
      dsimp only at h2
      split at h2
      · cases h2; exact ⟨I₁, v₁, st₁⟩
      · cases h2
    exact this
theorem simAnd_succ (H : SimE X n) (Hs : SimAnd X n) : SimAnd X (n + 1) := by
  intro sc es m σ v σ' h A env fr ρ s E pos L I
  cases es with
  | nil => simp only [evAnd] at h; cases h
  | cons e r =>
    simp only [evAnd] at h
    obtain ⟨⟨u, σ₁⟩, h1, h2⟩ := Option.bind_eq_some_iff.mp h
    dsimp only at h2
    cases r with
    | nil =>
      simp only [List.isEmpty_nil, if_true] at h2; cases h2
      exact SimE.use H h1 (L.mono (by omega)) I fun x s₁ I₁ v₁ st₁ => ⟨I₁, v₁, st₁⟩
    | cons e2 r =>
      simp only [List.isEmpty_cons, Bool.false_eq_true, if_false] at h2
      obtain ⟨b, h3, h4⟩ := Option.bind_eq_some_iff.mp h2
      show wpAny _ A (do
        let v ← eval e env
        standAt pos
        let t ← holding [v] (truthy v)
        match BoolOp.And, t with
        | .And, false | .Or, true => pure v
        | _, _ => boolOp pos .And (evalEach (e2 :: r) env)) _ E s
      refine wpAny_bind (SimE.use H h1 (L.mono (by omega)) I fun x s₁ I₁ v₁ st₁ => wpAny_bind (wpAny_standAt (wpAny_bind (wpAny_holding (truth_wp h3 v₁ fun tk => ?_)))))
      have I₂ := I₁.toks tk
      cases b with
      | false => simp only [Bool.false_eq_true, if_false] at h4; cases h4; exact wpAny_pure ⟨I₂, v₁, st₁⟩
      | true =>
        simp only [if_true] at h4
        refine wpAny_mono (Hs _ _ _ _ _ _ h4 A env fr ρ _ E pos (L.mono (by omega)) I₂) (fun y s₂ ⟨a, b, c⟩ => ⟨a, b, st₁.trans c⟩) fun _ _ x => x
theorem simOr_succ (H : SimE X n) (Hs : SimOr X n) : SimOr X (n + 1) := by
  intro sc es m σ v σ' h A env fr ρ s E pos L I
  cases es with
  | nil => simp only [evOr] at h; cases h
  | cons e r =>
    simp only [evOr] at h
    obtain ⟨⟨u, σ₁⟩, h1, h2⟩ := Option.bind_eq_some_iff.mp h
    dsimp only at h2
    cases r with
    | nil =>
      simp only [List.isEmpty_nil, if_true] at h2; cases h2
      exact SimE.use H h1 (L.mono (by omega)) I fun x s₁ I₁ v₁ st₁ => ⟨I₁, v₁, st₁⟩
    | cons e2 r =>
      simp only [List.isEmpty_cons, Bool.false_eq_true, if_false] at h2
      obtain ⟨b, h3, h4⟩ := Option.bind_eq_some_iff.mp h2
      show wpAny _ A (do
        let v ← eval e env
        standAt pos
        let t ← holding [v] (truthy v)
        match BoolOp.Or, t with
        | .And, false | .Or, true => pure v
        | _, _ => boolOp pos .Or (evalEach (e2 :: r) env)) _ E s
      refine wpAny_bind (SimE.use H h1 (L.mono (by omega)) I fun x s₁ I₁ v₁ st₁ => wpAny_bind (wpAny_standAt (wpAny_bind (wpAny_holding (truth_wp h3 v₁ fun tk => ?_)))))
      have I₂ := I₁.toks tk
      cases b with
      | true => simp only [if_true] at h4; cases h4; exact wpAny_pure ⟨I₂, v₁, st₁⟩
      | false =>
        simp only [Bool.false_eq_true, if_false] at h4
        refine wpAny_mono (Hs _ _ _ _ _ _ h4 A env fr ρ _ E pos (L.mono (by omega)) I₂) (fun y s₂ ⟨a, b, c⟩ => ⟨a, b, st₁.trans c⟩) fun _ _ x => x
theorem simTA_succ (H : SimT X n) (Hs : SimTA X n) : SimTA X (n + 1) := by
  intro sc k es m σ c σ' h A env fr ρ s E L I
  cases es with
  | nil =>
    simp only [testAll] at h; cases h
    cases k <;> exact wpAny_pure ⟨rfl, I, Stp.refl _⟩
  | cons e r =>
    simp only [testAll] at h
    obtain ⟨⟨b, σ₁⟩, h1, h2⟩ := Option.bind_eq_some_iff.mp h
    dsimp only at h2
    have hT := H _ _ _ _ _ _ h1 A env fr ρ s E (L.mono (by omega)) I
    cases k with
    | true =>
      refine wpAny_allTrue_And_cons (wpAny_mono hT (fun b' s₁ ⟨q, I₁, st₁⟩ => ?_) fun _ _ x => x)
      subst q
      cases b' with
      | true =>
        simp only [if_true] at h2 ⊢
        refine wpAny_mono (Hs _ _ _ _ _ _ _ h2 A env fr ρ s₁ E (L.mono (by omega)) I₁) (fun y s₂ ⟨a, b, c⟩ => ⟨a, b, st₁.trans c⟩) fun _ _ x => x
      | false =>
        simp only [Bool.false_eq_true, if_false] at h2 ⊢
        cases h2; exact ⟨rfl, I₁, st₁⟩
    | false =>
      refine wpAny_allTrue_Or_cons (wpAny_mono hT (fun b' s₁ ⟨q, I₁, st₁⟩ => ?_) fun _ _ x => x)
      subst q
      cases b' with
      | false =>
        simp only [if_true, Bool.false_eq_true, if_false] at h2 ⊢
        refine wpAny_mono (Hs _ _ _ _ _ _ _ h2 A env fr ρ s₁ E (L.mono (by omega)) I₁) (fun y s₂ ⟨a, b, c⟩ => ⟨a, b, st₁.trans c⟩) fun _ _ x => x
      | true =>
        simp only [Bool.true_eq_false, if_false, if_true] at h2 ⊢
        cases h2; exact ⟨rfl, I₁, st₁⟩
theorem compare_wpE {op : CmpOp} {l r : Expr} {u1 u2 : MV} {c : Bool} {σ₁ σ₂ : Sto} {Q : Value → Shared → Prop} (H : SimE X n) (L : Lok A n env fr sc) (I : Ix X env fr ρ m σ s)
    (h1 : ev X.S n sc l m σ = some (u1, σ₁)) (h2 : ev X.S n sc r m σ₁ = some (u2, σ₂)) (h3 : compare X.S σ₂ op u1 u2 = some c)
    (k : ∀ tk s', Ix X env fr ρ m σ₂ s' → Stp env fr ρ s.heap s'.heap → Q (.bool c) { s' with toks := tk }) :
    wpAny (model X.prog X.w) A (eval l env) (fun a s₁ => wpAny (model X.prog X.w) A (eval r env) (fun b s₂ => wpAny (model X.prog X.w) A (compareOp op a b) Q E s₂) E s₁) E s := by
  refine SimE.use H h1 L I fun x s₁ I₁ v₁ st₁ => SimE.use H h2 L I₁ fun y s₂ I₂ v₂ st₂ => ?_
  refine compare_wp X.base I₂.base I₂.rep L.room h3 (I₁.stepV st₂ v₁) v₂ fun x h' tk hk hv => ?_
  cases hv
  exact k tk _ (I₂.keeps (tk := s₂.toks) hk) ((st₁.trans st₂).trans (Stp.of_keeps hk))
theorem not_set {op : CmpOp} {e : Expr} {v} (h : ev X.S n sc e m σ = some v) : behindInMarks op e = false := by
  cases e <;> first | rfl | (cases n <;> simp [ev] at h)
theorem simT_succ (HH : ∀ k, k ≤ n → SimE X k) (Ht : SimT X n) (Ha : SimTA X n) : SimT X (n + 1) := by
  have H := HH n (Nat.le_refl _)
  intro sc e m σ c σ' h A env fr ρ s E L I
  have L' := L.mono (Nat.le_succ n)
  have plain : ∀ e, (isTrue e env (eval e env) = (do let v ← eval e env; standAt e.pos; holding [v] (truthy v))) → ((ev X.S n sc e m σ).bind fun (v, σ) => (truth σ v).map (·, σ)) = some (c, σ') →
      wpAny (model X.prog X.w) A (isTrue e env (eval e env)) (PB X env fr ρ m s c σ') E s := by
    intro e he h
    obtain ⟨⟨u, σ₁⟩, h1, h2⟩ := Option.bind_eq_some_iff.mp h
    obtain ⟨b, h3, h4⟩ := Option.map_eq_some_iff.mp h2
    cases h4
    exact wpAny_isTrue_value (SimE.use H h1 L' I fun x s₁ I₁ v₁ st₁ => truth_wp h3 v₁ fun tk => ⟨rfl, I₁.toks tk, st₁⟩) he
  cases e with
  | UnaryOp op x pos =>
    cases op with
    | Not =>
      simp only [test] at h
      obtain ⟨⟨b, σ₁⟩, h1, h2⟩ := Option.map_eq_some_iff.mp h
      cases h2
      exact wpAny_isTrue_Not (wpAny_mono (Ht _ _ _ _ _ _ h1 A env fr ρ s E L' I) (fun b' s₁ ⟨q, I₁, st₁⟩ => ⟨by rw [q], I₁, st₁⟩) fun _ _ x => x)
    | _ => exact plain _ rfl h
  | BoolOp op es pos =>
    refine wpAny_isTrue_BoolOp ?_
    cases op with
    | And => simp only [test] at h; exact Ha _ true _ _ _ _ _ h A env fr ρ s E L' I
    | Or => simp only [test] at h; exact Ha _ false _ _ _ _ _ h A env fr ρ s E L' I
  | Compare l ops rs pos =>
    simp only [test] at h
    obtain ⟨⟨u, σ₁⟩, h1, h2⟩ := Option.bind_eq_some_iff.mp h
    obtain ⟨b, h3, h4⟩ := Option.map_eq_some_iff.mp h2
    cases h4
    cases n with
    | zero => simp [ev] at h1
    | succ k =>
      cases ops with
      | nil => simp [ev] at h1
      | cons op ops =>
        cases ops with
        | cons _ _ => simp [ev] at h1
        | nil =>
          cases rs with
          | nil => simp [ev] at h1
          | cons r rs =>
            cases rs with
            | cons _ _ => simp [ev] at h1
            | nil =>
              simp only [ev] at h1
              obtain ⟨⟨u1, σ₂⟩, h5, h6⟩ := Option.bind_eq_some_iff.mp h1
              obtain ⟨⟨u2, σ₃⟩, h7, h8⟩ := Option.bind_eq_some_iff.mp h6
              obtain ⟨d, h9, h10⟩ := Option.map_eq_some_iff.mp h8
              cases h10
              cases h3
              refine wpAny_isTrue_Compare1 (compare_wpE (HH k (Nat.le_succ k)) (L'.mono (Nat.le_succ k)) I h5 h7 h9 fun tk s' I' st' => ?_) (not_set h7)
              exact wpAny_truthy_bool ⟨rfl, I'.toks tk, st'⟩
  | IfExp a b d pos =>
    simp only [test] at h
    obtain ⟨⟨u, σ₁⟩, h1, h2⟩ := Option.bind_eq_some_iff.mp h
    cases n <;> simp [ev] at h1
  | _ => exact plain _ rfl h
end
end Ind
set_option maxRecDepth 100000
set_option Elab.async false
namespace Ind
open PySem PySem.W PySem.Calls PyProof.Rows
def isDictE : Expr → Bool
  | .Dict .. => true
  | _ => false
def SimD (X : Cx) (n : Nat) : Prop := ∀ sc ks vs p i pos m σ v σ', ev X.S n sc (.Subscript (.Dict ks vs p) i pos) m σ = some (v, σ') → ∀ A env fr ρ s E, Lok A n env fr sc → Ix X env fr ρ m σ s →
  wpAny (model X.prog X.w) A (eval (.Subscript (.Dict ks vs p) i pos) env) (PE X env fr ρ m s v σ') E s
def SimLC (X : Cx) (n : Nat) : Prop := ∀ sc elt gens cs pos m σ v σ', ev X.S n sc (.ListComp elt gens cs pos) m σ = some (v, σ') → ∀ A env fr ρ s E, Lok A n env fr sc → Ix X env fr ρ m σ s →
  wpAny (model X.prog X.w) A (eval (.ListComp elt gens cs pos) env) (PE X env fr ρ m s v σ') E s
section
variable {X : Cx}
variable {A : Around} {env : Env} {fr : List Env} {ρ : Rho} {m : Lm} {σ σ' : Sto} {s : Shared} {E : Value → Shared → Prop} {sc : Scope} {n : Nat}
theorem evalArgs_of {M : Model} {f : Value} {args : List Expr} {pos : Pos} {Q : Args → Shared → Prop} (hp : (args.all notStar) = true)
    (h : wpAny M A (spliced (backTo pos (starEach args env))) (fun vs s' => Q ⟨vs, []⟩ s') E s) : wpAny M A (evalArgs f true (backTo pos (starEach args env)) []) Q E s := by
  cases args with
  | nil =>
    unfold evalArgs
    show wpAny M A (spliced [] >>= _) Q E s
    refine wpAny_bind (wpAny_mono h (fun vs s' h' => ?_) fun _ _ x => x)
    refine wpAny_holding ?_
    exact wpAny_bind (wpAny_pure (wpAny_bind (wpAny_pure (wpAny_pure h'))))
  | cons e r =>
    rw [List.all_cons, Bool.and_eq_true] at hp
    rw [not_starred hp.1] at h ⊢
    exact evalArgs_plain h
theorem callB {id : String} {first : List Value} {args : List Expr} {pos : Pos} {vs : List MV} {σ₁ : Sto} {Q : Value → Shared → Prop} (hp : (args.all notStar) = true)
    (H : SimEs X n) (h : evs X.S n sc args m σ = some (vs, σ₁)) (L : Lok A n env fr sc) (I : Ix X env fr ρ m σ s)
    (k : ∀ xs s', Ix X env fr ρ m σ₁ s' → VAll ρ s'.heap vs xs → Stp env fr ρ s.heap s'.heap → wpAny (model X.prog X.w) A (call (.builtin id) (first ++ xs)) Q E s') :
    wpAny (model X.prog X.w) A (callWith pos (.builtin id) first (backTo pos (starEach args env)) []) Q E s := by
  refine callWith_builtin (plain_args hp) (evalArgs_of hp ?_)
  exact wpAny_mono (H _ _ _ _ _ _ h A env fr ρ s E pos L I) (fun xs s' ⟨a, b, c⟩ => k xs s' a b c) fun _ _ x => x
theorem callR {f : Addr} {first : List Value} {args : List Expr} {pos : Pos} {vs : List MV} {σ₁ : Sto} {Q : Value → Shared → Prop} {o : Obj} {fd : FuncData} (hp : (args.all notStar) = true)
    (H : SimEs X n) (h : evs X.S n sc args m σ = some (vs, σ₁)) (L : Lok A n env fr sc) (I : Ix X env fr ρ m σ s) (ho : X.hb.get? f = some o) (hd : o.data = .func fd)
    (k : ∀ xs s', Ix X env fr ρ m σ₁ s' → VAll ρ s'.heap vs xs → Stp env fr ρ s.heap s'.heap → wpAny (model X.prog X.w) A (call (.ref f) (first ++ xs)) Q E s') :
    wpAny (model X.prog X.w) A (callWith pos (.ref f) first (backTo pos (starEach args env)) []) Q E s := by
  refine Calls.callWith_function (o := o) (fd := fd) (evalArgs_of hp ?_)
  exact wpAny_mono (H _ _ _ _ _ _ h A env fr ρ s E pos L I) (fun xs s' ⟨a, b, c⟩ => ⟨⟨a.base _ _ ho, hd⟩, k xs s' a b c⟩) fun _ _ x => x
theorem fn_there {f : Addr} {ps : List Str} {b : List Stmt} {sc' : Scope} (h : funIn X.S f = some (ps, b, sc')) : f ∈ X.S.funs ∧ ∃ o fd, X.S.K.lookup f = some o ∧ o.cls = .type "function" ∧ o.data = .func fd ∧ fd.body = .stmts b ∧ fd.scope = sc' ∧ fd.params.args.map (·.arg) = ps := by
  unfold funIn at h
  split at h
  · cases h
  · rename_i hf
    have hf : f ∈ X.S.funs := Decidable.not_not.mp hf
    have q := X.base.fns f hf
    unfold fnOk at q
    split at h
    · rename_i c d fd sl ho
      rw [ho] at q
      split at h
      · rename_i b' hb; cases h
        split at q
        · rename_i o' e'
          cases e'
          exact ⟨hf, _, _, ho, rfl, rfl, hb, rfl, rfl⟩
        · cases q
      · cases h
    · cases h
theorem method_eval {o : Expr} {name : Str} {apos pos : Pos} {args : List Expr} {Q : Value → Shared → Prop} (hb : baseOk o = true) (hl : args.length < 20) (hpos : apos.endLine = pos.line)
    (hp : (args.all notStar) = true)
    (h : wpAny (model X.prog X.w) A (eval o env) (fun ov s₁ => ∀ pl, wpAny (model X.prog X.w) A (getMethod ov name pl) (fun fx s₂ => wpAny (model X.prog X.w) A (callWith pos fx.1 fx.2 (backTo pos (starEach args env)) []) Q E s₂) E s₁) E s) :
    wpAny (model X.prog X.w) A (eval (.Call (.Attribute o name apos) args [] pos) env) Q E s := by
  have hbase : attributeBase o name env (eval o env) = eval o env := by cases o <;> first | rfl | cases hb
  rw [arm_eval_Call, hbase]
  refine wpAny_bind (wpAny_mono h (fun ov s₁ h₁ => ?_) fun _ _ e => e)
  refine wpAny_bind (wpAny_standAt ?_)
  have hform : methodCallForm (args.length + ([] : List Keyword).length) (backTo pos (starEach args env)) (backToKw pos (keywordEach [] env)) = true := by
    unfold methodCallForm
    rw [plain_args_all hp]
    simp [backToKw, keywordEach]
    omega
  have hpos' : methodCallPos true o env apos pos = pure pos := by unfold methodCallPos; simp [hpos]
  unfold methodCall
  rw [hform]
  refine wpAny_bind (wpAny_holding (wpAny_mono (h₁ _) (fun fx s₂ h₂ => ?_) fun _ _ e => e))
  obtain ⟨f, first⟩ := fx
  exact wpAny_bind (wpAny_of_eq hpos' h₂)
theorem attr_eval {o : Expr} {name : Str} {pos : Pos} {Q : Value → Shared → Prop} (hb : baseOk o = true)
    (h : wpAny (model X.prog X.w) A (eval o env) (fun ov s₁ => wpAny (model X.prog X.w) A (getAttr ov name true) Q E s₁) E s) :
    wpAny (model X.prog X.w) A (eval (.Attribute o name pos) env) Q E s := by
  have hbase : attributeBase o name env (eval o env) = eval o env := by cases o <;> first | rfl | cases hb
  rw [arm_eval_Attribute, hbase]
  exact wpAny_bind (wpAny_mono h (fun ov s₁ h₁ => wpAny_bind (wpAny_standAt (wpAny_bind (wpAny_holding (wpAny_mono h₁ (fun r s₂ h₂ => wpAny_bind (wpAny_letTemporaryGo (wpAny_pure h₂))) fun _ _ e => e))))) fun _ _ e => e)
theorem stat_get {a : Addr} {name : Str} {v : Value} {Q : Value → Shared → Prop} (k : X.hb.StaysIn s.heap) (e : statAttr X.S a name = some v) (h : Out1 ρ s (ofVal v) Q) : wpAny (model X.prog X.w) A (getAttr (.ref a) name true) Q E s := by
  have KX : X.S.K.In s.heap := X.base.K.keeps k
  unfold statAttr at e
  split at e
  · split at e
    · rename_i u hu
      split at e
      · rename_i q; cases e
        rw [Bool.and_eq_true] at q
        exact cls_value KX q.1 hu q.2 (out_tok h (ofVal_is _ _ _))
      · cases e
    · cases e
  · rename_i c d sl ho
    split at e
    · rename_i od hd
      split at e
      · rename_i u hu
        split at e
        · rename_i q; cases e
          rw [Bool.and_eq_true, beq_iff_eq] at q
          exact get_value KX (InstAt.of_K KX ho hd) q.1 hu q.2 (out_tok h (ofVal_is _ _ _))
        · cases e
      · cases e
    · cases e
  · cases e
end
end Ind
set_option maxRecDepth 100000
set_option Elab.async false
namespace Ind
open PySem PySem.W PySem.Calls PyProof.Rows
section
variable {X : Cx}
variable {A : Around} {env : Env} {fr : List Env} {ρ : Rho} {m : Lm} {σ σ' : Sto} {s : Shared} {E : Value → Shared → Prop} {sc : Scope} {n : Nat}
theorem ats_of {ρ : Rho} {h : Heap} : ∀ {vs : List MV} {xs : List Value} {l : List At}, VAll ρ h vs xs → ats vs = some l → AtsAre l xs
  | [], _, _, .nil, e => by cases e; exact .nil
  | v :: vs, _, _, .cons a b, e => by
    cases v with
    | «at» x =>
      obtain ⟨l, hl, rfl⟩ := Option.map_eq_some_iff.mp e
      exact .cons a (ats_of b hl)
    | _ => cases e
theorem slice_eval {lo hi : Option Expr} {p : Pos} {i1 i2 : Option Int} {σ₁ σ₂ : Sto} {Q : Value → Shared → Prop} (H : SimI X n) (L : Lok A n env fr sc) (I : Ix X env fr ρ m σ s)
    (h1 : evI X.S n sc lo m σ = some (i1, σ₁)) (h2 : evI X.S n sc hi m σ₁ = some (i2, σ₂))
    (k : ∀ va vb c s', Ix X env fr ρ m σ₂ s' → PartIs i1 va → PartIs i2 vb → s'.heap.get? c = some { cls := .type "slice", dict := none, data := .fields #[va, vb, .none] } → Stp env fr ρ s.heap s'.heap → Q (.ref c) s') :
    wpAny (model X.prog X.w) A (eval (.Slice lo hi none p) env) Q E s := by
  rw [arm_eval_Slice]
  refine wpAny_bind (wpAny_mono (H _ _ _ _ _ _ h1 A env fr ρ s E L I) (fun va s₁ ⟨I₁, p1, st₁⟩ => ?_) fun _ _ x => x)
  refine wpAny_bind (wpAny_holding (wpAny_mono (H _ _ _ _ _ _ h2 A env fr ρ s₁ E L I₁) (fun vb s₂ ⟨I₂, p2, st₂⟩ => ?_) fun _ _ x => x))
  refine wpAny_bind (wpAny_holding (wpAny_pure ?_))
  show wpAny _ A (newFields "slice" [va, vb, .none]) _ _ _
  unfold newFields
  refine wpAny_newObj_type ?_ (by show (3 : Nat) ≤ sizeLine + 2; rw [sizeLine_eq]; omega)
  exact k va vb _ _ (I₂.push _) p1 p2 (Heap.get?_push_size _ rfl) ((st₁.trans st₂).trans (Stp.of_keeps fun _ _ e => Heap.get?_push_of_some _ e))
theorem ev_notStar {e : Expr} {v} (h : ev X.S n sc e m σ = some v) : notStar e = true := by
  cases e <;> first | rfl | (cases n <;> simp [ev] at h)
theorem isinst_eval {x : Expr} {t : Str} {tp fp pos : Pos} {f : Str} {l : List Nat} {σ₁ : Sto} (H : SimE X n) (L : Lok A n env fr sc) (I : Ix X env fr ρ m σ s) (hx : ev X.S n sc x m σ = some (.at (.str l), σ₁))
    (hd : (f == ("__debug__" : Str)) = false) (hf : sc.names.lookup f = some .globalImplicit) (hg : globIn X.S f = some (.builtin "isinstance")) (ht : sc.names.lookup t = some .globalImplicit) (hgt : globIn X.S t = some (.type "str")) (hdt : (t == ("__debug__" : Str)) = false) :
    wpAny (model X.prog X.w) A (eval (.Call (.Name f fp) [x, .Name t tp] [] pos) env) (PE X env fr ρ m s (.at (.bool true)) σ₁) E s := by
  have hns := ev_notStar hx
  refine wpAny_Call_ofName (name_global L I hd hf hg ?_)
  show wpAny _ A (callWith pos (.builtin "isinstance") [] (backTo pos (starEach [x, .Name t tp] env)) []) _ _ _
  have hp : ([x, .Name t tp] : List Expr).all notStar = true := by
    rw [List.all_cons, hns]; rfl
  refine callWith_builtin (plain_args hp) (evalArgs_of hp ?_)
  refine wpAny_items_cons (SimE.use H hx L I fun y s₁ I₁ v₁ st₁ => ?_) (not_starred hns _)
  refine wpAny_items_cons (name_global L I₁ hdt ht hgt ?_) rfl
  refine wpAny_items_nil ?_
  obtain ⟨u, rfl⟩ := v₁
  exact IsiPair.str_str ⟨I₁, rfl, st₁⟩
theorem call_name {f : Str} {fp pos : Pos} {args : List Expr} {v : MV} (Hk : SimEs X n) (Hc : SimCall X n) (H : SimE X n) (L : Lok A (n + 1) env fr sc) (I : Ix X env fr ρ m σ s)
    (h : ev X.S (n + 1) sc (.Call (.Name f fp) args [] pos) m σ = some (v, σ')) : wpAny (model X.prog X.w) A (eval (.Call (.Name f fp) args [] pos) env) (PE X env fr ρ m s v σ') E s := by
  have L' := L.mono (Nat.le_succ n)
  simp only [ev] at h
  split at h
  · rename_i hc
    obtain ⟨hk, hd, hlen, hp⟩ := hc
    split at h
    · rename_i id hg
      have plain : ∀ vs σ₁, evs X.S n sc args m σ = some (vs, σ₁) → ∀ r, builtin1 X.S σ₁ id vs = some r → wpAny (model X.prog X.w) A (eval (.Call (.Name f fp) args [] pos) env) (PE X env fr ρ m s r σ₁) E s := by
        intro vs σ₁ h1 r h2
        refine wpAny_Call_ofName (name_global L' I hd hk hg ?_)
        refine callB hp Hk h1 L' I fun xs s₁ I₁ v₁ st₁ => ?_
        exact builtin1_wp X.base I₁.base I₁.rep L.handled h2 v₁ (out_pe I₁ st₁)
      split at h
      · rename_i x t tp
        split at h
        · rename_i hid
          subst hid
          obtain ⟨⟨u, σ₁⟩, h1, h2⟩ := Option.bind_eq_some_iff.mp h
          dsimp only at h2
          split at h2
          · rename_i l hu hgt
            split at h2
            · rename_i ht; cases h2
              exact isinst_eval H L' I h1 hd hk hg ht.1 hgt ht.2
            · cases h2
          · cases h2
        · obtain ⟨⟨vs, σ₁⟩, h1, h2⟩ := Option.bind_eq_some_iff.mp h
          obtain ⟨r, h3, h4⟩ := Option.map_eq_some_iff.mp h2
          cases h4
          exact plain vs _ h1 _ h3
      · obtain ⟨⟨vs, σ₁⟩, h1, h2⟩ := Option.bind_eq_some_iff.mp h
        obtain ⟨r, h3, h4⟩ := Option.map_eq_some_iff.mp h2
        cases h4
        exact plain vs _ h1 _ h3
    · rename_i a hg
      obtain ⟨⟨vs, σ₁⟩, h1, h2⟩ := Option.bind_eq_some_iff.mp h
      have hf : ∃ o fd, X.hb.get? a = some o ∧ o.data = .func fd := by
        cases n with
        | zero => simp [callF] at h2
        | succ k =>
          simp only [callF] at h2
          obtain ⟨⟨ps, b, sc'⟩, h3, _⟩ := Option.bind_eq_some_iff.mp h2
          obtain ⟨_, o, fd, ho, _, hd, _⟩ := fn_there h3
          exact ⟨o, fd, X.base.K _ _ ho, hd⟩
      obtain ⟨o, fd, ho, hdt⟩ := hf
      refine wpAny_Call_ofName (name_global L' I hd hk hg ?_)
      refine callR hp Hk h1 L' I ho hdt fun xs s₁ I₁ v₁ st₁ => ?_
      exact wpAny_mono (Hc _ _ _ _ _ h2 A env fr ρ m s₁ xs E sc L' I₁ v₁) (fun y s₂ ⟨a, b, c⟩ => ⟨a, b, st₁.trans c⟩) fun _ _ x => x
    · cases h
  · cases h
set_option maxHeartbeats 2000000 in
theorem call_attr {o : Expr} {name : Str} {ap pos : Pos} {args : List Expr} {v : MV} (Hk : SimEs X n) (Hc : SimCall X n) (H : SimE X n) (L : Lok A (n + 1) env fr sc) (I : Ix X env fr ρ m σ s)
    (h : ev X.S (n + 1) sc (.Call (.Attribute o name ap) args [] pos) m σ = some (v, σ')) : wpAny (model X.prog X.w) A (eval (.Call (.Attribute o name ap) args [] pos) env) (PE X env fr ρ m s v σ') E s := by
  have L' := L.mono (Nat.le_succ n)
  simp only [ev] at h
  split at h
  · rename_i hc
    obtain ⟨hb, hlen, hpos, hp⟩ := hc
    obtain ⟨⟨u, σ₁⟩, h1, h2⟩ := Option.bind_eq_some_iff.mp h
    refine method_eval hb hlen hpos hp (SimE.use H h1 L' I fun x s₁ I₁ v₁ st₁ pl => ?_)
    dsimp only at h2
    split at h2
    · split at h2
      · rename_i f hn hf
        obtain ⟨⟨vs, σ₂⟩, h3, h4⟩ := Option.bind_eq_some_iff.mp h2
        have hf' : ∃ o fd, X.S.K.lookup f = some o ∧ o.cls = .type "function" ∧ o.data = .func fd := by
          cases n with
          | zero => simp [callF] at h4
          | succ k =>
            simp only [callF] at h4
            obtain ⟨⟨ps, b, sc'⟩, h3, _⟩ := Option.bind_eq_some_iff.mp h4
            obtain ⟨_, o, fd, ho, hcl, hd, _⟩ := fn_there h3
            exact ⟨o, fd, ho, hcl, hd⟩
        obtain ⟨o', fd, ho, hcl, hdt⟩ := hf'
        obtain ⟨p, d, rfl, est, hon, XS⟩ := self_stem I₁.rep v₁
        obtain ⟨es, k, J, D, hz, g⟩ := instAt XS
        have CF := clsFacts X.base.cls
        have KX : X.S.K.In s₁.heap := X.base.K.keeps I₁.base
        have g0 := g name
        rw [hn] at g0
        refine method_fn KX J CF.ga CF.gt hf (by show (X.S.K.lookup f).map (·.cls) = _; rw [ho, Option.map_some, hcl]) (by show (lookIn name (dictOf es k)).map _ = _; rw [lookIn_dict, g0]; rfl) ?_
        refine callR hp Hk h3 L' I₁ (X.base.K _ _ ho) hdt fun xs s₂ I₂ v₂ st₂ => ?_
        have v1' := I₁.stepV st₂ v₁
        exact wpAny_mono (Hc _ _ _ _ _ h4 A env fr ρ m s₂ (.ref p :: xs) E sc L' I₂ (.cons v1' v₂)) (fun y s₃ ⟨a, b, c⟩ => ⟨a, b, (st₁.trans st₂).trans c⟩) fun _ _ x => x
      · cases h2
    · rename_i l
      split at h2
      · rename_i hn
        obtain rfl := beq_iff_eq.mp hn
        obtain ⟨⟨vs, σ₂⟩, h3, h4⟩ := Option.bind_eq_some_iff.mp h2
        obtain ⟨t, rfl⟩ := v₁
        dsimp only at h4
        split at h4
        · rename_i tl
          obtain ⟨rfl, rfl⟩ := Prod.mk.inj (Option.some.inj h4)
          refine getMethod_builtin (typeIs_str _ _ t) F.plainAttrs_str F.slot_str_startswith F.type_str_startswith (fun a e => nomatch e) ?_
          refine callB hp Hk h3 L' I₁ fun xs s₂ I₂ v₂ st₂ => ?_
          cases v₂ with
          | cons w1 w2 =>
            cases w2
            obtain ⟨u, rfl⟩ := w1
            exact SC.startswith (out_same (out_pe I₂ (st₁.trans st₂)) rfl)
        · cases h4
      · cases h2
    · rename_i k
      split at h2
      · rename_i hn
        obtain rfl := beq_iff_eq.mp hn
        obtain ⟨⟨vs, σ₂⟩, h3, h4⟩ := Option.bind_eq_some_iff.mp h2
        obtain ⟨b, hbk, rfl⟩ := v₁
        dsimp only at h4
        split at h4
        · rename_i a l hl
          split at h4
          · cases h4
          · rename_i hsz
            obtain ⟨rfl, rfl⟩ := Prod.mk.inj (Option.some.inj h4)
            have there : ∀ {σ : Sto} {s : Shared} {l : List At}, Ix X env fr ρ m σ s → σ.ls[k]? = some l → ∃ its n, s.heap.get? b = some (listOf its n) ∧ AtsAre l its.toList := fun I e => I.rep.lists _ _ _ e hbk
            have hlen1 : k < σ₁.ls.length := by rw [I₁.rep.len]; exact (List.getElem?_eq_some_iff.mp hbk).1
            obtain ⟨its, n1, g1, a1⟩ := there I₁ (List.getElem?_eq_getElem hlen1)
            have hT : s₁.TypeIs (.ref b) "list" := ⟨_, g1, rfl⟩
            refine getMethod_builtin hT F.plainAttrs_list F.slot_list_append F.type_list_append (fun a e => by cases e; exact ⟨_, g1, rfl⟩) ?_
            refine callB hp Hk h3 L' I₁ fun xs s₂ I₂ v₂ st₂ => ?_
            cases v₂ with
            | cons w1 w2 =>
              cases w2
              obtain ⟨its2, n2, g2, a2⟩ := there I₂ hl
              have hm : b ∈ ρ.mu := mu_ls (List.mem_of_getElem? hbk)
              have hz2 : l.length = its2.size := by simpa using a2.length
              refine wpAny_list_append_plain (hsz := by rw [sizeLine_eq]; omega) ⟨n2, g2⟩ fun h' hl' hs' => ?_
              obtain ⟨n3, g3⟩ := hl'
              have R' : Rep X.S.C X.hb { σ₂ with ls := σ₂.ls.set k (l ++ [a]) } ρ h' := by
                have R := I₂.rep
                refine ⟨?_, by simp [R.len], fun i l' c e1 e2 => ?_, R.nodup, R.new⟩
                · have q := R.stem
                  have nd := R.nodup
                  split
                  · rename_i x d est
                    rw [est] at q
                    unfold Rho.mu at nd
                    rw [est] at nd
                    have hne : ∀ y ∈ [x, d], y ≠ b := fun y hy => (List.nodup_append.mp nd).2.2 y hy b (List.mem_of_getElem? hbk)
                    exact ⟨q.1, (hs'.2 _ (hne x (by simp))).trans q.2.obj, let ⟨es, k, e1, e2⟩ := q.2.dict; ⟨es, k, (hs'.2 _ (hne d (by simp))).trans e1, e2⟩⟩
                  · rename_i est; rw [est] at q; exact q
                · by_cases hik : i = k
                  · subst hik
                    rw [hbk] at e2; cases e2
                    rw [List.getElem?_set_self (by rw [R.len]; exact (List.getElem?_eq_some_iff.mp hbk).1)] at e1
                    cases e1
                    exact ⟨_, _, g3, by rw [Array.toList_push]; exact a2.append (.cons w1 .nil)⟩
                  · rw [List.getElem?_set_ne (Ne.symm hik)] at e1
                    obtain ⟨vs, k2, e3, e4⟩ := R.lists i l' c e1 e2
                    refine ⟨vs, k2, (hs'.2 c fun q => hik ?_).trans e3, e4⟩
                    subst q
                    have nd : ρ.ls.Nodup := (List.nodup_append.mp (by have := R.nodup; unfold Rho.mu at this; exact this)).2.1
                    exact (List.getElem?_inj (List.getElem?_eq_some_iff.mp e2).1 nd).mp (e2.trans hbk.symm)
              obtain ⟨I', st'⟩ := I₂.upd (tk := s₂.toks) hm hs' R'
              exact ⟨I', rfl, (st₁.trans st₂).trans st'⟩
        · cases h4
      · cases h2
    · cases h2
  · cases h
end
end Ind
set_option maxRecDepth 100000
set_option Elab.async false
namespace Ind
open PySem PySem.W PySem.Calls PyProof.Rows
section
variable {X : Cx}
variable {A : Around} {env : Env} {fr : List Env} {ρ : Rho} {m : Lm} {σ σ' : Sto} {s : Shared} {E : Value → Shared → Prop} {sc : Scope} {n : Nat}
theorem const_eval {c : Const} {k : Nat} {pos : Pos} {v : MV} (I : Ix X env fr ρ m σ s) (h : ofConst c = some v) : wpAny (model X.prog X.w) A (eval (.Constant c k pos) env) (PE X env fr ρ m s v σ) E s := by
  cases c with
  | none => cases h; exact wpAny_Constant_none ⟨I, rfl, Stp.refl _⟩
  | bool b => cases h; exact wpAny_Constant_bool ⟨I, rfl, Stp.refl _⟩
  | int i => cases h; exact wpAny_Constant_int ⟨I.toks _, ⟨_, rfl⟩, Stp.refl _⟩
  | str x => cases h; exact PySem.wpAny_Constant_str ⟨I.toks _, ⟨_, by rw [lstr_of]⟩, Stp.refl _⟩
  | _ => cases h
theorem sub_general {o i : Expr} {pos : Pos} {v : MV} (H : SimE X n) (L : Lok A n env fr sc) (I : Ix X env fr ρ m σ s) (hs : ∀ a b c p, i ≠ .Slice a b c p)
    (h : ((ev X.S n sc o m σ).bind fun (v, σ) => (ev X.S n sc i m σ).bind fun (j, σ) => (match j with
        | .at (.int j) => (index X.S σ v j).map (·, σ)
        | _ => none)) = some (v, σ')) : wpAny (model X.prog X.w) A (eval (.Subscript o i pos) env) (PE X env fr ρ m s v σ') E s := by
  obtain ⟨⟨u, σ₁⟩, h1, h2⟩ := Option.bind_eq_some_iff.mp h
  obtain ⟨⟨j, σ₂⟩, h3, h4⟩ := Option.bind_eq_some_iff.mp h2
  dsimp only at h4
  split at h4
  · obtain ⟨r, h5, h6⟩ := Option.map_eq_some_iff.mp h4
    obtain ⟨rfl, rfl⟩ := Prod.mk.inj h6
    refine Subscript_ (SimE.use H h1 L I fun x s₁ I₁ v₁ st₁ => SimE.use H h3 L I₁ fun y s₂ I₂ v₂ st₂ => ?_)
    obtain ⟨t, rfl⟩ := v₂
    exact index_wp X.base I₂.base I₂.rep h5 (I₁.stepV st₂ v₁) hs (out_pe I₂ (st₁.trans st₂))
  · cases h4
theorem evs_len : ∀ (n : Nat) {sc : Scope} {es : List Expr} {m : Lm} {σ : Sto} {vs : List MV} {σ' : Sto}, evs X.S n sc es m σ = some (vs, σ') → vs.length = es.length
  | 0, _, _, _, _, _, _, h => by simp [evs] at h
  | n + 1, sc, [], m, σ, vs, σ', h => by simp only [evs] at h; cases h; rfl
  | n + 1, sc, e :: es, m, σ, vs, σ', h => by
    simp only [evs] at h
    obtain ⟨⟨v, σ₁⟩, h1, h2⟩ := Option.bind_eq_some_iff.mp h
    obtain ⟨⟨ws, σ₂⟩, h3, h4⟩ := Option.map_eq_some_iff.mp h2
    cases h4
    simp [evs_len n h3]
theorem VAll.length {ρ : Rho} {h : Heap} {vs : List MV} {xs : List Value} (x : VAll ρ h vs xs) : vs.length = xs.length := by
  induction x with
  | nil => rfl
  | cons _ _ ih => simp [ih]
set_option maxHeartbeats 8000000 in
theorem simE_succ (H : SimE X n) (Hs : SimEs X n) (Hi : SimI X n) (Ha : SimAnd X n) (Ho : SimOr X n) (Hc : SimCall X n) (Hd : SimD X (n + 1)) (Hl : SimLC X (n + 1)) : SimE X (n + 1) := by
  intro sc e m σ v σ' h A env fr ρ s E L I
  have L' := L.mono (Nat.le_succ n)
  cases e with
  | Constant c k pos =>
    simp only [ev] at h
    obtain ⟨u, h1, h2⟩ := Option.map_eq_some_iff.mp h
    obtain ⟨rfl, rfl⟩ := Prod.mk.inj h2
    exact const_eval I h1
  | Name x pos =>
    simp only [ev] at h
    split at h
    · cases h
    · rename_i hd
      have hd : (x == ("__debug__" : Str)) = false := Bool.eq_false_iff.mpr hd
      split at h
      · rename_i hk
        obtain ⟨u, h1, h2⟩ := Option.map_eq_some_iff.mp h
        obtain ⟨rfl, rfl⟩ := Prod.mk.inj h2
        exact name_local L' I hd (.inl hk) h1 fun y hy => ⟨I, hy, Stp.refl _⟩
      · rename_i hk
        obtain ⟨u, h1, h2⟩ := Option.map_eq_some_iff.mp h
        obtain ⟨rfl, rfl⟩ := Prod.mk.inj h2
        exact name_local L' I hd (.inr (.inl hk)) h1 fun y hy => ⟨I, hy, Stp.refl _⟩
      · rename_i hk
        split at h
        · cases h
        · rename_i hc
          obtain ⟨u, h1, h2⟩ := Option.map_eq_some_iff.mp h
          obtain ⟨rfl, rfl⟩ := Prod.mk.inj h2
          exact name_local L' I hd (.inr (.inr ⟨hk, Bool.eq_false_iff.mpr hc⟩)) h1 fun y hy => ⟨I, hy, Stp.refl _⟩
      · rename_i hk
        obtain ⟨u, h1, h2⟩ := Option.map_eq_some_iff.mp h
        obtain ⟨rfl, rfl⟩ := Prod.mk.inj h2
        exact name_global L' I hd hk h1 ⟨I, ofVal_is _ _ _, Stp.refl _⟩
      · cases h
  | Attribute o name pos =>
    simp only [ev] at h
    split at h
    · rename_i hb
      obtain ⟨⟨u, σ₁⟩, h1, h2⟩ := Option.bind_eq_some_iff.mp h
      refine attr_eval hb (SimE.use H h1 L' I fun x s₁ I₁ v₁ st₁ => ?_)
      dsimp only at h2
      split at h2
      · split at h2
        · rename_i hn
          obtain ⟨a, h3, h4⟩ := Option.map_eq_some_iff.mp h2
          obtain ⟨rfl, rfl⟩ := Prod.mk.inj h4
          exact self_get X.base I₁.base I₁.rep hn h3 v₁ (out_pe I₁ st₁)
        · cases h2
      · obtain ⟨a, h3, h4⟩ := Option.map_eq_some_iff.mp h2
        obtain ⟨rfl, rfl⟩ := Prod.mk.inj h4
        cases v₁
        exact stat_get I₁.base h3 (out_pe I₁ st₁)
      · cases h2
    · cases h
  | Subscript o i pos =>
    cases o with
    | Dict ks vs p => exact Hd _ _ _ _ _ _ _ _ _ _ h A env fr ρ s E L I
    | _ =>
      cases i with
      | Slice lo hi st p =>
        cases st with
        | none =>
          simp only [ev] at h
          obtain ⟨⟨u, σ₁⟩, h1, h2⟩ := Option.bind_eq_some_iff.mp h
          obtain ⟨⟨i1, σ₂⟩, h3, h4⟩ := Option.bind_eq_some_iff.mp h2
          obtain ⟨⟨i2, σ₃⟩, h5, h6⟩ := Option.bind_eq_some_iff.mp h4
          obtain ⟨r, h7, h8⟩ := Option.map_eq_some_iff.mp h6
          obtain ⟨rfl, rfl⟩ := Prod.mk.inj h8
          refine Subscript_ (SimE.use H h1 L' I fun x s₁ I₁ v₁ st₁ => slice_eval Hi L' I₁ h3 h5 fun va vb c s₂ I₂ p1 p2 hc st₂ => ?_)
          exact slice_wp I₂.live h7 (I₁.stepV st₂ v₁) p1 p2 hc (out_pe I₂ (st₁.trans st₂))
        | some st =>
          simp only [ev] at h
          obtain ⟨⟨u, σ₁⟩, h1, h2⟩ := Option.bind_eq_some_iff.mp h
          obtain ⟨⟨i1, σ₂⟩, h3, h4⟩ := Option.bind_eq_some_iff.mp h2
          cases n <;> simp [ev] at h3
      | _ =>
        simp only [ev] at h
        exact sub_general H L' I (fun _ _ _ _ q => nomatch q) h
  | BinOp l op r pos =>
    simp only [ev] at h
    obtain ⟨⟨u, σ₁⟩, h1, h2⟩ := Option.bind_eq_some_iff.mp h
    obtain ⟨⟨u2, σ₂⟩, h3, h4⟩ := Option.bind_eq_some_iff.mp h2
    obtain ⟨b, h5, h6⟩ := Option.map_eq_some_iff.mp h4
    obtain ⟨rfl, rfl⟩ := Prod.mk.inj h6
    refine wpAny_BinOp (SimE.use H h1 L' I fun x s₁ I₁ v₁ st₁ => SimE.use H h3 L' I₁ fun y s₂ I₂ v₂ st₂ => ?_)
    exact binop_wp I₂.live h5 (I₁.stepV st₂ v₁) v₂ (out_pe I₂ (st₁.trans st₂))
  | UnaryOp op x pos =>
    cases op with
    | Not =>
      simp only [ev] at h
      obtain ⟨⟨u, σ₁⟩, h1, h2⟩ := Option.bind_eq_some_iff.mp h
      obtain ⟨b, h5, h6⟩ := Option.map_eq_some_iff.mp h2
      obtain ⟨rfl, rfl⟩ := Prod.mk.inj h6
      refine wpAny_UnaryOp (SimE.use H h1 L' I fun x s₁ I₁ v₁ st₁ => not_value (truth_wp h5 v₁ fun tk => ?_))
      exact ⟨I₁.toks tk, rfl, st₁⟩
    | USub =>
      simp only [ev] at h
      obtain ⟨⟨u, σ₁⟩, h1, h2⟩ := Option.bind_eq_some_iff.mp h
      dsimp only at h2
      split at h2
      · obtain ⟨rfl, rfl⟩ := Prod.mk.inj (Option.some.inj h2)
        refine wpAny_UnaryOp (SimE.use H h1 L' I fun x s₁ I₁ v₁ st₁ => ?_)
        obtain ⟨t, rfl⟩ := v₁
        exact neg_int (out_tok (out_pe I₁ st₁) ⟨_, rfl⟩)
      · cases h2
    | _ => simp [ev] at h
  | Compare l ops rs pos =>
    cases ops with
    | nil => simp [ev] at h
    | cons op ops =>
      cases ops with
      | cons _ _ => simp [ev] at h
      | nil =>
        cases rs with
        | nil => simp [ev] at h
        | cons r rs =>
          cases rs with
          | cons _ _ => simp [ev] at h
          | nil =>
            simp only [ev] at h
            obtain ⟨⟨u, σ₁⟩, h1, h2⟩ := Option.bind_eq_some_iff.mp h
            obtain ⟨⟨u2, σ₂⟩, h3, h4⟩ := Option.bind_eq_some_iff.mp h2
            obtain ⟨b, h5, h6⟩ := Option.map_eq_some_iff.mp h4
            obtain ⟨rfl, rfl⟩ := Prod.mk.inj h6
            exact wpAny_Compare1 (compare_wpE H L' I h1 h3 h5 fun tk s' I' st' => ⟨I'.toks tk, rfl, st'⟩) (not_set h3)
  | BoolOp op es pos =>
    rw [arm_eval_BoolOp]
    cases op with
    | And => simp only [ev] at h; exact Ha _ _ _ _ _ _ h A env fr ρ s E pos L' I
    | Or => simp only [ev] at h; exact Ho _ _ _ _ _ _ h A env fr ρ s E pos L' I
  | List es pos =>
    simp only [ev] at h
    split at h
    · rename_i hz
      obtain ⟨⟨vs, σ₁⟩, h1, h2⟩ := Option.bind_eq_some_iff.mp h
      obtain ⟨l, h3, h4⟩ := Option.map_eq_some_iff.mp h2
      obtain ⟨rfl, rfl⟩ := Prod.mk.inj h4
      refine wpAny_List (wpAny_mono (Hs _ _ _ _ _ _ h1 A env fr ρ s E pos L' I) (fun xs s₁ ⟨I₁, v₁, st₁⟩ => ?_) fun _ _ x => x)
      have ha := ats_of v₁ h3
      refine ⟨?_, out_list I₁.live ha (out_pe I₁ st₁) (tk := s₁.toks) rfl⟩
      rw [← v₁.length, evs_len n h1, sizeLine_eq]; omega
    · cases h
  | Tuple es k pos =>
    simp only [ev] at h
    split at h
    · rename_i hz
      obtain ⟨⟨vs, σ₁⟩, h1, h2⟩ := Option.bind_eq_some_iff.mp h
      obtain ⟨l, h3, h4⟩ := Option.map_eq_some_iff.mp h2
      obtain ⟨rfl, rfl⟩ := Prod.mk.inj h4
      refine wpAny_Tuple (wpAny_mono (Hs _ _ _ _ _ _ h1 A env fr ρ s E pos L' I) (fun xs s₁ ⟨I₁, v₁, st₁⟩ => ?_) fun _ _ x => x)
      have ha := ats_of v₁ h3
      refine ⟨?_, out_tup I₁.live ha (out_pe I₁ st₁) (tk := s₁.toks)⟩
      rw [← v₁.length, evs_len n h1, sizeLine_eq]; omega
    · cases h
  | ListComp elt gens cs pos => exact Hl _ _ _ _ _ _ _ _ _ h A env fr ρ s E L I
  | Call f args kws pos =>
    cases kws with
    | cons _ _ => cases f <;> simp [ev] at h
    | nil =>
      cases f with
      | Name x fp => exact call_name Hs Hc H L I h
      | Attribute o name ap => exact call_attr Hs Hc H L I h
      | _ => simp [ev] at h
  | _ => simp [ev] at h
end
end Ind
set_option maxRecDepth 100000
set_option Elab.async false
namespace Ind
open PySem PySem.W PySem.Calls PyProof.Rows
structure RExt (ρ ρ' : Rho) (h : Heap) : Prop where
  st : ∀ p, ρ.st = some p → ρ'.st = some p
  ls : ∀ (i : Nat) (a : Addr), ρ.ls[i]? = some a → ρ'.ls[i]? = some a
  new : ∀ b ∈ ρ'.mu, b ∉ ρ.mu → h.get? b = none
theorem RExt.refl (ρ : Rho) (h : Heap) : RExt ρ ρ h := ⟨fun _ e => e, fun _ _ e => e, fun _ a b => absurd a b⟩
def FlowIs (ρ : Rho) (h : Heap) : Out → Flow → Prop
  | .next, fl => fl = .next
  | .brk, fl => fl = .brk
  | .cont, fl => fl = .cont
  | .ret v, fl => ∃ x, fl = .ret x ∧ VIs ρ h v x
  | .exc _, _ => False
variable (X : Cx)
def QS (env : Env) (fr : List Env) (ρ : Rho) (top : Bool) (s₀ : Shared) (o : Out) (m : Lm) (σ : Sto) : Flow → Shared → Prop := fun fl s =>
  ∃ ρ', (top = false → ρ' = ρ) ∧ RExt ρ ρ' s₀.heap ∧ Ix X env fr ρ' m σ s ∧ FlowIs ρ' s.heap o fl ∧ Stp env fr ρ s₀.heap s.heap
def ES (env : Env) (fr : List Env) (ρ : Rho) (top : Bool) (s₀ : Shared) (o : Out) (m : Lm) (σ : Sto) : Value → Shared → Prop := fun e s =>
  ∃ k ρ' ea h0, o = .exc k ∧ k ∈ X.S.exc.map (·.2) ∧ (top = false → ρ' = ρ) ∧ RExt ρ ρ' s₀.heap ∧ e = .ref ea ∧ Heap.MadeExcOf h0 s.heap ea (.ref k) [] ∧ Ix X env fr ρ' m σ ⟨h0, s.gens, s.drawn, s.toks, s.os⟩ ∧ Stp env fr ρ s₀.heap h0
def Own (env : Env) (fr : List Env) : Prop := (∃ outer, fr = env :: outer) ∧ env.frame = some env.locals
def SimX (n : Nat) : Prop := ∀ top sc st m σ o m' σ', ex X.S n top sc st m σ = some (o, m', σ') → ∀ A env fr ρ s, Lok A n env fr sc → Own env fr → Ix X env fr ρ m σ s →
  wpAny (model X.prog X.w) A (exec st env) (QS X env fr ρ top s o m' σ') (ES X env fr ρ top s o m' σ') s
def SimXs (n : Nat) : Prop := ∀ top sc b m σ o m' σ', exs X.S n top sc b m σ = some (o, m', σ') → ∀ A env fr ρ s, Lok A n env fr sc → Own env fr → Ix X env fr ρ m σ s →
  wpAny (model X.prog X.w) A (execs b env) (QS X env fr ρ top s o m' σ') (ES X env fr ρ top s o m' σ') s
def NoExc : Out → Prop
  | .exc _ => False
  | _ => True
section
variable {X}
variable {A : Around} {env : Env} {fr : List Env} {ρ ρ' ρ'' : Rho} {m m' : Lm} {σ σ' : Sto} {s s₀ s₁ : Shared} {E : Value → Shared → Prop} {sc : Scope} {n : Nat} {top : Bool} {o : Out}
theorem ES.none (h : ES X env fr ρ top s₀ o m σ (v : Value) s) (hn : NoExc o) : False := by
  obtain ⟨k, _, _, _, rfl, _⟩ := h
  exact hn
theorem stp_dom {h h' : Heap} {mv : Str → Option Value} (st : Stp env fr ρ h h') (hl : h'.Ns env.locals mv) (R : ∀ a ∈ ρ.mu, (h'.get? a).isSome = true) {b : Addr} {x : Obj} (e : h.get? b = some x) : (h'.get? b).isSome = true := by
  by_cases q : b = env.locals
  · obtain ⟨o, _, _, ho, _⟩ := hl
    rw [q, ho]; rfl
  · by_cases r : b ∈ ρ.mu
    · exact R b r
    · obtain ⟨_, sl, e'⟩ := st b x e q r
      rw [e']; rfl
theorem mu_sub (r : RExt ρ ρ' h) : ∀ a ∈ ρ.mu, a ∈ ρ'.mu := by
  intro a ha
  unfold Rho.mu at ha ⊢
  rcases List.mem_append.mp ha with ha | ha
  · split at ha
    · rename_i x d e
      rw [r.st _ e]
      exact List.mem_append_left _ ha
    · cases ha
  · obtain ⟨i, hi, rfl⟩ := List.getElem_of_mem ha
    exact List.mem_append_right _ (List.mem_of_getElem? (r.ls i _ (List.getElem?_eq_getElem hi)))
theorem RExt.trans {h h' : Heap} (a : RExt ρ ρ' h) (b : RExt ρ' ρ'' h') (d : ∀ c x, h.get? c = some x → (h'.get? c).isSome = true) : RExt ρ ρ'' h :=
  ⟨fun p e => b.st p (a.st p e), fun i x e => b.ls i x (a.ls i x e), fun c h1 h2 => by
    by_cases q : c ∈ ρ'.mu
    · exact a.new c q h2
    · have := b.new c h1 q
      cases e : h.get? c with
      | none => rfl
      | some x => have z := d c x e; rw [this] at z; cases z⟩
theorem qs_after {s₁ : Shared} (hρ : top = false → ρ' = ρ) (r : RExt ρ ρ' s₀.heap) (I₁ : Ix X env fr ρ' m σ s₁) (st : Stp env fr ρ s₀.heap s₁.heap) {fl : Flow} (h : QS X env fr ρ' top s₁ o m' σ' fl s) : QS X env fr ρ top s₀ o m' σ' fl s := by
  obtain ⟨ρ₂, h1, h2, h3, h4, h5⟩ := h
  obtain ⟨mv, hn, _⟩ := I₁.loc
  refine ⟨ρ₂, fun t => (h1 t).trans (hρ t), r.trans h2 fun c x e => stp_dom st hn (fun a ha => I₁.rep.live a (mu_sub r a ha)) e, h3, h4, st.ext h5 r.new⟩
theorem es_after {s₁ : Shared} (hρ : top = false → ρ' = ρ) (r : RExt ρ ρ' s₀.heap) (I₁ : Ix X env fr ρ' m σ s₁) (st : Stp env fr ρ s₀.heap s₁.heap) {e : Value} (h : ES X env fr ρ' top s₁ o m' σ' e s) : ES X env fr ρ top s₀ o m' σ' e s := by
  obtain ⟨k, ρ₂, ea, h0, e1, hk, h1, h2, e2, h3, h4, h5⟩ := h
  obtain ⟨mv, hn, _⟩ := I₁.loc
  exact ⟨k, ρ₂, ea, h0, e1, hk, fun t => (h1 t).trans (hρ t), r.trans h2 fun c x e => stp_dom st hn (fun a ha => I₁.rep.live a (mu_sub r a ha)) e, e2, h3, h4, st.ext h5 r.new⟩
theorem qs_here (I : Ix X env fr ρ m σ s) (st : Stp env fr ρ s₀.heap s.heap) {fl : Flow} (h : FlowIs ρ s.heap o fl) : QS X env fr ρ top s₀ o m σ fl s := ⟨ρ, fun _ => rfl, .refl _ _, I, h, st⟩
theorem qs_of {s₁ : Shared} (I₁ : Ix X env fr ρ m σ s₁) (st : Stp env fr ρ s₀.heap s₁.heap) {fl : Flow} (h : QS X env fr ρ top s₁ o m' σ' fl s) : QS X env fr ρ top s₀ o m' σ' fl s := qs_after (fun _ => rfl) (.refl _ _) I₁ st h
theorem es_of {s₁ : Shared} (I₁ : Ix X env fr ρ m σ s₁) (st : Stp env fr ρ s₀.heap s₁.heap) {e : Value} (h : ES X env fr ρ top s₁ o m' σ' e s) : ES X env fr ρ top s₀ o m' σ' e s := es_after (fun _ => rfl) (.refl _ _) I₁ st h
theorem swaps_no {e : Expr} (h : notComp e = true) (t : Option Expr) (l : Nat) : swapsWith e t l env = pure false := by
  cases e <;> first | rfl | cases h
theorem not_interactive (L : Lok A n env fr sc) : interactive env = false := by
  unfold interactive
  rw [L.scope, L.kind]; rfl
theorem store_name {x : Str} {v : MV} {val : Value} {Q : Unit → Shared → Prop} (L : Lok A n env fr sc) (I : Ix X env fr ρ m σ s) (hk : sc.names.lookup x = some .local) (hv : VIs ρ s.heap v val)
    (k : ∀ h' tk, Ix X env fr ρ (m.set x v) σ { s with heap := h', toks := tk } → Stp env fr ρ s.heap h' → Q () { s with heap := h', toks := tk }) : wpAny (model X.prog X.w) A (storeName env x val) Q E s := by
  obtain ⟨mv, hn, hl⟩ := I.loc
  have hk' : env.kindOf x = some .local := by unfold Env.kindOf; rw [L.scope]; exact hk
  refine wpAny_storeName_local hk' hn (fun h' hn' hs' => ?_) (by rw [L.scope, L.kind]; rfl)
  obtain ⟨I', st⟩ := I.store (tk := s.toks + 1) hn hl hk' hv hn' hs'
  exact k _ _ I' st
theorem assign_plain {x : Str} {e : Expr} {v : MV} {p pos : Pos} (H : SimE X n) (L : Lok A n env fr sc) (I : Ix X env fr ρ m σ s) (hk : sc.names.lookup x = some .local) (hc : notComp e = true) (h : ev X.S n sc e m σ = some (v, σ')) :
    wpAny (model X.prog X.w) A (exec (.Assign [.Name x p] e pos) env) (QS X env fr ρ top s .next (m.set x v) σ') E s := by
  refine wpAny_Assign_Name (SimE.use H h L I fun y s₁ I₁ v₁ st₁ => store_name L I₁ hk v₁ fun h' tk I' st' => ?_) (swaps_no hc _ _)
  exact qs_here I' (st₁.trans st') rfl
theorem return_eval {e : Expr} {v : MV} {pos : Pos} (H : SimE X n) (L : Lok A n env fr sc) (I : Ix X env fr ρ m σ s) (h : ev X.S n sc e m σ = some (v, σ')) :
    wpAny (model X.prog X.w) A (exec (.Return (some e) pos) env) (QS X env fr ρ top s (.ret v) m σ') E s :=
  wpAny_Return_some (SimE.use H h L I fun y s₁ I₁ v₁ st₁ => qs_here I₁ st₁ ⟨y, rfl, v₁⟩)
theorem expr_stmt {e : Expr} {a : At} {pos : Pos} (H : SimE X n) (L : Lok A n env fr sc) (I : Ix X env fr ρ m σ s) (hc : notComp e = true) (h : ev X.S n sc e m σ = some (.at a, σ')) :
    wpAny (model X.prog X.w) A (exec (.Expr e pos) env) (QS X env fr ρ top s .next m σ') E s := by
  refine wpAny_Expr (SimE.use H h L I fun y s₁ I₁ v₁ st₁ => ?_) (not_interactive L) (swaps_no hc _ _)
  have done : QS X env fr ρ top s .next m σ' .next s₁ := qs_here I₁ st₁ rfl
  cases a with
  | none => cases v₁; exact done
  | bool b => cases v₁; exact done
  | int i => obtain ⟨t, rfl⟩ := v₁; exact done
  | str l => obtain ⟨t, rfl⟩ := v₁; exact done
theorem attr_stmt {e ob : Expr} {name : Str} {a : At} {p pos : Pos} {σ₁ σ₂ : Sto} (H : SimE X n) (L : Lok A n env fr sc) (I : Ix X env fr ρ m σ s) (hc : notComp e = true) (h : ev X.S n sc e m σ = some (.at a, σ₁)) (h2 : ev X.S n sc ob m σ₁ = some (.self, σ₂))
    (hn : name ∈ X.S.fields) (hp : σ₂.put name a = some σ') : wpAny (model X.prog X.w) A (exec (.Assign [.Attribute ob name p] e pos) env) (QS X env fr ρ top s .next m σ') E s := by
  refine plainObj_wpAny_Assign_Attribute (SimE.use H h L I fun y s₁ I₁ v₁ st₁ => SimE.use H h2 L I₁ fun z s₂ I₂ v₂ st₂ => ?_) (swaps_no hc _ _)
  refine self_set X.base I₂ hn hp v₂ (I₁.stepV st₂ v₁) fun h' tk I' st' => ?_
  exact qs_here I' ((st₁.trans st₂).trans st') rfl
theorem aug_name {x : Str} {e : Expr} {a b r : At} {op : Operator} {p pos : Pos} (H : SimE X n) (L : Lok A n env fr sc) (I : Ix X env fr ρ m σ s) (hk : sc.names.lookup x = some .local) (hm : m x = some (.at a)) (h : ev X.S n sc e m σ = some (.at b, σ'))
    (ho : augop op (.at a) (.at b) = some r) : wpAny (model X.prog X.w) A (exec (.AugAssign (.Name x p) op e pos) env) (QS X env fr ρ top s .next (m.set x (.at r)) σ') E s := by
  obtain ⟨mv, hn, hl⟩ := I.loc
  have hkind : env.scope.kind = .function := by rw [L.scope]; exact L.kind
  have hk' : env.kindOf x = some .local := by unfold Env.kindOf; rw [L.scope]; exact hk
  have q := hl x _ hm
  unfold Holds at q
  rw [hk'] at q
  obtain ⟨val, e1, e2⟩ := q
  refine wpAny_AugAssign_Name (wpAny_loadName_local hkind hk' hn e1 ?_)
  refine SimE.use H h L I fun y s₁ I₁ v₁ st₁ => ?_
  refine augop_wp ho (show VIs ρ s₁.heap (.at a) val from e2) v₁ fun z h' tk hk2 hz => ?_
  exact store_name L (I₁.keeps hk2) hk hz fun h'' tk' I' st' => qs_here I' ((st₁.trans (Stp.of_keeps hk2)).trans st') rfl
theorem aug_attr {ob e : Expr} {name : Str} {a b r : At} {op : Operator} {p pos : Pos} {σ₁ σ₂ : Sto} (H : SimE X n) (L : Lok A n env fr sc) (I : Ix X env fr ρ m σ s) (h0 : ev X.S n sc ob m σ = some (.self, σ₁)) (hn : name ∈ X.S.fields) (hf : σ₁.f name = some a)
    (h : ev X.S n sc e m σ₁ = some (.at b, σ₂)) (ho : augop op (.at a) (.at b) = some r) (hp : σ₂.put name r = some σ') : wpAny (model X.prog X.w) A (exec (.AugAssign (.Attribute ob name p) op e pos) env) (QS X env fr ρ top s .next m σ') E s := by
  refine wpAny_AugAssign_AttributeAny (SimE.use H h0 L I fun ov s₁ I₁ v₁ st₁ => ?_)
  refine self_get X.base I₁.base I₁.rep hn hf v₁ fun old h' tk hk2 hold => ?_
  have I₂ : Ix X env fr ρ m σ₁ { s₁ with heap := h', toks := tk } := I₁.keeps hk2
  have st₂ : Stp env fr ρ s₁.heap h' := Stp.of_keeps hk2
  refine SimE.use H h L I₂ fun y s₃ I₃ v₃ st₃ => ?_
  refine augop_wp ho (show VIs ρ s₃.heap (.at a) old from hold) v₃ fun z h4 tk4 hk4 hz => ?_
  have I₄ : Ix X env fr ρ m σ₂ { s₃ with heap := h4, toks := tk4 } := I₃.keeps hk4
  have v4 : VIs ρ h4 .self ov := v₁
  refine self_set X.base I₄ hn hp v4 hz fun h5 tk5 I' st' => ?_
  exact qs_here I' ((((st₁.trans st₂).trans st₃).trans (Stp.of_keeps hk4)).trans st') rfl
end
end Ind
set_option maxRecDepth 100000
set_option Elab.async false
namespace Ind
open PySem PySem.W PySem.Calls PyProof.Rows
section
variable {X : Cx}
variable {A : Around} {env : Env} {fr : List Env} {ρ ρ' ρ'' : Rho} {m m' : Lm} {σ σ' : Sto} {s s₀ s₁ : Shared} {E : Value → Shared → Prop} {sc : Scope} {n : Nat} {top : Bool} {o : Out}
theorem trip {o₁ o : Out} {m₁ m' : Lm} {σ₁ σ' : Sto} (h : some (o₁, m₁, σ₁) = some (o, m', σ')) : o₁ = o ∧ m₁ = m' ∧ σ₁ = σ' := by
  cases h; exact ⟨rfl, rfl, rfl⟩
theorem flow_next {fl : Flow} (h : FlowIs ρ s.heap .next fl) : fl = .next := h
theorem simXs_succ (H : SimX X n) (Hs : SimXs X n) : SimXs X (n + 1) := by
  intro top sc b m σ o m' σ' h A env fr ρ s L O I
  have L' := L.mono (Nat.le_succ n)
  cases b with
  | nil =>
    simp only [exs] at h
    obtain ⟨rfl, rfl, rfl⟩ := trip h
    exact wpAny_execs_nil (qs_here I (Stp.refl _) rfl)
  | cons st rest =>
    simp only [exs] at h
    obtain ⟨⟨o₁, m₁, σ₁⟩, h1, h2⟩ := Option.bind_eq_some_iff.mp h
    refine wpAny_execs_cons (wpAny_mono (H _ _ _ _ _ _ _ _ h1 A env fr ρ s L' O I) (fun fl s₁ q => ?_) fun e s₁ q => ?_)
    · obtain ⟨ρ₁, e1, e2, I₁, hf, st₁⟩ := q
      dsimp only at h2
      cases o₁ with
      | next =>
        obtain rfl : fl = .next := hf
        exact wpAny_mono (Hs _ _ _ _ _ _ _ _ h2 A env fr ρ₁ s₁ L' O I₁) (fun _ _ q => qs_after e1 e2 I₁ st₁ q) fun _ _ q => es_after e1 e2 I₁ st₁ q
      | ret v =>
        obtain ⟨rfl, rfl, rfl⟩ := trip h2
        obtain ⟨x, rfl, hv⟩ := hf
        exact ⟨ρ₁, e1, e2, I₁, ⟨x, rfl, hv⟩, st₁⟩
      | brk =>
        obtain ⟨rfl, rfl, rfl⟩ := trip h2
        obtain rfl : fl = .brk := hf
        exact ⟨ρ₁, e1, e2, I₁, rfl, st₁⟩
      | cont =>
        obtain ⟨rfl, rfl, rfl⟩ := trip h2
        obtain rfl : fl = .cont := hf
        exact ⟨ρ₁, e1, e2, I₁, rfl, st₁⟩
      | exc k => exact hf.elim
    · obtain ⟨k, ρ₁, ea, h0, rfl, r⟩ := q
      dsimp only at h2
      obtain ⟨rfl, rfl, rfl⟩ := trip h2
      exact ⟨k, ρ₁, ea, h0, rfl, r⟩
theorem if_stmt {t : Expr} {b ob : List Stmt} {pos : Pos} (HT : SimT X n) (Hs : SimXs X n) (L : Lok A n env fr sc) (O : Own env fr) (I : Ix X env fr ρ m σ s)
    (h : ((test X.S n sc t m σ).bind fun (c, σ) => if c then exs X.S n top sc b m σ else exs X.S n top sc ob m σ) = some (o, m', σ')) :
    wpAny (model X.prog X.w) A (exec (.If t b ob pos) env) (QS X env fr ρ top s o m' σ') (ES X env fr ρ top s o m' σ') s := by
  obtain ⟨⟨c, σ₁⟩, h1, h2⟩ := Option.bind_eq_some_iff.mp h
  refine wpAny_If (wpAny_mono (HT _ _ _ _ _ _ h1 A env fr ρ s _ L I) (fun c' s₁ ⟨q, I₁, st₁⟩ => ?_) fun _ _ x => x)
  subst q
  cases c' with
  | true =>
    simp only [if_true] at h2 ⊢
    exact wpAny_mono (Hs _ _ _ _ _ _ _ _ h2 A env fr ρ s₁ L O I₁) (fun _ _ q => qs_of I₁ st₁ q) fun _ _ q => es_of I₁ st₁ q
  | false =>
    simp only [Bool.false_eq_true, if_false] at h2 ⊢
    exact wpAny_mono (Hs _ _ _ _ _ _ _ _ h2 A env fr ρ s₁ L O I₁) (fun _ _ q => qs_of I₁ st₁ q) fun _ _ q => es_of I₁ st₁ q
theorem while_stmt {t : Expr} {b : List Stmt} {pos : Pos} (HT : ∀ k, k < n → SimT X k) (Hs : ∀ k, k < n → SimXs X k) (L : Lok A n env fr sc) (O : Own env fr) (I : Ix X env fr ρ m σ s)
    (h : whil X.S n sc t b m σ = some (o, m', σ')) : wpAny (model X.prog X.w) A (exec (.While t b [] pos) env) (QS X env fr ρ top s o m' σ') E s := by
  have fin : ∀ {fl : Flow} {s₁ : Shared}, Ix X env fr ρ m' σ' s₁ → FlowIs ρ s₁.heap o fl → Stp env fr ρ s.heap s₁.heap → QS X env fr ρ top s o m' σ' fl s₁ := fun I f st => qs_here I st f
  refine wpAny_While (codeAny_whileLoop (fun k s₁ => k ≤ n ∧ ∃ m₁ σ₁, Ix X env fr ρ m₁ σ₁ s₁ ∧ Stp env fr ρ s.heap s₁.heap ∧ whil X.S k sc t b m₁ σ₁ = some (o, m', σ')) ?_ n ⟨Nat.le_refl _, m, σ, I, Stp.refl _, h⟩)
  rintro k s₁ ⟨hk, m₁, σ₁, I₁, st₁, hw⟩
  cases k with
  | zero => simp [whil] at hw
  | succ k =>
    simp only [whil] at hw
    obtain ⟨⟨c, σ₂⟩, h1, h2⟩ := Option.bind_eq_some_iff.mp hw
    have Lk := L.mono (show k ≤ n by omega)
    refine wpAny_mono (HT k (by omega) _ _ _ _ _ _ h1 A env fr ρ s₁ _ Lk I₁) (fun c' s₂ ⟨q, I₂, st₂⟩ => ?_) fun _ _ x => x
    subst q
    cases c' with
    | false =>
      simp only [Bool.false_eq_true, if_false] at h2 ⊢
      obtain ⟨rfl, rfl, rfl⟩ := trip h2
      exact wpAny_execs_nil (fin I₂ rfl (st₁.trans st₂))
    | true =>
      simp only [if_true] at h2 ⊢
      obtain ⟨⟨o₂, m₂, σ₃⟩, h3, h4⟩ := Option.bind_eq_some_iff.mp h2
      have ne : NoExc o₂ := by cases o₂ <;> first | trivial | (simp at h4)
      refine wpAny_mono (Hs k (by omega) _ _ _ _ _ _ _ _ h3 A env fr ρ s₂ Lk O I₂) (fun fl s₃ q => ?_) fun e s₃ q => (ES.none q ne).elim
      obtain ⟨ρ₃, e1, e2, I₃, hf, st₃⟩ := q
      obtain rfl := e1 rfl
      have st := (st₁.trans st₂).trans st₃
      dsimp only at h4
      cases o₂ with
      | next =>
        obtain rfl : fl = .next := hf
        exact ⟨k, Nat.lt_succ_self k, by omega, m₂, σ₃, I₃, st, h4⟩
      | cont =>
        obtain rfl : fl = .cont := hf
        exact ⟨k, Nat.lt_succ_self k, by omega, m₂, σ₃, I₃, st, h4⟩
      | brk =>
        obtain rfl : fl = .brk := hf
        obtain ⟨rfl, rfl, rfl⟩ := trip h4
        exact fin I₃ rfl st
      | ret v =>
        obtain ⟨x, rfl, hv⟩ := hf
        obtain ⟨rfl, rfl, rfl⟩ := trip h4
        exact fin I₃ ⟨x, rfl, hv⟩ st
      | exc k => exact hf.elim
theorem Iv.but {C : Addr} {hb : Heap} {os : OsState} (I : Iv C hb os env fr ρ m σ s) {h' : Heap} {tk : Tok} (k : ∀ b o, (∀ vs, o.data ≠ .fields vs) → s.heap.get? b = some o → h'.get? b = some o) (kb : hb.StaysIn h') :
    Iv C hb os env fr ρ m σ { s with heap := h', toks := tk } := by
  obtain ⟨mv, hn, hl⟩ := I.loc
  have hn' : h'.Ns env.locals mv := by
    obtain ⟨o, es, ep, e1, e2, r⟩ := hn
    exact ⟨o, es, ep, k _ _ (fun vs q => by rw [e2] at q; cases q) e1, e2, r⟩
  have st : ∀ {v : MV} {val : Value}, VIs ρ s.heap v val → VIs ρ h' v val := by
    intro v val hv
    cases v with
    | list l =>
      obtain ⟨a, vs, e, hm, ⟨o, e1, e2, n, e3⟩, ha⟩ := hv
      exact ⟨a, vs, e, hm, ⟨o, k _ _ (fun vs q => by rw [e3] at q; cases q) e1, e2, n, e3⟩, ha⟩
    | tup l =>
      obtain ⟨a, vs, e, hm, ⟨o, n, e1, e2, e3⟩, ha⟩ := hv
      exact ⟨a, vs, e, hm, ⟨o, n, k _ _ (fun vs q => by rw [e3] at q; cases q) e1, e2, e3⟩, ha⟩
    | _ => exact hv
  refine ⟨kb, ?_, ⟨mv, hn', fun x v e => ?_⟩, I.lnew, I.lmu, fun e he => ?_, I.gens, I.os⟩
  · have R := I.rep
    refine ⟨?_, R.len, fun i l a h1 h2 => ?_, R.nodup, R.new⟩
    · have q := R.stem
      split
      · rename_i a d e
        rw [e] at q
        exact ⟨q.1, k _ _ (fun vs q => by cases q) q.2.obj, let ⟨es, n, e1, e2⟩ := q.2.dict; ⟨es, n, k _ _ (fun vs q => by cases q) e1, e2⟩⟩
      · rename_i e; rw [e] at q; exact q
    · obtain ⟨vs, n, e1, e2⟩ := R.lists i l a h1 h2
      exact ⟨vs, n, k _ _ (fun vs q => by cases q) e1, e2⟩
  · have q := hl x v e
    have cell : ∀ {c : Addr} {val : Value}, s.heap.IsCell c (some val) → h'.IsCell c (some val) := fun {c val} q => by
      obtain ⟨o, e, d⟩ := q
      exact ⟨o, k _ _ (fun vs q => by rw [d] at q; cases q) e, d⟩
    unfold Holds at q ⊢
    split at q
    · obtain ⟨u, e1, e2⟩ := q; exact ⟨u, e1, st e2⟩
    · obtain ⟨c, u, e1, e2, e3⟩ := q; exact ⟨c, u, e1, cell e2, st e3⟩
    · obtain ⟨c, u, e1, e2, e3⟩ := q; exact ⟨c, u, e1, cell e2, st e3⟩
    · trivial
  · obtain ⟨hk, L, o, es, ep, e1, e2, e3, e4, e5⟩ := I.frs e he
    exact ⟨hk, L, o, es, ep, e1, e2, k _ _ (fun vs q => by rw [e4] at q; cases q) e3, e4, e5⟩
theorem stp_item {h₀ h₁ h' : Heap} {wr : List Addr} (st : Stp env fr ρ h₀ h₁) (hw : ∀ c ∈ wr, h₀.get? c = none) (k : ∀ b o, b ∉ wr → h₁.get? b = some o → h'.get? b = some o) : Stp env fr ρ h₀ h' := fun b o e h1 h2 => by
  obtain ⟨a, sl, e2⟩ := st b o e h1 h2
  have hb : b ∉ wr := fun q => by rw [hw b q] at e; cases e
  exact ⟨fun q => k b o hb (a q), sl, k b _ hb e2⟩
theorem for_loop {x : Str} {px : Pos} {b : List Stmt} {It : Addr} {fp wr : List Addr} {N : Nat} {P : Nat → Value → Prop} {St : Nat → Heap → Prop} {l : List At} {R : Result → Shared → Prop}
    (W : Walks X.prog X.w A It fp wr N P St) (hN : l.length = N) (hP : ∀ i v a, P i v → l[i]? = some a → AtIs a v)
    (Hs : ∀ k, k < n → SimXs X k) (L : Lok A n env fr sc) (O : Own env fr) (hk : sc.names.lookup x = some .local) (I : Ix X env fr ρ m σ s) (h0 : St 0 s.heap)
    (hfp : ∀ c ∈ fp, c ≠ env.locals ∧ c ∉ ρ.mu ∧ c ∉ frA fr) (hw : ∀ i h, St i h → ∀ c ∈ wr, ∃ o, h.get? c = some o ∧ ∃ vs, o.data = .fields vs)
    (hnew : ∀ c ∈ wr, s₀.heap.get? c = none ∧ X.hb.get? c = none) (st₀ : Stp env fr ρ s₀.heap s.heap)
    (h : fo X.S n sc x b l m σ = some (o, m', σ'))
    (fin : ∀ {fl : Flow} {s₁ : Shared}, Ix X env fr ρ m' σ' s₁ → FlowIs ρ s₁.heap o fl → Stp env fr ρ s₀.heap s₁.heap → R (.ok fl) s₁) :
    codeAny (model X.prog X.w) A (.forLoop (.Name x px) (.ref It) b [] env) R s := by
  refine codeAny_forLoop_any (fun k s₁ => k ≤ n ∧ ∃ i m₁ σ₁, i + (l.drop i).length = N ∧ St i s₁.heap ∧ Ix X env fr ρ m₁ σ₁ s₁ ∧ Stp env fr ρ s₀.heap s₁.heap ∧ fo X.S k sc x b (l.drop i) m₁ σ₁ = some (o, m', σ')) ?_ n
    ⟨Nat.le_refl _, 0, m, σ, by simp [hN], h0, I, st₀, h⟩
  rintro k s₁ ⟨hkn, i, m₁, σ₁, hi, hst, I₁, st₁, hf⟩
  cases k with
  | zero => simp [fo] at hf
  | succ k =>
    have after : ∀ {h' : Heap} {tk : Tok}, (∀ b o, b ∉ wr → s₁.heap.get? b = some o → h'.get? b = some o) → Ix X env fr ρ m₁ σ₁ { s₁ with heap := h', toks := tk } ∧ Stp env fr ρ s₀.heap h' := fun {h' tk} kk => by
      refine ⟨I₁.but (fun b o hd e => kk b o (fun q => ?_) e) (fun b o e => kk b o (fun q => ?_) (I₁.base b o e)), stp_item st₁ (fun c hc => (hnew c hc).1) kk⟩
      · obtain ⟨o', e', vs, d⟩ := hw _ _ hst b q
        rw [e] at e'; cases e'; exact hd vs d
      · rw [(hnew b q).2] at e; cases e
    cases hd : l.drop i with
    | nil =>
      rw [hd] at hf hi
      simp only [fo] at hf
      obtain ⟨rfl, rfl, rfl⟩ := trip hf
      have : i = N := by simpa using hi
      subst this
      refine W.done s₁ _ _ hst fun h' tk kk => ?_
      obtain ⟨I₂, st₂⟩ := after (tk := tk) kk
      exact wpAny_execs_nil (fin I₂ rfl st₂)
    | cons a r =>
      rw [hd] at hf hi
      simp only [fo] at hf
      obtain ⟨⟨o₂, m₂, σ₂⟩, h3, h4⟩ := Option.bind_eq_some_iff.mp hf
      have hlt : i < N := by rw [List.length_cons] at hi; omega
      have ha : l[i]? = some a := by
        have := congrArg (fun z : List At => z[0]?) hd
        simpa using this
      have hdr : l.drop (i + 1) = r := by
        have e1 : l.drop (i + 1) = (l.drop i).drop 1 := by rw [List.drop_drop]
        rw [e1, hd]; rfl
      refine W.item i s₁ _ _ hlt hst fun v h' tk hv hst' kk => ?_
      obtain ⟨I₂, st₂⟩ := after (tk := tk) kk
      refine wpAny_pure ?_
      have Lk := L.mono (show k ≤ n by omega)
      refine wpAny_assign_Name (store_name Lk I₂ hk (v := .at a) (hP i v a hv ha) fun h'' tk' I₃ st₃ => ?_)
      have stS : ∀ {i : Nat} {h h' : Heap}, St i h → Stp env fr ρ h h' → St i h' := fun hs hx => W.frame _ _ _ hs fun c hc o e => (hx c o e (hfp c hc).1 (hfp c hc).2.1).1 (hfp c hc).2.2
      have ne : NoExc o₂ := by cases o₂ <;> first | trivial | (simp at h4)
      refine wpAny_mono (Hs k (by omega) _ _ _ _ _ _ _ _ h3 A env fr ρ _ Lk O I₃) (fun fl s₃ q => ?_) fun e s₃ q => (ES.none q ne).elim
      obtain ⟨ρ₃, e1, e2, I₄, hfl, st₄⟩ := q
      obtain rfl := e1 rfl
      have st := (st₂.trans st₃).trans st₄
      dsimp only at h4
      have nxt : ∀ (h4 : fo X.S k sc x b r m₂ σ₂ = some (o, m', σ')), ∃ k' , k' < k + 1 ∧ (k' ≤ n ∧ ∃ i m₁ σ₁, i + (l.drop i).length = N ∧ St i s₃.heap ∧ Ix X env fr ρ₃ m₁ σ₁ s₃ ∧ Stp env fr ρ₃ s₀.heap s₃.heap ∧ fo X.S k' sc x b (l.drop i) m₁ σ₁ = some (o, m', σ')) := fun h4 =>
        ⟨k, Nat.lt_succ_self k, by omega, i + 1, m₂, σ₂, by rw [hdr]; rw [List.length_cons] at hi; omega, stS (stS hst' st₃) st₄, I₄, st, by rw [hdr]; exact h4⟩
      cases o₂ with
      | next => obtain rfl : fl = .next := hfl; exact nxt h4
      | cont => obtain rfl : fl = .cont := hfl; exact nxt h4
      | brk =>
        obtain rfl : fl = .brk := hfl
        obtain ⟨rfl, rfl, rfl⟩ := trip h4
        exact fin I₄ rfl st
      | ret v =>
        obtain ⟨y, rfl, hv⟩ := hfl
        obtain ⟨rfl, rfl, rfl⟩ := trip h4
        exact fin I₄ ⟨y, rfl, hv⟩ st
      | exc k => exact hfl.elim
end
end Ind
set_option maxRecDepth 100000
set_option Elab.async false
namespace Ind
open PySem PySem.W PySem.Calls PyProof.Rows
section
variable {X : Cx}
variable {A : Around} {env : Env} {fr : List Env} {ρ ρ' ρ'' : Rho} {m m' : Lm} {σ σ' : Sto} {s s₀ s₁ : Shared} {E : Value → Shared → Prop} {sc : Scope} {n : Nat} {top : Bool} {o : Out}
theorem notSet_of_ev {e : Expr} {v} (h : ev X.S n sc e m σ = some v) : ∀ x, foldedSetIterable e env x = pure x := by
  intro x
  cases e <;> first | rfl | (cases n <;> simp [ev] at h)
theorem fresh_apart (I : Ix X env fr ρ m σ s) {c : Addr} (hc : s.heap.get? c = none) : c ≠ env.locals ∧ c ∉ ρ.mu ∧ c ∉ frA fr := by
  refine ⟨?_, I.live.fresh hc, ?_⟩
  · rintro rfl
    obtain ⟨mv, ⟨o, _, _, ho, _⟩, _⟩ := I.loc
    rw [hc] at ho; cases ho
  · intro q
    obtain ⟨e, he, hf⟩ := List.mem_filterMap.mp q
    obtain ⟨_, L, o, es, ep, e1, e2, e3, e4⟩ := I.frs e he
    rw [e1] at hf; cases hf
    rw [hc] at e3; cases e3
theorem seq_apart (I : Ix X env fr ρ m σ s) {c : Addr} {o : Obj} {its : Array Value} {k : Nat} (hc : s.heap.get? c = some o) (hd : o.data = .seq its k) : c ≠ env.locals ∧ c ∉ frA fr := by
  constructor
  · rintro rfl
    obtain ⟨mv, ⟨o', _, _, ho, hd', _⟩, _⟩ := I.loc
    rw [hc] at ho; cases ho; rw [hd] at hd'; cases hd'
  · intro q
    obtain ⟨e, he, hf⟩ := List.mem_filterMap.mp q
    obtain ⟨_, L, o', es, ep, e1, e2, e3, e4, _⟩ := I.frs e he
    rw [e1] at hf; cases hf
    rw [hc] at e3; cases e3; rw [hd] at e4; cases e4
theorem fresh_base (I : Ix X env fr ρ m σ s) {c : Addr} (hc : s.heap.get? c = none) : X.hb.get? c = none := by
  cases e : X.hb.get? c with
  | none => rfl
  | some o => have := I.base c o e; rw [hc] at this; cases this
theorem fresh_before {c : Addr} (I₀ : Ix X env fr ρ m σ s₀) (I₁ : Ix X env fr ρ m' σ' s₁) (st : Stp env fr ρ s₀.heap s₁.heap) (hc : s₁.heap.get? c = none) : s₀.heap.get? c = none := by
  cases e : s₀.heap.get? c with
  | none => rfl
  | some o =>
    obtain ⟨mv, hn, _⟩ := I₁.loc
    have := stp_dom st hn I₁.rep.live e
    rw [hc] at this; cases this
theorem for_list {x : Str} {it : Expr} {b : List Stmt} {px pos : Pos} {l : List At} {σ₁ : Sto} (H : SimE X n) (Hs : ∀ k, k < n → SimXs X k) (L : Lok A n env fr sc) (O : Own env fr) (I : Ix X env fr ρ m σ s) (hk : sc.names.lookup x = some .local)
    (h1 : ev X.S n sc it m σ = some (.list l, σ₁)) (h : fo X.S n sc x b l m σ₁ = some (o, m', σ')) :
    wpAny (model X.prog X.w) A (exec (.For (.Name x px) it b [] pos) env) (QS X env fr ρ top s o m' σ') E s := by
  refine wpAny_For (SimE.use H h1 L I fun y s₁ I₁ v₁ st₁ => ?_) (notSet_of_ev h1)
  obtain ⟨a, vs, rfl, hm, hl, ha⟩ := v₁
  have hlt : a < s₁.heap.objs.size := by obtain ⟨_, e, _⟩ := hl; exact Heap.lt_size e
  refine wpAny_pyIter_list hl ?_
  have I₂ := I₁.push { cls := .type "list_iterator", data := .fields #[.ref a, .int 0 0] }
  have st₂ : Stp env fr ρ s₁.heap (s₁.heap.push { cls := .type "list_iterator", data := .fields #[.ref a, .int 0 0] }) := Stp.of_keeps fun _ _ e => Heap.get?_push_of_some _ e
  refine for_loop (s₀ := s) (Walks.list L.handled _ a (Nat.ne_of_lt hlt) vs.toArray) (by rw [List.size_toArray]; exact ha.length) (fun i v a' hv ha' => ?_) Hs L O hk I₂ ⟨⟨_, Heap.get?_push_size _ rfl, rfl, rfl⟩, hl.push _⟩ ?_ ?_ ?_ (st₁.trans st₂) h fun I₃ f st => qs_here I₃ st f
  · obtain ⟨u, e1, e2⟩ := ha.get ha'
    have hv : vs.toArray[i]? = some v := hv
    rw [List.getElem?_toArray, e1] at hv; cases hv
    exact e2
  · intro c hc
    rcases List.mem_cons.mp hc with rfl | hc
    · have := fresh_apart I₁ get_size
      exact this
    · obtain rfl := List.mem_singleton.mp hc
      obtain ⟨o', e1, _, k, e2⟩ := hl
      have := seq_apart I₁ e1 e2
      exact ⟨this.1, hm, this.2⟩
  · intro i h hst c hc
    obtain rfl := List.mem_singleton.mp hc
    obtain ⟨⟨o', e1, _, e2⟩, _⟩ := hst
    exact ⟨o', e1, _, e2⟩
  · intro c hc
    obtain rfl := List.mem_singleton.mp hc
    exact ⟨fresh_before I I₁ st₁ get_size, fresh_base I₁ get_size⟩
theorem rangeUp_get (a k : Int) (i : Nat) (x : At) (h : ((rangeUp a k).map At.int)[i]? = some x) : x = .int (a + i) := by
  unfold rangeUp at h
  rw [List.getElem?_map, List.getElem?_map] at h
  by_cases q : i < (k - a).toNat
  · rw [List.getElem?_range q] at h
    simpa using h.symm
  · rw [List.getElem?_eq_none (by simpa using Nat.not_lt.mp q)] at h; cases h
theorem rangeDown_get (a k : Int) (i : Nat) (x : At) (h : ((rangeDown a k).map At.int)[i]? = some x) : x = .int (a - i) := by
  unfold rangeDown at h
  rw [List.getElem?_map, List.getElem?_map] at h
  by_cases q : i < (a - k).toNat
  · rw [List.getElem?_range q] at h
    simpa using h.symm
  · rw [List.getElem?_eq_none (by simpa using Nat.not_lt.mp q)] at h; cases h
theorem range_loop {x : Str} {b : List Stmt} {px : Pos} {l : List At} {σ₁ : Sto} {a k c : Int} {t u v : Tok} {r : Addr} (Hs : ∀ k, k < n → SimXs X k) (L : Lok A n env fr sc) (O : Own env fr) (I : Ix X env fr ρ m σ s) (hk : sc.names.lookup x = some .local)
    (I₁ : Ix X env fr ρ m σ₁ s₁) (st₁ : Stp env fr ρ s.heap s₁.heap) (hr : IsRange s₁.heap r a k c t u v) (hsm : Builtin.Range.small a k c = true) (hl : (l.length : Int) = Builtin.Range.rangeSize a k c) (hget : ∀ (i : Nat) y, l[i]? = some y → y = .int (a + i * c))
    (h : fo X.S n sc x b l m σ₁ = some (o, m', σ')) {Q : Flow → Shared → Prop} (hQ : ∀ fl s', QS X env fr ρ top s o m' σ' fl s' → Q fl s') :
    wpAny (model X.prog X.w) A (pyIter (.ref r)) (fun it s₂ => codeAny (model X.prog X.w) A (.forLoop (.Name x px) it b [] env) (fun r s' => match r with | .ok f => Q f s' | .error e => cameBackBy (model X.prog X.w) A env E e s') s₂) E s₁ := by
  refine wpAny_pyIter_range hr hsm ?_
  have I₂ := I₁.push { cls := .type "range_iterator", data := .fields #[rawInt a, rawInt (Builtin.Range.rangeSize a k c), rawInt c] }
  have st₂ : Stp env fr ρ s₁.heap (s₁.heap.push { cls := .type "range_iterator", data := .fields #[rawInt a, rawInt (Builtin.Range.rangeSize a k c), rawInt c] }) := Stp.of_keeps fun _ _ e => Heap.get?_push_of_some _ e
  refine for_loop (s₀ := s) (N := l.length) (Walks.range L.handled _ a c l.length) rfl (fun i w a' hv ha' => ?_) Hs L O hk I₂ ?_ ?_ ?_ ?_ (st₁.trans st₂) h fun I₃ f st => hQ _ _ (qs_here I₃ st f)
  · obtain ⟨t', rfl⟩ := hv
    rw [hget i a' ha']
    exact ⟨t', rfl⟩
  · have e1 : (a + ((0 : Nat) : Int) * c) = a := by simp
    have e2 : ((l.length : Int) - ((0 : Nat) : Int)) = Builtin.Range.rangeSize a k c := by rw [hl]; simp
    show IsRangeIter _ _ _ _ _
    rw [e1, e2]
    exact Heap.get?_push_size _ rfl
  · intro c' hc
    obtain rfl := List.mem_singleton.mp hc
    exact fresh_apart I₁ get_size
  · intro i h hst c' hc
    obtain rfl := List.mem_singleton.mp hc
    exact ⟨_, hst, _, rfl⟩
  · intro c' hc
    obtain rfl := List.mem_singleton.mp hc
    exact ⟨fresh_before I I₁ st₁ get_size, fresh_base I₁ get_size⟩
theorem rng_small {a k : Int} (h : rngOk a k = true) : a.natAbs < 1000000 ∧ k.natAbs < 1000000 := by
  unfold rngOk at h
  simpa using h
theorem for_range {x r : Str} {args : List Expr} {b : List Stmt} {px rp cp pos : Pos} {vs : List MV} {σ₁ : Sto} (Hk : SimEs X n) (Hs : ∀ k, k < n → SimXs X k) (L : Lok A n env fr sc) (O : Own env fr) (I : Ix X env fr ρ m σ s)
    (hk : sc.names.lookup x = some .local) (hr : sc.names.lookup r = some .globalImplicit) (hd : (r == ("__debug__" : Str)) = false) (hg : globIn X.S r = some (.type "range")) (hp : args.all notStar = true)
    (h : (match vs with
        | [.at (.int k)] => if rngOk 0 k then fo X.S n sc x b ((rangeUp 0 k).map .int) m σ₁ else none
        | [.at (.int a), .at (.int k)] => if rngOk a k then fo X.S n sc x b ((rangeUp a k).map .int) m σ₁ else none
        | [.at (.int a), .at (.int k), .at (.int (-1))] => if rngOk a k then fo X.S n sc x b ((rangeDown a k).map .int) m σ₁ else none
        | _ => none) = some (o, m', σ')) (h1 : evs X.S n sc args m σ = some (vs, σ₁)) :
    wpAny (model X.prog X.w) A (exec (.For (.Name x px) (.Call (.Name r rp) args [] cp) b [] pos) env) (QS X env fr ρ top s o m' σ') E s := by
  have hc : (∃ k, vs = [.at (.int k)] ∧ rngOk 0 k = true ∧ fo X.S n sc x b ((rangeUp 0 k).map .int) m σ₁ = some (o, m', σ')) ∨
      (∃ a k, vs = [.at (.int a), .at (.int k)] ∧ rngOk a k = true ∧ fo X.S n sc x b ((rangeUp a k).map .int) m σ₁ = some (o, m', σ')) ∨
      (∃ a k, vs = [.at (.int a), .at (.int k), .at (.int (-1))] ∧ rngOk a k = true ∧ fo X.S n sc x b ((rangeDown a k).map .int) m σ₁ = some (o, m', σ')) := by
    clear h1
    split at h
    · split at h
      · rename_i q; exact .inl ⟨_, rfl, q, h⟩
      · cases h
    · split at h
      · rename_i q; exact .inr (.inl ⟨_, _, rfl, q, h⟩)
      · cases h
    · split at h
      · rename_i q; exact .inr (.inr ⟨_, _, rfl, q, h⟩)
      · cases h
    · cases h
  clear h
  refine wpAny_For (wpAny_Call_ofName (name_global L I hd hr hg ?_)) (fun _ => rfl)
  show wpAny _ A (callWith cp (.type "range") [] (backTo cp (starEach args env)) []) _ _ _
  refine callWith_excType (plain_args hp) (evalArgs_of hp (wpAny_mono (Hk _ _ _ _ _ _ h1 A env fr ρ s _ cp L I) (fun xs s₁ ⟨I₁, v₁, st₁⟩ => ?_) fun _ _ x => x))
  show wpAny _ A (call (.type "range") xs) _ _ _
  rcases hc with ⟨k, rfl, q, h⟩ | ⟨a, k, rfl, q, h⟩ | ⟨a, k, rfl, q, h⟩
  · · have q := rng_small q
      cases v₁ with
      | cons w1 w2 =>
        cases w2
        obtain ⟨t, rfl⟩ := w1
        refine call_range_1 ?_
        have I₂ : Ix X env fr ρ m σ₁ _ := (I₁.push { cls := .type "range", data := .fields #[.int 0 s₁.toks, .int k t, .int 1 (s₁.toks + 1)] }).toks (s₁.toks + 1 + 1)
        refine range_loop Hs L O I hk I₂ (st₁.trans (Stp.of_keeps fun _ _ e => Heap.get?_push_of_some _ e)) (Heap.get?_push_size _ rfl) (small_one (by omega) (by omega) (by omega) (by omega)) ?_ (fun i y hy => ?_) h fun _ _ q => q
        · rw [rangeSize_one]; unfold rangeUp; simp only [List.length_map, List.length_range]; split <;> omega
        · rw [rangeUp_get _ _ _ _ hy]; simp
  · · have q := rng_small q
      cases v₁ with
      | cons w1 w2 =>
        cases w2 with
        | cons w2 w3 =>
          cases w3
          obtain ⟨t, rfl⟩ := w1
          obtain ⟨u, rfl⟩ := w2
          refine call_range_2 ?_
          have I₂ : Ix X env fr ρ m σ₁ _ := (I₁.push { cls := .type "range", data := .fields #[.int a t, .int k u, .int 1 s₁.toks] }).toks (s₁.toks + 1)
          refine range_loop Hs L O I hk I₂ (st₁.trans (Stp.of_keeps fun _ _ e => Heap.get?_push_of_some _ e)) (Heap.get?_push_size _ rfl) (small_one (by omega) (by omega) (by omega) (by omega)) ?_ (fun i y hy => ?_) h fun _ _ q => q
          · rw [rangeSize_one]; unfold rangeUp; simp only [List.length_map, List.length_range]; split <;> omega
          · rw [rangeUp_get _ _ _ _ hy]; simp
  · · have q := rng_small q
      cases v₁ with
      | cons w1 w2 =>
        cases w2 with
        | cons w2 w3 =>
          cases w3 with
          | cons w3 w4 =>
            cases w4
            obtain ⟨t, rfl⟩ := w1
            obtain ⟨u, rfl⟩ := w2
            obtain ⟨v, rfl⟩ := w3
            refine call_range_3 (by decide) ?_ (.inl (PyProof.noPylong_small (by decide)))
            have I₂ : Ix X env fr ρ m σ₁ _ := (I₁.push { cls := .type "range", data := .fields #[.int a t, .int k u, .int (-1) v] }).toks s₁.toks
            have hsz : Builtin.Range.rangeSize a k (-1) = if a > k then a - k else 0 := by
              unfold Builtin.Range.rangeSize
              rw [if_neg (by decide)]
              show (if a > k then (a - k - 1) / 1 + 1 else 0) = _
              rw [Int.ediv_one]
              split <;> omega
            refine range_loop Hs L O I hk I₂ (st₁.trans (Stp.of_keeps fun _ _ e => Heap.get?_push_of_some _ e)) (Heap.get?_push_size _ rfl) ?_ ?_ (fun i y hy => ?_) h fun _ _ q => q
            · unfold Builtin.Range.small
              rw [hsz]
              simp only [Builtin.Range.rangeFitsLong, Bool.and_eq_true, Bool.or_eq_true, decide_eq_true_eq, beq_iff_eq]
              split <;> simp <;> omega
            · rw [hsz]; unfold rangeDown; simp only [List.length_map, List.length_range]; split <;> omega
            · rw [rangeDown_get _ _ _ _ hy]
              congr 1
              omega
end
end Ind
set_option maxRecDepth 100000
set_option Elab.async false
namespace Ind
open PySem PySem.W PySem.Calls PyProof.Rows
section
variable {X : Cx}
variable {A : Around} {env : Env} {fr : List Env} {ρ ρ' ρ'' : Rho} {m m' : Lm} {σ σ' : Sto} {s s₀ s₁ : Shared} {E : Value → Shared → Prop} {sc : Scope} {n : Nat} {top : Bool} {o : Out}
theorem assert_stmt {t : Expr} {pos : Pos} (HT : SimT X n) (L : Lok A n env fr sc) (I : Ix X env fr ρ m σ s) (h : test X.S n sc t m σ = some (true, σ')) :
    wpAny (model X.prog X.w) A (exec (.Assert t none pos) env) (QS X env fr ρ top s .next m σ') E s :=
  wpAny_Assert_holds (wpAny_mono (HT _ _ _ _ _ _ h A env fr ρ s _ L I) (fun b s₁ ⟨q, I₁, st₁⟩ => ⟨q, qs_here I₁ st₁ rfl⟩) fun _ _ x => x)
theorem unp_each : ∀ {ts : List Expr} {l : List At} {m m' : Lm}, unp sc ts l m = some m' → (assignEach ts env).length = l.length ∧ (assignEach ts env).findIdx? (·.1) = none
  | [], [], m, m', h => ⟨rfl, rfl⟩
  | [], _ :: _, m, m', h => by simp [unp] at h
  | t :: ts, [], m, m', h => by cases t <;> simp [unp] at h
  | t :: ts, a :: l, m, m', h => by
    cases t with
    | Name x p =>
      simp only [unp] at h
      split at h
      · obtain ⟨e1, e2⟩ := unp_each h
        have e : assignEach (.Name x p :: ts) env = (false, assign (.Name x p) env) :: assignEach ts env := rfl
        rw [e]
        exact ⟨by simp [e1], by rw [List.findIdx?_cons, e2]; rfl⟩
      · cases h
    | _ => simp [unp] at h
theorem unp_run (L : Lok A n env fr sc) : ∀ {ts : List Expr} {l : List At} {vs : List Value} {m m' : Lm} {s : Shared} {Q : Unit → Shared → Prop}, unp sc ts l m = some m' → AtsAre l vs → Ix X env fr ρ m σ s →
    (∀ s', Ix X env fr ρ m' σ s' → Stp env fr ρ s.heap s'.heap → Q () s') → wpAny (model X.prog X.w) A (assignInOrder ((assignEach ts env).map (·.2)) vs) Q E s
  | [], [], _, m, m', s, Q, h, .nil, I, k => by
    simp only [unp] at h; cases h
    exact wpAny_pure (k s I (Stp.refl _))
  | [], _ :: _, _, m, m', s, Q, h, _, _, _ => by simp [unp] at h
  | t :: ts, [], _, m, m', s, Q, h, _, _, _ => by cases t <;> simp [unp] at h
  | t :: ts, a :: l, _, m, m', s, Q, h, .cons ha hr, I, k => by
    cases t with
    | Name x p =>
      simp only [unp] at h
      split at h
      · rename_i hk
        refine wpAny_assignInOrder_more (wpAny_assign_Name (store_name L I hk (v := .at a) ha fun h' tk I' st' => ?_))
        exact unp_run L h hr I' fun s' I₂ st₂ => k s' I₂ (st'.trans st₂)
      · cases h
    | _ => simp [unp] at h
theorem tuple_stmt {ts : List Expr} {k : Nat} {tp pos cp : Pos} {f : Expr} {args : List Expr} {kws : List Keyword} {l : List At} {σ₁ : Sto} (H : SimE X n) (L : Lok A n env fr sc) (I : Ix X env fr ρ m σ s)
    (h : ev X.S n sc (.Call f args kws cp) m σ = some (.tup l, σ₁)) (h2 : unp sc ts l m = some m') :
    wpAny (model X.prog X.w) A (exec (.Assign [.Tuple ts k tp] (.Call f args kws cp) pos) env) (QS X env fr ρ top s .next m' σ₁) E s := by
  refine PyProof.Rows.Assign_Tuple (SimE.use H h L I fun y s₁ I₁ v₁ st₁ => ?_) rfl rfl
  obtain ⟨a, vs, rfl, hm, ht, ha⟩ := v₁
  obtain ⟨o', n', e1, e2, e3⟩ := ht
  have hT : s₁.heap.IsTuple a vs.toArray := ⟨o', e1, e2, n', e3⟩
  obtain ⟨u1, u2⟩ := unp_each (env := env) h2
  refine wpAny_assign_Tuple L.handled hT (by rw [List.size_toArray, ← ha.length]; exact u1) u2 fun h' hx => ?_
  have kk : ∀ b o, s₁.heap.get? b = some o → h'.get? b = some o := fun b o e => hx b o (Nat.ne_of_lt (Heap.lt_size e)) e
  have I₂ : Ix X env fr ρ m σ₁ { s₁ with heap := h' } := I₁.keeps kk
  exact unp_run L h2 (by simpa using ha) I₂ fun s' I₃ st₃ => qs_here I₃ ((st₁.trans (Stp.of_keeps kk)).trans st₃) rfl
end
end Ind
set_option maxRecDepth 100000
set_option Elab.async false
namespace Ind
open PySem PySem.W PySem.Calls PyProof.Rows
structure FnF (K : Frag) (f : Addr) (o : Obj) (fd : FuncData) : Prop where
  look : K.lookup f = some o
  data : o.data = .func fd
  globals : fd.globals = mainGlobals
  closure : fd.closure = []
  builtins : fd.builtins = builtinsNs
  code : codeIn K fd.code fd.qualname = true
  kind : fd.scope.kind = .function
  gen : fd.scope.isGenerator = false
  co : fd.scope.isCoroutine = false
  nodup : (fd.params.args.map (·.arg)).Nodup
  cnodup : ((cellsFrom 0 fd.scope.names []).map (·.1)).Nodup
  pk : ∀ p ∈ fd.params.args.map (·.arg), fd.scope.names.lookup p = some .local ∨ (fd.scope.names.lookup p = some .cell ∧ ((cellsFrom 0 fd.scope.names []).lookup p).isSome = true)
theorem fnFacts {K : Frag} {f : Addr} {o : Obj} {fd : FuncData} (h : fnOk K f = true) (e : K.lookup f = some o) (d : o.data = .func fd) : FnF K f o fd := by
  unfold fnOk at h
  rw [e] at h
  split at h
  · rename_i c sl q
    cases q
    cases d
    simp only [Bool.and_eq_true, decide_eq_true_eq, List.isEmpty_iff, Bool.not_eq_true', List.all_eq_true, Bool.or_eq_true, beq_iff_eq] at h
    obtain ⟨⟨⟨⟨⟨⟨⟨⟨⟨h1, h2⟩, h3⟩, h4⟩, h5⟩, h6⟩, h7⟩, h8⟩, h9⟩, h10⟩ := h
    exact ⟨e, rfl, h1, h2, h3, h4, h5, h6, h7, h8, h9, fun p hp => h10 p hp⟩
  · cases h
theorem lookup_isSome_mem {α : Type} {l : List (Str × α)} {x : Str} : (l.lookup x).isSome = true ↔ x ∈ l.map (·.1) := by
  induction l with
  | nil => simp
  | cons p r ih =>
    obtain ⟨a, b⟩ := p
    rw [List.lookup_cons]
    by_cases q : x = a
    · subst q; simp
    · have : (x == a) = false := by simpa using q
      rw [this]
      simp [ih, q]
theorem bindL_other {kindOf : Str → Option NameKind} {y : Str} : ∀ {ps : List Str} {xs : List Value} {m : Str → Option Value}, y ∉ ps → PySem.bindL kindOf (ps.zip xs) m y = m y
  | [], xs, m, _ => rfl
  | p :: ps, [], m, _ => rfl
  | p :: ps, x :: xs, m, h => by
    have h1 : y ≠ p := fun q => h (q ▸ .head _)
    show PySem.bindL kindOf (ps.zip xs) _ y = m y
    rw [bindL_other fun q => h (.tail _ q)]
    split <;> simp [h1]
theorem bindC_other {kindOf : Str → Option NameKind} {y : Str} : ∀ {ps : List Str} {xs : List Value} {m : Str → Option Value}, y ∉ ps → bindC kindOf (ps.zip xs) m y = m y
  | [], xs, m, _ => rfl
  | p :: ps, [], m, _ => rfl
  | p :: ps, x :: xs, m, h => by
    have h1 : y ≠ p := fun q => h (q ▸ .head _)
    show bindC kindOf (ps.zip xs) _ y = m y
    rw [bindC_other fun q => h (.tail _ q)]
    split <;> simp [h1]
theorem bind_is {ρ : Rho} {h : Heap} {kindOf : Str → Option NameKind} : ∀ {ps : List Str} {vs : List MV} {xs : List Value} {m₁ : Lm}, bnd ps vs = some m₁ → VAll ρ h vs xs → ps.Nodup → ∀ (m0 c0 : Str → Option Value) y v, m₁ y = some v →
    y ∈ ps ∧ ∃ val, VIs ρ h v val ∧ (kindOf y = some .local → PySem.bindL kindOf (ps.zip xs) m0 y = some val) ∧ (kindOf y ≠ some .local → bindC kindOf (ps.zip xs) c0 y = some val)
  | [], [], _, m₁, e, .nil, _, _, _, y, v, hy => by simp only [bnd] at e; cases e; cases hy
  | [], _ :: _, _, m₁, e, _, _, _, _, y, v, hy => by simp [bnd] at e
  | p :: ps, [], _, m₁, e, _, _, _, _, y, v, hy => by simp [bnd] at e
  | p :: ps, u :: vs, _, m₁, e, .cons hu hr, nd, m0, c0, y, v, hy => by
    simp only [bnd] at e
    obtain ⟨m₂, e1, e2⟩ := Option.map_eq_some_iff.mp e
    subst e2
    obtain ⟨n1, n2⟩ := List.nodup_cons.mp nd
    rename_i x xs
    dsimp only at hy
    by_cases q : y = p
    · subst q
      rw [if_pos rfl] at hy
      cases hy
      refine ⟨.head _, x, hu, fun hk => ?_, fun hk => ?_⟩
      · show PySem.bindL kindOf (ps.zip xs) _ y = _
        rw [bindL_other n1, if_pos hk]; simp
      · show bindC kindOf (ps.zip xs) _ y = _
        rw [bindC_other n1, if_neg hk]; simp
    · rw [if_neg q] at hy
      obtain ⟨h1, val, h2, h3, h4⟩ := bind_is e1 hr n2 (if kindOf p = some .local then fun z => if z = p then some x else m0 z else m0) (if kindOf p = some .local then c0 else fun z => if z = p then some x else c0 z) y v hy
      exact ⟨.tail _ h1, val, h2, h3, h4⟩
theorem Rep.notCell {C : Addr} {hb : Heap} {σ : Sto} {ρ : Rho} {h : Heap} (R : Rep C hb σ ρ h) {c : Addr} {v : Option Value} (hc : h.IsCell c v) : c ∉ ρ.mu := by
  intro hm
  obtain ⟨o, e, dd⟩ := hc
  unfold Rho.mu at hm
  rcases List.mem_append.mp hm with hm | hm
  · have q := R.stem
    split at hm
    · rename_i x y e'
      rw [e'] at q
      rcases List.mem_cons.mp hm with rfl | hm
      · rw [q.2.obj] at e; cases e; cases dd
      · obtain rfl := List.mem_singleton.mp hm
        obtain ⟨es, n, e1, _⟩ := q.2.dict
        rw [e1] at e; cases e; cases dd
    · cases hm
  · obtain ⟨i, hi, rfl⟩ := List.getElem_of_mem hm
    obtain ⟨vs, n, e1, _⟩ := R.lists i _ _ (List.getElem?_eq_getElem (R.len ▸ hi)) (List.getElem?_eq_getElem hi)
    rw [e1] at e; cases e; cases dd
section
variable {X : Cx}
variable {A : Around} {env env' : Env} {fr : List Env} {ρ : Rho} {m m' : Lm} {σ σ' : Sto} {s s' s'' : Shared}
theorem Iv.back {C : Addr} {hb : Heap} {os : OsState} {fr' : List Env} (I : Iv C hb os env fr ρ m σ s') (J : Iv C hb os env' fr' ρ m' σ' s'') (hfr : ∀ e ∈ fr, e ∈ fr') (hne : env.locals ≠ env'.locals) (hn' : ∃ mv, s'.heap.Ns env'.locals mv)
    (st : Stp env' fr' ρ s'.heap s''.heap) : Iv C hb os env fr ρ m σ' s'' := by
  obtain ⟨mv, hn, hl⟩ := I.loc
  obtain ⟨mv', hn'⟩ := hn'
  refine ⟨J.base, J.rep, ⟨mv, ?_, fun x v e => ?_⟩, I.lnew, I.lmu, fun e he => J.frs e (hfr e he), J.gens, J.os⟩
  · obtain ⟨o, es, ep, e1, e2⟩ := hn
    obtain ⟨_, sl, e3⟩ := st _ _ e1 hne I.lmu
    exact ⟨_, es, ep, e3, e2⟩
  · have q := hl x v e
    have cell : ∀ {c : Addr} {val : Value}, s'.heap.IsCell c (some val) → s''.heap.IsCell c (some val) := fun {c val} z => by
      have hm := I.rep.notCell z
      obtain ⟨o, e, d⟩ := z
      obtain ⟨_, sl, e3⟩ := st c o e (ns_ne hn' e fun es ep q => by rw [d] at q; cases q) hm
      exact ⟨_, e3, d⟩
    unfold Holds at q ⊢
    split at q
    · obtain ⟨u, e1, e2⟩ := q; exact ⟨u, e1, VIs.step hn' st e2⟩
    · obtain ⟨c, u, e1, e2, e3⟩ := q; exact ⟨c, u, e1, cell e2, VIs.step hn' st e3⟩
    · obtain ⟨c, u, e1, e2, e3⟩ := q; exact ⟨c, u, e1, cell e2, VIs.step hn' st e3⟩
    · trivial
end
end Ind
set_option maxRecDepth 100000
set_option Elab.async false
namespace Ind
open PySem PySem.W PySem.Calls PyProof.Rows
section
variable {X : Cx}
variable {n : Nat}
theorem cellsFrom_mem : ∀ (names : List (Str × NameKind)) (k : Nat) (acc : List (Str × Addr)) (x : Str), names.lookup x = some .cell ∨ (acc.lookup x).isSome = true → ((cellsFrom k names acc).lookup x).isSome = true
  | [], k, acc, x, h => by
    rcases h with h | h
    · cases h
    · exact h
  | (n, kd) :: r, k, acc, x, h => by
    unfold cellsFrom
    rw [List.lookup_cons] at h
    by_cases q : x = n
    · subst q
      simp only [beq_self_eq_true] at h
      split
      · exact cellsFrom_mem r _ _ x (.inr (by simp))
      · rename_i hk
        refine cellsFrom_mem r _ _ x (.inr ?_)
        rcases h with h | h
        · cases h; exact absurd rfl hk
        · exact h
    · have e : (x == n) = false := by simpa using q
      rw [e] at h
      split
      · refine cellsFrom_mem r _ _ x (h.imp id fun h => ?_)
        rw [List.lookup_cons, e]; exact h
      · exact cellsFrom_mem r _ _ x h
def SimCallC (X : Cx) (n : Nat) : Prop := ∀ a vs σ v σ', callF X.S n a vs σ = some (v, σ') → ∀ A env fr ρ m s xs (E : Value → Shared → Prop) sc, Lok A n env fr sc → Ix X env fr ρ m σ s → VAll ρ s.heap vs xs →
  codeAny (model X.prog X.w) A (.call (.ref a) ⟨xs, []⟩) (fun r s' => match r with | .ok (.ret v') => PE X env fr ρ m s v σ' v' s' | .ok _ => False | .error e => E e s') s
theorem simCall_of (H : SimCallC X n) : SimCall X n := fun a vs σ v σ' h A env fr ρ m s xs E sc L I hv => wpAny_call (H a vs σ v σ' h A env fr ρ m s xs E sc L I hv)
theorem simCall_succ (Hs : SimXs X n) : SimCallC X (n + 1) := by
  intro a vs σ v σ' h A env fr ρ m s xs E sc L I hv
  simp only [callF] at h
  obtain ⟨⟨ps, body, sc'⟩, h1, h2⟩ := Option.bind_eq_some_iff.mp h
  obtain ⟨m₁, h3, h4⟩ := Option.bind_eq_some_iff.mp h2
  obtain ⟨⟨o, m₂, σ₂⟩, h5, h6⟩ := Option.bind_eq_some_iff.mp h4
  obtain ⟨hf, ob, fd, ho, hcls, hd, hb, hsc, hps⟩ := fn_there h1
  have F := fnFacts (X.base.fns a hf) ho hd
  have KX : X.S.K.In s.heap := X.base.K.keeps I.base
  subst hsc hps
  have hlen : xs.length = fd.params.args.length := by
    have e1 := hv.length
    have e2 : ∀ {ps : List Str} {vs : List MV} {m₁ : Lm}, bnd ps vs = some m₁ → ps.length = vs.length := by
      intro ps
      induction ps with
      | nil => intro vs m₁ e; cases vs with | nil => rfl | cons _ _ => simp [bnd] at e
      | cons p ps ih =>
        intro vs m₁ e
        cases vs with
        | nil => simp [bnd] at e
        | cons u vs =>
          simp only [bnd] at e
          obtain ⟨m₂, e1, _⟩ := Option.map_eq_some_iff.mp e
          simp [ih e1]
    have := e2 h3
    simp only [List.length_map] at this
    omega
  have hbind := X.base.bind a hf ob fd ho hd xs hlen
  have hdep := L.depth
  have hun := L.units
  refine codeAny_call_function (fd := fd) (body := body) (by omega) (KX _ _ ho) hd F.co F.gen hb (codeRec_of KX F.code) ?_
  rw [hbind]
  refine wpAny_pure ?_
  rw [F.closure]
  have hnames : ∀ k, (cellsFrom k fd.scope.names []).map (·.1) = (cellsFrom 0 fd.scope.names []).map (·.1) := fun k => cellsFrom_names fd.scope.names k 0 [] [] rfl
  have hkind : ∀ k, ∀ x ∈ (fd.params.args.map (·.arg)).zip xs, fd.scope.names.lookup x.1 = some .local ∨ (fd.scope.names.lookup x.1 = some .cell ∧ ((cellsFrom k fd.scope.names []).lookup x.1).isSome = true) := fun k x hx => by
    have hm : x.1 ∈ fd.params.args.map (·.arg) := (List.of_mem_zip hx).1
    rcases F.pk _ hm with q | ⟨q1, q2⟩
    · exact .inl q
    · refine .inr ⟨q1, ?_⟩
      rw [lookup_isSome_mem] at q2 ⊢
      rw [hnames]; exact q2
  refine wpAny_newFunctionEnv_cells F.kind (hkind _) fun env' he s' x => ?_
  have hloc : env'.locals = s.heap.objs.size := by rw [he]; rfl
  have hsc' : env'.scope = fd.scope := by rw [he]; rfl
  have hfr' : env'.frame = some env'.locals := by rw [he]; rfl
  have hgl : env'.globals = mainGlobals := by rw [he]; exact F.globals
  have hbl : env'.builtins = builtinsNs := by rw [he]; exact F.builtins
  have hcells : env'.cells = cellsFrom (s.heap.objs.size + 1) fd.scope.names [] := by rw [he]; rfl
  obtain ⟨h', tk, rfl⟩ := x.toInCall.same
  have kk := x.toInCall.keep
  have I₁ : Ix X env fr ρ m σ { s with heap := h', toks := tk } := I.keeps kk
  refine ⟨(X.base.lim.keeps I.base).keeps kk, codeAny_func ?_⟩
  have fresh : s.heap.get? env'.locals = none := by rw [hloc]; exact get_size
  have apart := fresh_apart I fresh
  have hnodup : fd.params.args.map (·.arg) |>.Nodup := F.nodup
  have J : Ix X env' (env' :: fr) ρ m₁ σ { s with heap := h', toks := tk } := by
    refine ⟨I₁.base, I₁.rep, ⟨_, x.toInCall.ns, fun y u hy => ?_⟩, fresh_base I fresh, apart.2.1, fun e hm => ?_, I₁.gens, I₁.os⟩
    · obtain ⟨hmem, val, v1, v2, v3⟩ := bind_is (kindOf := env'.kindOf) h3 hv hnodup (fun _ => none) (fun _ => none) y u hy
      have v1' : VIs ρ h' u val := I.stepV (s' := { s with heap := h', toks := tk }) (Stp.of_keeps kk) v1
      have hkk : env'.kindOf y = fd.scope.names.lookup y := by unfold Env.kindOf; rw [hsc']
      unfold Holds
      rcases F.pk y hmem with q | ⟨q1, q2⟩
      · rw [hkk, q]
        exact ⟨val, v2 (by rw [hkk, q]), v1'⟩
      · rw [hkk, q1]
        rw [lookup_isSome_mem, ← hnames (s.heap.objs.size + 1), ← hcells, ← lookup_isSome_mem] at q2
        obtain ⟨c, hc⟩ := Option.isSome_iff_exists.mp q2
        refine ⟨c, val, hc, ?_, v1'⟩
        have := x.cell y c hc
        rw [v3 (by rw [hkk, q1]; decide)] at this
        exact this
    · rcases List.mem_cons.mp hm with rfl | hm
      · obtain ⟨o', es, ep, e1, e2, _⟩ := x.toInCall.ns
        exact ⟨by rw [hsc', F.kind]; decide, e.locals, o', es, ep, hfr', fresh_base I fresh, e1, e2, apart.2.1⟩
      · exact I₁.frs e hm
  have L' : Lok (A.deeper env') n env' (env' :: fr) fd.scope :=
    ⟨L.handled, Around.frames_deeper L.frames, by show A.depth + 1 + n < _; omega, by show A.units + 3 + 8 * n + 60 < _; omega, hsc', F.kind, hgl, hbl, fun x hx => by rw [hcells]; exact cellsFrom_mem _ _ _ x (.inl hx)⟩
  have ne : NoExc o := by cases o <;> first | trivial | (simp at h6)
  refine wpAny_mono (Hs _ _ _ _ _ _ _ _ h5 (A.deeper env') env' (env' :: fr) ρ _ L' ⟨⟨fr, rfl⟩, hfr'⟩ J) (fun fl s₂ q => ?_) fun e s₂ q => (ES.none q ne).elim
  obtain ⟨ρ₂, e1, e2, I₂, hfl, st₂⟩ := q
  obtain rfl := e1 rfl
  have hne : env.locals ≠ env'.locals := fun q => apart.1 q.symm
  have B : Ix X env fr ρ₂ m σ₂ s₂ := I₁.back I₂ (fun e he => .tail _ he) hne ⟨_, x.toInCall.ns⟩ st₂
  have ST : Stp env fr ρ₂ s.heap s₂.heap := fun b ob' eb h1 h2 => by
    have eb' := kk b ob' eb
    have nb : b ≠ env'.locals := fun q => by rw [q, fresh] at eb; cases eb
    obtain ⟨z1, sl, z2⟩ := st₂ b ob' eb' nb h2
    refine ⟨fun q => z1 fun q' => ?_, sl, z2⟩
    obtain ⟨e, hm, hf⟩ := List.mem_filterMap.mp q'
    rcases List.mem_cons.mp hm with rfl | hm
    · rw [hfr'] at hf; exact nb (Option.some.inj hf).symm
    · exact q (List.mem_filterMap.mpr ⟨e, hm, hf⟩)
  dsimp only at h6
  cases o with
  | next =>
    obtain rfl : fl = .next := hfl
    cases h6
    exact ⟨B, rfl, ST⟩
  | ret u =>
    obtain ⟨y, rfl, hy⟩ := hfl
    cases h6
    exact ⟨B, hy, ST⟩
  | brk => cases h6
  | cont => cases h6
  | exc k => cases h6
end
end Ind
set_option maxRecDepth 100000
set_option Elab.async false
namespace Ind
open PySem PySem.W PySem.Calls PyProof.Rows
def FrK (fr : List Env) (h h' : Heap) : Prop := ∀ b o, h.get? b = some o → (b ∉ frA fr → h'.get? b = some o) ∧ ∃ sl, h'.get? b = some { o with slots := sl }
section
variable {X : Cx}
variable {A : Around} {env : Env} {fr : List Env} {ρ : Rho} {m m' : Lm} {σ σ' : Sto} {s s₀ s₁ : Shared} {E : Value → Shared → Prop} {sc : Scope} {n : Nat} {top : Bool} {o : Out}
theorem Iv.slots {C : Addr} {hb : Heap} {os : OsState} (I : Iv C hb os env fr ρ m σ s) {h' : Heap} {tk : Tok} (k : FrK fr s.heap h') : Iv C hb os env fr ρ m σ { s with heap := h', toks := tk } := by
  have notF : ∀ b, (hb.get? b).isSome = true ∨ b ∈ ρ.mu → b ∉ frA fr := fun b hh q => by
    obtain ⟨e, he, hf⟩ := List.mem_filterMap.mp q
    obtain ⟨_, L, o, es, ep, e1, e2, e3, e4, e5⟩ := I.frs e he
    rw [e1] at hf; cases hf
    rcases hh with hh | hh
    · rw [e2] at hh; cases hh
    · exact e5 hh
  obtain ⟨mv, hn, hl⟩ := I.loc
  have up : ∀ {v : MV} {val : Value}, VIs ρ s.heap v val → VIs ρ h' v val := by
    intro v val hv
    cases v with
    | list l =>
      obtain ⟨a, vs, e, hm, hl, ha⟩ := hv
      exact ⟨a, vs, e, hm, list_slots hl fun o eo => (k a o eo).2, ha⟩
    | tup l =>
      obtain ⟨a, vs, e, hm, hl, ha⟩ := hv
      exact ⟨a, vs, e, hm, tup_slots hl fun o eo => (k a o eo).2, ha⟩
    | _ => exact hv
  have cell : ∀ {c : Addr} {val : Value}, s.heap.IsCell c (some val) → h'.IsCell c (some val) := fun {c val} z => by
    obtain ⟨o, e, d⟩ := z
    obtain ⟨sl, e3⟩ := (k c o e).2
    exact ⟨_, e3, d⟩
  refine ⟨fun b o e => (k b o (I.base b o e)).1 (notF b (.inl (by rw [e]; rfl))), ?_, ⟨mv, ?_, fun x v e => ?_⟩, I.lnew, I.lmu, fun e he => ?_, I.gens, I.os⟩
  · have R := I.rep
    refine ⟨?_, R.len, fun i l a h1 h2 => ?_, R.nodup, R.new⟩
    · have q := R.stem
      split
      · rename_i a d e
        rw [e] at q
        obtain ⟨ma, md⟩ := mu_st e
        exact ⟨q.1, (k _ _ q.2.obj).1 (notF _ (.inr ma)), let ⟨es, n, e1, e2⟩ := q.2.dict; ⟨es, n, (k _ _ e1).1 (notF _ (.inr md)), e2⟩⟩
      · rename_i e; rw [e] at q; exact q
    · obtain ⟨vs, n, e1, e2⟩ := R.lists i l a h1 h2
      exact ⟨vs, n, (k _ _ e1).1 (notF _ (.inr (mu_ls (List.mem_of_getElem? h2)))), e2⟩
  · obtain ⟨o, es, ep, e1, e2⟩ := hn
    obtain ⟨sl, e3⟩ := (k _ _ e1).2
    exact ⟨_, es, ep, e3, e2⟩
  · have q := hl x v e
    unfold Holds at q ⊢
    split at q
    · obtain ⟨u, e1, e2⟩ := q; exact ⟨u, e1, up e2⟩
    · obtain ⟨c, u, e1, e2, e3⟩ := q; exact ⟨c, u, e1, cell e2, up e3⟩
    · obtain ⟨c, u, e1, e2, e3⟩ := q; exact ⟨c, u, e1, cell e2, up e3⟩
    · trivial
  · obtain ⟨hk, L, o, es, ep, e1, e2, e3, e4, e5⟩ := I.frs e he
    obtain ⟨sl, e6⟩ := (k _ _ e3).2
    exact ⟨hk, L, _, es, ep, e1, e2, e6, e4, e5⟩
theorem raise_stmt {c : Str} {np cp pos : Pos} {a b : Addr} (L : Lok A n env fr sc) (I : Ix X env fr ρ m σ s) (hk : sc.names.lookup c = some .globalImplicit) (hd : (c == ("__debug__" : Str)) = false) (hg : globIn X.S c = some (.ref a))
    (he : X.S.exc.lookup c = some a) {Q : Flow → Shared → Prop} : wpAny (model X.prog X.w) A (exec (.Raise (some (.Call (.Name c np) [] [] cp)) none pos) env) Q (ES X env fr ρ top s (.exc a) m σ) s := by
  have hmem : (c, a) ∈ X.S.exc := mem_of_lookup he
  obtain ⟨B, newId, initId, bmB, bm, N, nm, q, bs, hdct, sn, sub, ab, col, dd, k0, k1, k2, k3, k5, mN, FB, hC, hN, hni, T⟩ := (X.base.exc _ hmem).keeps I.base
  refine wpAny_Raise_call_subT (C := a) (nm := nm) (q := q) (N := N) (bs := bs) (bm := bm) (hdct := hdct) (sn := sn) (sub := sub) (ab := ab) (col := col) (dd := dd) (k0 := k0) (k1 := k1) (k2 := k2) (k3 := k3) (k5 := k5)
    FB (mN := mN) (T.hasType FB.hasBase) L.handled rfl hni (name_global L I hd hk hg ⟨rfl, ?_⟩)
  refine PyProof.Rows.evalArgs_empty ⟨rfl, Nat.zero_le _, hC, hN, T, fun h' e hm => ?_⟩
  exact ⟨a, ρ, e, s.heap, rfl, List.mem_map_of_mem hmem, fun _ => rfl, .refl _ _, rfl, hm, I, Stp.refl _⟩
theorem noteFrame_firstW {M : Model} {base : Heap} {env : Env} {outer : List Env} {L e : Addr} {oe : Obj} {vs : Array Value} {a0 : Value} {Q : Unit → Shared → Prop}
    (hfr : A.frames = some (env :: outer)) (hl : s.heap.FunFrames base (env :: outer)) (hf : env.frame = some L)
    (he : s.heap.get? e = some oe) (hkb : base.StaysIn s.heap) (hen : base.get? e = none) (hd : oe.data = .fields vs) (h1 : vs[1]? = some .none) (h0 : vs[0]? = some a0)
    (h : ∀ h', Heap.NotedW base (env :: outer) e oe.cls a0 (rawInt L) s.heap h' → Q () { s with heap := h' }) : wpAny M A (noteFrame (.ref e) env) Q E s := by
  unfold noteFrame
  simp only [hf]
  refine wpAny_bind (wpAny_field he hd h1 ?_)
  rw [if_neg (by decide)]
  exact wpAny_entryW hfr hl hf he hkb hen hd (Array.getElem?_eq_some_iff.mp h1).1 h0 h
theorem funFrames_of {base : Heap} : ∀ {fr : List Env}, (∀ e ∈ fr, e.scope.kind ≠ .module ∧ ∃ L o es ep, e.frame = some L ∧ base.get? L = none ∧ s.heap.get? L = some o ∧ o.data = .dict es ep) → s.heap.FunFrames base fr
  | [], _ => trivial
  | e :: r, h => by
    obtain ⟨hk, L, o, es, ep, e1, e2, e3, e4⟩ := h e (.head _)
    exact ⟨hk, ⟨L, o, e1, e2, e3, fun vs q => by rw [e4] at q; cases q⟩, funFrames_of fun e' he' => h e' (.tail _ he')⟩
theorem catch_stmt {c : Str} {np pos hpos ppos : Pos} {k ea : Addr} {h0 : Heap} (L : Lok A n env fr sc) (O : Own env fr) (hk : sc.names.lookup c = some .globalImplicit) (hd : (c == ("__debug__" : Str)) = false) (hg : globIn X.S c = some (.ref k))
    (hmem : k ∈ X.S.exc.map (·.2)) (hmade : Heap.MadeExcOf h0 s.heap ea (.ref k) []) (I : Ix X env fr ρ m σ ⟨h0, s.gens, s.drawn, s.toks, s.os⟩) {Q : Flow → Shared → Prop}
    (kq : ∀ s', Ix X env fr ρ m σ s' → Stp env fr ρ h0 s'.heap → Q .next s') :
    wpAny (model X.prog X.w) A (noteFrame (.ref ea) env) (fun _ s₂ => wpAny (model X.prog X.w) A (setFlight (.ref ea) none) (fun _ s₃ =>
      wpAny (model X.prog X.w) A (handleBy (.ref ea) env [.ExceptHandler (some (.Name c np)) none [.Pass ppos] hpos]) Q E s₃) E s₂) E s := by
  obtain ⟨⟨outer, rfl⟩, hfr⟩ := O
  obtain ⟨t, he, htn, ht⟩ := hmade.there
  -- the base: all but the frames
  have hbs : (hideAll h0 (frA (env :: outer))).StaysIn s.heap := fun b o e => hmade.keeps b o (of_hideAll _ e)
  have hen : (hideAll h0 (frA (env :: outer))).get? ea = none := by
    cases e : (hideAll h0 (frA (env :: outer))).get? ea with
    | none => rfl
    | some o => have := of_hideAll _ e; rw [hmade.new] at this; cases this
  have hff : s.heap.FunFrames (hideAll h0 (frA (env :: outer))) (env :: outer) := funFrames_of fun e hm => by
    obtain ⟨h1, L', o, es, ep, e1, e2, e3, e4, _⟩ := I.frs e hm
    exact ⟨h1, L', o, es, ep, e1, hideAll_none _ (List.mem_filterMap.mpr ⟨e, hm, e1⟩), hmade.keeps _ _ e3, e4⟩
  have rel : ∀ {h' : Heap}, (hideAll h0 (frA (env :: outer))).StaysIn h' → s.heap.UpToSlots h' → FrK (env :: outer) h0 h' := fun {h'} a b => by
    intro b' o e
    refine ⟨fun q => a b' o (hideAll_get _ e q), ?_⟩
    by_cases q : b' ∈ frA (env :: outer)
    · obtain ⟨x, hx, hf⟩ := List.mem_filterMap.mp q
      obtain ⟨_, L', o', es, ep, e1, e2, e3, e4, _⟩ := I.frs x hx
      rw [e1] at hf; cases hf
      rw [e] at e3; cases e3
      exact b b' o (hmade.keeps b' o e) fun vs q => by rw [e4] at q; cases q
    · exact ⟨o.slots, a b' o (hideAll_get _ e q)⟩
  refine noteFrame_firstW (a0 := .ref t) L.frames hff hfr he hbs hen rfl rfl rfl fun h1 hN => ?_
  obtain ⟨n1, n2, n3, n4⟩ := hN
  refine wpAny_setFlight_noneW n1 n2 n3 fun h2 k1 k2 k3 k4 => ?_
  have hfl : Heap.FlyingW (hideAll h0 (frA (env :: outer))) (env :: outer) ea (.ref k) (.ref t) h2 := ⟨k1, hen, k2, k3⟩
  have up2 : s.heap.UpToSlots h2 := fun b o e hn => by
    obtain ⟨sl, e1⟩ := n4 b o e hn
    exact ⟨sl, k4 b _ e1 hn⟩
  have I₂ : Ix X env (env :: outer) ρ m σ { s with heap := h2 } := I.slots (rel k1 up2)
  have hmark : Lok (A.mark (some (.ref ea))) n env (env :: outer) sc → True := fun _ => trivial
  have there := hfl.there
  obtain ⟨p, hp, rfl⟩ := List.mem_map.mp hmem
  obtain ⟨B, newId, initId, bmB, bm, N, nm, q, bs, hdct, sn, sub, ab, col, dd, k0, k1', k2', k3', k5, mN, FB, hC, hN, hni, T⟩ := (X.base.exc _ hp).keeps I₂.base
  have hkind : env.scope.kind = .function := by rw [L.scope]; exact L.kind
  have hk' : env.kindOf c = some .globalImplicit := by unfold Env.kindOf; rw [L.scope]; exact hk
  have KX : X.S.K.In h2 := X.base.K.keeps I₂.base
  refine wpAny_handleBy_cons (codeAny_handlers_test ?_) (by intro q; cases q)
  have nm' : ∀ {Q' : Value → Shared → Prop} {E' : Value → Shared → Prop}, Q' (.ref p.2) { s with heap := h2 } → wpAny (model X.prog X.w) (A.mark (some (.ref ea))) (eval (.Name c np) env) Q' E' { s with heap := h2 } := fun {Q' E'} kk => by
    refine Name_function_global hkind hk' ?_ hd
    unfold loadGlobal
    rw [L.globals, L.builtins]
    unfold globIn at hg
    split at hg
    · rename_i u hu; cases hg
      exact wpAny_bind ((looks_nsIn KX hu).here (wpAny_pure kk))
    · rename_i hu
      split at hg
      · rename_i u hb; cases hg
        refine wpAny_bind ((looks_nsIn KX hu).here ?_)
        refine wpAny_bind ((looks_nsIn KX hb).here ?_)
        exact wpAny_pure kk
      · cases hg
    · cases hg
  refine nm' ?_
  obtain ⟨oe, hoe, hcls⟩ := there
  refine wpAny_excMatches_sub_self hC hoe hcls (T.hasType FB.hasBase) (codeAny_handlers_suite ?_)
  refine lands_againW hfl fun h3 hfl3 up3 => ?_
  obtain ⟨k1'', _, _, _⟩ := hfl3
  have r3 : FrK (env :: outer) h0 h3 := rel k1'' (up2.trans up3)
  refine wpAny_execs_cons (wpAny_Pass (wpAny_execs_nil ?_))
  refine kq _ (I.slots r3) fun b o e _ _ => r3 b o e
end
end Ind
set_option maxRecDepth 100000
set_option Elab.async false
namespace Ind
open PySem PySem.W PySem.Calls PyProof.Rows
section
variable {X : Cx}
variable {A : Around} {env : Env} {fr : List Env} {ρ ρ' : Rho} {m m' : Lm} {σ σ' : Sto} {s s₀ s₁ : Shared} {E : Value → Shared → Prop} {sc : Scope} {n : Nat} {top : Bool} {o : Out}
theorem Iv.grow {C : Addr} {hb : Heap} {os : OsState} (I : Iv C hb os env fr ρ m σ s) {h' : Heap} {tk : Tok} (k : ∀ b o, s.heap.get? b = some o → h'.get? b = some o) (r : RExt ρ ρ' s.heap) (R : Rep C hb σ' ρ' h') :
    Iv C hb os env fr ρ' m σ' { s with heap := h', toks := tk } := by
  obtain ⟨mv, hn, hl⟩ := I.loc
  have up : ∀ {v : MV} {val : Value}, VIs ρ s.heap v val → VIs ρ' h' v val := fun {v val} hv => VIs.step (fr := fr) hn (Stp.of_keeps k) (hv.ext r.st r.ls r.new)
  have out : ∀ b, (s.heap.get? b).isSome = true → b ∉ ρ.mu → b ∉ ρ'.mu := fun b h1 h2 q => by rw [r.new b q h2] at h1; cases h1
  refine ⟨fun b o e => k b o (I.base b o e), R, ⟨mv, hn.keeps k, fun x v e => ?_⟩, I.lnew, out _ (by obtain ⟨o, _, _, ho, _⟩ := hn; rw [ho]; rfl) I.lmu, fun e he => ?_, I.gens, I.os⟩
  · have q := hl x v e
    unfold Holds at q ⊢
    split at q
    · obtain ⟨u, e1, e2⟩ := q; exact ⟨u, e1, up e2⟩
    · obtain ⟨c, u, e1, e2, e3⟩ := q; exact ⟨c, u, e1, e2.keeps k, up e3⟩
    · obtain ⟨c, u, e1, e2, e3⟩ := q; exact ⟨c, u, e1, e2.keeps k, up e3⟩
    · trivial
  · obtain ⟨hk, L, o, es, ep, e1, e2, e3, e4, e5⟩ := I.frs e he
    exact ⟨hk, L, o, es, ep, e1, e2, k _ _ e3, e4, out _ (by rw [e3]; rfl) e5⟩
theorem mlist_stmt {x : Str} {es : List Expr} {p lp pos : Pos} {vs : List MV} {l : List At} {σ₁ : Sto} (Hs : SimEs X n) (L : Lok A n env fr sc) (I : Ix X env fr ρ m σ s) (hk : sc.names.lookup x = some .local) (hz : es.length ≤ 1000)
    (h : evs X.S n sc es m σ = some (vs, σ₁)) (hl : ats vs = some l) :
    wpAny (model X.prog X.w) A (exec (.Assign [.Name x p] (.List es lp) pos) env) (QS X env fr ρ true s .next (m.set x (.ml σ₁.ls.length)) { σ₁ with ls := σ₁.ls ++ [l] }) E s := by
  refine wpAny_Assign_Name (wpAny_List (wpAny_mono (Hs _ _ _ _ _ _ h A env fr ρ s E lp L I) (fun xs s₁ ⟨I₁, v₁, st₁⟩ => ?_) fun _ _ x => x)) rfl
  have ha := ats_of v₁ hl
  refine ⟨by rw [← v₁.length, evs_len n h, sizeLine_eq]; omega, ?_⟩
  have fr0 : s₁.heap.get? s₁.heap.objs.size = none := get_size
  have r1 : RExt ρ { ρ with ls := ρ.ls ++ [s₁.heap.objs.size] } s₁.heap := by
    refine ⟨fun _ e => e, fun i a e => by rw [List.getElem?_append_left (List.getElem?_eq_some_iff.mp e).1]; exact e, fun b hb hn => ?_⟩
    unfold Rho.mu at hb hn
    rcases List.mem_append.mp hb with hb | hb
    · exact absurd (List.mem_append_left _ hb) hn
    · rcases List.mem_append.mp hb with hb | hb
      · exact absurd (List.mem_append_right _ hb) hn
      · obtain rfl := List.mem_singleton.mp hb
        exact fr0
  have kk : ∀ b o, s₁.heap.get? b = some o → (s₁.heap.push { cls := .type "list", data := .seq xs.toArray }).get? b = some o := fun _ _ e => Heap.get?_push_of_some _ e
  have R := I₁.rep
  have hnm : s₁.heap.objs.size ∉ ρ.mu := I₁.live.fresh fr0
  have R' : Rep X.S.C X.hb { σ₁ with ls := σ₁.ls ++ [l] } { ρ with ls := ρ.ls ++ [s₁.heap.objs.size] } (s₁.heap.push { cls := .type "list", data := .seq xs.toArray }) := by
    refine ⟨?_, by simp [R.len], fun i l' a h1 h2 => ?_, ?_, fun a ha => ?_⟩
    · have q := R.stem
      split
      · rename_i a d e
        have e : ρ.st = some (a, d) := e
        rw [e] at q
        exact ⟨q.1, kk _ _ q.2.obj, let ⟨es, n, e1, e2⟩ := q.2.dict; ⟨es, n, kk _ _ e1, e2⟩⟩
      · rename_i e
        have e : ρ.st = none := e
        rw [e] at q; exact q
    · by_cases hi : i < ρ.ls.length
      · rw [List.getElem?_append_left (R.len ▸ hi)] at h1
        rw [List.getElem?_append_left hi] at h2
        obtain ⟨vs, n, e1, e2⟩ := R.lists i l' a h1 h2
        exact ⟨vs, n, kk _ _ e1, e2⟩
      · have hlt : i < (ρ.ls ++ [s₁.heap.objs.size]).length := (List.getElem?_eq_some_iff.mp h2).1
        have hi' : i = ρ.ls.length := by simp at hlt; omega
        subst hi'
        rw [List.getElem?_append_right (Nat.le_refl _)] at h2
        rw [← R.len, List.getElem?_append_right (Nat.le_refl _)] at h1
        simp at h1 h2
        subst h1 h2
        exact ⟨xs.toArray, 0, Heap.get?_push_size _ rfl, by simpa using ha⟩
    · have nd := R.nodup
      unfold Rho.mu at nd hnm ⊢
      dsimp only
      rw [← List.append_assoc]
      exact List.nodup_append.mpr ⟨nd, by simp, fun a ha b hb q => by rw [List.mem_singleton.mp hb] at q; exact hnm (q ▸ ha)⟩
    · by_cases q : a ∈ ρ.mu
      · exact R.new a q
      · exact fresh_base I₁ (r1.new a ha q)
  have I₂ : Ix X env fr { ρ with ls := ρ.ls ++ [s₁.heap.objs.size] } m { σ₁ with ls := σ₁.ls ++ [l] } { s₁ with heap := s₁.heap.push { cls := .type "list", data := .seq xs.toArray } } := I₁.grow (tk := s₁.toks) kk r1 R'
  refine store_name L I₂ hk (v := .ml σ₁.ls.length) ⟨s₁.heap.objs.size, by rw [R.len]; simp, rfl⟩ fun h' tk I' st' => ?_
  refine ⟨_, fun q => (nomatch q), ⟨r1.st, r1.ls, fun b hb hn => fresh_before I I₁ st₁ (r1.new b hb hn)⟩, I', rfl, ?_⟩
  exact (st₁.trans (Stp.of_keeps kk)).ext st' fun b hb hn => fresh_before I I₁ st₁ (r1.new b hb hn)
theorem cu_call (C : Addr) : (Code.builtin "type.__call__" ⟨[.ref C], []⟩).cUnits ≤ 8 := by
  have : (Code.builtin "type.__call__" ⟨[.ref C], []⟩).cUnits = 1 := by first | rfl | kernel_rfl
  omega
theorem new_stmt {x c : Str} {p np cp pos : Pos} {f : Addr} {σ₁ : Sto} (Hc : SimCallC X n) (L : Lok A (n + 1) env fr sc) (I : Ix X env fr ρ m σ s) (hk : sc.names.lookup x = some .local) (hon : σ.on = false)
    (hc : sc.names.lookup c = some .globalImplicit) (hd : (c == ("__debug__" : Str)) = false) (hg : globIn X.S c = some (.ref X.S.C)) (hi : findIn X.S.K (.ref X.S.C) "__init__" = some (some (.ref f)))
    (h : callF X.S n f [.self] { σ with on := true, cnt := 0, f := fun _ => none } = some (.at .none, σ₁)) :
    wpAny (model X.prog X.w) A (exec (.Assign [.Name x p] (.Call (.Name c np) [] [] cp) pos) env) (QS X env fr ρ true s .next (m.set x .self) σ₁) E s := by
  have L' := L.mono (Nat.le_succ n)
  have KX : X.S.K.In s.heap := X.base.K.keeps I.base
  have hf : ∃ o fd, X.S.K.lookup f = some o ∧ o.cls = .type "function" ∧ o.data = .func fd := by
    cases n with
    | zero => simp [callF] at h
    | succ k =>
      simp only [callF] at h
      obtain ⟨⟨ps, b, sc'⟩, h3, _⟩ := Option.bind_eq_some_iff.mp h
      obtain ⟨_, o, fd, ho, hcl, hd, _⟩ := fn_there h3
      exact ⟨o, fd, ho, hcl, hd⟩
  obtain ⟨of, fd, hof, hcl, hdt⟩ := hf
  have ht : typeIn X.S.K (.ref f) = some (.type "function") := by show (X.S.K.lookup f).map (·.cls) = _; rw [hof, Option.map_some, hcl]
  refine wpAny_Assign_Name (wpAny_Call_ofName (name_global L' I hd hc hg ?_)) rfl
  refine callWith_K0 KX X.base.makes.2 ?_
  obtain ⟨hh, g, d, t, os⟩ := s
  refine wpAny_call (make_core (makes_of KX X.base.makes.1) (looks_findIn KX hi) (fun self => bind_fn KX self ht) (.inl rfl) ?_)
  dsimp only at KX
  have kk : ∀ b o, hh.get? b = some o → ((hh.push emptyDict).push (instObj X.S.C hh.objs.size)).get? b = some o := fun b o e => Heap.get?_push_of_some _ (Heap.get?_push_of_some _ e)
  have hx : ((hh.push emptyDict).push (instObj X.S.C hh.objs.size)).get? (hh.objs.size + 1) = some (instObj X.S.C hh.objs.size) := by
    have := Heap.get?_push_size (hh.push emptyDict) (o := instObj X.S.C hh.objs.size) rfl
    rwa [Heap.size_push] at this
  have hdd : ((hh.push emptyDict).push (instObj X.S.C hh.objs.size)).get? hh.objs.size = some emptyDict := Heap.get?_push_of_some _ (Heap.get?_push_size hh rfl)
  have n1 : hh.get? hh.objs.size = none := get_size
  have n2 : hh.get? (hh.objs.size + 1) = none := Heap.get?_none_of_le (Nat.le_succ _)
  have R := I.rep
  have est : ρ.st = none := by
    have q := R.stem
    split at q
    · rw [hon] at q; cases q.1
    · rename_i e; exact e
  have r1 : RExt ρ { ρ with st := some (hh.objs.size + 1, hh.objs.size) } hh := by
    refine ⟨fun p e => by rw [est] at e; (cases e), fun _ _ e => e, fun b hb hn => ?_⟩
    unfold Rho.mu at hb hn
    rcases List.mem_append.mp hb with hb | hb
    · rcases List.mem_cons.mp hb with rfl | hb
      · exact n2
      · obtain rfl := List.mem_singleton.mp hb; exact n1
    · exact absurd (List.mem_append_right _ hb) hn
  have m1 : hh.objs.size ∉ ρ.mu := I.live.fresh n1
  have m2 : hh.objs.size + 1 ∉ ρ.mu := I.live.fresh n2
  have R' : Rep X.S.C X.hb { σ with on := true, cnt := 0, f := fun _ => none } { ρ with st := some (hh.objs.size + 1, hh.objs.size) } ((hh.push emptyDict).push (instObj X.S.C hh.objs.size)) := by
    refine ⟨⟨rfl, hx, [], 0, hdd, Nat.le_refl _, fun x => rfl⟩, R.len, fun i l' a h1 h2 => ?_, ?_, fun a ha => ?_⟩
    · obtain ⟨vs, n, e1, e2⟩ := R.lists i l' a h1 h2
      exact ⟨vs, n, kk _ _ e1, e2⟩
    · have nd := R.nodup
      unfold Rho.mu at nd m1 m2 ⊢
      rw [est] at nd m1 m2
      simp only [List.nil_append] at nd m1 m2
      show ([hh.objs.size + 1, hh.objs.size] ++ ρ.ls).Nodup
      simp only [List.cons_append, List.nil_append, List.nodup_cons, List.mem_cons]
      exact ⟨fun q => by rcases q with q | q; exact absurd q (Nat.ne_of_gt (Nat.lt_succ_self _)); exact m2 q, m1, nd⟩
    · by_cases q : a ∈ ρ.mu
      · exact R.new a q
      · exact fresh_base I (r1.new a ha q)
  have I₂ : Ix X env fr { ρ with st := some (hh.objs.size + 1, hh.objs.size) } m { σ with on := true, cnt := 0, f := fun _ => none } ⟨(hh.push emptyDict).push (instObj X.S.C hh.objs.size), g, d, t, os⟩ := I.grow (tk := t) kk r1 R'
  have LU : Lok (A.under (.builtin "type.__call__" ⟨[.ref X.S.C], []⟩)) n env fr sc := by
    have h1 := L.depth
    have h2 := L.units
    refine ⟨L.handled, ?_, ?_, ?_, L.scope, L.kind, L.globals, L.builtins, L.cells⟩
    · show pushEnvs (Code.builtin "type.__call__" ⟨[.ref X.S.C], []⟩).envs A.frames = some fr
      rw [L.frames]; rfl
    · show A.depth + 1 + n < _; omega
    · have : (Code.builtin "type.__call__" ⟨[.ref X.S.C], []⟩).cUnits ≤ 8 := cu_call X.S.C
      show A.units + (Code.builtin "type.__call__" ⟨[.ref X.S.C], []⟩).cUnits + 8 * n + 60 < _
      omega
  refine codeAny_mono (Hc f [.self] _ _ _ h _ env fr { ρ with st := some (hh.objs.size + 1, hh.objs.size) } m _ [.ref (hh.objs.size + 1)] (fun _ _ => False) sc LU I₂ (.cons ⟨_, _, rfl, rfl⟩ .nil)) fun r s' z => ?_
  cases r with
  | error e => exact z.elim
  | ok f =>
    cases f with
    | ret v =>
      obtain ⟨z1, z2, z3⟩ := z
      refine ⟨z2, ?_⟩
      show wpAny _ A (storeName env x (.ref (hh.objs.size + 1))) _ _ _
      refine store_name L' z1 hk (v := .self) ⟨_, _, rfl, rfl⟩ fun h' tk I' st' => ?_
      refine ⟨_, fun q => (nomatch q), r1, I', rfl, ?_⟩
      have s1 : Stp env fr ρ hh ((hh.push emptyDict).push (instObj X.S.C hh.objs.size)) := Stp.of_keeps kk
      exact (s1.ext z3 r1.new).ext st' r1.new
    | _ => exact z.elim
end
end Ind
set_option maxRecDepth 100000
set_option Elab.async false
namespace Ind
open PySem PySem.W PySem.Calls PyProof.Rows
section
variable {X : Cx}
variable {A : Around} {env : Env} {fr : List Env} {ρ ρ' : Rho} {m m' : Lm} {σ σ' : Sto} {s s₀ s₁ : Shared} {E : Value → Shared → Prop} {sc : Scope} {n : Nat} {top : Bool} {o : Out}
theorem trip1 {o₁ o : Out} {m₁ m' : Lm} {σ₁ σ' : Sto} (h : (o₁, m₁, σ₁) = (o, m', σ')) : o₁ = o ∧ m₁ = m' ∧ σ₁ = σ' := by
  cases h; exact ⟨rfl, rfl, rfl⟩
theorem try_stmt {b : List Stmt} {c : Str} {np pp hp pos : Pos} {o₁ : Out} {m₁ : Lm} {σ₁ : Sto} (Hs : SimXs X n) (L : Lok A n env fr sc) (O : Own env fr) (I : Ix X env fr ρ m σ s) (h : exs X.S n false sc b m σ = some (o₁, m₁, σ₁))
    (h2 : (match (generalizing := false) o₁ with
        | .exc k => if sc.names.lookup c = some .globalImplicit ∧ (c == ("__debug__" : Str)) = false ∧ globIn X.S c = some (.ref k) then some (Out.next, m₁, σ₁) else none
        | o => some (o, m₁, σ₁)) = some (o, m', σ')) :
    wpAny (model X.prog X.w) A (exec (.Try b [.ExceptHandler (some (.Name c np)) none [.Pass pp] hp] [] [] pos) env) (QS X env fr ρ top s o m' σ') E s := by
  refine wpAny_Try_except (wpAny_mono (Hs _ _ _ _ _ _ _ _ h A env fr ρ s L O I) (fun fl s₁ q => ?_) fun e s₁ q => ?_)
  · obtain ⟨ρ₁, e1, e2, I₁, hf, st₁⟩ := q
    obtain rfl := e1 rfl
    cases o₁ with
    | next =>
      obtain rfl : fl = .next := hf
      obtain ⟨rfl, rfl, rfl⟩ := trip h2
      exact wpAny_execs_nil (qs_here I₁ st₁ rfl)
    | brk =>
      obtain rfl : fl = .brk := hf
      obtain ⟨rfl, rfl, rfl⟩ := trip h2
      exact qs_here I₁ st₁ rfl
    | cont =>
      obtain rfl : fl = .cont := hf
      obtain ⟨rfl, rfl, rfl⟩ := trip h2
      exact qs_here I₁ st₁ rfl
    | ret v =>
      obtain ⟨x, rfl, hv⟩ := hf
      obtain ⟨rfl, rfl, rfl⟩ := trip h2
      exact qs_here I₁ st₁ ⟨x, rfl, hv⟩
    | exc k => exact hf.elim
  · obtain ⟨k, ρ₁, ea, h0, rfl, hk, e1, e2, rfl, hm, I₁, st₁⟩ := q
    obtain rfl := e1 rfl
    dsimp only at h2
    split at h2
    · rename_i q
      obtain ⟨rfl, rfl, rfl⟩ := trip h2
      exact catch_stmt (pos := pos) L O q.1 q.2.1 q.2.2 hk hm I₁ fun s' I' st' => qs_here I' (st₁.trans st') rfl
    · cases h2
theorem assign_name {x : Str} {e : Expr} {p pos : Pos} (H : SimE X n) (Hk : SimEs X n) (Hc : SimCallC X n) (L : Lok A (n + 1) env fr sc) (O : Own env fr) (I : Ix X env fr ρ m σ s)
    (h : ex X.S (n + 1) top sc (.Assign [.Name x p] e pos) m σ = some (o, m', σ')) :
    wpAny (model X.prog X.w) A (exec (.Assign [.Name x p] e pos) env) (QS X env fr ρ top s o m' σ') E s := by
  have L' := L.mono (Nat.le_succ n)
  simp only [ex] at h
  split at h
  · rename_i hc
    have plain : ((ev X.S n sc e m σ).map fun (v, σ) => (Out.next, m.set x v, σ)) = some (o, m', σ') → wpAny (model X.prog X.w) A (exec (.Assign [.Name x p] e pos) env) (QS X env fr ρ top s o m' σ') E s := fun h => by
      obtain ⟨⟨v, σ₁⟩, h1, h2⟩ := Option.map_eq_some_iff.mp h
      obtain ⟨rfl, rfl, rfl⟩ := trip1 h2
      exact assign_plain H L' I hc.1 hc.2 h1
    split at h
    · rename_i es lp
      split at h
      · rename_i hm
        obtain ⟨⟨vs, σ₁⟩, h1, h2⟩ := Option.bind_eq_some_iff.mp h
        obtain ⟨l, h3, h4⟩ := Option.map_eq_some_iff.mp h2
        obtain ⟨rfl, rfl, rfl⟩ := trip1 h4
        exact mlist_stmt Hk L' I hc.1 hm.2 h1 h3
      · exact plain h
    · rename_i c np cp
      split at h
      · rename_i hh
        split at h
        · rename_i f hf
          obtain ⟨⟨v, σ₁⟩, h1, h2⟩ := Option.bind_eq_some_iff.mp h
          dsimp only at h2
          split at h2
          · obtain ⟨rfl, rfl, rfl⟩ := trip h2
            exact new_stmt Hc L I hc.1 hh.1 hh.2.1 hh.2.2.1 hh.2.2.2 hf h1
          · cases h2
        · cases h
      · exact plain h
    · exact plain h
  · cases h
theorem simX_zero : SimX X 0 := fun top sc st m σ o m' σ' h => by simp [ex] at h
set_option maxHeartbeats 8000000 in
theorem simX_succ (H : SimE X n) (Hk : SimEs X n) (Hc : SimCallC X n) (HT : ∀ k, k < n + 1 → SimT X k) (Hs : ∀ k, k < n + 1 → SimXs X k) : SimX X (n + 1) := by
  intro top sc st m σ o m' σ' h A env fr ρ s L O I
  have L' := L.mono (Nat.le_succ n)
  have Hsn := Hs n (Nat.lt_succ_self n)
  have HTn := HT n (Nat.lt_succ_self n)
  cases st with
  | Pass pos =>
    simp only [ex] at h
    obtain ⟨rfl, rfl, rfl⟩ := trip h
    exact wpAny_Pass (qs_here I (Stp.refl _) rfl)
  | Break pos =>
    simp only [ex] at h
    obtain ⟨rfl, rfl, rfl⟩ := trip h
    exact wpAny_Break (qs_here I (Stp.refl _) rfl)
  | Continue pos =>
    simp only [ex] at h
    obtain ⟨rfl, rfl, rfl⟩ := trip h
    exact wpAny_Continue (qs_here I (Stp.refl _) rfl)
  | Return e pos =>
    cases e with
    | none => simp [ex] at h
    | some e =>
      simp only [ex] at h
      obtain ⟨⟨v, σ₁⟩, h1, h2⟩ := Option.map_eq_some_iff.mp h
      obtain ⟨rfl, rfl, rfl⟩ := trip1 h2
      exact return_eval H L' I h1
  | Expr e pos =>
    simp only [ex] at h
    split at h
    · rename_i hc
      obtain ⟨⟨v, σ₁⟩, h1, h2⟩ := Option.bind_eq_some_iff.mp h
      dsimp only at h2
      split at h2
      · obtain ⟨rfl, rfl, rfl⟩ := trip h2
        exact expr_stmt H L' I hc h1
      · cases h2
    · cases h
  | Assign ts e pos =>
    cases ts with
    | nil => simp [ex] at h
    | cons t ts =>
      cases ts with
      | cons _ _ => simp [ex] at h
      | nil =>
        cases t with
        | Name x p => exact assign_name H Hk Hc L O I h
        | Tuple ts k tp =>
          cases e with
          | Call f args kws cp =>
            simp only [ex] at h
            obtain ⟨⟨v, σ₁⟩, h1, h2⟩ := Option.bind_eq_some_iff.mp h
            dsimp only at h2
            split at h2
            · obtain ⟨m₁, h3, h4⟩ := Option.map_eq_some_iff.mp h2
              obtain ⟨rfl, rfl, rfl⟩ := trip1 h4
              exact tuple_stmt H L' I h1 h3
            · cases h2
          | _ => simp [ex] at h
        | Attribute ob name p =>
          simp only [ex] at h
          split at h
          · cases h
          · rename_i hc
            have hc : notComp e = true := by cases q : notComp e <;> simp_all
            obtain ⟨⟨v, σ₁⟩, h1, h2⟩ := Option.bind_eq_some_iff.mp h
            obtain ⟨⟨ov, σ₂⟩, h3, h4⟩ := Option.bind_eq_some_iff.mp h2
            dsimp only at h4
            split at h4
            · split at h4
              · rename_i hn
                obtain ⟨σ₃, h5, h6⟩ := Option.map_eq_some_iff.mp h4
                obtain ⟨rfl, rfl, rfl⟩ := trip1 h6
                exact attr_stmt H L' I hc h1 h3 hn h5
              · cases h4
            · cases h4
        | _ => simp [ex] at h
  | AugAssign t op e pos =>
    cases t with
    | Name x p =>
      simp only [ex] at h
      split at h
      · rename_i hk
        obtain ⟨old, h0, h⟩ := Option.bind_eq_some_iff.mp h
        obtain ⟨⟨v, σ₁⟩, h1, h2⟩ := Option.bind_eq_some_iff.mp h
        dsimp only at h2
        split at h2
        · obtain ⟨r, h3, h4⟩ := Option.map_eq_some_iff.mp h2
          obtain ⟨rfl, rfl, rfl⟩ := trip1 h4
          exact aug_name H L' I hk h0 h1 h3
        · cases h2
      · cases h
    | Attribute ob name p =>
      simp only [ex] at h
      obtain ⟨⟨ov, σ₁⟩, h1, h2⟩ := Option.bind_eq_some_iff.mp h
      dsimp only at h2
      split at h2
      · split at h2
        · cases h2
        · rename_i hn
          obtain ⟨old, h3, h4⟩ := Option.bind_eq_some_iff.mp h2
          obtain ⟨⟨v, σ₂⟩, h5, h6⟩ := Option.bind_eq_some_iff.mp h4
          dsimp only at h6
          split at h6
          · obtain ⟨r, h7, h8⟩ := Option.bind_eq_some_iff.mp h6
            obtain ⟨σ₃, h9, h10⟩ := Option.map_eq_some_iff.mp h8
            obtain ⟨rfl, rfl, rfl⟩ := trip1 h10
            exact aug_attr H L' I h1 (Decidable.not_not.mp hn) h3 h5 h7 h9
          · cases h6
      · cases h2
    | _ => simp [ex] at h
  | If t b ob pos =>
    simp only [ex] at h
    exact if_stmt HTn Hsn L' O I h
  | While t b ob pos =>
    cases ob with
    | cons _ _ => simp [ex] at h
    | nil =>
      simp only [ex] at h
      exact while_stmt (fun k hk => HT k (by omega)) (fun k hk => Hs k (by omega)) L' O I h
  | For t it b ob pos =>
    cases ob with
    | cons _ _ => cases t <;> simp [ex] at h
    | nil =>
      cases t with
      | Name x px =>
        have lst : ∀ it, (if sc.names.lookup x = some .local then (ev X.S n sc it m σ).bind fun (v, σ) => (match v with
            | .list l => fo X.S n sc x b l m σ
            | _ => none) else none) = some (o, m', σ') → wpAny (model X.prog X.w) A (exec (.For (.Name x px) it b [] pos) env) (QS X env fr ρ top s o m' σ') (ES X env fr ρ top s o m' σ') s := fun it h => by
          split at h
          · rename_i hk
            obtain ⟨⟨v, σ₁⟩, h1, h2⟩ := Option.bind_eq_some_iff.mp h
            dsimp only at h2
            split at h2
            · exact for_list H (fun k hk => Hs k (by omega)) L' O I hk h1 h2
            · cases h2
          · cases h
        cases it with
        | Call f args kws cp =>
          cases f with
          | Name r rp =>
            cases kws with
            | nil =>
              simp only [ex] at h
              split at h
              · rename_i hc
                obtain ⟨⟨vs, σ₁⟩, h1, h2⟩ := Option.bind_eq_some_iff.mp h
                exact for_range Hk (fun k hk => Hs k (by omega)) L' O I hc.1 hc.2.1 hc.2.2.1 hc.2.2.2.2 hc.2.2.2.1 h2 h1
              · cases h
            | cons _ _ => simp only [ex] at h; exact lst _ h
          | _ => simp only [ex] at h; exact lst _ h
        | _ => simp only [ex] at h; exact lst _ h
      | _ => simp [ex] at h
  | Assert t msg pos =>
    cases msg with
    | some _ => simp [ex] at h
    | none =>
      simp only [ex] at h
      obtain ⟨⟨c, σ₁⟩, h1, h2⟩ := Option.bind_eq_some_iff.mp h
      dsimp only at h2
      cases c with
      | false => simp at h2
      | true =>
        simp only [if_true] at h2
        obtain ⟨rfl, rfl, rfl⟩ := trip h2
        exact assert_stmt HTn L' I h1
  | Raise exc cause pos =>
    cases exc with
    | none => simp [ex] at h
    | some e =>
      cases e with
      | Call f args kws cp =>
        cases f with
        | Name c np =>
          cases args with
          | cons _ _ => simp [ex] at h
          | nil =>
            cases kws with
            | cons _ _ => simp [ex] at h
            | nil =>
              cases cause with
              | some _ => simp [ex] at h
              | none =>
                simp only [ex] at h
                split at h
                · rename_i hc
                  split at h
                  · rename_i a b hg hl
                    split at h
                    · rename_i hab
                      subst hab
                      obtain ⟨rfl, rfl, rfl⟩ := trip h
                      exact raise_stmt (b := a) L' I hc.1 hc.2 hg hl
                    · cases h
                  · cases h
                · cases h
        | _ => simp [ex] at h
      | _ => simp [ex] at h
  | Try b hs oe fb pos =>
    cases hs with
    | nil => simp [ex] at h
    | cons h1 hs =>
      obtain ⟨t, nm, hb, hp⟩ := h1
      cases t with
      | none => simp [ex] at h
      | some t =>
        cases t with
        | Name c np =>
          cases nm with
          | some _ => simp [ex] at h
          | none =>
            cases hb with
            | nil => simp [ex] at h
            | cons p ps =>
              cases p with
              | Pass pp =>
                cases ps with
                | cons _ _ => simp [ex] at h
                | nil =>
                  cases hs with
                  | cons _ _ => simp [ex] at h
                  | nil =>
                    cases oe with
                    | cons _ _ => simp [ex] at h
                    | nil =>
                      cases fb with
                      | cons _ _ => simp [ex] at h
                      | nil =>
                        simp only [ex] at h
                        obtain ⟨⟨o₁, m₁, σ₁⟩, h1, h2⟩ := Option.bind_eq_some_iff.mp h
                        exact try_stmt Hsn L' O I h1 h2
              | _ => simp [ex] at h
        | _ => simp [ex] at h
  | _ => simp [ex] at h
end
end Ind
set_option maxRecDepth 100000
set_option Elab.async false
namespace Ind
open PySem PySem.W PySem.Calls PyProof.Rows
def closL (env : Env) : List (Str × NameKind) → List (Str × Addr) → List (Str × Addr)
  | [], acc => acc
  | (n, k) :: r, acc => if k == .free then closL env r ((n, (env.cells.lookup n).getD 0) :: acc) else closL env r acc
theorem closureFor_eq {scope : Scope} {env : Env} (h : ∀ y ∈ scope.names, y.2 = .free → (env.cells.lookup y.1).isSome = true) : closureFor scope env = pure (closL env scope.names []) := by
  unfold closureFor
  have key : ∀ (names : List (Str × NameKind)) (acc : List (Str × Addr)), (∀ y ∈ names, y.2 = .free → (env.cells.lookup y.1).isSome = true) →
      (forIn names acc (fun x r => match x with
        | (name, kind) => if (kind == NameKind.free) = true then do let c ← cellOf env name; pure (ForInStep.yield ((name, c) :: r)) else pure (ForInStep.yield r)) : Sem (List (Str × Addr))) = pure (closL env names acc) := by
    intro names
    induction names with
    | nil => intro acc _; rfl
    | cons p r ih =>
      obtain ⟨n, k⟩ := p
      intro acc hh
      rw [List.forIn_cons]
      unfold closL
      by_cases q : (k == NameKind.free) = true
      · have hk : k = .free := by simpa using q
        obtain ⟨c, hc⟩ := Option.isSome_iff_exists.mp (hh (n, k) (.head _) hk)
        dsimp only at hc ⊢
        rw [if_pos q, if_pos q]
        have e : cellOf env n = pure c := by unfold cellOf; rw [hc]
        rw [e, hc]
        exact ih _ fun y hy => hh y (.tail _ hy)
      · dsimp only
        rw [if_neg q, if_neg q]
        exact ih _ fun y hy => hh y (.tail _ hy)
  have := key scope.names [] h
  first
    | exact this
    | (simp only [bind_pure] at this ⊢; exact this)
    | (show (forIn scope.names ([] : List (Str × Addr)) _ >>= pure) = _; rw [bind_pure]; exact this)
theorem closL_look {env : Env} : ∀ {names : List (Str × NameKind)} {acc : List (Str × Addr)} {x : Str} {c : Addr}, (∀ y ∈ names, y.2 = .free → (env.cells.lookup y.1).isSome = true) → (closL env names acc).lookup x = some c → acc.lookup x = some c ∨ env.cells.lookup x = some c
  | [], acc, x, c, _, h => .inl h
  | (n, k) :: r, acc, x, c, hh, h => by
    unfold closL at h
    split at h
    · rename_i q
      have hk : k = .free := by simpa using q
      rcases closL_look (fun y hy => hh y (.tail _ hy)) h with z | z
      · rw [List.lookup_cons] at z
        by_cases e : x = n
        · subst e
          rw [beq_self_eq_true] at z
          obtain ⟨d, hd⟩ := Option.isSome_iff_exists.mp (hh (x, k) (.head _) hk)
          dsimp only at hd
          rw [hd] at z
          cases z
          exact .inr hd
        · rw [show (x == n) = false by simpa using e] at z
          exact .inl z
      · exact .inr z
    · exact closL_look (fun y hy => hh y (.tail _ hy)) h
theorem closL_some {env : Env} : ∀ {names : List (Str × NameKind)} {acc : List (Str × Addr)} {x : Str}, ((x, NameKind.free) ∈ names ∨ (acc.lookup x).isSome = true) → ((closL env names acc).lookup x).isSome = true
  | [], acc, x, h => by
    rcases h with h | h
    · cases h
    · exact h
  | (n, k) :: r, acc, x, h => by
    unfold closL
    split
    · rename_i q
      refine closL_some ?_
      by_cases e : x = n
      · subst e; exact .inr (by simp)
      · rcases h with h | h
        · rcases List.mem_cons.mp h with h | h
          · cases h; exact absurd rfl e
          · exact .inl h
        · exact .inr (by rw [List.lookup_cons, show (x == n) = false by simpa using e]; exact h)
    · rename_i q
      refine closL_some (h.imp (fun h => ?_) id)
      rcases List.mem_cons.mp h with h | h
      · cases h; exact absurd rfl q
      · exact h
theorem compSc_lookup (cs sc : Scope) (x : Str) : (compSc cs sc).names.lookup x = (cs.names.lookup x).map fun k => if (k == .free && sc.kind == .function && sc.names.lookup x == some .cell) then .cell else k := by
  unfold compSc
  dsimp only
  induction cs.names with
  | nil => rfl
  | cons p r ih =>
    obtain ⟨n, k⟩ := p
    rw [List.map_cons, List.lookup_cons]
    have hd : ∀ (b : Bool), (if b = true then ((n, NameKind.cell) : Str × NameKind) else (n, k)) = (n, if b = true then NameKind.cell else k) := fun b => by cases b <;> rfl
    dsimp only
    rw [hd, List.lookup_cons]
    by_cases q : x = n
    · subst q
      rw [beq_self_eq_true]
      rfl
    · have e : (x == n) = false := by simpa using q
      rw [e]
      exact ih
section
variable {X : Cx}
variable {A : Around} {env cenv : Env} {fr : List Env} {ρ ρ' : Rho} {m m' : Lm} {σ σ' : Sto} {s s₀ s₁ : Shared} {E : Value → Shared → Prop} {sc cs : Scope} {n : Nat}
theorem Iv.rebuild {C : Addr} {hb : Heap} {os : OsState} (I : Iv C hb os env fr ρ m σ s) (hbs : hb.StaysIn s₁.heap) (R : Rep C hb σ' ρ s₁.heap) (hg : s₁.gens = #[]) (ho : s₁.os = os)
    (k : ∀ b o, s.heap.get? b = some o → (∀ vs, o.data ≠ .fields vs) → b ∉ ρ.mu → ∃ sl, s₁.heap.get? b = some { o with slots := sl }) : Iv C hb os env fr ρ m σ' s₁ := by
  obtain ⟨mv, hn, hl⟩ := I.loc
  have up : ∀ {v : MV} {val : Value}, VIs ρ s.heap v val → VIs ρ s₁.heap v val := by
    intro v val hv
    cases v with
    | list l =>
      obtain ⟨a, vs, e, hm, hl, ha⟩ := hv
      refine ⟨a, vs, e, hm, list_slots hl fun o eo => k a o eo (fun ws q => ?_) hm, ha⟩
      obtain ⟨o', e', _, n, d⟩ := hl
      rw [eo] at e'; cases e'; rw [d] at q; cases q
    | tup l =>
      obtain ⟨a, vs, e, hm, hl, ha⟩ := hv
      refine ⟨a, vs, e, hm, tup_slots hl fun o eo => k a o eo (fun ws q => ?_) hm, ha⟩
      obtain ⟨o', n, e', _, d⟩ := hl
      rw [eo] at e'; cases e'; rw [d] at q; cases q
    | _ => exact hv
  refine ⟨hbs, R, ⟨mv, ?_, fun x v e => ?_⟩, I.lnew, I.lmu, fun e he => ?_, hg, ho⟩
  · obtain ⟨o, es, ep, e1, e2, r⟩ := hn
    obtain ⟨sl, e3⟩ := k _ _ e1 (fun vs q => by rw [e2] at q; cases q) I.lmu
    exact ⟨_, es, ep, e3, e2, r⟩
  · have q := hl x v e
    have cell : ∀ {c : Addr} {val : Value}, s.heap.IsCell c (some val) → s₁.heap.IsCell c (some val) := fun {c val} z => by
      have hm := I.rep.notCell z
      obtain ⟨o, e, d⟩ := z
      obtain ⟨sl, e3⟩ := k c o e (fun vs q => by rw [d] at q; cases q) hm
      exact ⟨_, e3, d⟩
    unfold Holds at q ⊢
    split at q
    · obtain ⟨u, e1, e2⟩ := q; exact ⟨u, e1, up e2⟩
    · obtain ⟨c, u, e1, e2, e3⟩ := q; exact ⟨c, u, e1, cell e2, up e3⟩
    · obtain ⟨c, u, e1, e2, e3⟩ := q; exact ⟨c, u, e1, cell e2, up e3⟩
    · trivial
  · obtain ⟨hk, L, o, es, ep, e1, e2, e3, e4, e5⟩ := I.frs e he
    obtain ⟨sl, e6⟩ := k _ _ e3 (fun vs q => by rw [e4] at q; cases q) e5
    exact ⟨hk, L, _, es, ep, e1, e2, e6, e4, e5⟩
structure CompOk (cs sc : Scope) (x : Str) : Prop where
  kind : cs.kind = .function
  okind : sc.kind = .function
  nocell : ∀ y ∈ cs.names, y.2 ≠ .cell
  locals : ∀ y ∈ cs.names, y.2 = .local → cs.names.lookup y.1 = some .local
  x : cs.names.lookup x = some .local
  free : ∀ y ∈ cs.names, y.2 = .free → sc.names.lookup y.1 = some .cell
theorem Iv.comp {C : Addr} {hb : Heap} {os : OsState} {x : Str} {a : At} {val : Value} {mc : Str → Option Value} (I : Iv C hb os env fr ρ m σ s) (hs : env.scope = sc) (CO : CompOk cs sc x) (hcells : ∀ y, sc.names.lookup y = some .cell → (env.cells.lookup y).isSome = true)
    (hcs : cenv.scope = compSc cs sc) (hcc : cenv.cells = closL env cs.names []) (hn : s.heap.Ns cenv.locals mc) (hx : mc x = some val) (ha : AtIs a val) (hnew : hb.get? cenv.locals = none) (hmu : cenv.locals ∉ ρ.mu) :
    Iv C hb os cenv fr ρ (m.comp (compSc cs sc) x (.at a)) σ s := by
  refine ⟨I.base, I.rep, ⟨mc, hn, fun y v e => ?_⟩, hnew, hmu, I.frs, I.gens, I.os⟩
  obtain ⟨mv, hne, hl⟩ := I.loc
  unfold Holds
  have hk : cenv.kindOf y = (compSc cs sc).names.lookup y := by unfold Env.kindOf; rw [hcs]
  have frees : ∀ z ∈ cs.names, z.2 = .free → (env.cells.lookup z.1).isSome = true := fun z hz hf => hcells _ (CO.free z hz hf)
  rw [hk]
  unfold Lm.comp at e
  by_cases q : y = x
  · subst q
    rw [if_pos rfl] at e
    cases e
    rw [compSc_lookup, CO.x]
    exact ⟨val, hx, ha⟩
  · rw [if_neg q] at e
    split at e
    · cases e
    · rename_i hnl
      have old := hl y v e
      rw [compSc_lookup] at hnl ⊢
      cases hc : cs.names.lookup y with
      | none => trivial
      | some k =>
        rw [hc] at hnl
        have hmem : (y, k) ∈ cs.names := mem_of_lookup hc
        cases k with
        | «local» => exact absurd rfl hnl
        | cell => exact absurd rfl (CO.nocell _ hmem)
        | free =>
          have hsc := CO.free _ hmem rfl
          dsimp only at hsc
          rw [hsc, CO.okind]
          show ∃ c val, cenv.cells.lookup y = some c ∧ s.heap.IsCell c (some val) ∧ VIs ρ s.heap v val
          have hko : env.kindOf y = some .cell := by unfold Env.kindOf; rw [hs]; exact hsc
          unfold Holds at old
          rw [hko] at old
          obtain ⟨c, u, e1, e2, e3⟩ := old
          obtain ⟨c', hc'⟩ := Option.isSome_iff_exists.mp (closL_some (env := env) (names := cs.names) (acc := []) (.inl hmem))
          rcases closL_look frees hc' with z | z
          · cases z
          · rw [e1] at z; cases z
            exact ⟨c, u, by rw [hcc]; exact hc', e2, e3⟩
        | globalExplicit => trivial
        | globalImplicit => trivial
end
end Ind
set_option maxRecDepth 100000
set_option Elab.async false
namespace Ind
open PySem PySem.W PySem.Calls PyProof.Rows
structure Walk2 (prog : Program) (w : World) (A : Around) (I : Addr) (fp wr : List Addr) (Lst : Heap → Prop) (l : List At) (St : Nat → Heap → Prop) : Prop where
  sub : ∀ b ∈ wr, b ∈ fp
  frame : ∀ i h h', St i h → (∀ b ∈ fp, ∀ o, h.get? b = some o → h'.get? b = some o) → Lst h' → St i h'
  item : ∀ i (s : Shared) (Q : Option Value → Shared → Prop) (E : Value → Shared → Prop) a, l[i]? = some a → St i s.heap →
    (∀ v h' tk, AtIs a v → St (i + 1) h' → (∀ b o, b ∉ wr → s.heap.get? b = some o → h'.get? b = some o) → Q (some v) { s with heap := h', toks := tk }) → wpAny (model prog w) A (pyNext (.ref I)) Q E s
  done : ∀ (s : Shared) (Q : Option Value → Shared → Prop) (E : Value → Shared → Prop), St l.length s.heap →
    (∀ h' tk, (∀ b o, b ∉ wr → s.heap.get? b = some o → h'.get? b = some o) → Q none { s with heap := h', toks := tk }) → wpAny (model prog w) A (pyNext (.ref I)) Q E s
  self : ∀ i (s : Shared) (Q : Value → Shared → Prop) (E : Value → Shared → Prop), St i s.heap → Q (.ref I) s → wpAny (model prog w) A (pyIter (.ref I)) Q E s
theorem Walk2.of {prog : Program} {w : World} {A : Around} {I : Addr} {fp wr : List Addr} {N : Nat} {P : Nat → Value → Prop} {St : Nat → Heap → Prop} {l : List At} (W : Walks prog w A I fp wr N P St) (hN : l.length = N)
    (hP : ∀ i v a, P i v → l[i]? = some a → AtIs a v) : Walk2 prog w A I fp wr (fun _ => True) l St where
  sub := W.sub
  frame := fun i h h' st k _ => W.frame i h h' st k
  item := fun i s Q E a ha st k => W.item i s Q E (by rw [← hN]; exact (List.getElem?_eq_some_iff.mp ha).1) st fun v h' tk p st' kk => k v h' tk (hP i v a p ha) st' kk
  done := fun s Q E st k => W.done s Q E (hN ▸ st) k
  self := W.self
def LstIs (ax : Addr) (l : List At) (h : Heap) : Prop := ∃ vs n, h.get? ax = some (listOf vs n) ∧ AtsAre l vs.toList
theorem Walk2.ml {prog : Program} {w : World} {A : Around} (hh : A.handled = none) (I ax : Addr) (hne : ax ≠ I) (l : List At) :
    Walk2 prog w A I [I] [I] (LstIs ax l) l (fun i h => h.IsListIter I ax i ∧ LstIs ax l h) where
  sub := fun _ h => h
  frame := fun _ _ _ st hk L => ⟨st.1.at fun o e => hk I (by simp) o e, L⟩
  item := fun i s Q E a ha st hQ => by
    obtain ⟨hit, vs, n, ho, hvs⟩ := st
    obtain ⟨v, e1, e2⟩ := hvs.get ha
    have hl : s.heap.IsList ax vs := ⟨_, ho, rfl, n, rfl⟩
    refine wpAny_pyNext_list_item hit hl (x := v) (by rw [← Array.getElem?_toList]; exact e1) fun h' hit' hs' => ?_
    exact hQ v h' s.toks e2 ⟨hit', vs, n, hs'.extBut ax _ hne ho, hvs⟩ fun b o hb e => hs'.extBut b o (fun h => hb (by simp [h])) e
  done := fun s Q E st hQ => by
    obtain ⟨hit, vs, n, ho, hvs⟩ := st
    have hl : s.heap.IsList ax vs := ⟨_, ho, rfl, n, rfl⟩
    refine wpAny_pyNext_list_end hh hit hl ?_ fun h' he' => hQ h' s.toks fun b o hb e => he' b o (fun h => hb (by simp [h])) e
    have := hvs.length
    rw [this, ← Array.getElem?_toList]
    simp
  self := fun _ _ _ _ st hQ => wpAny_pyIter_listiter st.1 hQ
theorem Rep.on {C : Addr} {hb : Heap} {σ : Sto} {ρ : Rho} {h h' : Heap} (R : Rep C hb σ ρ h) (k : ∀ a ∈ ρ.mu, ∀ o, h.get? a = some o → h'.get? a = some o) : Rep C hb σ ρ h' := by
  refine ⟨?_, R.len, fun i l a h1 h2 => ?_, R.nodup, R.new⟩
  · have q := R.stem
    split
    · rename_i a d e
      rw [e] at q
      have ha : a ∈ ρ.mu := by unfold Rho.mu; rw [e]; simp
      have hd : d ∈ ρ.mu := by unfold Rho.mu; rw [e]; simp
      exact ⟨q.1, k _ ha _ q.2.obj, let ⟨es, n, e1, e2⟩ := q.2.dict; ⟨es, n, k _ hd _ e1, e2⟩⟩
    · rename_i e; rw [e] at q; exact q
  · obtain ⟨vs, n, e1, e2⟩ := R.lists i l a h1 h2
    exact ⟨vs, n, k _ (by unfold Rho.mu; exact List.mem_append_right _ (List.mem_of_getElem? h2)) _ e1, e2⟩
section
variable {X : Cx}
variable {A : Around} {env cenv : Env} {fr : List Env} {ρ ρ' : Rho} {m m' : Lm} {σ σ' : Sto} {s s₀ s₁ : Shared} {E : Value → Shared → Prop} {sc cs : Scope} {n : Nat}
theorem forIn_false (ifs : List Expr) : (forIn ifs false fun c r => if r = true then do let ok ← isTrue c env (eval c env); pure (ForInStep.yield ok) else pure (ForInStep.yield r) : Sem Bool) = pure false := by
  induction ifs with
  | nil => rfl
  | cons e r ih => rw [List.forIn_cons, if_neg (by decide)]; exact ih
theorem tests_sim : ∀ {n : Nat} {ifs : List Expr} {σ σ' : Sto} {c : Bool} {s : Shared}, (∀ k, k < n → SimT X k) → Lok A n env fr sc → Ix X env fr ρ m σ s → tests X.S n sc ifs m σ = some (c, σ') →
    wpAny (model X.prog X.w) A (forIn ifs true fun c r => if r = true then do let ok ← isTrue c env (eval c env); pure (ForInStep.yield ok) else pure (ForInStep.yield r)) (PB X env fr ρ m s c σ') E s
  | 0, _, _, _, _, _, _, _, _, h => by simp [tests] at h
  | n + 1, [], _, _, _, _, _, L, I, h => by
    simp only [tests] at h; cases h
    exact wpAny_pure ⟨rfl, I, Stp.refl _⟩
  | n + 1, e :: r, σ, σ', c, s, HT, L, I, h => by
    simp only [tests] at h
    obtain ⟨⟨b, σ₁⟩, h1, h2⟩ := Option.bind_eq_some_iff.mp h
    rw [List.forIn_cons, if_pos rfl]
    refine wpAny_bind (wpAny_bind (wpAny_mono (HT n (by omega) _ _ _ _ _ _ h1 A env fr ρ s E (L.mono (by omega)) I) (fun b' s₁ ⟨q, I₁, st₁⟩ => wpAny_pure ?_) fun _ _ x => x))
    subst q
    dsimp only at h2 ⊢
    cases b' with
    | true =>
      rw [if_pos rfl] at h2
      refine wpAny_mono (tests_sim (fun k hk => HT k (by omega)) (L.mono (by omega)) I₁ h2) (fun y s₂ ⟨a, b, c⟩ => ⟨a, b, st₁.trans c⟩) fun _ _ x => x
    | false =>
      rw [if_neg (by decide)] at h2
      cases h2
      rw [forIn_false]
      exact wpAny_pure ⟨rfl, I₁, st₁⟩
def Kp (fr : List Env) (ρ : Rho) (h h' : Heap) : Prop := ∀ b o, h.get? b = some o → b ∉ ρ.mu → (b ∉ frA fr → h'.get? b = some o) ∧ ∃ sl, h'.get? b = some { o with slots := sl }
theorem Kp.keep {h h₁ h₂ : Heap} (k : Kp fr ρ h h₁) {wr : List Addr} (hw : ∀ c ∈ wr, h.get? c = none) (kk : ∀ b o, b ∉ wr → h₁.get? b = some o → h₂.get? b = some o) : Kp fr ρ h h₂ := fun b o e hm => by
  obtain ⟨a, sl, e2⟩ := k b o e hm
  have hb : b ∉ wr := fun q => by rw [hw b q] at e; cases e
  exact ⟨fun q => kk b o hb (a q), sl, kk b _ hb e2⟩
theorem Kp.stp {h h₁ h₂ : Heap} (k : Kp fr ρ h h₁) (st : Stp cenv fr ρ h₁ h₂) (hC : h.get? cenv.locals = none) : Kp fr ρ h h₂ := fun b o e hm => by
  obtain ⟨a, sl, e2⟩ := k b o e hm
  have hb : b ≠ cenv.locals := fun q => by rw [q, hC] at e; cases e
  exact ⟨fun q => (st b o (a q) hb hm).1 q, by obtain ⟨_, sl', e3⟩ := st b _ e2 hb hm; exact ⟨sl', e3⟩⟩
theorem Kp.toStp {h h₁ : Heap} (k : Kp fr ρ h h₁) : Stp env fr ρ h h₁ := fun b o e _ hm => k b o e hm
theorem comp_loop {elt iter : Expr} {x : Str} {px : Pos} {ifs : List Expr} {pos : Pos} {I D : Addr} {fp wr : List Addr} {Lst : Heap → Prop} {l : List At} {St : Nat → Heap → Prop} {out : List At} {R : Result → Shared → Prop} {mc : Str → Option Value}
    (W : Walk2 X.prog X.w A I fp wr Lst l St) (HT : ∀ k, k < n → SimT X k) (HE : ∀ k, k < n → SimE X k) (CO : CompOk cs sc x) (L : Lok A n env fr sc) (hc : ∀ k, k ≤ n → Lok A k cenv fr (compSc cs sc))
    (I₀ : Ix X env fr ρ m σ s₀) (hcc : cenv.cells = closL env cs.names [])
    (hb : ∀ b o, X.hb.get? b = some o → s₀.heap.get? b = some o)
    (hC : s₀.heap.get? cenv.locals = none) (hD : s₀.heap.get? D = none) (hDC : D ≠ cenv.locals) (hDf : D ∉ fp) (hCf : cenv.locals ∉ fp) (hw : ∀ c ∈ wr, s₀.heap.get? c = none)
    (hfp : ∀ c ∈ fp, c ∉ ρ.mu ∧ c ∉ frA fr) (hL : ∀ σ₁ h, σ₁.ls = σ.ls → Rep X.S.C X.hb σ₁ ρ h → Lst h)
    (hst : St 0 s.heap) (hacc : s.heap.PlainList D #[]) (hn : s.heap.Ns cenv.locals mc) (kp : ∀ b o, s₀.heap.get? b = some o → s.heap.get? b = some o) (hg : s.gens = #[]) (ho : s.os = X.os)
    (h : comp X.S n (compSc cs sc) elt x ifs l m σ = some (out, σ'))
    (fin : ∀ {s₁ : Shared} {ys : Array Value} {mc' : Str → Option Value}, Ix X env fr ρ m σ' s₁ → Kp fr ρ s₀.heap s₁.heap → s₁.heap.PlainList D ys → AtsAre out ys.toList → s₁.heap.Ns cenv.locals mc' → R (.ok .next) s₁) :
    codeAny (model X.prog X.w) A (.compLoop (.ListComp elt [⟨.Name x px, iter, ifs, 0⟩] cs pos) 0 (.ref I) (.ref D) cenv) R s := by
  have apC := fresh_apart I₀ hC
  have apD := fresh_apart I₀ hD
  have apw : ∀ c ∈ wr, c ∉ ρ.mu := fun c q => (hfp c (W.sub c q)).1
  have hCw : cenv.locals ∉ wr := fun q => hCf (W.sub _ q)
  have hDw : D ∉ wr := fun q => hDf (W.sub _ q)
  have bw : ∀ c, s₀.heap.get? c = none → X.hb.get? c = none := fun c e => fresh_base I₀ e
  refine codeAny_compLoop_tests (fun k s₁ => k ≤ n ∧ ∃ i σ₁ ys acc out' mc', i + (l.drop i).length = l.length ∧ St i s₁.heap ∧ X.hb.StaysIn s₁.heap ∧ Rep X.S.C X.hb σ₁ ρ s₁.heap ∧ s₁.gens = #[] ∧ s₁.os = X.os ∧
      s₁.heap.Ns cenv.locals mc' ∧ s₁.heap.PlainList D ys ∧ AtsAre acc ys.toList ∧ acc.length + k ≤ n ∧ Kp fr ρ s₀.heap s₁.heap ∧ σ₁.ls = σ.ls ∧ comp X.S k (compSc cs sc) elt x ifs (l.drop i) m σ₁ = some (out', σ') ∧ out = acc ++ out') ?_ n
    ⟨Nat.le_refl _, 0, σ, #[], [], out, mc, by simp, hst, fun b o e => kp b o (I₀.base b o e), I₀.rep.on fun a _ o e => kp a o e, hg, ho, hn, hacc, .nil, by simp, fun b o e _ => ⟨fun _ => kp b o e, o.slots, kp b o e⟩, rfl, h, rfl⟩
  rintro k s₁ ⟨hkn, i, σ₁, ys, acc, out', mc', hi, hst, hbs, hR, hg, ho, hn, hpl, hacc, hak, hk, hls, hf, hout⟩
  cases k with
  | zero => simp [comp] at hf
  | succ k =>
    -- the state after pyNext
    have after : ∀ {h' : Heap} {tk : Tok}, (∀ b o, b ∉ wr → s₁.heap.get? b = some o → h'.get? b = some o) → X.hb.StaysIn h' ∧ Rep X.S.C X.hb σ₁ ρ h' ∧ h'.Ns cenv.locals mc' ∧ h'.PlainList D ys ∧ Kp fr ρ s₀.heap h' := fun {h' tk} kk =>
      ⟨fun b o e => kk b o (fun q => by rw [bw b (hw b q)] at e; cases e) (hbs b o e), hR.on fun a ha o e => kk a o (fun q => apw a q ha) e, hn.at' fun o e => kk _ o hCw e, hpl.at fun o e => kk _ o hDw e, hk.keep hw kk⟩
    have view : ∀ {σ₁ : Sto} {s₁ : Shared}, X.hb.StaysIn s₁.heap → Rep X.S.C X.hb σ₁ ρ s₁.heap → Kp fr ρ s₀.heap s₁.heap → s₁.gens = #[] → s₁.os = X.os → Ix X env fr ρ m σ₁ s₁ := fun {σ₁ s₁} a b c d e =>
      I₀.rebuild a b d e fun q o e1 _ e2 => (c q o e1 e2).2
    cases hd : l.drop i with
    | nil =>
      rw [hd] at hf hi
      simp only [comp] at hf
      cases hf
      have hi : i = l.length := by simpa using hi
      refine W.done s₁ _ _ (hi ▸ hst) fun h' tk kk => ?_
      obtain ⟨b1, b2, b3, b4, b5⟩ := after (tk := tk) kk
      refine fin (view (s₁ := { s₁ with heap := h', toks := tk }) b1 b2 b5 hg ho) b5 b4 ?_ b3
      rw [hout, List.append_nil]; exact hacc
    | cons a r =>
      rw [hd] at hf hi
      simp only [comp] at hf
      obtain ⟨⟨b, σ₂⟩, h3, h4⟩ := Option.bind_eq_some_iff.mp hf
      have ha : l[i]? = some a := by
        have := congrArg (fun z : List At => z[0]?) hd
        simpa using this
      have hdr : l.drop (i + 1) = r := by
        have e1 : l.drop (i + 1) = (l.drop i).drop 1 := by rw [List.drop_drop]
        rw [e1, hd]; rfl
      refine W.item i s₁ _ _ a ha hst fun v h' tk hv hst' kk => ?_
      obtain ⟨b1, b2, b3, b4, b5⟩ := after (tk := tk) kk
      have Lk := hc k (by omega)
      have hx : cenv.kindOf x = some .local := by
        unfold Env.kindOf
        rw [Lk.scope, compSc_lookup, CO.x]; rfl
      refine wpAny_assign_Name (wpAny_storeName_local hx b3 (fun h₂ hn₂ hs₂ => ?_) (by rw [Lk.scope]; simp [Lk.kind]))
      have I₂ : Ix X env fr ρ m σ₁ ⟨h₂, s₁.gens, s₁.drawn, tk + 1, s₁.os⟩ := view (s₁ := ⟨h₂, s₁.gens, s₁.drawn, tk + 1, s₁.os⟩) (fun b o e => hs₂.extBut b o (fun q => by rw [q, bw _ hC] at e; cases e) (b1 b o e))
        (b2.on fun a ha o e => hs₂.extBut a o (fun q => apC.2.1 (q ▸ ha)) e) (b5.keep (wr := [cenv.locals]) (by simpa using hC) fun b o q e => hs₂.extBut b o (by simpa using q) e) hg ho
      have kp₂ : Kp fr ρ s₀.heap h₂ := b5.keep (wr := [cenv.locals]) (by simpa using hC) fun b o q e => hs₂.extBut b o (by simpa using q) e
      have J₂ : Ix X cenv fr ρ (m.comp (compSc cs sc) x (.at a)) σ₁ ⟨h₂, s₁.gens, s₁.drawn, tk + 1, s₁.os⟩ :=
        I₂.comp L.scope CO L.cells Lk.scope hcc hn₂ (by simp) hv (bw _ hC) apC.2.1
      have hpl₂ : h₂.PlainList D ys := b4.at fun o e => hs₂.extBut D o hDC e
      have stS : ∀ {i : Nat} {h h' : Heap}, St i h → Stp cenv fr ρ h h' → Lst h' → St i h' := fun hs hx hl => W.frame _ _ _ hs (fun c hc o e => (hx c o e (fun q => hCf (q ▸ hc)) (hfp c hc).1).1 (hfp c hc).2) hl
      have st₂ : St (i + 1) h₂ := W.frame _ _ _ hst' (fun c hc o e => hs₂.extBut c o (fun q => hCf (q ▸ hc)) e) (hL σ₁ _ hls I₂.rep)
      refine wpAny_mono (tests_sim (fun k' hk' => HT k' (by omega)) Lk J₂ h3) (fun ok s₃ ⟨q, J₃, t₃⟩ => ?_) fun _ _ x => x
      subst q
      dsimp only at h4
      have step : ∀ {s₃ : Shared} {σ₂ : Sto} {mm : Lm}, Ix X cenv fr ρ mm σ₂ s₃ → Stp cenv fr ρ h₂ s₃.heap → σ₂.ls = σ₁.ls → St (i + 1) s₃.heap ∧ s₃.heap.PlainList D ys ∧ Kp fr ρ s₀.heap s₃.heap := fun {s₃ σ₂ mm} J t e =>
        ⟨stS st₂ t (hL _ _ (e.trans hls) J.rep), hpl₂.at fun o e => (t D o e hDC apD.2.1).1 apD.2.2, kp₂.stp t hC⟩
      cases ok with
      | false =>
        rw [if_neg (by decide)] at h4 ⊢
        split at h4
        · rename_i hl2
          obtain ⟨c1, c2, c3⟩ := step J₃ t₃ hl2
          obtain ⟨mc₃, hn₃, _⟩ := J₃.loc
          exact ⟨k, Nat.lt_succ_self k, by omega, i + 1, σ₂, ys, acc, out', mc₃, by rw [hdr]; rw [List.length_cons] at hi; omega, c1, J₃.base, J₃.rep, J₃.gens, J₃.os, hn₃, c2, hacc, by omega, c3, hl2.trans hls, by rw [hdr]; exact h4, hout⟩
        · cases h4
      | true =>
        rw [if_pos rfl] at h4 ⊢
        obtain ⟨⟨y, σ₃⟩, h5, h6⟩ := Option.bind_eq_some_iff.mp h4
        refine SimE.use (HE k (by omega)) h5 Lk J₃ fun y' s₄ J₄ v₄ t₄ => ?_
        dsimp only at h6
        split at h6
        · rename_i y₀
          split at h6
          · rename_i hl2
            obtain ⟨⟨out₂, σ₄⟩, h7, h8⟩ := Option.map_eq_some_iff.mp h6
            cases h8
            obtain ⟨c1, c2, c3⟩ := step J₄ (t₃.trans t₄) hl2
            obtain ⟨mc₃, hn₃, _⟩ := J₄.loc
            have hsz : ys.size ≤ sizeLine := by
              have e1 : acc.length = ys.size := by have := hacc.length; rwa [Array.length_toList] at this
              have e2 : A.depth + n < recursionLimit := L.depth
              have e3 : recursionLimit ≤ sizeLine := by rw [show recursionLimit = 1000 from rfl, show sizeLine = 2 ^ 24 from rfl]; decide
              have e4 : acc.length + (k + 1) ≤ n := hak
              omega
            refine wpAny_list_append_plain (hsz := hsz) c2 fun h₅ hl₅ hs₅ => ?_
            refine ⟨k, Nat.lt_succ_self k, by omega, i + 1, σ₃, ys.push y', acc ++ [y₀], out₂, mc₃, by rw [hdr]; rw [List.length_cons] at hi; omega, ?_, ?_, ?_, J₄.gens, J₄.os, hn₃.sameBut hs₅ (Ne.symm hDC), hl₅, ?_, ?_, ?_, hl2.trans hls, by rw [hdr]; exact h7, by rw [hout]; simp⟩
            · have R₅ : Rep X.S.C X.hb σ₃ ρ h₅ := J₄.rep.on fun a ha o e => hs₅.extBut a o (fun q => apD.2.1 (q ▸ ha)) e
              exact W.frame _ _ _ c1 (fun c hc o e => hs₅.extBut c o (fun q => hDf (q ▸ hc)) e) (hL _ _ (hl2.trans hls) R₅)
            · exact fun b o e => hs₅.extBut b o (fun q => by rw [q, bw _ hD] at e; cases e) (J₄.base b o e)
            · exact J₄.rep.on fun a ha o e => hs₅.extBut a o (fun q => apD.2.1 (q ▸ ha)) e
            · rw [Array.toList_push]; exact hacc.append (.cons v₄ .nil)
            · rw [List.length_append]; simp; omega
            · exact c3.keep (wr := [D]) (by simpa using hD) fun b o q e => hs₅.extBut b o (by simpa using q) e
          · cases h6
        · cases h6
end
end Ind
set_option maxRecDepth 100000
set_option Elab.async false
namespace Ind
open PySem PySem.W PySem.Calls PyProof.Rows
section
variable {X : Cx}
variable {A : Around} {env cenv : Env} {fr : List Env} {ρ ρ' : Rho} {m m' : Lm} {σ σ' : Sto} {s s₀ s₁ : Shared} {E : Value → Shared → Prop} {sc cs : Scope} {n : Nat}
theorem comp_lok {C : Addr} {x : Str} (CO : CompOk cs sc x) (L : Lok A n env fr sc) : Lok A n (compEnvC cs (closL env cs.names []) C env) fr (compSc cs sc) := by
  have e : relabel cs env = compSc cs sc := by
    have := L.scope
    subst this
    rfl
  refine ⟨L.handled, L.frames, L.depth, L.units, e, CO.kind, L.globals, L.builtins, fun x hx => ?_⟩
  show ((closL env cs.names []).lookup x).isSome = true
  rw [compSc_lookup] at hx
  obtain ⟨k, h1, h2⟩ := Option.map_eq_some_iff.mp hx
  have hm := mem_of_lookup h1
  cases k with
  | free => exact closL_some (.inl hm)
  | cell => exact absurd rfl (CO.nocell _ hm)
  | _ => cases h2
theorem comp_tail {elt iter : Expr} {x : Str} {px : Pos} {ifs : List Expr} {pos : Pos} {fp wr : List Addr} {Lst : Heap → Prop} {l : List At} {St : Nat → Heap → Prop} {out : List At} {o : Obj}
    (CO : CompOk cs sc x) (L : Lok A n env fr sc) (I₁ : Ix X env fr ρ m σ s₁)
    (W : Walk2 X.prog X.w A s₁.heap.objs.size fp wr Lst l St) (HT : ∀ k, k < n → SimT X k) (HE : ∀ k, k < n → SimE X k) (hst : St 0 (s₁.heap.push o))
    (hw : ∀ c ∈ wr, s₁.heap.get? c = none) (hfp : ∀ c ∈ fp, c ∉ ρ.mu ∧ c ∉ frA fr) (hlt : ∀ c ∈ fp, c ≤ s₁.heap.objs.size) (hL : ∀ σ₁ h, σ₁.ls = σ.ls → Rep X.S.C X.hb σ₁ ρ h → Lst h)
    (st : Stp env fr ρ s.heap s₁.heap) (h : comp X.S n (compSc cs sc) elt x ifs l m σ = some (out, σ')) :
    wpAny (model X.prog X.w) A (newList []) (fun acc s₃ => wpAny (model X.prog X.w) A (newFunctionEnv cs env.globals (closL env cs.names []) [] env.qual none .none (some env)) (fun cenv s₄ =>
      codeAny (model X.prog X.w) A (.compStart (.ListComp elt [⟨.Name x px, iter, ifs, 0⟩] cs pos) 0 (.ref s₁.heap.objs.size) acc { cenv with scope := relabel cs env })
        (compPost (model X.prog X.w) A E none (PE X env fr ρ m s (.list out) σ') acc cenv.locals) s₄) E s₃) E { s₁ with heap := s₁.heap.push o } := by
  refine wpAny_newObj_type (wpAny_newFunctionEnv CO.nocell (by intro y hy; simp at hy) (fun h₁ hns₁ hsb₁ => ?_) CO.kind)
  dsimp only at hns₁ hsb₁ ⊢
  generalize hH1 : s₁.heap.push o = H1 at *
  have s1 : H1.objs.size = s₁.heap.objs.size + 1 := by rw [← hH1, Heap.size_push]
  generalize hH2 : H1.push { cls := .type "list", dict := none, data := .seq ([] : List Value).toArray } = H2 at hns₁ hsb₁ ⊢
  have hC : H2.objs.size = H1.objs.size + 1 := by rw [← hH2, Heap.size_push]
  have hDC : H1.objs.size ≠ H2.objs.size := by omega
  have fresh : ∀ a, s₁.heap.objs.size ≤ a → s₁.heap.get? a = none := fun a ha => by
    cases e : s₁.heap.get? a with
    | none => rfl
    | some o' => exact absurd (Heap.lt_size e) (Nat.not_lt.mpr ha)
  have old1 : ∀ b o, H1.get? b = some o → h₁.get? b = some o := fun b o e => by
    have lt := Heap.lt_size e
    exact hsb₁.extBut b o (Nat.ne_of_lt (by rw [hC]; exact Nat.lt_succ_of_lt lt)) (Heap.get?_push_of_some _ (hH2 ▸ Heap.get?_push_of_some _ e))
  have old : ∀ b o, s₁.heap.get? b = some o → h₁.get? b = some o := fun b o e => old1 b o (hH1 ▸ Heap.get?_push_of_some _ e)
  have hacc : h₁.PlainList H1.objs.size #[] := ⟨_, hsb₁.extBut _ _ hDC (Heap.get?_push_of_some _ (hH2 ▸ Heap.get?_push_size _ rfl))⟩
  have R₁ : Rep X.S.C X.hb σ ρ h₁ := I₁.rep.on fun a _ o e => old a o e
  have hst₁ : St 0 h₁ := W.frame _ _ _ hst (fun b _ o e => old1 b o e) (hL σ _ rfl R₁)
  have hDf : H1.objs.size ∉ fp := fun q => by have z : H1.objs.size ≤ s₁.heap.objs.size := hlt _ q; rw [s1] at z; exact Nat.not_succ_le_self _ z
  have hCf : H2.objs.size ∉ fp := fun q => by have z : H2.objs.size ≤ s₁.heap.objs.size := hlt _ q; rw [hC, s1] at z; exact Nat.not_succ_le_self _ (Nat.le_trans (Nat.le_succ _) z)
  have fD := fresh_apart I₁ (fresh H1.objs.size (by omega))
  have fC := fresh_apart I₁ (fresh H2.objs.size (by omega))
  have loop : ∀ s₃ : Shared, s₃ = { s₁ with heap := h₁, toks := s₁.toks + ([] : List (Str × Value)).length } →
      codeAny (model X.prog X.w) A (.compLoop (.ListComp elt [⟨.Name x px, iter, ifs, 0⟩] cs pos) 0 (.ref s₁.heap.objs.size) (.ref H1.objs.size) (compEnvC cs (closL env cs.names []) H2.objs.size env))
        (compPost (model X.prog X.w) A E none (PE X env fr ρ m s (.list out) σ') (.ref H1.objs.size) H2.objs.size) s₃ := by
    rintro s₃ rfl
    refine comp_loop (cenv := compEnvC cs (closL env cs.names []) H2.objs.size env) (D := H1.objs.size) W HT HE CO L (fun k hk => comp_lok CO (L.mono hk)) I₁ rfl I₁.base (fresh _ (by show s₁.heap.objs.size ≤ H2.objs.size; omega)) (fresh _ (by omega)) hDC hDf hCf hw hfp hL hst₁ hacc hns₁ old I₁.gens I₁.os h ?_
    intro s₄ ys mc' I₄ kp pl ha hn
    refine ⟨mc', hn, fun h' hs' => ?_⟩
    have kp' : Kp fr ρ s₁.heap h' := kp.keep (wr := [H2.objs.size]) (by simpa using fresh _ (by omega)) fun b o q e => hs'.extBut b o (by simpa using q) e
    have I₅ : Ix X env fr ρ m σ' { s₄ with heap := h' } := I₁.rebuild (s₁ := { s₄ with heap := h' }) (fun b o e => hs'.extBut b o (fun q => by rw [q, fresh_base I₁ (fresh _ (by omega))] at e; cases e) (I₄.base b o e))
      (I₄.rep.on fun a ha o e => hs'.extBut a o (fun q => fC.2.1 (q ▸ ha)) e) I₄.gens I₄.os fun b o e _ q => (kp' b o e q).2
    refine ⟨I₅, ⟨H1.objs.size, ys.toList, rfl, fD.2.1, ?_, ha⟩, st.trans kp'.toStp⟩
    have := (pl.isList).extBut hs'.extBut hDC
    simpa using this
  exact codeAny_compStart_list (loop _ rfl) (W.self 0 _ _ _ hst₁ (loop _ rfl))
theorem comp_ok {x : Str} (h : cs.kind = .function ∧ sc.kind = .function ∧ (cs.names.all fun y => y.2 != .cell) = true ∧ (cs.names.all fun y => y.2 != .local || cs.names.lookup y.1 == some .local) = true ∧ cs.names.lookup x = some .local ∧ (cs.names.all fun y => y.2 != .free || sc.names.lookup y.1 == some .cell) = true) : CompOk cs sc x := by
  obtain ⟨h1, h2, h3, h4, h5, h6⟩ := h
  refine ⟨h1, h2, fun y hy => by simpa using List.all_eq_true.mp h3 y hy, fun y hy e => ?_, h5, fun y hy e => ?_⟩
  · have := List.all_eq_true.mp h4 y hy
    rw [e] at this
    simpa using this
  · have := List.all_eq_true.mp h6 y hy
    rw [e] at this
    simpa using this
theorem simLC_succ (H : SimE X n) (HT : ∀ k, k < n → SimT X k) (HE : ∀ k, k < n → SimE X k) : SimLC X (n + 1) := by
  intro sc elt gens cs pos m σ v σ' h A env fr ρ s E L I
  have L' := L.mono (Nat.le_succ n)
  rcases gens with _ | ⟨⟨tgt, it, ifs, isA⟩, _ | ⟨g, gs⟩⟩
  · simp [ev] at h
  · cases tgt with
    | Name x px =>
      by_cases hz : isA = 0
      · subst hz
        simp only [ev] at h
        split at h
        · rename_i hco
          have CO := comp_ok hco
          obtain ⟨⟨u, σ₁⟩, h1, h2⟩ := Option.bind_eq_some_iff.mp h
          rw [eval_ListComp]
          refine wpAny_comprehension_free (use := none) rfl (notSet_of_ev h1) (closureFor_eq fun y hy hf => L.cells _ (CO.free y hy hf)) CO.kind CO.locals (SimE.use H h1 L' I fun y s₁ I₁ v₁ st₁ => ?_)
          have fr0 : s₁.heap.get? s₁.heap.objs.size = none := get_size
          have ap := fresh_apart I₁ fr0
          dsimp only at h2
          split at h2
          · rename_i l
            obtain ⟨⟨out, σ₂⟩, h3, h4⟩ := Option.map_eq_some_iff.mp h2
            cases h4
            obtain ⟨a, vs, rfl, hm, hl, ha⟩ := v₁
            have hlt : a < s₁.heap.objs.size := by obtain ⟨_, e, _⟩ := hl; exact Heap.lt_size e
            refine wpAny_pyIter_list hl ?_
            refine comp_tail CO L' I₁ (Walk2.of (Walks.list L.handled _ a (Nat.ne_of_lt hlt) vs.toArray) (by rw [List.size_toArray]; exact ha.length) (fun i v a' hv ha' => ?_)) HT HE ⟨⟨_, Heap.get?_push_size _ rfl, rfl, rfl⟩, hl.push _⟩ ?_ ?_ ?_ (fun _ _ _ _ => trivial) st₁ h3
            · obtain ⟨u, e1, e2⟩ := ha.get ha'
              have hv : vs.toArray[i]? = some v := hv
              rw [List.getElem?_toArray, e1] at hv; cases hv
              exact e2
            · intro c hc
              obtain rfl := List.mem_singleton.mp hc
              exact fr0
            · intro c hc
              rcases List.mem_cons.mp hc with rfl | hc
              · exact ap.2
              · obtain rfl := List.mem_singleton.mp hc
                obtain ⟨o', e1, _, k, e2⟩ := hl
                exact ⟨hm, (seq_apart I₁ e1 e2).2⟩
            · intro c hc
              rcases List.mem_cons.mp hc with rfl | hc
              · exact Nat.le_refl _
              · obtain rfl := List.mem_singleton.mp hc
                exact Nat.le_of_lt hlt
          · rename_i k
            obtain ⟨l, hl, h2⟩ := Option.bind_eq_some_iff.mp h2
            obtain ⟨⟨out, σ₂⟩, h3, h4⟩ := Option.map_eq_some_iff.mp h2
            cases h4
            obtain ⟨a, ha, rfl⟩ := v₁
            obtain ⟨vs, nn, e1, e2⟩ := I₁.rep.lists k l a hl ha
            have hlt : a < s₁.heap.objs.size := Heap.lt_size e1
            refine wpAny_pyIter_list (l := a) (items := vs) ⟨_, e1, rfl, nn, rfl⟩ ?_
            refine comp_tail CO L' I₁ (Walk2.ml L.handled _ a (Nat.ne_of_lt hlt) l) HT HE ⟨⟨_, Heap.get?_push_size _ rfl, rfl, rfl⟩, vs, nn, Heap.get?_push_of_some _ e1, e2⟩ ?_ ?_ ?_ ?_ st₁ h3
            · intro c hc
              obtain rfl := List.mem_singleton.mp hc
              exact fr0
            · intro c hc
              obtain rfl := List.mem_singleton.mp hc
              exact ap.2
            · intro c hc
              obtain rfl := List.mem_singleton.mp hc
              exact Nat.le_refl _
            · intro σ₂ h' e R
              exact R.lists k l a (by rw [e]; exact hl) ha
          · rename_i l
            obtain ⟨⟨out, σ₂⟩, h3, h4⟩ := Option.map_eq_some_iff.mp h2
            cases h4
            obtain ⟨t, rfl⟩ := v₁
            refine wpAny_pyIter_str fun o St W hst => ?_
            refine comp_tail CO L' I₁ (Walk2.of (W A L.handled) ?_ (fun i v a' hv ha' => ?_)) HT HE hst ?_ ?_ ?_ (fun _ _ _ _ => trivial) st₁ h3
            · simp [lstr]
            · obtain ⟨c, u, e1, rfl⟩ := hv
              rw [List.getElem?_map] at ha'
              obtain ⟨c', e2, rfl⟩ := Option.map_eq_some_iff.mp ha'
              unfold lstr at e1
              rw [List.getElem?_toArray, e2] at e1
              cases e1
              exact ⟨u, rfl⟩
            · intro c hc
              obtain rfl := List.mem_singleton.mp hc
              exact fr0
            · intro c hc
              obtain rfl := List.mem_singleton.mp hc
              exact ap.2
            · intro c hc
              obtain rfl := List.mem_singleton.mp hc
              exact Nat.le_refl _
          · cases h2
        · cases h
      · exfalso
        rw [ev] at h
        · cases h
        all_goals first | (intros; rename_i heq; cases heq; exact absurd rfl hz) | (intros; rename_i heq; cases heq; done) | (intros; simp_all; done)
    | _ => simp [ev] at h
  · simp [ev] at h
end
end Ind
set_option maxRecDepth 100000
set_option Elab.async false
namespace Ind
open PySem PySem.W PySem.Calls PyProof.Rows
theorem dictOfE_two {ks : List (Option Expr)} {vs : List Expr} {k1 v1 k2 v2 : List Nat} (h : dictOfE ks vs = some [(k1, v1), (k2, v2)]) :
    ∃ K1 a1 p1 V1 b1 q1 K2 a2 p2 V2 b2 q2, ks = [some (.Constant (.str K1) a1 p1), some (.Constant (.str K2) a2 p2)] ∧ vs = [.Constant (.str V1) b1 q1, .Constant (.str V2) b2 q2] ∧
      k1 = K1.cps.toList ∧ v1 = V1.cps.toList ∧ k2 = K2.cps.toList ∧ v2 = V2.cps.toList := by
  unfold dictOfE at h
  split at h
  · cases h
  · rename_i K1 a1 p1 ks V1 b1 q1 vs
    obtain ⟨r, e1, e2⟩ := Option.map_eq_some_iff.mp h
    cases e2
    unfold dictOfE at e1
    split at e1
    · cases e1
    · rename_i K2 a2 p2 ks V2 b2 q2 vs
      obtain ⟨r, e3, e4⟩ := Option.map_eq_some_iff.mp e1
      cases e4
      unfold dictOfE at e3
      split at e3
      · exact ⟨_, _, _, _, _, _, _, _, _, _, _, _, rfl, rfl, rfl, rfl, rfl, rfl⟩
      · obtain ⟨r, _, e6⟩ := Option.map_eq_some_iff.mp e3
        cases e6
      · cases e3
    · cases e1
  · cases h
theorem two_values {K1 K2 : Str} (x1 x2 : Value) (h : K1 ≠ K2) : valueAt (merged [] [(K1, x1), (K2, x2)]) K1 = some x1 ∧ valueAt (merged [] [(K1, x1), (K2, x2)]) K2 = some x2 := by
  have h' : ¬ K2 = K1 := fun e => h e.symm
  constructor <;> simp [merged, stored, valueAt, h]
section
variable {X : Cx}
variable {A : Around} {env : Env} {fr : List Env} {ρ : Rho} {m : Lm} {σ σ' : Sto} {s : Shared} {E : Value → Shared → Prop} {sc : Scope} {n : Nat}
theorem notSlice_of_ev {e : Expr} {v} (h : ev X.S n sc e m σ = some v) : ∀ a b c p, e ≠ .Slice a b c p := by
  rintro a b c p rfl
  cases n <;> simp [ev] at h
theorem simD_succ (H : SimE X n) : SimD X (n + 1) := by
  intro sc ks vs p i pos m σ v σ' h A env fr ρ s E L I
  have L' := L.mono (Nat.le_succ n)
  simp only [ev] at h
  obtain ⟨⟨u, σ₁⟩, h1, h2⟩ := Option.bind_eq_some_iff.mp h
  dsimp only at h2
  split at h2
  · rename_i k k1 v1 k2 v2 hd
    obtain ⟨K1, a1, p1, V1, b1, q1, K2, a2, p2, V2, b2, q2, rfl, rfl, rfl, rfl, rfl, rfl⟩ := dictOfE_two hd
    split at h2
    · cases h2
    · rename_i hne
      have hK : K1 ≠ K2 := fun e => hne (by rw [e])
      have fr0 : s.heap.get? s.heap.objs.size = none := get_size
      have ap := fresh_apart I fr0
      refine Subscript_ ?_
      refine wpAny_Dict_walk (knd := PySem.strKind X.prog X.w) (by rfl) (by rfl) (by simp) (by simp) ?_
      refine pairTrees_cons_walk (PySem.wpAny_Constant_str (PySem.wpAny_Constant_str (pairTrees_cons_walk (PySem.wpAny_Constant_str (PySem.wpAny_Constant_str (pairTrees_nil_walk ?_))))))
      have hcar : Carries (PySem.strKind X.prog X.w) [(Value.str K1 s.toks, Value.str V1 (s.toks + 1)), (Value.str K2 (s.toks + 1 + 1), Value.str V2 (s.toks + 1 + 1 + 1))] [(K1, Value.str V1 (s.toks + 1)), (K2, Value.str V2 (s.toks + 1 + 1 + 1))] :=
        ⟨strKind_is _ _ _ _, rfl, strKind_is _ _ _ _, rfl, trivial⟩
      have hnew : (s.heap.push { cls := .type "dict", data := .dict #[] }).DictOf (PySem.strKind X.prog X.w) s.heap.objs.size [] := Heap.DictOf.new _
      refine ⟨_, hcar, hnew, fun h' hd' hs' => ?_⟩
      dsimp only at hs'
      have kk : ∀ b o, s.heap.get? b = some o → h'.get? b = some o := fun b o e => hs'.extBut b o (Nat.ne_of_lt (Heap.lt_size e)) (Heap.get?_push_of_some _ e)
      refine SimE.use H h1 L' (I.keeps kk) fun y s₂ I₂ v₂ st₂ => ?_
      obtain ⟨t, rfl⟩ := v₂
      have hd₂ := hd'.at fun o e => (st₂ _ o e ap.1 ap.2.1).1 ap.2.2
      have st : Stp env fr ρ s.heap s₂.heap := (Stp.of_keeps kk).trans st₂
      have tv := two_values (Value.str V1 (s.toks + 1)) (Value.str V2 (s.toks + 1 + 1 + 1)) hK
      refine tail_any hd₂.typeIs slot_dict_getitem.lookup ?_ (subscripted_plain (notSlice_of_ev h1) _ _)
      split at h2
      · rename_i hk
        cases h2
        refine wpAny_getItem_of (strKind_is _ _ _ _) hd₂.mapOf (v := .str V1 _) (by rw [hk, lstr_of]; exact tv.1) ⟨I₂.toks _, ⟨_, by rw [lstr_of]⟩, st⟩
      · split at h2
        · rename_i hk
          cases h2
          refine wpAny_getItem_of (strKind_is _ _ _ _) hd₂.mapOf (v := .str V2 _) (by rw [hk, lstr_of]; exact tv.2) ⟨I₂.toks _, ⟨_, by rw [lstr_of]⟩, st⟩
        · cases h2
  · cases h2
end
end Ind
set_option maxRecDepth 100000
set_option Elab.async false
namespace Ind
open PySem PySem.W PySem.Calls PyProof.Rows
structure AllSim (X : Cx) (n : Nat) : Prop where
  e : SimE X n
  i : SimI X n
  es : SimEs X n
  and : SimAnd X n
  or : SimOr X n
  t : SimT X n
  ta : SimTA X n
  call : SimCallC X n
  x : SimX X n
  xs : SimXs X n
theorem allSim (X : Cx) : ∀ n, AllSim X n := by
  intro n
  induction n using Nat.strongRecOn with
  | ind n ih =>
    cases n with
    | zero =>
      refine ⟨?_, ?_, ?_, ?_, ?_, ?_, ?_, ?_, simX_zero, ?_⟩
      · intro sc e m σ v σ' h; simp [ev] at h
      · intro sc e m σ v σ' h; simp [evI] at h
      · intro sc e m σ v σ' h; simp [evs] at h
      · intro sc e m σ v σ' h; simp [evAnd] at h
      · intro sc e m σ v σ' h; simp [evOr] at h
      · intro sc e m σ v σ' h; simp [test] at h
      · intro sc k e m σ v σ' h; simp [testAll] at h
      · intro a vs σ v σ' h; simp [callF] at h
      · intro top sc b m σ o m' σ' h; simp [exs] at h
    | succ n =>
      have P := ih n (Nat.lt_succ_self n)
      have tt : ∀ k, k < n + 1 → SimT X k := fun k hk => (ih k hk).t
      have ee : ∀ k, k < n + 1 → SimE X k := fun k hk => (ih k hk).e
      have D : SimD X (n + 1) := simD_succ P.e
      have LC : SimLC X (n + 1) := simLC_succ P.e (fun k hk => tt k (by omega)) (fun k hk => ee k (by omega))
      exact ⟨simE_succ P.e P.es P.i P.and P.or (simCall_of P.call) D LC, simI_succ P.e, simEs_succ P.e P.es, simAnd_succ P.e P.and, simOr_succ P.e P.or,
        simT_succ (fun k hk => ee k (by omega)) P.t P.ta, simTA_succ P.t P.ta, simCall_succ P.xs, simX_succ P.e P.es P.call tt (fun k hk => (ih k hk).xs), simXs_succ P.x P.xs⟩
def sto0 : Sto := ⟨false, 0, fun _ => none, []⟩
theorem law_call {X : Cx} {s : Shared} {A : Around} {lawA a : Addr} {N : Nat} {p : Str} {body : List Stmt} {sc : Scope} {l : List At} {vs : List Value} {m₂ : Lm} {σ₂ : Sto} {E : Value → Shared → Prop}
    (hbase : X.hb = s.heap) (hos : X.os = s.os) (hg : s.gens = #[]) (hh : A.handled = none) (hfr : A.frames = some []) (hdep : A.depth + N + 1 < recursionLimit) (hun : A.units + 8 * N + 68 < cLine)
    (h1 : funIn X.S lawA = some ([p], body, sc)) (hl : s.heap.IsList a vs.toArray) (ha : AtsAre l vs)
    (h5 : exs X.S N true sc body (fun y => if y = p then some (.list l) else none) sto0 = some (.ret (.at (.bool true)), m₂, σ₂)) :
    wpAny (model X.prog X.w) A (PySem.call (.ref lawA) [.ref a]) (fun v s' => v = .bool true ∧ (∀ b o, s.heap.get? b = some o → s'.heap.get? b = some o) ∧ s'.os = s.os ∧ s'.gens = #[]) E s := by
  refine wpAny_call ?_
  obtain ⟨hf, ob, fd, ho, hcls, hd, hb, hsc, hps⟩ := fn_there h1
  have F := fnFacts (X.base.fns lawA hf) ho hd
  have KX : X.S.K.In s.heap := hbase ▸ X.base.K
  subst hsc
  have hlen : [Value.ref a].length = fd.params.args.length := by
    have := congrArg List.length hps
    simp only [List.length_map] at this
    rw [this]; rfl
  have hbind := X.base.bind lawA hf ob fd ho hd [.ref a] hlen
  refine codeAny_call_function (fd := fd) (body := body) (by omega) (KX _ _ ho) hd F.co F.gen hb (codeRec_of KX F.code) ?_
  rw [hbind]
  refine wpAny_pure ?_
  rw [F.closure]
  have hnames : ∀ k, (cellsFrom k fd.scope.names []).map (·.1) = (cellsFrom 0 fd.scope.names []).map (·.1) := fun k => cellsFrom_names fd.scope.names k 0 [] [] rfl
  have hkind : ∀ k, ∀ x ∈ (fd.params.args.map (·.arg)).zip [Value.ref a], fd.scope.names.lookup x.1 = some .local ∨ (fd.scope.names.lookup x.1 = some .cell ∧ ((cellsFrom k fd.scope.names []).lookup x.1).isSome = true) := fun k x hx => by
    have hm : x.1 ∈ fd.params.args.map (·.arg) := (List.of_mem_zip hx).1
    rcases F.pk _ hm with q | ⟨q1, q2⟩
    · exact .inl q
    · refine .inr ⟨q1, ?_⟩
      rw [lookup_isSome_mem] at q2 ⊢
      rw [hnames]; exact q2
  refine wpAny_newFunctionEnv_cells F.kind (hkind _) fun env' he s' x => ?_
  have hloc : env'.locals = s.heap.objs.size := by rw [he]; rfl
  have hsc' : env'.scope = fd.scope := by rw [he]; rfl
  have hfr' : env'.frame = some env'.locals := by rw [he]; rfl
  have hgl : env'.globals = mainGlobals := by rw [he]; exact F.globals
  have hbl : env'.builtins = builtinsNs := by rw [he]; exact F.builtins
  have hcells : env'.cells = cellsFrom (s.heap.objs.size + 1) fd.scope.names [] := by rw [he]; rfl
  obtain ⟨h', tk, rfl⟩ := x.toInCall.same
  have kk := x.toInCall.keep
  have hbS : X.hb.StaysIn s.heap := by rw [hbase]; exact fun _ _ e => e
  refine ⟨(X.base.lim.keeps hbS).keeps kk, codeAny_func ?_⟩
  have fresh : s.heap.get? env'.locals = none := by rw [hloc]; exact get_size
  have fresh' : X.hb.get? env'.locals = none := by rw [hbase]; exact fresh
  let ρ : Rho := ⟨none, []⟩
  have hmu : ∀ b, b ∉ ρ.mu := fun b hb => by simp [ρ, Rho.mu] at hb
  have hv : VAll ρ s.heap [.list l] [.ref a] := .cons ⟨a, vs, rfl, hmu a, hl, ha⟩ .nil
  have hv' : VAll ρ h' [.list l] [.ref a] := .cons ⟨a, vs, rfl, hmu a, hl.at fun o e => kk _ _ e, ha⟩ .nil
  have h3 : bnd (fd.params.args.map (·.arg)) [.list l] = some (fun y => if y = p then some (.list l) else none) := by rw [hps]; rfl
  have J : Ix X env' [env'] ρ (fun y => if y = p then some (.list l) else none) sto0 { s with heap := h', toks := tk } := by
    refine ⟨fun b o e => kk b o (hbS b o e), ⟨rfl, rfl, fun i l' a' e _ => by simp [sto0] at e, by simp [ρ, Rho.mu], fun b hb => absurd hb (hmu b)⟩, ⟨_, x.toInCall.ns, fun y u hy => ?_⟩, fresh', hmu _, fun e hm => ?_, hg, hos.symm⟩
    · obtain ⟨hmem, val, v1, v2, v3⟩ := bind_is (kindOf := env'.kindOf) h3 hv' F.nodup (fun _ => none) (fun _ => none) y u hy
      have hkk : env'.kindOf y = fd.scope.names.lookup y := by unfold Env.kindOf; rw [hsc']
      unfold Holds
      rcases F.pk y hmem with q | ⟨q1, q2⟩
      · rw [hkk, q]
        exact ⟨val, v2 (by rw [hkk, q]), v1⟩
      · rw [hkk, q1]
        rw [lookup_isSome_mem, ← hnames (s.heap.objs.size + 1), ← hcells, ← lookup_isSome_mem] at q2
        obtain ⟨c, hc⟩ := Option.isSome_iff_exists.mp q2
        refine ⟨c, val, hc, ?_, v1⟩
        have := x.cell y c hc
        rw [v3 (by rw [hkk, q1]; decide)] at this
        exact this
    · obtain rfl := List.mem_singleton.mp hm
      obtain ⟨o', es, ep, e1, e2, _⟩ := x.toInCall.ns
      exact ⟨by rw [hsc', F.kind]; decide, e.locals, o', es, ep, hfr', fresh', e1, e2, hmu _⟩
  have L' : Lok (A.deeper env') N env' [env'] fd.scope :=
    ⟨hh, Around.frames_deeper hfr, by show A.depth + 1 + N < _; omega, by show A.units + 3 + 8 * N + 60 < _; omega, hsc', F.kind, hgl, hbl, fun x hx => by rw [hcells]; exact cellsFrom_mem _ _ _ x (.inl hx)⟩
  refine wpAny_mono ((allSim X N).xs _ _ _ _ _ _ _ _ h5 (A.deeper env') env' [env'] ρ _ L' ⟨⟨[], rfl⟩, hfr'⟩ J) (fun fl s₂ q => ?_) fun e s₂ q => (ES.none q trivial).elim
  obtain ⟨ρ₂, e1, e2, I₂, hfl, st₂⟩ := q
  obtain ⟨y, rfl, hy⟩ := hfl
  obtain rfl : y = .bool true := hy
  refine ⟨rfl, fun b o e => I₂.base b o (by rw [hbase]; exact e), I₂.os.trans hos, I₂.gens⟩
end Ind
set_option maxRecDepth 1000000
set_option maxHeartbeats 4000000
set_option Elab.async false
namespace Ind01
open PySem PySem.W PySem.Calls PyProof.Rows Ind
noncomputable section
theorem mem_look : ∀ {l : Frag} {a : Addr} {o : Obj}, l.lookup a = some o → (a, o) ∈ l
  | [], _, _, h => by cases h
  | (b, p) :: r, a, o, h => by
    rw [List.lookup_cons] at h
    by_cases q : a = b
    · subst q
      simp at h
      subst h
      exact .head _
    · have e : (a == b) = false := by simpa using q
      rw [e] at h
      exact .tail _ (mem_look h)
def KK (P : Params) (es : Array (Int × Value)) (ep : Nat) (st : SetTable) : Frag := (List.range nF).filterMap fun a => ((TF P es ep st).get a).map fun o => (a, o)
theorem KK_get {P : Params} {es : Array (Int × Value)} {ep : Nat} {st : SetTable} {a : Addr} {o : Obj} (h : (KK P es ep st).lookup a = some o) : (TF P es ep st).get a = some o := by
  have hm := mem_look h
  obtain ⟨x, _, e⟩ := List.mem_filterMap.mp hm
  obtain ⟨o', e1, e2⟩ := Option.map_eq_some_iff.mp e
  cases e2
  exact e1
def funs : List Addr := [21, 35, 42, 49, 56, 63, 70, 77, 84, 91, 98, 105, 112, 119, 126, 133, 140, 147, 154, 161, 168, 175, 182, 189, 194, 215, 237, 244, 251, 258, 265, 272, 375, 382, 389, 396, 403, 410, 417, 424, 431, 438, 445, 452]
def SS (P : Params) (es : Array (Int × Value)) (ep : Nat) (st : SetTable) : Sta :=
  ⟨KK P es ep st, 340, setA, [[97], [101], [105], [111], [117]], [("lab0", 352), ("lab1", 365)], ["words", "stems"], funs, ["current", "cursor", "limit", "limit_backward", "bra", "ket", "I_measure", "I_prefix"]⟩
section
variable (P : Params) (es : Array (Int × Value)) (ep : Nat) (st : SetTable) (life : Life)
theorem cls_ok : clsOk (KK P es ep st) 340 ["current", "cursor", "limit", "limit_backward", "bra", "ket", "I_measure", "I_prefix"] = true := by kernel_rfl
theorem makes_ok : makesIn (KK P es ep st) 340 = true := by kernel_rfl
theorem keep_ok : keepIn (KK P es ep st) (.ref 340) = true := by kernel_rfl
theorem fns_ok : funs.all (fnOk (KK P es ep st)) = true := by kernel_rfl
def bA (T : BT) (vs : List Value) (a : Addr) : Sem (List (Str × Value)) := match T.get a with
  | some ⟨_, _, .func fd, _⟩ => if fd.params.args.length = vs.length then bindArgs fd ⟨vs, []⟩ else pure []
  | _ => pure []
def bZ (T : BT) (vs : List Value) (a : Addr) : Sem (List (Str × Value)) := match T.get a with
  | some ⟨_, _, .func fd, _⟩ => if fd.params.args.length = vs.length then pure ((fd.params.args.map (·.arg)).zip vs) else pure []
  | _ => pure []
theorem bind0 : funs.map (bA (TF P es ep st) []) = funs.map (bZ (TF P es ep st) []) := by kernel_rfl
theorem bind1 (a : Value) : funs.map (bA (TF P es ep st) [a]) = funs.map (bZ (TF P es ep st) [a]) := by kernel_rfl
theorem bind2 (a b : Value) : funs.map (bA (TF P es ep st) [a, b]) = funs.map (bZ (TF P es ep st) [a, b]) := by kernel_rfl
theorem bind3 (a b c : Value) : funs.map (bA (TF P es ep st) [a, b, c]) = funs.map (bZ (TF P es ep st) [a, b, c]) := by kernel_rfl
theorem bind4 (a b c d : Value) : funs.map (bA (TF P es ep st) [a, b, c, d]) = funs.map (bZ (TF P es ep st) [a, b, c, d]) := by kernel_rfl
def arOk (T : BT) (a : Addr) : Bool := match T.get a with
  | some ⟨_, _, .func fd, _⟩ => Nat.ble fd.params.args.length 4
  | _ => false
theorem ar_ok : funs.all (arOk (TF P es ep st)) = true := by kernel_rfl
theorem ns_ok : ((hF P es ep st life).isNs cStatics, (hF P es ep st life).nsMap cStatics "sys.recursionlimit", (hF P es ep st life).isNs 351, (hF P es ep st life).nsMap 351 "__init__", (hF P es ep st life).isNs 364, (hF P es ep st life).nsMap 364 "__init__") = (true, none, true, none, true, none) := by kernel_rfl
theorem exc0 : ∃ nm q bs hdct sn sub ab col dd k0 k1 k2 k3 k5, (TF P es ep st).get 352 = some (excClassObj nm q 352 351 bs [.type "Exception", .type "BaseException", .type "object"] hdct sn sub ab col dd k0 k1 k2 k3 k5 "Exception.__new__") :=
  ⟨_, _, _, _, _, _, _, _, _, _, _, _, _, _, rfl⟩
theorem exc1 : ∃ nm q bs hdct sn sub ab col dd k0 k1 k2 k3 k5, (TF P es ep st).get 365 = some (excClassObj nm q 365 364 bs [.type "Exception", .type "BaseException", .type "object"] hdct sn sub ab col dd k0 k1 k2 k3 k5 "Exception.__new__") :=
  ⟨_, _, _, _, _, _, _, _, _, _, _, _, _, _, rfl⟩
theorem set_get : (TF P es ep st).get setA = some ⟨.type "set", none, .set es ep st, #[]⟩ := by kernel_rfl
end
theorem bindAll {P : Params} {es : Array (Int × Value)} {ep : Nat} {st : SetTable} {f : Addr} {o : Obj} {fd : FuncData} (hf : f ∈ funs) (ho : (TF P es ep st).get f = some o) (hd : o.data = .func fd) {vals : List Value} (hl : vals.length = fd.params.args.length) :
    bindArgs fd ⟨vals, []⟩ = pure ((fd.params.args.map (·.arg)).zip vals) := by
  obtain ⟨c, d, dat, sl⟩ := o
  dsimp only at hd
  subst hd
  have ar := List.all_eq_true.mp (ar_ok P es ep st) f hf
  unfold arOk at ar
  rw [ho] at ar
  have ar : fd.params.args.length ≤ 4 := Nat.le_of_ble_eq_true ar
  have key : ∀ vs : List Value, vs.length = fd.params.args.length → funs.map (bA (TF P es ep st) vs) = funs.map (bZ (TF P es ep st) vs) → bindArgs fd ⟨vs, []⟩ = pure ((fd.params.args.map (·.arg)).zip vs) := fun vs hl e => by
    have := List.map_inj_left.mp e f hf
    unfold bA bZ at this
    rw [ho] at this
    dsimp only at this
    rwa [if_pos hl.symm, if_pos hl.symm] at this
  rcases vals with _ | ⟨a, _ | ⟨b, _ | ⟨c, _ | ⟨d, _ | ⟨e, r⟩⟩⟩⟩⟩
  · exact key _ hl (bind0 P es ep st)
  · exact key _ hl (bind1 P es ep st a)
  · exact key _ hl (bind2 P es ep st a b)
  · exact key _ hl (bind3 P es ep st a b c)
  · exact key _ hl (bind4 P es ep st a b c d)
  · simp only [List.length_cons] at hl; omega
theorem vowel_fun : addAll (fun _ => false) vowelStrs = fun k => decide (k.cps.toList ∈ [[97], [101], [105], [111], [117]]) := by
  funext k
  have h : ∀ n, (k = (⟨⟨[n]⟩⟩ : Str)) ↔ (k.cps.toList = [n]) := fun n => by
    constructor
    · rintro rfl; rfl
    · intro e
      obtain ⟨⟨l⟩⟩ := k
      dsimp only at e
      rw [e]
  simp [addAll, vowelStrs, h, Bool.or_assoc]
theorem hF_get {P : Params} {es : Array (Int × Value)} {ep : Nat} {st : SetTable} {life : Life} {h : Heap} (k : ∀ i o, (TF P es ep st).get i = some o → h.get? i = some o) : ∀ b o, (hF P es ep st life).get? b = some o → h.get? b = some o := by
  intro b o e
  have hb : b < nF := by
    have := Heap.lt_size e
    have e2 : (hF P es ep st life).objs.size = nF := absHeap_size _ _ _
    rw [e2] at this
    exact this
  obtain ⟨o', e1, e2⟩ := abs_alive (life := life) (alive_F P es ep st) hb
  have : (hF P es ep st life).get? b = some o' := e2
  rw [e] at this
  cases this
  exact k b o e1
theorem base_ok {w : World} {es : Array (Int × Value)} {ep : Nat} {st : SetTable} (hg : GoodSet w es ep st) {h : Heap} (k : ∀ i o, (TF w.params es ep st).get i = some o → h.get? i = some o) : Base pw w (SS w.params es ep st) h := by
  have q := ns_ok w.params es ep st life0
  simp only [Prod.mk.injEq] at q
  obtain ⟨q1, q2, q3, q4, q5, q6⟩ := q
  have kh := hF_get (life := life0) k
  refine ⟨fun a o e => k a o (KK_get e), ⟨_, (Heap.Ns.of_isNs q1).keeps kh, q2⟩, ⟨5, ?_⟩, cls_ok _ _ _ _, ⟨makes_ok _ _ _ _, keep_ok _ _ _ _⟩, fun p hp => ?_, fun f hf => List.all_eq_true.mp (fns_ok w.params es ep st) f hf, fun f hf o fd ho hd vals hl => bindAll hf (KK_get ho) hd hl⟩
  · have := PySem.Obj.SetObjOf.setOf hg (k _ _ (set_get w.params es ep st)) (by decide)
    rw [vowel_fun] at this
    exact this
  · have hp' : p = (("lab0" : Str), 352) ∨ p = (("lab1" : Str), 365) := by simpa [SS] using hp
    rcases hp' with rfl | rfl
    · obtain ⟨nm, q, bs, hdct, sn, sub, ab, col, dd, k0, k1, k2, k3, k5, e⟩ := exc0 w.params es ep st
      exact ⟨_, _, _, _, _, _, nm, q, bs, hdct, sn, sub, ab, col, dd, k0, k1, k2, k3, k5, _, PySem.F.excBase_Exception, k _ _ e, (Heap.Ns.of_isNs q3).keeps kh, q4, .base⟩
    · obtain ⟨nm, q, bs, hdct, sn, sub, ab, col, dd, k0, k1, k2, k3, k5, e⟩ := exc1 w.params es ep st
      exact ⟨_, _, _, _, _, _, nm, q, bs, hdct, sn, sub, ab, col, dd, k0, k1, k2, k3, k5, _, PySem.F.excBase_Exception, k _ _ e, (Heap.Ns.of_isNs q5).keeps kh, q6, .base⟩
theorem ints_ats {vs : List Value} {ns : List Int} (h : IntsAre vs ns) : AtsAre (ns.map .int) vs := by
  induction h with
  | nil => exact .nil
  | cons n t _ ih => exact .cons ⟨_, rfl⟩ ih
def RunOk : Prop := ∀ (P : Params) (es : Array (Int × Value)) (ep : Nat) (st : SetTable) (ns : List Int), ns.length ≤ 63 → ∃ N p body sc m₂ σ₂, N ≤ 600 ∧ funIn (SS P es ep st) lawA = some ([p], body, sc) ∧
  exs (SS P es ep st) N true sc body (fun y => if y = p then some (.list (ns.map .int)) else none) sto0 = some (.ret (.at (.bool true)), m₂, σ₂)
theorem callOk_of_run (h : RunOk) : CallOk := by
  intro w es ep st hg s₁ ns a vs k hgens hlen hl hi
  obtain ⟨N, p, body, sc, m₂, σ₂, hN, h1, h5⟩ := h w.params es ep st ns hlen
  let X : Cx := ⟨pw, w, SS w.params es ep st, s₁.heap, s₁.os, base_ok hg k⟩
  have hd : callerA.depth = 301 := by decide
  have hu : callerA.units = 4 := by decide
  have c1 : recursionLimit = 1000 := rfl
  have c2 : 5000 < cLine := by decide
  exact law_call (X := X) rfl rfl hgens rfl rfl (by rw [hd, c1]; omega) (by rw [hu]; omega) h1 hl (ints_ats hi) h5
end
end Ind01
set_option maxRecDepth 1000000
set_option maxHeartbeats 4000000
set_option Elab.async false
namespace Ind01
open PySem PySem.W PySem.Calls PyProof.Rows Ind
noncomputable section
theorem ofS (a b : String) : (Str.ofString a = Str.ofString b) = (a = b) := by
  apply propext
  constructor
  · intro h
    have h1 := congrArg (fun s : Str => s.cps.toList) h
    simp only [Str.ofString_eq_toList] at h1
    have h2 : a.toList.map Char.toNat = b.toList.map Char.toNat := by simpa using h1
    have inj : ∀ {l r : List Char}, l.map Char.toNat = r.map Char.toNat → l = r := by
      intro l
      induction l with
      | nil => intro r e; cases r with | nil => rfl | cons _ _ => simp at e
      | cons x l ih =>
        intro r e
        cases r with
        | nil => simp at e
        | cons y r =>
          simp only [List.map_cons, List.cons.injEq] at e
          rw [ih e.2, Char.toNat_inj.mp e.1]
    exact String.toList_injective (inj h2)
  · rintro rfl; rfl
theorem ofSb (a b : String) : (Str.ofString a == Str.ofString b) = (a == b) := by
  by_cases h : a = b
  · subst h; simp
  · have : ¬ Str.ofString a = Str.ofString b := by rw [ofS]; exact h
    rw [beq_eq_false_iff_ne.mpr this, beq_eq_false_iff_ne.mpr h]
structure St where
  cur : List Nat
  c : Int
  l : Int
  lb : Int
  b : Int
  k : Int
  im : Option Int
  ip : Option Int
def St.f (r : St) : Str → Option At := fun y =>
  if y = Str.ofString "current" then some (.str r.cur) else if y = Str.ofString "cursor" then some (.int r.c) else if y = Str.ofString "limit" then some (.int r.l) else
  if y = Str.ofString "limit_backward" then some (.int r.lb) else if y = Str.ofString "bra" then some (.int r.b) else if y = Str.ofString "ket" then some (.int r.k) else
  if y = Str.ofString "I_measure" then r.im.map .int else if y = Str.ofString "I_prefix" then r.ip.map .int else none
def St.cnt (r : St) : Nat := 6 + (if r.im.isSome then 1 else 0) + (if r.ip.isSome then 1 else 0)
def St.sto (r : St) (ls : List (List At)) : Sto := ⟨true, r.cnt, r.f, ls⟩
section
variable (r : St) (ls : List (List At))
theorem g_cur : (r.sto ls).f (Str.ofString "current") = some (.str r.cur) := rfl
theorem g_c : (r.sto ls).f (Str.ofString "cursor") = some (.int r.c) := rfl
theorem g_l : (r.sto ls).f (Str.ofString "limit") = some (.int r.l) := rfl
theorem g_lb : (r.sto ls).f (Str.ofString "limit_backward") = some (.int r.lb) := rfl
theorem g_b : (r.sto ls).f (Str.ofString "bra") = some (.int r.b) := rfl
theorem g_k : (r.sto ls).f (Str.ofString "ket") = some (.int r.k) := rfl
theorem g_im : (r.sto ls).f (Str.ofString "I_measure") = r.im.map .int := rfl
theorem g_ip : (r.sto ls).f (Str.ofString "I_prefix") = r.ip.map .int := rfl
theorem cnt_lt : r.cnt < 500 := by
  unfold St.cnt
  split <;> split <;> decide
theorem put_of {x : Str} {v : At} {r' : St} (h : (fun y => if y = x then some v else r.f y) = r'.f) (hc : (if (r.f x).isSome then r.cnt else r.cnt + 1) = r'.cnt) : (r.sto ls).put x v = some (r'.sto ls) := by
  unfold Sto.put St.sto
  dsimp only
  rw [if_pos (cnt_lt r), h, hc]
theorem p_cur (v : List Nat) : (r.sto ls).put (Str.ofString "current") (.str v) = some ({ r with cur := v }.sto ls) := put_of _ _ (by funext y; unfold St.f; by_cases h : y = Str.ofString "current" <;> simp [h, ofS]) rfl
theorem p_c (v : Int) : (r.sto ls).put (Str.ofString "cursor") (.int v) = some ({ r with c := v }.sto ls) := put_of _ _ (by funext y; unfold St.f; by_cases h : y = Str.ofString "cursor" <;> simp [h, ofS]) rfl
theorem p_l (v : Int) : (r.sto ls).put (Str.ofString "limit") (.int v) = some ({ r with l := v }.sto ls) := put_of _ _ (by funext y; unfold St.f; by_cases h : y = Str.ofString "limit" <;> simp [h, ofS]) rfl
theorem p_lb (v : Int) : (r.sto ls).put (Str.ofString "limit_backward") (.int v) = some ({ r with lb := v }.sto ls) := put_of _ _ (by funext y; unfold St.f; by_cases h : y = Str.ofString "limit_backward" <;> simp [h, ofS]) rfl
theorem p_b (v : Int) : (r.sto ls).put (Str.ofString "bra") (.int v) = some ({ r with b := v }.sto ls) := put_of _ _ (by funext y; unfold St.f; by_cases h : y = Str.ofString "bra" <;> simp [h, ofS]) rfl
theorem p_k (v : Int) : (r.sto ls).put (Str.ofString "ket") (.int v) = some ({ r with k := v }.sto ls) := put_of _ _ (by funext y; unfold St.f; by_cases h : y = Str.ofString "ket" <;> simp [h, ofS]) rfl
theorem p_im (v : Int) : (r.sto ls).put (Str.ofString "I_measure") (.int v) = some ({ r with im := some v }.sto ls) := put_of _ _ (by funext y; unfold St.f; by_cases h : y = Str.ofString "I_measure" <;> simp [h, ofS]) (by show (if (r.im.map At.int).isSome = true then _ else _) = _; unfold St.cnt; cases r.im <;> simp <;> omega)
theorem p_ip (v : Int) : (r.sto ls).put (Str.ofString "I_prefix") (.int v) = some ({ r with ip := some v }.sto ls) := put_of _ _ (by funext y; unfold St.f; by_cases h : y = Str.ofString "I_prefix" <;> simp [h, ofS]) (by show (if (r.ip.map At.int).isSome = true then _ else _) = _; unfold St.cnt; cases r.ip <;> simp <;> omega)
theorem ls_of : (r.sto ls).ls = ls := rfl
theorem on_of : (r.sto ls).on = true := rfl
end
end
end Ind01
set_option maxRecDepth 1000000
set_option maxHeartbeats 4000000
set_option Elab.async false
set_option linter.unusedSimpArgs false
namespace Ind01
open PySem PySem.W PySem.Calls PyProof.Rows Ind
noncomputable section
theorem bind_ite' {α β : Type} {c : Prop} [Decidable c] (a b : Option α) (f : α → Option β) : (if c then a else b).bind f = if c then a.bind f else b.bind f := by split <;> rfl
theorem map_ite' {α β : Type} {c : Prop} [Decidable c] (a b : Option α) (f : α → β) : (if c then a else b).map f = if c then a.map f else b.map f := by split <;> rfl
def isV (x : Nat) : Prop := x = 97 ∨ x = 101 ∨ x = 105 ∨ x = 111 ∨ x = 117
instance : DecidablePred isV := fun x => by unfold isV; infer_instance
section
variable (P : Params) (es : Array (Int × Value)) (ep : Nat) (st : SetTable) (r : St) (ls : List (List At)) (n : Nat)
theorem fld : (SS P es ep st).fields = (["current", "cursor", "limit", "limit_backward", "bra", "ket", "I_measure", "I_prefix"] : List Str) := rfl
theorem setA_of : (SS P es ep st).setA = setA := rfl
theorem setL_of : (SS P es ep st).setL = [[97], [101], [105], [111], [117]] := rfl
end
def L35 : { b : List Stmt // fBody (inr 2 0) = b } := ⟨_, by unfold inr tp bd PySem.Challenge.pw_af0030_01; dsimp only [fBody, stAt]⟩
def N35 : { b : List (Str × NameKind) // (fScope (inr 2 0)).names = b } := ⟨_, by unfold inr tp bd PySem.Challenge.pw_af0030_01; dsimp only [fBody, fScope, stAt]⟩
theorem S35 : (fScope (inr 2 0)).names = N35.1 := N35.2
theorem F35 (P : Params) (es : Array (Int × Value)) (ep : Nat) (st : SetTable) : funIn (SS P es ep st) 35 = some ([Str.ofString "self"], L35.1, fScope (inr 2 0)) := by kernel_rfl
theorem M35 (P : Params) (es : Array (Int × Value)) (ep : Nat) (st : SetTable) : findIn (SS P es ep st).K (.ref (SS P es ep st).C) (Str.ofString "__init__") = some (some (.ref 35)) := by kernel_rfl
def L42 : { b : List Stmt // fBody (inr 2 1) = b } := ⟨_, by unfold inr tp bd PySem.Challenge.pw_af0030_01; dsimp only [fBody, stAt]⟩
def N42 : { b : List (Str × NameKind) // (fScope (inr 2 1)).names = b } := ⟨_, by unfold inr tp bd PySem.Challenge.pw_af0030_01; dsimp only [fBody, fScope, stAt]⟩
theorem S42 : (fScope (inr 2 1)).names = N42.1 := N42.2
theorem F42 (P : Params) (es : Array (Int × Value)) (ep : Nat) (st : SetTable) : funIn (SS P es ep st) 42 = some ([Str.ofString "self", Str.ofString "value"], L42.1, fScope (inr 2 1)) := by kernel_rfl
theorem M42 (P : Params) (es : Array (Int × Value)) (ep : Nat) (st : SetTable) : findIn (SS P es ep st).K (.ref (SS P es ep st).C) (Str.ofString "set_current") = some (some (.ref 42)) := by kernel_rfl
def L49 : { b : List Stmt // fBody (inr 2 2) = b } := ⟨_, by unfold inr tp bd PySem.Challenge.pw_af0030_01; dsimp only [fBody, stAt]⟩
def N49 : { b : List (Str × NameKind) // (fScope (inr 2 2)).names = b } := ⟨_, by unfold inr tp bd PySem.Challenge.pw_af0030_01; dsimp only [fBody, fScope, stAt]⟩
theorem S49 : (fScope (inr 2 2)).names = N49.1 := N49.2
theorem F49 (P : Params) (es : Array (Int × Value)) (ep : Nat) (st : SetTable) : funIn (SS P es ep st) 49 = some ([Str.ofString "self"], L49.1, fScope (inr 2 2)) := by kernel_rfl
theorem M49 (P : Params) (es : Array (Int × Value)) (ep : Nat) (st : SetTable) : findIn (SS P es ep st).K (.ref (SS P es ep st).C) (Str.ofString "get_current") = some (some (.ref 49)) := by kernel_rfl
def L63 : { b : List Stmt // fBody (inr 2 4) = b } := ⟨_, by unfold inr tp bd PySem.Challenge.pw_af0030_01; dsimp only [fBody, stAt]⟩
def N63 : { b : List (Str × NameKind) // (fScope (inr 2 4)).names = b } := ⟨_, by unfold inr tp bd PySem.Challenge.pw_af0030_01; dsimp only [fBody, fScope, stAt]⟩
theorem S63 : (fScope (inr 2 4)).names = N63.1 := N63.2
theorem F63 (P : Params) (es : Array (Int × Value)) (ep : Nat) (st : SetTable) : funIn (SS P es ep st) 63 = some ([Str.ofString "self", Str.ofString "s"], L63.1, fScope (inr 2 4)) := by kernel_rfl
theorem M63 (P : Params) (es : Array (Int × Value)) (ep : Nat) (st : SetTable) : findIn (SS P es ep st).K (.ref (SS P es ep st).C) (Str.ofString "in_grouping") = some (some (.ref 63)) := by kernel_rfl
def L91 : { b : List Stmt // fBody (inr 2 8) = b } := ⟨_, by unfold inr tp bd PySem.Challenge.pw_af0030_01; dsimp only [fBody, stAt]⟩
def N91 : { b : List (Str × NameKind) // (fScope (inr 2 8)).names = b } := ⟨_, by unfold inr tp bd PySem.Challenge.pw_af0030_01; dsimp only [fBody, fScope, stAt]⟩
theorem S91 : (fScope (inr 2 8)).names = N91.1 := N91.2
theorem F91 (P : Params) (es : Array (Int × Value)) (ep : Nat) (st : SetTable) : funIn (SS P es ep st) 91 = some ([Str.ofString "self", Str.ofString "s"], L91.1, fScope (inr 2 8)) := by kernel_rfl
theorem M91 (P : Params) (es : Array (Int × Value)) (ep : Nat) (st : SetTable) : findIn (SS P es ep st).K (.ref (SS P es ep st).C) (Str.ofString "out_grouping") = some (some (.ref 91)) := by kernel_rfl
def L98 : { b : List Stmt // fBody (inr 2 9) = b } := ⟨_, by unfold inr tp bd PySem.Challenge.pw_af0030_01; dsimp only [fBody, stAt]⟩
def N98 : { b : List (Str × NameKind) // (fScope (inr 2 9)).names = b } := ⟨_, by unfold inr tp bd PySem.Challenge.pw_af0030_01; dsimp only [fBody, fScope, stAt]⟩
theorem S98 : (fScope (inr 2 9)).names = N98.1 := N98.2
theorem F98 (P : Params) (es : Array (Int × Value)) (ep : Nat) (st : SetTable) : funIn (SS P es ep st) 98 = some ([Str.ofString "self", Str.ofString "s"], L98.1, fScope (inr 2 9)) := by kernel_rfl
theorem M98 (P : Params) (es : Array (Int × Value)) (ep : Nat) (st : SetTable) : findIn (SS P es ep st).K (.ref (SS P es ep st).C) (Str.ofString "go_out_grouping") = some (some (.ref 98)) := by kernel_rfl
def L119 : { b : List Stmt // fBody (inr 2 12) = b } := ⟨_, by unfold inr tp bd PySem.Challenge.pw_af0030_01; dsimp only [fBody, stAt]⟩
def N119 : { b : List (Str × NameKind) // (fScope (inr 2 12)).names = b } := ⟨_, by unfold inr tp bd PySem.Challenge.pw_af0030_01; dsimp only [fBody, fScope, stAt]⟩
theorem S119 : (fScope (inr 2 12)).names = N119.1 := N119.2
theorem F119 (P : Params) (es : Array (Int × Value)) (ep : Nat) (st : SetTable) : funIn (SS P es ep st) 119 = some ([Str.ofString "self", Str.ofString "s"], L119.1, fScope (inr 2 12)) := by kernel_rfl
theorem M119 (P : Params) (es : Array (Int × Value)) (ep : Nat) (st : SetTable) : findIn (SS P es ep st).K (.ref (SS P es ep st).C) (Str.ofString "eq_s") = some (some (.ref 119)) := by kernel_rfl
def L133 : { b : List Stmt // fBody (inr 2 14) = b } := ⟨_, by unfold inr tp bd PySem.Challenge.pw_af0030_01; dsimp only [fBody, stAt]⟩
def N133 : { b : List (Str × NameKind) // (fScope (inr 2 14)).names = b } := ⟨_, by unfold inr tp bd PySem.Challenge.pw_af0030_01; dsimp only [fBody, fScope, stAt]⟩
theorem S133 : (fScope (inr 2 14)).names = N133.1 := N133.2
theorem F133 (P : Params) (es : Array (Int × Value)) (ep : Nat) (st : SetTable) : funIn (SS P es ep st) 133 = some ([Str.ofString "self", Str.ofString "v"], L133.1, fScope (inr 2 14)) := by kernel_rfl
theorem M133 (P : Params) (es : Array (Int × Value)) (ep : Nat) (st : SetTable) : findIn (SS P es ep st).K (.ref (SS P es ep st).C) (Str.ofString "find_among") = some (some (.ref 133)) := by kernel_rfl
def L140 : { b : List Stmt // fBody (inr 2 15) = b } := ⟨_, by unfold inr tp bd PySem.Challenge.pw_af0030_01; dsimp only [fBody, stAt]⟩
def N140 : { b : List (Str × NameKind) // (fScope (inr 2 15)).names = b } := ⟨_, by unfold inr tp bd PySem.Challenge.pw_af0030_01; dsimp only [fBody, fScope, stAt]⟩
theorem S140 : (fScope (inr 2 15)).names = N140.1 := N140.2
theorem F140 (P : Params) (es : Array (Int × Value)) (ep : Nat) (st : SetTable) : funIn (SS P es ep st) 140 = some ([Str.ofString "self", Str.ofString "v"], L140.1, fScope (inr 2 15)) := by kernel_rfl
theorem M140 (P : Params) (es : Array (Int × Value)) (ep : Nat) (st : SetTable) : findIn (SS P es ep st).K (.ref (SS P es ep st).C) (Str.ofString "find_among_b") = some (some (.ref 140)) := by kernel_rfl
def L147 : { b : List Stmt // fBody (inr 2 16) = b } := ⟨_, by unfold inr tp bd PySem.Challenge.pw_af0030_01; dsimp only [fBody, stAt]⟩
def N147 : { b : List (Str × NameKind) // (fScope (inr 2 16)).names = b } := ⟨_, by unfold inr tp bd PySem.Challenge.pw_af0030_01; dsimp only [fBody, fScope, stAt]⟩
theorem S147 : (fScope (inr 2 16)).names = N147.1 := N147.2
theorem F147 (P : Params) (es : Array (Int × Value)) (ep : Nat) (st : SetTable) : funIn (SS P es ep st) 147 = some ([Str.ofString "self", Str.ofString "c_bra", Str.ofString "c_ket", Str.ofString "s"], L147.1, fScope (inr 2 16)) := by kernel_rfl
theorem M147 (P : Params) (es : Array (Int × Value)) (ep : Nat) (st : SetTable) : findIn (SS P es ep st).K (.ref (SS P es ep st).C) (Str.ofString "replace_s") = some (some (.ref 147)) := by kernel_rfl
def L154 : { b : List Stmt // fBody (inr 2 17) = b } := ⟨_, by unfold inr tp bd PySem.Challenge.pw_af0030_01; dsimp only [fBody, stAt]⟩
def N154 : { b : List (Str × NameKind) // (fScope (inr 2 17)).names = b } := ⟨_, by unfold inr tp bd PySem.Challenge.pw_af0030_01; dsimp only [fBody, fScope, stAt]⟩
theorem S154 : (fScope (inr 2 17)).names = N154.1 := N154.2
theorem F154 (P : Params) (es : Array (Int × Value)) (ep : Nat) (st : SetTable) : funIn (SS P es ep st) 154 = some ([Str.ofString "self", Str.ofString "s"], L154.1, fScope (inr 2 17)) := by kernel_rfl
theorem M154 (P : Params) (es : Array (Int × Value)) (ep : Nat) (st : SetTable) : findIn (SS P es ep st).K (.ref (SS P es ep st).C) (Str.ofString "slice_from") = some (some (.ref 154)) := by kernel_rfl
def L161 : { b : List Stmt // fBody (inr 2 18) = b } := ⟨_, by unfold inr tp bd PySem.Challenge.pw_af0030_01; dsimp only [fBody, stAt]⟩
def N161 : { b : List (Str × NameKind) // (fScope (inr 2 18)).names = b } := ⟨_, by unfold inr tp bd PySem.Challenge.pw_af0030_01; dsimp only [fBody, fScope, stAt]⟩
theorem S161 : (fScope (inr 2 18)).names = N161.1 := N161.2
theorem F161 (P : Params) (es : Array (Int × Value)) (ep : Nat) (st : SetTable) : funIn (SS P es ep st) 161 = some ([Str.ofString "self"], L161.1, fScope (inr 2 18)) := by kernel_rfl
theorem M161 (P : Params) (es : Array (Int × Value)) (ep : Nat) (st : SetTable) : findIn (SS P es ep st).K (.ref (SS P es ep st).C) (Str.ofString "slice_del") = some (some (.ref 161)) := by kernel_rfl
def L189 : { b : List Stmt // fBody (inr 2 22) = b } := ⟨_, by unfold inr tp bd PySem.Challenge.pw_af0030_01; dsimp only [fBody, stAt]⟩
def N189 : { b : List (Str × NameKind) // (fScope (inr 2 22)).names = b } := ⟨_, by unfold inr tp bd PySem.Challenge.pw_af0030_01; dsimp only [fBody, fScope, stAt]⟩
theorem S189 : (fScope (inr 2 22)).names = N189.1 := N189.2
theorem F189 (P : Params) (es : Array (Int × Value)) (ep : Nat) (st : SetTable) : funIn (SS P es ep st) 189 = some ([Str.ofString "self", Str.ofString "word"], L189.1, fScope (inr 2 22)) := by kernel_rfl
theorem M189 (P : Params) (es : Array (Int × Value)) (ep : Nat) (st : SetTable) : findIn (SS P es ep st).K (.ref (SS P es ep st).C) (Str.ofString "stemWord") = some (some (.ref 189)) := by kernel_rfl
theorem g_slice_from (r : St) (ls : List (List At)) : (r.sto ls).f (Str.ofString "slice_from") = none := by unfold St.sto St.f; simp [ofS]
theorem g_replace (r : St) (ls : List (List At)) : (r.sto ls).f (Str.ofString "replace_s") = none := by unfold St.sto St.f; simp [ofS]
theorem G_len (P : Params) (es : Array (Int × Value)) (ep : Nat) (st : SetTable) : globIn (SS P es ep st) (Str.ofString "len") = some (.builtin "len") := by kernel_rfl
theorem slc_take (l : List Nat) (b : Nat) : slc l (some 0) (some (b : Int)) = l.take b := by
  unfold slc clp
  have e1 : (max 0 (min (if (b : Int) < 0 then (b : Int) + l.length else (b : Int)) l.length)).toNat = min b l.length := by rw [if_neg (by omega)]; omega
  have e2 : (max 0 (min (if (0 : Int) < 0 then (0 : Int) + l.length else (0 : Int)) l.length)).toNat = 0 := by rw [if_neg (by omega)]; omega
  dsimp only
  rw [e1, e2, List.drop_zero]
  exact (List.take_eq_take_min).symm
theorem slc_drop (l : List Nat) (k : Nat) : slc l (some (k : Int)) none = l.drop k := by
  unfold slc clp
  have e1 : (max 0 (min (if (k : Int) < 0 then (k : Int) + l.length else (k : Int)) l.length)).toNat = min k l.length := by rw [if_neg (by omega)]; omega
  dsimp only
  rw [e1, List.take_length]
  by_cases h : k ≤ l.length
  · rw [Nat.min_eq_left h]
  · rw [Nat.min_eq_right (by omega), List.drop_length, List.drop_eq_nil_of_le (by omega)]
end
end Ind01
set_option maxRecDepth 1000000
set_option maxHeartbeats 1000000
set_option Elab.async false
namespace Ind
open PySem PySem.W PySem.Calls PyProof.Rows
section
def kAttr (S : Sta) (name : Str) : MV × Sto → R MV := fun (v, σ) => (match v with
        | .self => if name ∈ S.fields then (σ.f name).map fun a => (.at a, σ) else none
        | .stat (.ref a) => (statAttr S a name).map fun v => (ofVal v, σ)
        | _ => none)
def kS3 (v : MV) (a : Option Int) : Option Int × Sto → R MV := fun (b, σ) => (sliceV v a b).map (·, σ)
def kS2 (S : Sta) (n : Nat) (sc : Scope) (hi : Option Expr) (m : Lm) (v : MV) : Option Int × Sto → R MV := fun (a, σ) => (evI S n sc hi m σ).bind (kS3 v a)
def kS1 (S : Sta) (n : Nat) (sc : Scope) (lo hi : Option Expr) (m : Lm) : MV × Sto → R MV := fun (v, σ) => (evI S n sc lo m σ).bind (kS2 S n sc hi m v)
def kI2 (S : Sta) (v : MV) : MV × Sto → R MV := fun (j, σ) => (match j with
        | .at (.int j) => (index S σ v j).map (·, σ)
        | _ => none)
def kI1 (S : Sta) (n : Nat) (sc : Scope) (i : Expr) (m : Lm) : MV × Sto → R MV := fun (v, σ) => (ev S n sc i m σ).bind (kI2 S v)
def kB2 (op : Operator) (a : MV) : MV × Sto → R MV := fun (b, σ) => (binop op a b).map (·, σ)
def kB1 (S : Sta) (n : Nat) (sc : Scope) (op : Operator) (r : Expr) (m : Lm) : MV × Sto → R MV := fun (a, σ) => (ev S n sc r m σ).bind (kB2 op a)
def kC2 (S : Sta) (op : CmpOp) (a : MV) : MV × Sto → R MV := fun (b, σ) => (compare S σ op a b).map fun b => (.at (.bool b), σ)
def kC1 (S : Sta) (n : Nat) (sc : Scope) (op : CmpOp) (r : Expr) (m : Lm) : MV × Sto → R MV := fun (a, σ) => (ev S n sc r m σ).bind (kC2 S op a)
def kNot : MV × Sto → R MV := fun (v, σ) => (truth σ v).map fun b => (.at (.bool !b), σ)
def kNeg : MV × Sto → R MV := fun (v, σ) => (match v with | .at (.int i) => some (.at (.int (-i)), σ) | _ => none)
def kLst : List MV × Sto → R MV := fun (vs, σ) => (ats vs).map fun l => (.list l, σ)
def kTup : List MV × Sto → R MV := fun (vs, σ) => (ats vs).map fun l => (.tup l, σ)
def kLC2 : List At × Sto → MV × Sto := fun (r, σ) => (.list r, σ)
def kLC (S : Sta) (n : Nat) (cs : Scope) (elt : Expr) (x : Str) (ifs : List Expr) (m : Lm) : MV × Sto → R MV := fun (v, σ) => (match v with
        | .list l => (comp S n cs elt x ifs l m σ).map kLC2
        | .ml k => (σ.ls[k]?).bind fun l => (comp S n cs elt x ifs l m σ).map kLC2
        | .at (.str l) => (comp S n cs elt x ifs (l.map fun c => .str [c]) m σ).map kLC2
        | _ => none)
def kBi (S : Sta) (id : String) : List MV × Sto → R MV := fun (vs, σ) => (builtin1 S σ id vs).map (·, σ)
def kFn (S : Sta) (n : Nat) (a : Addr) : List MV × Sto → R MV := fun (vs, σ) => callF S n a vs σ
def kMe (S : Sta) (n : Nat) (f : Addr) : List MV × Sto → R MV := fun (vs, σ) => callF S n f (.self :: vs) σ
def kSw (s : List Nat) : List MV × Sto → R MV := fun (vs, σ) => (match vs with | [.at (.str t)] => some (.at (.bool (Txt.startswith (lstr s) (lstr t))), σ) | _ => none)
def kAp (k : Nat) : List MV × Sto → R MV := fun (vs, σ) => (match vs, σ.ls[k]? with | [.at a], some l => if 1000 ≤ l.length then none else some (.at .none, { σ with ls := σ.ls.set k (l ++ [a]) }) | _, _ => none)
def kMt (S : Sta) (n : Nat) (sc : Scope) (name : Str) (args : List Expr) (m : Lm) : MV × Sto → R MV := fun (v, σ) => (match v with
        | .self => (match σ.f name, findIn S.K (.ref S.C) name with
            | none, some (some (.ref f)) => (evs S n sc args m σ).bind (kMe S n f)
            | _, _ => none)
        | .at (.str s) => if name == ("startswith" : Str) then (evs S n sc args m σ).bind (kSw s) else none
        | .ml k => if name == ("append" : Str) then (evs S n sc args m σ).bind (kAp k) else none
        | _ => none)
def kEI : MV × Sto → R (Option Int) := fun (v, σ) => (match v with | .at (.int i) => some (some i, σ) | _ => none)
def kCo (v : MV) : List MV × Sto → List MV × Sto := fun (vs, σ) => (v :: vs, σ)
def kEs (S : Sta) (n : Nat) (sc : Scope) (es : List Expr) (m : Lm) : MV × Sto → R (List MV) := fun (v, σ) => (evs S n sc es m σ).map (kCo v)
def kAn2 (S : Sta) (n : Nat) (sc : Scope) (es : List Expr) (m : Lm) (v : MV) (σ : Sto) : Bool → R MV := fun b => if b then evAnd S n sc es m σ else some (v, σ)
def kAn (S : Sta) (n : Nat) (sc : Scope) (es : List Expr) (m : Lm) : MV × Sto → R MV := fun (v, σ) => if es.isEmpty then some (v, σ) else (truth σ v).bind (kAn2 S n sc es m v σ)
def kOr2 (S : Sta) (n : Nat) (sc : Scope) (es : List Expr) (m : Lm) (v : MV) (σ : Sto) : Bool → R MV := fun b => if b then some (v, σ) else evOr S n sc es m σ
def kOr (S : Sta) (n : Nat) (sc : Scope) (es : List Expr) (m : Lm) : MV × Sto → R MV := fun (v, σ) => if es.isEmpty then some (v, σ) else (truth σ v).bind (kOr2 S n sc es m v σ)
def kCm3 (y : At) : List At × Sto → List At × Sto := fun (l, σ) => (y :: l, σ)
def kCm2 (S : Sta) (n : Nat) (sc : Scope) (elt : Expr) (x : Str) (ifs : List Expr) (r : List At) (m : Lm) (ls : List (List At)) : MV × Sto → R (List At) := fun (v, σ) => (match v with
        | .at y => if σ.ls = ls then (comp S n sc elt x ifs r m σ).map (kCm3 y) else none
        | _ => none)
def kCm1 (S : Sta) (n : Nat) (sc : Scope) (elt : Expr) (x : Str) (ifs : List Expr) (a : At) (r : List At) (m : Lm) (ls : List (List At)) : Bool × Sto → R (List At) := fun (b, σ) =>
      if b then (ev S n sc elt (m.comp sc x (.at a)) σ).bind (kCm2 S n sc elt x ifs r m ls)
      else if σ.ls = ls then comp S n sc elt x ifs r m σ else none
def kTs (S : Sta) (n : Nat) (sc : Scope) (es : List Expr) (m : Lm) : Bool × Sto → R Bool := fun (b, σ) => if b then tests S n sc es m σ else some (false, σ)
def kTN : Bool × Sto → Bool × Sto := fun (b, σ) => (!b, σ)
def kTr : MV × Sto → R Bool := fun (v, σ) => (truth σ v).map (·, σ)
def kTA (S : Sta) (n : Nat) (sc : Scope) (c : Bool) (es : List Expr) (m : Lm) : Bool × Sto → R Bool := fun (b, σ) => if b = c then testAll S n sc c es m σ else some (!c, σ)
def kRet : Out × Lm × Sto → R MV := fun (o, _, σ) => (match o with
      | .ret v => some (v, σ)
      | .next => some (.at .none, σ)
      | _ => none)
abbrev RX := Option (Out × Lm × Sto)
def kXr (m : Lm) : MV × Sto → Out × Lm × Sto := fun (v, σ) => (.ret v, m, σ)
def kXe (m : Lm) : MV × Sto → RX := fun (v, σ) => (match v with | .at _ => some (.next, m, σ) | _ => none)
def kXs (m : Lm) (x : Str) : MV × Sto → Out × Lm × Sto := fun (v, σ) => (.next, m.set x v, σ)
def kXl (m : Lm) (x : Str) : List MV × Sto → RX := fun (vs, σ) => (ats vs).map fun l => (.next, m.set x (.ml σ.ls.length), { σ with ls := σ.ls ++ [l] })
def kXn (m : Lm) (x : Str) : MV × Sto → RX := fun (v, σ) => (match v with | .at .none => some (.next, m.set x .self, σ) | _ => none)
def kXt (sc : Scope) (ts : List Expr) (m : Lm) : MV × Sto → RX := fun (v, σ) => (match v with
        | .tup l => (unp sc ts l m).map fun m => (.next, m, σ)
        | _ => none)
def kXp2 (S : Sta) (name : Str) (m : Lm) (v : MV) : MV × Sto → RX := fun (ov, σ) => (match v, ov with
        | .at a, .self => if name ∈ S.fields then (σ.put name a).map fun σ => (.next, m, σ) else none
        | _, _ => none)
def kXp (S : Sta) (n : Nat) (sc : Scope) (o : Expr) (name : Str) (m : Lm) : MV × Sto → RX := fun (v, σ) => (ev S n sc o m σ).bind (kXp2 S name m v)
def kXa (m : Lm) (x : Str) (op : Operator) (old : MV) : MV × Sto → RX := fun (v, σ) => (match old, v with
        | .at a, .at b => (augop op (.at a) (.at b)).map fun r => (.next, m.set x (.at r), σ)
        | _, _ => none)
def kXa1 (S : Sta) (n : Nat) (sc : Scope) (x : Str) (op : Operator) (e : Expr) (m : Lm) (σ : Sto) : MV → RX := fun old => (ev S n sc e m σ).bind (kXa m x op old)
def kXg2 (name : Str) (op : Operator) (m : Lm) (old : At) : MV × Sto → RX := fun (v, σ) => (match v with
            | .at b => (augop op (.at old) (.at b)).bind fun r => (σ.put name r).map fun σ => (.next, m, σ)
            | _ => none)
def kXg1 (S : Sta) (n : Nat) (sc : Scope) (name : Str) (op : Operator) (e : Expr) (m : Lm) (σ : Sto) : At → RX := fun old => (ev S n sc e m σ).bind (kXg2 name op m old)
def kXg (S : Sta) (n : Nat) (sc : Scope) (name : Str) (op : Operator) (e : Expr) (m : Lm) : MV × Sto → RX := fun (ov, σ) => (match ov with
        | .self => if name ∉ S.fields then none else (σ.f name).bind (kXg1 S n sc name op e m σ)
        | _ => none)
def kXi (S : Sta) (n : Nat) (top : Bool) (sc : Scope) (b o : List Stmt) (m : Lm) : Bool × Sto → RX := fun (c, σ) => if c then exs S n top sc b m σ else exs S n top sc o m σ
def kXf (S : Sta) (n : Nat) (sc : Scope) (x : Str) (b : List Stmt) (m : Lm) : List MV × Sto → RX := fun (vs, σ) => (match vs with
        | [.at (.int k)] => if rngOk 0 k then fo S n sc x b ((rangeUp 0 k).map .int) m σ else none
        | [.at (.int a), .at (.int k)] => if rngOk a k then fo S n sc x b ((rangeUp a k).map .int) m σ else none
        | [.at (.int a), .at (.int k), .at (.int (-1))] => if rngOk a k then fo S n sc x b ((rangeDown a k).map .int) m σ else none
        | _ => none)
def kXF (S : Sta) (n : Nat) (sc : Scope) (x : Str) (b : List Stmt) (m : Lm) : MV × Sto → RX := fun (v, σ) => (match v with
        | .list l => fo S n sc x b l m σ
        | _ => none)
def kXA (m : Lm) : Bool × Sto → RX := fun (c, σ) => if c then some (.next, m, σ) else none
def kXT (S : Sta) (sc : Scope) (c : Str) : Out × Lm × Sto → RX := fun (o, m, σ) => (match o with
        | .exc k => if sc.names.lookup c = some .globalImplicit ∧ (c == ("__debug__" : Str)) = false ∧ globIn S c = some (.ref k) then some (.next, m, σ) else none
        | o => some (o, m, σ))
def kSq (S : Sta) (n : Nat) (top : Bool) (sc : Scope) (rest : List Stmt) : Out × Lm × Sto → RX := fun (o, m, σ) => (match o with
      | .next => exs S n top sc rest m σ
      | o => some (o, m, σ))
def kW2 (S : Sta) (n : Nat) (sc : Scope) (t : Expr) (b : List Stmt) : Out × Lm × Sto → RX := fun (o, m, σ) => (match o with
      | .next | .cont => whil S n sc t b m σ
      | .brk => some (.next, m, σ)
      | .ret v => some (.ret v, m, σ)
      | .exc _ => none)
def kW1 (S : Sta) (n : Nat) (sc : Scope) (t : Expr) (b : List Stmt) (m : Lm) : Bool × Sto → RX := fun (c, σ) => if c then (exs S n false sc b m σ).bind (kW2 S n sc t b) else some (.next, m, σ)
def kFo (S : Sta) (n : Nat) (sc : Scope) (x : Str) (b : List Stmt) (l : List At) : Out × Lm × Sto → RX := fun (o, m, σ) => (match o with
      | .next | .cont => fo S n sc x b l m σ
      | .brk => some (.next, m, σ)
      | .ret v => some (.ret v, m, σ)
      | .exc _ => none)
end
section
theorem a_kAttr (S : Sta) (name : Str) (v : MV) (σ : Sto) : kAttr S name (v, σ) = (match v with
        | .self => if name ∈ S.fields then (σ.f name).map fun a => (.at a, σ) else none
        | .stat (.ref a) => (statAttr S a name).map fun v => (ofVal v, σ)
        | _ => none) := (Eq.refl _).trans rfl
theorem a_kS3 (v : MV) (a : Option Int) (b : Option Int) (σ : Sto) : kS3 v a (b, σ) = (sliceV v a b).map (·, σ) := (Eq.refl _).trans rfl
theorem a_kS2 (S : Sta) (n : Nat) (sc : Scope) (hi : Option Expr) (m : Lm) (v : MV) (a : Option Int) (σ : Sto) : kS2 S n sc hi m v (a, σ) = (evI S n sc hi m σ).bind (kS3 v a) := (Eq.refl _).trans rfl
theorem a_kS1 (S : Sta) (n : Nat) (sc : Scope) (lo hi : Option Expr) (m : Lm) (v : MV) (σ : Sto) : kS1 S n sc lo hi m (v, σ) = (evI S n sc lo m σ).bind (kS2 S n sc hi m v) := (Eq.refl _).trans rfl
theorem a_kI2 (S : Sta) (v : MV) (j : MV) (σ : Sto) : kI2 S v (j, σ) = (match j with
        | .at (.int j) => (index S σ v j).map (·, σ)
        | _ => none) := (Eq.refl _).trans rfl
theorem a_kI1 (S : Sta) (n : Nat) (sc : Scope) (i : Expr) (m : Lm) (v : MV) (σ : Sto) : kI1 S n sc i m (v, σ) = (ev S n sc i m σ).bind (kI2 S v) := (Eq.refl _).trans rfl
theorem a_kB2 (op : Operator) (a : MV) (b : MV) (σ : Sto) : kB2 op a (b, σ) = (binop op a b).map (·, σ) := (Eq.refl _).trans rfl
theorem a_kB1 (S : Sta) (n : Nat) (sc : Scope) (op : Operator) (r : Expr) (m : Lm) (a : MV) (σ : Sto) : kB1 S n sc op r m (a, σ) = (ev S n sc r m σ).bind (kB2 op a) := (Eq.refl _).trans rfl
theorem a_kC2 (S : Sta) (op : CmpOp) (a : MV) (b : MV) (σ : Sto) : kC2 S op a (b, σ) = (compare S σ op a b).map fun b => (.at (.bool b), σ) := (Eq.refl _).trans rfl
theorem a_kC1 (S : Sta) (n : Nat) (sc : Scope) (op : CmpOp) (r : Expr) (m : Lm) (a : MV) (σ : Sto) : kC1 S n sc op r m (a, σ) = (ev S n sc r m σ).bind (kC2 S op a) := (Eq.refl _).trans rfl
theorem a_kNot (v : MV) (σ : Sto) : kNot  (v, σ) = (truth σ v).map fun b => (.at (.bool !b), σ) := (Eq.refl _).trans rfl
theorem a_kNeg (v : MV) (σ : Sto) : kNeg  (v, σ) = (match v with | .at (.int i) => some (.at (.int (-i)), σ) | _ => none) := (Eq.refl _).trans rfl
theorem a_kLst (vs : List MV) (σ : Sto) : kLst  (vs, σ) = (ats vs).map fun l => (.list l, σ) := (Eq.refl _).trans rfl
theorem a_kTup (vs : List MV) (σ : Sto) : kTup  (vs, σ) = (ats vs).map fun l => (.tup l, σ) := (Eq.refl _).trans rfl
theorem a_kLC2 (r : List At) (σ : Sto) : kLC2  (r, σ) = (.list r, σ) := (Eq.refl _).trans rfl
theorem a_kLC (S : Sta) (n : Nat) (cs : Scope) (elt : Expr) (x : Str) (ifs : List Expr) (m : Lm) (v : MV) (σ : Sto) : kLC S n cs elt x ifs m (v, σ) = (match v with
        | .list l => (comp S n cs elt x ifs l m σ).map kLC2
        | .ml k => (σ.ls[k]?).bind fun l => (comp S n cs elt x ifs l m σ).map kLC2
        | .at (.str l) => (comp S n cs elt x ifs (l.map fun c => .str [c]) m σ).map kLC2
        | _ => none) := (Eq.refl _).trans rfl
theorem a_kBi (S : Sta) (id : String) (vs : List MV) (σ : Sto) : kBi S id (vs, σ) = (builtin1 S σ id vs).map (·, σ) := (Eq.refl _).trans rfl
theorem a_kFn (S : Sta) (n : Nat) (a : Addr) (vs : List MV) (σ : Sto) : kFn S n a (vs, σ) = callF S n a vs σ := (Eq.refl _).trans rfl
theorem a_kMe (S : Sta) (n : Nat) (f : Addr) (vs : List MV) (σ : Sto) : kMe S n f (vs, σ) = callF S n f (.self :: vs) σ := (Eq.refl _).trans rfl
theorem a_kSw (s : List Nat) (vs : List MV) (σ : Sto) : kSw s (vs, σ) = (match vs with | [.at (.str t)] => some (.at (.bool (Txt.startswith (lstr s) (lstr t))), σ) | _ => none) := (Eq.refl _).trans rfl
theorem a_kAp (k : Nat) (vs : List MV) (σ : Sto) : kAp k (vs, σ) = (match vs, σ.ls[k]? with | [.at a], some l => if 1000 ≤ l.length then none else some (.at .none, { σ with ls := σ.ls.set k (l ++ [a]) }) | _, _ => none) := (Eq.refl _).trans rfl
theorem a_kMt (S : Sta) (n : Nat) (sc : Scope) (name : Str) (args : List Expr) (m : Lm) (v : MV) (σ : Sto) : kMt S n sc name args m (v, σ) = (match v with
        | .self => (match σ.f name, findIn S.K (.ref S.C) name with
            | none, some (some (.ref f)) => (evs S n sc args m σ).bind (kMe S n f)
            | _, _ => none)
        | .at (.str s) => if name == ("startswith" : Str) then (evs S n sc args m σ).bind (kSw s) else none
        | .ml k => if name == ("append" : Str) then (evs S n sc args m σ).bind (kAp k) else none
        | _ => none) := (Eq.refl _).trans rfl
theorem a_kEI (v : MV) (σ : Sto) : kEI  (v, σ) = (match v with | .at (.int i) => some (some i, σ) | _ => none) := (Eq.refl _).trans rfl
theorem a_kCo (v : MV) (vs : List MV) (σ : Sto) : kCo v (vs, σ) = (v :: vs, σ) := (Eq.refl _).trans rfl
theorem a_kEs (S : Sta) (n : Nat) (sc : Scope) (es : List Expr) (m : Lm) (v : MV) (σ : Sto) : kEs S n sc es m (v, σ) = (evs S n sc es m σ).map (kCo v) := (Eq.refl _).trans rfl
theorem a_kAn2 (S : Sta) (n : Nat) (sc : Scope) (es : List Expr) (m : Lm) (v : MV) (σ : Sto) (b : Bool) : kAn2 S n sc es m v σ b = if b then evAnd S n sc es m σ else some (v, σ) := (Eq.refl _).trans rfl
theorem a_kAn (S : Sta) (n : Nat) (sc : Scope) (es : List Expr) (m : Lm) (v : MV) (σ : Sto) : kAn S n sc es m (v, σ) = if es.isEmpty then some (v, σ) else (truth σ v).bind (kAn2 S n sc es m v σ) := (Eq.refl _).trans rfl
theorem a_kOr2 (S : Sta) (n : Nat) (sc : Scope) (es : List Expr) (m : Lm) (v : MV) (σ : Sto) (b : Bool) : kOr2 S n sc es m v σ b = if b then some (v, σ) else evOr S n sc es m σ := (Eq.refl _).trans rfl
theorem a_kOr (S : Sta) (n : Nat) (sc : Scope) (es : List Expr) (m : Lm) (v : MV) (σ : Sto) : kOr S n sc es m (v, σ) = if es.isEmpty then some (v, σ) else (truth σ v).bind (kOr2 S n sc es m v σ) := (Eq.refl _).trans rfl
theorem a_kCm3 (y : At) (l : List At) (σ : Sto) : kCm3 y (l, σ) = (y :: l, σ) := (Eq.refl _).trans rfl
theorem a_kTs (S : Sta) (n : Nat) (sc : Scope) (es : List Expr) (m : Lm) (b : Bool) (σ : Sto) : kTs S n sc es m (b, σ) = if b then tests S n sc es m σ else some (false, σ) := (Eq.refl _).trans rfl
theorem a_kTN (b : Bool) (σ : Sto) : kTN  (b, σ) = (!b, σ) := (Eq.refl _).trans rfl
theorem a_kTr (v : MV) (σ : Sto) : kTr  (v, σ) = (truth σ v).map (·, σ) := (Eq.refl _).trans rfl
theorem a_kTA (S : Sta) (n : Nat) (sc : Scope) (c : Bool) (es : List Expr) (m : Lm) (b : Bool) (σ : Sto) : kTA S n sc c es m (b, σ) = if b = c then testAll S n sc c es m σ else some (!c, σ) := (Eq.refl _).trans rfl
theorem a_kRet (o : Out) (w9 : Lm) (σ : Sto) : kRet  (o, w9, σ) = (match o with
      | .ret v => some (v, σ)
      | .next => some (.at .none, σ)
      | _ => none) := (Eq.refl _).trans rfl
theorem a_kXr (m : Lm) (v : MV) (σ : Sto) : kXr m (v, σ) = (.ret v, m, σ) := (Eq.refl _).trans rfl
theorem a_kXe (m : Lm) (v : MV) (σ : Sto) : kXe m (v, σ) = (match v with | .at _ => some (.next, m, σ) | _ => none) := (Eq.refl _).trans rfl
theorem a_kXs (m : Lm) (x : Str) (v : MV) (σ : Sto) : kXs m x (v, σ) = (.next, m.set x v, σ) := (Eq.refl _).trans rfl
theorem a_kXl (m : Lm) (x : Str) (vs : List MV) (σ : Sto) : kXl m x (vs, σ) = (ats vs).map fun l => (.next, m.set x (.ml σ.ls.length), { σ with ls := σ.ls ++ [l] }) := (Eq.refl _).trans rfl
theorem a_kXn (m : Lm) (x : Str) (v : MV) (σ : Sto) : kXn m x (v, σ) = (match v with | .at .none => some (.next, m.set x .self, σ) | _ => none) := (Eq.refl _).trans rfl
theorem a_kXt (sc : Scope) (ts : List Expr) (m : Lm) (v : MV) (σ : Sto) : kXt sc ts m (v, σ) = (match v with
        | .tup l => (unp sc ts l m).map fun m => (.next, m, σ)
        | _ => none) := (Eq.refl _).trans rfl
theorem a_kXp2 (S : Sta) (name : Str) (m : Lm) (v : MV) (ov : MV) (σ : Sto) : kXp2 S name m v (ov, σ) = (match v, ov with
        | .at a, .self => if name ∈ S.fields then (σ.put name a).map fun σ => (.next, m, σ) else none
        | _, _ => none) := (Eq.refl _).trans rfl
theorem a_kXp (S : Sta) (n : Nat) (sc : Scope) (o : Expr) (name : Str) (m : Lm) (v : MV) (σ : Sto) : kXp S n sc o name m (v, σ) = (ev S n sc o m σ).bind (kXp2 S name m v) := (Eq.refl _).trans rfl
theorem a_kXa (m : Lm) (x : Str) (op : Operator) (old : MV) (v : MV) (σ : Sto) : kXa m x op old (v, σ) = (match old, v with
        | .at a, .at b => (augop op (.at a) (.at b)).map fun r => (.next, m.set x (.at r), σ)
        | _, _ => none) := (Eq.refl _).trans rfl
theorem a_kXa1 (S : Sta) (n : Nat) (sc : Scope) (x : Str) (op : Operator) (e : Expr) (m : Lm) (σ : Sto) (old : MV) : kXa1 S n sc x op e m σ old = (ev S n sc e m σ).bind (kXa m x op old) := (Eq.refl _).trans rfl
theorem a_kXg2 (name : Str) (op : Operator) (m : Lm) (old : At) (v : MV) (σ : Sto) : kXg2 name op m old (v, σ) = (match v with
            | .at b => (augop op (.at old) (.at b)).bind fun r => (σ.put name r).map fun σ => (.next, m, σ)
            | _ => none) := (Eq.refl _).trans rfl
theorem a_kXg1 (S : Sta) (n : Nat) (sc : Scope) (name : Str) (op : Operator) (e : Expr) (m : Lm) (σ : Sto) (old : At) : kXg1 S n sc name op e m σ old = (ev S n sc e m σ).bind (kXg2 name op m old) := (Eq.refl _).trans rfl
theorem a_kXg (S : Sta) (n : Nat) (sc : Scope) (name : Str) (op : Operator) (e : Expr) (m : Lm) (ov : MV) (σ : Sto) : kXg S n sc name op e m (ov, σ) = (match ov with
        | .self => if name ∉ S.fields then none else (σ.f name).bind (kXg1 S n sc name op e m σ)
        | _ => none) := (Eq.refl _).trans rfl
theorem a_kXi (S : Sta) (n : Nat) (top : Bool) (sc : Scope) (b o : List Stmt) (m : Lm) (c : Bool) (σ : Sto) : kXi S n top sc b o m (c, σ) = if c then exs S n top sc b m σ else exs S n top sc o m σ := (Eq.refl _).trans rfl
theorem a_kXf (S : Sta) (n : Nat) (sc : Scope) (x : Str) (b : List Stmt) (m : Lm) (vs : List MV) (σ : Sto) : kXf S n sc x b m (vs, σ) = (match vs with
        | [.at (.int k)] => if rngOk 0 k then fo S n sc x b ((rangeUp 0 k).map .int) m σ else none
        | [.at (.int a), .at (.int k)] => if rngOk a k then fo S n sc x b ((rangeUp a k).map .int) m σ else none
        | [.at (.int a), .at (.int k), .at (.int (-1))] => if rngOk a k then fo S n sc x b ((rangeDown a k).map .int) m σ else none
        | _ => none) := (Eq.refl _).trans rfl
theorem a_kXF (S : Sta) (n : Nat) (sc : Scope) (x : Str) (b : List Stmt) (m : Lm) (v : MV) (σ : Sto) : kXF S n sc x b m (v, σ) = (match v with
        | .list l => fo S n sc x b l m σ
        | _ => none) := (Eq.refl _).trans rfl
theorem a_kXA (m : Lm) (c : Bool) (σ : Sto) : kXA m (c, σ) = if c then some (.next, m, σ) else none := (Eq.refl _).trans rfl
theorem a_kXT (S : Sta) (sc : Scope) (c : Str) (o : Out) (m : Lm) (σ : Sto) : kXT S sc c (o, m, σ) = (match o with
        | .exc k => if sc.names.lookup c = some .globalImplicit ∧ (c == ("__debug__" : Str)) = false ∧ globIn S c = some (.ref k) then some (.next, m, σ) else none
        | o => some (o, m, σ)) := (Eq.refl _).trans rfl
theorem a_kSq (S : Sta) (n : Nat) (top : Bool) (sc : Scope) (rest : List Stmt) (o : Out) (m : Lm) (σ : Sto) : kSq S n top sc rest (o, m, σ) = (match o with
      | .next => exs S n top sc rest m σ
      | o => some (o, m, σ)) := (Eq.refl _).trans rfl
theorem a_kW2 (S : Sta) (n : Nat) (sc : Scope) (t : Expr) (b : List Stmt) (o : Out) (m : Lm) (σ : Sto) : kW2 S n sc t b (o, m, σ) = (match o with
      | .next | .cont => whil S n sc t b m σ
      | .brk => some (.next, m, σ)
      | .ret v => some (.ret v, m, σ)
      | .exc _ => none) := (Eq.refl _).trans rfl
theorem a_kW1 (S : Sta) (n : Nat) (sc : Scope) (t : Expr) (b : List Stmt) (m : Lm) (c : Bool) (σ : Sto) : kW1 S n sc t b m (c, σ) = if c then (exs S n false sc b m σ).bind (kW2 S n sc t b) else some (.next, m, σ) := (Eq.refl _).trans rfl
theorem a_kFo (S : Sta) (n : Nat) (sc : Scope) (x : Str) (b : List Stmt) (l : List At) (o : Out) (m : Lm) (σ : Sto) : kFo S n sc x b l (o, m, σ) = (match o with
      | .next | .cont => fo S n sc x b l m σ
      | .brk => some (.next, m, σ)
      | .ret v => some (.ret v, m, σ)
      | .exc _ => none) := (Eq.refl _).trans rfl
theorem a_kCm2 (S : Sta) (n : Nat) (sc : Scope) (elt : Expr) (x : Str) (ifs : List Expr) (r : List At) (m : Lm) (ls : List (List At)) (v : MV) (σ : Sto) : kCm2 S n sc elt x ifs r m ls (v, σ) = (match v with
        | .at y => if σ.ls = ls then (comp S n sc elt x ifs r m σ).map (kCm3 y) else none
        | _ => none) := (Eq.refl _).trans rfl
theorem a_kCm1 (S : Sta) (n : Nat) (sc : Scope) (elt : Expr) (x : Str) (ifs : List Expr) (a : At) (r : List At) (m : Lm) (ls : List (List At)) (b : Bool) (σ : Sto) : kCm1 S n sc elt x ifs a r m ls (b, σ) = if b then (ev S n sc elt (m.comp sc x (.at a)) σ).bind (kCm2 S n sc elt x ifs r m ls)
      else if σ.ls = ls then comp S n sc elt x ifs r m σ else none := (Eq.refl _).trans rfl
def kIs (S : Sta) (sc : Scope) (t : Str) : MV × Sto → R MV := fun (v, σ) => (match v, globIn S t with | .at (.str _), some (.type "str") => if sc.names.lookup t = some .globalImplicit ∧ (t == ("__debug__" : Str)) = false then some (.at (.bool true), σ) else none | _, _ => none)
theorem a_kIs (S : Sta) (sc : Scope) (t : Str) (v : MV) (σ : Sto) : kIs S sc t (v, σ) = (match v, globIn S t with | .at (.str _), some (.type "str") => if sc.names.lookup t = some .globalImplicit ∧ (t == ("__debug__" : Str)) = false then some (.at (.bool true), σ) else none | _, _ => none) := (Eq.refl _).trans rfl
def kG (S : Sta) (n : Nat) (sc : Scope) (args : List Expr) (m : Lm) (σ : Sto) : Option Value → R MV
  | some (.builtin id) => if id = "isinstance" then (match args with
            | [x, .Name t _] => (ev S n sc x m σ).bind (kIs S sc t)
            | _ => (evs S n sc args m σ).bind (kBi S id)) else (evs S n sc args m σ).bind (kBi S id)
  | some (.ref a) => (evs S n sc args m σ).bind (kFn S n a)
  | _ => none
theorem a_kGr (S : Sta) (n : Nat) (sc : Scope) (args : List Expr) (m : Lm) (σ : Sto) (a : Addr) : kG S n sc args m σ (some (.ref a)) = (evs S n sc args m σ).bind (kFn S n a) := (Eq.refl _).trans rfl
theorem a_kGb (S : Sta) (n : Nat) (sc : Scope) (args : List Expr) (m : Lm) (σ : Sto) (id : String) (h : (id == "isinstance") = false) : kG S n sc args m σ (some (.builtin id)) = (evs S n sc args m σ).bind (kBi S id) := by
  have h' : ¬ id = "isinstance" := by simpa using h
  unfold kG; dsimp only; rw [if_neg h']
theorem a_kGi (S : Sta) (n : Nat) (sc : Scope) (x : Expr) (t : Str) (q : Pos) (m : Lm) (σ : Sto) : kG S n sc [x, .Name t q] m σ (some (.builtin "isinstance")) = (ev S n sc x m σ).bind (kIs S sc t) := (Eq.refl _).trans rfl
end
section
variable (S : Sta) (n : Nat) (sc : Scope) (m : Lm) (σ : Sto) (p : Pos)
theorem e_const (c : Const) (k : Nat) : ev S (n + 1) sc (.Constant c k p) m σ = (ofConst c).map (·, σ) := by rw [ev] <;> first | rfl | (intros; contradiction)
theorem e_name (x : Str) : ev S (n + 1) sc (.Name x p) m σ = if x == ("__debug__" : Str) then none else (match sc.names.lookup x with
        | some .local => (m x).map (·, σ)
        | some .cell => (m x).map (·, σ)
        | some .free => if x == ("__classdict__" : Str) then none else (m x).map (·, σ)
        | some .globalImplicit => (globIn S x).map fun v => (ofVal v, σ)
        | _ => none) := by rw [ev] <;> first | rfl | (intros; contradiction)
theorem e_attr (o : Expr) (name : Str) : ev S (n + 1) sc (.Attribute o name p) m σ = if baseOk o = true then (ev S n sc o m σ).bind (kAttr S name) else none := by rw [ev] <;> first | rfl | (intros; contradiction)
def notD : Expr → Bool
  | .Dict .. => false
  | _ => true
def notS : Expr → Bool
  | .Slice .. => false
  | _ => true
def kSu (i : Expr) (S : Sta) (n : Nat) (sc : Scope) (m : Lm) : MV × Sto → R MV := match i with
  | .Slice lo hi none _ => kS1 S n sc lo hi m
  | .Slice lo hi (some a) q => fun (v, σ) => (ev S n sc (.Slice lo hi (some a) q) m σ).bind (kI2 S v)
  | i => kI1 S n sc i m
theorem d_name (x : Str) (p : Pos) : notD (.Name x p) = true := rfl
theorem d_attr (o : Expr) (x : Str) (p : Pos) : notD (.Attribute o x p) = true := rfl
theorem d_const (c : Const) (k : Nat) (p : Pos) : notD (.Constant c k p) = true := rfl
theorem d_call (f : Expr) (a : List Expr) (k : List Keyword) (p : Pos) : notD (.Call f a k p) = true := rfl
theorem d_list (a : List Expr) (p : Pos) : notD (.List a p) = true := rfl
theorem d_sub (a b : Expr) (p : Pos) : notD (.Subscript a b p) = true := rfl
theorem d_bin (a b : Expr) (o : Operator) (p : Pos) : notD (.BinOp a o b p) = true := rfl
def evD (S : Sta) (n : Nat) (sc : Scope) (e : Expr) (m : Lm) (σ : Sto) : R MV := ev S n sc e m σ
theorem a_kSu (i : Expr) (S : Sta) (n : Nat) (sc : Scope) (m : Lm) (v : MV) (σ : Sto) : kSu i S n sc m (v, σ) = match i with
  | .Slice lo hi none _ => kS1 S n sc lo hi m (v, σ)
  | .Slice lo hi (some a) q => (ev S n sc (.Slice lo hi (some a) q) m σ).bind (kI2 S v)
  | i => kI1 S n sc i m (v, σ) := by cases i <;> first | rfl | (rename_i a b c d; cases c <;> rfl)
theorem e_sub (o i : Expr) : ev S (n + 1) sc (.Subscript o i p) m σ = if notD o = true then (ev S n sc o m σ).bind (kSu i S n sc m) else evD S (n + 1) sc (.Subscript o i p) m σ := by
  by_cases h : notD o = true
  · rw [if_pos h]
    unfold kSu
    split
    · cases o <;> first | (cases h; done) | (rw [ev] <;> first | rfl | (intros; contradiction))
    · cases o <;> first | (cases h; done) | (rw [ev] <;> first | rfl | (intros; contradiction) | (rintro _ _ _ ⟨⟩))
    · rename_i e1 e2
      cases o <;> first | (cases h; done) | (rw [ev] <;> first | rfl | (intros; contradiction) | (intros; exact absurd ‹_› (e1 _ _ _)))
  · rw [if_neg h]; rfl
theorem e_not (x : Expr) : ev S (n + 1) sc (.UnaryOp .Not x p) m σ = (ev S n sc x m σ).bind kNot := by rw [ev] <;> first | rfl | (intros; contradiction)
theorem e_neg (x : Expr) : ev S (n + 1) sc (.UnaryOp .USub x p) m σ = (ev S n sc x m σ).bind kNeg := by rw [ev] <;> first | rfl | (intros; contradiction)
theorem e_bin (l r : Expr) (op : Operator) : ev S (n + 1) sc (.BinOp l op r p) m σ = (ev S n sc l m σ).bind (kB1 S n sc op r m) := by rw [ev] <;> first | rfl | (intros; contradiction)
theorem e_cmp (l r : Expr) (op : CmpOp) : ev S (n + 1) sc (.Compare l [op] [r] p) m σ = (ev S n sc l m σ).bind (kC1 S n sc op r m) := by rw [ev] <;> first | rfl | (intros; contradiction)
theorem e_and (es : List Expr) : ev S (n + 1) sc (.BoolOp .And es p) m σ = evAnd S n sc es m σ := by rw [ev] <;> first | rfl | (intros; contradiction)
theorem e_or (es : List Expr) : ev S (n + 1) sc (.BoolOp .Or es p) m σ = evOr S n sc es m σ := by rw [ev] <;> first | rfl | (intros; contradiction)
theorem e_list (es : List Expr) : ev S (n + 1) sc (.List es p) m σ = if es.length ≤ 1000 then (evs S n sc es m σ).bind kLst else none := by rw [ev] <;> first | rfl | (intros; contradiction)
theorem e_tuple (es : List Expr) (k : Nat) : ev S (n + 1) sc (.Tuple es k p) m σ = if es.length ≤ 1000 then (evs S n sc es m σ).bind kTup else none := by rw [ev] <;> first | rfl | (intros; contradiction)
theorem e_cm (elt it : Expr) (x : Str) (q : Pos) (ifs : List Expr) (cs : Scope) : ev S (n + 1) sc (.ListComp elt [⟨.Name x q, it, ifs, 0⟩] cs p) m σ = if cs.kind = .function ∧ sc.kind = .function ∧ (cs.names.all fun y => y.2 != .cell) = true ∧ (cs.names.all fun y => y.2 != .local || cs.names.lookup y.1 == some .local) = true ∧ cs.names.lookup x = some .local ∧ (cs.names.all fun y => y.2 != .free || sc.names.lookup y.1 == some .cell) = true then (ev S n sc it m σ).bind (kLC S n (compSc cs sc) elt x ifs m) else none := by rw [ev] <;> first | rfl | (intros; contradiction)
theorem i_none  : evI S (n + 1) sc none m σ = some (none, σ) := by rw [evI] <;> first | rfl | (intros; contradiction)
theorem i_some (e : Expr) : evI S (n + 1) sc (some e) m σ = (ev S n sc e m σ).bind kEI := by rw [evI] <;> first | rfl | (intros; contradiction)
theorem es_nil  : evs S (n + 1) sc [] m σ = some ([], σ) := by rw [evs] <;> first | rfl | (intros; contradiction)
theorem es_cons (e : Expr) (es : List Expr) : evs S (n + 1) sc (e :: es) m σ = (ev S n sc e m σ).bind (kEs S n sc es m) := by rw [evs] <;> first | rfl | (intros; contradiction)
theorem an_cons (e : Expr) (es : List Expr) : evAnd S (n + 1) sc (e :: es) m σ = (ev S n sc e m σ).bind (kAn S n sc es m) := by rw [evAnd] <;> first | rfl | (intros; contradiction)
theorem or_cons (e : Expr) (es : List Expr) : evOr S (n + 1) sc (e :: es) m σ = (ev S n sc e m σ).bind (kOr S n sc es m) := by rw [evOr] <;> first | rfl | (intros; contradiction)
theorem cm_nil (elt : Expr) (x : Str) (ifs : List Expr) : comp S (n + 1) sc elt x ifs [] m σ = some ([], σ) := by rw [comp] <;> first | rfl | (intros; contradiction)
theorem cm_cons (elt : Expr) (x : Str) (ifs : List Expr) (a : At) (r : List At) : comp S (n + 1) sc elt x ifs (a :: r) m σ = (tests S n sc ifs (m.comp sc x (.at a)) σ).bind (kCm1 S n sc elt x ifs a r m σ.ls) := by rw [comp] <;> first | rfl | (intros; contradiction)
theorem ts_nil  : tests S (n + 1) sc [] m σ = some (true, σ) := by rw [tests] <;> first | rfl | (intros; contradiction)
theorem ts_cons (e : Expr) (es : List Expr) : tests S (n + 1) sc (e :: es) m σ = (test S n sc e m σ).bind (kTs S n sc es m) := by rw [tests] <;> first | rfl | (intros; contradiction)
theorem t_not (x : Expr) : test S (n + 1) sc (.UnaryOp .Not x p) m σ = (test S n sc x m σ).map kTN := by rw [test] <;> first | rfl | (intros; contradiction)
theorem t_and (es : List Expr) : test S (n + 1) sc (.BoolOp .And es p) m σ = testAll S n sc true es m σ := by rw [test] <;> first | rfl | (intros; contradiction)
theorem t_or (es : List Expr) : test S (n + 1) sc (.BoolOp .Or es p) m σ = testAll S n sc false es m σ := by rw [test] <;> first | rfl | (intros; contradiction)
theorem t_cmp (l : Expr) (ops : List CmpOp) (rs : List Expr) : test S (n + 1) sc (.Compare l ops rs p) m σ = (ev S n sc (.Compare l ops rs p) m σ).bind kTr := by rw [test] <;> first | rfl | (intros; contradiction)
theorem t_name (x : Str) : test S (n + 1) sc (.Name x p) m σ = (ev S n sc (.Name x p) m σ).bind kTr := by rw [test] <;> first | rfl | (intros; contradiction)
theorem t_attr (o : Expr) (x : Str) : test S (n + 1) sc (.Attribute o x p) m σ = (ev S n sc (.Attribute o x p) m σ).bind kTr := by rw [test] <;> first | rfl | (intros; contradiction)
theorem t_call (f : Expr) (as : List Expr) (kw : List Keyword) : test S (n + 1) sc (.Call f as kw p) m σ = (ev S n sc (.Call f as kw p) m σ).bind kTr := by rw [test] <;> first | rfl | (intros; contradiction)
theorem t_const (c : Const) (k : Nat) : test S (n + 1) sc (.Constant c k p) m σ = (ev S n sc (.Constant c k p) m σ).bind kTr := by rw [test] <;> first | rfl | (intros; contradiction)
theorem ta_nil (c : Bool) : testAll S (n + 1) sc c [] m σ = some (c, σ) := by rw [testAll] <;> first | rfl | (intros; contradiction)
theorem ta_cons (c : Bool) (e : Expr) (es : List Expr) : testAll S (n + 1) sc c (e :: es) m σ = (test S n sc e m σ).bind (kTA S n sc c es m) := by rw [testAll] <;> first | rfl | (intros; contradiction)
theorem x_pass (top : Bool) : ex S (n + 1) top sc (.Pass p) m σ = some (.next, m, σ) := by rw [ex] <;> first | rfl | (intros; contradiction)
theorem x_break (top : Bool) : ex S (n + 1) top sc (.Break p) m σ = some (.brk, m, σ) := by rw [ex] <;> first | rfl | (intros; contradiction)
theorem x_cont (top : Bool) : ex S (n + 1) top sc (.Continue p) m σ = some (.cont, m, σ) := by rw [ex] <;> first | rfl | (intros; contradiction)
theorem x_ret (top : Bool) (e : Expr) : ex S (n + 1) top sc (.Return (some e) p) m σ = (ev S n sc e m σ).map (kXr m) := by rw [ex] <;> first | rfl | (intros; contradiction)
theorem x_expr (top : Bool) (e : Expr) : ex S (n + 1) top sc (.Expr e p) m σ = if notComp e = true then (ev S n sc e m σ).bind (kXe m) else none := by rw [ex] <;> first | rfl | (intros; contradiction)
theorem x_set (x : Str) (q : Pos) (e : Expr) : ex S (n + 1) false sc (.Assign [.Name x q] e p) m σ = if sc.names.lookup x = some .local ∧ notComp e = true then (ev S n sc e m σ).map (kXs m x) else none := by rw [ex] <;> first | rfl | (intros; contradiction)
theorem x_tup (top : Bool) (ts : List Expr) (k : Nat) (q : Pos) (f : Expr) (args : List Expr) (kws : List Keyword) (cp : Pos) : ex S (n + 1) top sc (.Assign [.Tuple ts k q] (.Call f args kws cp) p) m σ = (ev S n sc (.Call f args kws cp) m σ).bind (kXt sc ts m) := by rw [ex] <;> first | rfl | (intros; contradiction)
theorem x_put (top : Bool) (o : Expr) (name : Str) (q : Pos) (e : Expr) : ex S (n + 1) top sc (.Assign [.Attribute o name q] e p) m σ = if notComp e = false then none else (ev S n sc e m σ).bind (kXp S n sc o name m) := by rw [ex] <;> first | rfl | (intros; contradiction)
theorem x_aug (top : Bool) (x : Str) (q : Pos) (op : Operator) (e : Expr) : ex S (n + 1) top sc (.AugAssign (.Name x q) op e p) m σ = if sc.names.lookup x = some .local then (m x).bind (kXa1 S n sc x op e m σ) else none := by rw [ex] <;> first | rfl | (intros; contradiction)
theorem x_augf (top : Bool) (o : Expr) (name : Str) (q : Pos) (op : Operator) (e : Expr) : ex S (n + 1) top sc (.AugAssign (.Attribute o name q) op e p) m σ = (ev S n sc o m σ).bind (kXg S n sc name op e m) := by rw [ex] <;> first | rfl | (intros; contradiction)
theorem x_if (top : Bool) (t : Expr) (b o : List Stmt) : ex S (n + 1) top sc (.If t b o p) m σ = (test S n sc t m σ).bind (kXi S n top sc b o m) := by rw [ex] <;> first | rfl | (intros; contradiction)
theorem x_while (top : Bool) (t : Expr) (b : List Stmt) : ex S (n + 1) top sc (.While t b [] p) m σ = whil S n sc t b m σ := by rw [ex] <;> first | rfl | (intros; contradiction)
theorem x_range (top : Bool) (x r : Str) (q q1 q2 : Pos) (args : List Expr) (b : List Stmt) : ex S (n + 1) top sc (.For (.Name x q) (.Call (.Name r q1) args [] q2) b [] p) m σ = if sc.names.lookup x = some .local ∧ sc.names.lookup r = some .globalImplicit ∧ (r == ("__debug__" : Str)) = false ∧ (args.all notStar) = true ∧ globIn S r = some (.type "range") then (evs S n sc args m σ).bind (kXf S n sc x b m) else none := by rw [ex] <;> first | rfl | (intros; contradiction)
theorem x_for (top : Bool) (x y : Str) (q q1 : Pos) (b : List Stmt) : ex S (n + 1) top sc (.For (.Name x q) (.Name y q1) b [] p) m σ = if sc.names.lookup x = some .local then (ev S n sc (.Name y q1) m σ).bind (kXF S n sc x b m) else none := by rw [ex] <;> first | rfl | (intros; contradiction)
theorem x_fors (top : Bool) (x : Str) (y i : Expr) (q q1 : Pos) (b : List Stmt) : ex S (n + 1) top sc (.For (.Name x q) (.Subscript y i q1) b [] p) m σ = if sc.names.lookup x = some .local then (ev S n sc (.Subscript y i q1) m σ).bind (kXF S n sc x b m) else none := by rw [ex] <;> first | rfl | (intros; contradiction)
theorem x_assert (top : Bool) (t : Expr) : ex S (n + 1) top sc (.Assert t none p) m σ = (test S n sc t m σ).bind (kXA m) := by rw [ex] <;> first | rfl | (intros; contradiction)
theorem x_raise (top : Bool) (c : Str) (q q1 : Pos) : ex S (n + 1) top sc (.Raise (some (.Call (.Name c q) [] [] q1)) none p) m σ = if sc.names.lookup c = some .globalImplicit ∧ (c == ("__debug__" : Str)) = false then (match globIn S c, S.exc.lookup c with
        | some (.ref a), some b => if a = b then some (.exc a, m, σ) else none
        | _, _ => none) else none := by rw [ex] <;> first | rfl | (intros; contradiction)
theorem x_try (top : Bool) (c : Str) (q q1 q2 : Pos) (b : List Stmt) : ex S (n + 1) top sc (.Try b [.ExceptHandler (some (.Name c q)) none [.Pass q1] q2] [] [] p) m σ = (exs S n false sc b m σ).bind (kXT S sc c) := by rw [ex] <;> first | rfl | (intros; contradiction)
theorem xs_nil (top : Bool) : exs S (n + 1) top sc [] m σ = some (.next, m, σ) := by rw [exs] <;> first | rfl | (intros; contradiction)
theorem xs_cons (top : Bool) (a : Stmt) (rest : List Stmt) : exs S (n + 1) top sc (a :: rest) m σ = (ex S n top sc a m σ).bind (kSq S n top sc rest) := by rw [exs] <;> first | rfl | (intros; contradiction)
theorem w_step (t : Expr) (b : List Stmt) : whil S (n + 1) sc t b m σ = (test S n sc t m σ).bind (kW1 S n sc t b m) := by rw [whil] <;> first | rfl | (intros; contradiction)
theorem f_nil (x : Str) (b : List Stmt) : fo S (n + 1) sc x b [] m σ = some (.next, m, σ) := by rw [fo] <;> first | rfl | (intros; contradiction)
theorem f_cons (x : Str) (b : List Stmt) (a : At) (l : List At) : fo S (n + 1) sc x b (a :: l) m σ = (exs S n false sc b (m.set x (.at a)) σ).bind (kFo S n sc x b l) := by rw [fo] <;> first | rfl | (intros; contradiction)
theorem e_callM (o : Expr) (name : Str) (ap : Pos) (args : List Expr) : ev S (n + 1) sc (.Call (.Attribute o name ap) args [] p) m σ = if baseOk o = true ∧ args.length < 20 ∧ ap.endLine = p.line ∧ (args.all notStar) = true then (ev S n sc o m σ).bind (kMt S n sc name args m) else none := by rw [ev]; rfl
theorem e_callN (f : Str) (q : Pos) (args : List Expr) : ev S (n + 1) sc (.Call (.Name f q) args [] p) m σ = if sc.names.lookup f = some .globalImplicit ∧ (f == ("__debug__" : Str)) = false ∧ args.length < 20 ∧ (args.all notStar) = true then kG S n sc args m σ (globIn S f) else none := by
  rw [ev]
  congr 1
  generalize globIn S f = g
  rcases g with _ | v
  · rfl
  · cases v with
    | builtin id =>
      by_cases h : id = "isinstance"
      · subst h
        rcases args with _ | ⟨x, _ | ⟨y, _ | ⟨z, w⟩⟩⟩
        · rfl
        · rfl
        · cases y <;> rfl
        · cases y <;> rfl
      · unfold kG
        dsimp only
        rw [if_neg h]
        rcases args with _ | ⟨x, _ | ⟨y, _ | ⟨z, w⟩⟩⟩
        · rfl
        · rfl
        · cases y <;> first | rfl | (dsimp only; rw [if_neg h]; rfl)
        · cases y <;> rfl
    | ref a => rfl
    | _ => rfl
theorem c_call {a : Addr} {vs : List MV} {ps : List Str} {body : List Stmt} {m : Lm} (h : funIn S a = some (ps, body, sc)) (hb : bnd ps vs = some m) : callF S (n + 1) a vs σ = (exs S n false sc body m σ).bind kRet := by
  rw [callF, h, Option.bind_some]
  dsimp only
  rw [hb]; rfl
end
theorem bS {α β : Type} (x : α) (f : α → Option β) : (some x).bind f = f x := (Eq.refl _).trans rfl
theorem mS {α β : Type} (x : α) (f : α → β) : (some x).map f = some (f x) := (Eq.refl _).trans rfl
theorem iT {α : Sort _} (a b : α) : (if True then a else b) = a := if_pos trivial
theorem iF {α : Sort _} (a b : α) : (if False then a else b) = b := if_neg id
theorem lsub (a b : Int) : a - (a - b) = b := by omega
theorem a_set (m : Lm) (x : Str) (v : MV) (y : Str) : m.set x v y = if y = x then some v else m y := (Eq.refl _).trans rfl
section
variable (S : Sta) (σ : Sto)
theorem kXf1 (n : Nat) (sc : Scope) (x : Str) (b : List Stmt) (m : Lm) (k : Int) : kXf S n sc x b m ([.at (.int k)], σ) = if rngOk 0 k then fo S n sc x b ((rangeUp 0 k).map .int) m σ else none := (Eq.refl _).trans rfl
theorem kXf2 (n : Nat) (sc : Scope) (x : Str) (b : List Stmt) (m : Lm) (a k : Int) : kXf S n sc x b m ([.at (.int a), .at (.int k)], σ) = if rngOk a k then fo S n sc x b ((rangeUp a k).map .int) m σ else none := (Eq.refl _).trans rfl
theorem kXf3 (n : Nat) (sc : Scope) (x : Str) (b : List Stmt) (m : Lm) (a k : Int) : kXf S n sc x b m ([.at (.int a), .at (.int k), .at (.int (-1))], σ) = if rngOk a k then fo S n sc x b ((rangeDown a k).map .int) m σ else none := (Eq.refl _).trans rfl
theorem lnS (l : List Nat) : lenOf S σ (.at (.str l)) = if l.length ≤ big then some (l.length : Int) else none := (Eq.refl _).trans rfl
theorem lnL (l : List At) : lenOf S σ (.list l) = if l.length ≤ big then some (l.length : Int) else none := (Eq.refl _).trans rfl
theorem lnM (k : Nat) : lenOf S σ (.ml k) = (σ.ls[k]?).bind fun l => if l.length ≤ big then some (l.length : Int) else none := (Eq.refl _).trans rfl
theorem ixS (l : List Nat) (i : Int) : Ind.index S σ (.at (.str l)) i = (idx l i).map fun c => .at (.str [c]) := (Eq.refl _).trans rfl
theorem ixL (l : List At) (i : Int) : Ind.index S σ (.list l) i = (idx l i).map .at := (Eq.refl _).trans rfl
theorem ixM (k : Nat) (i : Int) : Ind.index S σ (.ml k) i = (σ.ls[k]?).bind fun l => (idx l i).map .at := (Eq.refl _).trans rfl
end
end Ind
set_option maxRecDepth 1000000
set_option maxHeartbeats 4000000
set_option Elab.async false
set_option linter.unusedSimpArgs false
set_option linter.unusedVariables false
namespace Ind01
open PySem PySem.W PySem.Calls PyProof.Rows Ind
noncomputable section
local macro_rules | `(tactic| wide_line with [$ts,*]) => `(tactic| simp only [e_const, e_name, e_attr, e_sub, e_not, e_neg, e_bin, e_cmp, e_and, e_or, e_list, e_tuple, e_cm, i_none, i_some, es_nil, es_cons, an_cons, or_cons, cm_nil, cm_cons, ts_nil, ts_cons, t_not, t_and, t_or, t_cmp, t_name, t_attr, t_call, t_const, ta_nil, ta_cons, x_pass, x_break, x_cont, x_ret, x_expr, x_set, x_tup, x_put, x_aug, x_augf, x_if, x_while, x_range, x_for, x_fors, x_assert, x_raise, x_try, xs_nil, xs_cons, a_kAttr, a_kS3, a_kS2, a_kS1, a_kI2, a_kI1, a_kB2, a_kB1, a_kC2, a_kC1, a_kNot, a_kNeg, a_kLst, a_kTup, a_kLC2, a_kLC, a_kBi, a_kFn, a_kMe, a_kSw, a_kAp, a_kMt, a_kEI, a_kCo, a_kEs, a_kAn2, a_kAn, a_kOr2, a_kOr, a_kCm3, a_kTs, a_kTN, a_kTr, a_kTA, a_kRet, a_kXr, a_kXe, a_kXs, a_kXl, a_kXn, a_kXt, a_kXp2, a_kXp, a_kXa, a_kXa1, a_kXg2, a_kXg1, a_kXg, a_kXi, kXf1, kXf2, kXf3, a_kXF, a_kXA, a_kXT, a_kSq, a_kW2, a_kW1, a_kFo, a_kCm2, a_kCm1, a_kIs, a_kGr, a_kGb, a_kGi, e_callM, e_callN, d_name, d_attr, d_const, d_call, d_list, d_sub, d_bin, a_kSu, bS, mS, Option.bind_none, Option.map_none, List.lookup_cons, ofSb, ofS, String.reduceBEq, String.reduceEq, Ind.compare, baseOk, g_cur, g_c, g_l, g_lb, g_b, g_k, g_im, g_ip, p_cur, p_c, p_l, p_lb, p_b, p_k, p_im, p_ip, iT, fld, setA_of, setL_of, truth, Bool.false_eq_true, iF, List.mem_cons, true_or, or_true, bind_ite', map_ite', ofConst, decide_eq_true_eq, Bool.not_eq_true', decide_eq_false_iff_not, augop, not_true_eq_false, not_false_eq_true, List.cons.injEq, and_true, List.not_mem_nil, or_false, notComp, G_len, lnS, lnL, lnM, ixS, ixL, ixM, builtin1, List.length_cons, List.length_nil, List.all_cons, List.all_nil, notStar, true_and, Bool.and_true, Nat.reduceAdd, Nat.reduceLT, sliceV, binop, arith, a_set, lsub, Nat.reduceLeDiff, ↓reduceIte, Int.reduceEq, Int.reduceLT, Int.reduceLE, Nat.reduceEqDiff, decide_true, decide_false, Bool.not_true, Bool.not_false, small, reduceCtorEq, ne_eq, Bool.true_eq_false, $[$ts:term],*])
theorem cs_nil : (Str.ofString "").cps.toList = [] := by decide +kernel
section
variable (P : Params) (es : Array (Int × Value)) (ep : Nat) (st : SetTable) (r : St) (ls : List (List At))
theorem in_grouping (n : Nat) : callF (SS P es ep st) (n + 20) 63 [.self, .stat (.ref setA)] (r.sto ls) = if r.l ≤ r.c then some (.at (.bool false), r.sto ls) else (idx r.cur r.c).bind fun x => if isV x then some (.at (.bool true), { r with c := r.c + 1 }.sto ls) else some (.at (.bool false), r.sto ls) := by
  rw [c_call (h := F63 P es ep st) (hb := rfl)]
  by_cases hl : r.l ≤ r.c
  · wide_line with [L63, S63, N63, hl]
  · cases hx : idx r.cur r.c with
    | none => wide_line with [L63, S63, N63, hl, hx]
    | some x =>
      by_cases h : isV x
      · have h' := h
        unfold isV at h'
        wide_line with [L63, S63, N63, hl, hx, h, h']
      · have h' := h
        unfold isV at h'
        wide_line with [L63, S63, N63, hl, hx, h, h']
theorem out_grouping (n : Nat) : callF (SS P es ep st) (n + 20) 91 [.self, .stat (.ref setA)] (r.sto ls) = if r.l ≤ r.c then some (.at (.bool false), r.sto ls) else (idx r.cur r.c).bind fun x => if isV x then some (.at (.bool false), r.sto ls) else some (.at (.bool true), { r with c := r.c + 1 }.sto ls) := by
  rw [c_call (h := F91 P es ep st) (hb := rfl)]
  by_cases hl : r.l ≤ r.c
  · wide_line with [L91, S91, N91, hl]
  · cases hx : idx r.cur r.c with
    | none => wide_line with [L91, S91, N91, hl, hx]
    | some x =>
      by_cases h : isV x
      · have h' := h
        unfold isV at h'
        wide_line with [L91, S91, N91, hl, hx, h, h']
      · have h' := h
        unfold isV at h'
        wide_line with [L91, S91, N91, hl, hx, h, h']
theorem set_current (n : Nat) (v : List Nat) (hv : v.length ≤ big) : callF (SS P es ep st) (n + 20) 42 [.self, .at (.str v)] (r.sto ls) = some (.at .none, { r with cur := v, c := 0, l := v.length, lb := 0, b := 0, k := v.length }.sto ls) := by
  rw [c_call (h := F42 P es ep st) (hb := rfl)]
  wide_line with [L42, S42, N42, hv]
theorem get_current (n : Nat)  : callF (SS P es ep st) (n + 20) 49 [.self] (r.sto ls) = some (.at (.str r.cur), r.sto ls) := by
  rw [c_call (h := F49 P es ep st) (hb := rfl)]
  wide_line with [L49, S49, N49]
theorem replace_s (n : Nat) (b k : Nat) (s : List Nat) (hb : b ≤ 1000) (hk : k ≤ 1000) (hc : r.cur.length ≤ 1000) (hs : s.length ≤ 1000) : callF (SS P es ep st) (n + 20) 147 [.self, .at (.int b), .at (.int k), .at (.str s)] (r.sto ls) = some (.at (.int (s.length - ((k : Int) - b))), { r with cur := r.cur.take b ++ s ++ r.cur.drop k, l := r.l + (s.length - ((k : Int) - b)), c := if (k : Int) ≤ r.c then r.c + (s.length - ((k : Int) - b)) else if (b : Int) < r.c then b else r.c }.sto ls) := by
  rw [c_call (h := F147 P es ep st) (hb := rfl)]
  wide_line with [L147, S147, N147, slc_take, slc_drop]
  have z : big = 100000 := rfl
  rw [if_pos (by omega), if_pos (by omega), if_pos (by rw [List.length_take]; omega), if_pos (by omega), if_pos (by rw [List.length_append, List.length_take, List.length_drop]; omega)]
  split
  · rfl
  · split <;> rfl
theorem slice_from (n : Nat) (b k l : Nat) (s : List Nat) (eb : r.b = b) (ek : r.k = k) (el : r.l = l) (hbk : b ≤ k) (hkl : k ≤ l) (hl : l ≤ r.cur.length) (hc : r.cur.length ≤ 1000) (hs : s.length ≤ 1000) : callF (SS P es ep st) (n + 50) 154 [.self, .at (.str s)] (r.sto ls) = some (.at .none, { r with cur := r.cur.take b ++ s ++ r.cur.drop k, l := l + (s.length - ((k : Int) - b)), c := if (k : Int) ≤ r.c then r.c + (s.length - ((k : Int) - b)) else if (b : Int) < r.c then b else r.c, k := b + s.length }.sto ls) := by
  have z : big = 100000 := rfl
  have R : ∀ N, 20 ≤ N → callF (SS P es ep st) N 147 [.self, .at (.int b), .at (.int k), .at (.str s)] (r.sto ls) = _ := fun N hN => by
    obtain ⟨n, rfl⟩ := Nat.exists_eq_add_of_le' hN
    exact replace_s P es ep st r ls n b k s (by omega) (by omega) hc hs
  have i1 : (0 : Int) ≤ b := by omega
  have i2 : (b : Int) ≤ k := by omega
  have i3 : (k : Int) ≤ l := by omega
  have i4 : (l : Int) ≤ r.cur.length := by omega
  have i5 : r.cur.length ≤ big ∧ s.length ≤ big := by omega
  have i6 := i5.2
  have i5 := i5.1
  rw [c_call (h := F154 P es ep st) (hb := rfl)]
  wide_line with [L154, S154, N154, eb, ek, el, M147, g_replace, R, i1, i2, i3, i4, i5, i6]
theorem slice_del (n : Nat) (b k l : Nat) (eb : r.b = b) (ek : r.k = k) (el : r.l = l) (hbk : b ≤ k) (hkl : k ≤ l) (hl : l ≤ r.cur.length) (hc : r.cur.length ≤ 1000) : callF (SS P es ep st) (n + 60) 161 [.self] (r.sto ls) = some (.at .none, { r with cur := r.cur.take b ++ r.cur.drop k, l := l - ((k : Int) - b), c := if (k : Int) ≤ r.c then r.c - ((k : Int) - b) else if (b : Int) < r.c then b else r.c, k := b }.sto ls) := by
  have R : ∀ N, 50 ≤ N → callF (SS P es ep st) N 154 [.self, .at (.str [])] (r.sto ls) = _ := fun N hN => by
    obtain ⟨n, rfl⟩ := Nat.exists_eq_add_of_le' hN
    exact slice_from P es ep st r ls n b k l [] eb ek el hbk hkl hl hc (by decide)
  rw [c_call (h := F161 P es ep st) (hb := rfl)]
  wide_line with [L161, S161, N161, cs_nil, M154, g_slice_from, R]
  simp [Int.sub_eq_add_neg]
end
def whBody : Stmt → List Stmt
  | .While _ b _ _ => b
  | .For _ _ b _ _ => b
  | _ => []
def W133 : { b : List Stmt // whBody (stAt L133.1 7) = b } := ⟨_, by unfold L133; dsimp only [whBody, stAt]⟩
def I133 : { b : List Stmt // whBody (stAt W133.1 4) = b } := ⟨_, by unfold W133; dsimp only [whBody, stAt]⟩
def cmpF : List Nat → List Nat → Nat → Int × Nat
  | [], _, k => (0, k)
  | _ :: _, [], k => (-1, k)
  | y :: ys, x :: xs, k => if (x : Int) - y ≠ 0 then ((x : Int) - y, k) else cmpF ys xs (k + 1)
theorem rangeUp_cons {a b : Int} (h : a < b) : rangeUp a b = a :: rangeUp (a + 1) b := by
  unfold rangeUp
  have e : (b - a).toNat = (b - (a + 1)).toNat + 1 := by omega
  rw [e, List.range_succ_eq_map, List.map_cons, List.map_map]
  simp only [Function.comp_def]
  congr 1
  · simp
  · apply List.map_congr_left
    intro k _
    push_cast
    omega
theorem rangeUp_nil {a b : Int} (h : b ≤ a) : rangeUp a b = [] := by
  unfold rangeUp
  rw [show (b - a).toNat = 0 by omega]; rfl
section
variable (P : Params) (es : Array (Int × Value)) (ep : Nat) (st : SetTable) (r : St) (ls : List (List At))
theorem G_ord : globIn (SS P es ep st) (Str.ofString "ord") = some (.builtin "ord") := by kernel_rfl
theorem G_min : globIn (SS P es ep st) (Str.ofString "min") = some (.builtin "min") := by kernel_rfl
theorem G_range : globIn (SS P es ep st) (Str.ofString "range") = some (.type "range") := by kernel_rfl
theorem idx_nat {α : Type} {l : List α} {k : Nat} (h : l.length ≤ big) (hk : k < l.length) : idx l (k : Int) = l[k]? := by
  unfold idx
  rw [if_neg (by omega)]
  have : seqIndex? (k : Int) l.length = some k := by
    unfold seqIndex?
    have h1 : ¬ ((k : Int) < 0) := by omega
    simp only [h1, if_false]
    rw [if_pos (by simp; omega)]
    simp
  rw [this]; rfl
theorem inner_step (m : Lm) (n k c l : Nat) (aw : Addr) (ws : Str) (tk : Tok) (hm1 : m (Str.ofString "self") = some .self) (hm2 : m (Str.ofString "c") = some (.at (.int c))) (hm3 : m (Str.ofString "l") = some (.at (.int l)))
    (hm4 : m (Str.ofString "common") = some (.at (.int k))) (hm5 : m (Str.ofString "w") = some (.stat (.ref aw))) (hm6 : m (Str.ofString "i2") = some (.at (.int k)))
    (hw : statAttr (SS P es ep st) aw (Str.ofString "s") = some (.str ws tk)) :
    exs (SS P es ep st) (n + 20) false (fScope (inr 2 14)) I133.1 m (r.sto ls) = if (c : Int) + k = l then some (.brk, m.set (Str.ofString "diff") (.at (.int (-1))), r.sto ls) else
      (idx r.cur ((c : Int) + k)).bind fun x => (idx ws.cps.toList (k : Int)).bind fun y => if (x : Int) - y = 0 then some (.next, (m.set (Str.ofString "diff") (.at (.int ((x : Int) - y)))).set (Str.ofString "common") (.at (.int ((k : Int) + 1))), r.sto ls)
        else some (.brk, m.set (Str.ofString "diff") (.at (.int ((x : Int) - y))), r.sto ls) := by
  by_cases h0 : (c : Int) + k = l
  · rw [if_pos h0]
    wide_line with [I133, S133, N133, G_ord, G_min, hm1, hm2, hm3, hm4, hm5, hm6, hw, ofVal, atEq, h0]
  · rw [if_neg h0]
    cases hx : idx r.cur ((c : Int) + k) with
    | none => wide_line with [I133, S133, N133, G_ord, G_min, hm1, hm2, hm3, hm4, hm5, hm6, hw, ofVal, atEq, h0, hx]
    | some x =>
      cases hy : idx ws.cps.toList (k : Int) with
      | none => wide_line with [I133, S133, N133, G_ord, G_min, hm1, hm2, hm3, hm4, hm5, hm6, hw, ofVal, atEq, h0, hx, hy]
      | some y =>
        by_cases h : (x : Int) - y = 0
        · wide_line with [I133, S133, N133, G_ord, G_min, hm1, hm2, hm3, hm4, hm5, hm6, hw, ofVal, atEq, h0, hx, hy, h, decide_true, Bool.not_true]
        · wide_line with [I133, S133, N133, G_ord, G_min, hm1, hm2, hm3, hm4, hm5, hm6, hw, ofVal, atEq, h0, hx, hy, h, decide_false, Bool.not_false]
end
section
variable (P : Params) (es : Array (Int × Value)) (ep : Nat) (st : SetTable) (r : St) (ls : List (List At))
theorem set_same (m : Lm) (x : Str) (v : MV) : m.set x v x = some v := by simp [Lm.set]
theorem set_ne (m : Lm) {x y : Str} (v : MV) (h : y ≠ x) : m.set x v y = m y := by simp [Lm.set, h]
theorem cmp_loop (c l : Nat) (aw : Addr) (ws : Str) (tk : Tok) (hw : statAttr (SS P es ep st) aw (Str.ofString "s") = some (.str ws tk)) (hlen : r.cur.length = l) (hb1 : r.cur.length ≤ big) (hb2 : ws.cps.toList.length ≤ big) :
    ∀ (ys xs : List Nat) (k n : Nat) (m : Lm), m (Str.ofString "self") = some .self → m (Str.ofString "c") = some (.at (.int c)) → m (Str.ofString "l") = some (.at (.int l)) → m (Str.ofString "common") = some (.at (.int k)) →
      m (Str.ofString "w") = some (.stat (.ref aw)) → m (Str.ofString "diff") = some (.at (.int 0)) → ws.cps.toList.drop k = ys → r.cur.drop (c + k) = xs → c + k ≤ l →
      ∃ m', fo (SS P es ep st) (n + ys.length + 21) (fScope (inr 2 14)) (Str.ofString "i2") I133.1 ((rangeUp k ws.cps.toList.length).map .int) m (r.sto ls) = some (.next, m', r.sto ls) ∧
        m' (Str.ofString "diff") = some (.at (.int (cmpF ys xs k).1)) ∧ m' (Str.ofString "common") = some (.at (.int (cmpF ys xs k).2)) ∧
        ∀ y, y ≠ Str.ofString "i2" → y ≠ Str.ofString "diff" → y ≠ Str.ofString "common" → m' y = m y := by
  intro ys
  induction ys with
  | nil =>
    intro xs k n m h1 h2 h3 h4 h5 h6 hy hx hc
    have : ws.cps.toList.length ≤ k := List.drop_eq_nil_iff.mp hy
    rw [rangeUp_nil (by omega)]
    exact ⟨m, rfl, h6, h4, fun _ _ _ _ => rfl⟩
  | cons y ys ih =>
    intro xs k n m h1 h2 h3 h4 h5 h6 hy hx hc
    have hlt : k < ws.cps.toList.length := by
      rcases Nat.lt_or_ge k ws.cps.toList.length with h | h
      · exact h
      · rw [List.drop_eq_nil_of_le h] at hy; cases hy
    have hyk : ws.cps.toList[k]? = some y := by
      have := congrArg (fun z : List Nat => z[0]?) hy
      simpa using this
    have hys : ws.cps.toList.drop (k + 1) = ys := by
      have e1 : ws.cps.toList.drop (k + 1) = (ws.cps.toList.drop k).drop 1 := by rw [List.drop_drop]
      rw [e1, hy]; rfl
    rw [rangeUp_cons (by omega), List.map_cons]
    have e : n + (y :: ys).length + 21 = (n + ys.length + 1 + 20) + 1 := by simp; omega
    rw [e, fo]
    have ne : ∀ {a b : String}, a ≠ b → Str.ofString a ≠ Str.ofString b := fun h => by rw [ne_eq, ofS]; exact h
    rw [inner_step P es ep st r ls (m.set (Str.ofString "i2") (.at (.int k))) (n + ys.length + 1) k c l aw ws tk (by rw [set_ne _ _ (ne (by decide))]; exact h1) (by rw [set_ne _ _ (ne (by decide))]; exact h2) (by rw [set_ne _ _ (ne (by decide))]; exact h3)
      (by rw [set_ne _ _ (ne (by decide))]; exact h4) (by rw [set_ne _ _ (ne (by decide))]; exact h5) (set_same _ _ _) hw]
    cases xs with
    | nil =>
      have : l ≤ c + k := by rw [← hlen]; exact List.drop_eq_nil_iff.mp hx
      rw [if_pos (by omega)]
      exact ⟨_, rfl, by rw [set_same]; rfl, by rw [set_ne _ _ (ne (by decide)), set_ne _ _ (ne (by decide))]; exact h4, fun z a b _ => by rw [set_ne _ _ b, set_ne _ _ a]⟩
    | cons x xs =>
      have hcl : c + k < r.cur.length := by
        rcases Nat.lt_or_ge (c + k) r.cur.length with h | h
        · exact h
        · rw [List.drop_eq_nil_of_le h] at hx; cases hx
      have hxk : r.cur[c + k]? = some x := by
        have := congrArg (fun z : List Nat => z[0]?) hx
        simpa using this
      have hxs : r.cur.drop (c + (k + 1)) = xs := by
        have e1 : r.cur.drop (c + (k + 1)) = (r.cur.drop (c + k)).drop 1 := by rw [List.drop_drop]; rfl
        rw [e1, hx]; rfl
      rw [if_neg (by omega), show ((c : Int) + k) = ((c + k : Nat) : Int) by omega, idx_nat hb1 hcl, hxk, Option.bind_some, idx_nat hb2 hlt, hyk, Option.bind_some]
      unfold cmpF
      by_cases hd : (x : Int) - y = 0
      · rw [if_pos hd, Option.bind_some]
        have hd' : ¬ ((x : Int) - y ≠ 0) := fun z => z hd
        rw [if_neg hd']
        dsimp only
        obtain ⟨m', e1, e2, e3, e4⟩ := ih xs (k + 1) n (((m.set (Str.ofString "i2") (.at (.int k))).set (Str.ofString "diff") (.at (.int ((x : Int) - y)))).set (Str.ofString "common") (.at (.int ((k : Int) + 1))))
          (by rw [set_ne _ _ (ne (by decide)), set_ne _ _ (ne (by decide)), set_ne _ _ (ne (by decide))]; exact h1)
          (by rw [set_ne _ _ (ne (by decide)), set_ne _ _ (ne (by decide)), set_ne _ _ (ne (by decide))]; exact h2)
          (by rw [set_ne _ _ (ne (by decide)), set_ne _ _ (ne (by decide)), set_ne _ _ (ne (by decide))]; exact h3)
          (by rw [set_same]; rfl)
          (by rw [set_ne _ _ (ne (by decide)), set_ne _ _ (ne (by decide)), set_ne _ _ (ne (by decide))]; exact h5)
          (by rw [set_ne _ _ (ne (by decide)), set_same, hd]) hys hxs (by omega)
        refine ⟨m', ?_, e2, e3, fun z a b d => by rw [e4 z a b d, set_ne _ _ d, set_ne _ _ b, set_ne _ _ a]⟩
        rw [show n + ys.length + 1 + 20 = n + ys.length + 21 by omega]
        exact e1
      · rw [if_neg hd, Option.bind_some, if_pos hd]
        exact ⟨_, rfl, by rw [set_same], by rw [set_ne _ _ (ne (by decide)), set_ne _ _ (ne (by decide))]; exact h4, fun z a b _ => by rw [set_ne _ _ b, set_ne _ _ a]⟩
end
theorem exs_next {S : Sta} {n : Nat} {top : Bool} {sc : Scope} {s : Stmt} {rest : List Stmt} {m m' : Lm} {σ σ' : Sto} (h : ex S n top sc s m σ = some (.next, m', σ')) : exs S (n + 1) top sc (s :: rest) m σ = exs S n top sc rest m' σ' := by
  rw [exs, h]; rfl
theorem exs_nil {S : Sta} {n : Nat} {top : Bool} {sc : Scope} {m : Lm} {σ : Sto} : exs S (n + 1) top sc [] m σ = some (.next, m, σ) := by rw [exs]
theorem exs_ret {S : Sta} {n : Nat} {top : Bool} {sc : Scope} {s : Stmt} {rest : List Stmt} {m m' : Lm} {σ σ' : Sto} {v : MV} (h : ex S n top sc s m σ = some (.ret v, m', σ')) : exs S (n + 1) top sc (s :: rest) m σ = some (.ret v, m', σ') := by
  rw [exs, h]; rfl
theorem exs_brk {S : Sta} {n : Nat} {top : Bool} {sc : Scope} {s : Stmt} {rest : List Stmt} {m m' : Lm} {σ σ' : Sto} (h : ex S n top sc s m σ = some (.brk, m', σ')) : exs S (n + 1) top sc (s :: rest) m σ = some (.brk, m', σ') := by
  rw [exs, h]; rfl
section
variable (P : Params) (es : Array (Int × Value)) (ep : Nat) (st : SetTable) (r : St) (ls : List (List At))
structure FaM (m : Lm) (i j c l ci cj : Nat) (fk : Bool) (tb : Addr) : Prop where
  h1 : m (Str.ofString "self") = some .self
  h2 : m (Str.ofString "c") = some (.at (.int c))
  h3 : m (Str.ofString "l") = some (.at (.int l))
  h4 : m (Str.ofString "i") = some (.at (.int i))
  h5 : m (Str.ofString "j") = some (.at (.int j))
  h6 : m (Str.ofString "common_i") = some (.at (.int ci))
  h7 : m (Str.ofString "common_j") = some (.at (.int cj))
  h8 : m (Str.ofString "v") = some (.stat (.ref tb))
  h9 : m (Str.ofString "first_key_inspected") = some (.at (.bool fk))
def tI (d : Int × Nat) (k i : Nat) : Nat := if d.1 < 0 then i else k
def tJ (d : Int × Nat) (k j : Nat) : Nat := if d.1 < 0 then k else j
theorem turn_a (m : Lm) (n i j c l ci cj k co : Nat) (fk : Bool) (tb aw : Addr) (ws : Str) (tk : Tok) (dc : Int × Nat) (H : FaM m i j c l ci cj fk tb)
   (hij : i ≤ j) (hk : k = i + (j - i) / 2) (hlen : r.cur.length = l) (hb1 : r.cur.length ≤ 1000) (hb2 : ws.cps.toList.length ≤ 10) (hcl : c + ci ≤ l)
   (hv : Ind.index (SS P es ep st) (r.sto ls) (.stat (.ref tb)) (k : Int) = some (.stat (.ref aw))) (hw : statAttr (SS P es ep st) aw (Str.ofString "s") = some (.str ws tk))
   (hco : min ci cj = co) (hdc : cmpF (ws.cps.toList.drop co) (r.cur.drop (c + co)) co = dc) :
   (tJ dc k j ≤ 1 + tI dc k i ∧ (0 < tI dc k i ∨ tJ dc k j = tI dc k i ∨ fk = true) → ∃ m', exs (SS P es ep st) (n + 60) false (fScope (inr 2 14)) W133.1 m (r.sto ls) = some (.brk, m', r.sto ls) ∧ FaM m' (tI dc k i) (tJ dc k j) c l (tI dc dc.2 ci) (tJ dc dc.2 cj) fk tb) ∧
   (¬ (tJ dc k j ≤ 1 + tI dc k i ∧ (0 < tI dc k i ∨ tJ dc k j = tI dc k i ∨ fk = true)) → ∃ m', exs (SS P es ep st) (n + 60) false (fScope (inr 2 14)) W133.1 m (r.sto ls) = some (.next, m', r.sto ls) ∧ FaM m' (tI dc k i) (tJ dc k j) c l (tI dc dc.2 ci) (tJ dc dc.2 cj) (fk || decide (tJ dc k j ≤ 1 + tI dc k i)) tb) := by
  obtain ⟨h1, h2, h3, h4, h5, h6, h7, h8, h9⟩ := H
  have hij' : (0 : Int) ≤ j - i := by omega
  have hk' : (i + Int.fdiv ((j : Int) - i) 2) = (k : Int) := by rw [Int.fdiv_eq_ediv_of_nonneg _ (by omega)]; omega
  unfold W133
  dsimp only
  rw [exs_next (m' := m.set (Str.ofString "k") (.at (.int (k : Int)))) (σ' := r.sto ls) (by wide_line with [S133, N133, G_ord, G_min, G_range, h4, h5, hij', and_self, hk'])]
  rw [exs_next (m' := (m.set (Str.ofString "k") (.at (.int (k : Int)))).set (Str.ofString "diff") (.at (.int 0))) (σ' := r.sto ls) (by wide_line with [S133, N133, G_ord, G_min, G_range])]
  generalize hm2 : (m.set (Str.ofString "k") (.at (.int (k : Int)))).set (Str.ofString "diff") (.at (.int 0)) = m2
  have g6 : m2 (Str.ofString "common_i") = some (.at (.int ci)) := by rw [← hm2]; simp [Lm.set, ofS, h6]
  have g7 : m2 (Str.ofString "common_j") = some (.at (.int cj)) := by rw [← hm2]; simp [Lm.set, ofS, h7]
  have g8 : m2 (Str.ofString "v") = some (.stat (.ref tb)) := by rw [← hm2]; simp [Lm.set, ofS, h8]
  have gk : m2 (Str.ofString "k") = some (.at (.int (k : Int))) := by rw [← hm2]; simp [Lm.set, ofS]
  rw [exs_next (m' := m2.set (Str.ofString "common") (.at (.int (if (cj : Int) < ci then cj else ci)))) (σ' := r.sto ls) (by wide_line with [S133, N133, G_ord, G_min, G_range, g6, g7])]
  rw [exs_next (m' := (m2.set (Str.ofString "common") (.at (.int (if (cj : Int) < ci then cj else ci)))).set (Str.ofString "w") (.stat (.ref aw))) (σ' := r.sto ls) (by wide_line with [S133, N133, G_ord, G_min, G_range, g8, gk, hv])]
  have zb : big = 100000 := rfl
  have eco : (if (cj : Int) < ci then (cj : Int) else ci) = (co : Int) := by rw [← hco]; split <;> omega
  have lco : co ≤ ci := by rw [← hco]; omega
  rw [eco]
  generalize hm3 : (m2.set (Str.ofString "common") (.at (.int (co : Int)))).set (Str.ofString "w") (.stat (.ref aw)) = m3
  have k1 : m3 (Str.ofString "self") = some .self := by rw [← hm3, ← hm2]; simp [Lm.set, ofS, h1]
  have k2 : m3 (Str.ofString "c") = some (.at (.int c)) := by rw [← hm3, ← hm2]; simp [Lm.set, ofS, h2]
  have k3 : m3 (Str.ofString "l") = some (.at (.int l)) := by rw [← hm3, ← hm2]; simp [Lm.set, ofS, h3]
  have k4 : m3 (Str.ofString "common") = some (.at (.int co)) := by rw [← hm3]; simp [Lm.set, ofS]
  have k5 : m3 (Str.ofString "w") = some (.stat (.ref aw)) := by rw [← hm3]; simp [Lm.set, ofS]
  have k6 : m3 (Str.ofString "diff") = some (.at (.int 0)) := by rw [← hm3, ← hm2]; simp [Lm.set, ofS]
  obtain ⟨N, hN⟩ : ∃ N, n + 54 = N + (ws.cps.toList.drop co).length + 21 := ⟨n + 54 - 21 - (ws.cps.toList.drop co).length, by rw [List.length_drop]; omega⟩
  obtain ⟨m4, e1, e2, e3, e4⟩ := cmp_loop P es ep st r ls c l aw ws tk hw hlen (by omega) (by omega) (ws.cps.toList.drop co) (r.cur.drop (c + co)) co N m3 k1 k2 k3 k4 k5 k6 rfl rfl (by omega)
  rw [← hN] at e1
  unfold I133 at e1
  dsimp only at e1
  have hr : rngOk (co : Int) (ws.cps.toList.length : Int) = true := by unfold rngOk; exact decide_eq_true ⟨by omega, by omega⟩
  rw [exs_next (m' := m4) (σ' := r.sto ls) (by wide_line with [S133, N133, G_ord, G_min, G_range, k4, k5, hw, ofVal, if_pos (show ws.cps.toList.length ≤ big by omega), hr, e1])]
  have nn : ∀ {a b : String}, a ≠ b → Str.ofString a ≠ Str.ofString b := fun h => by rw [ne_eq, ofS]; exact h
  have q1 : m4 (Str.ofString "self") = some .self := by rw [e4 _ (nn (by decide)) (nn (by decide)) (nn (by decide)), k1]
  have q2 : m4 (Str.ofString "c") = some (.at (.int c)) := by rw [e4 _ (nn (by decide)) (nn (by decide)) (nn (by decide)), k2]
  have q3 : m4 (Str.ofString "l") = some (.at (.int l)) := by rw [e4 _ (nn (by decide)) (nn (by decide)) (nn (by decide)), k3]
  have q4 : m4 (Str.ofString "i") = some (.at (.int i)) := by rw [e4 _ (nn (by decide)) (nn (by decide)) (nn (by decide)), ← hm3, ← hm2]; simp [Lm.set, ofS, h4]
  have q5 : m4 (Str.ofString "j") = some (.at (.int j)) := by rw [e4 _ (nn (by decide)) (nn (by decide)) (nn (by decide)), ← hm3, ← hm2]; simp [Lm.set, ofS, h5]
  have q6 : m4 (Str.ofString "common_i") = some (.at (.int ci)) := by rw [e4 _ (nn (by decide)) (nn (by decide)) (nn (by decide)), ← hm3, ← hm2]; simp [Lm.set, ofS, h6]
  have q7 : m4 (Str.ofString "common_j") = some (.at (.int cj)) := by rw [e4 _ (nn (by decide)) (nn (by decide)) (nn (by decide)), ← hm3, ← hm2]; simp [Lm.set, ofS, h7]
  have q8 : m4 (Str.ofString "v") = some (.stat (.ref tb)) := by rw [e4 _ (nn (by decide)) (nn (by decide)) (nn (by decide)), ← hm3, ← hm2]; simp [Lm.set, ofS, h8]
  have q9 : m4 (Str.ofString "first_key_inspected") = some (.at (.bool fk)) := by rw [e4 _ (nn (by decide)) (nn (by decide)) (nn (by decide)), ← hm3, ← hm2]; simp [Lm.set, ofS, h9]
  have q10 : m4 (Str.ofString "k") = some (.at (.int k)) := by rw [e4 _ (nn (by decide)) (nn (by decide)) (nn (by decide)), ← hm3, ← hm2]; simp [Lm.set, ofS]
  rw [hdc] at e2 e3
  obtain ⟨m5, e5, K⟩ : ∃ m5, (∀ rest, exs (SS P es ep st) (n + 55) false (fScope (inr 2 14)) (stAt W133.1 5 :: rest) m4 (r.sto ls) = exs (SS P es ep st) (n + 54) false (fScope (inr 2 14)) rest m5 (r.sto ls)) ∧ FaM m5 (tI dc k i) (tJ dc k j) c l (tI dc dc.2 ci) (tJ dc dc.2 cj) fk tb := by
    by_cases hneg : dc.1 < 0
    · refine ⟨(m4.set (Str.ofString "j") (.at (.int k))).set (Str.ofString "common_j") (.at (.int dc.2)), fun rest => exs_next ?_, ?_⟩
      · wide_line with [W133, stAt, S133, N133, q10, e2, e3, hneg]
      · unfold tI tJ
        rw [if_pos hneg, if_pos hneg, if_pos hneg, if_pos hneg]
        constructor <;> simp [Lm.set, ofS, q1, q2, q3, q4, q5, q6, q7, q8, q9, q10]
    · refine ⟨(m4.set (Str.ofString "i") (.at (.int k))).set (Str.ofString "common_i") (.at (.int dc.2)), fun rest => exs_next ?_, ?_⟩
      · wide_line with [W133, stAt, S133, N133, q10, e2, e3, hneg]
      · unfold tI tJ
        rw [if_neg hneg, if_neg hneg, if_neg hneg, if_neg hneg]
        constructor <;> simp [Lm.set, ofS, q1, q2, q3, q4, q5, q6, q7, q8, q9, q10]
  have e5' := e5
  unfold W133 at e5'
  dsimp only [stAt] at e5'
  rw [e5']
  generalize tI dc k i = i' at K ⊢
  generalize tJ dc k j = j' at K ⊢
  obtain ⟨h1, h2, h3, h4, h5, h6, h7, h8, h9⟩ := K
  have H5 : FaM m5 i' j' c l (tI dc dc.2 ci) (tJ dc dc.2 cj) fk tb := ⟨h1, h2, h3, h4, h5, h6, h7, h8, h9⟩
  have c1e : ((j' : Int) - i' ≤ 1) = (j' ≤ 1 + i') := propext ⟨fun h => by omega, fun h => by omega⟩
  have c2e : ((0 : Int) < i') = (0 < i') := propext ⟨fun h => by omega, fun h => by omega⟩
  have c3e : ((j' : Int) = i') = (j' = i') := propext ⟨fun h => by omega, fun h => by omega⟩
  by_cases c1 : j' ≤ 1 + i'
  · by_cases c2 : 0 < i'
    · refine ⟨fun _ => ⟨m5, ?_, H5⟩, fun q => absurd ⟨c1, .inl c2⟩ q⟩
      wide_line with [W133, stAt, S133, N133, h4, h5, c1e, c2e, c1, c2]
    · by_cases c3 : j' = i'
      · refine ⟨fun _ => ⟨m5, ?_, H5⟩, fun q => absurd ⟨c1, .inr (.inl c3)⟩ q⟩
        have c1' : i' ≤ 1 + i' := by omega
        have c2' : ¬ 0 < i' := c2
        subst c3
        wide_line with [W133, stAt, S133, N133, h4, h5, c1e, c2e, c3e, c1', c2', atEq]
      · cases fk with
        | true =>
          refine ⟨fun _ => ⟨m5, ?_, H5⟩, fun q => absurd ⟨c1, .inr (.inr rfl)⟩ q⟩
          wide_line with [W133, stAt, S133, N133, h4, h5, h9, c1e, c2e, c3e, c1, c2, c3, atEq]
        | false =>
          refine ⟨fun q => ?_, fun _ => ⟨m5.set (Str.ofString "first_key_inspected") (.at (.bool true)), ?_, ?_⟩⟩
          · rcases q with ⟨_, q | q | q⟩
            · exact absurd q c2
            · exact absurd q c3
            · cases q
          · wide_line with [W133, stAt, S133, N133, h4, h5, h9, c1e, c2e, c3e, c1, c2, c3, atEq]
          · rw [decide_eq_true c1, Bool.or_true]
            constructor <;> simp [Lm.set, ofS, h1, h2, h3, h4, h5, h6, h7, h8]
  · refine ⟨fun q => absurd q.1 c1, fun _ => ⟨m5, ?_, ?_⟩⟩
    · wide_line with [W133, stAt, S133, N133, h4, h5, h9, c1e, c1]
    · rw [decide_eq_false c1, Bool.or_false]; exact H5
end
def whTest : Stmt → Expr
  | .While t _ _ _ => t
  | _ => .Name ⟨#[]⟩ default
abbrev Row := List Nat × Int × Int
def fa1 (T : List Row) (rest : List Nat) : Nat → Nat → Nat → Nat → Nat → Bool → Option (Nat × Nat)
  | 0, _, _, _, _, _ => none
  | f + 1, i, j, ci, cj, fk => (T[i + (j - i) / 2]?).bind fun w =>
    let dc := cmpF (w.1.drop (min ci cj)) (rest.drop (min ci cj)) (min ci cj)
    let k := i + (j - i) / 2
    if tJ dc k j ≤ 1 + tI dc k i ∧ (0 < tI dc k i ∨ tJ dc k j = tI dc k i ∨ fk = true) then some (tI dc k i, tI dc dc.2 ci)
    else fa1 T rest f (tI dc k i) (tJ dc k j) (tI dc dc.2 ci) (tJ dc dc.2 cj) (fk || decide (tJ dc k j ≤ 1 + tI dc k i))
def fa2 (T : List Row) (ci : Nat) : Nat → Nat → Option (Int × Option Nat)
  | 0, _ => none
  | f + 1, i => (T[i]?).bind fun w => if w.1.length ≤ ci then some (w.2.2, some w.1.length) else if w.2.1 < 0 then some (0, none) else fa2 T ci f w.2.1.toNat
def faR (T : List Row) (rest : List Nat) : Option (Int × Option Nat) := (fa1 T rest 8 0 T.length 0 0 false).bind fun x => fa2 T x.2 8 x.1
structure TabOk (S : Sta) (tb : Addr) (T : List Row) : Prop where
  len : ∀ σ, lenOf S σ (.stat (.ref tb)) = some (T.length : Int)
  row : ∀ (k : Nat) (w : Row), T[k]? = some w → ∃ aw ws tk t2 t3, (∀ σ, Ind.index S σ (.stat (.ref tb)) (k : Int) = some (.stat (.ref aw))) ∧ statAttr S aw (Str.ofString "s") = some (.str ws tk) ∧ ws.cps.toList = w.1 ∧
    statAttr S aw (Str.ofString "substring_i") = some (.int w.2.1 t2) ∧ statAttr S aw (Str.ofString "result") = some (.int w.2.2 t3) ∧ w.1.length ≤ 10
theorem cmpF_le : ∀ (ys xs : List Nat) (k : Nat), (cmpF ys xs k).2 ≤ k + xs.length
  | [], xs, k => by unfold cmpF; simp
  | _ :: _, [], k => by unfold cmpF; simp
  | y :: ys, x :: xs, k => by
    unfold cmpF
    split
    · simp
    · have := cmpF_le ys xs (k + 1); simp only [List.length_cons]; omega
theorem drop2 {α : Type} (l : List α) (a b : Nat) : (l.drop a).drop b = l.drop (a + b) := List.drop_drop
section
variable (P : Params) (es : Array (Int × Value)) (ep : Nat) (st : SetTable) (r : St) (ls : List (List At))
theorem loop_a (c l : Nat) (tb : Addr) (T : List Row) (hT : TabOk (SS P es ep st) tb T) (hlen : r.cur.length = l) (hb1 : r.cur.length ≤ 1000) (i1 c1 : Nat) :
    ∀ (f n i j ci cj : Nat) (fk : Bool) (m : Lm), FaM m i j c l ci cj fk tb → i ≤ j → c + ci ≤ l → fa1 T (r.cur.drop c) f i j ci cj fk = some (i1, c1) →
      ∃ m' j' cj' fk', whil (SS P es ep st) (n + f + 61) (fScope (inr 2 14)) (whTest (stAt L133.1 7)) W133.1 m (r.sto ls) = some (.next, m', r.sto ls) ∧ FaM m' i1 j' c l c1 cj' fk' tb := by
  intro f
  induction f with
  | zero => intro n i j ci cj fk m _ _ _ h; cases h
  | succ f ih =>
    intro n i j ci cj fk m H hij hc h
    unfold fa1 at h
    obtain ⟨w, hw, h⟩ := Option.bind_eq_some_iff.mp h
    obtain ⟨aw, ws, tk, t2, t3, a1, a2, a3, a4, a5, a6⟩ := hT.row _ _ hw
    generalize hk : i + (j - i) / 2 = k at *
    generalize hco : min ci cj = co at *
    rw [drop2, ← a3] at h
    generalize hdc : cmpF (ws.cps.toList.drop co) (r.cur.drop (c + co)) co = dc at *
    dsimp only at h
    have lco : co ≤ ci := by omega
    have hle := cmpF_le (ws.cps.toList.drop co) (r.cur.drop (c + co)) co
    rw [hdc, List.length_drop] at hle
    obtain ⟨A, B⟩ := turn_a P es ep st r ls m (n + f + 1) i j c l ci cj k co fk tb aw ws tk dc H hij hk.symm hlen hb1 (by rw [a3]; exact a6) hc (a1 _) a2 hco hdc
    have hst : whil (SS P es ep st) (n + (f + 1) + 61) (fScope (inr 2 14)) (whTest (stAt L133.1 7)) W133.1 m (r.sto ls) = (exs (SS P es ep st) (n + f + 61) false (fScope (inr 2 14)) W133.1 m (r.sto ls)).bind (kW2 (SS P es ep st) (n + f + 61) (fScope (inr 2 14)) (whTest (stAt L133.1 7)) W133.1) := by
      rw [show n + (f + 1) + 61 = (n + f + 61) + 1 by omega, w_step]
      have : test (SS P es ep st) (n + f + 61) (fScope (inr 2 14)) (whTest (stAt L133.1 7)) m (r.sto ls) = some (true, r.sto ls) := by
        wide_line with [L133, whTest, stAt]
      rw [this]; rfl
    rw [hst]
    by_cases q : tJ dc k j ≤ 1 + tI dc k i ∧ (0 < tI dc k i ∨ tJ dc k j = tI dc k i ∨ fk = true)
    · obtain ⟨m', e1, e2⟩ := A q
      rw [if_pos q] at h
      rw [show n + f + 1 + 60 = n + f + 61 by omega] at e1
      rw [e1]
      simp only [Option.some.injEq, Prod.mk.injEq] at h
      rw [h.1, h.2] at e2
      exact ⟨m', _, _, _, rfl, e2⟩
    · obtain ⟨m', e1, e2⟩ := B q
      rw [if_neg q] at h
      rw [show n + f + 1 + 60 = n + f + 61 by omega] at e1
      rw [e1]
      have hij' : tI dc k i ≤ tJ dc k j := by unfold tI tJ; split <;> omega
      have hc' : c + tI dc dc.2 ci ≤ l := by unfold tI; split <;> omega
      obtain ⟨m2, j2, cj2, fk2, e3, e4⟩ := ih n _ _ _ _ _ m' e2 hij' hc' h
      exact ⟨m2, j2, cj2, fk2, e3, e4⟩
def V133 : { b : List Stmt // whBody (stAt L133.1 8) = b } := ⟨_, by unfold L133; dsimp only [whBody, stAt]⟩
def coR (r : St) (c : Nat) : Option Nat → St
  | some k => { r with c := (c : Int) + k }
  | none => r
theorem loop_b (c : Nat) (tb : Addr) (T : List Row) (hT : TabOk (SS P es ep st) tb T) (c1 : Nat) (res : Int) (co : Option Nat) :
    ∀ (f n i : Nat) (m : Lm), m (Str.ofString "self") = some .self → m (Str.ofString "c") = some (.at (.int c)) → m (Str.ofString "i") = some (.at (.int i)) → m (Str.ofString "common_i") = some (.at (.int c1)) → m (Str.ofString "v") = some (.stat (.ref tb)) → fa2 T c1 f i = some (res, co) →
      ∃ m', whil (SS P es ep st) (n + f + 61) (fScope (inr 2 14)) (whTest (stAt L133.1 8)) V133.1 m (r.sto ls) = some (.ret (.at (.int res)), m', (coR r c co).sto ls) := by
  intro f
  induction f with
  | zero => intro n i m _ _ _ _ _ h; cases h
  | succ f ih =>
    intro n i m h1 h2 h3 h4 h5 h
    unfold fa2 at h
    obtain ⟨w, hw, h⟩ := Option.bind_eq_some_iff.mp h
    obtain ⟨aw, ws, tk, t2, t3, a1, a2, a3, a4, a5, a6⟩ := hT.row _ _ hw
    have zb : big = 100000 := rfl
    have lw : ws.cps.toList.length ≤ big := by rw [a3]; omega
    have hst : whil (SS P es ep st) (n + (f + 1) + 61) (fScope (inr 2 14)) (whTest (stAt L133.1 8)) V133.1 m (r.sto ls) = (exs (SS P es ep st) (n + f + 61) false (fScope (inr 2 14)) V133.1 m (r.sto ls)).bind (kW2 (SS P es ep st) (n + f + 61) (fScope (inr 2 14)) (whTest (stAt L133.1 8)) V133.1) := by
      rw [show n + (f + 1) + 61 = (n + f + 61) + 1 by omega, w_step]
      have : test (SS P es ep st) (n + f + 61) (fScope (inr 2 14)) (whTest (stAt L133.1 8)) m (r.sto ls) = some (true, r.sto ls) := by
        wide_line with [L133, whTest, stAt]
      rw [this]; rfl
    rw [hst]
    by_cases q : w.1.length ≤ c1
    · rw [if_pos q] at h
      cases h
      have q' : ((w.1.length : Nat) : Int) ≤ c1 := by omega
      have : ∃ m', exs (SS P es ep st) (n + f + 61) false (fScope (inr 2 14)) V133.1 m (r.sto ls) = some (.ret (.at (.int w.2.2)), m', (coR r c (some w.1.length)).sto ls) := by
        refine ⟨m.set (Str.ofString "w") (.stat (.ref aw)), ?_⟩
        wide_line with [V133, S133, N133, h1, h2, h3, h4, h5, a1, a2, a3, a4, a5, ofVal, coR, q', lw, a3 ▸ lw]
      obtain ⟨m', e⟩ := this
      rw [e]
      exact ⟨m', rfl⟩
    · rw [if_neg q] at h
      have q' : ¬ ((w.1.length : Nat) : Int) ≤ c1 := by omega
      by_cases q2 : w.2.1 < 0
      · rw [if_pos q2] at h
        cases h
        have : ∃ m', exs (SS P es ep st) (n + f + 61) false (fScope (inr 2 14)) V133.1 m (r.sto ls) = some (.ret (.at (.int 0)), m', r.sto ls) := by
          refine ⟨(m.set (Str.ofString "w") (.stat (.ref aw))).set (Str.ofString "i") (.at (.int w.2.1)), ?_⟩
          wide_line with [V133, S133, N133, h1, h2, h3, h4, h5, a1, a2, a3, a4, a5, ofVal, coR, q', lw, a3 ▸ lw, q2]
        obtain ⟨m', e⟩ := this
        rw [e]
        exact ⟨m', rfl⟩
      · rw [if_neg q2] at h
        have : exs (SS P es ep st) (n + f + 61) false (fScope (inr 2 14)) V133.1 m (r.sto ls) = some (.next, (m.set (Str.ofString "w") (.stat (.ref aw))).set (Str.ofString "i") (.at (.int w.2.1)), r.sto ls) := by
          wide_line with [V133, S133, N133, h1, h2, h3, h4, h5, a1, a2, a3, a4, a5, ofVal, coR, q', lw, a3 ▸ lw, q2]
        rw [this]
        have e : ((w.2.1.toNat : Nat) : Int) = w.2.1 := by omega
        obtain ⟨m', e2⟩ := ih n w.2.1.toNat ((m.set (Str.ofString "w") (.stat (.ref aw))).set (Str.ofString "i") (.at (.int w.2.1))) (by simp only [a_set, ofS, String.reduceEq, if_false]; exact h1) (by simp only [a_set, ofS, String.reduceEq, if_false]; exact h2)
          (by rw [e]; simp only [a_set, ofS, String.reduceEq, if_true]) (by simp only [a_set, ofS, String.reduceEq, if_false]; exact h4) (by simp only [a_set, ofS, String.reduceEq, if_false]; exact h5) h
        exact ⟨m', e2⟩
theorem find_among (n c l : Nat) (tb : Addr) (T : List Row) (hT : TabOk (SS P es ep st) tb T) (ec : r.c = c) (el : r.l = l) (hlen : r.cur.length = l) (hcl : c ≤ l) (hb1 : r.cur.length ≤ 1000) (res : Int) (co : Option Nat) (h : faR T (r.cur.drop c) = some (res, co)) :
    callF (SS P es ep st) (n + 90) 133 [.self, .stat (.ref tb)] (r.sto ls) = some (.at (.int res), (coR r c co).sto ls) := by
  rw [c_call (h := F133 P es ep st) (hb := rfl)]
  unfold faR at h
  obtain ⟨⟨i1, c1⟩, hf, h⟩ := Option.bind_eq_some_iff.mp h
  dsimp only at h
  have key : ∀ m, FaM m 0 T.length c l 0 0 false tb → ((whil (SS P es ep st) (n + 80) (fScope (inr 2 14)) (whTest (stAt L133.1 7)) W133.1 m (r.sto ls)).bind (kSq (SS P es ep st) (n + 81) false (fScope (inr 2 14)) (L133.1.drop 8))).bind kRet = some (.at (.int res), (coR r c co).sto ls) := by
    intro m H
    obtain ⟨m1, j1, cj1, fk1, e1, K⟩ := loop_a P es ep st r ls c l tb T hT hlen hb1 i1 c1 8 (n + 11) 0 T.length 0 0 false m H (by omega) (by omega) hf
    rw [show n + 11 + 8 + 61 = n + 80 by omega] at e1
    rw [e1, Option.bind_some, a_kSq]
    obtain ⟨m2, e2⟩ := loop_b P es ep st r ls c tb T hT c1 res co 8 (n + 10) i1 m1 K.h1 K.h2 K.h4 K.h6 K.h8 h
    rw [show n + 10 + 8 + 61 = n + 79 by omega] at e2
    unfold L133 V133 whTest at e2
    dsimp only [stAt] at e2
    wide_line with [L133, List.drop_succ_cons, List.drop_zero, e2]
  unfold L133 W133 at key
  dsimp only [stAt, whTest, List.drop] at key
  wide_line with [S133, N133, L133, ec, el, hT.len]
  refine key _ ?_
  constructor <;> simp [a_set, ofS]
end
def W140 : { b : List Stmt // whBody (stAt L140.1 7) = b } := ⟨_, by unfold L140; dsimp only [whBody, stAt]⟩
def I140 : { b : List Stmt // whBody (stAt W140.1 4) = b } := ⟨_, by unfold W140; dsimp only [whBody, stAt]⟩
theorem rangeDown_cons {a b : Int} (h : b < a) : rangeDown a b = a :: rangeDown (a - 1) b := by
  unfold rangeDown
  have e : (a - b).toNat = (a - 1 - b).toNat + 1 := by omega
  rw [e, List.range_succ_eq_map, List.map_cons, List.map_map]
  simp only [Function.comp_def]
  congr 1
  · simp
  · apply List.map_congr_left
    intro k _
    push_cast
    omega
theorem rangeDown_nil {a b : Int} (h : a ≤ b) : rangeDown a b = [] := by
  unfold rangeDown
  rw [show (a - b).toNat = 0 by omega]; rfl
def rv (w : List Nat) (c lb : Nat) : List Nat := ((w.take c).drop lb).reverse
theorem rv_len {w : List Nat} {c lb : Nat} (h2 : c ≤ w.length) : (rv w c lb).length = c - lb := by
  unfold rv; rw [List.length_reverse, List.length_drop, List.length_take]; omega
theorem rv_get {w : List Nat} {c lb k : Nat} (h2 : c ≤ w.length) (hk : lb + k < c) : (rv w c lb)[k]? = w[c - 1 - k]? := by
  unfold rv
  rw [List.getElem?_reverse (by rw [List.length_drop, List.length_take]; omega), List.getElem?_drop, List.length_drop, List.length_take, List.getElem?_take, if_pos (by omega)]
  congr 1
  omega
section
variable (P : Params) (es : Array (Int × Value)) (ep : Nat) (st : SetTable) (r : St) (ls : List (List At))
theorem inner_step_b (m : Lm) (n k c lb : Nat) (i2 : Int) (aw : Addr) (ws : Str) (tk : Tok) (hm1 : m (Str.ofString "self") = some .self) (hm2 : m (Str.ofString "c") = some (.at (.int c))) (hm3 : m (Str.ofString "lb") = some (.at (.int lb)))
    (hm4 : m (Str.ofString "common") = some (.at (.int k))) (hm5 : m (Str.ofString "w") = some (.stat (.ref aw))) (hm6 : m (Str.ofString "i2") = some (.at (.int i2)))
    (hw : statAttr (SS P es ep st) aw (Str.ofString "s") = some (.str ws tk)) :
    exs (SS P es ep st) (n + 20) false (fScope (inr 2 15)) I140.1 m (r.sto ls) = if (c : Int) - k = lb then some (.brk, m.set (Str.ofString "diff") (.at (.int (-1))), r.sto ls) else
      (idx r.cur ((c : Int) - 1 - k)).bind fun x => (idx ws.cps.toList i2).bind fun y => if (x : Int) - y = 0 then some (.next, (m.set (Str.ofString "diff") (.at (.int ((x : Int) - y)))).set (Str.ofString "common") (.at (.int ((k : Int) + 1))), r.sto ls)
        else some (.brk, m.set (Str.ofString "diff") (.at (.int ((x : Int) - y))), r.sto ls) := by
  by_cases h0 : (c : Int) - k = lb
  · rw [if_pos h0]
    wide_line with [I140, S140, N140, G_ord, G_min, hm1, hm2, hm3, hm4, hm5, hm6, hw, ofVal, atEq, h0]
  · rw [if_neg h0]
    cases hx : idx r.cur ((c : Int) - 1 - k) with
    | none => wide_line with [I140, S140, N140, G_ord, G_min, hm1, hm2, hm3, hm4, hm5, hm6, hw, ofVal, atEq, h0, hx]
    | some x =>
      cases hy : idx ws.cps.toList i2 with
      | none => wide_line with [I140, S140, N140, G_ord, G_min, hm1, hm2, hm3, hm4, hm5, hm6, hw, ofVal, atEq, h0, hx, hy]
      | some y =>
        by_cases h : (x : Int) - y = 0
        · wide_line with [I140, S140, N140, G_ord, G_min, hm1, hm2, hm3, hm4, hm5, hm6, hw, ofVal, atEq, h0, hx, hy, h, decide_true, Bool.not_true]
        · wide_line with [I140, S140, N140, G_ord, G_min, hm1, hm2, hm3, hm4, hm5, hm6, hw, ofVal, atEq, h0, hx, hy, h, decide_false, Bool.not_false]
theorem cmp_loop_b (c lb : Nat) (aw : Addr) (ws : Str) (tk : Tok) (hw : statAttr (SS P es ep st) aw (Str.ofString "s") = some (.str ws tk)) (hlen : c ≤ r.cur.length) (hb1 : r.cur.length ≤ big) (hb2 : ws.cps.toList.length ≤ big) :
    ∀ (ys xs : List Nat) (k n : Nat) (m : Lm), m (Str.ofString "self") = some .self → m (Str.ofString "c") = some (.at (.int c)) → m (Str.ofString "lb") = some (.at (.int lb)) → m (Str.ofString "common") = some (.at (.int k)) →
      m (Str.ofString "w") = some (.stat (.ref aw)) → m (Str.ofString "diff") = some (.at (.int 0)) → ws.cps.toList.reverse.drop k = ys → (rv r.cur c lb).drop k = xs → lb + k ≤ c →
      ∃ m', fo (SS P es ep st) (n + ys.length + 21) (fScope (inr 2 15)) (Str.ofString "i2") I140.1 ((rangeDown (ws.cps.toList.length - 1 - k) (-1)).map .int) m (r.sto ls) = some (.next, m', r.sto ls) ∧
        m' (Str.ofString "diff") = some (.at (.int (cmpF ys xs k).1)) ∧ m' (Str.ofString "common") = some (.at (.int (cmpF ys xs k).2)) ∧
        ∀ y, y ≠ (Str.ofString "i2") → y ≠ (Str.ofString "diff") → y ≠ (Str.ofString "common") → m' y = m y := by
  intro ys
  induction ys with
  | nil =>
    intro xs k n m h1 h2 h3 h4 h5 h6 hy hx hc
    have : ws.cps.toList.length ≤ k := by have := List.drop_eq_nil_iff.mp hy; rwa [List.length_reverse] at this
    rw [rangeDown_nil (by omega)]
    exact ⟨m, rfl, h6, h4, fun _ _ _ _ => rfl⟩
  | cons y ys ih =>
    intro xs k n m h1 h2 h3 h4 h5 h6 hy hx hc
    have hlt : k < ws.cps.toList.length := by
      rcases Nat.lt_or_ge k ws.cps.toList.length with h | h
      · exact h
      · rw [List.drop_eq_nil_of_le (by rw [List.length_reverse]; exact h)] at hy; cases hy
    have hyk : ws.cps.toList[ws.cps.toList.length - 1 - k]? = some y := by
      have := congrArg (fun z : List Nat => z[0]?) hy
      rw [← List.getElem?_reverse hlt]
      simpa using this
    have hys : ws.cps.toList.reverse.drop (k + 1) = ys := by
      rw [← drop2, hy]; rfl
    rw [rangeDown_cons (by omega), List.map_cons]
    have e : n + (y :: ys).length + 21 = (n + ys.length + 1 + 20) + 1 := by simp; omega
    rw [e, fo]
    have ne : ∀ {a b : String}, a ≠ b → Str.ofString a ≠ Str.ofString b := fun h => by rw [ne_eq, ofS]; exact h
    rw [inner_step_b P es ep st r ls (m.set (Str.ofString "i2") (.at (.int (ws.cps.toList.length - 1 - k)))) (n + ys.length + 1) k c lb _ aw ws tk (by rw [set_ne _ _ (ne (by decide))]; exact h1) (by rw [set_ne _ _ (ne (by decide))]; exact h2) (by rw [set_ne _ _ (ne (by decide))]; exact h3)
      (by rw [set_ne _ _ (ne (by decide))]; exact h4) (by rw [set_ne _ _ (ne (by decide))]; exact h5) (set_same _ _ _) hw]
    cases xs with
    | nil =>
      have : c - lb ≤ k := by rw [← rv_len (lb := lb) hlen]; exact List.drop_eq_nil_iff.mp hx
      rw [if_pos (by omega)]
      exact ⟨_, rfl, by rw [set_same]; rfl, by rw [set_ne _ _ (ne (by decide)), set_ne _ _ (ne (by decide))]; exact h4, fun z a b _ => by rw [set_ne _ _ b, set_ne _ _ a]⟩
    | cons x xs =>
      have hcl : lb + k < c := by
        rcases Nat.lt_or_ge (lb + k) c with h | h
        · exact h
        · rw [List.drop_eq_nil_of_le (by rw [rv_len hlen]; omega)] at hx; cases hx
      have hxk : r.cur[c - 1 - k]? = some x := by
        have := congrArg (fun z : List Nat => z[0]?) hx
        rw [← rv_get hlen hcl]
        simpa using this
      have hxs : (rv r.cur c lb).drop (k + 1) = xs := by
        rw [← drop2, hx]; rfl
      rw [if_neg (by omega), show ((c : Int) - 1 - k) = ((c - 1 - k : Nat) : Int) by omega, idx_nat hb1 (by omega), hxk, Option.bind_some, show ((ws.cps.toList.length : Int) - 1 - k) = ((ws.cps.toList.length - 1 - k : Nat) : Int) by omega, idx_nat hb2 (by omega), hyk, Option.bind_some]
      unfold cmpF
      by_cases hd : (x : Int) - y = 0
      · rw [if_pos hd, Option.bind_some]
        have hd' : ¬ ((x : Int) - y ≠ 0) := fun z => z hd
        rw [if_neg hd']
        dsimp only
        obtain ⟨m', e1, e2, e3, e4⟩ := ih xs (k + 1) n (((m.set (Str.ofString "i2") (.at (.int ((ws.cps.toList.length - 1 - k : Nat) : Int)))).set (Str.ofString "diff") (.at (.int ((x : Int) - y)))).set (Str.ofString "common") (.at (.int ((k : Int) + 1))))
          (by rw [set_ne _ _ (ne (by decide)), set_ne _ _ (ne (by decide)), set_ne _ _ (ne (by decide))]; exact h1)
          (by rw [set_ne _ _ (ne (by decide)), set_ne _ _ (ne (by decide)), set_ne _ _ (ne (by decide))]; exact h2)
          (by rw [set_ne _ _ (ne (by decide)), set_ne _ _ (ne (by decide)), set_ne _ _ (ne (by decide))]; exact h3)
          (by rw [set_same]; rfl)
          (by rw [set_ne _ _ (ne (by decide)), set_ne _ _ (ne (by decide)), set_ne _ _ (ne (by decide))]; exact h5)
          (by rw [set_ne _ _ (ne (by decide)), set_same, hd]) hys hxs (by omega)
        refine ⟨m', ?_, e2, e3, fun z a b d => by rw [e4 z a b d, set_ne _ _ d, set_ne _ _ b, set_ne _ _ a]⟩
        rw [show n + ys.length + 1 + 20 = n + ys.length + 21 by omega]
        rw [show ((ws.cps.toList.length - 1 - k : Nat) : Int) - 1 = (ws.cps.toList.length : Int) - 1 - ((k + 1 : Nat) : Int) by omega]
        exact e1
      · rw [if_neg hd, Option.bind_some, if_pos hd]
        exact ⟨_, rfl, by rw [set_same], by rw [set_ne _ _ (ne (by decide)), set_ne _ _ (ne (by decide))]; exact h4, fun z a b _ => by rw [set_ne _ _ b, set_ne _ _ a]⟩
structure FbM (m : Lm) (i j c lb ci cj : Nat) (fk : Bool) (tb : Addr) : Prop where
  h1 : m (Str.ofString "self") = some .self
  h2 : m (Str.ofString "c") = some (.at (.int c))
  h3 : m (Str.ofString "lb") = some (.at (.int lb))
  h4 : m (Str.ofString "i") = some (.at (.int i))
  h5 : m (Str.ofString "j") = some (.at (.int j))
  h6 : m (Str.ofString "common_i") = some (.at (.int ci))
  h7 : m (Str.ofString "common_j") = some (.at (.int cj))
  h8 : m (Str.ofString "v") = some (.stat (.ref tb))
  h9 : m (Str.ofString "first_key_inspected") = some (.at (.bool fk))
theorem turn_b (m : Lm) (n i j c lb ci cj k co : Nat) (fk : Bool) (tb aw : Addr) (ws : Str) (tk : Tok) (dc : Int × Nat) (H : FbM m i j c lb ci cj fk tb)
   (hij : i ≤ j) (hk : k = i + (j - i) / 2) (hlen : c ≤ r.cur.length) (hb1 : r.cur.length ≤ 1000) (hb2 : ws.cps.toList.length ≤ 10) (hcl : lb + ci ≤ c)
   (hv : Ind.index (SS P es ep st) (r.sto ls) (.stat (.ref tb)) (k : Int) = some (.stat (.ref aw))) (hw : statAttr (SS P es ep st) aw (Str.ofString "s") = some (.str ws tk))
   (hco : min ci cj = co) (hdc : cmpF (ws.cps.toList.reverse.drop co) ((rv r.cur c lb).drop co) co = dc) :
   (tJ dc k j ≤ 1 + tI dc k i ∧ (0 < tI dc k i ∨ tJ dc k j = tI dc k i ∨ fk = true) → ∃ m', exs (SS P es ep st) (n + 60) false (fScope (inr 2 15)) W140.1 m (r.sto ls) = some (.brk, m', r.sto ls) ∧ FbM m' (tI dc k i) (tJ dc k j) c lb (tI dc dc.2 ci) (tJ dc dc.2 cj) fk tb) ∧
   (¬ (tJ dc k j ≤ 1 + tI dc k i ∧ (0 < tI dc k i ∨ tJ dc k j = tI dc k i ∨ fk = true)) → ∃ m', exs (SS P es ep st) (n + 60) false (fScope (inr 2 15)) W140.1 m (r.sto ls) = some (.next, m', r.sto ls) ∧ FbM m' (tI dc k i) (tJ dc k j) c lb (tI dc dc.2 ci) (tJ dc dc.2 cj) (fk || decide (tJ dc k j ≤ 1 + tI dc k i)) tb) := by
  obtain ⟨h1, h2, h3, h4, h5, h6, h7, h8, h9⟩ := H
  have hij' : (0 : Int) ≤ j - i := by omega
  have hk' : (i + Int.fdiv ((j : Int) - i) 2) = (k : Int) := by rw [Int.fdiv_eq_ediv_of_nonneg _ (by omega)]; omega
  unfold W140
  dsimp only
  rw [exs_next (m' := m.set (Str.ofString "k") (.at (.int (k : Int)))) (σ' := r.sto ls) (by wide_line with [S140, N140, G_ord, G_min, G_range, h4, h5, hij', and_self, hk'])]
  rw [exs_next (m' := (m.set (Str.ofString "k") (.at (.int (k : Int)))).set (Str.ofString "diff") (.at (.int 0))) (σ' := r.sto ls) (by wide_line with [S140, N140, G_ord, G_min, G_range])]
  generalize hm2 : (m.set (Str.ofString "k") (.at (.int (k : Int)))).set (Str.ofString "diff") (.at (.int 0)) = m2
  have g6 : m2 (Str.ofString "common_i") = some (.at (.int ci)) := by rw [← hm2]; simp [Lm.set, ofS, h6]
  have g7 : m2 (Str.ofString "common_j") = some (.at (.int cj)) := by rw [← hm2]; simp [Lm.set, ofS, h7]
  have g8 : m2 (Str.ofString "v") = some (.stat (.ref tb)) := by rw [← hm2]; simp [Lm.set, ofS, h8]
  have gk : m2 (Str.ofString "k") = some (.at (.int (k : Int))) := by rw [← hm2]; simp [Lm.set, ofS]
  rw [exs_next (m' := m2.set (Str.ofString "common") (.at (.int (if (cj : Int) < ci then cj else ci)))) (σ' := r.sto ls) (by wide_line with [S140, N140, G_ord, G_min, G_range, g6, g7])]
  rw [exs_next (m' := (m2.set (Str.ofString "common") (.at (.int (if (cj : Int) < ci then cj else ci)))).set (Str.ofString "w") (.stat (.ref aw))) (σ' := r.sto ls) (by wide_line with [S140, N140, G_ord, G_min, G_range, g8, gk, hv])]
  have zb : big = 100000 := rfl
  have eco : (if (cj : Int) < ci then (cj : Int) else ci) = (co : Int) := by rw [← hco]; split <;> omega
  have lco : co ≤ ci := by rw [← hco]; omega
  rw [eco]
  generalize hm3 : (m2.set (Str.ofString "common") (.at (.int (co : Int)))).set (Str.ofString "w") (.stat (.ref aw)) = m3
  have k1 : m3 (Str.ofString "self") = some .self := by rw [← hm3, ← hm2]; simp [Lm.set, ofS, h1]
  have k2 : m3 (Str.ofString "c") = some (.at (.int c)) := by rw [← hm3, ← hm2]; simp [Lm.set, ofS, h2]
  have k3 : m3 (Str.ofString "lb") = some (.at (.int lb)) := by rw [← hm3, ← hm2]; simp [Lm.set, ofS, h3]
  have k4 : m3 (Str.ofString "common") = some (.at (.int co)) := by rw [← hm3]; simp [Lm.set, ofS]
  have k5 : m3 (Str.ofString "w") = some (.stat (.ref aw)) := by rw [← hm3]; simp [Lm.set, ofS]
  have k6 : m3 (Str.ofString "diff") = some (.at (.int 0)) := by rw [← hm3, ← hm2]; simp [Lm.set, ofS]
  obtain ⟨N, hN⟩ : ∃ N, n + 54 = N + (ws.cps.toList.reverse.drop co).length + 21 := ⟨n + 54 - 21 - (ws.cps.toList.reverse.drop co).length, by rw [List.length_drop, List.length_reverse]; omega⟩
  obtain ⟨m4, e1, e2, e3, e4⟩ := cmp_loop_b P es ep st r ls c lb aw ws tk hw hlen (by omega) (by omega) (ws.cps.toList.reverse.drop co) ((rv r.cur c lb).drop co) co N m3 k1 k2 k3 k4 k5 k6 rfl rfl (by omega)
  rw [← hN] at e1
  unfold I140 at e1
  dsimp only at e1
  have hr : rngOk ((ws.cps.toList.length : Int) - 1 - co) (-1) = true := by unfold rngOk; exact decide_eq_true ⟨by omega, by omega⟩
  rw [exs_next (m' := m4) (σ' := r.sto ls) (by wide_line with [S140, N140, G_ord, G_min, G_range, k4, k5, hw, ofVal, if_pos (show ws.cps.toList.length ≤ big by omega), hr, e1])]
  have nn : ∀ {a b : String}, a ≠ b → Str.ofString a ≠ Str.ofString b := fun h => by rw [ne_eq, ofS]; exact h
  have q1 : m4 (Str.ofString "self") = some .self := by rw [e4 _ (nn (by decide)) (nn (by decide)) (nn (by decide)), k1]
  have q2 : m4 (Str.ofString "c") = some (.at (.int c)) := by rw [e4 _ (nn (by decide)) (nn (by decide)) (nn (by decide)), k2]
  have q3 : m4 (Str.ofString "lb") = some (.at (.int lb)) := by rw [e4 _ (nn (by decide)) (nn (by decide)) (nn (by decide)), k3]
  have q4 : m4 (Str.ofString "i") = some (.at (.int i)) := by rw [e4 _ (nn (by decide)) (nn (by decide)) (nn (by decide)), ← hm3, ← hm2]; simp [Lm.set, ofS, h4]
  have q5 : m4 (Str.ofString "j") = some (.at (.int j)) := by rw [e4 _ (nn (by decide)) (nn (by decide)) (nn (by decide)), ← hm3, ← hm2]; simp [Lm.set, ofS, h5]
  have q6 : m4 (Str.ofString "common_i") = some (.at (.int ci)) := by rw [e4 _ (nn (by decide)) (nn (by decide)) (nn (by decide)), ← hm3, ← hm2]; simp [Lm.set, ofS, h6]
  have q7 : m4 (Str.ofString "common_j") = some (.at (.int cj)) := by rw [e4 _ (nn (by decide)) (nn (by decide)) (nn (by decide)), ← hm3, ← hm2]; simp [Lm.set, ofS, h7]
  have q8 : m4 (Str.ofString "v") = some (.stat (.ref tb)) := by rw [e4 _ (nn (by decide)) (nn (by decide)) (nn (by decide)), ← hm3, ← hm2]; simp [Lm.set, ofS, h8]
  have q9 : m4 (Str.ofString "first_key_inspected") = some (.at (.bool fk)) := by rw [e4 _ (nn (by decide)) (nn (by decide)) (nn (by decide)), ← hm3, ← hm2]; simp [Lm.set, ofS, h9]
  have q10 : m4 (Str.ofString "k") = some (.at (.int k)) := by rw [e4 _ (nn (by decide)) (nn (by decide)) (nn (by decide)), ← hm3, ← hm2]; simp [Lm.set, ofS]
  rw [hdc] at e2 e3
  obtain ⟨m5, e5, K⟩ : ∃ m5, (∀ rest, exs (SS P es ep st) (n + 55) false (fScope (inr 2 15)) (stAt W140.1 5 :: rest) m4 (r.sto ls) = exs (SS P es ep st) (n + 54) false (fScope (inr 2 15)) rest m5 (r.sto ls)) ∧ FbM m5 (tI dc k i) (tJ dc k j) c lb (tI dc dc.2 ci) (tJ dc dc.2 cj) fk tb := by
    by_cases hneg : dc.1 < 0
    · refine ⟨(m4.set (Str.ofString "j") (.at (.int k))).set (Str.ofString "common_j") (.at (.int dc.2)), fun rest => exs_next ?_, ?_⟩
      · wide_line with [W140, stAt, S140, N140, q10, e2, e3, hneg]
      · unfold tI tJ
        rw [if_pos hneg, if_pos hneg, if_pos hneg, if_pos hneg]
        constructor <;> simp [Lm.set, ofS, q1, q2, q3, q4, q5, q6, q7, q8, q9, q10]
    · refine ⟨(m4.set (Str.ofString "i") (.at (.int k))).set (Str.ofString "common_i") (.at (.int dc.2)), fun rest => exs_next ?_, ?_⟩
      · wide_line with [W140, stAt, S140, N140, q10, e2, e3, hneg]
      · unfold tI tJ
        rw [if_neg hneg, if_neg hneg, if_neg hneg, if_neg hneg]
        constructor <;> simp [Lm.set, ofS, q1, q2, q3, q4, q5, q6, q7, q8, q9, q10]
  have e5' := e5
  unfold W140 at e5'
  dsimp only [stAt] at e5'
  rw [e5']
  generalize tI dc k i = i' at K ⊢
  generalize tJ dc k j = j' at K ⊢
  obtain ⟨h1, h2, h3, h4, h5, h6, h7, h8, h9⟩ := K
  have H5 : FbM m5 i' j' c lb (tI dc dc.2 ci) (tJ dc dc.2 cj) fk tb := ⟨h1, h2, h3, h4, h5, h6, h7, h8, h9⟩
  have c1e : ((j' : Int) - i' ≤ 1) = (j' ≤ 1 + i') := propext ⟨fun h => by omega, fun h => by omega⟩
  have c2e : ((0 : Int) < i') = (0 < i') := propext ⟨fun h => by omega, fun h => by omega⟩
  have c3e : ((j' : Int) = i') = (j' = i') := propext ⟨fun h => by omega, fun h => by omega⟩
  by_cases c1 : j' ≤ 1 + i'
  · by_cases c2 : 0 < i'
    · refine ⟨fun _ => ⟨m5, ?_, H5⟩, fun q => absurd ⟨c1, .inl c2⟩ q⟩
      wide_line with [W140, stAt, S140, N140, h4, h5, c1e, c2e, c1, c2]
    · by_cases c3 : j' = i'
      · refine ⟨fun _ => ⟨m5, ?_, H5⟩, fun q => absurd ⟨c1, .inr (.inl c3)⟩ q⟩
        have c1' : i' ≤ 1 + i' := by omega
        have c2' : ¬ 0 < i' := c2
        subst c3
        wide_line with [W140, stAt, S140, N140, h4, h5, c1e, c2e, c3e, c1', c2', atEq]
      · cases fk with
        | true =>
          refine ⟨fun _ => ⟨m5, ?_, H5⟩, fun q => absurd ⟨c1, .inr (.inr rfl)⟩ q⟩
          wide_line with [W140, stAt, S140, N140, h4, h5, h9, c1e, c2e, c3e, c1, c2, c3, atEq]
        | false =>
          refine ⟨fun q => ?_, fun _ => ⟨m5.set (Str.ofString "first_key_inspected") (.at (.bool true)), ?_, ?_⟩⟩
          · rcases q with ⟨_, q | q | q⟩
            · exact absurd q c2
            · exact absurd q c3
            · cases q
          · wide_line with [W140, stAt, S140, N140, h4, h5, h9, c1e, c2e, c3e, c1, c2, c3, atEq]
          · rw [decide_eq_true c1, Bool.or_true]
            constructor <;> simp [Lm.set, ofS, h1, h2, h3, h4, h5, h6, h7, h8]
  · refine ⟨fun q => absurd q.1 c1, fun _ => ⟨m5, ?_, ?_⟩⟩
    · wide_line with [W140, stAt, S140, N140, h4, h5, h9, c1e, c1]
    · rw [decide_eq_false c1, Bool.or_false]; exact H5
def coL (r : St) (c : Nat) : Option Nat → St
  | some k => { r with c := (c : Int) - k }
  | none => r
structure TabRev (S : Sta) (tb : Addr) (T : List Row) : Prop where
  len : ∀ σ, lenOf S σ (.stat (.ref tb)) = some (T.length : Int)
  row : ∀ (k : Nat) (w : Row), T[k]? = some w → ∃ aw ws tk t2 t3, (∀ σ, Ind.index S σ (.stat (.ref tb)) (k : Int) = some (.stat (.ref aw))) ∧ statAttr S aw (Str.ofString "s") = some (.str ws tk) ∧ ws.cps.toList.reverse = w.1 ∧
    statAttr S aw (Str.ofString "substring_i") = some (.int w.2.1 t2) ∧ statAttr S aw (Str.ofString "result") = some (.int w.2.2 t3) ∧ w.1.length ≤ 10
theorem loop_ab (c lb : Nat) (tb : Addr) (T : List Row) (hT : TabRev (SS P es ep st) tb T) (hlen : c ≤ r.cur.length) (hb1 : r.cur.length ≤ 1000) (i1 c1 : Nat) :
    ∀ (f n i j ci cj : Nat) (fk : Bool) (m : Lm), FbM m i j c lb ci cj fk tb → i ≤ j → lb + ci ≤ c → fa1 T (rv r.cur c lb) f i j ci cj fk = some (i1, c1) →
      ∃ m' j' cj' fk', whil (SS P es ep st) (n + f + 61) (fScope (inr 2 15)) (whTest (stAt L140.1 7)) W140.1 m (r.sto ls) = some (.next, m', r.sto ls) ∧ FbM m' i1 j' c lb c1 cj' fk' tb := by
  intro f
  induction f with
  | zero => intro n i j ci cj fk m _ _ _ h; cases h
  | succ f ih =>
    intro n i j ci cj fk m H hij hc h
    unfold fa1 at h
    obtain ⟨w, hw, h⟩ := Option.bind_eq_some_iff.mp h
    obtain ⟨aw, ws, tk, t2, t3, a1, a2, a3, a4, a5, a6⟩ := hT.row _ _ hw
    generalize hk : i + (j - i) / 2 = k at *
    generalize hco : min ci cj = co at *
    rw [← a3] at h
    generalize hdc : cmpF (ws.cps.toList.reverse.drop co) ((rv r.cur c lb).drop co) co = dc at *
    dsimp only at h
    have lco : co ≤ ci := by omega
    have hle := cmpF_le (ws.cps.toList.reverse.drop co) ((rv r.cur c lb).drop co) co
    rw [hdc, List.length_drop, rv_len hlen] at hle
    obtain ⟨A, B⟩ := turn_b P es ep st r ls m (n + f + 1) i j c lb ci cj k co fk tb aw ws tk dc H hij hk.symm hlen hb1 (by rw [← List.length_reverse, a3]; exact a6) hc (a1 _) a2 hco hdc
    have hst : whil (SS P es ep st) (n + (f + 1) + 61) (fScope (inr 2 15)) (whTest (stAt L140.1 7)) W140.1 m (r.sto ls) = (exs (SS P es ep st) (n + f + 61) false (fScope (inr 2 15)) W140.1 m (r.sto ls)).bind (kW2 (SS P es ep st) (n + f + 61) (fScope (inr 2 15)) (whTest (stAt L140.1 7)) W140.1) := by
      rw [show n + (f + 1) + 61 = (n + f + 61) + 1 by omega, w_step]
      have : test (SS P es ep st) (n + f + 61) (fScope (inr 2 15)) (whTest (stAt L140.1 7)) m (r.sto ls) = some (true, r.sto ls) := by
        wide_line with [L140, whTest, stAt]
      rw [this]; rfl
    rw [hst]
    by_cases q : tJ dc k j ≤ 1 + tI dc k i ∧ (0 < tI dc k i ∨ tJ dc k j = tI dc k i ∨ fk = true)
    · obtain ⟨m', e1, e2⟩ := A q
      rw [if_pos q] at h
      rw [show n + f + 1 + 60 = n + f + 61 by omega] at e1
      rw [e1]
      simp only [Option.some.injEq, Prod.mk.injEq] at h
      rw [h.1, h.2] at e2
      exact ⟨m', _, _, _, rfl, e2⟩
    · obtain ⟨m', e1, e2⟩ := B q
      rw [if_neg q] at h
      rw [show n + f + 1 + 60 = n + f + 61 by omega] at e1
      rw [e1]
      have hij' : tI dc k i ≤ tJ dc k j := by unfold tI tJ; split <;> omega
      have hc' : lb + tI dc dc.2 ci ≤ c := by unfold tI; split <;> omega
      obtain ⟨m2, j2, cj2, fk2, e3, e4⟩ := ih n _ _ _ _ _ m' e2 hij' hc' h
      exact ⟨m2, j2, cj2, fk2, e3, e4⟩
def V140 : { b : List Stmt // whBody (stAt L140.1 8) = b } := ⟨_, by unfold L140; dsimp only [whBody, stAt]⟩
theorem loop_bb (c : Nat) (tb : Addr) (T : List Row) (hT : TabRev (SS P es ep st) tb T) (c1 : Nat) (res : Int) (co : Option Nat) :
    ∀ (f n i : Nat) (m : Lm), m (Str.ofString "self") = some .self → m (Str.ofString "c") = some (.at (.int c)) → m (Str.ofString "i") = some (.at (.int i)) → m (Str.ofString "common_i") = some (.at (.int c1)) → m (Str.ofString "v") = some (.stat (.ref tb)) → fa2 T c1 f i = some (res, co) →
      ∃ m', whil (SS P es ep st) (n + f + 61) (fScope (inr 2 15)) (whTest (stAt L140.1 8)) V140.1 m (r.sto ls) = some (.ret (.at (.int res)), m', (coL r c co).sto ls) := by
  intro f
  induction f with
  | zero => intro n i m _ _ _ _ _ h; cases h
  | succ f ih =>
    intro n i m h1 h2 h3 h4 h5 h
    unfold fa2 at h
    obtain ⟨w, hw, h⟩ := Option.bind_eq_some_iff.mp h
    obtain ⟨aw, ws, tk, t2, t3, a1, a2, a3, a4, a5, a6⟩ := hT.row _ _ hw
    have zb : big = 100000 := rfl
    have lw : ws.cps.toList.length ≤ big := by rw [← List.length_reverse, a3]; omega
    have a3' : ws.cps.toList.length = w.1.length := by rw [← List.length_reverse, a3]
    have hst : whil (SS P es ep st) (n + (f + 1) + 61) (fScope (inr 2 15)) (whTest (stAt L140.1 8)) V140.1 m (r.sto ls) = (exs (SS P es ep st) (n + f + 61) false (fScope (inr 2 15)) V140.1 m (r.sto ls)).bind (kW2 (SS P es ep st) (n + f + 61) (fScope (inr 2 15)) (whTest (stAt L140.1 8)) V140.1) := by
      rw [show n + (f + 1) + 61 = (n + f + 61) + 1 by omega, w_step]
      have : test (SS P es ep st) (n + f + 61) (fScope (inr 2 15)) (whTest (stAt L140.1 8)) m (r.sto ls) = some (true, r.sto ls) := by
        wide_line with [L140, whTest, stAt]
      rw [this]; rfl
    rw [hst]
    by_cases q : w.1.length ≤ c1
    · rw [if_pos q] at h
      cases h
      have q' : ((w.1.length : Nat) : Int) ≤ c1 := by omega
      have : ∃ m', exs (SS P es ep st) (n + f + 61) false (fScope (inr 2 15)) V140.1 m (r.sto ls) = some (.ret (.at (.int w.2.2)), m', (coL r c (some w.1.length)).sto ls) := by
        refine ⟨m.set (Str.ofString "w") (.stat (.ref aw)), ?_⟩
        wide_line with [V140, S140, N140, h1, h2, h3, h4, h5, a1, a2, a4, a5, ofVal, coL, q', lw, a3' ▸ lw, a3']
      obtain ⟨m', e⟩ := this
      rw [e]
      exact ⟨m', rfl⟩
    · rw [if_neg q] at h
      have q' : ¬ ((w.1.length : Nat) : Int) ≤ c1 := by omega
      by_cases q2 : w.2.1 < 0
      · rw [if_pos q2] at h
        cases h
        have : ∃ m', exs (SS P es ep st) (n + f + 61) false (fScope (inr 2 15)) V140.1 m (r.sto ls) = some (.ret (.at (.int 0)), m', r.sto ls) := by
          refine ⟨(m.set (Str.ofString "w") (.stat (.ref aw))).set (Str.ofString "i") (.at (.int w.2.1)), ?_⟩
          wide_line with [V140, S140, N140, h1, h2, h3, h4, h5, a1, a2, a4, a5, ofVal, coL, q', lw, a3' ▸ lw, a3', q2]
        obtain ⟨m', e⟩ := this
        rw [e]
        exact ⟨m', rfl⟩
      · rw [if_neg q2] at h
        have : exs (SS P es ep st) (n + f + 61) false (fScope (inr 2 15)) V140.1 m (r.sto ls) = some (.next, (m.set (Str.ofString "w") (.stat (.ref aw))).set (Str.ofString "i") (.at (.int w.2.1)), r.sto ls) := by
          wide_line with [V140, S140, N140, h1, h2, h3, h4, h5, a1, a2, a4, a5, ofVal, coL, q', lw, a3' ▸ lw, a3', q2]
        rw [this]
        have e : ((w.2.1.toNat : Nat) : Int) = w.2.1 := by omega
        obtain ⟨m', e2⟩ := ih n w.2.1.toNat ((m.set (Str.ofString "w") (.stat (.ref aw))).set (Str.ofString "i") (.at (.int w.2.1))) (by simp only [a_set, ofS, String.reduceEq, if_false]; exact h1) (by simp only [a_set, ofS, String.reduceEq, if_false]; exact h2)
          (by rw [e]; simp only [a_set, ofS, String.reduceEq, if_true]) (by simp only [a_set, ofS, String.reduceEq, if_false]; exact h4) (by simp only [a_set, ofS, String.reduceEq, if_false]; exact h5) h
        exact ⟨m', e2⟩
theorem find_among_b (n c lb : Nat) (tb : Addr) (T : List Row) (hT : TabRev (SS P es ep st) tb T) (ec : r.c = c) (el : r.lb = lb) (hlen : c ≤ r.cur.length) (hcl : lb ≤ c) (hb1 : r.cur.length ≤ 1000) (res : Int) (co : Option Nat) (h : faR T (rv r.cur c lb) = some (res, co)) :
    callF (SS P es ep st) (n + 90) 140 [.self, .stat (.ref tb)] (r.sto ls) = some (.at (.int res), (coL r c co).sto ls) := by
  rw [c_call (h := F140 P es ep st) (hb := rfl)]
  unfold faR at h
  obtain ⟨⟨i1, c1⟩, hf, h⟩ := Option.bind_eq_some_iff.mp h
  dsimp only at h
  have key : ∀ m, FbM m 0 T.length c lb 0 0 false tb → ((whil (SS P es ep st) (n + 80) (fScope (inr 2 15)) (whTest (stAt L140.1 7)) W140.1 m (r.sto ls)).bind (kSq (SS P es ep st) (n + 81) false (fScope (inr 2 15)) (L140.1.drop 8))).bind kRet = some (.at (.int res), (coL r c co).sto ls) := by
    intro m H
    obtain ⟨m1, j1, cj1, fk1, e1, K⟩ := loop_ab P es ep st r ls c lb tb T hT hlen hb1 i1 c1 8 (n + 11) 0 T.length 0 0 false m H (by omega) (by omega) hf
    rw [show n + 11 + 8 + 61 = n + 80 by omega] at e1
    rw [e1, Option.bind_some, a_kSq]
    obtain ⟨m2, e2⟩ := loop_bb P es ep st r ls c tb T hT c1 res co 8 (n + 10) i1 m1 K.h1 K.h2 K.h4 K.h6 K.h8 h
    rw [show n + 10 + 8 + 61 = n + 79 by omega] at e2
    unfold L140 V140 whTest at e2
    dsimp only [stAt] at e2
    wide_line with [L140, List.drop_succ_cons, List.drop_zero, e2]
  unfold L140 W140 at key
  dsimp only [stAt, whTest, List.drop] at key
  wide_line with [S140, N140, L140, ec, el, hT.len]
  refine key _ ?_
  constructor <;> simp [a_set, ofS]
end
def isStr : Option Value → Option (List Nat)
  | some (.str ws _) => some ws.cps.toList
  | _ => none
def isInt : Option Value → Option Int
  | some (.int i _) => some i
  | _ => none
def rowC (S : Sta) (σ : Sto) (tb : Addr) (k : Nat) : Option Row := match Ind.index S σ (.stat (.ref tb)) (k : Int) with
  | some (.stat (.ref aw)) => (match isStr (statAttr S aw (Str.ofString "s")), isInt (statAttr S aw (Str.ofString "substring_i")), isInt (statAttr S aw (Str.ofString "result")) with | some a, some b, some c => some (a, b, c) | _, _, _ => none)
  | _ => none
theorem isStr_of {o : Option Value} {l : List Nat} (h : isStr o = some l) : ∃ ws tk, o = some (.str ws tk) ∧ ws.cps.toList = l := by
  unfold isStr at h
  split at h
  · cases h; exact ⟨_, _, rfl, rfl⟩
  · cases h
theorem isInt_of {o : Option Value} {i : Int} (h : isInt o = some i) : ∃ tk, o = some (.int i tk) := by
  unfold isInt at h
  split at h
  · cases h; exact ⟨_, rfl⟩
  · cases h
theorem rowC_of {S : Sta} {σ : Sto} {tb : Addr} {k : Nat} {w : Row} (h : rowC S σ tb k = some w) : ∃ aw ws tk t2 t3, (∀ σ, Ind.index S σ (.stat (.ref tb)) (k : Int) = some (.stat (.ref aw))) ∧ statAttr S aw (Str.ofString "s") = some (.str ws tk) ∧ ws.cps.toList = w.1 ∧
    statAttr S aw (Str.ofString "substring_i") = some (.int w.2.1 t2) ∧ statAttr S aw (Str.ofString "result") = some (.int w.2.2 t3) := by
  unfold rowC at h
  split at h
  · rename_i aw e
    split at h
    · rename_i a b c e1 e2 e3
      cases h
      obtain ⟨ws, tk, q1, q2⟩ := isStr_of e1
      obtain ⟨t2, q3⟩ := isInt_of e2
      obtain ⟨t3, q4⟩ := isInt_of e3
      exact ⟨aw, ws, tk, t2, t3, fun σ' => e, q1, q2, q3, q4⟩
    · cases h
  · cases h
theorem tabOk_of {S : Sta} {tb : Addr} {T : List Row} (hl : ∀ σ, lenOf S σ (.stat (.ref tb)) = some (T.length : Int)) (h : ∀ σ, (List.range T.length).map (rowC S σ tb) = T.map some) (hs : T.all (fun w => Nat.ble w.1.length 10) = true) : TabOk S tb T := by
  refine ⟨hl, fun k w hk => ?_⟩
  have lt : k < T.length := by
    rcases Nat.lt_or_ge k T.length with q | q
    · exact q
    · rw [List.getElem?_eq_none q] at hk; cases hk
  have e := congrArg (fun z : List (Option Row) => z[k]?) (h ⟨false, 0, fun _ => none, []⟩)
  simp only [List.getElem?_map, List.getElem?_range lt, Option.map_some, hk, Option.some.injEq] at e
  obtain ⟨aw, ws, tk, t2, t3, q1, q2, q3, q4, q5⟩ := rowC_of e
  exact ⟨aw, ws, tk, t2, t3, q1, q2, q3, q4, q5, Nat.le_of_ble_eq_true (List.all_eq_true.mp hs w (List.mem_of_getElem? hk))⟩
def rvT (T : List Row) : List Row := T.map fun w => (w.1.reverse, w.2)
theorem tabRev_of {S : Sta} {tb : Addr} {T : List Row} (h : TabOk S tb T) : TabRev S tb (rvT T) := by
  refine ⟨fun σ => by rw [h.len]; unfold rvT; rw [List.length_map], fun k w hk => ?_⟩
  unfold rvT at hk
  rw [List.getElem?_map] at hk
  obtain ⟨w0, e1, e2⟩ := Option.map_eq_some_iff.mp hk
  subst e2
  obtain ⟨aw, ws, tk, t2, t3, q1, q2, q3, q4, q5, q6⟩ := h.row k w0 e1
  exact ⟨aw, ws, tk, t2, t3, q1, q2, by rw [q3], q4, q5, by rw [List.length_reverse]; exact q6⟩
def TA0 : List Row := [([107, 97, 104], -1, 1), ([108, 97, 104], -1, 1), ([112, 117, 110], -1, 1)]
def TA1 : List Row := [([110, 121, 97], -1, 1), ([107, 117], -1, 1), ([109, 117], -1, 1)]
def TA2 : List Row := [([105], -1, 2), ([97, 110], -1, 1)]
def TA3 : List Row := [([100, 105], -1, 1), ([107, 101], -1, 3), ([109, 101], -1, 1), ([109, 101, 109], 2, 5), ([109, 101, 110], 2, 2), ([109, 101, 110, 103], 4, 1), ([112, 101, 109], -1, 6), ([112, 101, 110], -1, 4), ([112, 101, 110, 103], 7, 3), ([116, 101, 114], -1, 1)]
def TA4 : List Row := [([98, 101], -1, 2), ([112, 101], -1, 1)]
section
variable (P : Params) (es : Array (Int × Value)) (ep : Nat) (st : SetTable)
theorem tab0 : TabOk (SS P es ep st) 282 TA0 := tabOk_of (fun _ => by kernel_rfl) (fun _ => by kernel_rfl) rfl
theorem tab1 : TabOk (SS P es ep st) 292 TA1 := tabOk_of (fun _ => by kernel_rfl) (fun _ => by kernel_rfl) rfl
theorem tab2 : TabOk (SS P es ep st) 299 TA2 := tabOk_of (fun _ => by kernel_rfl) (fun _ => by kernel_rfl) rfl
theorem tab3 : TabOk (SS P es ep st) 330 TA3 := tabOk_of (fun _ => by kernel_rfl) (fun _ => by kernel_rfl) rfl
theorem tab4 : TabOk (SS P es ep st) 337 TA4 := tabOk_of (fun _ => by kernel_rfl) (fun _ => by kernel_rfl) rfl
end
def cmpS : List Nat → List Nat → Nat → Bool × Nat
  | [], _, k => (false, k)
  | _ :: _, [], k => (true, k)
  | y :: ys, x :: xs, k => if x < y then (true, k) else if y < x then (false, k) else cmpS ys xs (k + 1)
theorem cmpF_S : ∀ (ys xs : List Nat) (k : Nat), (decide ((cmpF ys xs k).1 < 0), (cmpF ys xs k).2) = cmpS ys xs k
  | [], xs, k => by unfold cmpF cmpS; simp
  | _ :: _, [], k => by unfold cmpF cmpS; simp
  | y :: ys, x :: xs, k => by
    unfold cmpF cmpS
    by_cases h : (x : Int) - y = 0
    · rw [if_neg (fun z => z h), if_neg (by omega), if_neg (by omega)]
      exact cmpF_S ys xs (k + 1)
    · rw [if_pos h]
      by_cases h1 : x < y
      · rw [if_pos h1, decide_eq_true (by omega)]
      · rw [if_neg h1, if_pos (by omega), decide_eq_false (by omega)]
def EqT : List (List Nat) → List Nat → List Nat → Prop
  | _, [], [] => True
  | W, x :: xs, y :: ys => (∀ w ∈ W, ∀ t, w.head? = some t → (x < t ↔ y < t) ∧ (t < x ↔ t < y)) ∧ EqT (W.map List.tail) xs ys
  | _, _, _ => False
theorem EqT_drop : ∀ (k : Nat) {W : List (List Nat)} {l l' : List Nat}, EqT W l l' → EqT (W.map (List.drop k)) (l.drop k) (l'.drop k)
  | 0, W, l, l', h => by
    rw [show W.map (List.drop 0) = W from (List.map_congr_left (fun w _ => List.drop_zero)).trans (List.map_id W)]
    exact h
  | k + 1, W, [], [], h => by unfold EqT; simp
  | k + 1, W, [], _ :: _, h => by unfold EqT at h; exact h.elim
  | k + 1, W, _ :: _, [], h => by unfold EqT at h; exact h.elim
  | k + 1, W, x :: xs, y :: ys, h => by
    unfold EqT at h
    have := EqT_drop k h.2
    rw [List.map_map] at this
    simpa [Function.comp_def, List.drop_tail] using this
theorem cmpS_eq : ∀ (w : List Nat) {W : List (List Nat)} {l l' : List Nat} (k : Nat), EqT W l l' → w ∈ W → cmpS w l k = cmpS w l' k
  | [], W, l, l', k, _, _ => by unfold cmpS; rfl
  | t :: ts, W, [], [], k, _, _ => rfl
  | t :: ts, W, [], _ :: _, k, h, _ => by unfold EqT at h; exact h.elim
  | t :: ts, W, _ :: _, [], k, h, _ => by unfold EqT at h; exact h.elim
  | t :: ts, W, x :: xs, y :: ys, k, h, hw => by
    unfold EqT at h
    obtain ⟨a, b⟩ := h.1 _ hw t rfl
    unfold cmpS
    have ih := cmpS_eq ts (k + 1) h.2 (List.mem_map.mpr ⟨_, hw, rfl⟩)
    by_cases h1 : x < t
    · rw [if_pos h1, if_pos (a.mp h1)]
    · rw [if_neg h1, if_neg (fun z => h1 (a.mpr z))]
      by_cases h2 : t < x
      · rw [if_pos h2, if_pos (b.mp h2)]
      · rw [if_neg h2, if_neg (fun z => h2 (b.mpr z)), ih]
theorem pre_eq : ∀ (w : List Nat) {W : List (List Nat)} {l l' : List Nat}, EqT W l l' → w ∈ W → w.isPrefixOf l = w.isPrefixOf l'
  | [], W, l, l', _, _ => by simp [List.isPrefixOf]
  | t :: ts, W, [], [], _, _ => rfl
  | t :: ts, W, [], _ :: _, h, _ => by unfold EqT at h; exact h.elim
  | t :: ts, W, _ :: _, [], h, _ => by unfold EqT at h; exact h.elim
  | t :: ts, W, x :: xs, y :: ys, h, hw => by
    unfold EqT at h
    obtain ⟨a, b⟩ := h.1 _ hw t rfl
    have ih := pre_eq ts h.2 (List.mem_map.mpr ⟨_, hw, rfl⟩)
    have e : (t == x) = (t == y) := by
      rw [Bool.eq_iff_iff, beq_iff_eq, beq_iff_eq]
      constructor <;> (intro h; omega)
    simp only [List.isPrefixOf, e, ih]
theorem cmpS_take : ∀ (w l : List Nat) (j k : Nat), w.length ≤ j → cmpS w (l.take j) k = cmpS w l k
  | [], l, j, k, _ => by unfold cmpS; rfl
  | t :: ts, [], j, k, _ => by rw [List.take_nil]
  | t :: ts, x :: xs, 0, k, h => by simp at h
  | t :: ts, x :: xs, j + 1, k, h => by
    rw [List.take_succ_cons]
    unfold cmpS
    rw [cmpS_take ts xs j (k + 1) (by simp at h; omega)]
theorem pre_take : ∀ (w l : List Nat) (j : Nat), w.length ≤ j → w.isPrefixOf (l.take j) = w.isPrefixOf l
  | [], l, j, _ => by simp [List.isPrefixOf]
  | t :: ts, [], j, _ => by rw [List.take_nil]
  | t :: ts, x :: xs, 0, h => by simp at h
  | t :: ts, x :: xs, j + 1, h => by
    rw [List.take_succ_cons]
    simp only [List.isPrefixOf]
    rw [pre_take ts xs j (by simp at h; omega)]
theorem tI_S (d d' : Int × Nat) (h : (decide (d.1 < 0), d.2) = (decide (d'.1 < 0), d'.2)) (a b : Nat) : tI d a b = tI d' a b ∧ tJ d a b = tJ d' a b ∧ d.2 = d'.2 := by
  simp only [Prod.mk.injEq, decide_eq_decide] at h
  unfold tI tJ
  exact ⟨by simp only [h.1], by simp only [h.1], h.2⟩
theorem fa1_eq {T : List Row} {l l' : List Nat} (H : ∀ w ∈ T, ∀ k, cmpS (w.1.drop k) (l.drop k) k = cmpS (w.1.drop k) (l'.drop k) k) :
    ∀ (f i j ci cj : Nat) (fk : Bool), fa1 T l f i j ci cj fk = fa1 T l' f i j ci cj fk := by
  intro f
  induction f with
  | zero => intros; rfl
  | succ f ih =>
    intro i j ci cj fk
    unfold fa1
    cases hw : T[i + (j - i) / 2]? with
    | none => rfl
    | some w =>
      rw [Option.bind_some, Option.bind_some]
      have h := H w (List.mem_of_getElem? hw) (min ci cj)
      rw [← cmpF_S, ← cmpF_S] at h
      dsimp only
      generalize cmpF (w.1.drop (min ci cj)) (l.drop (min ci cj)) (min ci cj) = d at *
      generalize cmpF (w.1.drop (min ci cj)) (l'.drop (min ci cj)) (min ci cj) = d' at *
      have q := fun a b => tI_S d d' h a b
      simp only [(q _ _).1, (q _ _).2.1, (q 0 0).2.2, ih]
theorem faR_eq {T : List Row} {l l' : List Nat} (H : ∀ w ∈ T, ∀ k, cmpS (w.1.drop k) (l.drop k) k = cmpS (w.1.drop k) (l'.drop k) k) : faR T l = faR T l' := by
  unfold faR; rw [fa1_eq H]
def aT (T : List Row) (l : List Nat) : Int × Option Nat := match (T.filter fun w => w.1.isPrefixOf l).getLast? with
  | some w => (w.2.2, some w.1.length)
  | none => (0, none)
def phi : Nat → List Nat → Nat → Nat
  | lo, [], _ => lo
  | lo, t :: ts, x => if x < t then lo else if x = t then t else phi (t + 1) ts x
theorem phi_ge : ∀ (ts : List Nat) (lo x : Nat), (∀ t ∈ ts, lo ≤ t) → ts.Pairwise (· < ·) → lo ≤ phi lo ts x
  | [], lo, x, _, _ => Nat.le_refl _
  | t :: ts, lo, x, h, hp => by
    unfold phi
    have h0 := h t (.head _)
    split
    · exact Nat.le_refl _
    · split
      · exact h0
      · have := phi_ge ts (t + 1) x (fun s hs => (List.pairwise_cons.mp hp).1 s hs) (List.pairwise_cons.mp hp).2
        omega
theorem phi_ok : ∀ (ts : List Nat) (lo x : Nat), lo ≤ x → (∀ t ∈ ts, lo ≤ t) → ts.Pairwise (· < ·) → ∀ t ∈ ts, (x < t ↔ phi lo ts x < t) ∧ (t < x ↔ t < phi lo ts x)
  | [], lo, x, _, _, _, t, h => by cases h
  | t0 :: ts, lo, x, hl, h, hp, t, ht => by
    have hq := List.pairwise_cons.mp hp
    unfold phi
    have le : t0 ≤ t := by
      rcases List.mem_cons.mp ht with q | q
      · omega
      · exact Nat.le_of_lt (hq.1 t q)
    by_cases h1 : x < t0
    · rw [if_pos h1]; omega
    · rw [if_neg h1]
      by_cases h2 : x = t0
      · rw [if_pos h2]; omega
      · rw [if_neg h2]
        rcases List.mem_cons.mp ht with q | q
        · subst q
          have := phi_ge ts (t + 1) x (fun s hs => hq.1 s hs) hq.2
          omega
        · exact phi_ok ts (t0 + 1) x (by omega) (fun s hs => hq.1 s hs) hq.2 t q
def reps : Nat → List Nat → List Nat
  | lo, [] => [lo]
  | lo, t :: ts => lo :: t :: reps (t + 1) ts
theorem phi_mem : ∀ (ts : List Nat) (lo x : Nat), phi lo ts x ∈ reps lo ts
  | [], lo, x => .head _
  | t :: ts, lo, x => by
    unfold phi reps
    split
    · exact .head _
    · split
      · exact .tail _ (.head _)
      · exact .tail _ (.tail _ (phi_mem ts (t + 1) x))
def enum : List (List Nat) → List (List Nat)
  | [] => [[]]
  | ts :: P => [] :: (reps 0 ts).flatMap fun x => (enum P).map (x :: ·)
def fit : List (List Nat) → List Nat → Bool
  | _, [] => true
  | [], _ :: _ => false
  | ts :: P, t :: w => decide (t ∈ ts) && fit P w
def norm : List (List Nat) → List Nat → List Nat
  | [], _ => []
  | _, [] => []
  | ts :: P, x :: l => phi 0 ts x :: norm P l
theorem norm_mem : ∀ (P : List (List Nat)) (l : List Nat), norm P l ∈ enum P
  | [], l => by unfold norm enum; exact .head _
  | ts :: P, [] => by unfold norm enum; exact .head _
  | ts :: P, x :: l => by
    unfold norm enum
    exact .tail _ (List.mem_flatMap.mpr ⟨_, phi_mem ts 0 x, List.mem_map.mpr ⟨_, norm_mem P l, rfl⟩⟩)
theorem fit_tail : ∀ {ts : List Nat} {P : List (List Nat)} {w : List Nat}, fit (ts :: P) w = true → fit P w.tail = true
  | _, _, [], _ => by unfold fit; rfl
  | _, _, t :: w, h => by unfold fit at h; simp at h; exact h.2
theorem norm_EqT : ∀ (P : List (List Nat)) (W : List (List Nat)) (l : List Nat), (∀ ts ∈ P, ts.Pairwise (· < ·)) → (∀ w ∈ W, fit P w = true) → l.length ≤ P.length → EqT W l (norm P l)
  | [], W, l, _, _, hl => by
    have : l = [] := List.length_eq_zero_iff.mp (by simpa using hl)
    subst this; unfold norm EqT; trivial
  | ts :: P, W, [], _, _, _ => by unfold norm EqT; trivial
  | ts :: P, W, x :: l, hs, hf, hl => by
    unfold norm EqT
    refine ⟨fun w hw t ht => ?_, norm_EqT P _ l (fun s h => hs s (.tail _ h)) (fun w hw => ?_) (by simpa using hl)⟩
    · have := hf w hw
      cases w with
      | nil => cases ht
      | cons t' w =>
        cases ht
        unfold fit at this
        simp at this
        exact phi_ok ts 0 x (Nat.zero_le _) (fun _ _ => Nat.zero_le _) (hs ts (.head _)) t this.1
    · obtain ⟨w', h1, h2⟩ := List.mem_map.mp hw
      subst h2
      exact fit_tail (hf w' h1)
def oEq (a : Option (Int × Option Nat)) (b : Int × Option Nat) : Bool := match a with
  | some x => decide (x.1 = b.1) && decide (x.2 = b.2)
  | none => false
theorem oEq_of {a : Option (Int × Option Nat)} {b : Int × Option Nat} (h : oEq a b = true) : a = some b := by
  unfold oEq at h
  split at h
  · simp at h; rw [Option.some.injEq]; exact Prod.ext h.1 h.2
  · cases h
theorem faR_spec {T : List Row} {P : List (List Nat)} (hs : ∀ ts ∈ P, ts.Pairwise (· < ·)) (hf : (T.all fun w => fit P w.1) = true) (hlen : (T.all fun w => decide (w.1.length ≤ P.length)) = true) (hc : ((enum P).all fun l => oEq (faR T l) (aT T l)) = true) (l : List Nat) : faR T l = some (aT T l) := by
  have hlen' : ∀ w ∈ T, w.1.length ≤ P.length := fun w hw => of_decide_eq_true (List.all_eq_true.mp hlen w hw)
  have e1 : faR T l = faR T (l.take P.length) := by
    apply faR_eq
    intro w hw k
    rw [List.drop_take, cmpS_take _ _ _ _ (by rw [List.length_drop]; have := hlen' w hw; omega)]
  have e2 : aT T l = aT T (l.take P.length) := by
    unfold aT
    rw [List.filter_congr (q := fun w => w.1.isPrefixOf (l.take P.length)) (fun w hw => (pre_take w.1 l P.length (hlen' w hw)).symm)]
  have q := norm_EqT P (T.map (·.1)) (l.take P.length) hs (fun w hw => by obtain ⟨w', h1, h2⟩ := List.mem_map.mp hw; subst h2; exact List.all_eq_true.mp hf w' h1) (by rw [List.length_take]; omega)
  have e3 : faR T (l.take P.length) = faR T (norm P (l.take P.length)) := by
    apply faR_eq
    intro w hw k
    exact cmpS_eq _ _ (EqT_drop k q) (List.mem_map.mpr ⟨_, List.mem_map.mpr ⟨_, hw, rfl⟩, rfl⟩)
  have e4 : aT T (l.take P.length) = aT T (norm P (l.take P.length)) := by
    unfold aT
    rw [List.filter_congr (q := fun w => w.1.isPrefixOf (norm P (l.take P.length))) (fun w hw => pre_eq w.1 q (List.mem_map.mpr ⟨_, hw, rfl⟩))]
  rw [e1, e2, e3, e4]
  exact oEq_of (List.all_eq_true.mp hc _ (norm_mem P _))
theorem fa0 (l : List Nat) : faR (rvT TA0) l = some (aT (rvT TA0) l) := faR_spec (P := [[104, 110], [97, 117], [107, 108, 112]]) (by decide) rfl rfl (by kernel_rfl) l
theorem fa1' (l : List Nat) : faR (rvT TA1) l = some (aT (rvT TA1) l) := faR_spec (P := [[97, 117], [107, 109, 121], [110]]) (by decide) rfl rfl (by kernel_rfl) l
theorem fa2' (l : List Nat) : faR (rvT TA2) l = some (aT (rvT TA2) l) := faR_spec (P := [[105, 110], [97]]) (by decide) rfl rfl (by kernel_rfl) l
theorem fa3 (l : List Nat) : faR TA3 l = some (aT TA3 l) := faR_spec (P := [[100, 107, 109, 112, 116], [101, 105], [109, 110, 114], [103]]) (by decide) rfl rfl (by kernel_rfl) l
theorem fa4 (l : List Nat) : faR TA4 l = some (aT TA4 l) := faR_spec (P := [[98, 112], [101]]) (by decide) rfl rfl (by kernel_rfl) l
def L237 : { b : List Stmt // fBody (inr 6 3) = b } := ⟨_, by unfold inr tp bd PySem.Challenge.pw_af0030_01; dsimp only [fBody, stAt]⟩
def N237 : { b : List (Str × NameKind) // (fScope (inr 6 3)).names = b } := ⟨_, by unfold inr tp bd PySem.Challenge.pw_af0030_01; dsimp only [fBody, fScope, stAt]⟩
theorem S237 : (fScope (inr 6 3)).names = N237.1 := N237.2
theorem F237 (P : Params) (es : Array (Int × Value)) (ep : Nat) (st : SetTable) : funIn (SS P es ep st) 237 = some ([Str.ofString "self"], L237.1, fScope (inr 6 3)) := by kernel_rfl
theorem M237 (P : Params) (es : Array (Int × Value)) (ep : Nat) (st : SetTable) : findIn (SS P es ep st).K (.ref (SS P es ep st).C) (Str.ofString "r_remove_particle") = some (some (.ref 237)) := by kernel_rfl
theorem h237 (r : St) (ls : List (List At)) : (r.sto ls).f (Str.ofString "r_remove_particle") = none := by unfold St.sto St.f; simp [ofS]
def L244 : { b : List Stmt // fBody (inr 6 4) = b } := ⟨_, by unfold inr tp bd PySem.Challenge.pw_af0030_01; dsimp only [fBody, stAt]⟩
def N244 : { b : List (Str × NameKind) // (fScope (inr 6 4)).names = b } := ⟨_, by unfold inr tp bd PySem.Challenge.pw_af0030_01; dsimp only [fBody, fScope, stAt]⟩
theorem S244 : (fScope (inr 6 4)).names = N244.1 := N244.2
theorem F244 (P : Params) (es : Array (Int × Value)) (ep : Nat) (st : SetTable) : funIn (SS P es ep st) 244 = some ([Str.ofString "self"], L244.1, fScope (inr 6 4)) := by kernel_rfl
theorem M244 (P : Params) (es : Array (Int × Value)) (ep : Nat) (st : SetTable) : findIn (SS P es ep st).K (.ref (SS P es ep st).C) (Str.ofString "r_remove_possessive_pronoun") = some (some (.ref 244)) := by kernel_rfl
theorem h244 (r : St) (ls : List (List At)) : (r.sto ls).f (Str.ofString "r_remove_possessive_pronoun") = none := by unfold St.sto St.f; simp [ofS]
def L251 : { b : List Stmt // fBody (inr 6 5) = b } := ⟨_, by unfold inr tp bd PySem.Challenge.pw_af0030_01; dsimp only [fBody, stAt]⟩
def N251 : { b : List (Str × NameKind) // (fScope (inr 6 5)).names = b } := ⟨_, by unfold inr tp bd PySem.Challenge.pw_af0030_01; dsimp only [fBody, fScope, stAt]⟩
theorem S251 : (fScope (inr 6 5)).names = N251.1 := N251.2
theorem F251 (P : Params) (es : Array (Int × Value)) (ep : Nat) (st : SetTable) : funIn (SS P es ep st) 251 = some ([Str.ofString "self"], L251.1, fScope (inr 6 5)) := by kernel_rfl
theorem M251 (P : Params) (es : Array (Int × Value)) (ep : Nat) (st : SetTable) : findIn (SS P es ep st).K (.ref (SS P es ep st).C) (Str.ofString "r_remove_suffix") = some (some (.ref 251)) := by kernel_rfl
theorem h251 (r : St) (ls : List (List At)) : (r.sto ls).f (Str.ofString "r_remove_suffix") = none := by unfold St.sto St.f; simp [ofS]
def L258 : { b : List Stmt // fBody (inr 6 6) = b } := ⟨_, by unfold inr tp bd PySem.Challenge.pw_af0030_01; dsimp only [fBody, stAt]⟩
def N258 : { b : List (Str × NameKind) // (fScope (inr 6 6)).names = b } := ⟨_, by unfold inr tp bd PySem.Challenge.pw_af0030_01; dsimp only [fBody, fScope, stAt]⟩
theorem S258 : (fScope (inr 6 6)).names = N258.1 := N258.2
theorem F258 (P : Params) (es : Array (Int × Value)) (ep : Nat) (st : SetTable) : funIn (SS P es ep st) 258 = some ([Str.ofString "self"], L258.1, fScope (inr 6 6)) := by kernel_rfl
theorem M258 (P : Params) (es : Array (Int × Value)) (ep : Nat) (st : SetTable) : findIn (SS P es ep st).K (.ref (SS P es ep st).C) (Str.ofString "r_remove_first_order_prefix") = some (some (.ref 258)) := by kernel_rfl
theorem h258 (r : St) (ls : List (List At)) : (r.sto ls).f (Str.ofString "r_remove_first_order_prefix") = none := by unfold St.sto St.f; simp [ofS]
def L265 : { b : List Stmt // fBody (inr 6 7) = b } := ⟨_, by unfold inr tp bd PySem.Challenge.pw_af0030_01; dsimp only [fBody, stAt]⟩
def N265 : { b : List (Str × NameKind) // (fScope (inr 6 7)).names = b } := ⟨_, by unfold inr tp bd PySem.Challenge.pw_af0030_01; dsimp only [fBody, fScope, stAt]⟩
theorem S265 : (fScope (inr 6 7)).names = N265.1 := N265.2
theorem F265 (P : Params) (es : Array (Int × Value)) (ep : Nat) (st : SetTable) : funIn (SS P es ep st) 265 = some ([Str.ofString "self"], L265.1, fScope (inr 6 7)) := by kernel_rfl
theorem M265 (P : Params) (es : Array (Int × Value)) (ep : Nat) (st : SetTable) : findIn (SS P es ep st).K (.ref (SS P es ep st).C) (Str.ofString "r_remove_second_order_prefix") = some (some (.ref 265)) := by kernel_rfl
theorem h265 (r : St) (ls : List (List At)) : (r.sto ls).f (Str.ofString "r_remove_second_order_prefix") = none := by unfold St.sto St.f; simp [ofS]
def L272 : { b : List Stmt // fBody (inr 6 8) = b } := ⟨_, by unfold inr tp bd PySem.Challenge.pw_af0030_01; dsimp only [fBody, stAt]⟩
def N272 : { b : List (Str × NameKind) // (fScope (inr 6 8)).names = b } := ⟨_, by unfold inr tp bd PySem.Challenge.pw_af0030_01; dsimp only [fBody, fScope, stAt]⟩
theorem S272 : (fScope (inr 6 8)).names = N272.1 := N272.2
theorem F272 (P : Params) (es : Array (Int × Value)) (ep : Nat) (st : SetTable) : funIn (SS P es ep st) 272 = some ([Str.ofString "self"], L272.1, fScope (inr 6 8)) := by kernel_rfl
theorem M272 (P : Params) (es : Array (Int × Value)) (ep : Nat) (st : SetTable) : findIn (SS P es ep st).K (.ref (SS P es ep st).C) (Str.ofString "_stem") = some (some (.ref 272)) := by kernel_rfl
theorem h272 (r : St) (ls : List (List At)) : (r.sto ls).f (Str.ofString "_stem") = none := by unfold St.sto St.f; simp [ofS]
theorem h63 (r : St) (ls : List (List At)) : (r.sto ls).f (Str.ofString "in_grouping") = none := by unfold St.sto St.f; simp [ofS]
theorem h91 (r : St) (ls : List (List At)) : (r.sto ls).f (Str.ofString "out_grouping") = none := by unfold St.sto St.f; simp [ofS]
theorem h98 (r : St) (ls : List (List At)) : (r.sto ls).f (Str.ofString "go_out_grouping") = none := by unfold St.sto St.f; simp [ofS]
theorem h119 (r : St) (ls : List (List At)) : (r.sto ls).f (Str.ofString "eq_s") = none := by unfold St.sto St.f; simp [ofS]
theorem h133 (r : St) (ls : List (List At)) : (r.sto ls).f (Str.ofString "find_among") = none := by unfold St.sto St.f; simp [ofS]
theorem h140 (r : St) (ls : List (List At)) : (r.sto ls).f (Str.ofString "find_among_b") = none := by unfold St.sto St.f; simp [ofS]
theorem h154 (r : St) (ls : List (List At)) : (r.sto ls).f (Str.ofString "slice_from") = none := by unfold St.sto St.f; simp [ofS]
theorem h161 (r : St) (ls : List (List At)) : (r.sto ls).f (Str.ofString "slice_del") = none := by unfold St.sto St.f; simp [ofS]
theorem h42 (r : St) (ls : List (List At)) : (r.sto ls).f (Str.ofString "set_current") = none := by unfold St.sto St.f; simp [ofS]
theorem h49 (r : St) (ls : List (List At)) : (r.sto ls).f (Str.ofString "get_current") = none := by unfold St.sto St.f; simp [ofS]
section
variable (P : Params) (es : Array (Int × Value)) (ep : Nat) (st : SetTable)
theorem G_Ind : globIn (SS P es ep st) (Str.ofString "IndonesianStemmer") = some (.ref 340) := by kernel_rfl
theorem G_lab0 : globIn (SS P es ep st) (Str.ofString "lab0") = some (.ref 352) := by kernel_rfl
theorem G_lab1 : globIn (SS P es ep st) (Str.ofString "lab1") = some (.ref 365) := by kernel_rfl
theorem X_lab0 : (SS P es ep st).exc.lookup (Str.ofString "lab0") = some 352 := by kernel_rfl
theorem X_lab1 : (SS P es ep st).exc.lookup (Str.ofString "lab1") = some 365 := by kernel_rfl
theorem SA0 : statAttr (SS P es ep st) 340 (Str.ofString "a_0") = some (.ref 282) := by kernel_rfl
theorem SA1 : statAttr (SS P es ep st) 340 (Str.ofString "a_1") = some (.ref 292) := by kernel_rfl
theorem SA2 : statAttr (SS P es ep st) 340 (Str.ofString "a_2") = some (.ref 299) := by kernel_rfl
theorem SA3 : statAttr (SS P es ep st) 340 (Str.ofString "a_3") = some (.ref 330) := by kernel_rfl
theorem SA4 : statAttr (SS P es ep st) 340 (Str.ofString "a_4") = some (.ref 337) := by kernel_rfl
theorem SAv : statAttr (SS P es ep st) 340 (Str.ofString "g_vowel") = some (.ref setA) := by kernel_rfl
end
structure Ok (r : St) (w : List Nat) (c lb : Nat) (m p : Int) : Prop where
  cur : r.cur = w
  c : r.c = c
  l : r.l = w.length
  lb : r.lb = lb
  im : r.im = some m
  ip : r.ip = some p
theorem aT_none {T : List Row} {l : List Nat} (h : (aT T l).2 = none) : aT T l = (0, none) := by
  unfold aT at h ⊢
  split at h
  · cases h
  · rfl
theorem aT_some {T : List Row} {l : List Nat} {d : Nat} (h : (aT T l).2 = some d) : ∃ w ∈ T, w.1.isPrefixOf l = true ∧ d = w.1.length ∧ aT T l = (w.2.2, some d) := by
  unfold aT at h ⊢
  split at h
  · rename_i w e
    have hm := List.mem_of_getLast? e
    obtain ⟨a, b⟩ := List.mem_filter.mp hm
    simp only [Option.some.injEq] at h
    exact ⟨w, a, b, h.symm, by rw [h]⟩
  · cases h
theorem pre_le {p l : List Nat} (h : p.isPrefixOf l = true) : p.length ≤ l.length := (List.isPrefixOf_iff_prefix.mp h).length_le
section
variable (P : Params) (es : Array (Int × Value)) (ep : Nat) (st : SetTable) (r : St) (ls : List (List At))
theorem slice_del_b (N : Nat) (hN : 60 ≤ N) (b k : Nat) (eb : r.b = b) (ek : r.k = k) (el : r.l = r.cur.length) (ec : r.c = b) (hbk : b < k) (hkl : k ≤ r.cur.length) (hc : r.cur.length ≤ 1000) :
    callF (SS P es ep st) N 161 [.self] (r.sto ls) = some (.at .none, { r with cur := r.cur.take b ++ r.cur.drop k, l := ((r.cur.take b ++ r.cur.drop k).length : Nat), c := b, k := b }.sto ls) := by
  obtain ⟨n, rfl⟩ := Nat.exists_eq_add_of_le' hN
  rw [slice_del P es ep st r ls n b k r.cur.length eb ek el (by omega) hkl (by omega) hc, ec, if_neg (by omega), if_neg (by omega)]
  have : (((r.cur.take b ++ r.cur.drop k).length : Nat) : Int) = r.cur.length - ((k : Int) - b) := by
    rw [List.length_append, List.length_take, List.length_drop]; omega
  rw [this]
theorem slice_del_k (N : Nat) (hN : 60 ≤ N) (b k : Nat) (eb : r.b = b) (ek : r.k = k) (el : r.l = r.cur.length) (ec : r.c = k) (hbk : b ≤ k) (hkl : k ≤ r.cur.length) (hc : r.cur.length ≤ 1000) :
    callF (SS P es ep st) N 161 [.self] (r.sto ls) = some (.at .none, { r with cur := r.cur.take b ++ r.cur.drop k, l := ((r.cur.take b ++ r.cur.drop k).length : Nat), c := b, k := b }.sto ls) := by
  obtain ⟨n, rfl⟩ := Nat.exists_eq_add_of_le' hN
  rw [slice_del P es ep st r ls n b k r.cur.length eb ek el (by omega) hkl (by omega) hc, ec, if_pos (by omega)]
  have : (((r.cur.take b ++ r.cur.drop k).length : Nat) : Int) = r.cur.length - ((k : Int) - b) := by
    rw [List.length_append, List.length_take, List.length_drop]; omega
  rw [this, show (k : Int) - ((k : Int) - b) = b by omega]
theorem slice_from_k (N : Nat) (hN : 60 ≤ N) (b k : Nat) (s : List Nat) (eb : r.b = b) (ek : r.k = k) (el : r.l = r.cur.length) (ec : r.c = k) (hbk : b ≤ k) (hkl : k ≤ r.cur.length) (hc : r.cur.length ≤ 1000) (hs : s.length ≤ 1000) :
    callF (SS P es ep st) N 154 [.self, .at (.str s)] (r.sto ls) = some (.at .none, { r with cur := r.cur.take b ++ s ++ r.cur.drop k, l := ((r.cur.take b ++ s ++ r.cur.drop k).length : Nat), c := ((b + s.length : Nat) : Int), k := ((b + s.length : Nat) : Int) }.sto ls) := by
  obtain ⟨n, rfl⟩ := Nat.exists_eq_add_of_le' hN
  rw [show n + 60 = n + 10 + 50 from rfl, slice_from P es ep st r ls (n + 10) b k r.cur.length s eb ek el hbk hkl (Nat.le_refl _) hc hs, ec, if_pos (by omega)]
  have : (((r.cur.take b ++ s ++ r.cur.drop k).length : Nat) : Int) = r.cur.length + (s.length - ((k : Int) - b)) := by
    rw [List.length_append, List.length_append, List.length_take, List.length_drop]; omega
  rw [this, show (k : Int) + (s.length - ((k : Int) - b)) = ((b + s.length : Nat) : Int) by omega, show ((b + s.length : Nat) : Int) = (b : Int) + s.length by omega]
theorem in_grouping_N (N : Nat) (hN : 60 ≤ N) : callF (SS P es ep st) N 63 [.self, .stat (.ref setA)] (r.sto ls) = if r.l ≤ r.c then some (.at (.bool false), r.sto ls) else (idx r.cur r.c).bind fun x => if isV x then some (.at (.bool true), { r with c := r.c + 1 }.sto ls) else some (.at (.bool false), r.sto ls) := by
  obtain ⟨n, rfl⟩ := Nat.exists_eq_add_of_le' hN
  exact in_grouping P es ep st r ls (n + 40)
theorem out_grouping_N (N : Nat) (hN : 60 ≤ N) : callF (SS P es ep st) N 91 [.self, .stat (.ref setA)] (r.sto ls) = if r.l ≤ r.c then some (.at (.bool false), r.sto ls) else (idx r.cur r.c).bind fun x => if isV x then some (.at (.bool false), r.sto ls) else some (.at (.bool true), { r with c := r.c + 1 }.sto ls) := by
  obtain ⟨n, rfl⟩ := Nat.exists_eq_add_of_le' hN
  exact out_grouping P es ep st r ls (n + 40)
theorem find_among_N (N : Nat) (hN : 90 ≤ N) (c : Nat) (tb : Addr) (T : List Row) (hT : TabOk (SS P es ep st) tb T) (ec : r.c = c) (el : r.l = r.cur.length) (hcl : c ≤ r.cur.length) (hb1 : r.cur.length ≤ 1000) (res : Int) (co : Option Nat) (h : faR T (r.cur.drop c) = some (res, co)) :
    callF (SS P es ep st) N 133 [.self, .stat (.ref tb)] (r.sto ls) = some (.at (.int res), (coR r c co).sto ls) := by
  obtain ⟨n, rfl⟩ := Nat.exists_eq_add_of_le' hN
  exact find_among P es ep st r ls n c r.cur.length tb T hT ec el rfl hcl hb1 res co h
theorem find_among_bN (N : Nat) (hN : 90 ≤ N) (c lb : Nat) (tb : Addr) (T : List Row) (hT : TabRev (SS P es ep st) tb T) (ec : r.c = c) (el : r.lb = lb) (hlen : c ≤ r.cur.length) (hcl : lb ≤ c) (hb1 : r.cur.length ≤ 1000) (res : Int) (co : Option Nat) (h : faR T (rv r.cur c lb) = some (res, co)) :
    callF (SS P es ep st) N 140 [.self, .stat (.ref tb)] (r.sto ls) = some (.at (.int res), (coL r c co).sto ls) := by
  obtain ⟨n, rfl⟩ := Nat.exists_eq_add_of_le' hN
  exact find_among_b P es ep st r ls n c lb tb T hT ec el hlen hcl hb1 res co h
theorem part_none (c lb : Nat) (w : List Nat) (m p : Int) (hr : Ok r w c lb m p) (hc : c ≤ w.length) (hl : lb ≤ c) (hw : w.length ≤ 1000) (hx : (aT (rvT TA0) (rv w c lb)).2 = none) :
    ∃ r', (∀ N, 150 ≤ N → callF (SS P es ep st) N 237 [.self] (r.sto ls) = some (.at (.bool false), r'.sto ls)) ∧ Ok r' w c lb m p := by
  obtain ⟨cur, c', l', lb', b', k', im', ip'⟩ := r
  obtain ⟨h1, h2, h3, h4, h5, h6⟩ := hr
  dsimp only at h1 h2 h3 h4 h5 h6
  subst h1 h2 h3 h4 h5 h6
  refine ⟨⟨cur, c, cur.length, lb, b', c, some m, some p⟩, ?_, ⟨rfl, rfl, rfl, rfl, rfl, rfl⟩⟩
  have F := fun n hn => find_among_bN P es ep st ⟨cur, c, cur.length, lb, b', c, some m, some p⟩ ls n hn c lb 282 (rvT TA0) (tabRev_of (tab0 P es ep st)) rfl rfl hc hl hw 0 none (by rw [fa0, aT_none hx])
  intro N hN
  obtain ⟨n, rfl⟩ := Nat.exists_eq_add_of_le' hN
  rw [c_call (h := F237 P es ep st) (hb := rfl)]
  wide_line with [L237, S237, N237, M140, h140, G_Ind, ofVal, SA0, F, coL, atEq]
theorem part_some (c lb d : Nat) (w : List Nat) (m p : Int) (hr : Ok r w c lb m p) (hc : c ≤ w.length) (hl : lb ≤ c) (hw : w.length ≤ 1000) (hx : (aT (rvT TA0) (rv w c lb)).2 = some d) :
    ∃ r', (∀ N, 150 ≤ N → callF (SS P es ep st) N 237 [.self] (r.sto ls) = some (.at (.bool true), r'.sto ls)) ∧ Ok r' (w.take (c - d) ++ w.drop c) (c - d) lb (m - 1) p := by
  obtain ⟨cur, c', l', lb', b', k', im', ip'⟩ := r
  obtain ⟨h1, h2, h3, h4, h5, h6⟩ := hr
  dsimp only at h1 h2 h3 h4 h5 h6
  subst h1 h2 h3 h4 h5 h6
  obtain ⟨x, x1, x2, x3, x4⟩ := aT_some hx
  have dl : d ≤ c - lb := by rw [x3, ← rv_len (lb := lb) hc]; exact pre_le x2
  have d1 : 1 ≤ d := by
    have : ∀ y ∈ rvT TA0, 1 ≤ y.1.length := by decide
    rw [x3]; exact this x x1
  have v1 : ¬ x.2.2 = 0 := by
    have : ∀ y ∈ rvT TA0, ¬ y.2.2 = 0 := by decide
    exact this x x1
  have ec : (c : Int) - d = ((c - d : Nat) : Int) := by omega
  refine ⟨⟨cur.take (c - d) ++ cur.drop c, ((c - d : Nat) : Int), ((cur.take (c - d) ++ cur.drop c).length : Nat), lb, ((c - d : Nat) : Int), ((c - d : Nat) : Int), some (m - 1), some p⟩, ?_, ⟨rfl, rfl, rfl, rfl, rfl, rfl⟩⟩
  have F := fun n hn => find_among_bN P es ep st ⟨cur, c, cur.length, lb, b', c, some m, some p⟩ ls n hn c lb 282 (rvT TA0) (tabRev_of (tab0 P es ep st)) rfl rfl hc hl hw _ _ (by rw [fa0, x4])
  have D := fun n hn => slice_del_b P es ep st ⟨cur, ((c - d : Nat) : Int), cur.length, lb, ((c - d : Nat) : Int), c, some m, some p⟩ ls n hn (c - d) c rfl rfl rfl rfl (by omega) hc hw
  intro N hN
  obtain ⟨n, rfl⟩ := Nat.exists_eq_add_of_le' hN
  rw [c_call (h := F237 P es ep st) (hb := rfl)]
  wide_line with [L237, S237, N237, M140, h140, M161, h161, G_Ind, ofVal, SA0, F, coL, atEq, v1, ec, D]
theorem pron_none (c lb : Nat) (w : List Nat) (m p : Int) (hr : Ok r w c lb m p) (hc : c ≤ w.length) (hl : lb ≤ c) (hw : w.length ≤ 1000) (hx : (aT (rvT TA1) (rv w c lb)).2 = none) :
    ∃ r', (∀ N, 150 ≤ N → callF (SS P es ep st) N 244 [.self] (r.sto ls) = some (.at (.bool false), r'.sto ls)) ∧ Ok r' w c lb m p := by
  obtain ⟨cur, c', l', lb', b', k', im', ip'⟩ := r
  obtain ⟨h1, h2, h3, h4, h5, h6⟩ := hr
  dsimp only at h1 h2 h3 h4 h5 h6
  subst h1 h2 h3 h4 h5 h6
  refine ⟨⟨cur, c, cur.length, lb, b', c, some m, some p⟩, ?_, ⟨rfl, rfl, rfl, rfl, rfl, rfl⟩⟩
  have F := fun n hn => find_among_bN P es ep st ⟨cur, c, cur.length, lb, b', c, some m, some p⟩ ls n hn c lb 292 (rvT TA1) (tabRev_of (tab1 P es ep st)) rfl rfl hc hl hw 0 none (by rw [fa1', aT_none hx])
  intro N hN
  obtain ⟨n, rfl⟩ := Nat.exists_eq_add_of_le' hN
  rw [c_call (h := F244 P es ep st) (hb := rfl)]
  wide_line with [L244, S244, N244, M140, h140, G_Ind, ofVal, SA1, F, coL, atEq]
theorem pron_some (c lb d : Nat) (w : List Nat) (m p : Int) (hr : Ok r w c lb m p) (hc : c ≤ w.length) (hl : lb ≤ c) (hw : w.length ≤ 1000) (hx : (aT (rvT TA1) (rv w c lb)).2 = some d) :
    ∃ r', (∀ N, 150 ≤ N → callF (SS P es ep st) N 244 [.self] (r.sto ls) = some (.at (.bool true), r'.sto ls)) ∧ Ok r' (w.take (c - d) ++ w.drop c) (c - d) lb (m - 1) p := by
  obtain ⟨cur, c', l', lb', b', k', im', ip'⟩ := r
  obtain ⟨h1, h2, h3, h4, h5, h6⟩ := hr
  dsimp only at h1 h2 h3 h4 h5 h6
  subst h1 h2 h3 h4 h5 h6
  obtain ⟨x, x1, x2, x3, x4⟩ := aT_some hx
  have dl : d ≤ c - lb := by rw [x3, ← rv_len (lb := lb) hc]; exact pre_le x2
  have d1 : 1 ≤ d := by
    have : ∀ y ∈ rvT TA1, 1 ≤ y.1.length := by decide
    rw [x3]; exact this x x1
  have v1 : ¬ x.2.2 = 0 := by
    have : ∀ y ∈ rvT TA1, ¬ y.2.2 = 0 := by decide
    exact this x x1
  have ec : (c : Int) - d = ((c - d : Nat) : Int) := by omega
  refine ⟨⟨cur.take (c - d) ++ cur.drop c, ((c - d : Nat) : Int), ((cur.take (c - d) ++ cur.drop c).length : Nat), lb, ((c - d : Nat) : Int), ((c - d : Nat) : Int), some (m - 1), some p⟩, ?_, ⟨rfl, rfl, rfl, rfl, rfl, rfl⟩⟩
  have F := fun n hn => find_among_bN P es ep st ⟨cur, c, cur.length, lb, b', c, some m, some p⟩ ls n hn c lb 292 (rvT TA1) (tabRev_of (tab1 P es ep st)) rfl rfl hc hl hw _ _ (by rw [fa1', x4])
  have D := fun n hn => slice_del_b P es ep st ⟨cur, ((c - d : Nat) : Int), cur.length, lb, ((c - d : Nat) : Int), c, some m, some p⟩ ls n hn (c - d) c rfl rfl rfl rfl (by omega) hc hw
  intro N hN
  obtain ⟨n, rfl⟩ := Nat.exists_eq_add_of_le' hN
  rw [c_call (h := F244 P es ep st) (hb := rfl)]
  wide_line with [L244, S244, N244, M140, h140, M161, h161, G_Ind, ofVal, SA1, F, coL, atEq, v1, ec, D]
end
theorem cs_k : ((Str.ofString "k")).cps.toList = [107] := by decide +kernel
theorem cs_s : ((Str.ofString "s")).cps.toList = [115] := by decide +kernel
theorem cs_p : ((Str.ofString "p")).cps.toList = [112] := by decide +kernel
theorem cs_y : ((Str.ofString "y")).cps.toList = [121] := by decide +kernel
theorem cs_r : ((Str.ofString "r")).cps.toList = [114] := by decide +kernel
theorem cs_l : ((Str.ofString "l")).cps.toList = [108] := by decide +kernel
theorem cs_ajar : ((Str.ofString "ajar")).cps.toList = [97, 106, 97, 114] := by decide +kernel
theorem cs_er : ((Str.ofString "er")).cps.toList = [101, 114] := by decide +kernel
theorem aT2_cases (l : List Nat) : aT (rvT TA2) l = (0, none) ∨ (aT (rvT TA2) l = (2, some 1)) ∨ (aT (rvT TA2) l = (1, some 2)) := by
  cases h : (aT (rvT TA2) l).2 with
  | none => exact .inl (aT_none h)
  | some d =>
    obtain ⟨x, x1, x2, x3, x4⟩ := aT_some h
    have e : rvT TA2 = [([105], -1, 2), ([110, 97], -1, 1)] := rfl
    rw [e] at x1
    rcases List.mem_cons.mp x1 with q | q
    · subst q; rw [x4, x3]; exact .inr (.inl rfl)
    · rcases List.mem_cons.mp q with q | q
      · subst q; rw [x4, x3]; exact .inr (.inr rfl)
      · cases q
def sufx (p : Int) (lb : Nat) (w : List Nat) (c : Nat) : Option Nat :=
  if (aT (rvT TA2) (rv w c lb)).2 = none then none
  else if (aT (rvT TA2) (rv w c lb)).1 = 1 then (if (p ≠ 3 ∧ p ≠ 2) ∧ lb + 2 < c ∧ w[c - 3]? = some 107 then some 3 else if p = 1 then none else some 2)
  else if 2 < p then none else if lb + 1 < c ∧ w[c - 2]? = some 115 then none else some 1
section
variable (P : Params) (es : Array (Int × Value)) (ep : Nat) (st : SetTable) (r : St) (ls : List (List At))
theorem suf_0 (c lb : Nat) (w : List Nat) (m p : Int) (hr : Ok r w c lb m p) (hc : c ≤ w.length) (hl : lb ≤ c) (hw : w.length ≤ 1000) (hx : aT (rvT TA2) (rv w c lb) = (0, none)) : ∃ r' c', (∀ N, 200 ≤ N → callF (SS P es ep st) N 251 [.self] (r.sto ls) = some (.at (.bool false), r'.sto ls)) ∧ Ok r' w c' lb m p := by
  obtain ⟨cur, c', l', lb', b', k', im', ip'⟩ := r
  obtain ⟨h1, h2, h3, h4, h5, h6⟩ := hr
  dsimp only at h1 h2 h3 h4 h5 h6
  subst h1 h2 h3 h4 h5 h6
  have zb : big = 100000 := rfl
  have F := fun n hn => find_among_bN P es ep st ⟨cur, c, cur.length, lb, b', c, some m, some p⟩ ls n hn c lb 299 (rvT TA2) (tabRev_of (tab2 P es ep st)) rfl rfl hc hl hw _ _ (by rw [fa2', hx])
  refine ⟨⟨cur, c, cur.length, lb, b', c, some m, some p⟩, c, ?_, ⟨rfl, rfl, rfl, rfl, rfl, rfl⟩⟩
  intro N hN
  obtain ⟨n, rfl⟩ := Nat.exists_eq_add_of_le' hN
  rw [c_call (h := F251 P es ep st) (hb := rfl)]
  wide_line with [L251, S251, N251, w_step, f_nil, f_cons, M140, h140, M161, h161, G_Ind, ofVal, SA2, F, coL, atEq, cs_k, cs_s, G_lab0, X_lab0]
theorem suf_k (c lb : Nat) (w : List Nat) (m p : Int) (hr : Ok r w c lb m p) (hc : c ≤ w.length) (hl : lb ≤ c) (hw : w.length ≤ 1000) (hx : aT (rvT TA2) (rv w c lb) = (1, some 2)) (p3 : p ≠ 3) (p2 : p ≠ 2) (q1 : lb + 2 < c) (q2 : w[c - 3]? = some 107) : ∃ r', (∀ N, 200 ≤ N → callF (SS P es ep st) N 251 [.self] (r.sto ls) = some (.at (.bool true), r'.sto ls)) ∧ Ok r' (w.take (c - 3) ++ w.drop c) (c - 3) lb (m - 1) p := by
  obtain ⟨cur, c', l', lb', b', k', im', ip'⟩ := r
  obtain ⟨h1, h2, h3, h4, h5, h6⟩ := hr
  dsimp only at h1 h2 h3 h4 h5 h6
  subst h1 h2 h3 h4 h5 h6
  have zb : big = 100000 := rfl
  have F := fun n hn => find_among_bN P es ep st ⟨cur, c, cur.length, lb, b', c, some m, some p⟩ ls n hn c lb 299 (rvT TA2) (tabRev_of (tab2 P es ep st)) rfl rfl hc hl hw _ _ (by rw [fa2', hx])
  have D := fun n hn => slice_del_b P es ep st ⟨cur, ((c - 3 : Nat) : Int), cur.length, lb, ((c - 3 : Nat) : Int), c, some m, some p⟩ ls n hn (c - 3) c rfl rfl rfl rfl (by omega) hc hw
  have e2 : (c : Int) - ((2 : Nat) : Int) = ((c - 2 : Nat) : Int) := by omega
  have e2' : (c : Int) - 2 = ((c - 2 : Nat) : Int) := by omega
  have e3 : ((c - 2 : Nat) : Int) - 1 = ((c - 3 : Nat) : Int) := by omega
  have q1' : ¬ (((c - 2 : Nat) : Int) ≤ lb) := by omega
  have ix : idx cur ((c - 3 : Nat) : Int) = some 107 := by rw [idx_nat (by omega) (by omega), q2]
  refine ⟨⟨cur.take (c - 3) ++ cur.drop c, ((c - 3 : Nat) : Int), ((cur.take (c - 3) ++ cur.drop c).length : Nat), lb, ((c - 3 : Nat) : Int), ((c - 3 : Nat) : Int), some (m - 1), some p⟩, ?_, ⟨rfl, rfl, rfl, rfl, rfl, rfl⟩⟩
  intro N hN
  obtain ⟨n, rfl⟩ := Nat.exists_eq_add_of_le' hN
  rw [c_call (h := F251 P es ep st) (hb := rfl)]
  wide_line with [L251, S251, N251, w_step, f_nil, f_cons, M140, h140, M161, h161, G_Ind, ofVal, SA2, F, coL, atEq, cs_k, cs_s, G_lab0, X_lab0, D, e2, e2', e3, q1', ix, p2, p3]
theorem suf_n1 (c lb : Nat) (w : List Nat) (m p : Int) (hr : Ok r w c lb m p) (hc : c ≤ w.length) (hl : lb ≤ c) (hw : w.length ≤ 1000) (hx : aT (rvT TA2) (rv w c lb) = (1, some 2)) (hd : 2 + lb ≤ c) (hp : p = 1) (q : ¬ ((p ≠ 3 ∧ p ≠ 2) ∧ lb + 2 < c ∧ w[c - 3]? = some 107)) : ∃ r' c', (∀ N, 200 ≤ N → callF (SS P es ep st) N 251 [.self] (r.sto ls) = some (.at (.bool false), r'.sto ls)) ∧ Ok r' w c' lb m p := by
  obtain ⟨cur, c', l', lb', b', k', im', ip'⟩ := r
  obtain ⟨h1, h2, h3, h4, h5, h6⟩ := hr
  dsimp only at h1 h2 h3 h4 h5 h6
  subst h1 h2 h3 h4 h5 h6
  have zb : big = 100000 := rfl
  subst hp
  have F := fun n hn => find_among_bN P es ep st ⟨cur, c, cur.length, lb, b', c, some m, some 1⟩ ls n hn c lb 299 (rvT TA2) (tabRev_of (tab2 P es ep st)) rfl rfl hc hl hw _ _ (by rw [fa2', hx])
  have D := fun n hn => slice_del_b P es ep st ⟨cur, ((c - 2 : Nat) : Int), cur.length, lb, ((c - 2 : Nat) : Int), c, some m, some 1⟩ ls n hn (c - 2) c rfl rfl rfl rfl (by omega) hc hw
  have e2 : (c : Int) - ((2 : Nat) : Int) = ((c - 2 : Nat) : Int) := by omega
  have e2' : (c : Int) - 2 = ((c - 2 : Nat) : Int) := by omega
  refine ⟨⟨cur, ((c - 2 : Nat) : Int), cur.length, lb, ((c - 2 : Nat) : Int), c, some m, some 1⟩, c - 2, ?_, ⟨rfl, rfl, rfl, rfl, rfl, rfl⟩⟩
  intro N hN
  obtain ⟨n, rfl⟩ := Nat.exists_eq_add_of_le' hN
  rw [c_call (h := F251 P es ep st) (hb := rfl)]
  by_cases q1 : lb + 2 < c
  · have e3 : ((c - 2 : Nat) : Int) - 1 = ((c - 3 : Nat) : Int) := by omega
    have q1' : ¬ (((c - 2 : Nat) : Int) ≤ lb) := by omega
    have ix : ∃ y, idx cur ((c - 3 : Nat) : Int) = some y ∧ ¬ y = 107 := by
      rw [idx_nat (by omega) (by omega), List.getElem?_eq_getElem (by omega)]
      refine ⟨_, rfl, fun z => q ⟨⟨by decide, by decide⟩, q1, ?_⟩⟩
      rw [List.getElem?_eq_getElem (by omega), z]
    obtain ⟨y, ix, ny⟩ := ix
    wide_line with [L251, S251, N251, w_step, f_nil, f_cons, M140, h140, M161, h161, G_Ind, ofVal, SA2, F, coL, atEq, cs_k, cs_s, G_lab0, X_lab0, D, e2, e2', e3, q1', ix, ny]
  · have q1' : (((c - 2 : Nat) : Int) ≤ lb) := by omega
    wide_line with [L251, S251, N251, w_step, f_nil, f_cons, M140, h140, M161, h161, G_Ind, ofVal, SA2, F, coL, atEq, cs_k, cs_s, G_lab0, X_lab0, D, e2, e2', q1']
theorem suf_n2 (c lb : Nat) (w : List Nat) (m p : Int) (hr : Ok r w c lb m p) (hc : c ≤ w.length) (hl : lb ≤ c) (hw : w.length ≤ 1000) (hx : aT (rvT TA2) (rv w c lb) = (1, some 2)) (hd : 2 + lb ≤ c) (hp : ¬ p = 1) (q : ¬ ((p ≠ 3 ∧ p ≠ 2) ∧ lb + 2 < c ∧ w[c - 3]? = some 107)) : ∃ r', (∀ N, 200 ≤ N → callF (SS P es ep st) N 251 [.self] (r.sto ls) = some (.at (.bool true), r'.sto ls)) ∧ Ok r' (w.take (c - 2) ++ w.drop c) (c - 2) lb (m - 1) p := by
  obtain ⟨cur, c', l', lb', b', k', im', ip'⟩ := r
  obtain ⟨h1, h2, h3, h4, h5, h6⟩ := hr
  dsimp only at h1 h2 h3 h4 h5 h6
  subst h1 h2 h3 h4 h5 h6
  have zb : big = 100000 := rfl
  have F := fun n hn => find_among_bN P es ep st ⟨cur, c, cur.length, lb, b', c, some m, some p⟩ ls n hn c lb 299 (rvT TA2) (tabRev_of (tab2 P es ep st)) rfl rfl hc hl hw _ _ (by rw [fa2', hx])
  have D := fun n hn => slice_del_b P es ep st ⟨cur, ((c - 2 : Nat) : Int), cur.length, lb, ((c - 2 : Nat) : Int), c, some m, some p⟩ ls n hn (c - 2) c rfl rfl rfl rfl (by omega) hc hw
  have e2 : (c : Int) - ((2 : Nat) : Int) = ((c - 2 : Nat) : Int) := by omega
  have e2' : (c : Int) - 2 = ((c - 2 : Nat) : Int) := by omega
  refine ⟨⟨cur.take (c - 2) ++ cur.drop c, ((c - 2 : Nat) : Int), ((cur.take (c - 2) ++ cur.drop c).length : Nat), lb, ((c - 2 : Nat) : Int), ((c - 2 : Nat) : Int), some (m - 1), some p⟩, ?_, ⟨rfl, rfl, rfl, rfl, rfl, rfl⟩⟩
  intro N hN
  obtain ⟨n, rfl⟩ := Nat.exists_eq_add_of_le' hN
  rw [c_call (h := F251 P es ep st) (hb := rfl)]
  by_cases p3 : p = 3
  · subst p3
    wide_line with [L251, S251, N251, w_step, f_nil, f_cons, M140, h140, M161, h161, G_Ind, ofVal, SA2, F, coL, atEq, cs_k, cs_s, G_lab0, X_lab0, D, e2, e2']
  · by_cases p2 : p = 2
    · subst p2
      wide_line with [L251, S251, N251, w_step, f_nil, f_cons, M140, h140, M161, h161, G_Ind, ofVal, SA2, F, coL, atEq, cs_k, cs_s, G_lab0, X_lab0, D, e2, e2', p3]
    · by_cases q1 : lb + 2 < c
      · have e3 : ((c - 2 : Nat) : Int) - 1 = ((c - 3 : Nat) : Int) := by omega
        have q1' : ¬ (((c - 2 : Nat) : Int) ≤ lb) := by omega
        have ix : ∃ y, idx cur ((c - 3 : Nat) : Int) = some y ∧ ¬ y = 107 := by
          rw [idx_nat (by omega) (by omega), List.getElem?_eq_getElem (by omega)]
          refine ⟨_, rfl, fun z => q ⟨⟨p3, p2⟩, q1, ?_⟩⟩
          rw [List.getElem?_eq_getElem (by omega), z]
        obtain ⟨y, ix, ny⟩ := ix
        wide_line with [L251, S251, N251, w_step, f_nil, f_cons, M140, h140, M161, h161, G_Ind, ofVal, SA2, F, coL, atEq, cs_k, cs_s, G_lab0, X_lab0, D, e2, e2', e3, p3, p2, q1', ix, ny, hp]
      · have q1' : (((c - 2 : Nat) : Int) ≤ lb) := by omega
        wide_line with [L251, S251, N251, w_step, f_nil, f_cons, M140, h140, M161, h161, G_Ind, ofVal, SA2, F, coL, atEq, cs_k, cs_s, G_lab0, X_lab0, D, e2, e2', p3, p2, q1', hp]
theorem suf_i3 (c lb : Nat) (w : List Nat) (m p : Int) (hr : Ok r w c lb m p) (hc : c ≤ w.length) (hl : lb ≤ c) (hw : w.length ≤ 1000) (hx : aT (rvT TA2) (rv w c lb) = (2, some 1)) (hd : 1 + lb ≤ c) (hp : 2 < p) : ∃ r' c', (∀ N, 200 ≤ N → callF (SS P es ep st) N 251 [.self] (r.sto ls) = some (.at (.bool false), r'.sto ls)) ∧ Ok r' w c' lb m p := by
  obtain ⟨cur, c', l', lb', b', k', im', ip'⟩ := r
  obtain ⟨h1, h2, h3, h4, h5, h6⟩ := hr
  dsimp only at h1 h2 h3 h4 h5 h6
  subst h1 h2 h3 h4 h5 h6
  have zb : big = 100000 := rfl
  have F := fun n hn => find_among_bN P es ep st ⟨cur, c, cur.length, lb, b', c, some m, some p⟩ ls n hn c lb 299 (rvT TA2) (tabRev_of (tab2 P es ep st)) rfl rfl hc hl hw _ _ (by rw [fa2', hx])
  have e2 : (c : Int) - ((1 : Nat) : Int) = ((c - 1 : Nat) : Int) := by omega
  have e2' : (c : Int) - 1 = ((c - 1 : Nat) : Int) := by omega
  refine ⟨⟨cur, ((c - 1 : Nat) : Int), cur.length, lb, ((c - 1 : Nat) : Int), c, some m, some p⟩, c - 1, ?_, ⟨rfl, rfl, rfl, rfl, rfl, rfl⟩⟩
  intro N hN
  obtain ⟨n, rfl⟩ := Nat.exists_eq_add_of_le' hN
  rw [c_call (h := F251 P es ep st) (hb := rfl)]
  wide_line with [L251, S251, N251, w_step, f_nil, f_cons, M140, h140, M161, h161, G_Ind, ofVal, SA2, F, coL, atEq, cs_k, cs_s, G_lab0, X_lab0, e2, e2', hp]
theorem suf_is (c lb : Nat) (w : List Nat) (m p : Int) (hr : Ok r w c lb m p) (hc : c ≤ w.length) (hl : lb ≤ c) (hw : w.length ≤ 1000) (hx : aT (rvT TA2) (rv w c lb) = (2, some 1)) (hd : 1 + lb ≤ c) (hp : ¬ 2 < p) (q1 : lb + 1 < c) (q2 : w[c - 2]? = some 115) : ∃ r' c', (∀ N, 200 ≤ N → callF (SS P es ep st) N 251 [.self] (r.sto ls) = some (.at (.bool false), r'.sto ls)) ∧ Ok r' w c' lb m p := by
  obtain ⟨cur, c', l', lb', b', k', im', ip'⟩ := r
  obtain ⟨h1, h2, h3, h4, h5, h6⟩ := hr
  dsimp only at h1 h2 h3 h4 h5 h6
  subst h1 h2 h3 h4 h5 h6
  have zb : big = 100000 := rfl
  have F := fun n hn => find_among_bN P es ep st ⟨cur, c, cur.length, lb, b', c, some m, some p⟩ ls n hn c lb 299 (rvT TA2) (tabRev_of (tab2 P es ep st)) rfl rfl hc hl hw _ _ (by rw [fa2', hx])
  have e2 : (c : Int) - ((1 : Nat) : Int) = ((c - 1 : Nat) : Int) := by omega
  have e2' : (c : Int) - 1 = ((c - 1 : Nat) : Int) := by omega
  have e3 : ((c - 1 : Nat) : Int) - 1 = ((c - 2 : Nat) : Int) := by omega
  have q1' : ¬ (((c - 1 : Nat) : Int) ≤ lb) := by omega
  have ix : idx cur ((c - 2 : Nat) : Int) = some 115 := by rw [idx_nat (by omega) (by omega), q2]
  refine ⟨⟨cur, ((c - 2 : Nat) : Int), cur.length, lb, ((c - 1 : Nat) : Int), c, some m, some p⟩, c - 2, ?_, ⟨rfl, rfl, rfl, rfl, rfl, rfl⟩⟩
  intro N hN
  obtain ⟨n, rfl⟩ := Nat.exists_eq_add_of_le' hN
  rw [c_call (h := F251 P es ep st) (hb := rfl)]
  wide_line with [L251, S251, N251, w_step, f_nil, f_cons, M140, h140, M161, h161, G_Ind, ofVal, SA2, F, coL, atEq, cs_k, cs_s, G_lab0, X_lab0, e2, e2', e3, hp, q1', ix]
theorem suf_i (c lb : Nat) (w : List Nat) (m p : Int) (hr : Ok r w c lb m p) (hc : c ≤ w.length) (hl : lb ≤ c) (hw : w.length ≤ 1000) (hx : aT (rvT TA2) (rv w c lb) = (2, some 1)) (hd : 1 + lb ≤ c) (hp : ¬ 2 < p) (q : ¬ (lb + 1 < c ∧ w[c - 2]? = some 115)) : ∃ r', (∀ N, 200 ≤ N → callF (SS P es ep st) N 251 [.self] (r.sto ls) = some (.at (.bool true), r'.sto ls)) ∧ Ok r' (w.take (c - 1) ++ w.drop c) (c - 1) lb (m - 1) p := by
  obtain ⟨cur, c', l', lb', b', k', im', ip'⟩ := r
  obtain ⟨h1, h2, h3, h4, h5, h6⟩ := hr
  dsimp only at h1 h2 h3 h4 h5 h6
  subst h1 h2 h3 h4 h5 h6
  have zb : big = 100000 := rfl
  have F := fun n hn => find_among_bN P es ep st ⟨cur, c, cur.length, lb, b', c, some m, some p⟩ ls n hn c lb 299 (rvT TA2) (tabRev_of (tab2 P es ep st)) rfl rfl hc hl hw _ _ (by rw [fa2', hx])
  have D := fun n hn => slice_del_b P es ep st ⟨cur, ((c - 1 : Nat) : Int), cur.length, lb, ((c - 1 : Nat) : Int), c, some m, some p⟩ ls n hn (c - 1) c rfl rfl rfl rfl (by omega) hc hw
  have e2 : (c : Int) - ((1 : Nat) : Int) = ((c - 1 : Nat) : Int) := by omega
  have e2' : (c : Int) - 1 = ((c - 1 : Nat) : Int) := by omega
  refine ⟨⟨cur.take (c - 1) ++ cur.drop c, ((c - 1 : Nat) : Int), ((cur.take (c - 1) ++ cur.drop c).length : Nat), lb, ((c - 1 : Nat) : Int), ((c - 1 : Nat) : Int), some (m - 1), some p⟩, ?_, ⟨rfl, rfl, rfl, rfl, rfl, rfl⟩⟩
  intro N hN
  obtain ⟨n, rfl⟩ := Nat.exists_eq_add_of_le' hN
  rw [c_call (h := F251 P es ep st) (hb := rfl)]
  by_cases q1 : lb + 1 < c
  · have e3 : ((c - 1 : Nat) : Int) - 1 = ((c - 2 : Nat) : Int) := by omega
    have q1' : ¬ (((c - 1 : Nat) : Int) ≤ lb) := by omega
    have ix : ∃ y, idx cur ((c - 2 : Nat) : Int) = some y ∧ ¬ y = 115 := by
      rw [idx_nat (by omega) (by omega), List.getElem?_eq_getElem (by omega)]
      refine ⟨_, rfl, fun z => q ⟨q1, ?_⟩⟩
      rw [List.getElem?_eq_getElem (by omega), z]
    obtain ⟨y, ix, ny⟩ := ix
    wide_line with [L251, S251, N251, w_step, f_nil, f_cons, M140, h140, M161, h161, G_Ind, ofVal, SA2, F, coL, atEq, cs_k, cs_s, G_lab0, X_lab0, D, e2, e2', e3, hp, q1', ix, ny]
  · have q1' : (((c - 1 : Nat) : Int) ≤ lb) := by omega
    wide_line with [L251, S251, N251, w_step, f_nil, f_cons, M140, h140, M161, h161, G_Ind, ofVal, SA2, F, coL, atEq, cs_k, cs_s, G_lab0, X_lab0, D, e2, e2', hp, q1']
theorem sufx_some (d : Nat) (c lb : Nat) (w : List Nat) (m p : Int) (hr : Ok r w c lb m p) (hc : c ≤ w.length) (hl : lb ≤ c) (hw : w.length ≤ 1000) (h : sufx p lb w c = some d) : ∃ r', (∀ N, 200 ≤ N → callF (SS P es ep st) N 251 [.self] (r.sto ls) = some (.at (.bool true), r'.sto ls)) ∧ Ok r' (w.take (c - d) ++ w.drop c) (c - d) lb (m - 1) p ∧ d + lb ≤ c := by
  unfold sufx at h
  have hd : ∀ d, (aT (rvT TA2) (rv w c lb)).2 = some d → d + lb ≤ c := fun d e => by
    obtain ⟨x, x1, x2, x3, x4⟩ := aT_some e
    have := pre_le x2
    rw [rv_len hc, ← x3] at this
    have : 1 ≤ d := by
      have z : ∀ y ∈ rvT TA2, 1 ≤ y.1.length := by decide
      rw [x3]; exact z x x1
    omega
  rcases aT2_cases (rv w c lb) with e | e | e
  · rw [e] at h; cases h
  · have hd := hd 1 (by rw [e])
    rw [e, if_neg (by decide), if_neg (by decide)] at h
    split at h
    · cases h
    · rename_i hp
      split at h
      · cases h
      · rename_i q
        cases h
        obtain ⟨r', a, b⟩ := suf_i P es ep st r ls c lb w m p hr hc hl hw e hd hp q
        exact ⟨r', a, b, hd⟩
  · have hd := hd 2 (by rw [e])
    rw [e, if_neg (by decide), if_pos rfl] at h
    split at h
    · rename_i q
      cases h
      obtain ⟨r', a, b⟩ := suf_k P es ep st r ls c lb w m p hr hc hl hw e q.1.1 q.1.2 q.2.1 q.2.2
      exact ⟨r', a, b, by omega⟩
    · rename_i q
      split at h
      · cases h
      · rename_i hp
        cases h
        obtain ⟨r', a, b⟩ := suf_n2 P es ep st r ls c lb w m p hr hc hl hw e hd hp q
        exact ⟨r', a, b, by omega⟩
theorem sufx_none (c lb : Nat) (w : List Nat) (m p : Int) (hr : Ok r w c lb m p) (hc : c ≤ w.length) (hl : lb ≤ c) (hw : w.length ≤ 1000) (h : sufx p lb w c = none) : ∃ r' c', (∀ N, 200 ≤ N → callF (SS P es ep st) N 251 [.self] (r.sto ls) = some (.at (.bool false), r'.sto ls)) ∧ Ok r' w c' lb m p := by
  unfold sufx at h
  have hd : ∀ d, (aT (rvT TA2) (rv w c lb)).2 = some d → d + lb ≤ c := fun d e => by
    obtain ⟨x, x1, x2, x3, x4⟩ := aT_some e
    have := pre_le x2
    rw [rv_len hc, ← x3] at this
    have : 1 ≤ d := by
      have z : ∀ y ∈ rvT TA2, 1 ≤ y.1.length := by decide
      rw [x3]; exact z x x1
    omega
  rcases aT2_cases (rv w c lb) with e | e | e
  · exact suf_0 P es ep st r ls c lb w m p hr hc hl hw e
  · have hd := hd 1 (by rw [e])
    rw [e, if_neg (by decide), if_neg (by decide)] at h
    split at h
    · rename_i hp
      exact suf_i3 P es ep st r ls c lb w m p hr hc hl hw e hd hp
    · rename_i hp
      split at h
      · rename_i q
        exact suf_is P es ep st r ls c lb w m p hr hc hl hw e hd hp q.1 q.2
      · cases h
  · have hd := hd 2 (by rw [e])
    rw [e, if_neg (by decide), if_pos rfl] at h
    split at h
    · cases h
    · rename_i q
      split at h
      · rename_i hp
        exact suf_n1 P es ep st r ls c lb w m p hr hc hl hw e hd hp q
      · cases h
end
def vAt (w : List Nat) (i : Nat) : Bool := match w[i]? with
  | some x => decide (isV x)
  | none => false
theorem vAt_iff {w : List Nat} {i : Nat} : vAt w i = true ↔ ∃ x, w[i]? = some x ∧ isV x := by
  unfold vAt
  cases w[i]? with
  | none => simp
  | some x => simp
section
variable (P : Params) (es : Array (Int × Value)) (ep : Nat) (st : SetTable) (r : St) (ls : List (List At))
theorem in_yes (N : Nat) (hN : 60 ≤ N) (c : Nat) (ec : r.c = c) (el : r.l = r.cur.length) (hb : r.cur.length ≤ 1000) (h : vAt r.cur c = true) : callF (SS P es ep st) N 63 [.self, .stat (.ref setA)] (r.sto ls) = some (.at (.bool true), { r with c := ((c + 1 : Nat) : Int) }.sto ls) := by
  have zb : big = 100000 := rfl
  obtain ⟨x, h1, h2⟩ := vAt_iff.mp h
  have lt : c < r.cur.length := by
    rcases Nat.lt_or_ge c r.cur.length with q | q
    · exact q
    · rw [List.getElem?_eq_none q] at h1; cases h1
  rw [in_grouping_N P es ep st r ls N hN, ec, el, if_neg (by omega), idx_nat (by omega) lt, h1, Option.bind_some, if_pos h2]
  rfl
theorem in_no (N : Nat) (hN : 60 ≤ N) (c : Nat) (ec : r.c = c) (el : r.l = r.cur.length) (hb : r.cur.length ≤ 1000) (h : vAt r.cur c = false) : callF (SS P es ep st) N 63 [.self, .stat (.ref setA)] (r.sto ls) = some (.at (.bool false), r.sto ls) := by
  have zb : big = 100000 := rfl
  rw [in_grouping_N P es ep st r ls N hN, ec, el]
  by_cases q : (r.cur.length : Int) ≤ c
  · rw [if_pos q]
  · have lt : c < r.cur.length := by omega
    rw [if_neg q, idx_nat (by omega) lt]
    cases e : r.cur[c]? with
    | none => rw [List.getElem?_eq_getElem lt] at e; cases e
    | some x =>
      rw [Option.bind_some, if_neg]
      intro z
      rw [vAt_iff.mpr ⟨x, e, z⟩] at h
      cases h
def cAt (w : List Nat) (i : Nat) : Bool := decide (i < w.length) && !vAt w i
theorem out_yes (N : Nat) (hN : 60 ≤ N) (c : Nat) (ec : r.c = c) (el : r.l = r.cur.length) (hb : r.cur.length ≤ 1000) (h : cAt r.cur c = true) : callF (SS P es ep st) N 91 [.self, .stat (.ref setA)] (r.sto ls) = some (.at (.bool true), { r with c := ((c + 1 : Nat) : Int) }.sto ls) := by
  have zb : big = 100000 := rfl
  unfold cAt at h
  rw [Bool.and_eq_true, decide_eq_true_eq, Bool.not_eq_true'] at h
  obtain ⟨lt, h⟩ := h
  rw [out_grouping_N P es ep st r ls N hN, ec, el, if_neg (by omega), idx_nat (by omega) lt, List.getElem?_eq_getElem lt, Option.bind_some, if_neg]
  · rfl
  · intro z
    rw [vAt_iff.mpr ⟨_, List.getElem?_eq_getElem lt, z⟩] at h
    cases h
theorem out_no (N : Nat) (hN : 60 ≤ N) (c : Nat) (ec : r.c = c) (el : r.l = r.cur.length) (hb : r.cur.length ≤ 1000) (h : cAt r.cur c = false) : callF (SS P es ep st) N 91 [.self, .stat (.ref setA)] (r.sto ls) = some (.at (.bool false), r.sto ls) := by
  have zb : big = 100000 := rfl
  rw [out_grouping_N P es ep st r ls N hN, ec, el]
  by_cases q : (r.cur.length : Int) ≤ c
  · rw [if_pos q]
  · have lt : c < r.cur.length := by omega
    unfold cAt at h
    rw [decide_eq_true lt, Bool.true_and, Bool.not_eq_false'] at h
    obtain ⟨x, h1, h2⟩ := vAt_iff.mp h
    rw [if_neg q, idx_nat (by omega) lt, h1, Option.bind_some, if_pos h2]
theorem fst_0 (w : List Nat) (m p : Int) (hr : Ok r w 0 0 m p) (hw : w.length ≤ 1000) (hx : aT TA3 w = (0, none)) : ∃ r', (∀ N, 250 ≤ N → callF (SS P es ep st) N 258 [.self] (r.sto ls) = some (.at (.bool false), r'.sto ls)) ∧ Ok r' w 0 0 m p := by
  obtain ⟨cur, c', l', lb', b', k', im', ip'⟩ := r
  obtain ⟨h1, h2, h3, h4, h5, h6⟩ := hr
  dsimp only at h1 h2 h3 h4 h5 h6
  subst h1 h2 h3 h4 h5 h6
  have zb : big = 100000 := rfl
  have F := fun n hn => find_among_N P es ep st ⟨cur, ((0 : Nat) : Int), cur.length, ((0 : Nat) : Int), ((0 : Nat) : Int), k', some m, some p⟩ ls n hn 0 330 TA3 (tab3 P es ep st) rfl rfl (Nat.zero_le _) hw 0 none (by rw [fa3]; exact congrArg some hx)
  refine ⟨⟨cur, ((0 : Nat) : Int), cur.length, ((0 : Nat) : Int), ((0 : Nat) : Int), k', some m, some p⟩, ?_, ⟨rfl, rfl, rfl, rfl, rfl, rfl⟩⟩
  intro N hN
  obtain ⟨n, rfl⟩ := Nat.exists_eq_add_of_le' hN
  rw [c_call (h := F258 P es ep st) (hb := rfl)]
  wide_line with [L258, S258, N258, w_step, f_nil, f_cons, M133, h133, M161, h161, M154, h154, M63, h63, G_Ind, ofVal, SA3, SAv, F, coR, atEq, cs_s, cs_p, cs_y, G_lab0, X_lab0]
theorem fst_1 (w : List Nat) (m p : Int) (hr : Ok r w 0 0 m p) (hw : w.length ≤ 1000) (d : Nat) (hd : d ≤ w.length) (hx : aT TA3 w = (1, some d)) : ∃ r', (∀ N, 250 ≤ N → callF (SS P es ep st) N 258 [.self] (r.sto ls) = some (.at (.bool true), r'.sto ls)) ∧ Ok r' (w.drop d) 0 0 (m - 1) 1 := by
  obtain ⟨cur, c', l', lb', b', k', im', ip'⟩ := r
  obtain ⟨h1, h2, h3, h4, h5, h6⟩ := hr
  dsimp only at h1 h2 h3 h4 h5 h6
  subst h1 h2 h3 h4 h5 h6
  have zb : big = 100000 := rfl
  have F := fun n hn => find_among_N P es ep st ⟨cur, ((0 : Nat) : Int), cur.length, ((0 : Nat) : Int), ((0 : Nat) : Int), k', some m, some p⟩ ls n hn 0 330 TA3 (tab3 P es ep st) rfl rfl (Nat.zero_le _) hw 1 (some d) (by rw [fa3]; exact congrArg some hx)
  have e0 : ((0 : Nat) : Int) + ((d : Nat) : Int) = ((d : Nat) : Int) := by omega
  have D := fun n hn => slice_del_k P es ep st ⟨cur, ((d : Nat) : Int), cur.length, ((0 : Nat) : Int), ((0 : Nat) : Int), ((d : Nat) : Int), some m, some p⟩ ls n hn 0 d rfl rfl rfl rfl (Nat.zero_le _) hd hw
  refine ⟨⟨cur.take 0 ++ cur.drop d, ((0 : Nat) : Int), ((cur.take 0 ++ cur.drop d).length : Nat), ((0 : Nat) : Int), ((0 : Nat) : Int), ((0 : Nat) : Int), some (m - 1), some 1⟩, ?_, ⟨rfl, rfl, rfl, rfl, rfl, rfl⟩⟩
  intro N hN
  obtain ⟨n, rfl⟩ := Nat.exists_eq_add_of_le' hN
  rw [c_call (h := F258 P es ep st) (hb := rfl)]
  wide_line with [L258, S258, N258, w_step, f_nil, f_cons, M133, h133, M161, h161, M154, h154, M63, h63, G_Ind, ofVal, SA3, SAv, F, coR, atEq, cs_s, cs_p, cs_y, G_lab0, X_lab0, D, e0]
theorem fst_3 (w : List Nat) (m p : Int) (hr : Ok r w 0 0 m p) (hw : w.length ≤ 1000) (d : Nat) (hd : d ≤ w.length) (hx : aT TA3 w = (3, some d)) : ∃ r', (∀ N, 250 ≤ N → callF (SS P es ep st) N 258 [.self] (r.sto ls) = some (.at (.bool true), r'.sto ls)) ∧ Ok r' (w.drop d) 0 0 (m - 1) 3 := by
  obtain ⟨cur, c', l', lb', b', k', im', ip'⟩ := r
  obtain ⟨h1, h2, h3, h4, h5, h6⟩ := hr
  dsimp only at h1 h2 h3 h4 h5 h6
  subst h1 h2 h3 h4 h5 h6
  have zb : big = 100000 := rfl
  have F := fun n hn => find_among_N P es ep st ⟨cur, ((0 : Nat) : Int), cur.length, ((0 : Nat) : Int), ((0 : Nat) : Int), k', some m, some p⟩ ls n hn 0 330 TA3 (tab3 P es ep st) rfl rfl (Nat.zero_le _) hw 3 (some d) (by rw [fa3]; exact congrArg some hx)
  have e0 : ((0 : Nat) : Int) + ((d : Nat) : Int) = ((d : Nat) : Int) := by omega
  have D := fun n hn => slice_del_k P es ep st ⟨cur, ((d : Nat) : Int), cur.length, ((0 : Nat) : Int), ((0 : Nat) : Int), ((d : Nat) : Int), some m, some p⟩ ls n hn 0 d rfl rfl rfl rfl (Nat.zero_le _) hd hw
  refine ⟨⟨cur.take 0 ++ cur.drop d, ((0 : Nat) : Int), ((cur.take 0 ++ cur.drop d).length : Nat), ((0 : Nat) : Int), ((0 : Nat) : Int), ((0 : Nat) : Int), some (m - 1), some 3⟩, ?_, ⟨rfl, rfl, rfl, rfl, rfl, rfl⟩⟩
  intro N hN
  obtain ⟨n, rfl⟩ := Nat.exists_eq_add_of_le' hN
  rw [c_call (h := F258 P es ep st) (hb := rfl)]
  wide_line with [L258, S258, N258, w_step, f_nil, f_cons, M133, h133, M161, h161, M154, h154, M63, h63, G_Ind, ofVal, SA3, SAv, F, coR, atEq, cs_s, cs_p, cs_y, G_lab0, X_lab0, D, e0]
theorem fst_2a (w : List Nat) (m p : Int) (hr : Ok r w 0 0 m p) (hw : w.length ≤ 1000) (d : Nat) (hd : d ≤ w.length) (hx : aT TA3 w = (2, some d)) (q1 : w[d]? = some 121) (q2 : vAt w (d + 1) = true) : ∃ r', (∀ N, 250 ≤ N → callF (SS P es ep st) N 258 [.self] (r.sto ls) = some (.at (.bool true), r'.sto ls)) ∧ Ok r' (115 :: w.drop (d + 1)) 1 0 (m - 1) 1 := by
  obtain ⟨cur, c', l', lb', b', k', im', ip'⟩ := r
  obtain ⟨h1, h2, h3, h4, h5, h6⟩ := hr
  dsimp only at h1 h2 h3 h4 h5 h6
  subst h1 h2 h3 h4 h5 h6
  have zb : big = 100000 := rfl
  have F := fun n hn => find_among_N P es ep st ⟨cur, ((0 : Nat) : Int), cur.length, ((0 : Nat) : Int), ((0 : Nat) : Int), k', some m, some p⟩ ls n hn 0 330 TA3 (tab3 P es ep st) rfl rfl (Nat.zero_le _) hw 2 (some d) (by rw [fa3]; exact congrArg some hx)
  have e0 : ((0 : Nat) : Int) + ((d : Nat) : Int) = ((d : Nat) : Int) := by omega
  have lt : d < cur.length := by
    rcases Nat.lt_or_ge d cur.length with q | q
    · exact q
    · rw [List.getElem?_eq_none q] at q1; cases q1
  have D := fun n hn => slice_from_k P es ep st ⟨cur, ((d + 1 : Nat) : Int), cur.length, ((0 : Nat) : Int), ((0 : Nat) : Int), ((d + 1 : Nat) : Int), some m, some p⟩ ls n hn 0 (d + 1) [115] rfl rfl rfl rfl (Nat.zero_le _) lt hw (by decide)
  have I := fun n hn => in_yes P es ep st ⟨cur, ((d + 1 : Nat) : Int), cur.length, ((0 : Nat) : Int), ((0 : Nat) : Int), ((d : Nat) : Int), some m, some p⟩ ls n hn (d + 1) rfl rfl hw q2
  have ne : ¬ ((d : Int) = cur.length) := by omega
  have ix : idx cur (d : Int) = some 121 := by rw [idx_nat (by omega) lt, q1]
  have e1 : (d : Int) + 1 = ((d + 1 : Nat) : Int) := by omega
  refine ⟨⟨cur.take 0 ++ [115] ++ cur.drop (d + 1), ((0 + [115].length : Nat) : Int), ((cur.take 0 ++ [115] ++ cur.drop (d + 1)).length : Nat), ((0 : Nat) : Int), ((0 : Nat) : Int), ((0 + [115].length : Nat) : Int), some (m - 1), some 1⟩, ?_, ⟨rfl, rfl, rfl, rfl, rfl, rfl⟩⟩
  intro N hN
  obtain ⟨n, rfl⟩ := Nat.exists_eq_add_of_le' hN
  rw [c_call (h := F258 P es ep st) (hb := rfl)]
  wide_line with [L258, S258, N258, w_step, f_nil, f_cons, M133, h133, M161, h161, M154, h154, M63, h63, G_Ind, ofVal, SA3, SAv, F, coR, atEq, cs_s, cs_p, cs_y, G_lab0, X_lab0, D, I, e0, ne, ix, e1]
theorem fst_2b (w : List Nat) (m p : Int) (hr : Ok r w 0 0 m p) (hw : w.length ≤ 1000) (d : Nat) (hd : d ≤ w.length) (hx : aT TA3 w = (2, some d)) (q : ¬ (w[d]? = some 121 ∧ vAt w (d + 1) = true)) : ∃ r', (∀ N, 250 ≤ N → callF (SS P es ep st) N 258 [.self] (r.sto ls) = some (.at (.bool true), r'.sto ls)) ∧ Ok r' (w.drop d) 0 0 (m - 1) 1 := by
  obtain ⟨cur, c', l', lb', b', k', im', ip'⟩ := r
  obtain ⟨h1, h2, h3, h4, h5, h6⟩ := hr
  dsimp only at h1 h2 h3 h4 h5 h6
  subst h1 h2 h3 h4 h5 h6
  have zb : big = 100000 := rfl
  have F := fun n hn => find_among_N P es ep st ⟨cur, ((0 : Nat) : Int), cur.length, ((0 : Nat) : Int), ((0 : Nat) : Int), k', some m, some p⟩ ls n hn 0 330 TA3 (tab3 P es ep st) rfl rfl (Nat.zero_le _) hw 2 (some d) (by rw [fa3]; exact congrArg some hx)
  have e0 : ((0 : Nat) : Int) + ((d : Nat) : Int) = ((d : Nat) : Int) := by omega
  have D := fun n hn => slice_del_k P es ep st ⟨cur, ((d : Nat) : Int), cur.length, ((0 : Nat) : Int), ((0 : Nat) : Int), ((d : Nat) : Int), some m, some p⟩ ls n hn 0 d rfl rfl rfl rfl (Nat.zero_le _) hd hw
  have e1 : (d : Int) + 1 = ((d + 1 : Nat) : Int) := by omega
  refine ⟨⟨cur.take 0 ++ cur.drop d, ((0 : Nat) : Int), ((cur.take 0 ++ cur.drop d).length : Nat), ((0 : Nat) : Int), ((0 : Nat) : Int), ((0 : Nat) : Int), some (m - 1), some 1⟩, ?_, ⟨rfl, rfl, rfl, rfl, rfl, rfl⟩⟩
  intro N hN
  obtain ⟨n, rfl⟩ := Nat.exists_eq_add_of_le' hN
  rw [c_call (h := F258 P es ep st) (hb := rfl)]
  by_cases lt : d < cur.length
  · have ne : ¬ ((d : Int) = cur.length) := by omega
    by_cases q1 : cur[d]? = some 121
    · have q2 : vAt cur (d + 1) = false := by
        cases z : vAt cur (d + 1) with
        | false => rfl
        | true => exact absurd ⟨q1, z⟩ q
      have I := fun n hn => in_no P es ep st ⟨cur, ((d + 1 : Nat) : Int), cur.length, ((0 : Nat) : Int), ((0 : Nat) : Int), ((d : Nat) : Int), some m, some p⟩ ls n hn (d + 1) rfl rfl hw q2
      have ix : idx cur (d : Int) = some 121 := by rw [idx_nat (by omega) lt, q1]
      wide_line with [L258, S258, N258, w_step, f_nil, f_cons, M133, h133, M161, h161, M154, h154, M63, h63, G_Ind, ofVal, SA3, SAv, F, coR, atEq, cs_s, cs_p, cs_y, G_lab0, X_lab0, D, I, e0, ne, ix, e1]
    · have ix : ∃ y, idx cur (d : Int) = some y ∧ ¬ y = 121 := by
        rw [idx_nat (by omega) lt, List.getElem?_eq_getElem lt]
        refine ⟨_, rfl, fun z => q1 ?_⟩
        rw [List.getElem?_eq_getElem lt, z]
      obtain ⟨y, ix, ny⟩ := ix
      wide_line with [L258, S258, N258, w_step, f_nil, f_cons, M133, h133, M161, h161, M154, h154, M63, h63, G_Ind, ofVal, SA3, SAv, F, coR, atEq, cs_s, cs_p, cs_y, G_lab0, X_lab0, D, e0, ne, ix, ny]
  · have ne : ((d : Int) = cur.length) = True := eq_true (by omega)
    wide_line with [L258, S258, N258, w_step, f_nil, f_cons, M133, h133, M161, h161, M154, h154, M63, h63, G_Ind, ofVal, SA3, SAv, F, coR, atEq, cs_s, cs_p, cs_y, G_lab0, X_lab0, D, e0, ne]
theorem fst_4a (w : List Nat) (m p : Int) (hr : Ok r w 0 0 m p) (hw : w.length ≤ 1000) (d : Nat) (hd : d ≤ w.length) (hx : aT TA3 w = (4, some d)) (q1 : w[d]? = some 121) (q2 : vAt w (d + 1) = true) : ∃ r', (∀ N, 250 ≤ N → callF (SS P es ep st) N 258 [.self] (r.sto ls) = some (.at (.bool true), r'.sto ls)) ∧ Ok r' (115 :: w.drop (d + 1)) 1 0 (m - 1) 3 := by
  obtain ⟨cur, c', l', lb', b', k', im', ip'⟩ := r
  obtain ⟨h1, h2, h3, h4, h5, h6⟩ := hr
  dsimp only at h1 h2 h3 h4 h5 h6
  subst h1 h2 h3 h4 h5 h6
  have zb : big = 100000 := rfl
  have F := fun n hn => find_among_N P es ep st ⟨cur, ((0 : Nat) : Int), cur.length, ((0 : Nat) : Int), ((0 : Nat) : Int), k', some m, some p⟩ ls n hn 0 330 TA3 (tab3 P es ep st) rfl rfl (Nat.zero_le _) hw 4 (some d) (by rw [fa3]; exact congrArg some hx)
  have e0 : ((0 : Nat) : Int) + ((d : Nat) : Int) = ((d : Nat) : Int) := by omega
  have lt : d < cur.length := by
    rcases Nat.lt_or_ge d cur.length with q | q
    · exact q
    · rw [List.getElem?_eq_none q] at q1; cases q1
  have D := fun n hn => slice_from_k P es ep st ⟨cur, ((d + 1 : Nat) : Int), cur.length, ((0 : Nat) : Int), ((0 : Nat) : Int), ((d + 1 : Nat) : Int), some m, some p⟩ ls n hn 0 (d + 1) [115] rfl rfl rfl rfl (Nat.zero_le _) lt hw (by decide)
  have I := fun n hn => in_yes P es ep st ⟨cur, ((d + 1 : Nat) : Int), cur.length, ((0 : Nat) : Int), ((0 : Nat) : Int), ((d : Nat) : Int), some m, some p⟩ ls n hn (d + 1) rfl rfl hw q2
  have ne : ¬ ((d : Int) = cur.length) := by omega
  have ix : idx cur (d : Int) = some 121 := by rw [idx_nat (by omega) lt, q1]
  have e1 : (d : Int) + 1 = ((d + 1 : Nat) : Int) := by omega
  refine ⟨⟨cur.take 0 ++ [115] ++ cur.drop (d + 1), ((0 + [115].length : Nat) : Int), ((cur.take 0 ++ [115] ++ cur.drop (d + 1)).length : Nat), ((0 : Nat) : Int), ((0 : Nat) : Int), ((0 + [115].length : Nat) : Int), some (m - 1), some 3⟩, ?_, ⟨rfl, rfl, rfl, rfl, rfl, rfl⟩⟩
  intro N hN
  obtain ⟨n, rfl⟩ := Nat.exists_eq_add_of_le' hN
  rw [c_call (h := F258 P es ep st) (hb := rfl)]
  wide_line with [L258, S258, N258, w_step, f_nil, f_cons, M133, h133, M161, h161, M154, h154, M63, h63, G_Ind, ofVal, SA3, SAv, F, coR, atEq, cs_s, cs_p, cs_y, G_lab0, X_lab0, D, I, e0, ne, ix, e1]
theorem fst_4b (w : List Nat) (m p : Int) (hr : Ok r w 0 0 m p) (hw : w.length ≤ 1000) (d : Nat) (hd : d ≤ w.length) (hx : aT TA3 w = (4, some d)) (q : ¬ (w[d]? = some 121 ∧ vAt w (d + 1) = true)) : ∃ r', (∀ N, 250 ≤ N → callF (SS P es ep st) N 258 [.self] (r.sto ls) = some (.at (.bool true), r'.sto ls)) ∧ Ok r' (w.drop d) 0 0 (m - 1) 3 := by
  obtain ⟨cur, c', l', lb', b', k', im', ip'⟩ := r
  obtain ⟨h1, h2, h3, h4, h5, h6⟩ := hr
  dsimp only at h1 h2 h3 h4 h5 h6
  subst h1 h2 h3 h4 h5 h6
  have zb : big = 100000 := rfl
  have F := fun n hn => find_among_N P es ep st ⟨cur, ((0 : Nat) : Int), cur.length, ((0 : Nat) : Int), ((0 : Nat) : Int), k', some m, some p⟩ ls n hn 0 330 TA3 (tab3 P es ep st) rfl rfl (Nat.zero_le _) hw 4 (some d) (by rw [fa3]; exact congrArg some hx)
  have e0 : ((0 : Nat) : Int) + ((d : Nat) : Int) = ((d : Nat) : Int) := by omega
  have D := fun n hn => slice_del_k P es ep st ⟨cur, ((d : Nat) : Int), cur.length, ((0 : Nat) : Int), ((0 : Nat) : Int), ((d : Nat) : Int), some m, some p⟩ ls n hn 0 d rfl rfl rfl rfl (Nat.zero_le _) hd hw
  have e1 : (d : Int) + 1 = ((d + 1 : Nat) : Int) := by omega
  refine ⟨⟨cur.take 0 ++ cur.drop d, ((0 : Nat) : Int), ((cur.take 0 ++ cur.drop d).length : Nat), ((0 : Nat) : Int), ((0 : Nat) : Int), ((0 : Nat) : Int), some (m - 1), some 3⟩, ?_, ⟨rfl, rfl, rfl, rfl, rfl, rfl⟩⟩
  intro N hN
  obtain ⟨n, rfl⟩ := Nat.exists_eq_add_of_le' hN
  rw [c_call (h := F258 P es ep st) (hb := rfl)]
  by_cases lt : d < cur.length
  · have ne : ¬ ((d : Int) = cur.length) := by omega
    by_cases q1 : cur[d]? = some 121
    · have q2 : vAt cur (d + 1) = false := by
        cases z : vAt cur (d + 1) with
        | false => rfl
        | true => exact absurd ⟨q1, z⟩ q
      have I := fun n hn => in_no P es ep st ⟨cur, ((d + 1 : Nat) : Int), cur.length, ((0 : Nat) : Int), ((0 : Nat) : Int), ((d : Nat) : Int), some m, some p⟩ ls n hn (d + 1) rfl rfl hw q2
      have ix : idx cur (d : Int) = some 121 := by rw [idx_nat (by omega) lt, q1]
      wide_line with [L258, S258, N258, w_step, f_nil, f_cons, M133, h133, M161, h161, M154, h154, M63, h63, G_Ind, ofVal, SA3, SAv, F, coR, atEq, cs_s, cs_p, cs_y, G_lab0, X_lab0, D, I, e0, ne, ix, e1]
    · have ix : ∃ y, idx cur (d : Int) = some y ∧ ¬ y = 121 := by
        rw [idx_nat (by omega) lt, List.getElem?_eq_getElem lt]
        refine ⟨_, rfl, fun z => q1 ?_⟩
        rw [List.getElem?_eq_getElem lt, z]
      obtain ⟨y, ix, ny⟩ := ix
      wide_line with [L258, S258, N258, w_step, f_nil, f_cons, M133, h133, M161, h161, M154, h154, M63, h63, G_Ind, ofVal, SA3, SAv, F, coR, atEq, cs_s, cs_p, cs_y, G_lab0, X_lab0, D, e0, ne, ix, ny]
  · have ne : ((d : Int) = cur.length) = True := eq_true (by omega)
    wide_line with [L258, S258, N258, w_step, f_nil, f_cons, M133, h133, M161, h161, M154, h154, M63, h63, G_Ind, ofVal, SA3, SAv, F, coR, atEq, cs_s, cs_p, cs_y, G_lab0, X_lab0, D, e0, ne]
theorem fst_5a (w : List Nat) (m p : Int) (hr : Ok r w 0 0 m p) (hw : w.length ≤ 1000) (d : Nat) (hd : d ≤ w.length) (hx : aT TA3 w = (5, some d)) (q2 : vAt w d = true) : ∃ r', (∀ N, 250 ≤ N → callF (SS P es ep st) N 258 [.self] (r.sto ls) = some (.at (.bool true), r'.sto ls)) ∧ Ok r' (112 :: w.drop d) 1 0 (m - 1) 1 := by
  obtain ⟨cur, c', l', lb', b', k', im', ip'⟩ := r
  obtain ⟨h1, h2, h3, h4, h5, h6⟩ := hr
  dsimp only at h1 h2 h3 h4 h5 h6
  subst h1 h2 h3 h4 h5 h6
  have zb : big = 100000 := rfl
  have F := fun n hn => find_among_N P es ep st ⟨cur, ((0 : Nat) : Int), cur.length, ((0 : Nat) : Int), ((0 : Nat) : Int), k', some m, some p⟩ ls n hn 0 330 TA3 (tab3 P es ep st) rfl rfl (Nat.zero_le _) hw 5 (some d) (by rw [fa3]; exact congrArg some hx)
  have e0 : ((0 : Nat) : Int) + ((d : Nat) : Int) = ((d : Nat) : Int) := by omega
  have D := fun n hn => slice_from_k P es ep st ⟨cur, ((d : Nat) : Int), cur.length, ((0 : Nat) : Int), ((0 : Nat) : Int), ((d : Nat) : Int), some (m - 1), some 1⟩ ls n hn 0 d [112] rfl rfl rfl rfl (Nat.zero_le _) hd hw (by decide)
  have I := fun n hn => in_yes P es ep st ⟨cur, ((d : Nat) : Int), cur.length, ((0 : Nat) : Int), ((0 : Nat) : Int), ((d : Nat) : Int), some (m - 1), some 1⟩ ls n hn d rfl rfl hw q2
  refine ⟨⟨cur.take 0 ++ [112] ++ cur.drop d, ((0 + [112].length : Nat) : Int), ((cur.take 0 ++ [112] ++ cur.drop d).length : Nat), ((0 : Nat) : Int), ((0 : Nat) : Int), ((0 + [112].length : Nat) : Int), some (m - 1), some 1⟩, ?_, ⟨rfl, rfl, rfl, rfl, rfl, rfl⟩⟩
  intro N hN
  obtain ⟨n, rfl⟩ := Nat.exists_eq_add_of_le' hN
  rw [c_call (h := F258 P es ep st) (hb := rfl)]
  wide_line with [L258, S258, N258, w_step, f_nil, f_cons, M133, h133, M161, h161, M154, h154, M63, h63, G_Ind, ofVal, SA3, SAv, F, coR, atEq, cs_s, cs_p, cs_y, G_lab0, X_lab0, D, I, e0]
theorem fst_5b (w : List Nat) (m p : Int) (hr : Ok r w 0 0 m p) (hw : w.length ≤ 1000) (d : Nat) (hd : d ≤ w.length) (hx : aT TA3 w = (5, some d)) (q2 : vAt w d = false) : ∃ r', (∀ N, 250 ≤ N → callF (SS P es ep st) N 258 [.self] (r.sto ls) = some (.at (.bool true), r'.sto ls)) ∧ Ok r' (w.drop d) 0 0 (m - 1) 1 := by
  obtain ⟨cur, c', l', lb', b', k', im', ip'⟩ := r
  obtain ⟨h1, h2, h3, h4, h5, h6⟩ := hr
  dsimp only at h1 h2 h3 h4 h5 h6
  subst h1 h2 h3 h4 h5 h6
  have zb : big = 100000 := rfl
  have F := fun n hn => find_among_N P es ep st ⟨cur, ((0 : Nat) : Int), cur.length, ((0 : Nat) : Int), ((0 : Nat) : Int), k', some m, some p⟩ ls n hn 0 330 TA3 (tab3 P es ep st) rfl rfl (Nat.zero_le _) hw 5 (some d) (by rw [fa3]; exact congrArg some hx)
  have e0 : ((0 : Nat) : Int) + ((d : Nat) : Int) = ((d : Nat) : Int) := by omega
  have D := fun n hn => slice_del_k P es ep st ⟨cur, ((d : Nat) : Int), cur.length, ((0 : Nat) : Int), ((0 : Nat) : Int), ((d : Nat) : Int), some (m - 1), some 1⟩ ls n hn 0 d rfl rfl rfl rfl (Nat.zero_le _) hd hw
  have I := fun n hn => in_no P es ep st ⟨cur, ((d : Nat) : Int), cur.length, ((0 : Nat) : Int), ((0 : Nat) : Int), ((d : Nat) : Int), some (m - 1), some 1⟩ ls n hn d rfl rfl hw q2
  refine ⟨⟨cur.take 0 ++ cur.drop d, ((0 : Nat) : Int), ((cur.take 0 ++ cur.drop d).length : Nat), ((0 : Nat) : Int), ((0 : Nat) : Int), ((0 : Nat) : Int), some (m - 1), some 1⟩, ?_, ⟨rfl, rfl, rfl, rfl, rfl, rfl⟩⟩
  intro N hN
  obtain ⟨n, rfl⟩ := Nat.exists_eq_add_of_le' hN
  rw [c_call (h := F258 P es ep st) (hb := rfl)]
  wide_line with [L258, S258, N258, w_step, f_nil, f_cons, M133, h133, M161, h161, M154, h154, M63, h63, G_Ind, ofVal, SA3, SAv, F, coR, atEq, cs_s, cs_p, cs_y, G_lab0, X_lab0, D, I, e0]
theorem fst_6a (w : List Nat) (m p : Int) (hr : Ok r w 0 0 m p) (hw : w.length ≤ 1000) (d : Nat) (hd : d ≤ w.length) (hx : aT TA3 w = (6, some d)) (q2 : vAt w d = true) : ∃ r', (∀ N, 250 ≤ N → callF (SS P es ep st) N 258 [.self] (r.sto ls) = some (.at (.bool true), r'.sto ls)) ∧ Ok r' (112 :: w.drop d) 1 0 (m - 1) 3 := by
  obtain ⟨cur, c', l', lb', b', k', im', ip'⟩ := r
  obtain ⟨h1, h2, h3, h4, h5, h6⟩ := hr
  dsimp only at h1 h2 h3 h4 h5 h6
  subst h1 h2 h3 h4 h5 h6
  have zb : big = 100000 := rfl
  have F := fun n hn => find_among_N P es ep st ⟨cur, ((0 : Nat) : Int), cur.length, ((0 : Nat) : Int), ((0 : Nat) : Int), k', some m, some p⟩ ls n hn 0 330 TA3 (tab3 P es ep st) rfl rfl (Nat.zero_le _) hw 6 (some d) (by rw [fa3]; exact congrArg some hx)
  have e0 : ((0 : Nat) : Int) + ((d : Nat) : Int) = ((d : Nat) : Int) := by omega
  have D := fun n hn => slice_from_k P es ep st ⟨cur, ((d : Nat) : Int), cur.length, ((0 : Nat) : Int), ((0 : Nat) : Int), ((d : Nat) : Int), some (m - 1), some 3⟩ ls n hn 0 d [112] rfl rfl rfl rfl (Nat.zero_le _) hd hw (by decide)
  have I := fun n hn => in_yes P es ep st ⟨cur, ((d : Nat) : Int), cur.length, ((0 : Nat) : Int), ((0 : Nat) : Int), ((d : Nat) : Int), some (m - 1), some 3⟩ ls n hn d rfl rfl hw q2
  refine ⟨⟨cur.take 0 ++ [112] ++ cur.drop d, ((0 + [112].length : Nat) : Int), ((cur.take 0 ++ [112] ++ cur.drop d).length : Nat), ((0 : Nat) : Int), ((0 : Nat) : Int), ((0 + [112].length : Nat) : Int), some (m - 1), some 3⟩, ?_, ⟨rfl, rfl, rfl, rfl, rfl, rfl⟩⟩
  intro N hN
  obtain ⟨n, rfl⟩ := Nat.exists_eq_add_of_le' hN
  rw [c_call (h := F258 P es ep st) (hb := rfl)]
  wide_line with [L258, S258, N258, w_step, f_nil, f_cons, M133, h133, M161, h161, M154, h154, M63, h63, G_Ind, ofVal, SA3, SAv, F, coR, atEq, cs_s, cs_p, cs_y, G_lab0, X_lab0, D, I, e0]
theorem fst_6b (w : List Nat) (m p : Int) (hr : Ok r w 0 0 m p) (hw : w.length ≤ 1000) (d : Nat) (hd : d ≤ w.length) (hx : aT TA3 w = (6, some d)) (q2 : vAt w d = false) : ∃ r', (∀ N, 250 ≤ N → callF (SS P es ep st) N 258 [.self] (r.sto ls) = some (.at (.bool true), r'.sto ls)) ∧ Ok r' (w.drop d) 0 0 (m - 1) 3 := by
  obtain ⟨cur, c', l', lb', b', k', im', ip'⟩ := r
  obtain ⟨h1, h2, h3, h4, h5, h6⟩ := hr
  dsimp only at h1 h2 h3 h4 h5 h6
  subst h1 h2 h3 h4 h5 h6
  have zb : big = 100000 := rfl
  have F := fun n hn => find_among_N P es ep st ⟨cur, ((0 : Nat) : Int), cur.length, ((0 : Nat) : Int), ((0 : Nat) : Int), k', some m, some p⟩ ls n hn 0 330 TA3 (tab3 P es ep st) rfl rfl (Nat.zero_le _) hw 6 (some d) (by rw [fa3]; exact congrArg some hx)
  have e0 : ((0 : Nat) : Int) + ((d : Nat) : Int) = ((d : Nat) : Int) := by omega
  have D := fun n hn => slice_del_k P es ep st ⟨cur, ((d : Nat) : Int), cur.length, ((0 : Nat) : Int), ((0 : Nat) : Int), ((d : Nat) : Int), some (m - 1), some 3⟩ ls n hn 0 d rfl rfl rfl rfl (Nat.zero_le _) hd hw
  have I := fun n hn => in_no P es ep st ⟨cur, ((d : Nat) : Int), cur.length, ((0 : Nat) : Int), ((0 : Nat) : Int), ((d : Nat) : Int), some (m - 1), some 3⟩ ls n hn d rfl rfl hw q2
  refine ⟨⟨cur.take 0 ++ cur.drop d, ((0 : Nat) : Int), ((cur.take 0 ++ cur.drop d).length : Nat), ((0 : Nat) : Int), ((0 : Nat) : Int), ((0 : Nat) : Int), some (m - 1), some 3⟩, ?_, ⟨rfl, rfl, rfl, rfl, rfl, rfl⟩⟩
  intro N hN
  obtain ⟨n, rfl⟩ := Nat.exists_eq_add_of_le' hN
  rw [c_call (h := F258 P es ep st) (hb := rfl)]
  wide_line with [L258, S258, N258, w_step, f_nil, f_cons, M133, h133, M161, h161, M154, h154, M63, h63, G_Ind, ofVal, SA3, SAv, F, coR, atEq, cs_s, cs_p, cs_y, G_lab0, X_lab0, D, I, e0]
end
theorem sw_pre (a b : List Nat) : Txt.startswith (lstr a) (lstr b) = b.isPrefixOf a := by
  unfold Txt.startswith
  rw [PySem.StrLaws.subAt_eq]
  show (decide (0 + b.toArray.size ≤ a.toArray.size) && ((a.toArray.toList.drop 0).take b.toArray.size == b.toArray.toList)) = _
  rw [List.drop_zero, Nat.zero_add, List.size_toArray, List.size_toArray, Bool.eq_iff_iff, Bool.and_eq_true, decide_eq_true_eq, beq_iff_eq, List.isPrefixOf_iff_prefix]
  show b.length ≤ a.length ∧ List.take b.length a = b ↔ _
  constructor
  · rintro ⟨_, h⟩
    rw [← h]
    exact List.take_prefix _ _
  · intro h
    exact ⟨h.length_le, (List.prefix_iff_eq_take.mp h).symm⟩
theorem slc_mid (l : List Nat) (c : Nat) : slc l (some (c : Int)) (some (l.length : Int)) = l.drop c := by
  rw [← slc_drop]
  unfold slc clp
  dsimp only
  rw [if_neg (by omega : ¬ ((l.length : Int) < 0))]
  congr 2
  omega
section
variable (P : Params) (es : Array (Int × Value)) (ep : Nat) (st : SetTable) (r : St) (ls : List (List At))
theorem eq_s (N : Nat) (hN : 60 ≤ N) (c : Nat) (s : List Nat) (ec : r.c = c) (el : r.l = r.cur.length) (hb : r.cur.length ≤ 1000) (hc : c ≤ r.cur.length) (hs : s.length ≤ 1000) :
    callF (SS P es ep st) N 119 [.self, .at (.str s)] (r.sto ls) = if s.isPrefixOf (r.cur.drop c) then some (.at (.bool true), { r with c := ((c + s.length : Nat) : Int) }.sto ls) else some (.at (.bool false), r.sto ls) := by
  obtain ⟨n, rfl⟩ := Nat.exists_eq_add_of_le' hN
  have b1 : r.cur.length ≤ big := by have : big = 100000 := rfl; omega
  have b2 : s.length ≤ big := by have : big = 100000 := rfl; omega
  have n1 : ((c : Int)).natAbs < 1000000 := by omega
  have n2 : ((r.cur.length : Int)).natAbs < 1000000 := by omega
  have e1 : (c : Int) + (s.length : Int) = ((c + s.length : Nat) : Int) := by omega
  rw [c_call (h := F119 P es ep st) (hb := rfl)]
  cases hp : s.isPrefixOf (r.cur.drop c) with
  | true => wide_line with [L119, S119, N119, ec, el, b1, b2, n1, n2, sw_pre, slc_mid, hp, e1, and_self]
  | false => wide_line with [L119, S119, N119, ec, el, b1, b2, n1, n2, sw_pre, slc_mid, hp, e1, and_self]
theorem eq_yes (N : Nat) (hN : 60 ≤ N) (c : Nat) (s : List Nat) (ec : r.c = c) (el : r.l = r.cur.length) (hb : r.cur.length ≤ 1000) (hc : c ≤ r.cur.length) (hs : s.length ≤ 1000) (h : s.isPrefixOf (r.cur.drop c) = true) :
    callF (SS P es ep st) N 119 [.self, .at (.str s)] (r.sto ls) = some (.at (.bool true), { r with c := ((c + s.length : Nat) : Int) }.sto ls) := by
  rw [eq_s P es ep st r ls N hN c s ec el hb hc hs, h, if_pos rfl]
theorem eq_no (N : Nat) (hN : 60 ≤ N) (c : Nat) (s : List Nat) (ec : r.c = c) (el : r.l = r.cur.length) (hb : r.cur.length ≤ 1000) (hc : c ≤ r.cur.length) (hs : s.length ≤ 1000) (h : s.isPrefixOf (r.cur.drop c) = false) :
    callF (SS P es ep st) N 119 [.self, .at (.str s)] (r.sto ls) = some (.at (.bool false), r.sto ls) := by
  rw [eq_s P es ep st r ls N hN c s ec el hb hc hs, h]; rfl
theorem slice_del_p (N : Nat) (hN : 60 ≤ N) (b k c' : Nat) (eb : r.b = b) (ek : r.k = k) (el : r.l = r.cur.length) (ec : r.c = c') (hbk : b ≤ k) (hkc : k ≤ c') (hkl : k ≤ r.cur.length) (hc : r.cur.length ≤ 1000) :
    callF (SS P es ep st) N 161 [.self] (r.sto ls) = some (.at .none, { r with cur := r.cur.take b ++ r.cur.drop k, l := ((r.cur.take b ++ r.cur.drop k).length : Nat), c := ((c' - (k - b) : Nat) : Int), k := b }.sto ls) := by
  obtain ⟨n, rfl⟩ := Nat.exists_eq_add_of_le' hN
  rw [slice_del P es ep st r ls n b k r.cur.length eb ek el (by omega) hkl (by omega) hc, ec, if_pos (by omega)]
  have : (((r.cur.take b ++ r.cur.drop k).length : Nat) : Int) = r.cur.length - ((k : Int) - b) := by
    rw [List.length_append, List.length_take, List.length_drop]; omega
  rw [this, show (c' : Int) - ((k : Int) - b) = ((c' - (k - b) : Nat) : Int) by omega]
theorem sec_0 (c lb : Nat) (w : List Nat) (m p : Int) (hr : Ok r w c lb m p) (hc : c ≤ w.length) (hw : w.length ≤ 1000) (hx : aT TA4 (w.drop c) = (0, none)) : ∃ r' c', (∀ N, 250 ≤ N → callF (SS P es ep st) N 265 [.self] (r.sto ls) = some (.at (.bool false), r'.sto ls)) ∧ Ok r' w c' lb m p := by
  obtain ⟨cur, c', l', lb', b', k', im', ip'⟩ := r
  obtain ⟨h1, h2, h3, h4, h5, h6⟩ := hr
  dsimp only at h1 h2 h3 h4 h5 h6
  subst h1 h2 h3 h4 h5 h6
  have zb : big = 100000 := rfl
  have F := fun n hn => find_among_N P es ep st ⟨cur, c, cur.length, lb, c, k', some m, some p⟩ ls n hn c 337 TA4 (tab4 P es ep st) rfl rfl hc hw 0 none (by rw [fa4]; exact congrArg some hx)
  refine ⟨⟨cur, c, cur.length, lb, c, k', some m, some p⟩, c, ?_, ⟨rfl, rfl, rfl, rfl, rfl, rfl⟩⟩
  intro N hN
  obtain ⟨n, rfl⟩ := Nat.exists_eq_add_of_le' hN
  rw [c_call (h := F265 P es ep st) (hb := rfl)]
  wide_line with [L265, S265, N265, w_step, f_nil, f_cons, M133, h133, M161, h161, M119, h119, M91, h91, G_Ind, ofVal, SA4, SAv, F, coR, atEq, cs_r, cs_l, cs_ajar, cs_er, G_lab0, X_lab0]
theorem sec_pr (c lb : Nat) (w : List Nat) (m p : Int) (hr : Ok r w c lb m p) (hc : c ≤ w.length) (hw : w.length ≤ 1000) (hd : c + 2 ≤ w.length) (hx : aT TA4 (w.drop c) = (1, some 2)) (q1 : w[c + 2]? = some 114) : ∃ r' c', (∀ N, 250 ≤ N → callF (SS P es ep st) N 265 [.self] (r.sto ls) = some (.at (.bool true), r'.sto ls)) ∧ Ok r' (w.take c ++ w.drop (c + 2 + 1)) c' lb (m - 1) 2 := by
  obtain ⟨cur, c', l', lb', b', k', im', ip'⟩ := r
  obtain ⟨h1, h2, h3, h4, h5, h6⟩ := hr
  dsimp only at h1 h2 h3 h4 h5 h6
  subst h1 h2 h3 h4 h5 h6
  have zb : big = 100000 := rfl
  have F := fun n hn => find_among_N P es ep st ⟨cur, c, cur.length, lb, c, k', some m, some p⟩ ls n hn c 337 TA4 (tab4 P es ep st) rfl rfl hc hw 1 (some 2) (by rw [fa4]; exact congrArg some hx)
  have e0 : (c : Int) + ((2 : Nat) : Int) = ((c + 2 : Nat) : Int) := by omega
  have e1 : ((c + 2 : Nat) : Int) + 1 = ((c + 2 + 1 : Nat) : Int) := by omega
  have lt : c + 2 < cur.length := by
    rcases Nat.lt_or_ge (c + 2) cur.length with q | q
    · exact q
    · rw [List.getElem?_eq_none q] at q1; cases q1
  have ne : ¬ (((c + 2 : Nat) : Int) = cur.length) := by omega
  have ix : idx cur ((c + 2 : Nat) : Int) = some 114 := by rw [idx_nat (by omega) lt, q1]
  have D := fun n hn => slice_del_k P es ep st ⟨cur, ((c + 2 + 1 : Nat) : Int), cur.length, lb, c, ((c + 2 + 1 : Nat) : Int), some (m - 1), some 2⟩ ls n hn c (c + 2 + 1) rfl rfl rfl rfl (by omega) lt hw
  refine ⟨⟨cur.take c ++ cur.drop (c + 2 + 1), ((c : Nat) : Int), ((cur.take c ++ cur.drop (c + 2 + 1)).length : Nat), lb, c, c, some (m - 1), some 2⟩, c, ?_, ⟨rfl, rfl, rfl, rfl, rfl, rfl⟩⟩
  intro N hN
  obtain ⟨n, rfl⟩ := Nat.exists_eq_add_of_le' hN
  rw [c_call (h := F265 P es ep st) (hb := rfl)]
  wide_line with [L265, S265, N265, w_step, f_nil, f_cons, M133, h133, M161, h161, M119, h119, M91, h91, G_Ind, ofVal, SA4, SAv, F, coR, atEq, cs_r, cs_l, cs_ajar, cs_er, G_lab0, X_lab0, D, e0, e1, ne, ix]
theorem sec_pl (c lb : Nat) (w : List Nat) (m p : Int) (hr : Ok r w c lb m p) (hc : c ≤ w.length) (hw : w.length ≤ 1000) (hd : c + 2 ≤ w.length) (hx : aT TA4 (w.drop c) = (1, some 2)) (q1 : w[c + 2]? = some 108) (q2 : [97, 106, 97, 114].isPrefixOf (w.drop (c + 2 + 1)) = true) : ∃ r' c', (∀ N, 250 ≤ N → callF (SS P es ep st) N 265 [.self] (r.sto ls) = some (.at (.bool true), r'.sto ls)) ∧ Ok r' (w.take c ++ w.drop (c + 2 + 1)) c' lb (m - 1) p := by
  obtain ⟨cur, c', l', lb', b', k', im', ip'⟩ := r
  obtain ⟨h1, h2, h3, h4, h5, h6⟩ := hr
  dsimp only at h1 h2 h3 h4 h5 h6
  subst h1 h2 h3 h4 h5 h6
  have zb : big = 100000 := rfl
  have F := fun n hn => find_among_N P es ep st ⟨cur, c, cur.length, lb, c, k', some m, some p⟩ ls n hn c 337 TA4 (tab4 P es ep st) rfl rfl hc hw 1 (some 2) (by rw [fa4]; exact congrArg some hx)
  have e0 : (c : Int) + ((2 : Nat) : Int) = ((c + 2 : Nat) : Int) := by omega
  have e1 : ((c + 2 : Nat) : Int) + 1 = ((c + 2 + 1 : Nat) : Int) := by omega
  have lt : c + 2 < cur.length := by
    rcases Nat.lt_or_ge (c + 2) cur.length with q | q
    · exact q
    · rw [List.getElem?_eq_none q] at q1; cases q1
  have ne : ¬ (((c + 2 : Nat) : Int) = cur.length) := by omega
  have ix : idx cur ((c + 2 : Nat) : Int) = some 108 := by rw [idx_nat (by omega) lt, q1]
  have Q := fun n hn => eq_yes P es ep st ⟨cur, ((c + 2 + 1 : Nat) : Int), cur.length, lb, c, ((c + 2 + 1 : Nat) : Int), some m, some p⟩ ls n hn (c + 2 + 1) [97, 106, 97, 114] rfl rfl hw lt (by decide) q2
  have D := fun n hn => slice_del_p P es ep st ⟨cur, ((c + 2 + 1 + [97, 106, 97, 114].length : Nat) : Int), cur.length, lb, c, ((c + 2 + 1 : Nat) : Int), some (m - 1), some p⟩ ls n hn c (c + 2 + 1) (c + 2 + 1 + [97, 106, 97, 114].length) rfl rfl rfl rfl (by omega) (by omega) lt hw
  simp only [List.length_cons, List.length_nil] at Q D
  refine ⟨⟨cur.take c ++ cur.drop (c + 2 + 1), ((c + 2 + 1 + (0 + 1 + 1 + 1 + 1) - (c + 2 + 1 - c) : Nat) : Int), ((cur.take c ++ cur.drop (c + 2 + 1)).length : Nat), lb, c, c, some (m - 1), some p⟩, c + 2 + 1 + (0 + 1 + 1 + 1 + 1) - (c + 2 + 1 - c), ?_, ⟨rfl, rfl, rfl, rfl, rfl, rfl⟩⟩
  intro N hN
  obtain ⟨n, rfl⟩ := Nat.exists_eq_add_of_le' hN
  rw [c_call (h := F265 P es ep st) (hb := rfl)]
  wide_line with [L265, S265, N265, w_step, f_nil, f_cons, M133, h133, M161, h161, M119, h119, M91, h91, G_Ind, ofVal, SA4, SAv, F, coR, atEq, cs_r, cs_l, cs_ajar, cs_er, G_lab0, X_lab0, Q, D, e0, e1, ne, ix]
theorem sec_br (c lb : Nat) (w : List Nat) (m p : Int) (hr : Ok r w c lb m p) (hc : c ≤ w.length) (hw : w.length ≤ 1000) (hd : c + 2 ≤ w.length) (hx : aT TA4 (w.drop c) = (2, some 2)) (q1 : w[c + 2]? = some 114) : ∃ r' c', (∀ N, 250 ≤ N → callF (SS P es ep st) N 265 [.self] (r.sto ls) = some (.at (.bool true), r'.sto ls)) ∧ Ok r' (w.take c ++ w.drop (c + 2 + 1)) c' lb (m - 1) 4 := by
  obtain ⟨cur, c', l', lb', b', k', im', ip'⟩ := r
  obtain ⟨h1, h2, h3, h4, h5, h6⟩ := hr
  dsimp only at h1 h2 h3 h4 h5 h6
  subst h1 h2 h3 h4 h5 h6
  have zb : big = 100000 := rfl
  have F := fun n hn => find_among_N P es ep st ⟨cur, c, cur.length, lb, c, k', some m, some p⟩ ls n hn c 337 TA4 (tab4 P es ep st) rfl rfl hc hw 2 (some 2) (by rw [fa4]; exact congrArg some hx)
  have e0 : (c : Int) + ((2 : Nat) : Int) = ((c + 2 : Nat) : Int) := by omega
  have e1 : ((c + 2 : Nat) : Int) + 1 = ((c + 2 + 1 : Nat) : Int) := by omega
  have lt : c + 2 < cur.length := by
    rcases Nat.lt_or_ge (c + 2) cur.length with q | q
    · exact q
    · rw [List.getElem?_eq_none q] at q1; cases q1
  have ne : ¬ (((c + 2 : Nat) : Int) = cur.length) := by omega
  have ix : idx cur ((c + 2 : Nat) : Int) = some 114 := by rw [idx_nat (by omega) lt, q1]
  have D := fun n hn => slice_del_k P es ep st ⟨cur, ((c + 2 + 1 : Nat) : Int), cur.length, lb, c, ((c + 2 + 1 : Nat) : Int), some (m - 1), some 4⟩ ls n hn c (c + 2 + 1) rfl rfl rfl rfl (by omega) lt hw
  refine ⟨⟨cur.take c ++ cur.drop (c + 2 + 1), ((c : Nat) : Int), ((cur.take c ++ cur.drop (c + 2 + 1)).length : Nat), lb, c, c, some (m - 1), some 4⟩, c, ?_, ⟨rfl, rfl, rfl, rfl, rfl, rfl⟩⟩
  intro N hN
  obtain ⟨n, rfl⟩ := Nat.exists_eq_add_of_le' hN
  rw [c_call (h := F265 P es ep st) (hb := rfl)]
  wide_line with [L265, S265, N265, w_step, f_nil, f_cons, M133, h133, M161, h161, M119, h119, M91, h91, G_Ind, ofVal, SA4, SAv, F, coR, atEq, cs_r, cs_l, cs_ajar, cs_er, G_lab0, X_lab0, D, e0, e1, ne, ix]
theorem sec_bl (c lb : Nat) (w : List Nat) (m p : Int) (hr : Ok r w c lb m p) (hc : c ≤ w.length) (hw : w.length ≤ 1000) (hd : c + 2 ≤ w.length) (hx : aT TA4 (w.drop c) = (2, some 2)) (q1 : w[c + 2]? = some 108) (q2 : [97, 106, 97, 114].isPrefixOf (w.drop (c + 2 + 1)) = true) : ∃ r' c', (∀ N, 250 ≤ N → callF (SS P es ep st) N 265 [.self] (r.sto ls) = some (.at (.bool true), r'.sto ls)) ∧ Ok r' (w.take c ++ w.drop (c + 2 + 1)) c' lb (m - 1) 4 := by
  obtain ⟨cur, c', l', lb', b', k', im', ip'⟩ := r
  obtain ⟨h1, h2, h3, h4, h5, h6⟩ := hr
  dsimp only at h1 h2 h3 h4 h5 h6
  subst h1 h2 h3 h4 h5 h6
  have zb : big = 100000 := rfl
  have F := fun n hn => find_among_N P es ep st ⟨cur, c, cur.length, lb, c, k', some m, some p⟩ ls n hn c 337 TA4 (tab4 P es ep st) rfl rfl hc hw 2 (some 2) (by rw [fa4]; exact congrArg some hx)
  have e0 : (c : Int) + ((2 : Nat) : Int) = ((c + 2 : Nat) : Int) := by omega
  have e1 : ((c + 2 : Nat) : Int) + 1 = ((c + 2 + 1 : Nat) : Int) := by omega
  have lt : c + 2 < cur.length := by
    rcases Nat.lt_or_ge (c + 2) cur.length with q | q
    · exact q
    · rw [List.getElem?_eq_none q] at q1; cases q1
  have ne : ¬ (((c + 2 : Nat) : Int) = cur.length) := by omega
  have ix : idx cur ((c + 2 : Nat) : Int) = some 108 := by rw [idx_nat (by omega) lt, q1]
  have Q := fun n hn => eq_yes P es ep st ⟨cur, ((c + 2 + 1 : Nat) : Int), cur.length, lb, c, ((c + 2 + 1 : Nat) : Int), some m, some p⟩ ls n hn (c + 2 + 1) [97, 106, 97, 114] rfl rfl hw lt (by decide) q2
  have D := fun n hn => slice_del_p P es ep st ⟨cur, ((c + 2 + 1 + [97, 106, 97, 114].length : Nat) : Int), cur.length, lb, c, ((c + 2 + 1 : Nat) : Int), some (m - 1), some 4⟩ ls n hn c (c + 2 + 1) (c + 2 + 1 + [97, 106, 97, 114].length) rfl rfl rfl rfl (by omega) (by omega) lt hw
  simp only [List.length_cons, List.length_nil] at Q D
  refine ⟨⟨cur.take c ++ cur.drop (c + 2 + 1), ((c + 2 + 1 + (0 + 1 + 1 + 1 + 1) - (c + 2 + 1 - c) : Nat) : Int), ((cur.take c ++ cur.drop (c + 2 + 1)).length : Nat), lb, c, c, some (m - 1), some 4⟩, c + 2 + 1 + (0 + 1 + 1 + 1 + 1) - (c + 2 + 1 - c), ?_, ⟨rfl, rfl, rfl, rfl, rfl, rfl⟩⟩
  intro N hN
  obtain ⟨n, rfl⟩ := Nat.exists_eq_add_of_le' hN
  rw [c_call (h := F265 P es ep st) (hb := rfl)]
  wide_line with [L265, S265, N265, w_step, f_nil, f_cons, M133, h133, M161, h161, M119, h119, M91, h91, G_Ind, ofVal, SA4, SAv, F, coR, atEq, cs_r, cs_l, cs_ajar, cs_er, G_lab0, X_lab0, Q, D, e0, e1, ne, ix]
theorem sec_pn (c lb : Nat) (w : List Nat) (m p : Int) (hr : Ok r w c lb m p) (hc : c ≤ w.length) (hw : w.length ≤ 1000) (hd : c + 2 ≤ w.length) (hx : aT TA4 (w.drop c) = (1, some 2)) (q1 : ¬ w[c + 2]? = some 114) (q2 : ¬ (w[c + 2]? = some 108 ∧ [97, 106, 97, 114].isPrefixOf (w.drop (c + 2 + 1)) = true)) : ∃ r' c', (∀ N, 250 ≤ N → callF (SS P es ep st) N 265 [.self] (r.sto ls) = some (.at (.bool true), r'.sto ls)) ∧ Ok r' (w.take c ++ w.drop (c + 2)) c' lb (m - 1) 2 := by
  obtain ⟨cur, c', l', lb', b', k', im', ip'⟩ := r
  obtain ⟨h1, h2, h3, h4, h5, h6⟩ := hr
  dsimp only at h1 h2 h3 h4 h5 h6
  subst h1 h2 h3 h4 h5 h6
  have zb : big = 100000 := rfl
  have F := fun n hn => find_among_N P es ep st ⟨cur, c, cur.length, lb, c, k', some m, some p⟩ ls n hn c 337 TA4 (tab4 P es ep st) rfl rfl hc hw 1 (some 2) (by rw [fa4]; exact congrArg some hx)
  have e0 : (c : Int) + ((2 : Nat) : Int) = ((c + 2 : Nat) : Int) := by omega
  have e1 : ((c + 2 : Nat) : Int) + 1 = ((c + 2 + 1 : Nat) : Int) := by omega
  have sub : c + 2 = cur.length ∨ (c + 2 < cur.length ∧ cur[c + 2]? = some 108 ∧ [97, 106, 97, 114].isPrefixOf (cur.drop (c + 2 + 1)) = false) ∨ (c + 2 < cur.length ∧ ∃ y, idx cur ((c + 2 : Nat) : Int) = some y ∧ ¬ y = 114 ∧ ¬ y = 108) := by
    rcases Nat.lt_or_ge (c + 2) cur.length with lt | ge
    · by_cases z : cur[c + 2]? = some 108
      · refine .inr (.inl ⟨lt, z, ?_⟩)
        cases z2 : [97, 106, 97, 114].isPrefixOf (cur.drop (c + 2 + 1)) with
        | false => rfl
        | true => exact absurd ⟨z, z2⟩ q2
      · refine .inr (.inr ⟨lt, _, by rw [idx_nat (by omega) lt, List.getElem?_eq_getElem lt], fun y => q1 ?_, fun y => z ?_⟩)
        · rw [List.getElem?_eq_getElem lt, y]
        · rw [List.getElem?_eq_getElem lt, y]
    · exact .inl (by omega)
  have D := fun n hn => slice_del_k P es ep st ⟨cur, ((c + 2 : Nat) : Int), cur.length, lb, c, ((c + 2 : Nat) : Int), some (m - 1), some 2⟩ ls n hn c (c + 2) rfl rfl rfl rfl (by omega) hd hw
  refine ⟨⟨cur.take c ++ cur.drop (c + 2), ((c : Nat) : Int), ((cur.take c ++ cur.drop (c + 2)).length : Nat), lb, c, c, some (m - 1), some 2⟩, c, ?_, ⟨rfl, rfl, rfl, rfl, rfl, rfl⟩⟩
  intro N hN
  obtain ⟨n, rfl⟩ := Nat.exists_eq_add_of_le' hN
  rw [c_call (h := F265 P es ep st) (hb := rfl)]
  rcases sub with ne | ⟨lt, z1, z2⟩ | ⟨lt, y, ix, y1, y2⟩
  · have ne : (((c + 2 : Nat) : Int) = cur.length) = True := eq_true (by omega)
    wide_line with [L265, S265, N265, w_step, f_nil, f_cons, M133, h133, M161, h161, M119, h119, M91, h91, G_Ind, ofVal, SA4, SAv, F, coR, atEq, cs_r, cs_l, cs_ajar, cs_er, G_lab0, X_lab0, e0, e1, ne, D]
  · have ne : ¬ (((c + 2 : Nat) : Int) = cur.length) := by omega
    have ix : idx cur ((c + 2 : Nat) : Int) = some 108 := by rw [idx_nat (by omega) lt, z1]
    have Q := fun n hn => eq_no P es ep st ⟨cur, ((c + 2 + 1 : Nat) : Int), cur.length, lb, c, ((c + 2 + 1 : Nat) : Int), some m, some p⟩ ls n hn (c + 2 + 1) [97, 106, 97, 114] rfl rfl hw lt (by decide) z2
    wide_line with [L265, S265, N265, w_step, f_nil, f_cons, M133, h133, M161, h161, M119, h119, M91, h91, G_Ind, ofVal, SA4, SAv, F, coR, atEq, cs_r, cs_l, cs_ajar, cs_er, G_lab0, X_lab0, Q, e0, e1, ne, ix, D]
  · have ne : ¬ (((c + 2 : Nat) : Int) = cur.length) := by omega
    wide_line with [L265, S265, N265, w_step, f_nil, f_cons, M133, h133, M161, h161, M119, h119, M91, h91, G_Ind, ofVal, SA4, SAv, F, coR, atEq, cs_r, cs_l, cs_ajar, cs_er, G_lab0, X_lab0, e0, e1, ne, ix, y1, y2, D]
theorem sec_be (c lb : Nat) (w : List Nat) (m p : Int) (hr : Ok r w c lb m p) (hc : c ≤ w.length) (hw : w.length ≤ 1000) (hd : c + 2 ≤ w.length) (hx : aT TA4 (w.drop c) = (2, some 2)) (q1 : ¬ w[c + 2]? = some 114) (q2 : ¬ (w[c + 2]? = some 108 ∧ [97, 106, 97, 114].isPrefixOf (w.drop (c + 2 + 1)) = true)) (q3 : cAt w (c + 2) = true) (q4 : [101, 114].isPrefixOf (w.drop (c + 2 + 1)) = true) : ∃ r' c', (∀ N, 250 ≤ N → callF (SS P es ep st) N 265 [.self] (r.sto ls) = some (.at (.bool true), r'.sto ls)) ∧ Ok r' (w.take c ++ w.drop (c + 2)) c' lb (m - 1) 4 := by
  obtain ⟨cur, c', l', lb', b', k', im', ip'⟩ := r
  obtain ⟨h1, h2, h3, h4, h5, h6⟩ := hr
  dsimp only at h1 h2 h3 h4 h5 h6
  subst h1 h2 h3 h4 h5 h6
  have zb : big = 100000 := rfl
  have F := fun n hn => find_among_N P es ep st ⟨cur, c, cur.length, lb, c, k', some m, some p⟩ ls n hn c 337 TA4 (tab4 P es ep st) rfl rfl hc hw 2 (some 2) (by rw [fa4]; exact congrArg some hx)
  have e0 : (c : Int) + ((2 : Nat) : Int) = ((c + 2 : Nat) : Int) := by omega
  have e1 : ((c + 2 : Nat) : Int) + 1 = ((c + 2 + 1 : Nat) : Int) := by omega
  have sub : c + 2 = cur.length ∨ (c + 2 < cur.length ∧ cur[c + 2]? = some 108 ∧ [97, 106, 97, 114].isPrefixOf (cur.drop (c + 2 + 1)) = false) ∨ (c + 2 < cur.length ∧ ∃ y, idx cur ((c + 2 : Nat) : Int) = some y ∧ ¬ y = 114 ∧ ¬ y = 108) := by
    rcases Nat.lt_or_ge (c + 2) cur.length with lt | ge
    · by_cases z : cur[c + 2]? = some 108
      · refine .inr (.inl ⟨lt, z, ?_⟩)
        cases z2 : [97, 106, 97, 114].isPrefixOf (cur.drop (c + 2 + 1)) with
        | false => rfl
        | true => exact absurd ⟨z, z2⟩ q2
      · refine .inr (.inr ⟨lt, _, by rw [idx_nat (by omega) lt, List.getElem?_eq_getElem lt], fun y => q1 ?_, fun y => z ?_⟩)
        · rw [List.getElem?_eq_getElem lt, y]
        · rw [List.getElem?_eq_getElem lt, y]
    · exact .inl (by omega)
  have lt' : c + 2 < cur.length := by
    unfold cAt at q3
    rw [Bool.and_eq_true, decide_eq_true_eq] at q3
    exact q3.1
  have O := fun n hn => out_yes P es ep st ⟨cur, ((c + 2 : Nat) : Int), cur.length, lb, c, ((c + 2 : Nat) : Int), some m, some p⟩ ls n hn (c + 2) rfl rfl hw q3
  have R := fun n hn => eq_yes P es ep st ⟨cur, ((c + 2 + 1 : Nat) : Int), cur.length, lb, c, ((c + 2 : Nat) : Int), some m, some p⟩ ls n hn (c + 2 + 1) [101, 114] rfl rfl hw lt' (by decide) q4
  have D := fun n hn => slice_del_p P es ep st ⟨cur, ((c + 2 + 1 + [101, 114].length : Nat) : Int), cur.length, lb, c, ((c + 2 : Nat) : Int), some (m - 1), some 4⟩ ls n hn c (c + 2) (c + 2 + 1 + [101, 114].length) rfl rfl rfl rfl (by omega) (by omega) hd hw
  simp only [List.length_cons, List.length_nil] at R D
  refine ⟨⟨cur.take c ++ cur.drop (c + 2), ((c + 2 + 1 + (0 + 1 + 1) - (c + 2 - c) : Nat) : Int), ((cur.take c ++ cur.drop (c + 2)).length : Nat), lb, c, c, some (m - 1), some 4⟩, c + 2 + 1 + (0 + 1 + 1) - (c + 2 - c), ?_, ⟨rfl, rfl, rfl, rfl, rfl, rfl⟩⟩
  intro N hN
  obtain ⟨n, rfl⟩ := Nat.exists_eq_add_of_le' hN
  rw [c_call (h := F265 P es ep st) (hb := rfl)]
  rcases sub with ne | ⟨lt, z1, z2⟩ | ⟨lt, y, ix, y1, y2⟩
  · have ne : (((c + 2 : Nat) : Int) = cur.length) = True := eq_true (by omega)
    wide_line with [L265, S265, N265, w_step, f_nil, f_cons, M133, h133, M161, h161, M119, h119, M91, h91, G_Ind, ofVal, SA4, SAv, F, coR, atEq, cs_r, cs_l, cs_ajar, cs_er, G_lab0, X_lab0, e0, e1, ne, O, R, D]
  · have ne : ¬ (((c + 2 : Nat) : Int) = cur.length) := by omega
    have ix : idx cur ((c + 2 : Nat) : Int) = some 108 := by rw [idx_nat (by omega) lt, z1]
    have Q := fun n hn => eq_no P es ep st ⟨cur, ((c + 2 + 1 : Nat) : Int), cur.length, lb, c, ((c + 2 + 1 : Nat) : Int), some m, some p⟩ ls n hn (c + 2 + 1) [97, 106, 97, 114] rfl rfl hw lt (by decide) z2
    wide_line with [L265, S265, N265, w_step, f_nil, f_cons, M133, h133, M161, h161, M119, h119, M91, h91, G_Ind, ofVal, SA4, SAv, F, coR, atEq, cs_r, cs_l, cs_ajar, cs_er, G_lab0, X_lab0, Q, e0, e1, ne, ix, O, R, D]
  · have ne : ¬ (((c + 2 : Nat) : Int) = cur.length) := by omega
    wide_line with [L265, S265, N265, w_step, f_nil, f_cons, M133, h133, M161, h161, M119, h119, M91, h91, G_Ind, ofVal, SA4, SAv, F, coR, atEq, cs_r, cs_l, cs_ajar, cs_er, G_lab0, X_lab0, e0, e1, ne, ix, y1, y2, O, R, D]
theorem sec_bn (c lb : Nat) (w : List Nat) (m p : Int) (hr : Ok r w c lb m p) (hc : c ≤ w.length) (hw : w.length ≤ 1000) (hd : c + 2 ≤ w.length) (hx : aT TA4 (w.drop c) = (2, some 2)) (q1 : ¬ w[c + 2]? = some 114) (q2 : ¬ (w[c + 2]? = some 108 ∧ [97, 106, 97, 114].isPrefixOf (w.drop (c + 2 + 1)) = true)) (q3 : ¬ (cAt w (c + 2) = true ∧ [101, 114].isPrefixOf (w.drop (c + 2 + 1)) = true)) : ∃ r' c', (∀ N, 250 ≤ N → callF (SS P es ep st) N 265 [.self] (r.sto ls) = some (.at (.bool false), r'.sto ls)) ∧ Ok r' w c' lb m p := by
  obtain ⟨cur, c', l', lb', b', k', im', ip'⟩ := r
  obtain ⟨h1, h2, h3, h4, h5, h6⟩ := hr
  dsimp only at h1 h2 h3 h4 h5 h6
  subst h1 h2 h3 h4 h5 h6
  have zb : big = 100000 := rfl
  have F := fun n hn => find_among_N P es ep st ⟨cur, c, cur.length, lb, c, k', some m, some p⟩ ls n hn c 337 TA4 (tab4 P es ep st) rfl rfl hc hw 2 (some 2) (by rw [fa4]; exact congrArg some hx)
  have e0 : (c : Int) + ((2 : Nat) : Int) = ((c + 2 : Nat) : Int) := by omega
  have e1 : ((c + 2 : Nat) : Int) + 1 = ((c + 2 + 1 : Nat) : Int) := by omega
  have sub : c + 2 = cur.length ∨ (c + 2 < cur.length ∧ cur[c + 2]? = some 108 ∧ [97, 106, 97, 114].isPrefixOf (cur.drop (c + 2 + 1)) = false) ∨ (c + 2 < cur.length ∧ ∃ y, idx cur ((c + 2 : Nat) : Int) = some y ∧ ¬ y = 114 ∧ ¬ y = 108) := by
    rcases Nat.lt_or_ge (c + 2) cur.length with lt | ge
    · by_cases z : cur[c + 2]? = some 108
      · refine .inr (.inl ⟨lt, z, ?_⟩)
        cases z2 : [97, 106, 97, 114].isPrefixOf (cur.drop (c + 2 + 1)) with
        | false => rfl
        | true => exact absurd ⟨z, z2⟩ q2
      · refine .inr (.inr ⟨lt, _, by rw [idx_nat (by omega) lt, List.getElem?_eq_getElem lt], fun y => q1 ?_, fun y => z ?_⟩)
        · rw [List.getElem?_eq_getElem lt, y]
        · rw [List.getElem?_eq_getElem lt, y]
    · exact .inl (by omega)
  cases q5 : cAt cur (c + 2) with
  | false =>
    have O := fun n hn => out_no P es ep st ⟨cur, ((c + 2 : Nat) : Int), cur.length, lb, c, ((c + 2 : Nat) : Int), some m, some p⟩ ls n hn (c + 2) rfl rfl hw q5
    refine ⟨⟨cur, ((c + 2 : Nat) : Int), cur.length, lb, c, ((c + 2 : Nat) : Int), some m, some p⟩, c + 2, ?_, ⟨rfl, rfl, rfl, rfl, rfl, rfl⟩⟩
    intro N hN
    obtain ⟨n, rfl⟩ := Nat.exists_eq_add_of_le' hN
    rw [c_call (h := F265 P es ep st) (hb := rfl)]
    rcases sub with ne | ⟨lt, z1, z2⟩ | ⟨lt, y, ix, y1, y2⟩
    · have ne : (((c + 2 : Nat) : Int) = cur.length) = True := eq_true (by omega)
      wide_line with [L265, S265, N265, w_step, f_nil, f_cons, M133, h133, M161, h161, M119, h119, M91, h91, G_Ind, ofVal, SA4, SAv, F, coR, atEq, cs_r, cs_l, cs_ajar, cs_er, G_lab0, X_lab0, e0, e1, ne, O]
    · have ne : ¬ (((c + 2 : Nat) : Int) = cur.length) := by omega
      have ix : idx cur ((c + 2 : Nat) : Int) = some 108 := by rw [idx_nat (by omega) lt, z1]
      have Q := fun n hn => eq_no P es ep st ⟨cur, ((c + 2 + 1 : Nat) : Int), cur.length, lb, c, ((c + 2 + 1 : Nat) : Int), some m, some p⟩ ls n hn (c + 2 + 1) [97, 106, 97, 114] rfl rfl hw lt (by decide) z2
      wide_line with [L265, S265, N265, w_step, f_nil, f_cons, M133, h133, M161, h161, M119, h119, M91, h91, G_Ind, ofVal, SA4, SAv, F, coR, atEq, cs_r, cs_l, cs_ajar, cs_er, G_lab0, X_lab0, Q, e0, e1, ne, ix, O]
    · have ne : ¬ (((c + 2 : Nat) : Int) = cur.length) := by omega
      wide_line with [L265, S265, N265, w_step, f_nil, f_cons, M133, h133, M161, h161, M119, h119, M91, h91, G_Ind, ofVal, SA4, SAv, F, coR, atEq, cs_r, cs_l, cs_ajar, cs_er, G_lab0, X_lab0, e0, e1, ne, ix, y1, y2, O]
  | true =>
    have lt' : c + 2 < cur.length := by
      unfold cAt at q5
      rw [Bool.and_eq_true, decide_eq_true_eq] at q5
      exact q5.1
    have q4 : [101, 114].isPrefixOf (cur.drop (c + 2 + 1)) = false := by
      cases z : [101, 114].isPrefixOf (cur.drop (c + 2 + 1)) with
      | false => rfl
      | true => exact absurd ⟨q5, z⟩ q3
    have O := fun n hn => out_yes P es ep st ⟨cur, ((c + 2 : Nat) : Int), cur.length, lb, c, ((c + 2 : Nat) : Int), some m, some p⟩ ls n hn (c + 2) rfl rfl hw q5
    have R := fun n hn => eq_no P es ep st ⟨cur, ((c + 2 + 1 : Nat) : Int), cur.length, lb, c, ((c + 2 : Nat) : Int), some m, some p⟩ ls n hn (c + 2 + 1) [101, 114] rfl rfl hw lt' (by decide) q4
    refine ⟨⟨cur, ((c + 2 + 1 : Nat) : Int), cur.length, lb, c, ((c + 2 : Nat) : Int), some m, some p⟩, c + 2 + 1, ?_, ⟨rfl, rfl, rfl, rfl, rfl, rfl⟩⟩
    intro N hN
    obtain ⟨n, rfl⟩ := Nat.exists_eq_add_of_le' hN
    rw [c_call (h := F265 P es ep st) (hb := rfl)]
    rcases sub with ne | ⟨lt, z1, z2⟩ | ⟨lt, y, ix, y1, y2⟩
    · have ne : (((c + 2 : Nat) : Int) = cur.length) = True := eq_true (by omega)
      wide_line with [L265, S265, N265, w_step, f_nil, f_cons, M133, h133, M161, h161, M119, h119, M91, h91, G_Ind, ofVal, SA4, SAv, F, coR, atEq, cs_r, cs_l, cs_ajar, cs_er, G_lab0, X_lab0, e0, e1, ne, O, R]
    · have ne : ¬ (((c + 2 : Nat) : Int) = cur.length) := by omega
      have ix : idx cur ((c + 2 : Nat) : Int) = some 108 := by rw [idx_nat (by omega) lt, z1]
      have Q := fun n hn => eq_no P es ep st ⟨cur, ((c + 2 + 1 : Nat) : Int), cur.length, lb, c, ((c + 2 + 1 : Nat) : Int), some m, some p⟩ ls n hn (c + 2 + 1) [97, 106, 97, 114] rfl rfl hw lt (by decide) z2
      wide_line with [L265, S265, N265, w_step, f_nil, f_cons, M133, h133, M161, h161, M119, h119, M91, h91, G_Ind, ofVal, SA4, SAv, F, coR, atEq, cs_r, cs_l, cs_ajar, cs_er, G_lab0, X_lab0, Q, e0, e1, ne, ix, O, R]
    · have ne : ¬ (((c + 2 : Nat) : Int) = cur.length) := by omega
      wide_line with [L265, S265, N265, w_step, f_nil, f_cons, M133, h133, M161, h161, M119, h119, M91, h91, G_Ind, ofVal, SA4, SAv, F, coR, atEq, cs_r, cs_l, cs_ajar, cs_er, G_lab0, X_lab0, e0, e1, ne, ix, y1, y2, O, R]
end
def gv : List Nat → Option Nat
  | [] => none
  | x :: xs => if isV x then some 0 else (gv xs).map (· + 1)
def nv : List Nat → Nat
  | [] => 0
  | x :: xs => (if isV x then 1 else 0) + nv xs
theorem gv_cons (x : Nat) (xs : List Nat) : gv (x :: xs) = if isV x then some 0 else (gv xs).map (· + 1) := rfl
theorem nv_cons (x : Nat) (xs : List Nat) : nv (x :: xs) = (if isV x then 1 else 0) + nv xs := rfl
theorem gv_none : ∀ {l : List Nat}, gv l = none → nv l = 0
  | [], _ => rfl
  | x :: xs, h => by
    rw [gv_cons] at h
    split at h
    · cases h
    · rename_i q
      rw [nv_cons]
      rw [if_neg q, gv_none (Option.map_eq_none_iff.mp h)]
theorem gv_some : ∀ {l : List Nat} {j : Nat}, gv l = some j → j < l.length ∧ nv l = 1 + nv (l.drop (j + 1))
  | [], _, h => by cases h
  | x :: xs, j, h => by
    rw [gv_cons] at h
    rw [nv_cons]
    split at h
    · rename_i q
      cases h
      rw [if_pos q]
      exact ⟨by simp, rfl⟩
    · rename_i q
      obtain ⟨i, e1, e2⟩ := Option.map_eq_some_iff.mp h
      obtain ⟨a, b⟩ := gv_some e1
      subst e2
      rw [if_neg q, b]
      exact ⟨by simp; omega, by simp⟩
def tryBody : Stmt → List Stmt
  | .Try b _ _ _ _ => b
  | _ => []
def W98 : { b : List Stmt // whBody (stAt L98.1 0) = b } := ⟨_, by unfold L98; dsimp only [whBody, stAt]⟩
def U98 : { b : Expr // whTest (stAt L98.1 0) = b } := ⟨_, by unfold L98; dsimp only [whTest, stAt]⟩
def W272 : { b : List Stmt // whBody (stAt (tryBody (stAt L272.1 2)) 0) = b } := ⟨_, by unfold L272; dsimp only [whBody, stAt, tryBody]⟩
def U272 : { b : Expr // whTest (stAt (tryBody (stAt L272.1 2)) 0) = b } := ⟨_, by unfold L272; dsimp only [whTest, stAt, tryBody]⟩
section
variable (P : Params) (es : Array (Int × Value)) (ep : Nat) (st : SetTable) (ls : List (List At))
theorem go_loop (w : List Nat) (l lb b k : Int) (im ip : Option Int) (hl : l = w.length) (hw : w.length ≤ 1000) (m : Lm) (h1 : m (Str.ofString "self") = some .self) (h2 : m (Str.ofString "s") = some (.stat (.ref setA))) :
    ∀ (x : List Nat) (c N : Nat), w.drop c = x → c ≤ w.length → 40 + x.length ≤ N → whil (SS P es ep st) N (fScope (inr 2 9)) U98.1 W98.1 m ((⟨w, c, l, lb, b, k, im, ip⟩ : St).sto ls) =
      (match gv x with
        | some j => some (.ret (.at (.bool true)), m, (⟨w, ((c + j : Nat) : Int), l, lb, b, k, im, ip⟩ : St).sto ls)
        | none => some (.next, m, (⟨w, l, l, lb, b, k, im, ip⟩ : St).sto ls)) := by
  intro x
  subst hl
  have b1 : w.length ≤ big := by have : big = 100000 := rfl; omega
  induction x with
  | nil =>
    intro c N hx hc hN
    obtain ⟨n, rfl⟩ := Nat.exists_eq_add_of_le' hN
    have e : c = w.length := by have := List.drop_eq_nil_iff.mp hx; omega
    subst e
    have nl : ¬ ((w.length : Int) < w.length) := by omega
    wide_line with [gv, U98, W98, S98, N98, w_step, f_nil, f_cons, List.length_nil, h1, h2, nl]
  | cons y x ih =>
    intro c N hx hc hN
    have lt : c < w.length := by
      rcases Nat.lt_or_ge c w.length with q | q
      · exact q
      · rw [List.drop_eq_nil_of_le q] at hx; cases hx
    have gy : w[c]? = some y := by
      have := congrArg (fun z : List Nat => z[0]?) hx
      simpa using this
    have hx' : w.drop (c + 1) = x := by rw [← drop2, hx]; rfl
    obtain ⟨n, rfl⟩ : ∃ n, N = n + 40 + 1 := ⟨N - 41, by rw [List.length_cons] at hN; omega⟩
    have ix : idx w (c : Int) = some y := by rw [idx_nat b1 lt, gy]
    have nl : ((c : Int) < w.length) := by omega
    by_cases hv : isV y
    · have hv' := hv
      unfold isV at hv'
      rw [gv_cons, if_pos hv]
      wide_line with [U98, W98, S98, N98, w_step, f_nil, f_cons, h1, h2, nl, ix, hv', Nat.add_zero]
    · have hv' := hv
      unfold isV at hv'
      have e1 : (c : Int) + 1 = ((c + 1 : Nat) : Int) := by omega
      have st : whil (SS P es ep st) (n + 40 + 1) (fScope (inr 2 9)) U98.1 W98.1 m ((⟨w, c, w.length, lb, b, k, im, ip⟩ : St).sto ls) = whil (SS P es ep st) (n + 40) (fScope (inr 2 9)) U98.1 W98.1 m ((⟨w, ((c + 1 : Nat) : Int), w.length, lb, b, k, im, ip⟩ : St).sto ls) := by
        rw [w_step]
        wide_line with [U98, W98, S98, N98, h1, h2, nl, ix, hv', e1]
      rw [st, ih (c + 1) (n + 40) hx' (by omega) (by rw [List.length_cons] at hN; omega)]
      rw [gv_cons, if_neg hv]
      cases gv x with
      | none => rfl
      | some j => simp only [Option.map_some]; rw [show c + 1 + j = c + (j + 1) by omega]
theorem go_out (w : List Nat) (c : Nat) (lb b k : Int) (im ip : Option Int) (hc : c ≤ w.length) (hw : w.length ≤ 1000) : ∀ N, 60 + w.length ≤ N → callF (SS P es ep st) N 98 [.self, .stat (.ref setA)] ((⟨w, c, w.length, lb, b, k, im, ip⟩ : St).sto ls) =
      (match gv (w.drop c) with
        | some j => some (.at (.bool true), (⟨w, ((c + j : Nat) : Int), w.length, lb, b, k, im, ip⟩ : St).sto ls)
        | none => some (.at (.bool false), (⟨w, w.length, w.length, lb, b, k, im, ip⟩ : St).sto ls)) := by
  intro N hN
  obtain ⟨n, rfl⟩ := Nat.exists_eq_add_of_le' hN
  rw [show n + (60 + w.length) = n + w.length + 59 + 1 by omega, c_call (h := F98 P es ep st) (hb := rfl)]
  have G := fun m h1 h2 N hN => go_loop P es ep st ls w w.length lb b k im ip rfl hw m h1 h2 (w.drop c) c N rfl hc hN
  have hd : (w.drop c).length ≤ w.length := by rw [List.length_drop]; omega
  have G1 := G (fun y => if y = (Str.ofString "self") then some .self else if y = (Str.ofString "s") then some (.stat (.ref setA)) else none) (by simp only [if_true]) (by simp only [ofS, String.reduceEq, if_false, if_true]) (n + w.length + 57) (by omega)
  unfold U98 W98 at G1
  dsimp only at G1
  cases hg : gv (w.drop c) with
  | none =>
    rw [hg] at G1
    dsimp only at G1
    wide_line with [L98, S98, N98, G1]
  | some j =>
    rw [hg] at G1
    dsimp only at G1
    wide_line with [L98, S98, N98, G1]
end
def firstP (w : List Nat) : Option (List Nat × Int × Nat) := match aT TA3 w with
  | (v, some d) => some (if v = 1 then (w.drop d, 1, 0) else if v = 3 then (w.drop d, 3, 0)
      else if v = 2 then (if w[d]? = some 121 ∧ vAt w (d + 1) = true then (115 :: w.drop (d + 1), 1, 1) else (w.drop d, 1, 0))
      else if v = 4 then (if w[d]? = some 121 ∧ vAt w (d + 1) = true then (115 :: w.drop (d + 1), 3, 1) else (w.drop d, 3, 0))
      else if v = 5 then (if vAt w d = true then (112 :: w.drop d, 1, 1) else (w.drop d, 1, 0))
      else (if vAt w d = true then (112 :: w.drop d, 3, 1) else (w.drop d, 3, 0)))
  | _ => none
def secondP (c : Nat) (p : Int) (w : List Nat) : Option (List Nat × Int) := match aT TA4 (w.drop c) with
  | (v, some _) => if v = 1 then (if w[c + 2]? = some 114 then some (w.take c ++ w.drop (c + 2 + 1), 2)
        else if w[c + 2]? = some 108 ∧ [97, 106, 97, 114].isPrefixOf (w.drop (c + 2 + 1)) = true then some (w.take c ++ w.drop (c + 2 + 1), p)
        else some (w.take c ++ w.drop (c + 2), 2))
      else (if w[c + 2]? = some 114 then some (w.take c ++ w.drop (c + 2 + 1), 4)
        else if w[c + 2]? = some 108 ∧ [97, 106, 97, 114].isPrefixOf (w.drop (c + 2 + 1)) = true then some (w.take c ++ w.drop (c + 2 + 1), 4)
        else if cAt w (c + 2) = true ∧ [101, 114].isPrefixOf (w.drop (c + 2 + 1)) = true then some (w.take c ++ w.drop (c + 2), 4) else none)
  | _ => none
theorem aT3_cases {l : List Nat} {v : Int} {d : Nat} (h : aT TA3 l = (v, some d)) : (v = 1 ∨ v = 2 ∨ v = 3 ∨ v = 4 ∨ v = 5 ∨ v = 6) ∧ d ≤ l.length ∧ 2 ≤ d := by
  obtain ⟨x, x1, x2, x3, x4⟩ := aT_some (T := TA3) (l := l) (d := d) (by rw [h])
  rw [h] at x4
  simp only [Prod.mk.injEq, and_true] at x4
  have z : ∀ y ∈ TA3, (y.2.2 = 1 ∨ y.2.2 = 2 ∨ y.2.2 = 3 ∨ y.2.2 = 4 ∨ y.2.2 = 5 ∨ y.2.2 = 6) ∧ 2 ≤ y.1.length := by decide
  rw [x4, x3]
  exact ⟨(z x x1).1, pre_le x2, (z x x1).2⟩
theorem aT4_cases {l : List Nat} {v : Int} {d : Nat} (h : aT TA4 l = (v, some d)) : (v = 1 ∨ v = 2) ∧ d = 2 ∧ 2 ≤ l.length := by
  obtain ⟨x, x1, x2, x3, x4⟩ := aT_some (T := TA4) (l := l) (d := d) (by rw [h])
  rw [h] at x4
  simp only [Prod.mk.injEq, and_true] at x4
  have z : ∀ y ∈ TA4, (y.2.2 = 1 ∨ y.2.2 = 2) ∧ y.1.length = 2 := by decide
  have := pre_le x2
  rw [x4, x3]
  exact ⟨(z x x1).1, (z x x1).2, by rw [← (z x x1).2]; exact this⟩
theorem firstP_len {w w' : List Nat} {p : Int} {c : Nat} (h : firstP w = some (w', p, c)) : c ≤ w'.length ∧ w'.length ≤ w.length := by
  unfold firstP at h
  split at h
  · rename_i v d e
    obtain ⟨_, a, b⟩ := aT3_cases e
    simp only [Option.some.injEq] at h
    repeat' split at h
    all_goals
      simp only [Prod.mk.injEq] at h
      obtain ⟨h1, _, h2⟩ := h
      subst h1 h2
      simp only [List.length_cons, List.length_drop]
      omega
  · cases h
section
variable (P : Params) (es : Array (Int × Value)) (ep : Nat) (st : SetTable) (r : St) (ls : List (List At))
theorem first_none (w : List Nat) (m p : Int) (hr : Ok r w 0 0 m p) (hw : w.length ≤ 1000) (h : firstP w = none) :
    ∃ r', (∀ N, 250 ≤ N → callF (SS P es ep st) N 258 [.self] (r.sto ls) = some (.at (.bool false), r'.sto ls)) ∧ Ok r' w 0 0 m p := by
  unfold firstP at h
  split at h
  · cases h
  · rename_i e
    refine fst_0 P es ep st r ls w m p hr hw (aT_none ?_)
    cases q : aT TA3 w with
    | mk v o => cases o with
      | none => rfl
      | some d => exact absurd q (e v d)
theorem first_some (w w' : List Nat) (m p p' : Int) (c' : Nat) (hr : Ok r w 0 0 m p) (hw : w.length ≤ 1000) (h : firstP w = some (w', p', c')) :
    ∃ r', (∀ N, 250 ≤ N → callF (SS P es ep st) N 258 [.self] (r.sto ls) = some (.at (.bool true), r'.sto ls)) ∧ Ok r' w' c' 0 (m - 1) p' := by
  unfold firstP at h
  split at h
  · rename_i v d e
    obtain ⟨hv, hd, _⟩ := aT3_cases e
    simp only [Option.some.injEq] at h
    split at h
    · rename_i q
      subst q
      cases h
      exact fst_1 P es ep st r ls w m p hr hw d hd e
    · rename_i q1
      split at h
      · rename_i q
        subst q
        cases h
        exact fst_3 P es ep st r ls w m p hr hw d hd e
      · rename_i q3
        split at h
        · rename_i q
          subst q
          split at h
          · rename_i q
            cases h
            exact fst_2a P es ep st r ls w m p hr hw d hd e q.1 q.2
          · rename_i q
            cases h
            exact fst_2b P es ep st r ls w m p hr hw d hd e q
        · rename_i q2
          split at h
          · rename_i q
            subst q
            split at h
            · rename_i q
              cases h
              exact fst_4a P es ep st r ls w m p hr hw d hd e q.1 q.2
            · rename_i q
              cases h
              exact fst_4b P es ep st r ls w m p hr hw d hd e q
          · rename_i q4
            split at h
            · rename_i q
              subst q
              split at h
              · rename_i q
                cases h
                exact fst_5a P es ep st r ls w m p hr hw d hd e q
              · rename_i q
                cases h
                exact fst_5b P es ep st r ls w m p hr hw d hd e (by simpa using q)
            · rename_i q5
              have q6 : v = 6 := by omega
              subst q6
              split at h
              · rename_i q
                cases h
                exact fst_6a P es ep st r ls w m p hr hw d hd e q
              · rename_i q
                cases h
                exact fst_6b P es ep st r ls w m p hr hw d hd e (by simpa using q)
  · cases h
theorem second_none (c lb : Nat) (w : List Nat) (m p : Int) (hr : Ok r w c lb m p) (hc : c ≤ w.length) (hw : w.length ≤ 1000) (h : secondP c p w = none) :
    ∃ r' c', (∀ N, 250 ≤ N → callF (SS P es ep st) N 265 [.self] (r.sto ls) = some (.at (.bool false), r'.sto ls)) ∧ Ok r' w c' lb m p := by
  unfold secondP at h
  split at h
  · rename_i v d e
    obtain ⟨hv, hd, hl⟩ := aT4_cases e
    subst hd
    rw [List.length_drop] at hl
    split at h
    · split at h
      · cases h
      · split at h <;> cases h
    · rename_i q1
      have q2 : v = 2 := by omega
      subst q2
      split at h
      · cases h
      · rename_i a1
        split at h
        · cases h
        · rename_i a2
          split at h
          · cases h
          · rename_i a3
            exact sec_bn P es ep st r ls c lb w m p hr hc hw (by omega) e a1 a2 a3
  · rename_i e
    refine sec_0 P es ep st r ls c lb w m p hr hc hw (aT_none ?_)
    cases q : aT TA4 (w.drop c) with
    | mk v o => cases o with
      | none => rfl
      | some d => exact absurd q (e v d)
theorem second_some (c lb : Nat) (w w' : List Nat) (m p p' : Int) (hr : Ok r w c lb m p) (hc : c ≤ w.length) (hw : w.length ≤ 1000) (h : secondP c p w = some (w', p')) :
    ∃ r' c', (∀ N, 250 ≤ N → callF (SS P es ep st) N 265 [.self] (r.sto ls) = some (.at (.bool true), r'.sto ls)) ∧ Ok r' w' c' lb (m - 1) p' := by
  unfold secondP at h
  split at h
  · rename_i v d e
    obtain ⟨hv, hd, hl⟩ := aT4_cases e
    subst hd
    rw [List.length_drop] at hl
    split at h
    · rename_i q
      subst q
      split at h
      · rename_i a1
        cases h
        exact sec_pr P es ep st r ls c lb w m p hr hc hw (by omega) e a1
      · rename_i a1
        split at h
        · rename_i a2
          cases h
          exact sec_pl P es ep st r ls c lb w m p hr hc hw (by omega) e a2.1 a2.2
        · rename_i a2
          cases h
          exact sec_pn P es ep st r ls c lb w m p hr hc hw (by omega) e a1 a2
    · rename_i q1
      have q2 : v = 2 := by omega
      subst q2
      split at h
      · rename_i a1
        cases h
        exact sec_br P es ep st r ls c lb w m p hr hc hw (by omega) e a1
      · rename_i a1
        split at h
        · rename_i a2
          cases h
          exact sec_bl P es ep st r ls c lb w m p hr hc hw (by omega) e a2.1 a2.2
        · rename_i a2
          split at h
          · rename_i a3
            cases h
            exact sec_be P es ep st r ls c lb w m p hr hc hw (by omega) e a1 a2 a3.1 a3.2
          · cases h
  · cases h
end
section
variable (P : Params) (es : Array (Int × Value)) (ep : Nat) (st : SetTable) (ls : List (List At))
theorem turn_none (w : List Nat) (c : Nat) (lb b k i0 : Int) (ip : Option Int) (hc : c ≤ w.length) (hw : w.length ≤ 1000) (hg : gv (w.drop c) = none) (m : Lm) (h1 : m (Str.ofString "self") = some .self) (N : Nat) (hN : 100 + w.length ≤ N) :
    exs (SS P es ep st) N false (fScope (inr 6 8)) W272.1 m ((⟨w, c, w.length, lb, b, k, some i0, ip⟩ : St).sto ls) = some (.brk, m.set (Str.ofString "v_2") (.at (.int c)), (⟨w, c, w.length, lb, b, k, some i0, ip⟩ : St).sto ls) := by
  have G := go_out P es ep st ls w c lb b k (some i0) ip hc hw
  rw [hg] at G
  dsimp only at G
  obtain ⟨n, rfl⟩ : ∃ n, N = n + w.length + 100 := ⟨N - w.length - 100, by omega⟩
  have hf : ∀ j, 40 ≤ j → 60 + w.length ≤ n + w.length + (j + 20) := fun j hj => by omega
  have G' : ∀ j, 60 ≤ j → callF (SS P es ep st) (n + w.length + j) 98 [.self, .stat (.ref setA)] ((⟨w, c, w.length, lb, b, k, some i0, ip⟩ : St).sto ls) = some (.at (.bool false), (⟨w, w.length, w.length, lb, b, k, some i0, ip⟩ : St).sto ls) := fun j hj => G _ (by omega)
  wide_line with [W272, S272, N272, M98, h98, G_Ind, ofVal, SAv, h1, G', G_lab1, X_lab1]
theorem turn_some (w : List Nat) (c j : Nat) (lb b k i0 : Int) (ip : Option Int) (hc : c ≤ w.length) (hw : w.length ≤ 1000) (hg : gv (w.drop c) = some j) (m : Lm) (h1 : m (Str.ofString "self") = some .self) (N : Nat) (hN : 100 + w.length ≤ N) :
    exs (SS P es ep st) N false (fScope (inr 6 8)) W272.1 m ((⟨w, c, w.length, lb, b, k, some i0, ip⟩ : St).sto ls) = some (.cont, m.set (Str.ofString "v_2") (.at (.int c)), (⟨w, ((c + j + 1 : Nat) : Int), w.length, lb, b, k, some (i0 + 1), ip⟩ : St).sto ls) := by
  have G := go_out P es ep st ls w c lb b k (some i0) ip hc hw
  rw [hg] at G
  dsimp only at G
  obtain ⟨n, rfl⟩ : ∃ n, N = n + w.length + 100 := ⟨N - w.length - 100, by omega⟩
  have G' : ∀ q, 60 ≤ q → callF (SS P es ep st) (n + w.length + q) 98 [.self, .stat (.ref setA)] ((⟨w, c, w.length, lb, b, k, some i0, ip⟩ : St).sto ls) = some (.at (.bool true), (⟨w, ((c + j : Nat) : Int), w.length, lb, b, k, some i0, ip⟩ : St).sto ls) := fun q hq => G _ (by omega)
  have e1 : ((c + j : Nat) : Int) + 1 = ((c + j + 1 : Nat) : Int) := by omega
  wide_line with [W272, S272, N272, M98, h98, G_Ind, ofVal, SAv, h1, G', G_lab1, X_lab1, e1]
theorem count (w : List Nat) (lb b k : Int) (ip : Option Int) (hw : w.length ≤ 1000) : ∀ (q c : Nat), w.length - c ≤ q → c ≤ w.length → ∀ (N : Nat) (m : Lm) (i0 : Int), m (Str.ofString "self") = some .self → 110 + w.length + q ≤ N →
    ∃ m' c', whil (SS P es ep st) N (fScope (inr 6 8)) U272.1 W272.1 m ((⟨w, c, w.length, lb, b, k, some i0, ip⟩ : St).sto ls) = some (.next, m', (⟨w, c', w.length, lb, b, k, some (i0 + nv (w.drop c)), ip⟩ : St).sto ls) ∧ ∀ y, y ≠ (Str.ofString "v_2") → m' y = m y := by
  intro q
  induction q with
  | zero =>
    intro c hq hc N m i0 h1 hN
    have e : w.drop c = [] := List.drop_eq_nil_of_le (by omega)
    obtain ⟨n, rfl⟩ : ∃ n, N = n + 1 := ⟨N - 1, by omega⟩
    refine ⟨m.set (Str.ofString "v_2") (.at (.int c)), c, ?_, fun y hy => set_ne _ _ hy⟩
    have t : test (SS P es ep st) n (fScope (inr 6 8)) U272.1 m ((⟨w, c, w.length, lb, b, k, some i0, ip⟩ : St).sto ls) = some (true, (⟨w, c, w.length, lb, b, k, some i0, ip⟩ : St).sto ls) := by
      obtain ⟨n', rfl⟩ : ∃ n', n = n' + 20 := ⟨n - 20, by omega⟩
      wide_line with [U272]
    rw [w_step, t, Option.bind_some, a_kW1, if_pos rfl, turn_none P es ep st ls w c lb b k i0 ip hc hw (by rw [e]; rfl) m h1 n (by omega), Option.bind_some, a_kW2, e, show i0 + ((nv [] : Nat) : Int) = i0 from Int.add_zero _]
  | succ q ih =>
    intro c hq hc N m i0 h1 hN
    obtain ⟨n, rfl⟩ : ∃ n, N = n + 1 := ⟨N - 1, by omega⟩
    have t : test (SS P es ep st) n (fScope (inr 6 8)) U272.1 m ((⟨w, c, w.length, lb, b, k, some i0, ip⟩ : St).sto ls) = some (true, (⟨w, c, w.length, lb, b, k, some i0, ip⟩ : St).sto ls) := by
      obtain ⟨n', rfl⟩ : ∃ n', n = n' + 20 := ⟨n - 20, by omega⟩
      wide_line with [U272]
    rw [w_step, t, Option.bind_some, a_kW1, if_pos rfl]
    cases hg : gv (w.drop c) with
    | none =>
      refine ⟨m.set (Str.ofString "v_2") (.at (.int c)), c, ?_, fun y hy => set_ne _ _ hy⟩
      rw [turn_none P es ep st ls w c lb b k i0 ip hc hw hg m h1 n (by omega), Option.bind_some, a_kW2, gv_none hg, show i0 + ((0 : Nat) : Int) = i0 from Int.add_zero _]
    | some j =>
      obtain ⟨lj, ev⟩ := gv_some hg
      rw [List.length_drop] at lj
      rw [drop2, ← Nat.add_assoc] at ev
      have h1' : (m.set (Str.ofString "v_2") (.at (.int c))) (Str.ofString "self") = some .self := by simp only [a_set, ofS, String.reduceEq, if_false]; exact h1
      rw [turn_some P es ep st ls w c j lb b k i0 ip hc hw hg m h1 n (by omega), Option.bind_some, a_kW2]
      obtain ⟨m', c', e1, e2⟩ := ih (c + j + 1) (by omega) (by omega) n (m.set (Str.ofString "v_2") (.at (.int c))) (i0 + 1) h1' (by omega)
      refine ⟨m', c', ?_, fun y hy => (e2 y hy).trans (set_ne _ _ hy)⟩
      rw [show i0 + (nv (w.drop c) : Int) = i0 + 1 + nv (w.drop (c + j + 1)) by rw [ev]; omega]
      exact e1
end
def tail2 (w : List Nat) (m : Int) : List Nat := match firstP w with
  | some (w3, p, c) => if m - 1 ≤ 2 then w3 else (match sufx p c w3 w3.length with
      | none => w3
      | some d => if m - 1 - 1 ≤ 2 then w3.take (w3.length - d) else (match secondP c p (w3.take (w3.length - d)) with
        | none => w3.take (w3.length - d)
        | some (w5, _) => w5))
  | none => (match secondP 0 0 w with
      | none => (match sufx 0 0 w w.length with | none => w | some d => w.take (w.length - d))
      | some (w3, p) => if m - 1 ≤ 2 then w3 else (match sufx p 0 w3 w3.length with | none => w3 | some d => w3.take (w3.length - d)))
def B17 : { b : List Stmt // L272.1.drop 17 = b } := ⟨_, by unfold L272; dsimp only [List.drop]⟩
theorem take_all (w : List Nat) (d : Nat) : w.take (w.length - d) ++ w.drop w.length = w.take (w.length - d) := by rw [List.drop_length, List.append_nil]
theorem sufx_len {w : List Nat} {p : Int} {lb d : Nat} (h : sufx p lb w w.length = some d) : d ≤ 3 := by
  unfold sufx at h
  repeat' split at h
  all_goals first | (cases h; done) | (cases h; omega)
section
variable (P : Params) (es : Array (Int × Value)) (ep : Nat) (st : SetTable) (r : St) (ls : List (List At))
theorem pa (w : List Nat) (m : Int) (hr : Ok r w 0 0 m 0) (hw : w.length ≤ 1000) (w3 : List Nat) (p : Int) (c : Nat) (hf : firstP w = some (w3, p, c)) (hm : m - 1 ≤ 2) : ∃ r' : St, (∀ N, 330 ≤ N → ∀ mm : Lm, mm (Str.ofString "self") = some .self → (exs (SS P es ep st) N false (fScope (inr 6 8)) B17.1 mm (r.sto ls)).bind kRet = some (.at (.bool true), r'.sto ls)) ∧ r'.cur = w3 := by
  obtain ⟨cur, c', l', lb', b', k', im', ip'⟩ := r
  obtain ⟨h1, h2, h3, h4, h5, h6⟩ := hr
  dsimp only at h1 h2 h3 h4 h5 h6
  subst h1 h2 h3 h4 h5 h6
  obtain ⟨⟨cur1, c1, l1, lb1, b1, k1, im1, ip1⟩, E1, a1, a2, a3, a4, a5, a6⟩ := first_some P es ep st ⟨cur, ((0 : Nat) : Int), cur.length, ((0 : Nat) : Int), b', k', some m, some 0⟩ ls cur w3 m 0 p c ⟨rfl, rfl, rfl, rfl, rfl, rfl⟩ hw hf
  dsimp only at a1 a2 a3 a4 a5 a6
  subst a1 a2 a3 a4 a5 a6
  obtain ⟨hc, hl⟩ := firstP_len hf
  refine ⟨⟨cur1, ((0 : Nat) : Int), cur1.length, ((0 : Nat) : Int), b1, k1, some (m - 1), some p⟩, ?_, rfl⟩
  intro N hN mm hs
  obtain ⟨n, rfl⟩ := Nat.exists_eq_add_of_le' hN
  wide_line with [B17, S272, N272, w_step, f_nil, f_cons, M258, h258, M251, h251, M265, h265, atEq, G_lab0, G_lab1, X_lab0, X_lab1, hs, E1, hm]
theorem pb (w : List Nat) (m : Int) (hr : Ok r w 0 0 m 0) (hw : w.length ≤ 1000) (w3 : List Nat) (p : Int) (c : Nat) (hf : firstP w = some (w3, p, c)) (hm : ¬ m - 1 ≤ 2) (hx : sufx p c w3 w3.length = none) : ∃ r' : St, (∀ N, 330 ≤ N → ∀ mm : Lm, mm (Str.ofString "self") = some .self → (exs (SS P es ep st) N false (fScope (inr 6 8)) B17.1 mm (r.sto ls)).bind kRet = some (.at (.bool true), r'.sto ls)) ∧ r'.cur = w3 := by
  obtain ⟨cur, c', l', lb', b', k', im', ip'⟩ := r
  obtain ⟨h1, h2, h3, h4, h5, h6⟩ := hr
  dsimp only at h1 h2 h3 h4 h5 h6
  subst h1 h2 h3 h4 h5 h6
  obtain ⟨⟨cur1, c1, l1, lb1, b1, k1, im1, ip1⟩, E1, a1, a2, a3, a4, a5, a6⟩ := first_some P es ep st ⟨cur, ((0 : Nat) : Int), cur.length, ((0 : Nat) : Int), b', k', some m, some 0⟩ ls cur w3 m 0 p c ⟨rfl, rfl, rfl, rfl, rfl, rfl⟩ hw hf
  dsimp only at a1 a2 a3 a4 a5 a6
  subst a1 a2 a3 a4 a5 a6
  obtain ⟨hc, hl⟩ := firstP_len hf
  obtain ⟨⟨cur2, c2, l2, lb2, b2, k2, im2, ip2⟩, cq, E2, a1, a2, a3, a4, a5, a6⟩ := sufx_none P es ep st ⟨cur1, (cur1.length : Nat), cur1.length, c, b1, k1, some (m - 1), some p⟩ ls cur1.length c cur1 (m - 1) p ⟨rfl, rfl, rfl, rfl, rfl, rfl⟩ (Nat.le_refl _) hc (by omega) hx
  dsimp only at a1 a2 a3 a4 a5 a6
  subst a1 a2 a3 a4 a5 a6
  refine ⟨⟨cur2, ((0 : Nat) : Int), cur2.length, c, b2, k2, some (m - 1), some p⟩, ?_, rfl⟩
  intro N hN mm hs
  obtain ⟨n, rfl⟩ := Nat.exists_eq_add_of_le' hN
  wide_line with [B17, S272, N272, w_step, f_nil, f_cons, M258, h258, M251, h251, M265, h265, atEq, G_lab0, G_lab1, X_lab0, X_lab1, hs, E1, E2, hm]
theorem pc (w : List Nat) (m : Int) (hr : Ok r w 0 0 m 0) (hw : w.length ≤ 1000) (w3 : List Nat) (p : Int) (c : Nat) (hf : firstP w = some (w3, p, c)) (hm : ¬ m - 1 ≤ 2) (d : Nat) (hx : sufx p c w3 w3.length = some d) (hm2 : m - 1 - 1 ≤ 2) : ∃ r' : St, (∀ N, 330 ≤ N → ∀ mm : Lm, mm (Str.ofString "self") = some .self → (exs (SS P es ep st) N false (fScope (inr 6 8)) B17.1 mm (r.sto ls)).bind kRet = some (.at (.bool true), r'.sto ls)) ∧ r'.cur = (w3.take (w3.length - d)) := by
  obtain ⟨cur, c', l', lb', b', k', im', ip'⟩ := r
  obtain ⟨h1, h2, h3, h4, h5, h6⟩ := hr
  dsimp only at h1 h2 h3 h4 h5 h6
  subst h1 h2 h3 h4 h5 h6
  obtain ⟨⟨cur1, c1, l1, lb1, b1, k1, im1, ip1⟩, E1, a1, a2, a3, a4, a5, a6⟩ := first_some P es ep st ⟨cur, ((0 : Nat) : Int), cur.length, ((0 : Nat) : Int), b', k', some m, some 0⟩ ls cur w3 m 0 p c ⟨rfl, rfl, rfl, rfl, rfl, rfl⟩ hw hf
  dsimp only at a1 a2 a3 a4 a5 a6
  subst a1 a2 a3 a4 a5 a6
  obtain ⟨hc, hl⟩ := firstP_len hf
  obtain ⟨⟨cur2, c2, l2, lb2, b2, k2, im2, ip2⟩, E2, ⟨a1, a2, a3, a4, a5, a6⟩, hd⟩ := sufx_some P es ep st ⟨cur1, (cur1.length : Nat), cur1.length, c, b1, k1, some (m - 1), some p⟩ ls d cur1.length c cur1 (m - 1) p ⟨rfl, rfl, rfl, rfl, rfl, rfl⟩ (Nat.le_refl _) hc (by omega) hx
  dsimp only at a1 a2 a3 a4 a5 a6
  rw [take_all] at a1 a3
  subst a1 a2 a3 a4 a5 a6
  refine ⟨⟨(cur1.take (cur1.length - d)), ((0 : Nat) : Int), (cur1.take (cur1.length - d)).length, c, b2, k2, some (m - 1 - 1), some p⟩, ?_, rfl⟩
  intro N hN mm hs
  obtain ⟨n, rfl⟩ := Nat.exists_eq_add_of_le' hN
  wide_line with [B17, S272, N272, w_step, f_nil, f_cons, M258, h258, M251, h251, M265, h265, atEq, G_lab0, G_lab1, X_lab0, X_lab1, hs, E1, E2, hm, hm2]
theorem pd (w : List Nat) (m : Int) (hr : Ok r w 0 0 m 0) (hw : w.length ≤ 1000) (w3 : List Nat) (p : Int) (c : Nat) (hf : firstP w = some (w3, p, c)) (hm : ¬ m - 1 ≤ 2) (d : Nat) (hx : sufx p c w3 w3.length = some d) (hm2 : ¬ m - 1 - 1 ≤ 2) (hs2 : secondP c p (w3.take (w3.length - d)) = none) : ∃ r' : St, (∀ N, 330 ≤ N → ∀ mm : Lm, mm (Str.ofString "self") = some .self → (exs (SS P es ep st) N false (fScope (inr 6 8)) B17.1 mm (r.sto ls)).bind kRet = some (.at (.bool true), r'.sto ls)) ∧ r'.cur = (w3.take (w3.length - d)) := by
  obtain ⟨cur, c', l', lb', b', k', im', ip'⟩ := r
  obtain ⟨h1, h2, h3, h4, h5, h6⟩ := hr
  dsimp only at h1 h2 h3 h4 h5 h6
  subst h1 h2 h3 h4 h5 h6
  obtain ⟨⟨cur1, c1, l1, lb1, b1, k1, im1, ip1⟩, E1, a1, a2, a3, a4, a5, a6⟩ := first_some P es ep st ⟨cur, ((0 : Nat) : Int), cur.length, ((0 : Nat) : Int), b', k', some m, some 0⟩ ls cur w3 m 0 p c ⟨rfl, rfl, rfl, rfl, rfl, rfl⟩ hw hf
  dsimp only at a1 a2 a3 a4 a5 a6
  subst a1 a2 a3 a4 a5 a6
  obtain ⟨hc, hl⟩ := firstP_len hf
  obtain ⟨⟨cur2, c2, l2, lb2, b2, k2, im2, ip2⟩, E2, ⟨a1, a2, a3, a4, a5, a6⟩, hd⟩ := sufx_some P es ep st ⟨cur1, (cur1.length : Nat), cur1.length, c, b1, k1, some (m - 1), some p⟩ ls d cur1.length c cur1 (m - 1) p ⟨rfl, rfl, rfl, rfl, rfl, rfl⟩ (Nat.le_refl _) hc (by omega) hx
  dsimp only at a1 a2 a3 a4 a5 a6
  rw [take_all] at a1 a3
  subst a1 a2 a3 a4 a5 a6
  have hl4 : c ≤ (cur1.take (cur1.length - d)).length ∧ (cur1.take (cur1.length - d)).length ≤ 1000 := by rw [List.length_take]; omega
  obtain ⟨⟨cur3, c3, l3, lb3, b3, k3, im3, ip3⟩, cq, E3, a1, a2, a3, a4, a5, a6⟩ := second_none P es ep st ⟨(cur1.take (cur1.length - d)), (c : Nat), (cur1.take (cur1.length - d)).length, c, b2, k2, some (m - 1 - 1), some p⟩ ls c c (cur1.take (cur1.length - d)) (m - 1 - 1) p ⟨rfl, rfl, rfl, rfl, rfl, rfl⟩ hl4.1 hl4.2 hs2
  dsimp only at a1 a2 a3 a4 a5 a6
  subst a1 a2 a3 a4 a5 a6
  refine ⟨⟨(cur1.take (cur1.length - d)), ((0 : Nat) : Int), (cur1.take (cur1.length - d)).length, c, b3, k3, some (m - 1 - 1), some p⟩, ?_, rfl⟩
  intro N hN mm hs
  obtain ⟨n, rfl⟩ := Nat.exists_eq_add_of_le' hN
  wide_line with [B17, S272, N272, w_step, f_nil, f_cons, M258, h258, M251, h251, M265, h265, atEq, G_lab0, G_lab1, X_lab0, X_lab1, hs, E1, E2, E3, hm, hm2]
theorem pe (w : List Nat) (m : Int) (hr : Ok r w 0 0 m 0) (hw : w.length ≤ 1000) (w3 : List Nat) (p : Int) (c : Nat) (hf : firstP w = some (w3, p, c)) (hm : ¬ m - 1 ≤ 2) (d : Nat) (hx : sufx p c w3 w3.length = some d) (hm2 : ¬ m - 1 - 1 ≤ 2) (w5 : List Nat) (p5 : Int) (hs2 : secondP c p (w3.take (w3.length - d)) = some (w5, p5)) : ∃ r' : St, (∀ N, 330 ≤ N → ∀ mm : Lm, mm (Str.ofString "self") = some .self → (exs (SS P es ep st) N false (fScope (inr 6 8)) B17.1 mm (r.sto ls)).bind kRet = some (.at (.bool true), r'.sto ls)) ∧ r'.cur = w5 := by
  obtain ⟨cur, c', l', lb', b', k', im', ip'⟩ := r
  obtain ⟨h1, h2, h3, h4, h5, h6⟩ := hr
  dsimp only at h1 h2 h3 h4 h5 h6
  subst h1 h2 h3 h4 h5 h6
  obtain ⟨⟨cur1, c1, l1, lb1, b1, k1, im1, ip1⟩, E1, a1, a2, a3, a4, a5, a6⟩ := first_some P es ep st ⟨cur, ((0 : Nat) : Int), cur.length, ((0 : Nat) : Int), b', k', some m, some 0⟩ ls cur w3 m 0 p c ⟨rfl, rfl, rfl, rfl, rfl, rfl⟩ hw hf
  dsimp only at a1 a2 a3 a4 a5 a6
  subst a1 a2 a3 a4 a5 a6
  obtain ⟨hc, hl⟩ := firstP_len hf
  obtain ⟨⟨cur2, c2, l2, lb2, b2, k2, im2, ip2⟩, E2, ⟨a1, a2, a3, a4, a5, a6⟩, hd⟩ := sufx_some P es ep st ⟨cur1, (cur1.length : Nat), cur1.length, c, b1, k1, some (m - 1), some p⟩ ls d cur1.length c cur1 (m - 1) p ⟨rfl, rfl, rfl, rfl, rfl, rfl⟩ (Nat.le_refl _) hc (by omega) hx
  dsimp only at a1 a2 a3 a4 a5 a6
  rw [take_all] at a1 a3
  subst a1 a2 a3 a4 a5 a6
  have hl4 : c ≤ (cur1.take (cur1.length - d)).length ∧ (cur1.take (cur1.length - d)).length ≤ 1000 := by rw [List.length_take]; omega
  obtain ⟨⟨cur3, c3, l3, lb3, b3, k3, im3, ip3⟩, cq, E3, a1, a2, a3, a4, a5, a6⟩ := second_some P es ep st ⟨(cur1.take (cur1.length - d)), (c : Nat), (cur1.take (cur1.length - d)).length, c, b2, k2, some (m - 1 - 1), some p⟩ ls c c (cur1.take (cur1.length - d)) w5 (m - 1 - 1) p p5 ⟨rfl, rfl, rfl, rfl, rfl, rfl⟩ hl4.1 hl4.2 hs2
  dsimp only at a1 a2 a3 a4 a5 a6
  subst a1 a2 a3 a4 a5 a6
  refine ⟨⟨cur3, ((0 : Nat) : Int), cur3.length, c, b3, k3, some (m - 1 - 1 - 1), some p5⟩, ?_, rfl⟩
  intro N hN mm hs
  obtain ⟨n, rfl⟩ := Nat.exists_eq_add_of_le' hN
  wide_line with [B17, S272, N272, w_step, f_nil, f_cons, M258, h258, M251, h251, M265, h265, atEq, G_lab0, G_lab1, X_lab0, X_lab1, hs, E1, E2, E3, hm, hm2]
theorem pf (w : List Nat) (m : Int) (hr : Ok r w 0 0 m 0) (hw : w.length ≤ 1000) (hf : firstP w = none) (hm : ¬ m ≤ 2) (hs2 : secondP 0 0 w = none) (hx : sufx 0 0 w w.length = none) : ∃ r' : St, (∀ N, 330 ≤ N → ∀ mm : Lm, mm (Str.ofString "self") = some .self → (exs (SS P es ep st) N false (fScope (inr 6 8)) B17.1 mm (r.sto ls)).bind kRet = some (.at (.bool true), r'.sto ls)) ∧ r'.cur = w := by
  obtain ⟨cur, c', l', lb', b', k', im', ip'⟩ := r
  obtain ⟨h1, h2, h3, h4, h5, h6⟩ := hr
  dsimp only at h1 h2 h3 h4 h5 h6
  subst h1 h2 h3 h4 h5 h6
  obtain ⟨⟨cur1, c1, l1, lb1, b1, k1, im1, ip1⟩, E1, a1, a2, a3, a4, a5, a6⟩ := first_none P es ep st ⟨cur, ((0 : Nat) : Int), cur.length, ((0 : Nat) : Int), b', k', some m, some 0⟩ ls cur m 0 ⟨rfl, rfl, rfl, rfl, rfl, rfl⟩ hw hf
  dsimp only at a1 a2 a3 a4 a5 a6
  subst a1 a2 a3 a4 a5 a6
  obtain ⟨⟨cur2, c2, l2, lb2, b2, k2, im2, ip2⟩, cq, E2, a1, a2, a3, a4, a5, a6⟩ := second_none P es ep st ⟨cur1, ((0 : Nat) : Int), cur1.length, ((0 : Nat) : Int), b1, k1, some m, some 0⟩ ls 0 0 cur1 m 0 ⟨rfl, rfl, rfl, rfl, rfl, rfl⟩ (Nat.zero_le _) hw hs2
  dsimp only at a1 a2 a3 a4 a5 a6
  subst a1 a2 a3 a4 a5 a6
  obtain ⟨⟨cur3, c3, l3, lb3, b3, k3, im3, ip3⟩, cr, E3, a1, a2, a3, a4, a5, a6⟩ := sufx_none P es ep st ⟨cur2, (cur2.length : Nat), cur2.length, ((0 : Nat) : Int), b2, k2, some (m), some 0⟩ ls cur2.length 0 cur2 (m) 0 ⟨rfl, rfl, rfl, rfl, rfl, rfl⟩ (Nat.le_refl _) (Nat.zero_le _) (by omega) hx
  dsimp only at a1 a2 a3 a4 a5 a6
  subst a1 a2 a3 a4 a5 a6
  refine ⟨⟨cur3, ((0 : Nat) : Int), cur3.length, ((0 : Nat) : Int), b3, k3, some m, some 0⟩, ?_, rfl⟩
  intro N hN mm hs
  obtain ⟨n, rfl⟩ := Nat.exists_eq_add_of_le' hN
  wide_line with [B17, S272, N272, w_step, f_nil, f_cons, M258, h258, M251, h251, M265, h265, atEq, G_lab0, G_lab1, X_lab0, X_lab1, hs, E1, E2, E3, hm]
theorem pg (w : List Nat) (m : Int) (hr : Ok r w 0 0 m 0) (hw : w.length ≤ 1000) (hf : firstP w = none) (hm : ¬ m ≤ 2) (hs2 : secondP 0 0 w = none) (d : Nat) (hx : sufx 0 0 w w.length = some d) : ∃ r' : St, (∀ N, 330 ≤ N → ∀ mm : Lm, mm (Str.ofString "self") = some .self → (exs (SS P es ep st) N false (fScope (inr 6 8)) B17.1 mm (r.sto ls)).bind kRet = some (.at (.bool true), r'.sto ls)) ∧ r'.cur = w.take (w.length - d) := by
  obtain ⟨cur, c', l', lb', b', k', im', ip'⟩ := r
  obtain ⟨h1, h2, h3, h4, h5, h6⟩ := hr
  dsimp only at h1 h2 h3 h4 h5 h6
  subst h1 h2 h3 h4 h5 h6
  obtain ⟨⟨cur1, c1, l1, lb1, b1, k1, im1, ip1⟩, E1, a1, a2, a3, a4, a5, a6⟩ := first_none P es ep st ⟨cur, ((0 : Nat) : Int), cur.length, ((0 : Nat) : Int), b', k', some m, some 0⟩ ls cur m 0 ⟨rfl, rfl, rfl, rfl, rfl, rfl⟩ hw hf
  dsimp only at a1 a2 a3 a4 a5 a6
  subst a1 a2 a3 a4 a5 a6
  obtain ⟨⟨cur2, c2, l2, lb2, b2, k2, im2, ip2⟩, cq, E2, a1, a2, a3, a4, a5, a6⟩ := second_none P es ep st ⟨cur1, ((0 : Nat) : Int), cur1.length, ((0 : Nat) : Int), b1, k1, some m, some 0⟩ ls 0 0 cur1 m 0 ⟨rfl, rfl, rfl, rfl, rfl, rfl⟩ (Nat.zero_le _) hw hs2
  dsimp only at a1 a2 a3 a4 a5 a6
  subst a1 a2 a3 a4 a5 a6
  obtain ⟨⟨cur3, c3, l3, lb3, b3, k3, im3, ip3⟩, E3, ⟨a1, a2, a3, a4, a5, a6⟩, hd⟩ := sufx_some P es ep st ⟨cur2, (cur2.length : Nat), cur2.length, ((0 : Nat) : Int), b2, k2, some (m), some 0⟩ ls d cur2.length 0 cur2 (m) 0 ⟨rfl, rfl, rfl, rfl, rfl, rfl⟩ (Nat.le_refl _) (Nat.zero_le _) (by omega) hx
  dsimp only at a1 a2 a3 a4 a5 a6
  rw [take_all] at a1 a3
  subst a1 a2 a3 a4 a5 a6
  refine ⟨⟨cur2.take (cur2.length - d), ((0 : Nat) : Int), (cur2.take (cur2.length - d)).length, ((0 : Nat) : Int), b3, k3, some (m - 1), some 0⟩, ?_, rfl⟩
  intro N hN mm hs
  obtain ⟨n, rfl⟩ := Nat.exists_eq_add_of_le' hN
  wide_line with [B17, S272, N272, w_step, f_nil, f_cons, M258, h258, M251, h251, M265, h265, atEq, G_lab0, G_lab1, X_lab0, X_lab1, hs, E1, E2, E3, hm]
theorem ph (w : List Nat) (m : Int) (hr : Ok r w 0 0 m 0) (hw : w.length ≤ 1000) (hf : firstP w = none) (w3 : List Nat) (p : Int) (hs2 : secondP 0 0 w = some (w3, p)) (hm : m - 1 ≤ 2) : ∃ r' : St, (∀ N, 330 ≤ N → ∀ mm : Lm, mm (Str.ofString "self") = some .self → (exs (SS P es ep st) N false (fScope (inr 6 8)) B17.1 mm (r.sto ls)).bind kRet = some (.at (.bool true), r'.sto ls)) ∧ r'.cur = w3 := by
  obtain ⟨cur, c', l', lb', b', k', im', ip'⟩ := r
  obtain ⟨h1, h2, h3, h4, h5, h6⟩ := hr
  dsimp only at h1 h2 h3 h4 h5 h6
  subst h1 h2 h3 h4 h5 h6
  obtain ⟨⟨cur1, c1, l1, lb1, b1, k1, im1, ip1⟩, E1, a1, a2, a3, a4, a5, a6⟩ := first_none P es ep st ⟨cur, ((0 : Nat) : Int), cur.length, ((0 : Nat) : Int), b', k', some m, some 0⟩ ls cur m 0 ⟨rfl, rfl, rfl, rfl, rfl, rfl⟩ hw hf
  dsimp only at a1 a2 a3 a4 a5 a6
  subst a1 a2 a3 a4 a5 a6
  obtain ⟨⟨cur2, c2, l2, lb2, b2, k2, im2, ip2⟩, cq, E2, a1, a2, a3, a4, a5, a6⟩ := second_some P es ep st ⟨cur1, ((0 : Nat) : Int), cur1.length, ((0 : Nat) : Int), b1, k1, some m, some 0⟩ ls 0 0 cur1 w3 m 0 p ⟨rfl, rfl, rfl, rfl, rfl, rfl⟩ (Nat.zero_le _) hw hs2
  dsimp only at a1 a2 a3 a4 a5 a6
  subst a1 a2 a3 a4 a5 a6
  refine ⟨⟨cur2, ((0 : Nat) : Int), cur2.length, ((0 : Nat) : Int), b2, k2, some (m - 1), some p⟩, ?_, rfl⟩
  intro N hN mm hs
  obtain ⟨n, rfl⟩ := Nat.exists_eq_add_of_le' hN
  wide_line with [B17, S272, N272, w_step, f_nil, f_cons, M258, h258, M251, h251, M265, h265, atEq, G_lab0, G_lab1, X_lab0, X_lab1, hs, E1, E2, hm]
theorem pi (w : List Nat) (m : Int) (hr : Ok r w 0 0 m 0) (hw : w.length ≤ 1000) (hf : firstP w = none) (w3 : List Nat) (p : Int) (hs2 : secondP 0 0 w = some (w3, p)) (h3 : w3.length ≤ 1000) (hm : ¬ m - 1 ≤ 2) (hx : sufx p 0 w3 w3.length = none) : ∃ r' : St, (∀ N, 330 ≤ N → ∀ mm : Lm, mm (Str.ofString "self") = some .self → (exs (SS P es ep st) N false (fScope (inr 6 8)) B17.1 mm (r.sto ls)).bind kRet = some (.at (.bool true), r'.sto ls)) ∧ r'.cur = w3 := by
  obtain ⟨cur, c', l', lb', b', k', im', ip'⟩ := r
  obtain ⟨h1, h2, h3, h4, h5, h6⟩ := hr
  dsimp only at h1 h2 h3 h4 h5 h6
  subst h1 h2 h3 h4 h5 h6
  obtain ⟨⟨cur1, c1, l1, lb1, b1, k1, im1, ip1⟩, E1, a1, a2, a3, a4, a5, a6⟩ := first_none P es ep st ⟨cur, ((0 : Nat) : Int), cur.length, ((0 : Nat) : Int), b', k', some m, some 0⟩ ls cur m 0 ⟨rfl, rfl, rfl, rfl, rfl, rfl⟩ hw hf
  dsimp only at a1 a2 a3 a4 a5 a6
  subst a1 a2 a3 a4 a5 a6
  obtain ⟨⟨cur2, c2, l2, lb2, b2, k2, im2, ip2⟩, cq, E2, a1, a2, a3, a4, a5, a6⟩ := second_some P es ep st ⟨cur1, ((0 : Nat) : Int), cur1.length, ((0 : Nat) : Int), b1, k1, some m, some 0⟩ ls 0 0 cur1 w3 m 0 p ⟨rfl, rfl, rfl, rfl, rfl, rfl⟩ (Nat.zero_le _) hw hs2
  dsimp only at a1 a2 a3 a4 a5 a6
  subst a1 a2 a3 a4 a5 a6
  obtain ⟨⟨cur3, c3, l3, lb3, b3, k3, im3, ip3⟩, cr, E3, a1, a2, a3, a4, a5, a6⟩ := sufx_none P es ep st ⟨cur2, (cur2.length : Nat), cur2.length, ((0 : Nat) : Int), b2, k2, some (m - 1), some p⟩ ls cur2.length 0 cur2 (m - 1) p ⟨rfl, rfl, rfl, rfl, rfl, rfl⟩ (Nat.le_refl _) (Nat.zero_le _) (by omega) hx
  dsimp only at a1 a2 a3 a4 a5 a6
  subst a1 a2 a3 a4 a5 a6
  refine ⟨⟨cur3, ((0 : Nat) : Int), cur3.length, ((0 : Nat) : Int), b3, k3, some (m - 1), some p⟩, ?_, rfl⟩
  intro N hN mm hs
  obtain ⟨n, rfl⟩ := Nat.exists_eq_add_of_le' hN
  wide_line with [B17, S272, N272, w_step, f_nil, f_cons, M258, h258, M251, h251, M265, h265, atEq, G_lab0, G_lab1, X_lab0, X_lab1, hs, E1, E2, E3, hm]
theorem pj (w : List Nat) (m : Int) (hr : Ok r w 0 0 m 0) (hw : w.length ≤ 1000) (hf : firstP w = none) (w3 : List Nat) (p : Int) (hs2 : secondP 0 0 w = some (w3, p)) (h3 : w3.length ≤ 1000) (hm : ¬ m - 1 ≤ 2) (d : Nat) (hx : sufx p 0 w3 w3.length = some d) : ∃ r' : St, (∀ N, 330 ≤ N → ∀ mm : Lm, mm (Str.ofString "self") = some .self → (exs (SS P es ep st) N false (fScope (inr 6 8)) B17.1 mm (r.sto ls)).bind kRet = some (.at (.bool true), r'.sto ls)) ∧ r'.cur = w3.take (w3.length - d) := by
  obtain ⟨cur, c', l', lb', b', k', im', ip'⟩ := r
  obtain ⟨h1, h2, h3, h4, h5, h6⟩ := hr
  dsimp only at h1 h2 h3 h4 h5 h6
  subst h1 h2 h3 h4 h5 h6
  obtain ⟨⟨cur1, c1, l1, lb1, b1, k1, im1, ip1⟩, E1, a1, a2, a3, a4, a5, a6⟩ := first_none P es ep st ⟨cur, ((0 : Nat) : Int), cur.length, ((0 : Nat) : Int), b', k', some m, some 0⟩ ls cur m 0 ⟨rfl, rfl, rfl, rfl, rfl, rfl⟩ hw hf
  dsimp only at a1 a2 a3 a4 a5 a6
  subst a1 a2 a3 a4 a5 a6
  obtain ⟨⟨cur2, c2, l2, lb2, b2, k2, im2, ip2⟩, cq, E2, a1, a2, a3, a4, a5, a6⟩ := second_some P es ep st ⟨cur1, ((0 : Nat) : Int), cur1.length, ((0 : Nat) : Int), b1, k1, some m, some 0⟩ ls 0 0 cur1 w3 m 0 p ⟨rfl, rfl, rfl, rfl, rfl, rfl⟩ (Nat.zero_le _) hw hs2
  dsimp only at a1 a2 a3 a4 a5 a6
  subst a1 a2 a3 a4 a5 a6
  obtain ⟨⟨cur3, c3, l3, lb3, b3, k3, im3, ip3⟩, E3, ⟨a1, a2, a3, a4, a5, a6⟩, hd⟩ := sufx_some P es ep st ⟨cur2, (cur2.length : Nat), cur2.length, ((0 : Nat) : Int), b2, k2, some (m - 1), some p⟩ ls d cur2.length 0 cur2 (m - 1) p ⟨rfl, rfl, rfl, rfl, rfl, rfl⟩ (Nat.le_refl _) (Nat.zero_le _) (by omega) hx
  dsimp only at a1 a2 a3 a4 a5 a6
  rw [take_all] at a1 a3
  subst a1 a2 a3 a4 a5 a6
  refine ⟨⟨cur2.take (cur2.length - d), ((0 : Nat) : Int), (cur2.take (cur2.length - d)).length, ((0 : Nat) : Int), b3, k3, some (m - 1 - 1), some p⟩, ?_, rfl⟩
  intro N hN mm hs
  obtain ⟨n, rfl⟩ := Nat.exists_eq_add_of_le' hN
  wide_line with [B17, S272, N272, w_step, f_nil, f_cons, M258, h258, M251, h251, M265, h265, atEq, G_lab0, G_lab1, X_lab0, X_lab1, hs, E1, E2, E3, hm]
end
theorem secondP_len {c : Nat} {p p' : Int} {w w' : List Nat} (h : secondP c p w = some (w', p')) : w'.length ≤ w.length := by
  unfold secondP at h
  repeat' split at h
  all_goals first
    | (cases h; done)
    | (simp only [Option.some.injEq, Prod.mk.injEq] at h
       obtain ⟨h1, _⟩ := h
       subst h1
       simp only [List.length_append, List.length_take, List.length_drop]
       omega)
def cutD (T : List Row) (w : List Nat) : Option Nat := (aT (rvT T) (rv w w.length 0)).2
def cutW (T : List Row) (w : List Nat) : List Nat := match cutD T w with | some d => w.take (w.length - d) | none => w
def cutM (T : List Row) (w : List Nat) (m : Int) : Int := match cutD T w with | some _ => m - 1 | none => m
theorem cutW_len (T : List Row) (w : List Nat) : (cutW T w).length ≤ w.length := by
  unfold cutW
  split
  · rw [List.length_take]; omega
  · omega
def tail1 (w : List Nat) (m : Int) : List Nat :=
  if m ≤ 2 then w else if cutM TA0 w m ≤ 2 then cutW TA0 w
  else if cutM TA1 (cutW TA0 w) (cutM TA0 w m) ≤ 2 then cutW TA1 (cutW TA0 w) else tail2 (cutW TA1 (cutW TA0 w)) (cutM TA1 (cutW TA0 w) (cutM TA0 w m))
def stem (w : List Nat) : List Nat := tail1 w (nv w)
def A17 : { b : List Stmt // L272.1.take 4 = b } := ⟨_, by unfold L272; dsimp only [List.take]⟩
section
variable (P : Params) (es : Array (Int × Value)) (ep : Nat) (st : SetTable) (r : St) (ls : List (List At))
theorem part (w : List Nat) (m p : Int) (hr : Ok r w w.length 0 m p) (hw : w.length ≤ 1000) :
    ∃ r' b c', (∀ N, 150 ≤ N → callF (SS P es ep st) N 237 [.self] (r.sto ls) = some (.at (.bool b), r'.sto ls)) ∧ Ok r' (cutW TA0 w) c' 0 (cutM TA0 w m) p := by
  unfold cutW cutM
  cases h : cutD TA0 w with
  | none =>
    obtain ⟨r', a, b⟩ := part_none P es ep st r ls w.length 0 w m p hr (Nat.le_refl _) (Nat.zero_le _) hw h
    exact ⟨r', _, _, a, b⟩
  | some d =>
    obtain ⟨r', a, b⟩ := part_some P es ep st r ls w.length 0 d w m p hr (Nat.le_refl _) (Nat.zero_le _) hw h
    rw [take_all] at b
    exact ⟨r', _, _, a, b⟩
theorem pron (w : List Nat) (m p : Int) (hr : Ok r w w.length 0 m p) (hw : w.length ≤ 1000) :
    ∃ r' b c', (∀ N, 150 ≤ N → callF (SS P es ep st) N 244 [.self] (r.sto ls) = some (.at (.bool b), r'.sto ls)) ∧ Ok r' (cutW TA1 w) c' 0 (cutM TA1 w m) p := by
  unfold cutW cutM
  cases h : cutD TA1 w with
  | none =>
    obtain ⟨r', a, b⟩ := pron_none P es ep st r ls w.length 0 w m p hr (Nat.le_refl _) (Nat.zero_le _) hw h
    exact ⟨r', _, _, a, b⟩
  | some d =>
    obtain ⟨r', a, b⟩ := pron_some P es ep st r ls w.length 0 d w m p hr (Nat.le_refl _) (Nat.zero_le _) hw h
    rw [take_all] at b
    exact ⟨r', _, _, a, b⟩
theorem tail2_spec (w : List Nat) (m : Int) (hr : Ok r w 0 0 m 0) (hw : w.length ≤ 1000) (hm : ¬ m ≤ 2) :
    ∃ r' : St, (∀ N, 330 ≤ N → ∀ mm : Lm, mm (Str.ofString "self") = some .self → (exs (SS P es ep st) N false (fScope (inr 6 8)) B17.1 mm (r.sto ls)).bind kRet = some (.at (.bool true), r'.sto ls)) ∧ r'.cur = tail2 w m := by
  unfold tail2
  split
  · rename_i w3 p c hf
    split
    · rename_i h1
      exact pa P es ep st r ls w m hr hw w3 p c hf h1
    · rename_i h1
      split
      · rename_i h2
        exact pb P es ep st r ls w m hr hw w3 p c hf h1 h2
      · rename_i d h2
        split
        · rename_i h3
          exact pc P es ep st r ls w m hr hw w3 p c hf h1 d h2 h3
        · rename_i h3
          split
          · rename_i h4
            exact pd P es ep st r ls w m hr hw w3 p c hf h1 d h2 h3 h4
          · rename_i w5 p5 h4
            exact pe P es ep st r ls w m hr hw w3 p c hf h1 d h2 h3 w5 p5 h4
  · rename_i hf
    split
    · rename_i h2
      split
      · rename_i h3
        exact pf P es ep st r ls w m hr hw hf hm h2 h3
      · rename_i d h3
        exact pg P es ep st r ls w m hr hw hf hm h2 d h3
    · rename_i w3 p h2
      have hl := secondP_len h2
      split
      · rename_i h3
        exact ph P es ep st r ls w m hr hw hf w3 p h2 h3
      · rename_i h3
        split
        · rename_i h4
          exact pi P es ep st r ls w m hr hw hf w3 p h2 (by omega) h3 h4
        · rename_i d h4
          exact pj P es ep st r ls w m hr hw hf w3 p h2 (by omega) h3 d h4
theorem seg_a (w : List Nat) (b k : Int) (im ip : Option Int) (hw : w.length ≤ 60) (N : Nat) (hN : 300 ≤ N) (m : Lm) (hs : m (Str.ofString "self") = some .self) (rest : List Stmt) :
    ∃ m', exs (SS P es ep st) (N + 4) false (fScope (inr 6 8)) (A17.1 ++ rest) m ((⟨w, ((0 : Nat) : Int), w.length, ((0 : Nat) : Int), b, k, im, ip⟩ : St).sto ls) = exs (SS P es ep st) N false (fScope (inr 6 8)) rest m' ((⟨w, ((0 : Nat) : Int), w.length, ((0 : Nat) : Int), b, k, some ((nv w : Nat) : Int), ip⟩ : St).sto ls) ∧ m' (Str.ofString "self") = some .self := by
  obtain ⟨m1, c1, e1, e2⟩ := count P es ep st ls w ((0 : Nat) : Int) b k ip (by omega) w.length 0 (by omega) (Nat.zero_le _) (N - 2) (m.set (Str.ofString "v_1") (.at (.int ((0 : Nat) : Int)))) 0 (by simp only [a_set, ofS, String.reduceEq, if_false]; exact hs) (by omega)
  have hs1 : m1 (Str.ofString "self") = some .self := by rw [e2 _ (by simp [ofS])]; simp only [a_set, ofS, String.reduceEq, if_false]; exact hs
  have hv1 : m1 (Str.ofString "v_1") = some (.at (.int ((0 : Nat) : Int))) := by rw [e2 _ (by simp [ofS])]; simp only [a_set, if_true]
  rw [List.drop_zero, Int.zero_add] at e1
  obtain ⟨n, rfl⟩ : ∃ n, N = n + 100 := ⟨N - 100, by omega⟩
  rw [show n + 100 - 2 = n + 98 by omega] at e1
  unfold U272 W272 at e1
  dsimp only at e1
  refine ⟨m1, ?_, hs1⟩
  wide_line with [A17, List.cons_append, List.nil_append, S272, N272, hs, e1, hs1, hv1]
end
def M17 : { b : List Stmt // (L272.1.drop 4).take 13 = b } := ⟨_, by unfold L272; dsimp only [List.drop, List.take]⟩
theorem body_eq : L272.1 = A17.1 ++ (M17.1 ++ B17.1) := by unfold L272 A17 M17 B17; rfl
section
variable (P : Params) (es : Array (Int × Value)) (ep : Nat) (st : SetTable) (ls : List (List At))
theorem mid1 (w : List Nat) (b k : Int) (ip : Option Int) (m : Int) (rest : List Stmt) (mm : Lm) (hs : mm (Str.ofString "self") = some .self) (n : Nat) (hm : m ≤ 2) : (exs (SS P es ep st) (n + 360) false (fScope (inr 6 8)) (M17.1 ++ rest) mm ((⟨w, ((0 : Nat) : Int), w.length, ((0 : Nat) : Int), b, k, some m, ip⟩ : St).sto ls)).bind kRet = some (.at (.bool false), ((⟨w, ((0 : Nat) : Int), w.length, ((0 : Nat) : Int), b, k, some m, ip⟩ : St).sto ls)) := by
  wide_line with [M17, List.cons_append, List.nil_append, S272, N272, M237, h237, M244, h244, hs, hm]
theorem mid2 (w : List Nat) (b k : Int) (ip : Option Int) (m : Int) (rest : List Stmt) (mm : Lm) (hs : mm (Str.ofString "self") = some .self) (n : Nat) (hm : ¬ m ≤ 2) (w1 : List Nat) (c1 b1 k1 m1 : Int) (x1 : Bool) (E1 : ∀ N, 150 ≤ N → callF (SS P es ep st) N 237 [.self] ((⟨w, w.length, w.length, ((0 : Nat) : Int), b, k, some m, some 0⟩ : St).sto ls) = some (.at (.bool x1), (⟨w1, c1, w1.length, ((0 : Nat) : Int), b1, k1, some m1, some 0⟩ : St).sto ls)) (hm1 : m1 ≤ 2) : (exs (SS P es ep st) (n + 360) false (fScope (inr 6 8)) (M17.1 ++ rest) mm ((⟨w, ((0 : Nat) : Int), w.length, ((0 : Nat) : Int), b, k, some m, ip⟩ : St).sto ls)).bind kRet = some (.at (.bool false), (⟨w1, w1.length, w1.length, ((0 : Nat) : Int), b1, k1, some m1, some 0⟩ : St).sto ls) := by
  have zz : ∀ a b : Int, a - (b - b) = a := fun a b => by omega
  wide_line with [M17, List.cons_append, List.nil_append, S272, N272, M237, h237, M244, h244, hs, hm, E1, zz, hm1]
theorem mid3 (w : List Nat) (b k : Int) (ip : Option Int) (m : Int) (rest : List Stmt) (mm : Lm) (hs : mm (Str.ofString "self") = some .self) (n : Nat) (hm : ¬ m ≤ 2) (w1 : List Nat) (c1 b1 k1 m1 : Int) (x1 : Bool) (E1 : ∀ N, 150 ≤ N → callF (SS P es ep st) N 237 [.self] ((⟨w, w.length, w.length, ((0 : Nat) : Int), b, k, some m, some 0⟩ : St).sto ls) = some (.at (.bool x1), (⟨w1, c1, w1.length, ((0 : Nat) : Int), b1, k1, some m1, some 0⟩ : St).sto ls)) (hm1 : ¬ m1 ≤ 2) (w2 : List Nat) (c2 b2 k2 m2 : Int) (x2 : Bool) (E2 : ∀ N, 150 ≤ N → callF (SS P es ep st) N 244 [.self] ((⟨w1, w1.length, w1.length, ((0 : Nat) : Int), b1, k1, some m1, some 0⟩ : St).sto ls) = some (.at (.bool x2), (⟨w2, c2, w2.length, ((0 : Nat) : Int), b2, k2, some m2, some 0⟩ : St).sto ls)) (hm2 : m2 ≤ 2) : (exs (SS P es ep st) (n + 360) false (fScope (inr 6 8)) (M17.1 ++ rest) mm ((⟨w, ((0 : Nat) : Int), w.length, ((0 : Nat) : Int), b, k, some m, ip⟩ : St).sto ls)).bind kRet = some (.at (.bool false), (⟨w2, ((0 : Nat) : Int), w2.length, ((0 : Nat) : Int), b2, k2, some m2, some 0⟩ : St).sto ls) := by
  have zz : ∀ a b : Int, a - (b - b) = a := fun a b => by omega
  wide_line with [M17, List.cons_append, List.nil_append, S272, N272, M237, h237, M244, h244, hs, hm, E1, zz, hm1, E2, hm2]
theorem mid4 (w : List Nat) (b k : Int) (ip : Option Int) (m : Int) (rest : List Stmt) (mm : Lm) (hs : mm (Str.ofString "self") = some .self) (n : Nat) (hm : ¬ m ≤ 2) (w1 : List Nat) (c1 b1 k1 m1 : Int) (x1 : Bool) (E1 : ∀ N, 150 ≤ N → callF (SS P es ep st) N 237 [.self] ((⟨w, w.length, w.length, ((0 : Nat) : Int), b, k, some m, some 0⟩ : St).sto ls) = some (.at (.bool x1), (⟨w1, c1, w1.length, ((0 : Nat) : Int), b1, k1, some m1, some 0⟩ : St).sto ls)) (hm1 : ¬ m1 ≤ 2) (w2 : List Nat) (c2 b2 k2 m2 : Int) (x2 : Bool) (E2 : ∀ N, 150 ≤ N → callF (SS P es ep st) N 244 [.self] ((⟨w1, w1.length, w1.length, ((0 : Nat) : Int), b1, k1, some m1, some 0⟩ : St).sto ls) = some (.at (.bool x2), (⟨w2, c2, w2.length, ((0 : Nat) : Int), b2, k2, some m2, some 0⟩ : St).sto ls)) (hm2 : ¬ m2 ≤ 2) : (exs (SS P es ep st) (n + 360) false (fScope (inr 6 8)) (M17.1 ++ rest) mm ((⟨w, ((0 : Nat) : Int), w.length, ((0 : Nat) : Int), b, k, some m, ip⟩ : St).sto ls)) = exs (SS P es ep st) (n + 347) false (fScope (inr 6 8)) rest ((mm.set (Str.ofString "v_3") (.at (.int ((w.length : Int) - w.length)))).set (Str.ofString "v_4") (.at (.int ((w1.length : Int) - w1.length)))) ((⟨w2, ((0 : Nat) : Int), w2.length, ((0 : Nat) : Int), b2, k2, some m2, some 0⟩ : St).sto ls) := by
  have zz : ∀ a b : Int, a - (b - b) = a := fun a b => by omega
  wide_line with [M17, List.cons_append, List.nil_append, S272, N272, M237, h237, M244, h244, hs, hm, E1, zz, hm1, E2, hm2]
theorem mid (w : List Nat) (b k : Int) (ip : Option Int) (m : Int) (hw : w.length ≤ 1000) :
    ∃ r' : St, (∃ x, ∀ N, 360 ≤ N → ∀ mm : Lm, mm (Str.ofString "self") = some .self → (exs (SS P es ep st) N false (fScope (inr 6 8)) (M17.1 ++ B17.1) mm ((⟨w, ((0 : Nat) : Int), w.length, ((0 : Nat) : Int), b, k, some m, ip⟩ : St).sto ls)).bind kRet = some (.at (.bool x), r'.sto ls)) ∧ r'.cur = tail1 w m := by
  unfold tail1
  by_cases h1 : m ≤ 2
  · rw [if_pos h1]
    refine ⟨⟨w, ((0 : Nat) : Int), w.length, ((0 : Nat) : Int), b, k, some m, ip⟩, ⟨false, fun N hN mm hs => ?_⟩, ?_⟩
    · obtain ⟨n, rfl⟩ := Nat.exists_eq_add_of_le' hN
      exact mid1 P es ep st ls w b k ip m _ mm hs n h1
    · rfl
  rw [if_neg h1]
  obtain ⟨⟨cur1, c1, l1, lb1, b1, k1, im1, ip1⟩, x1, c1', E1, a1, a2, a3, a4, a5, a6⟩ := part P es ep st ⟨w, w.length, w.length, ((0 : Nat) : Int), b, k, some m, some 0⟩ ls w m 0 ⟨rfl, rfl, rfl, rfl, rfl, rfl⟩ hw
  dsimp only at a1 a2 a3 a4 a5 a6
  have hl1 := cutW_len TA0 w
  generalize cutW TA0 w = w1 at *
  generalize cutM TA0 w m = m1 at *
  subst a1 a2 a3 a4 a5 a6
  by_cases h2 : m1 ≤ 2
  · rw [if_pos h2]
    refine ⟨⟨cur1, cur1.length, cur1.length, ((0 : Nat) : Int), b1, k1, some m1, some 0⟩, ⟨false, fun N hN mm hs => ?_⟩, ?_⟩
    · obtain ⟨n, rfl⟩ := Nat.exists_eq_add_of_le' hN
      exact mid2 P es ep st ls w b k ip m _ mm hs n h1 cur1 c1' b1 k1 m1 x1 E1 h2
    · rfl
  rw [if_neg h2]
  obtain ⟨⟨cur2, c2, l2, lb2, b2, k2, im2, ip2⟩, x2, c2', E2, a1, a2, a3, a4, a5, a6⟩ := pron P es ep st ⟨cur1, cur1.length, cur1.length, ((0 : Nat) : Int), b1, k1, some m1, some 0⟩ ls cur1 m1 0 ⟨rfl, rfl, rfl, rfl, rfl, rfl⟩ (by omega)
  dsimp only at a1 a2 a3 a4 a5 a6
  have hl2 := cutW_len TA1 cur1
  generalize cutW TA1 cur1 = w2 at *
  generalize cutM TA1 cur1 m1 = m2 at *
  subst a1 a2 a3 a4 a5 a6
  by_cases h3 : m2 ≤ 2
  · rw [if_pos h3]
    refine ⟨⟨cur2, ((0 : Nat) : Int), cur2.length, ((0 : Nat) : Int), b2, k2, some m2, some 0⟩, ⟨false, fun N hN mm hs => ?_⟩, ?_⟩
    · obtain ⟨n, rfl⟩ := Nat.exists_eq_add_of_le' hN
      exact mid3 P es ep st ls w b k ip m _ mm hs n h1 cur1 c1' b1 k1 m1 x1 E1 h2 cur2 c2' b2 k2 m2 x2 E2 h3
    · rfl
  rw [if_neg h3]
  obtain ⟨r', T, hr'⟩ := tail2_spec P es ep st ⟨cur2, ((0 : Nat) : Int), cur2.length, ((0 : Nat) : Int), b2, k2, some m2, some 0⟩ ls cur2 m2 ⟨rfl, rfl, rfl, rfl, rfl, rfl⟩ (by omega) h3
  refine ⟨r', ⟨true, fun N hN mm hs => ?_⟩, hr'⟩
  obtain ⟨n, rfl⟩ := Nat.exists_eq_add_of_le' hN
  rw [mid4 P es ep st ls w b k ip m _ mm hs n h1 cur1 c1' b1 k1 m1 x1 E1 h2 cur2 c2' b2 k2 m2 x2 E2 h3]
  exact T _ (by omega) _ (by simp only [a_set, ofS, String.reduceEq, if_false]; exact hs)
theorem stem_call (w : List Nat) (b k : Int) (im ip : Option Int) (hw : w.length ≤ 60) : ∃ (r' : St) (x : Bool), (∀ N, 380 ≤ N → callF (SS P es ep st) N 272 [.self] ((⟨w, ((0 : Nat) : Int), w.length, ((0 : Nat) : Int), b, k, im, ip⟩ : St).sto ls) = some (.at (.bool x), r'.sto ls)) ∧ r'.cur = stem w := by
  obtain ⟨r', ⟨x, E⟩, hr⟩ := mid P es ep st ls w b k ip (nv w) (by omega)
  refine ⟨r', x, fun N hN => ?_, hr⟩
  obtain ⟨n, rfl⟩ := Nat.exists_eq_add_of_le' hN
  rw [c_call (h := F272 P es ep st) (hb := rfl), body_eq]
  obtain ⟨m', e1, e2⟩ := seg_a P es ep st ls w b k im ip hw (n + 375) (by omega) (fun y => if y = (Str.ofString "self") then some .self else none) (by simp only [if_true]) (M17.1 ++ B17.1)
  rw [show n + 379 = n + 375 + 4 from rfl]
  rw [e1]
  exact E _ (by omega) m' e2
theorem set_cur (r : St) (v : List Nat) (hv : v.length ≤ 1000) (N : Nat) (hN : 60 ≤ N) : callF (SS P es ep st) N 42 [.self, .at (.str v)] (r.sto ls) = some (.at .none, (⟨v, ((0 : Nat) : Int), v.length, ((0 : Nat) : Int), 0, v.length, r.im, r.ip⟩ : St).sto ls) := by
  obtain ⟨n, rfl⟩ := Nat.exists_eq_add_of_le' hN
  exact set_current P es ep st r ls (n + 40) v (by have : big = 100000 := rfl; omega)
theorem get_cur (r : St) (N : Nat) (hN : 60 ≤ N) : callF (SS P es ep st) N 49 [.self] (r.sto ls) = some (.at (.str r.cur), r.sto ls) := by
  obtain ⟨n, rfl⟩ := Nat.exists_eq_add_of_le' hN
  exact get_current P es ep st r ls (n + 40)
theorem stemWord (r : St) (w : List Nat) (hw : w.length ≤ 60) : ∃ r' : St, ∀ N, 400 ≤ N → callF (SS P es ep st) N 189 [.self, .at (.str w)] (r.sto ls) = some (.at (.str (stem w)), r'.sto ls) := by
  obtain ⟨r', x, E, hr⟩ := stem_call P es ep st ls w 0 w.length r.im r.ip hw
  refine ⟨r', fun N hN => ?_⟩
  obtain ⟨n, rfl⟩ := Nat.exists_eq_add_of_le' hN
  have A := set_cur P es ep st ls r w (by omega)
  have G := get_cur P es ep st ls r'
  rw [c_call (h := F189 P es ep st) (hb := rfl)]
  wide_line with [L189, S189, N189, M42, h42, M272, h272, M49, h49, A, E, G, hr]
end
theorem G375 (P : Params) (es : Array (Int × Value)) (ep : Nat) (st : SetTable) : globIn (SS P es ep st) (Str.ofString "_law_heads") = some (.ref 375) := by kernel_rfl
theorem G382 (P : Params) (es : Array (Int × Value)) (ep : Nat) (st : SetTable) : globIn (SS P es ep st) (Str.ofString "_law_tails") = some (.ref 382) := by kernel_rfl
theorem G389 (P : Params) (es : Array (Int × Value)) (ep : Nat) (st : SetTable) : globIn (SS P es ep st) (Str.ofString "_law_owners") = some (.ref 389) := by kernel_rfl
theorem G396 (P : Params) (es : Array (Int × Value)) (ep : Nat) (st : SetTable) : globIn (SS P es ep st) (Str.ofString "_law_parts") = some (.ref 396) := by kernel_rfl
def L403 : { b : List Stmt // fBody (tp 18) = b } := ⟨_, by unfold tp bd PySem.Challenge.pw_af0030_01; dsimp only [fBody, stAt]⟩
def N403 : { b : List (Str × NameKind) // (fScope (tp 18)).names = b } := ⟨_, by unfold tp bd PySem.Challenge.pw_af0030_01; dsimp only [fBody, fScope, stAt]⟩
theorem S403 : (fScope (tp 18)).names = N403.1 := N403.2
theorem F403 (P : Params) (es : Array (Int × Value)) (ep : Nat) (st : SetTable) : funIn (SS P es ep st) 403 = some ([(Str.ofString "script"), (Str.ofString "i")], L403.1, fScope (tp 18)) := by kernel_rfl
theorem G403 (P : Params) (es : Array (Int × Value)) (ep : Nat) (st : SetTable) : globIn (SS P es ep st) (Str.ofString "_law_at") = some (.ref 403) := by kernel_rfl
def L410 : { b : List Stmt // fBody (tp 19) = b } := ⟨_, by unfold tp bd PySem.Challenge.pw_af0030_01; dsimp only [fBody, stAt]⟩
def N410 : { b : List (Str × NameKind) // (fScope (tp 19)).names = b } := ⟨_, by unfold tp bd PySem.Challenge.pw_af0030_01; dsimp only [fBody, fScope, stAt]⟩
theorem S410 : (fScope (tp 19)).names = N410.1 := N410.2
theorem F410 (P : Params) (es : Array (Int × Value)) (ep : Nat) (st : SetTable) : funIn (SS P es ep st) 410 = some ([(Str.ofString "script")], L410.1, fScope (tp 19)) := by kernel_rfl
theorem G410 (P : Params) (es : Array (Int × Value)) (ep : Nat) (st : SetTable) : globIn (SS P es ep st) (Str.ofString "_law_head") = some (.ref 410) := by kernel_rfl
def L417 : { b : List Stmt // fBody (tp 20) = b } := ⟨_, by unfold tp bd PySem.Challenge.pw_af0030_01; dsimp only [fBody, stAt]⟩
def N417 : { b : List (Str × NameKind) // (fScope (tp 20)).names = b } := ⟨_, by unfold tp bd PySem.Challenge.pw_af0030_01; dsimp only [fBody, fScope, stAt]⟩
theorem S417 : (fScope (tp 20)).names = N417.1 := N417.2
theorem F417 (P : Params) (es : Array (Int × Value)) (ep : Nat) (st : SetTable) : funIn (SS P es ep st) 417 = some ([(Str.ofString "script")], L417.1, fScope (tp 20)) := by kernel_rfl
theorem G417 (P : Params) (es : Array (Int × Value)) (ep : Nat) (st : SetTable) : globIn (SS P es ep st) (Str.ofString "_law_rest") = some (.ref 417) := by kernel_rfl
def L424 : { b : List Stmt // fBody (tp 21) = b } := ⟨_, by unfold tp bd PySem.Challenge.pw_af0030_01; dsimp only [fBody, stAt]⟩
def N424 : { b : List (Str × NameKind) // (fScope (tp 21)).names = b } := ⟨_, by unfold tp bd PySem.Challenge.pw_af0030_01; dsimp only [fBody, fScope, stAt]⟩
theorem S424 : (fScope (tp 21)).names = N424.1 := N424.2
theorem F424 (P : Params) (es : Array (Int × Value)) (ep : Nat) (st : SetTable) : funIn (SS P es ep st) 424 = some ([(Str.ofString "front"), (Str.ofString "root")], L424.1, fScope (tp 21)) := by kernel_rfl
theorem G424 (P : Params) (es : Array (Int × Value)) (ep : Nat) (st : SetTable) : globIn (SS P es ep st) (Str.ofString "_law_sounded") = some (.ref 424) := by kernel_rfl
def L431 : { b : List Stmt // fBody (tp 22) = b } := ⟨_, by unfold tp bd PySem.Challenge.pw_af0030_01; dsimp only [fBody, stAt]⟩
def N431 : { b : List (Str × NameKind) // (fScope (tp 22)).names = b } := ⟨_, by unfold tp bd PySem.Challenge.pw_af0030_01; dsimp only [fBody, fScope, stAt]⟩
theorem S431 : (fScope (tp 22)).names = N431.1 := N431.2
theorem F431 (P : Params) (es : Array (Int × Value)) (ep : Nat) (st : SetTable) : funIn (SS P es ep st) 431 = some ([(Str.ofString "root"), (Str.ofString "hard"), (Str.ofString "kind"), (Str.ofString "more")], L431.1, fScope (tp 22)) := by kernel_rfl
theorem G431 (P : Params) (es : Array (Int × Value)) (ep : Nat) (st : SetTable) : globIn (SS P es ep st) (Str.ofString "_law_fronted") = some (.ref 431) := by kernel_rfl
def L438 : { b : List Stmt // fBody (tp 23) = b } := ⟨_, by unfold tp bd PySem.Challenge.pw_af0030_01; dsimp only [fBody, stAt]⟩
def N438 : { b : List (Str × NameKind) // (fScope (tp 23)).names = b } := ⟨_, by unfold tp bd PySem.Challenge.pw_af0030_01; dsimp only [fBody, fScope, stAt]⟩
theorem S438 : (fScope (tp 23)).names = N438.1 := N438.2
theorem F438 (P : Params) (es : Array (Int × Value)) (ep : Nat) (st : SetTable) : funIn (SS P es ep st) 438 = some ([(Str.ofString "root"), (Str.ofString "sort"), (Str.ofString "tail")], L438.1, fScope (tp 23)) := by kernel_rfl
theorem G438 (P : Params) (es : Array (Int × Value)) (ep : Nat) (st : SetTable) : globIn (SS P es ep st) (Str.ofString "_law_behind") = some (.ref 438) := by kernel_rfl
def L445 : { b : List Stmt // fBody (tp 24) = b } := ⟨_, by unfold tp bd PySem.Challenge.pw_af0030_01; dsimp only [fBody, stAt]⟩
def N445 : { b : List (Str × NameKind) // (fScope (tp 24)).names = b } := ⟨_, by unfold tp bd PySem.Challenge.pw_af0030_01; dsimp only [fBody, fScope, stAt]⟩
theorem S445 : (fScope (tp 24)).names = N445.1 := N445.2
theorem F445 (P : Params) (es : Array (Int × Value)) (ep : Nat) (st : SetTable) : funIn (SS P es ep st) 445 = some ([(Str.ofString "root"), (Str.ofString "hard"), (Str.ofString "x"), (Str.ofString "y")], L445.1, fScope (tp 24)) := by kernel_rfl
theorem G445 (P : Params) (es : Array (Int × Value)) (ep : Nat) (st : SetTable) : globIn (SS P es ep st) (Str.ofString "_law_word") = some (.ref 445) := by kernel_rfl
def L452 : { b : List Stmt // fBody (tp 25) = b } := ⟨_, by unfold tp bd PySem.Challenge.pw_af0030_01; dsimp only [fBody, stAt]⟩
def N452 : { b : List (Str × NameKind) // (fScope (tp 25)).names = b } := ⟨_, by unfold tp bd PySem.Challenge.pw_af0030_01; dsimp only [fBody, fScope, stAt]⟩
theorem S452 : (fScope (tp 25)).names = N452.1 := N452.2
theorem F452 (P : Params) (es : Array (Int × Value)) (ep : Nat) (st : SetTable) : funIn (SS P es ep st) 452 = some ([(Str.ofString "script")], L452.1, fScope (tp 25)) := by kernel_rfl
theorem G452 (P : Params) (es : Array (Int × Value)) (ep : Nat) (st : SetTable) : globIn (SS P es ep st) (Str.ofString "law") = some (.ref 452) := by kernel_rfl
def headsL : List At := [.str [], .str [98], .str [99], .str [100], .str [102], .str [103], .str [104], .str [106], .str [107], .str [108], .str [112], .str [113], .str [114], .str [115], .str [116], .str [118], .str [119], .str [120], .str [121], .str [122]]
def tailsL : List At := [.str [], .str [107, 97, 110], .str [97, 110], .str [105]]
def ownersL : List At := [.str [], .str [107, 117], .str [109, 117], .str [110, 121, 97]]
def partsL : List At := [.str [], .str [107, 97, 104], .str [108, 97, 104], .str [112, 117, 110]]
def cons21 : List Nat := [98, 99, 100, 102, 103, 104, 106, 107, 108, 109, 110, 112, 113, 114, 115, 116, 118, 119, 120, 121, 122]
def hards20 : List Nat := [98, 99, 100, 102, 103, 104, 106, 107, 108, 109, 110, 112, 113, 115, 116, 118, 119, 120, 121, 122]
def lasts19 : List Nat := [98, 99, 100, 102, 103, 106, 107, 108, 109, 112, 113, 114, 115, 116, 118, 119, 120, 121, 122]
def vows5 : List Nat := [97, 105, 117, 101, 111]
def aou3 : List Nat := [97, 111, 117]
def H19 : List Nat := [98, 99, 100, 102, 103, 104, 106, 107, 108, 112, 113, 114, 115, 116, 118, 119, 120, 121, 122]
theorem na : Int.natAbs 2 = 2 ∧ Int.natAbs 3 = 3 ∧ Int.natAbs 4 = 4 ∧ Int.natAbs 5 = 5 ∧ Int.natAbs 6 = 6 ∧ Int.natAbs 9 = 9 ∧ Int.natAbs 10 = 10 ∧ Int.natAbs 12 = 12 ∧ Int.natAbs 13 = 13 ∧ Int.natAbs 16 = 16 ∧ Int.natAbs 18 = 18 ∧ Int.natAbs 19 = 19 ∧ Int.natAbs 20 = 20 ∧ Int.natAbs 21 = 21 ∧ Int.natAbs 36 = 36 ∧ Int.natAbs 37 = 37 := by decide
theorem gstr {o : Option Value} {l : List Nat} (h : isStr o = some l) (σ : Sto) : o.map (fun v => (ofVal v, σ)) = some (.at (.str l), σ) := by
  obtain ⟨ws, tk, h1, h2⟩ := isStr_of h
  rw [h1, ← h2]; rfl
theorem fmod_bd (v : Int) {K : Int} (h : 0 < K) : 0 ≤ v.fmod K ∧ v.fmod K < K := ⟨Int.fmod_nonneg_of_pos v h, Int.fmod_lt_of_pos v h⟩
theorem idx_mod {α : Type} (l : List α) (K : Int) (hK : K = l.length) (h0 : 0 < K) (hb : l.length ≤ big) (v : Int) : ∃ x ∈ l, idx l (v.fmod K) = some x := by
  obtain ⟨a, b⟩ := fmod_bd v h0
  obtain ⟨k, hk⟩ : ∃ k : Nat, v.fmod K = k := ⟨(v.fmod K).toNat, by omega⟩
  have lt : k < l.length := by omega
  rw [hk]
  exact ⟨l[k], List.getElem_mem lt, by rw [idx_nat hb lt, List.getElem?_eq_getElem lt]⟩
theorem idx_mod' {α : Type} (l : List α) (K : Int) (k : Nat) (hk : l.length = k) (hK : K = k) (h0 : 0 < K) (hb : k ≤ big) (v : Int) : ∃ x ∈ l, idx l (v.fmod K) = some x := idx_mod l K (by rw [hK, hk]) h0 (by rw [hk]; exact hb) v
def HeadOk (h : List Nat) : Prop := ∃ v ∈ aou3, h = [v] ∨ (∃ c1 ∈ H19, h = [c1, v]) ∨ ∃ c1 ∈ H19, ∃ c2 ∈ cons21, h = [c1, c2, v]
def RestOk (r : List Nat) : Prop := ∃ m k : List Nat, ∃ v z : Nat, (∀ x ∈ m, x ∈ cons21) ∧ m.length ≤ 2 ∧ (∀ x ∈ k, x ∈ cons21) ∧ k.length ≤ 1 ∧ v ∈ vows5 ∧ z ∈ lasts19 ∧ r = m ++ [v] ++ k ++ [z]
section
variable (P : Params) (es : Array (Int × Value)) (ep : Nat) (st : SetTable) (σ : Sto)
theorem c375 (n : Nat) : callF (SS P es ep st) (n + 60) 375 [] σ = some (.list headsL, σ) := by kernel_rfl
theorem c382 (n : Nat) : callF (SS P es ep st) (n + 60) 382 [] σ = some (.list tailsL, σ) := by kernel_rfl
theorem c389 (n : Nat) : callF (SS P es ep st) (n + 60) 389 [] σ = some (.list ownersL, σ) := by kernel_rfl
theorem c396 (n : Nat) : callF (SS P es ep st) (n + 60) 396 [] σ = some (.list partsL, σ) := by kernel_rfl
theorem d375 (N : Nat) (hN : 60 ≤ N) : callF (SS P es ep st) N 375 [] σ = some (.list headsL, σ) := by obtain ⟨n, rfl⟩ := Nat.exists_eq_add_of_le' hN; exact c375 P es ep st σ n
theorem d382 (N : Nat) (hN : 60 ≤ N) : callF (SS P es ep st) N 382 [] σ = some (.list tailsL, σ) := by obtain ⟨n, rfl⟩ := Nat.exists_eq_add_of_le' hN; exact c382 P es ep st σ n
theorem d389 (N : Nat) (hN : 60 ≤ N) : callF (SS P es ep st) N 389 [] σ = some (.list ownersL, σ) := by obtain ⟨n, rfl⟩ := Nat.exists_eq_add_of_le' hN; exact c389 P es ep st σ n
theorem d396 (N : Nat) (hN : 60 ≤ N) : callF (SS P es ep st) N 396 [] σ = some (.list partsL, σ) := by obtain ⟨n, rfl⟩ := Nat.exists_eq_add_of_le' hN; exact c396 P es ep st σ n
theorem gcons : (globIn (SS P es ep st) (Str.ofString "_law_consonants")).map (fun v => (ofVal v, σ)) = some (.at (.str cons21), σ) := gstr (by kernel_rfl) σ
theorem ghards : (globIn (SS P es ep st) (Str.ofString "_law_hards")).map (fun v => (ofVal v, σ)) = some (.at (.str hards20), σ) := gstr (by kernel_rfl) σ
theorem glasts : (globIn (SS P es ep st) (Str.ofString "_law_lasts")).map (fun v => (ofVal v, σ)) = some (.at (.str lasts19), σ) := gstr (by kernel_rfl) σ
theorem gvows : (globIn (SS P es ep st) (Str.ofString "_law_vowels")).map (fun v => (ofVal v, σ)) = some (.at (.str vows5), σ) := gstr (by kernel_rfl) σ
end
section
variable (P : Params) (es : Array (Int × Value)) (ep : Nat) (st : SetTable)
theorem at_ok (ns : List Int) (hn : ns.length ≤ 63) (i : Int) (h0 : 0 ≤ i) (h1 : i ≤ 100) : ∃ v : Int, ∀ N σ, 60 ≤ N → callF (SS P es ep st) N 403 [.list (ns.map .int), .at (.int i)] σ = some (.at (.int v), σ) := by
  have b1 : (ns.map At.int).length ≤ big := by rw [List.length_map]; have : big = 100000 := rfl; omega
  have b2 : i.natAbs < 1000000 := by omega
  have b3 : (37 : Int).natAbs < 1000000 := by decide
  by_cases h : i < ((ns.map At.int).length : Int)
  · obtain ⟨k, rfl⟩ : ∃ k : Nat, i = k := ⟨i.toNat, by omega⟩
    have lt : k < (ns.map At.int).length := by omega
    have lt' : k < ns.length := by rwa [List.length_map] at lt
    have ix : idx (ns.map At.int) (k : Int) = some (.int ns[k]) := by rw [idx_nat b1 lt, List.getElem?_map, List.getElem?_eq_getElem lt', Option.map_some]
    refine ⟨ns[k] + 37 * k, fun N σ hN => ?_⟩
    obtain ⟨n, rfl⟩ := Nat.exists_eq_add_of_le' hN
    rw [c_call (h := F403 P es ep st) (hb := rfl)]
    wide_line with [L403, S403, N403, h, ix, b1, b2, b3, and_self]
  · refine ⟨37 * i, fun N σ hN => ?_⟩
    obtain ⟨n, rfl⟩ := Nat.exists_eq_add_of_le' hN
    rw [c_call (h := F403 P es ep st) (hb := rfl)]
    wide_line with [L403, S403, N403, h, b1, b2, b3, and_self]
theorem cs_aou : ((Str.ofString "aou")).cps.toList = aou3 := by decide +kernel
theorem head_ok (ns : List Int) (hn : ns.length ≤ 63) : ∃ h, HeadOk h ∧ ∀ N σ, 120 ≤ N → callF (SS P es ep st) N 410 [.list (ns.map .int)] σ = some (.at (.str h), σ) := by
  obtain ⟨v0, A0⟩ := at_ok P es ep st ns hn 0 (by decide) (by decide)
  obtain ⟨v1, A1⟩ := at_ok P es ep st ns hn 1 (by decide) (by decide)
  obtain ⟨v2, A2⟩ := at_ok P es ep st ns hn 2 (by decide) (by decide)
  obtain ⟨v3, A3⟩ := at_ok P es ep st ns hn 3 (by decide) (by decide)
  obtain ⟨x, xm, ix⟩ := idx_mod' headsL 20 20 rfl rfl (by decide) (by decide) v0
  obtain ⟨c2, c2m, ic⟩ := idx_mod' cons21 21 21 rfl rfl (by decide) (by decide) v2
  obtain ⟨v, vm, iv⟩ := idx_mod' aou3 3 3 rfl rfl (by decide) (by decide) v3
  have hx : ∀ x ∈ headsL, x = .str [] ∨ ∃ c ∈ H19, x = .str [c] := by decide
  have D := fun σ N hN => d375 P es ep st σ N hN
  have gc := fun σ => gcons P es ep st σ
  rcases hx x xm with rfl | ⟨c, cm, rfl⟩
  · refine ⟨[v], ⟨v, vm, .inl rfl⟩, fun N σ hN => ?_⟩
    obtain ⟨n, rfl⟩ := Nat.exists_eq_add_of_le' hN
    rw [c_call (h := F410 P es ep st) (hb := rfl)]
    wide_line with [L410, S410, N410, G375, D, ix, G403, A0, A1, A2, A3, gc, ic, iv, cs_aou, cs_nil, atEq, big, na, List.nil_append, List.cons_append]
  · by_cases q : v1.fmod 3 = 0
    · refine ⟨[c, c2, v], ⟨v, vm, .inr (.inr ⟨c, cm, c2, c2m, rfl⟩)⟩, fun N σ hN => ?_⟩
      obtain ⟨n, rfl⟩ := Nat.exists_eq_add_of_le' hN
      rw [c_call (h := F410 P es ep st) (hb := rfl)]
      wide_line with [L410, S410, N410, G375, D, ix, G403, A0, A1, A2, A3, gc, ic, iv, cs_aou, cs_nil, atEq, big, na, q, List.nil_append, List.cons_append]
    · refine ⟨[c, v], ⟨v, vm, .inr (.inl ⟨c, cm, rfl⟩)⟩, fun N σ hN => ?_⟩
      obtain ⟨n, rfl⟩ := Nat.exists_eq_add_of_le' hN
      rw [c_call (h := F410 P es ep st) (hb := rfl)]
      wide_line with [L410, S410, N410, G375, D, ix, G403, A0, A1, A2, A3, gc, ic, iv, cs_aou, cs_nil, atEq, big, na, q, List.nil_append, List.cons_append]
def MidOk (m : List Nat) (j : Nat) : Prop := (∀ x ∈ m, x ∈ cons21) ∧ m.length ≤ j
theorem rest_ok (ns : List Int) (hn : ns.length ≤ 63) : ∃ r, RestOk r ∧ ∀ N σ, 120 ≤ N → callF (SS P es ep st) N 417 [.list (ns.map .int)] σ = some (.at (.str r), σ) := by
  obtain ⟨v4, A4⟩ := at_ok P es ep st ns hn 4 (by decide) (by decide)
  obtain ⟨v5, A5⟩ := at_ok P es ep st ns hn 5 (by decide) (by decide)
  obtain ⟨v6, A6⟩ := at_ok P es ep st ns hn 6 (by decide) (by decide)
  obtain ⟨v7, A7⟩ := at_ok P es ep st ns hn 7 (by decide) (by decide)
  obtain ⟨v8, A8⟩ := at_ok P es ep st ns hn 8 (by decide) (by decide)
  obtain ⟨v9, A9⟩ := at_ok P es ep st ns hn 9 (by decide) (by decide)
  obtain ⟨v10, A10⟩ := at_ok P es ep st ns hn 10 (by decide) (by decide)
  obtain ⟨c5, c5m, i5⟩ := idx_mod' cons21 21 21 rfl rfl (by decide) (by decide) v5
  obtain ⟨c6, c6m, i6⟩ := idx_mod' cons21 21 21 rfl rfl (by decide) (by decide) v6
  obtain ⟨v, vm, iv⟩ := idx_mod' vows5 5 5 rfl rfl (by decide) (by decide) v7
  obtain ⟨c9, c9m, i9⟩ := idx_mod' cons21 21 21 rfl rfl (by decide) (by decide) v9
  obtain ⟨z, zm, iz⟩ := idx_mod' lasts19 19 19 rfl rfl (by decide) (by decide) v10
  have gc := fun σ => gcons P es ep st σ
  have gl := fun σ => glasts P es ep st σ
  have gv := fun σ => gvows P es ep st σ
  by_cases q0 : 0 < v4.fmod 3 <;> by_cases q1 : 1 < v4.fmod 3 <;> by_cases q2 : v8.fmod 2 = 1
  · refine ⟨[c5, c6, v, c9, z], ⟨[c5, c6], [c9], v, z, (by intro x hx; simp only [List.mem_cons, List.not_mem_nil, or_false] at hx; rcases hx with rfl | rfl <;> assumption), by simp, (by intro x hx; simp only [List.mem_cons, List.not_mem_nil, or_false] at hx; subst hx <;> assumption), by simp, vm, zm, rfl⟩, fun N σ hN => ?_⟩
    obtain ⟨n, rfl⟩ := Nat.exists_eq_add_of_le' hN
    rw [c_call (h := F417 P es ep st) (hb := rfl)]
    wide_line with [L417, S417, N417, G403, A4, A5, A6, A7, A8, A9, A10, i5, i6, iv, i9, iz, gc, gl, gv, cs_nil, atEq, big, na, q0, q1, q2, List.nil_append, List.cons_append]
  · refine ⟨[c5, c6, v, z], ⟨[c5, c6], [], v, z, (by intro x hx; simp only [List.mem_cons, List.not_mem_nil, or_false] at hx; rcases hx with rfl | rfl <;> assumption), by simp, (by simp), by simp, vm, zm, rfl⟩, fun N σ hN => ?_⟩
    obtain ⟨n, rfl⟩ := Nat.exists_eq_add_of_le' hN
    rw [c_call (h := F417 P es ep st) (hb := rfl)]
    wide_line with [L417, S417, N417, G403, A4, A5, A6, A7, A8, A9, A10, i5, i6, iv, i9, iz, gc, gl, gv, cs_nil, atEq, big, na, q0, q1, q2, List.nil_append, List.cons_append]
  · refine ⟨[c5, v, c9, z], ⟨[c5], [c9], v, z, (by intro x hx; simp only [List.mem_cons, List.not_mem_nil, or_false] at hx; subst hx <;> assumption), by simp, (by intro x hx; simp only [List.mem_cons, List.not_mem_nil, or_false] at hx; subst hx <;> assumption), by simp, vm, zm, rfl⟩, fun N σ hN => ?_⟩
    obtain ⟨n, rfl⟩ := Nat.exists_eq_add_of_le' hN
    rw [c_call (h := F417 P es ep st) (hb := rfl)]
    wide_line with [L417, S417, N417, G403, A4, A5, A6, A7, A8, A9, A10, i5, i6, iv, i9, iz, gc, gl, gv, cs_nil, atEq, big, na, q0, q1, q2, List.nil_append, List.cons_append]
  · refine ⟨[c5, v, z], ⟨[c5], [], v, z, (by intro x hx; simp only [List.mem_cons, List.not_mem_nil, or_false] at hx; subst hx <;> assumption), by simp, (by simp), by simp, vm, zm, rfl⟩, fun N σ hN => ?_⟩
    obtain ⟨n, rfl⟩ := Nat.exists_eq_add_of_le' hN
    rw [c_call (h := F417 P es ep st) (hb := rfl)]
    wide_line with [L417, S417, N417, G403, A4, A5, A6, A7, A8, A9, A10, i5, i6, iv, i9, iz, gc, gl, gv, cs_nil, atEq, big, na, q0, q1, q2, List.nil_append, List.cons_append]
  · exact absurd q1 (by omega)
  · exact absurd q1 (by omega)
  · refine ⟨[v, c9, z], ⟨[], [c9], v, z, (by simp), by simp, (by intro x hx; simp only [List.mem_cons, List.not_mem_nil, or_false] at hx; subst hx <;> assumption), by simp, vm, zm, rfl⟩, fun N σ hN => ?_⟩
    obtain ⟨n, rfl⟩ := Nat.exists_eq_add_of_le' hN
    rw [c_call (h := F417 P es ep st) (hb := rfl)]
    wide_line with [L417, S417, N417, G403, A4, A5, A6, A7, A8, A9, A10, i5, i6, iv, i9, iz, gc, gl, gv, cs_nil, atEq, big, na, q0, q1, q2, List.nil_append, List.cons_append]
  · refine ⟨[v, z], ⟨[], [], v, z, (by simp), by simp, (by simp), by simp, vm, zm, rfl⟩, fun N σ hN => ?_⟩
    obtain ⟨n, rfl⟩ := Nat.exists_eq_add_of_le' hN
    rw [c_call (h := F417 P es ep st) (hb := rfl)]
    wide_line with [L417, S417, N417, G403, A4, A5, A6, A7, A8, A9, A10, i5, i6, iv, i9, iz, gc, gl, gv, cs_nil, atEq, big, na, q0, q1, q2, List.nil_append, List.cons_append]
end
theorem has_one (l : List Nat) (c : Nat) : Txt.contains (lstr l) (lstr [c]) = decide (c ∈ l) := PySem.StrLaws.found_one ⟨l.toArray⟩ c
theorem ix3 {α : Type} (a b c : α) : idx [a, b, c] 0 = some a ∧ idx [a, b, c] 1 = some b ∧ idx [a, b, c] 2 = some c := ⟨rfl, rfl, rfl⟩
theorem ix4 {α : Type} (a b c d : α) : idx [a, b, c, d] 0 = some a ∧ idx [a, b, c, d] 1 = some b ∧ idx [a, b, c, d] 2 = some c ∧ idx [a, b, c, d] 3 = some d := ⟨rfl, rfl, rfl, rfl⟩
theorem slc_tl (l : List Nat) : slc l (some 1) none = l.drop 1 := slc_drop l 1
theorem slc_5 (l : List Nat) : slc l none (some 5) = l.take 5 := by
  unfold slc clp
  dsimp only
  rw [if_neg (by decide), List.drop_zero, show (max 0 (min 5 (l.length : Int))).toNat = min 5 l.length by omega]
  exact (List.take_eq_take_min).symm
theorem slc_init (u : List Nat) (z : Nat) : slc (u ++ [z]) none (some (-1)) = u := by
  unfold slc clp
  dsimp only
  rw [if_pos (by decide), List.drop_zero]
  have e : (max 0 (min (-1 + ((u ++ [z]).length : Int)) ((u ++ [z]).length : Int))).toNat = u.length := by rw [List.length_append, List.length_singleton]; omega
  rw [e]
  exact List.take_left' rfl
theorem idx_last (u : List Nat) (z : Nat) (h : (u ++ [z]).length ≤ big) : idx (u ++ [z]) (-1) = some z := by
  unfold idx
  rw [if_neg (by omega)]
  have : seqIndex? (-1 : Int) (u ++ [z]).length = some u.length := by
    unfold seqIndex?
    simp only [List.length_append, List.length_singleton, if_pos (show (-1 : Int) < 0 by decide)]
    have e : (-1 + ((u.length + 1 : Nat) : Int)) = u.length := by omega
    rw [e, if_pos (by simp; omega)]
    rfl
  rw [this]
  simp
def kDi (ks : List (Option Expr)) (vs : List Expr) : MV × Sto → R MV := fun (v, σ) => (match v, dictOfE ks vs with
        | .at (.str k), some [(k1, v1), (k2, v2)] => if k1 = k2 then none else if k = k1 then some (.at (.str v1), σ) else if k = k2 then some (.at (.str v2), σ) else none
        | _, _ => none)
theorem a_kDi (ks : List (Option Expr)) (vs : List Expr) (v : MV) (σ : Sto) : kDi ks vs (v, σ) = (match v, dictOfE ks vs with
        | .at (.str k), some [(k1, v1), (k2, v2)] => if k1 = k2 then none else if k = k1 then some (.at (.str v1), σ) else if k = k2 then some (.at (.str v2), σ) else none
        | _, _ => none) := (Eq.refl _).trans rfl
theorem d_dict (ks : List (Option Expr)) (vs : List Expr) (p : Pos) : notD (.Dict ks vs p) = false := (Eq.refl _).trans rfl
theorem e_dict (S : Sta) (n : Nat) (sc : Scope) (ks : List (Option Expr)) (vs : List Expr) (i : Expr) (q p : Pos) (m : Lm) (σ : Sto) : evD S (n + 1) sc (.Subscript (.Dict ks vs q) i p) m σ = (ev S n sc i m σ).bind (kDi ks vs) := by
  unfold evD
  rw [ev] <;> first | rfl | (intros; contradiction)
theorem cs_aoughkqx : ((Str.ofString "aoughkqx")).cps.toList = [97, 111, 117, 103, 104, 107, 113, 120] := by decide +kernel
theorem cs_ps : ((Str.ofString "ps")).cps.toList = [112, 115] := by decide +kernel
theorem cs_ng : ((Str.ofString "ng")).cps.toList = [110, 103] := by decide +kernel
theorem cs_m : ((Str.ofString "m")).cps.toList = [109] := by decide +kernel
theorem cs_n : ((Str.ofString "n")).cps.toList = [110] := by decide +kernel
theorem cs_ny : ((Str.ofString "ny")).cps.toList = [110, 121] := by decide +kernel
theorem cs_bfvp : ((Str.ofString "bfvp")).cps.toList = [98, 102, 118, 112] := by decide +kernel
theorem cs_cdjstz : ((Str.ofString "cdjstz")).cps.toList = [99, 100, 106, 115, 116, 122] := by decide +kernel
theorem cs_di : ((Str.ofString "di")).cps.toList = [100, 105] := by decide +kernel
theorem cs_ter : ((Str.ofString "ter")).cps.toList = [116, 101, 114] := by decide +kernel
theorem cs_ke : ((Str.ofString "ke")).cps.toList = [107, 101] := by decide +kernel
theorem cs_me : ((Str.ofString "me")).cps.toList = [109, 101] := by decide +kernel
theorem cs_pe : ((Str.ofString "pe")).cps.toList = [112, 101] := by decide +kernel
theorem cs_per : ((Str.ofString "per")).cps.toList = [112, 101, 114] := by decide +kernel
theorem cs_ber : ((Str.ofString "ber")).cps.toList = [98, 101, 114] := by decide +kernel
theorem cs_lajar : ((Str.ofString "lajar")).cps.toList = [108, 97, 106, 97, 114] := by decide +kernel
theorem cs_lwy : ((Str.ofString "lwy")).cps.toList = [108, 119, 121] := by decide +kernel
theorem cs_memper : ((Str.ofString "memper")).cps.toList = [109, 101, 109, 112, 101, 114] := by decide +kernel
theorem cs_diper : ((Str.ofString "diper")).cps.toList = [100, 105, 112, 101, 114] := by decide +kernel
theorem cs_keber : ((Str.ofString "keber")).cps.toList = [107, 101, 98, 101, 114] := by decide +kernel
theorem cs_be : ((Str.ofString "be")).cps.toList = [98, 101] := by decide +kernel
theorem cs_belajar : ((Str.ofString "belajar")).cps.toList = [98, 101, 108, 97, 106, 97, 114] := by decide +kernel
theorem cs_pelajar : ((Str.ofString "pelajar")).cps.toList = [112, 101, 108, 97, 106, 97, 114] := by decide +kernel
theorem cs_mempelajar : ((Str.ofString "mempelajar")).cps.toList = [109, 101, 109, 112, 101, 108, 97, 106, 97, 114] := by decide +kernel
theorem cs_pel : ((Str.ofString "pel")).cps.toList = [112, 101, 108] := by decide +kernel
theorem cs_kan : ((Str.ofString "kan")).cps.toList = [107, 97, 110] := by decide +kernel
theorem cs_an : ((Str.ofString "an")).cps.toList = [97, 110] := by decide +kernel
theorem cs_i : ((Str.ofString "i")).cps.toList = [105] := by decide +kernel
def sndd (front root : List Nat) (x y : Nat) : List Nat :=
  if x ∈ [97, 111, 117, 103, 104, 107, 113, 120] then front ++ [110, 103] ++ root
  else if x ∈ [112, 115] ∧ y ∈ vows5 then front ++ (if x = 112 then [109] else [110, 121]) ++ root.drop 1
  else if x ∈ [98, 102, 118, 112] then front ++ [109] ++ root
  else if x ∈ [99, 100, 106, 115, 116, 122] then front ++ [110] ++ root
  else front ++ root
section
variable (P : Params) (es : Array (Int × Value)) (ep : Nat) (st : SetTable)
theorem snd_ok (front root : List Nat) (x y : Nat) (hx0 : idx root 0 = some x) (hx1 : idx root 1 = some y) (hf : front.length ≤ 10) (hr : root.length ≤ 20) :
    ∀ N σ, 60 ≤ N → callF (SS P es ep st) N 424 [.at (.str front), .at (.str root)] σ = some (.at (.str (sndd front root x y)), σ) := by
  intro N σ hN
  obtain ⟨n, rfl⟩ := Nat.exists_eq_add_of_le' hN
  have zb : big = 100000 := rfl
  have gv := fun σ => gvows P es ep st σ
  have lb : root.length ≤ big := by omega
  have hs1 : Int.natAbs 1 < 1000000 := by decide
  have lb1 : front.length + (0 + 1 + 1) ≤ big := by omega
  have lb2 : (front ++ [110, 103]).length + root.length ≤ big := by simp only [List.length_append, List.length_cons, List.length_nil]; omega
  have lb3 : (front ++ [109]).length + root.length ≤ big := by simp only [List.length_append, List.length_cons, List.length_nil]; omega
  have lb4 : (front ++ [110]).length + root.length ≤ big := by simp only [List.length_append, List.length_cons, List.length_nil]; omega
  have lb5 : front.length + root.length ≤ big := by omega
  have lb6 : (front ++ [109]).length + (root.drop 1).length ≤ big := by simp only [List.length_append, List.length_cons, List.length_nil, List.length_drop]; omega
  have lb7 : (front ++ [110, 121]).length + (root.drop 1).length ≤ big := by simp only [List.length_append, List.length_cons, List.length_nil, List.length_drop]; omega
  have lb8 : front.length + (0 + 1) ≤ big := by omega
  clear zb
  rw [c_call (h := F424 P es ep st) (hb := rfl)]
  unfold sndd
  by_cases c1 : x ∈ [97, 111, 117, 103, 104, 107, 113, 120]
  · rw [if_pos c1]
    simp only [List.mem_cons, List.not_mem_nil, or_false] at c1
    wide_line with [L424, S424, N424, G424, hx0, hx1, has_one, gv, slc_tl, e_dict, d_dict, a_kDi, dictOfE, cs_aoughkqx, cs_ps, cs_ng, cs_m, cs_n, cs_ny, cs_bfvp, cs_cdjstz, cs_p, cs_s, lb, hs1, lb1, lb2, lb3, lb4, lb5, c1]
  rw [if_neg c1]
  simp only [List.mem_cons, List.not_mem_nil, or_false] at c1
  by_cases c2 : x ∈ [112, 115] ∧ y ∈ vows5
  · rw [if_pos c2]
    obtain ⟨c2, c3⟩ := c2
    simp only [List.mem_cons, List.not_mem_nil, or_false] at c2
    rcases c2 with rfl | rfl
    · wide_line with [L424, S424, N424, G424, hx0, hx1, has_one, gv, slc_tl, e_dict, d_dict, a_kDi, dictOfE, cs_aoughkqx, cs_ps, cs_ng, cs_m, cs_n, cs_ny, cs_bfvp, cs_cdjstz, cs_p, cs_s, lb, hs1, lb1, lb2, lb3, lb4, lb5, c3, lb6, lb8]
    · wide_line with [L424, S424, N424, G424, hx0, hx1, has_one, gv, slc_tl, e_dict, d_dict, a_kDi, dictOfE, cs_aoughkqx, cs_ps, cs_ng, cs_m, cs_n, cs_ny, cs_bfvp, cs_cdjstz, cs_p, cs_s, lb, hs1, lb1, lb2, lb3, lb4, lb5, c3, lb7]
  rw [if_neg c2]
  have t4 : ∀ {q : Prop} [Decidable q], (x ∈ [112, 115] → ¬ q) → True := fun _ => trivial
  by_cases d2 : x ∈ [112, 115]
  · have d3 : ¬ y ∈ vows5 := fun z => c2 ⟨d2, z⟩
    simp only [List.mem_cons, List.not_mem_nil, or_false] at d2
    rcases d2 with rfl | rfl
    · rw [if_pos (by decide)]
      wide_line with [L424, S424, N424, G424, hx0, hx1, has_one, gv, slc_tl, e_dict, d_dict, a_kDi, dictOfE, cs_aoughkqx, cs_ps, cs_ng, cs_m, cs_n, cs_ny, cs_bfvp, cs_cdjstz, cs_p, cs_s, lb, hs1, lb1, lb2, lb3, lb4, lb5, d3, lb8]
    · rw [if_neg (by decide), if_pos (by decide)]
      wide_line with [L424, S424, N424, G424, hx0, hx1, has_one, gv, slc_tl, e_dict, d_dict, a_kDi, dictOfE, cs_aoughkqx, cs_ps, cs_ng, cs_m, cs_n, cs_ny, cs_bfvp, cs_cdjstz, cs_p, cs_s, lb, hs1, lb1, lb2, lb3, lb4, lb5, d3, lb8]
  simp only [List.mem_cons, List.not_mem_nil, or_false] at d2
  by_cases c3 : x ∈ [98, 102, 118, 112]
  · rw [if_pos c3]
    simp only [List.mem_cons, List.not_mem_nil, or_false] at c3
    wide_line with [L424, S424, N424, G424, hx0, hx1, has_one, gv, slc_tl, e_dict, d_dict, a_kDi, dictOfE, cs_aoughkqx, cs_ps, cs_ng, cs_m, cs_n, cs_ny, cs_bfvp, cs_cdjstz, cs_p, cs_s, lb, hs1, lb1, lb2, lb3, lb4, lb5, c1, d2, c3, lb8]
  rw [if_neg c3]
  simp only [List.mem_cons, List.not_mem_nil, or_false] at c3
  by_cases c4 : x ∈ [99, 100, 106, 115, 116, 122]
  · rw [if_pos c4]
    simp only [List.mem_cons, List.not_mem_nil, or_false] at c4
    wide_line with [L424, S424, N424, G424, hx0, hx1, has_one, gv, slc_tl, e_dict, d_dict, a_kDi, dictOfE, cs_aoughkqx, cs_ps, cs_ng, cs_m, cs_n, cs_ny, cs_bfvp, cs_cdjstz, cs_p, cs_s, lb, hs1, lb1, lb2, lb3, lb4, lb5, c1, d2, c3, c4, lb8]
  · rw [if_neg c4]
    simp only [List.mem_cons, List.not_mem_nil, or_false] at c4
    wide_line with [L424, S424, N424, G424, hx0, hx1, has_one, gv, slc_tl, e_dict, d_dict, a_kDi, dictOfE, cs_aoughkqx, cs_ps, cs_ng, cs_m, cs_n, cs_ny, cs_bfvp, cs_cdjstz, cs_p, cs_s, lb, hs1, lb1, lb2, lb3, lb4, lb5, c1, d2, c3, c4, lb8]
end
inductive Fr (root hard : List Nat) (x y : Nat) : List Nat → List Nat → Int → List Nat → Prop
  | k0 : Fr root hard x y root root 0 []
  | k1 : Fr root hard x y ([100, 105] ++ root) root 1 []
  | k2 : Fr root hard x y ([116, 101, 114] ++ root) root 1 []
  | k3 : Fr root hard x y ([107, 101] ++ root) root 3 []
  | k4 : Fr root hard x y (sndd [109, 101] root x y) root 1 []
  | k5r (h : x = 114) : Fr root hard x y ([112, 101, 114] ++ root) root 2 []
  | k5l (h : root.take 5 = [108, 97, 106, 97, 114]) : Fr root hard x y ([112, 101] ++ root) (root.drop 1) 0 []
  | k5w (h : ¬ root.take 5 = [108, 97, 106, 97, 114]) (h2 : x ∈ [108, 119, 121]) : Fr root hard x y ([112, 101] ++ root) root 2 []
  | k5s (h1 : ¬ x = 114) (h2 : ¬ x ∈ [108, 119, 121]) : Fr root hard x y (sndd [112, 101] root x y) root 3 []
  | k6 : Fr root hard x y ([98, 101, 114] ++ root) root 4 []
  | k7 : Fr root hard x y ([112, 101, 114] ++ root) root 2 []
  | k8 : Fr root hard x y ([109, 101, 109, 112, 101, 114] ++ root) root 1 [112, 101, 114]
  | k9 : Fr root hard x y ([100, 105, 112, 101, 114] ++ root) root 1 [112, 101, 114]
  | k10 : Fr root hard x y ([107, 101, 98, 101, 114] ++ root) root 3 [98, 101, 114]
  | k11 : Fr root hard x y ([98, 101] ++ hard) hard 4 []
  | k12a : Fr root hard x y [98, 101, 108, 97, 106, 97, 114] [97, 106, 97, 114] 4 []
  | k12b : Fr root hard x y [112, 101, 108, 97, 106, 97, 114] [97, 106, 97, 114] 0 []
  | k12c : Fr root hard x y [109, 101, 109, 112, 101, 108, 97, 106, 97, 114] [97, 106, 97, 114] 1 [112, 101, 108]
def bh (u : List Nat) (z : Nat) (sort : Int) (t : List Nat) : Bool × List Nat :=
  if t = [107, 97, 110] then (if sort = 2 ∨ sort = 3 then (true, u ++ [z] ++ [107]) else (true, u ++ [z]))
  else if t = [97, 110] then (if sort = 2 ∨ sort = 3 then (true, u ++ [z]) else if z = 107 then (true, u) else if sort = 1 then (false, u ++ [z] ++ [97, 110]) else (true, u ++ [z]))
  else if t = [105] then (if 2 < sort ∨ z = 115 then (false, u ++ [z] ++ [105]) else (true, u ++ [z]))
  else (false, u ++ [z])
section
variable (P : Params) (es : Array (Int × Value)) (ep : Nat) (st : SetTable)
theorem fr0 (root hard : List Nat) (x y : Nat) (hx0 : idx root 0 = some x) (hx1 : idx root 1 = some y) (hr : root.length ≤ 20) (hh : hard.length ≤ 20) (more : Int)  : ∀ N σ, 120 ≤ N → callF (SS P es ep st) N 431 [.at (.str root), .at (.str hard), .at (.int 0), .at (.int more)] σ = some (.tup [.str ([] ++ root), .str (root), .int 0, .str []], σ) := by
  intro N σ hN
  obtain ⟨n, rfl⟩ := Nat.exists_eq_add_of_le' hN
  have zb : big = 100000 := rfl
  have lb : root.length ≤ 100000 := by omega
  have hs1 : Int.natAbs 1 < 1000000 := by decide
  have sn := fun f hf N σ hN => snd_ok P es ep st f root x y hx0 hx1 hf hr N σ hN
  rw [c_call (h := F431 P es ep st) (hb := rfl)]
  wide_line with [L431, S431, N431, G431, G424, ix3, ix4, atEq, hx0, lb, sn, cs_nil, cs_r, cs_l, cs_di, cs_ter, cs_ke, cs_me, cs_pe, cs_per, cs_ber, cs_lajar, cs_lwy, cs_memper, cs_diper, cs_keber, cs_be, cs_belajar, cs_pelajar, cs_mempelajar, cs_pel, cs_ajar, big, slc_5, has_one, ats, na, hs1] <;> (repeat rw [if_pos (by (try simp only [List.length_append, List.length_cons, List.length_nil]); omega)])
theorem fr1 (root hard : List Nat) (x y : Nat) (hx0 : idx root 0 = some x) (hx1 : idx root 1 = some y) (hr : root.length ≤ 20) (hh : hard.length ≤ 20) (more : Int)  : ∀ N σ, 120 ≤ N → callF (SS P es ep st) N 431 [.at (.str root), .at (.str hard), .at (.int 1), .at (.int more)] σ = some (.tup [.str ([100, 105] ++ root), .str (root), .int 1, .str []], σ) := by
  intro N σ hN
  obtain ⟨n, rfl⟩ := Nat.exists_eq_add_of_le' hN
  have zb : big = 100000 := rfl
  have lb : root.length ≤ 100000 := by omega
  have hs1 : Int.natAbs 1 < 1000000 := by decide
  have sn := fun f hf N σ hN => snd_ok P es ep st f root x y hx0 hx1 hf hr N σ hN
  rw [c_call (h := F431 P es ep st) (hb := rfl)]
  wide_line with [L431, S431, N431, G431, G424, ix3, ix4, atEq, hx0, lb, sn, cs_nil, cs_r, cs_l, cs_di, cs_ter, cs_ke, cs_me, cs_pe, cs_per, cs_ber, cs_lajar, cs_lwy, cs_memper, cs_diper, cs_keber, cs_be, cs_belajar, cs_pelajar, cs_mempelajar, cs_pel, cs_ajar, big, slc_5, has_one, ats, na, hs1] <;> (repeat rw [if_pos (by (try simp only [List.length_append, List.length_cons, List.length_nil]); omega)])
theorem fr2 (root hard : List Nat) (x y : Nat) (hx0 : idx root 0 = some x) (hx1 : idx root 1 = some y) (hr : root.length ≤ 20) (hh : hard.length ≤ 20) (more : Int)  : ∀ N σ, 120 ≤ N → callF (SS P es ep st) N 431 [.at (.str root), .at (.str hard), .at (.int 2), .at (.int more)] σ = some (.tup [.str ([116, 101, 114] ++ root), .str (root), .int 1, .str []], σ) := by
  intro N σ hN
  obtain ⟨n, rfl⟩ := Nat.exists_eq_add_of_le' hN
  have zb : big = 100000 := rfl
  have lb : root.length ≤ 100000 := by omega
  have hs1 : Int.natAbs 1 < 1000000 := by decide
  have sn := fun f hf N σ hN => snd_ok P es ep st f root x y hx0 hx1 hf hr N σ hN
  rw [c_call (h := F431 P es ep st) (hb := rfl)]
  wide_line with [L431, S431, N431, G431, G424, ix3, ix4, atEq, hx0, lb, sn, cs_nil, cs_r, cs_l, cs_di, cs_ter, cs_ke, cs_me, cs_pe, cs_per, cs_ber, cs_lajar, cs_lwy, cs_memper, cs_diper, cs_keber, cs_be, cs_belajar, cs_pelajar, cs_mempelajar, cs_pel, cs_ajar, big, slc_5, has_one, ats, na, hs1] <;> (repeat rw [if_pos (by (try simp only [List.length_append, List.length_cons, List.length_nil]); omega)])
theorem fr3 (root hard : List Nat) (x y : Nat) (hx0 : idx root 0 = some x) (hx1 : idx root 1 = some y) (hr : root.length ≤ 20) (hh : hard.length ≤ 20) (more : Int)  : ∀ N σ, 120 ≤ N → callF (SS P es ep st) N 431 [.at (.str root), .at (.str hard), .at (.int 3), .at (.int more)] σ = some (.tup [.str ([107, 101] ++ root), .str (root), .int 3, .str []], σ) := by
  intro N σ hN
  obtain ⟨n, rfl⟩ := Nat.exists_eq_add_of_le' hN
  have zb : big = 100000 := rfl
  have lb : root.length ≤ 100000 := by omega
  have hs1 : Int.natAbs 1 < 1000000 := by decide
  have sn := fun f hf N σ hN => snd_ok P es ep st f root x y hx0 hx1 hf hr N σ hN
  rw [c_call (h := F431 P es ep st) (hb := rfl)]
  wide_line with [L431, S431, N431, G431, G424, ix3, ix4, atEq, hx0, lb, sn, cs_nil, cs_r, cs_l, cs_di, cs_ter, cs_ke, cs_me, cs_pe, cs_per, cs_ber, cs_lajar, cs_lwy, cs_memper, cs_diper, cs_keber, cs_be, cs_belajar, cs_pelajar, cs_mempelajar, cs_pel, cs_ajar, big, slc_5, has_one, ats, na, hs1] <;> (repeat rw [if_pos (by (try simp only [List.length_append, List.length_cons, List.length_nil]); omega)])
theorem fr4 (root hard : List Nat) (x y : Nat) (hx0 : idx root 0 = some x) (hx1 : idx root 1 = some y) (hr : root.length ≤ 20) (hh : hard.length ≤ 20) (more : Int)  : ∀ N σ, 120 ≤ N → callF (SS P es ep st) N 431 [.at (.str root), .at (.str hard), .at (.int 4), .at (.int more)] σ = some (.tup [.str (sndd [109, 101] root x y), .str (root), .int 1, .str []], σ) := by
  intro N σ hN
  obtain ⟨n, rfl⟩ := Nat.exists_eq_add_of_le' hN
  have zb : big = 100000 := rfl
  have lb : root.length ≤ 100000 := by omega
  have hs1 : Int.natAbs 1 < 1000000 := by decide
  have sn := fun f hf N σ hN => snd_ok P es ep st f root x y hx0 hx1 hf hr N σ hN
  have s1 := sn [109, 101] (by decide)
  rw [c_call (h := F431 P es ep st) (hb := rfl)]
  wide_line with [L431, S431, N431, G431, G424, ix3, ix4, atEq, hx0, lb, sn, cs_nil, cs_r, cs_l, cs_di, cs_ter, cs_ke, cs_me, cs_pe, cs_per, cs_ber, cs_lajar, cs_lwy, cs_memper, cs_diper, cs_keber, cs_be, cs_belajar, cs_pelajar, cs_mempelajar, cs_pel, cs_ajar, big, slc_5, has_one, ats, na, hs1, s1]
theorem fr5r (root hard : List Nat) (x y : Nat) (hx0 : idx root 0 = some x) (hx1 : idx root 1 = some y) (hr : root.length ≤ 20) (hh : hard.length ≤ 20) (more : Int) (h : x = 114) : ∀ N σ, 120 ≤ N → callF (SS P es ep st) N 431 [.at (.str root), .at (.str hard), .at (.int 5), .at (.int more)] σ = some (.tup [.str ([112, 101, 114] ++ root), .str (root), .int 2, .str []], σ) := by
  intro N σ hN
  obtain ⟨n, rfl⟩ := Nat.exists_eq_add_of_le' hN
  have zb : big = 100000 := rfl
  have lb : root.length ≤ 100000 := by omega
  have hs1 : Int.natAbs 1 < 1000000 := by decide
  have sn := fun f hf N σ hN => snd_ok P es ep st f root x y hx0 hx1 hf hr N σ hN
  rw [c_call (h := F431 P es ep st) (hb := rfl)]
  wide_line with [L431, S431, N431, G431, G424, ix3, ix4, atEq, hx0, lb, sn, cs_nil, cs_r, cs_l, cs_di, cs_ter, cs_ke, cs_me, cs_pe, cs_per, cs_ber, cs_lajar, cs_lwy, cs_memper, cs_diper, cs_keber, cs_be, cs_belajar, cs_pelajar, cs_mempelajar, cs_pel, cs_ajar, big, slc_5, has_one, ats, na, hs1, h] <;> (repeat rw [if_pos (by (try simp only [List.length_append, List.length_cons, List.length_nil]); omega)])
theorem fr5l (root hard : List Nat) (x y : Nat) (hx0 : idx root 0 = some x) (hx1 : idx root 1 = some y) (hr : root.length ≤ 20) (hh : hard.length ≤ 20) (more : Int) (h1 : ¬ x = 114) (h : root.take 5 = [108, 97, 106, 97, 114]) : ∀ N σ, 120 ≤ N → callF (SS P es ep st) N 431 [.at (.str root), .at (.str hard), .at (.int 5), .at (.int more)] σ = some (.tup [.str ([112, 101] ++ root), .str (root.drop 1), .int 0, .str []], σ) := by
  intro N σ hN
  obtain ⟨n, rfl⟩ := Nat.exists_eq_add_of_le' hN
  have zb : big = 100000 := rfl
  have lb : root.length ≤ 100000 := by omega
  have hs1 : Int.natAbs 1 < 1000000 := by decide
  have sn := fun f hf N σ hN => snd_ok P es ep st f root x y hx0 hx1 hf hr N σ hN
  rw [c_call (h := F431 P es ep st) (hb := rfl)]
  wide_line with [L431, S431, N431, G431, G424, ix3, ix4, atEq, hx0, lb, sn, cs_nil, cs_r, cs_l, cs_di, cs_ter, cs_ke, cs_me, cs_pe, cs_per, cs_ber, cs_lajar, cs_lwy, cs_memper, cs_diper, cs_keber, cs_be, cs_belajar, cs_pelajar, cs_mempelajar, cs_pel, cs_ajar, big, slc_5, has_one, ats, na, hs1, h1, h, slc_tl] <;> (repeat rw [if_pos (by (try simp only [List.length_append, List.length_cons, List.length_nil]); omega)])
theorem fr5w (root hard : List Nat) (x y : Nat) (hx0 : idx root 0 = some x) (hx1 : idx root 1 = some y) (hr : root.length ≤ 20) (hh : hard.length ≤ 20) (more : Int) (h1 : ¬ x = 114) (h : ¬ root.take 5 = [108, 97, 106, 97, 114]) (h2 : x ∈ [108, 119, 121]) : ∀ N σ, 120 ≤ N → callF (SS P es ep st) N 431 [.at (.str root), .at (.str hard), .at (.int 5), .at (.int more)] σ = some (.tup [.str ([112, 101] ++ root), .str (root), .int 2, .str []], σ) := by
  intro N σ hN
  obtain ⟨n, rfl⟩ := Nat.exists_eq_add_of_le' hN
  have zb : big = 100000 := rfl
  have lb : root.length ≤ 100000 := by omega
  have hs1 : Int.natAbs 1 < 1000000 := by decide
  have sn := fun f hf N σ hN => snd_ok P es ep st f root x y hx0 hx1 hf hr N σ hN
  simp only [List.mem_cons, List.not_mem_nil, or_false] at h2
  rw [c_call (h := F431 P es ep st) (hb := rfl)]
  wide_line with [L431, S431, N431, G431, G424, ix3, ix4, atEq, hx0, lb, sn, cs_nil, cs_r, cs_l, cs_di, cs_ter, cs_ke, cs_me, cs_pe, cs_per, cs_ber, cs_lajar, cs_lwy, cs_memper, cs_diper, cs_keber, cs_be, cs_belajar, cs_pelajar, cs_mempelajar, cs_pel, cs_ajar, big, slc_5, has_one, ats, na, hs1, h1, h, h2] <;> (repeat rw [if_pos (by (try simp only [List.length_append, List.length_cons, List.length_nil]); omega)])
theorem fr5s (root hard : List Nat) (x y : Nat) (hx0 : idx root 0 = some x) (hx1 : idx root 1 = some y) (hr : root.length ≤ 20) (hh : hard.length ≤ 20) (more : Int) (h1 : ¬ x = 114) (h : ¬ root.take 5 = [108, 97, 106, 97, 114]) (h2 : ¬ x ∈ [108, 119, 121]) : ∀ N σ, 120 ≤ N → callF (SS P es ep st) N 431 [.at (.str root), .at (.str hard), .at (.int 5), .at (.int more)] σ = some (.tup [.str (sndd [112, 101] root x y), .str (root), .int 3, .str []], σ) := by
  intro N σ hN
  obtain ⟨n, rfl⟩ := Nat.exists_eq_add_of_le' hN
  have zb : big = 100000 := rfl
  have lb : root.length ≤ 100000 := by omega
  have hs1 : Int.natAbs 1 < 1000000 := by decide
  have sn := fun f hf N σ hN => snd_ok P es ep st f root x y hx0 hx1 hf hr N σ hN
  simp only [List.mem_cons, List.not_mem_nil, or_false] at h2
  have s1 := sn [112, 101] (by decide)
  rw [c_call (h := F431 P es ep st) (hb := rfl)]
  wide_line with [L431, S431, N431, G431, G424, ix3, ix4, atEq, hx0, lb, sn, cs_nil, cs_r, cs_l, cs_di, cs_ter, cs_ke, cs_me, cs_pe, cs_per, cs_ber, cs_lajar, cs_lwy, cs_memper, cs_diper, cs_keber, cs_be, cs_belajar, cs_pelajar, cs_mempelajar, cs_pel, cs_ajar, big, slc_5, has_one, ats, na, hs1, h1, h, h2, s1]
theorem fr6 (root hard : List Nat) (x y : Nat) (hx0 : idx root 0 = some x) (hx1 : idx root 1 = some y) (hr : root.length ≤ 20) (hh : hard.length ≤ 20) (more : Int)  : ∀ N σ, 120 ≤ N → callF (SS P es ep st) N 431 [.at (.str root), .at (.str hard), .at (.int 6), .at (.int more)] σ = some (.tup [.str ([98, 101, 114] ++ root), .str (root), .int 4, .str []], σ) := by
  intro N σ hN
  obtain ⟨n, rfl⟩ := Nat.exists_eq_add_of_le' hN
  have zb : big = 100000 := rfl
  have lb : root.length ≤ 100000 := by omega
  have hs1 : Int.natAbs 1 < 1000000 := by decide
  have sn := fun f hf N σ hN => snd_ok P es ep st f root x y hx0 hx1 hf hr N σ hN
  rw [c_call (h := F431 P es ep st) (hb := rfl)]
  wide_line with [L431, S431, N431, G431, G424, ix3, ix4, atEq, hx0, lb, sn, cs_nil, cs_r, cs_l, cs_di, cs_ter, cs_ke, cs_me, cs_pe, cs_per, cs_ber, cs_lajar, cs_lwy, cs_memper, cs_diper, cs_keber, cs_be, cs_belajar, cs_pelajar, cs_mempelajar, cs_pel, cs_ajar, big, slc_5, has_one, ats, na, hs1] <;> (repeat rw [if_pos (by (try simp only [List.length_append, List.length_cons, List.length_nil]); omega)])
theorem fr7 (root hard : List Nat) (x y : Nat) (hx0 : idx root 0 = some x) (hx1 : idx root 1 = some y) (hr : root.length ≤ 20) (hh : hard.length ≤ 20) (more : Int)  : ∀ N σ, 120 ≤ N → callF (SS P es ep st) N 431 [.at (.str root), .at (.str hard), .at (.int 7), .at (.int more)] σ = some (.tup [.str ([112, 101, 114] ++ root), .str (root), .int 2, .str []], σ) := by
  intro N σ hN
  obtain ⟨n, rfl⟩ := Nat.exists_eq_add_of_le' hN
  have zb : big = 100000 := rfl
  have lb : root.length ≤ 100000 := by omega
  have hs1 : Int.natAbs 1 < 1000000 := by decide
  have sn := fun f hf N σ hN => snd_ok P es ep st f root x y hx0 hx1 hf hr N σ hN
  rw [c_call (h := F431 P es ep st) (hb := rfl)]
  wide_line with [L431, S431, N431, G431, G424, ix3, ix4, atEq, hx0, lb, sn, cs_nil, cs_r, cs_l, cs_di, cs_ter, cs_ke, cs_me, cs_pe, cs_per, cs_ber, cs_lajar, cs_lwy, cs_memper, cs_diper, cs_keber, cs_be, cs_belajar, cs_pelajar, cs_mempelajar, cs_pel, cs_ajar, big, slc_5, has_one, ats, na, hs1] <;> (repeat rw [if_pos (by (try simp only [List.length_append, List.length_cons, List.length_nil]); omega)])
theorem fr8 (root hard : List Nat) (x y : Nat) (hx0 : idx root 0 = some x) (hx1 : idx root 1 = some y) (hr : root.length ≤ 20) (hh : hard.length ≤ 20) (more : Int)  : ∀ N σ, 120 ≤ N → callF (SS P es ep st) N 431 [.at (.str root), .at (.str hard), .at (.int 8), .at (.int more)] σ = some (.tup [.str ([109, 101, 109, 112, 101, 114] ++ root), .str (root), .int 1, .str [112, 101, 114]], σ) := by
  intro N σ hN
  obtain ⟨n, rfl⟩ := Nat.exists_eq_add_of_le' hN
  have zb : big = 100000 := rfl
  have lb : root.length ≤ 100000 := by omega
  have hs1 : Int.natAbs 1 < 1000000 := by decide
  have sn := fun f hf N σ hN => snd_ok P es ep st f root x y hx0 hx1 hf hr N σ hN
  rw [c_call (h := F431 P es ep st) (hb := rfl)]
  wide_line with [L431, S431, N431, G431, G424, ix3, ix4, atEq, hx0, lb, sn, cs_nil, cs_r, cs_l, cs_di, cs_ter, cs_ke, cs_me, cs_pe, cs_per, cs_ber, cs_lajar, cs_lwy, cs_memper, cs_diper, cs_keber, cs_be, cs_belajar, cs_pelajar, cs_mempelajar, cs_pel, cs_ajar, big, slc_5, has_one, ats, na, hs1] <;> (repeat rw [if_pos (by (try simp only [List.length_append, List.length_cons, List.length_nil]); omega)])
theorem fr9 (root hard : List Nat) (x y : Nat) (hx0 : idx root 0 = some x) (hx1 : idx root 1 = some y) (hr : root.length ≤ 20) (hh : hard.length ≤ 20) (more : Int)  : ∀ N σ, 120 ≤ N → callF (SS P es ep st) N 431 [.at (.str root), .at (.str hard), .at (.int 9), .at (.int more)] σ = some (.tup [.str ([100, 105, 112, 101, 114] ++ root), .str (root), .int 1, .str [112, 101, 114]], σ) := by
  intro N σ hN
  obtain ⟨n, rfl⟩ := Nat.exists_eq_add_of_le' hN
  have zb : big = 100000 := rfl
  have lb : root.length ≤ 100000 := by omega
  have hs1 : Int.natAbs 1 < 1000000 := by decide
  have sn := fun f hf N σ hN => snd_ok P es ep st f root x y hx0 hx1 hf hr N σ hN
  rw [c_call (h := F431 P es ep st) (hb := rfl)]
  wide_line with [L431, S431, N431, G431, G424, ix3, ix4, atEq, hx0, lb, sn, cs_nil, cs_r, cs_l, cs_di, cs_ter, cs_ke, cs_me, cs_pe, cs_per, cs_ber, cs_lajar, cs_lwy, cs_memper, cs_diper, cs_keber, cs_be, cs_belajar, cs_pelajar, cs_mempelajar, cs_pel, cs_ajar, big, slc_5, has_one, ats, na, hs1] <;> (repeat rw [if_pos (by (try simp only [List.length_append, List.length_cons, List.length_nil]); omega)])
theorem fr10 (root hard : List Nat) (x y : Nat) (hx0 : idx root 0 = some x) (hx1 : idx root 1 = some y) (hr : root.length ≤ 20) (hh : hard.length ≤ 20) (more : Int)  : ∀ N σ, 120 ≤ N → callF (SS P es ep st) N 431 [.at (.str root), .at (.str hard), .at (.int 10), .at (.int more)] σ = some (.tup [.str ([107, 101, 98, 101, 114] ++ root), .str (root), .int 3, .str [98, 101, 114]], σ) := by
  intro N σ hN
  obtain ⟨n, rfl⟩ := Nat.exists_eq_add_of_le' hN
  have zb : big = 100000 := rfl
  have lb : root.length ≤ 100000 := by omega
  have hs1 : Int.natAbs 1 < 1000000 := by decide
  have sn := fun f hf N σ hN => snd_ok P es ep st f root x y hx0 hx1 hf hr N σ hN
  rw [c_call (h := F431 P es ep st) (hb := rfl)]
  wide_line with [L431, S431, N431, G431, G424, ix3, ix4, atEq, hx0, lb, sn, cs_nil, cs_r, cs_l, cs_di, cs_ter, cs_ke, cs_me, cs_pe, cs_per, cs_ber, cs_lajar, cs_lwy, cs_memper, cs_diper, cs_keber, cs_be, cs_belajar, cs_pelajar, cs_mempelajar, cs_pel, cs_ajar, big, slc_5, has_one, ats, na, hs1] <;> (repeat rw [if_pos (by (try simp only [List.length_append, List.length_cons, List.length_nil]); omega)])
theorem fr11 (root hard : List Nat) (x y : Nat) (hx0 : idx root 0 = some x) (hx1 : idx root 1 = some y) (hr : root.length ≤ 20) (hh : hard.length ≤ 20) (more : Int)  : ∀ N σ, 120 ≤ N → callF (SS P es ep st) N 431 [.at (.str root), .at (.str hard), .at (.int 11), .at (.int more)] σ = some (.tup [.str ([98, 101] ++ hard), .str (hard), .int 4, .str []], σ) := by
  intro N σ hN
  obtain ⟨n, rfl⟩ := Nat.exists_eq_add_of_le' hN
  have zb : big = 100000 := rfl
  have lb : root.length ≤ 100000 := by omega
  have hs1 : Int.natAbs 1 < 1000000 := by decide
  have sn := fun f hf N σ hN => snd_ok P es ep st f root x y hx0 hx1 hf hr N σ hN
  rw [c_call (h := F431 P es ep st) (hb := rfl)]
  wide_line with [L431, S431, N431, G431, G424, ix3, ix4, atEq, hx0, lb, sn, cs_nil, cs_r, cs_l, cs_di, cs_ter, cs_ke, cs_me, cs_pe, cs_per, cs_ber, cs_lajar, cs_lwy, cs_memper, cs_diper, cs_keber, cs_be, cs_belajar, cs_pelajar, cs_mempelajar, cs_pel, cs_ajar, big, slc_5, has_one, ats, na, hs1] <;> (repeat rw [if_pos (by (try simp only [List.length_append, List.length_cons, List.length_nil]); omega)])
theorem fr12a (root hard : List Nat) (x y : Nat) (hx0 : idx root 0 = some x) (hx1 : idx root 1 = some y) (hr : root.length ≤ 20) (hh : hard.length ≤ 20) (more : Int) (h : more.fmod 3 = 0) : ∀ N σ, 120 ≤ N → callF (SS P es ep st) N 431 [.at (.str root), .at (.str hard), .at (.int 12), .at (.int more)] σ = some (.tup [.str ([98, 101, 108, 97, 106, 97, 114]), .str ([97, 106, 97, 114]), .int 4, .str []], σ) := by
  intro N σ hN
  obtain ⟨n, rfl⟩ := Nat.exists_eq_add_of_le' hN
  have zb : big = 100000 := rfl
  have lb : root.length ≤ 100000 := by omega
  have hs1 : Int.natAbs 1 < 1000000 := by decide
  have sn := fun f hf N σ hN => snd_ok P es ep st f root x y hx0 hx1 hf hr N σ hN
  rw [c_call (h := F431 P es ep st) (hb := rfl)]
  wide_line with [L431, S431, N431, G431, G424, ix3, ix4, atEq, hx0, lb, sn, cs_nil, cs_r, cs_l, cs_di, cs_ter, cs_ke, cs_me, cs_pe, cs_per, cs_ber, cs_lajar, cs_lwy, cs_memper, cs_diper, cs_keber, cs_be, cs_belajar, cs_pelajar, cs_mempelajar, cs_pel, cs_ajar, big, slc_5, has_one, ats, na, hs1, h]
theorem fr12b (root hard : List Nat) (x y : Nat) (hx0 : idx root 0 = some x) (hx1 : idx root 1 = some y) (hr : root.length ≤ 20) (hh : hard.length ≤ 20) (more : Int) (h : more.fmod 3 = 1) : ∀ N σ, 120 ≤ N → callF (SS P es ep st) N 431 [.at (.str root), .at (.str hard), .at (.int 12), .at (.int more)] σ = some (.tup [.str ([112, 101, 108, 97, 106, 97, 114]), .str ([97, 106, 97, 114]), .int 0, .str []], σ) := by
  intro N σ hN
  obtain ⟨n, rfl⟩ := Nat.exists_eq_add_of_le' hN
  have zb : big = 100000 := rfl
  have lb : root.length ≤ 100000 := by omega
  have hs1 : Int.natAbs 1 < 1000000 := by decide
  have sn := fun f hf N σ hN => snd_ok P es ep st f root x y hx0 hx1 hf hr N σ hN
  rw [c_call (h := F431 P es ep st) (hb := rfl)]
  wide_line with [L431, S431, N431, G431, G424, ix3, ix4, atEq, hx0, lb, sn, cs_nil, cs_r, cs_l, cs_di, cs_ter, cs_ke, cs_me, cs_pe, cs_per, cs_ber, cs_lajar, cs_lwy, cs_memper, cs_diper, cs_keber, cs_be, cs_belajar, cs_pelajar, cs_mempelajar, cs_pel, cs_ajar, big, slc_5, has_one, ats, na, hs1, h]
theorem fr12c (root hard : List Nat) (x y : Nat) (hx0 : idx root 0 = some x) (hx1 : idx root 1 = some y) (hr : root.length ≤ 20) (hh : hard.length ≤ 20) (more : Int) (h : more.fmod 3 = 2) : ∀ N σ, 120 ≤ N → callF (SS P es ep st) N 431 [.at (.str root), .at (.str hard), .at (.int 12), .at (.int more)] σ = some (.tup [.str ([109, 101, 109, 112, 101, 108, 97, 106, 97, 114]), .str ([97, 106, 97, 114]), .int 1, .str [112, 101, 108]], σ) := by
  intro N σ hN
  obtain ⟨n, rfl⟩ := Nat.exists_eq_add_of_le' hN
  have zb : big = 100000 := rfl
  have lb : root.length ≤ 100000 := by omega
  have hs1 : Int.natAbs 1 < 1000000 := by decide
  have sn := fun f hf N σ hN => snd_ok P es ep st f root x y hx0 hx1 hf hr N σ hN
  rw [c_call (h := F431 P es ep st) (hb := rfl)]
  wide_line with [L431, S431, N431, G431, G424, ix3, ix4, atEq, hx0, lb, sn, cs_nil, cs_r, cs_l, cs_di, cs_ter, cs_ke, cs_me, cs_pe, cs_per, cs_ber, cs_lajar, cs_lwy, cs_memper, cs_diper, cs_keber, cs_be, cs_belajar, cs_pelajar, cs_mempelajar, cs_pel, cs_ajar, big, slc_5, has_one, ats, na, hs1, h]
theorem fronted_ok (root hard : List Nat) (x y : Nat) (hx0 : idx root 0 = some x) (hx1 : idx root 1 = some y) (hr : root.length ≤ 20) (hh : hard.length ≤ 20) (more : Int) (k : Int) (h0 : 0 ≤ k) (h1 : k < 13) : ∃ front kernel sort inner, Fr root hard x y front kernel sort inner ∧ ∀ N σ, 120 ≤ N → callF (SS P es ep st) N 431 [.at (.str root), .at (.str hard), .at (.int k), .at (.int more)] σ = some (.tup [.str front, .str kernel, .int sort, .str inner], σ) := by
  rcases (by omega : k = 0 ∨ k = 1 ∨ k = 2 ∨ k = 3 ∨ k = 4 ∨ k = 5 ∨ k = 6 ∨ k = 7 ∨ k = 8 ∨ k = 9 ∨ k = 10 ∨ k = 11 ∨ k = 12) with rfl | rfl | rfl | rfl | rfl | rfl | rfl | rfl | rfl | rfl | rfl | rfl | rfl
  · exact ⟨_, _, _, _, .k0, fr0 P es ep st root hard x y hx0 hx1 hr hh more⟩
  · exact ⟨_, _, _, _, .k1, fr1 P es ep st root hard x y hx0 hx1 hr hh more⟩
  · exact ⟨_, _, _, _, .k2, fr2 P es ep st root hard x y hx0 hx1 hr hh more⟩
  · exact ⟨_, _, _, _, .k3, fr3 P es ep st root hard x y hx0 hx1 hr hh more⟩
  · exact ⟨_, _, _, _, .k4, fr4 P es ep st root hard x y hx0 hx1 hr hh more⟩
  · by_cases a : x = 114
    · exact ⟨_, _, _, _, .k5r a, fr5r P es ep st root hard x y hx0 hx1 hr hh more a⟩
    by_cases b : root.take 5 = [108, 97, 106, 97, 114]
    · exact ⟨_, _, _, _, .k5l b, fr5l P es ep st root hard x y hx0 hx1 hr hh more a b⟩
    by_cases d : x ∈ [108, 119, 121]
    · exact ⟨_, _, _, _, .k5w b d, fr5w P es ep st root hard x y hx0 hx1 hr hh more a b d⟩
    · exact ⟨_, _, _, _, .k5s a d, fr5s P es ep st root hard x y hx0 hx1 hr hh more a b d⟩
  · exact ⟨_, _, _, _, .k6, fr6 P es ep st root hard x y hx0 hx1 hr hh more⟩
  · exact ⟨_, _, _, _, .k7, fr7 P es ep st root hard x y hx0 hx1 hr hh more⟩
  · exact ⟨_, _, _, _, .k8, fr8 P es ep st root hard x y hx0 hx1 hr hh more⟩
  · exact ⟨_, _, _, _, .k9, fr9 P es ep st root hard x y hx0 hx1 hr hh more⟩
  · exact ⟨_, _, _, _, .k10, fr10 P es ep st root hard x y hx0 hx1 hr hh more⟩
  · exact ⟨_, _, _, _, .k11, fr11 P es ep st root hard x y hx0 hx1 hr hh more⟩
  · obtain ⟨a, b⟩ := fmod_bd more (K := 3) (by decide)
    rcases (by omega : more.fmod 3 = 0 ∨ more.fmod 3 = 1 ∨ more.fmod 3 = 2) with q | q | q
    · exact ⟨_, _, _, _, .k12a, fr12a P es ep st root hard x y hx0 hx1 hr hh more q⟩
    · exact ⟨_, _, _, _, .k12b, fr12b P es ep st root hard x y hx0 hx1 hr hh more q⟩
    · exact ⟨_, _, _, _, .k12c, fr12c P es ep st root hard x y hx0 hx1 hr hh more q⟩
theorem behind_ok (u : List Nat) (z : Nat) (hu : u.length ≤ 20) (sort : Int) (hs : 0 ≤ sort ∧ sort ≤ 4) (t : List Nat) (ht : At.str t ∈ tailsL) :
    ∀ N σ, 120 ≤ N → callF (SS P es ep st) N 438 [.at (.str (u ++ [z])), .at (.int sort), .at (.str t)] σ = some (.tup [.bool (bh u z sort t).1, .str (bh u z sort t).2], σ) := by
  intro N σ hN
  obtain ⟨n, rfl⟩ := Nat.exists_eq_add_of_le' hN
  have lb : (u ++ [z]).length ≤ 100000 := by simp only [List.length_append, List.length_cons, List.length_nil]; omega
  have e1 : idx (u ++ [z]) (-1) = some z := idx_last u z lb
  have e2 : slc (u ++ [z]) none (some (-1)) = u := slc_init u z
  have hs1 : Int.natAbs (-1) < 1000000 := by decide
  rw [c_call (h := F438 P es ep st) (hb := rfl)]
  have ht' : t = [] ∨ t = [107, 97, 110] ∨ t = [97, 110] ∨ t = [105] := by
    simp only [tailsL, List.mem_cons, List.not_mem_nil, or_false, At.str.injEq] at ht; exact ht
  rcases ht' with rfl | rfl | rfl | rfl
  · wide_line with [false_and, and_false, false_or, or_false, or_self, L438, S438, N438, G438, atEq, cs_kan, cs_an, cs_i, cs_k, cs_s, cs_nil, big, ats, na, e1, e2, lb, hs1, bh]
  · rcases (by omega : sort = 0 ∨ sort = 1 ∨ sort = 2 ∨ sort = 3 ∨ sort = 4) with rfl | rfl | rfl | rfl | rfl <;> wide_line with [false_and, and_false, false_or, or_false, or_self, L438, S438, N438, G438, atEq, cs_kan, cs_an, cs_i, cs_k, cs_s, cs_nil, big, ats, na, e1, e2, lb, hs1, bh] <;> (repeat rw [if_pos (by (try simp only [List.length_append, List.length_cons, List.length_nil]); omega)])
  · rcases Classical.propComplete (z = 107) with k | k <;> rcases (by omega : sort = 0 ∨ sort = 1 ∨ sort = 2 ∨ sort = 3 ∨ sort = 4) with rfl | rfl | rfl | rfl | rfl <;> wide_line with [false_and, and_false, false_or, or_false, or_self, L438, S438, N438, G438, atEq, cs_kan, cs_an, cs_i, cs_k, cs_s, cs_nil, big, ats, na, e1, e2, lb, hs1, bh, k] <;> (repeat rw [if_pos (by (try simp only [List.length_append, List.length_cons, List.length_nil]); omega)])
  · rcases Classical.propComplete (z = 115) with k | k <;> rcases (by omega : sort = 0 ∨ sort = 1 ∨ sort = 2 ∨ sort = 3 ∨ sort = 4) with rfl | rfl | rfl | rfl | rfl <;> wide_line with [false_and, and_false, false_or, or_false, or_self, L438, S438, N438, G438, atEq, cs_kan, cs_an, cs_i, cs_k, cs_s, cs_nil, big, ats, na, e1, e2, lb, hs1, bh, k] <;> (repeat rw [if_pos (by (try simp only [List.length_append, List.length_cons, List.length_nil]); omega)])
end
theorem drop1_last (u : List Nat) (z : Nat) (h : u ≠ []) : (u ++ [z]).drop 1 = u.drop 1 ++ [z] := by
  cases u with
  | nil => exact absurd rfl h
  | cons a u => rfl
theorem Fr.last {ru hu : List Nat} {z x y : Nat} {front kernel inner : List Nat} {sort : Int} (h : Fr (ru ++ [z]) (hu ++ [z]) x y front kernel sort inner) (hr : ru ≠ []) (l1 : ru.length ≤ 15) (l2 : hu.length ≤ 15) :
    ∃ u z', kernel = u ++ [z'] ∧ u.length ≤ 15 ∧ (0 ≤ sort ∧ sort ≤ 4) := by
  cases h
  case k5l => exact ⟨_, _, drop1_last ru z hr, by rw [List.length_drop]; omega, by decide⟩
  case k11 => exact ⟨hu, z, rfl, l2, by decide⟩
  case k12a => exact ⟨[97, 106, 97], 114, rfl, by decide, by decide⟩
  case k12b => exact ⟨[97, 106, 97], 114, rfl, by decide, by decide⟩
  case k12c => exact ⟨[97, 106, 97], 114, rfl, by decide, by decide⟩
  all_goals exact ⟨ru, z, rfl, l1, by decide⟩
theorem sndd_len (f root : List Nat) (x y : Nat) : (sndd f root x y).length ≤ f.length + root.length + 2 := by
  unfold sndd
  repeat' split
  all_goals (simp only [List.length_append, List.length_cons, List.length_nil, List.length_drop]; omega)
theorem Fr.len {root hard : List Nat} {x y : Nat} {front kernel inner : List Nat} {sort : Int} (h : Fr root hard x y front kernel sort inner) (l1 : root.length ≤ 16) (l2 : hard.length ≤ 16) : front.length ≤ 24 ∧ inner.length ≤ 3 := by
  cases h
  case k4 => have := sndd_len [109, 101] root x y; simp only [List.length_cons, List.length_nil] at this ⊢; omega
  case k5s => have := sndd_len [112, 101] root x y; simp only [List.length_cons, List.length_nil] at this ⊢; omega
  all_goals (simp only [List.length_append, List.length_cons, List.length_nil]; omega)
def Built (root hard : List Nat) (x y : Nat) (w s : List Nat) : Prop := ∃ front kernel sort inner t o p u z, Fr root hard x y front kernel sort inner ∧ kernel = u ++ [z] ∧ At.str t ∈ tailsL ∧ At.str o ∈ ownersL ∧ At.str p ∈ partsL ∧
  w = front ++ t ++ o ++ p ∧ s = if (bh u z sort t).1 = true then (bh u z sort t).2 else inner ++ (bh u z sort t).2
theorem str_of {l : List At} (hl : ∀ a ∈ l, ∃ t, a = .str t ∧ t.length ≤ 3) {a : At} (h : a ∈ l) : ∃ t, a = .str t ∧ t.length ≤ 3 := hl a h
theorem idx_str (l : List At) (hl : l = tailsL ∨ l = ownersL ∨ l = partsL) (v : Int) : ∃ t, At.str t ∈ l ∧ t.length ≤ 3 ∧ idx l (v.fmod 4) = some (.str t) := by
  have e : ∀ l : List At, (l = tailsL ∨ l = ownersL ∨ l = partsL) → l.length = 4 ∧ ∀ a ∈ l, ∃ t, a = .str t ∧ t.length ≤ 3 := by
    rintro l (rfl | rfl | rfl)
    · refine ⟨rfl, ?_⟩
      intro a ha
      simp only [tailsL, List.mem_cons, List.not_mem_nil, or_false] at ha
      rcases ha with rfl | rfl | rfl | rfl <;> exact ⟨_, rfl, by decide⟩
    · refine ⟨rfl, ?_⟩
      intro a ha
      simp only [ownersL, List.mem_cons, List.not_mem_nil, or_false] at ha
      rcases ha with rfl | rfl | rfl | rfl <;> exact ⟨_, rfl, by decide⟩
    · refine ⟨rfl, ?_⟩
      intro a ha
      simp only [partsL, List.mem_cons, List.not_mem_nil, or_false] at ha
      rcases ha with rfl | rfl | rfl | rfl <;> exact ⟨_, rfl, by decide⟩
  obtain ⟨e1, e2⟩ := e l hl
  obtain ⟨a, ha, ix⟩ := idx_mod' l 4 4 e1 rfl (by decide) (by decide) v
  obtain ⟨t, rfl, ht⟩ := e2 a ha
  exact ⟨t, ha, ht, ix⟩
theorem xT_tup (S : Sta) (n : Nat) (sc : Scope) (ts : List Expr) (l : List At) (m : Lm) (σ : Sto) : kXt sc ts m (.tup l, σ) = (unp sc ts l m).map fun m => (.next, m, σ) := (Eq.refl _).trans rfl
theorem unp_nil (sc : Scope) (m : Lm) : unp sc [] [] m = some m := by rw [unp]
theorem unp_cons (sc : Scope) (x : Str) (p : Pos) (ts : List Expr) (a : At) (l : List At) (m : Lm) : unp sc (.Name x p :: ts) (a :: l) m = if sc.names.lookup x = some .local then unp sc ts l (m.set x (.at a)) else none := by rw [unp]
section
variable (P : Params) (es : Array (Int × Value)) (ep : Nat) (st : SetTable)
theorem word_ok (ru hu : List Nat) (z x y : Nat) (hx0 : idx (ru ++ [z]) 0 = some x) (hx1 : idx (ru ++ [z]) 1 = some y) (hr : ru ≠ []) (l1 : ru.length ≤ 15) (l2 : hu.length ≤ 15) (a b : Int) :
    ∃ w s, Built (ru ++ [z]) (hu ++ [z]) x y w s ∧ w.length ≤ 40 ∧ ∀ N σ, 180 ≤ N → callF (SS P es ep st) N 445 [.at (.str (ru ++ [z])), .at (.str (hu ++ [z])), .at (.int a), .at (.int b)] σ = some (.tup [.str w, .str s], σ) := by
  have zb : big = 100000 := rfl
  have m1 : (ru ++ [z]).length ≤ 16 := by rw [List.length_append, List.length_singleton]; omega
  have m2 : (hu ++ [z]).length ≤ 16 := by rw [List.length_append, List.length_singleton]; omega
  obtain ⟨k0, k1⟩ := fmod_bd a (K := 13) (by decide)
  obtain ⟨front, kernel, sort, inner, hF, F⟩ := fronted_ok P es ep st (ru ++ [z]) (hu ++ [z]) x y hx0 hx1 (by omega) (by omega) (a.fdiv 13) (a.fmod 13) k0 k1
  obtain ⟨u, z', hk, lu, hs⟩ := hF.last hr l1 l2
  obtain ⟨lf, li⟩ := hF.len m1 m2
  obtain ⟨t, tm, tl, ti⟩ := idx_str tailsL (.inl rfl) b
  obtain ⟨o, om, ol, oi⟩ := idx_str ownersL (.inr (.inl rfl)) (b.fdiv 4)
  obtain ⟨p, pm, pl, pi⟩ := idx_str partsL (.inr (.inr rfl)) (b.fdiv 16)
  have B := behind_ok P es ep st u z' (by omega) sort hs t tm
  have lb : (bh u z' sort t).2.length ≤ 20 := by
    unfold bh
    repeat' split
    all_goals (simp only [List.length_append, List.length_cons, List.length_nil]; omega)
  subst hk
  refine ⟨front ++ t ++ o ++ p, if (bh u z' sort t).1 = true then (bh u z' sort t).2 else inner ++ (bh u z' sort t).2, ⟨front, _, sort, inner, t, o, p, u, z', hF, rfl, tm, om, pm, rfl, rfl⟩, ?_, ?_⟩
  · simp only [List.length_append]; omega
  · intro N σ hN
    obtain ⟨n, rfl⟩ := Nat.exists_eq_add_of_le' hN
    have g1 : front.length + t.length ≤ big := by omega
    have g2 : (front ++ t).length + o.length ≤ big := by simp only [List.length_append]; omega
    have g3 : (front ++ t ++ o).length + p.length ≤ big := by simp only [List.length_append]; omega
    have g4 : inner.length + (bh u z' sort t).2.length ≤ big := by omega
    have c1 := fun σ N hN => d382 P es ep st σ N hN
    have c2 := fun σ N hN => d389 P es ep st σ N hN
    have c3 := fun σ N hN => d396 P es ep st σ N hN
    rw [c_call (h := F445 P es ep st) (hb := rfl)]
    generalize bh u z' sort t = q at *
    obtain ⟨q1, q2⟩ := q
    dsimp only at *
    cases q1 with
    | true => wide_line with [L445, S445, N445, G431, G382, G389, G396, G438, F, B, c1, c2, c3, xT_tup, unp_nil, unp_cons, ti, oi, pi, na, g1, g2, g3, g4, ats]
    | false => wide_line with [L445, S445, N445, G431, G382, G389, G396, G438, F, B, c1, c2, c3, xT_tup, unp_nil, unp_cons, ti, oi, pi, na, g1, g2, g3, g4, ats]
end
def L194 : { b : List Stmt // fBody (inr 2 23) = b } := ⟨_, by unfold inr tp bd PySem.Challenge.pw_af0030_01; dsimp only [fBody, stAt]⟩
def N194 : { b : List (Str × NameKind) // (fScope (inr 2 23)).names = b } := ⟨_, by unfold inr tp bd PySem.Challenge.pw_af0030_01; dsimp only [fBody, fScope, stAt]⟩
theorem S194 : (fScope (inr 2 23)).names = N194.1 := N194.2
theorem F194 (P : Params) (es : Array (Int × Value)) (ep : Nat) (st : SetTable) : funIn (SS P es ep st) 194 = some ([(Str.ofString "self"), (Str.ofString "words")], L194.1, fScope (inr 2 23)) := by kernel_rfl
theorem M194 (P : Params) (es : Array (Int × Value)) (ep : Nat) (st : SetTable) : findIn (SS P es ep st).K (.ref (SS P es ep st).C) (Str.ofString "stemWords") = some (some (.ref 194)) := by kernel_rfl
theorem h194 (r : St) (ls : List (List At)) : (r.sto ls).f (Str.ofString "stemWords") = none := by unfold St.sto St.f; simp [ofS]
theorem h189 (r : St) (ls : List (List At)) : (r.sto ls).f (Str.ofString "stemWord") = none := by unfold St.sto St.f; simp [ofS]
def compScO : List Stmt → Scope
  | [.Return (some (.ListComp _ _ cs _)) _] => cs
  | _ => default
def compElt : List Stmt → Expr
  | [.Return (some (.ListComp e _ _ _)) _] => e
  | _ => .Name ⟨#[]⟩ default
def E194 : { b : Expr // compElt L194.1 = b } := ⟨_, by unfold L194; dsimp only [compElt]⟩
def C194 : { b : Scope // compScO L194.1 = b } := ⟨_, by unfold L194; dsimp only [compScO]⟩
theorem ZC : (compSc C194.1 (fScope (inr 2 23))).names = [(Str.ofString ".0", .local), ((Str.ofString "word"), .local), ((Str.ofString "self"), .cell)] := by kernel_rfl
theorem a_comp (m : Lm) (sc : Scope) (x : Str) (v : MV) (y : Str) : m.comp sc x v y = if y = x then some v else if sc.names.lookup y = some .local then none else m y := (Eq.refl _).trans rfl
section
variable (P : Params) (es : Array (Int × Value)) (ep : Nat) (st : SetTable) (ls : List (List At))
theorem comp194 : ∀ (l : List (List Nat)) (r : St), (∀ w ∈ l, w.length ≤ 60) → ∃ r' : St, ∀ N, 450 + l.length ≤ N → ∀ m : Lm, m (Str.ofString "self") = some .self → comp (SS P es ep st) N (compSc C194.1 (fScope (inr 2 23))) E194.1 (Str.ofString "word") [] (l.map .str) m (r.sto ls) = some (l.map (fun w => .str (stem w)), r'.sto ls)
  | [], r, _ => ⟨r, fun N hN m hm => by
      obtain ⟨n, rfl⟩ : ∃ n, N = n + 1 := ⟨N - 1, by omega⟩
      rw [List.map_nil, cm_nil]; rfl⟩
  | w :: l, r, h => by
    obtain ⟨r1, e1⟩ := stemWord P es ep st ls r w (h w (.head _))
    obtain ⟨r2, e2⟩ := comp194 l r1 (fun w hw => h w (.tail _ hw))
    refine ⟨r2, fun N hN m hm => ?_⟩
    rw [List.length_cons] at hN
    obtain ⟨n, rfl⟩ : ∃ n, N = n + 450 + 1 := ⟨N - 451, by omega⟩
    have e2' := e2 (n + 450) (by omega) m hm
    rw [List.map_cons, List.map_cons, cm_cons]
    have ev1 : ev (SS P es ep st) (n + 450) (compSc C194.1 (fScope (inr 2 23))) E194.1 (m.comp (compSc C194.1 (fScope (inr 2 23))) (Str.ofString "word") (.at (.str w))) (r.sto ls) = some (.at (.str (stem w)), r1.sto ls) := by
      wide_line with [E194, ZC, a_comp, hm, M189, h189, e1, Option.some.injEq]
    rw [ts_nil, bS, a_kCm1, if_pos rfl, ev1, bS, a_kCm2]
    dsimp only
    rw [if_pos (show (r1.sto ls).ls = (r.sto ls).ls from rfl)]
    show (comp (SS P es ep st) (n + 450) (compSc C194.1 (fScope (inr 2 23))) E194.1 (Str.ofString "word") [] (l.map .str) m (r1.sto ls)).map (kCm3 (.str (stem w))) = _
    rw [e2']
    rfl
theorem stemWords_ok (l : List (List Nat)) (r : St) (k : Nat) (hk : ls[k]? = some (l.map .str)) (hl : ∀ w ∈ l, w.length ≤ 60) (hn : l.length ≤ 20) : ∃ r' : St, ∀ N, 490 ≤ N → callF (SS P es ep st) N 194 [.self, .ml k] (r.sto ls) = some (.list (l.map (fun w => .str (stem w))), r'.sto ls) := by
  obtain ⟨r', e⟩ := comp194 P es ep st ls l r hl
  refine ⟨r', fun N hN => ?_⟩
  obtain ⟨n, rfl⟩ := Nat.exists_eq_add_of_le' hN
  have e' := e (n + 486) (by omega) (fun y => if y = (Str.ofString "self") then some .self else if y = (Str.ofString "words") then some (.ml k) else none) (by simp only [iT])
  unfold E194 C194 at e'
  dsimp only at e'
  rw [c_call (h := F194 P es ep st) (hb := rfl)]
  unfold L194
  dsimp only
  rw [xs_cons, x_ret, e_cm, if_pos (by decide +kernel)]
  wide_line with [S194, N194, a_kLC, ls_of, hk, e', a_kLC2]
def r0 : St := ⟨[], 0, 0, 0, 0, 0, none, none⟩
def putAll (σ : Sto) : Option Sto := (σ.put (Str.ofString "current") (.str [])).bind fun σ => (σ.put (Str.ofString "cursor") (.int 0)).bind fun σ => (σ.put (Str.ofString "limit") (.int 0)).bind fun σ => (σ.put (Str.ofString "limit_backward") (.int 0)).bind fun σ => (σ.put (Str.ofString "bra") (.int 0)).bind fun σ => σ.put (Str.ofString "ket") (.int 0)
theorem putAll_r0 : putAll ⟨true, 0, fun _ => none, ls⟩ = some (r0.sto ls) := by
  unfold putAll Sto.put
  simp [ofS]
  unfold St.sto St.cnt r0
  simp only [Sto.mk.injEq, true_and, and_true]
  refine ⟨rfl, ?_⟩
  funext y
  unfold St.f
  by_cases h1 : y = (Str.ofString "ket")
  · simp [h1, ofS]
  by_cases h2 : y = (Str.ofString "bra")
  · simp [h2, ofS]
  by_cases h3 : y = (Str.ofString "limit_backward")
  · simp [h3, ofS]
  by_cases h4 : y = (Str.ofString "limit")
  · simp [h4, ofS]
  by_cases h5 : y = (Str.ofString "cursor")
  · simp [h5, ofS]
  by_cases h6 : y = (Str.ofString "current")
  · simp [h6, ofS]
  simp [h1, h2, h3, h4, h5, h6]
theorem init_ok (n : Nat) : callF (SS P es ep st) (n + 100) 35 [.self] ⟨true, 0, fun _ => none, ls⟩ = (putAll ⟨true, 0, fun _ => none, ls⟩).map fun σ => (.at .none, σ) := by kernel_rfl
end
section
variable (S : Sta) (n : Nat) (sc : Scope) (m : Lm) (σ : Sto) (p : Pos)
theorem x_topB (x : Str) (q : Pos) (a b : Expr) (o : Operator) (p1 : Pos) : ex S (n + 1) true sc (.Assign [.Name x q] (.BinOp a o b p1) p) m σ = if sc.names.lookup x = some .local ∧ notComp (.BinOp a o b p1) = true then (ev S n sc (.BinOp a o b p1) m σ).map (kXs m x) else none := by rw [ex] <;> first | rfl | (intros; contradiction)
theorem x_topC (x : Str) (q : Pos) (f : Expr) (a : Expr) (as : List Expr) (kw : List Keyword) (cp : Pos) : ex S (n + 1) true sc (.Assign [.Name x q] (.Call f (a :: as) kw cp) p) m σ = if sc.names.lookup x = some .local ∧ notComp (.Call f (a :: as) kw cp) = true then (ev S n sc (.Call f (a :: as) kw cp) m σ).map (kXs m x) else none := by rw [ex] <;> first | rfl | (intros; contradiction) | (intros; rename_i h; cases h)
theorem x_topL (x : Str) (q : Pos) (es : List Expr) (q1 : Pos) : ex S (n + 1) true sc (.Assign [.Name x q] (.List es q1) p) m σ = if sc.names.lookup x = some .local ∧ notComp (.List es q1) = true then (if x ∈ S.mls ∧ es.length ≤ 1000 then (evs S n sc es m σ).bind (kXl m x) else (ev S n sc (.List es q1) m σ).map (kXs m x)) else none := by rw [ex] <;> first | rfl | (intros; contradiction)
theorem x_topN (x : Str) (q : Pos) (c : Str) (q1 cp : Pos) : ex S (n + 1) true sc (.Assign [.Name x q] (.Call (.Name c q1) [] [] cp) p) m σ = if sc.names.lookup x = some .local ∧ notComp (.Call (.Name c q1) [] [] cp) = true then (if σ.on = false ∧ sc.names.lookup c = some .globalImplicit ∧ (c == ("__debug__" : Str)) = false ∧ globIn S c = some (.ref S.C) then
            (match findIn S.K (.ref S.C) "__init__" with
              | some (some (.ref f)) => (callF S n f [.self] { σ with on := true, cnt := 0, f := fun _ => none }).bind (kXn m x)
              | _ => none)
          else (ev S n sc (.Call (.Name c q1) [] [] cp) m σ).map (kXs m x)) else none := by rw [ex] <;> first | rfl | (intros; contradiction)
end
theorem strs_str : ∀ l : List (List Nat), strsAtL (l.map .str) = some l
  | [] => rfl
  | w :: l => by rw [List.map_cons]; unfold strsAtL; rw [strs_str l]; rfl
def B452 : { b : List Stmt // whBody (stAt L452.1 5) = b } := ⟨_, by unfold L452; dsimp only [whBody, stAt]⟩
theorem r06 : rangeUp 0 6 = [0, 1, 2, 3, 4, 5] := by decide
structure LM (ns : List At) (root hard : List Nat) (m : Lm) : Prop where
  script : m (Str.ofString "script") = some (.list ns)
  root : m (Str.ofString "root") = some (.at (.str root))
  hard : m (Str.ofString "hard") = some (.at (.str hard))
  words : m (Str.ofString "words") = some (.ml 0)
  stems : m (Str.ofString "stems") = some (.ml 1)
section
variable (P : Params) (es : Array (Int × Value)) (ep : Nat) (st : SetTable)
theorem turn (n : Nat) (i : Int) (hi : i.natAbs < 1000000) (ns : List At) (root hard w s : List Nat) (a b : Int) (m : Lm) (f : Str → Option At) (ws ss : List At) (hm : LM ns root hard m) (lw : ¬ 1000 ≤ ws.length) (lss : ¬ 1000 ≤ ss.length)
    (A : ∀ N σ, 60 ≤ N → callF (SS P es ep st) N 403 [.list ns, .at (.int (12 + 2 * i))] σ = some (.at (.int a), σ)) (A' : ∀ N σ, 60 ≤ N → callF (SS P es ep st) N 403 [.list ns, .at (.int (13 + 2 * i))] σ = some (.at (.int b), σ))
    (W : ∀ N σ, 180 ≤ N → callF (SS P es ep st) N 445 [.at (.str root), .at (.str hard), .at (.int a), .at (.int b)] σ = some (.tup [.str w, .str s], σ)) :
    exs (SS P es ep st) (n + 300) false (fScope (tp 25)) B452.1 (m.set (Str.ofString "i") (.at (.int i))) ⟨false, 0, f, [ws, ss]⟩ = some (.next, ((m.set (Str.ofString "i") (.at (.int i))).set (Str.ofString "word") (.at (.str w))).set (Str.ofString "stem") (.at (.str s)), ⟨false, 0, f, [ws ++ [.str w], ss ++ [.str s]]⟩) := by
  obtain ⟨h1, h2, h3, h4, h5⟩ := hm
  wide_line with [B452, S452, N452, G445, G403, A, A', W, h1, h2, h3, h4, h5, hi, na, xT_tup, unp_cons, unp_nil, a_kAp, List.getElem?_cons_zero, List.getElem?_cons_succ, List.set_cons_zero, List.set_cons_succ, lw, lss]
theorem loop (ns : List Int) (hn : ns.length ≤ 63) (ru hu : List Nat) (z x y : Nat) (hx0 : idx (ru ++ [z]) 0 = some x) (hx1 : idx (ru ++ [z]) 1 = some y) (hr : ru ≠ []) (l1 : ru.length ≤ 15) (l2 : hu.length ≤ 15)
    (PL : ∀ w s, Built (ru ++ [z]) (hu ++ [z]) x y w s → stem w = s) (f : Str → Option At) :
    ∀ (is : List Int) (ws ss : List At) (m : Lm), LM (ns.map .int) (ru ++ [z]) (hu ++ [z]) m → (∀ i ∈ is, 0 ≤ i ∧ i ≤ 5) → ws.length + is.length ≤ 900 → ss.length + is.length ≤ 900 →
      ∃ (m' : Lm) (wl : List (List Nat)), LM (ns.map .int) (ru ++ [z]) (hu ++ [z]) m' ∧ wl.length = is.length ∧ (∀ w ∈ wl, w.length ≤ 40) ∧
        ∀ N, 310 + is.length ≤ N → fo (SS P es ep st) N (fScope (tp 25)) (Str.ofString "i") B452.1 (is.map .int) m ⟨false, 0, f, [ws, ss]⟩ = some (.next, m', ⟨false, 0, f, [ws ++ wl.map .str, ss ++ (wl.map stem).map .str]⟩) := by
  intro is
  induction is with
  | nil =>
    intro ws ss m hm _ _ _
    refine ⟨m, [], hm, rfl, (fun w h => by cases h), fun N hN => ?_⟩
    obtain ⟨n, rfl⟩ : ∃ n, N = n + 1 := ⟨N - 1, by omega⟩
    rw [List.map_nil, f_nil]
    simp only [List.map_nil, List.append_nil]
  | cons i is ih =>
    intro ws ss m hm hi hw hs
    obtain ⟨i0, i5⟩ := hi i (.head _)
    rw [List.length_cons] at hw hs
    obtain ⟨a, A⟩ := at_ok P es ep st ns hn (12 + 2 * i) (by omega) (by omega)
    obtain ⟨b, B⟩ := at_ok P es ep st ns hn (13 + 2 * i) (by omega) (by omega)
    obtain ⟨w, s, hb, hl, W⟩ := word_ok P es ep st ru hu z x y hx0 hx1 hr l1 l2 a b
    have es' := PL w s hb
    subst es'
    have hm' : LM (ns.map .int) (ru ++ [z]) (hu ++ [z]) (((m.set (Str.ofString "i") (.at (.int i))).set (Str.ofString "word") (.at (.str w))).set (Str.ofString "stem") (.at (.str (stem w)))) := by
      obtain ⟨h1, h2, h3, h4, h5⟩ := hm
      constructor <;> simp [a_set, ofS, h1, h2, h3, h4, h5]
    obtain ⟨m', wl, k1, k2, k3, k4⟩ := ih (ws ++ [.str w]) (ss ++ [.str (stem w)]) _ hm' (fun j hj => hi j (.tail _ hj)) (by rw [List.length_append, List.length_singleton]; omega) (by rw [List.length_append, List.length_singleton]; omega)
    refine ⟨m', w :: wl, k1, by rw [List.length_cons, List.length_cons, k2], fun v hv => ?_, fun N hN => ?_⟩
    · rcases List.mem_cons.mp hv with rfl | q
      · exact hl
      · exact k3 v q
    · rw [List.length_cons] at hN
      obtain ⟨n, rfl⟩ : ∃ n, N = n + 300 + 1 := ⟨N - 301, by omega⟩
      rw [List.map_cons, f_cons, turn P es ep st n i (by omega) (ns.map .int) (ru ++ [z]) (hu ++ [z]) w (stem w) a b m f ws ss hm (by omega) (by omega) A B W, bS, a_kFo]
      dsimp only
      rw [k4 (n + 300) (by omega)]
      simp only [List.map_cons, List.append_assoc, List.cons_append, List.nil_append]
end
def PlainLaw : Prop := ∀ (h m k : List Nat) (v z c x y : Nat), HeadOk h → (∀ a ∈ m, a ∈ cons21) → m.length ≤ 2 → (∀ a ∈ k, a ∈ cons21) → k.length ≤ 1 → v ∈ vows5 → z ∈ lasts19 → c ∈ hards20 →
  idx ((h ++ m ++ [v] ++ k) ++ [z]) 0 = some x → idx ((h ++ m ++ [v] ++ k) ++ [z]) 1 = some y → ∀ w s, Built ((h ++ m ++ [v] ++ k) ++ [z]) (([c, 101, 114] ++ m ++ [v] ++ k) ++ [z]) x y w s → stem w = s
def A452 : { b : List Stmt // L452.1.take 5 = b } := ⟨_, by unfold L452; dsimp only [List.take]⟩
def F5 : { b : Stmt // stAt L452.1 5 = b } := ⟨_, by unfold L452; dsimp only [stAt]⟩
def F6 : { b : Stmt // stAt L452.1 6 = b } := ⟨_, by unfold L452; dsimp only [stAt]⟩
def F7 : { b : Stmt // stAt L452.1 7 = b } := ⟨_, by unfold L452; dsimp only [stAt]⟩
theorem law_eq : L452.1 = A452.1 ++ [F5.1, F6.1, F7.1] := by unfold L452 A452 F5 F6 F7; rfl
theorem head_len {h : List Nat} (H : HeadOk h) : 1 ≤ h.length ∧ h.length ≤ 3 := by
  obtain ⟨v, _, rfl | ⟨c1, _, rfl⟩ | ⟨c1, _, c2, _, rfl⟩⟩ := H <;> (simp only [List.length_cons, List.length_nil]; omega)
section
variable (P : Params) (es : Array (Int × Value)) (ep : Nat) (st : SetTable)
theorem mls_of : (SS P es ep st).mls = [(Str.ofString "words"), (Str.ofString "stems")] := rfl
theorem G_ISt : globIn (SS P es ep st) (Str.ofString "IndonesianStemmer") = some (.ref (SS P es ep st).C) := by kernel_rfl
theorem s1 (n : Nat) (ns : List At) (h r : List Nat) (c : Nat) (v11 : Int) (hl : h.length ≤ 10) (rl : r.length ≤ 10) (f : Str → Option At)
    (H : ∀ N σ, 120 ≤ N → callF (SS P es ep st) N 410 [.list ns] σ = some (.at (.str h), σ)) (R : ∀ N σ, 120 ≤ N → callF (SS P es ep st) N 417 [.list ns] σ = some (.at (.str r), σ)) (A : ∀ N σ, 60 ≤ N → callF (SS P es ep st) N 403 [.list ns, .at (.int 11)] σ = some (.at (.int v11), σ)) (ic : idx hards20 (v11.fmod 20) = some c) (rest : List Stmt) (m : Lm) (hm : m (Str.ofString "script") = some (.list ns)) :
    exs (SS P es ep st) (n + 305) true (fScope (tp 25)) (A452.1 ++ rest) m ⟨false, 0, f, []⟩ =
      exs (SS P es ep st) (n + 300) true (fScope (tp 25)) rest (((((m.set (Str.ofString "rest") (.at (.str r))).set (Str.ofString "root") (.at (.str (h ++ r)))).set (Str.ofString "hard") (.at (.str ([c] ++ [101, 114] ++ r)))).set (Str.ofString "words") (.ml 0)).set (Str.ofString "stems") (.ml 1)) ⟨false, 0, f, [[], []]⟩ := by
  have gh := fun σ => ghards P es ep st σ
  have zb : big = 100000 := rfl
  have b1 : h.length + r.length ≤ big := by omega
  have b2 : (0 + 1) + (0 + 1 + 1) ≤ big := by omega
  have b3 : ([c] ++ [101, 114]).length + r.length ≤ big := by simp only [List.length_append, List.length_cons, List.length_nil]; omega
  have b4 : 1 + 2 ≤ big := by omega
  have b5 : 3 + r.length ≤ big := by omega
  clear zb
  wide_line with [A452, S452, N452, x_topB, x_topC, x_topL, G410, G417, G403, H, R, A, ic, gh, hm, na, b1, b2, b3, b4, b5, cs_er, mls_of, a_kXl, ats, List.cons_append, List.nil_append, List.append_nil]
theorem s5 (n : Nat) (ns : List At) (root hard : List Nat) (m m' : Lm) (f : Str → Option At) (ls : List (List At)) (E : ∀ N, 316 ≤ N → fo (SS P es ep st) N (fScope (tp 25)) (Str.ofString "i") B452.1 (([0, 1, 2, 3, 4, 5] : List Int).map .int) m ⟨false, 0, f, [[], []]⟩ = some (.next, m', ⟨false, 0, f, ls⟩)) :
    ex (SS P es ep st) (n + 330) true (fScope (tp 25)) F5.1 m ⟨false, 0, f, [[], []]⟩ = some (.next, m', ⟨false, 0, f, ls⟩) := by
  have hr : rngOk 0 6 = true := by decide
  unfold B452 at E
  dsimp only at E
  wide_line with [F5, S452, N452, x_range, G_range, r06, hr, E]
theorem s6 (n : Nat) (m : Lm) (f : Str → Option At) (ls : List (List At)) : ex (SS P es ep st) (n + 330) true (fScope (tp 25)) F6.1 m ⟨false, 0, f, ls⟩ = some (.next, m.set (Str.ofString "stemmer") .self, r0.sto ls) := by
  have I := init_ok P es ep st ls (n + 229)
  rw [putAll_r0, mS, show n + 229 + 100 = n + 329 from rfl] at I
  wide_line with [F6, S452, N452, x_topN, G_ISt, M35, I, a_kXn]
theorem s7 (n : Nat) (m : Lm) (w0 : List Nat) (wl : List (List Nat)) (r r1 r2 : St) (hw : m (Str.ofString "words") = some (.ml 0)) (hs : m (Str.ofString "stems") = some (.ml 1)) (ht : m (Str.ofString "stemmer") = some .self) (hb : wl.length + 1 ≤ 100)
    (E1 : ∀ N, 490 ≤ N → callF (SS P es ep st) N 194 [.self, .ml 0] (r.sto [(w0 :: wl).map .str, ((w0 :: wl).map stem).map .str]) = some (.list ((w0 :: wl).map (fun w => .str (stem w))), r1.sto [(w0 :: wl).map .str, ((w0 :: wl).map stem).map .str]))
    (E2 : ∀ N, 400 ≤ N → callF (SS P es ep st) N 189 [.self, .at (.str w0)] (r1.sto [(w0 :: wl).map .str, ((w0 :: wl).map stem).map .str]) = some (.at (.str (stem w0)), r2.sto [(w0 :: wl).map .str, ((w0 :: wl).map stem).map .str])) :
    ex (SS P es ep st) (n + 590) true (fScope (tp 25)) F7.1 m (r.sto [(w0 :: wl).map .str, ((w0 :: wl).map stem).map .str]) = some (.ret (.at (.bool true)), m, r2.sto [(w0 :: wl).map .str, ((w0 :: wl).map stem).map .str]) := by
  have e : (w0 :: wl).map (fun w => At.str (stem w)) = ((w0 :: wl).map stem).map .str := by rw [List.map_map]; rfl
  have c1 : strsAtL (((w0 :: wl).map stem).map .str) = some ((w0 :: wl).map stem) := strs_str _
  rw [e] at E1
  have i1 : idx ((w0 :: wl).map At.str) 0 = some (.str w0) := by
    rw [show (0 : Int) = ((0 : Nat) : Int) from rfl, idx_nat (by rw [List.length_map, List.length_cons]; have : big = 100000 := rfl; omega) (by rw [List.length_map, List.length_cons]; omega)]; rfl
  have i2 : idx (((w0 :: wl).map stem).map At.str) 0 = some (.str (stem w0)) := by
    rw [show (0 : Int) = ((0 : Nat) : Int) from rfl, idx_nat (by rw [List.length_map, List.length_map, List.length_cons]; have : big = 100000 := rfl; omega) (by rw [List.length_map, List.length_map, List.length_cons]; omega)]; rfl
  generalize (w0 :: wl).map At.str = X at *
  generalize hY : ((w0 :: wl).map stem).map At.str = Y at *
  generalize (w0 :: wl).map stem = Z at *
  wide_line with [F7, S452, N452, hw, hs, ht, M194, h194, M189, h189, E1, E2, c1, i1, i2, ls_of, atEq, List.getElem?_cons_zero, List.getElem?_cons_succ, List.isEmpty_cons, List.isEmpty_nil]
theorem run_ok (PL : PlainLaw) : RunOk := by
  intro P es ep st ns hn
  obtain ⟨h, hh, H⟩ := head_ok P es ep st ns hn
  obtain ⟨r, ⟨mm, k, v, z, m1, m2, k1, k2, hv, hz, rfl⟩, R⟩ := rest_ok P es ep st ns hn
  obtain ⟨v11, A11⟩ := at_ok P es ep st ns hn 11 (by decide) (by decide)
  obtain ⟨c, cm, ic⟩ := idx_mod' hards20 20 20 rfl rfl (by decide) (by decide) v11
  obtain ⟨g1, g2⟩ := head_len hh
  have er : h ++ (mm ++ [v] ++ k ++ [z]) = (h ++ mm ++ [v] ++ k) ++ [z] := by simp only [List.append_assoc]
  have eh : [c] ++ [101, 114] ++ (mm ++ [v] ++ k ++ [z]) = ([c, 101, 114] ++ mm ++ [v] ++ k) ++ [z] := by simp only [List.append_assoc, List.cons_append, List.nil_append]
  have len : ((h ++ mm ++ [v] ++ k) ++ [z]).length = h.length + mm.length + 1 + k.length + 1 := by simp only [List.length_append, List.length_singleton]
  have zb : big = 100000 := rfl
  obtain ⟨x, hx0⟩ : ∃ x, idx ((h ++ mm ++ [v] ++ k) ++ [z]) 0 = some x := by
    rw [show (0 : Int) = ((0 : Nat) : Int) from rfl, idx_nat (by omega) (by omega), List.getElem?_eq_getElem (by omega)]; exact ⟨_, rfl⟩
  obtain ⟨y, hx1⟩ : ∃ y, idx ((h ++ mm ++ [v] ++ k) ++ [z]) 1 = some y := by
    rw [show (1 : Int) = ((1 : Nat) : Int) from rfl, idx_nat (by omega) (by omega), List.getElem?_eq_getElem (by omega)]; exact ⟨_, rfl⟩
  have hne : h ++ mm ++ [v] ++ k ≠ [] := by
    intro e
    have := congrArg List.length e
    simp only [List.length_append, List.length_singleton, List.length_nil] at this
    omega
  let m0 : Lm := fun y => if y = (Str.ofString "script") then some (.list (ns.map .int)) else none
  let m5 : Lm := ((((m0.set (Str.ofString "rest") (.at (.str (mm ++ [v] ++ k ++ [z])))).set (Str.ofString "root") (.at (.str (h ++ (mm ++ [v] ++ k ++ [z]))))).set (Str.ofString "hard") (.at (.str ([c] ++ [101, 114] ++ (mm ++ [v] ++ k ++ [z]))))).set (Str.ofString "words") (.ml 0)).set (Str.ofString "stems") (.ml 1)
  have hm5 : LM (ns.map .int) ((h ++ mm ++ [v] ++ k) ++ [z]) (([c, 101, 114] ++ mm ++ [v] ++ k) ++ [z]) m5 := by
    constructor <;> simp only [m5, m0, a_set, ofS, String.reduceEq, iT, iF, er, eh]
  obtain ⟨m6, wl, q1, q2, q3, q4⟩ := loop P es ep st ns hn (h ++ mm ++ [v] ++ k) ([c, 101, 114] ++ mm ++ [v] ++ k) z x y hx0 hx1 hne (by simp only [List.length_append, List.length_singleton]; omega) (by simp only [List.length_append, List.length_singleton, List.length_cons, List.length_nil]; omega)
    (fun w s hb => PL h mm k v z c x y hh m1 m2 k1 k2 hv hz cm hx0 hx1 w s hb) (fun _ => none) [0, 1, 2, 3, 4, 5] [] [] m5 hm5 (by decide) (by decide) (by decide)
  obtain ⟨w0, wl, rfl⟩ : ∃ a b, wl = a :: b := by
    cases wl with
    | nil => cases q2
    | cons a b => exact ⟨a, b, rfl⟩
  have l6 : wl.length = 5 := by simpa using q2
  obtain ⟨r1, E1⟩ := stemWords_ok P es ep st [(w0 :: wl).map .str, ((w0 :: wl).map stem).map .str] (w0 :: wl) r0 0 rfl (fun w hw => by have := q3 w hw; omega) (by rw [List.length_cons]; omega)
  obtain ⟨r2, E2⟩ := stemWord P es ep st [(w0 :: wl).map .str, ((w0 :: wl).map stem).map .str] r1 w0 (by have := q3 w0 (.head _); omega)
  refine ⟨600, (Str.ofString "script"), L452.1, fScope (tp 25), m6.set (Str.ofString "stemmer") .self, r2.sto [(w0 :: wl).map .str, ((w0 :: wl).map stem).map .str], Nat.le_refl _, F452 P es ep st, ?_⟩
  rw [law_eq]
  show exs (SS P es ep st) (295 + 305) true (fScope (tp 25)) (A452.1 ++ [F5.1, F6.1, F7.1]) m0 ⟨false, 0, fun _ => none, []⟩ = _
  rw [s1 P es ep st 295 (ns.map .int) h (mm ++ [v] ++ k ++ [z]) c v11 (by omega) (by simp only [List.length_append, List.length_singleton]; omega) (fun _ => none) H R A11 ic _ m0 (by simp only [m0, iT])]
  rw [show 295 + 300 = 264 + 330 + 1 from rfl, exs_next (m' := m6) (σ' := ⟨false, 0, fun _ => none, [(w0 :: wl).map .str, ((w0 :: wl).map stem).map .str]⟩) (s5 P es ep st 264 (ns.map .int) [] [] m5 m6 (fun _ => none) _ (fun N hN => by have := q4 N (by simpa using hN); simpa only [List.nil_append] using this))]
  rw [show 264 + 330 = 263 + 330 + 1 from rfl, exs_next (s6 P es ep st 263 m6 (fun _ => none) _)]
  rw [show 263 + 330 = 2 + 590 + 1 from rfl, exs_ret (s7 P es ep st 2 (m6.set (Str.ofString "stemmer") .self) w0 wl r0 r1 r2 (by simp only [a_set, ofS, String.reduceEq, iF]; exact q1.words) (by simp only [a_set, ofS, String.reduceEq, iF]; exact q1.stems) (by simp only [a_set, iT]) (by omega) E1 E2)]
end
theorem nv_app : ∀ (a b : List Nat), nv (a ++ b) = nv a + nv b
  | [], b => by rw [List.nil_append]; simp [nv]
  | x :: a, b => by rw [List.cons_append, nv_cons, nv_cons, nv_app a b]; omega
theorem rv_full (w : List Nat) : rv w w.length 0 = w.reverse := by unfold rv; rw [List.take_length, List.drop_zero]
theorem rv_lb (w : List Nat) (lb : Nat) : rv w w.length lb = (w.drop lb).reverse := by unfold rv; rw [List.take_length]
theorem e0 : rvT TA0 = [([104, 97, 107], -1, 1), ([104, 97, 108], -1, 1), ([110, 117, 112], -1, 1)] := rfl
theorem e1 : rvT TA1 = [([97, 121, 110], -1, 1), ([117, 107], -1, 1), ([117, 109], -1, 1)] := rfl
theorem e2 : rvT TA2 = [([105], -1, 2), ([110, 97], -1, 1)] := rfl
theorem cut_of {T : List Row} {w : List Nat} {d : Nat} (h : (aT (rvT T) w.reverse).2 = some d) (m : Int) : cutW T w = w.take (w.length - d) ∧ cutM T w m = m - 1 := by
  unfold cutW cutM cutD
  rw [rv_full, h]
  exact ⟨rfl, rfl⟩
theorem cut_no {T : List Row} {w : List Nat} (h : (aT (rvT T) w.reverse).2 = none) (m : Int) : cutW T w = w ∧ cutM T w m = m := by
  unfold cutW cutM cutD
  rw [rv_full, h]
  exact ⟨rfl, rfl⟩
theorem take_app (x s : List Nat) (d : Nat) (h : s.length = d) : (x ++ s).take ((x ++ s).length - d) = x := by
  rw [List.length_append, h, Nat.add_sub_cancel]; exact List.take_left' rfl
theorem part_off (x p : List Nat) (hp : p = [107, 97, 104] ∨ p = [108, 97, 104] ∨ p = [112, 117, 110]) (m : Int) : cutW TA0 (x ++ p) = x ∧ cutM TA0 (x ++ p) m = m - 1 := by
  have h : (aT (rvT TA0) (x ++ p).reverse).2 = some 3 := by
    rw [e0, List.reverse_append]
    rcases hp with rfl | rfl | rfl <;> simp [aT, List.isPrefixOf]
  obtain ⟨a, b⟩ := cut_of h m
  refine ⟨?_, b⟩
  rw [a]
  exact take_app x p 3 (by rcases hp with rfl | rfl | rfl <;> rfl)
theorem pron_off (x p : List Nat) (hp : p = [110, 121, 97] ∨ p = [107, 117] ∨ p = [109, 117]) (m : Int) : cutW TA1 (x ++ p) = x ∧ cutM TA1 (x ++ p) m = m - 1 := by
  have h : (aT (rvT TA1) (x ++ p).reverse).2 = some p.length := by
    rw [e1, List.reverse_append]
    rcases hp with rfl | rfl | rfl <;> simp [aT, List.isPrefixOf]
  obtain ⟨a, b⟩ := cut_of h m
  refine ⟨?_, b⟩
  rw [a]
  exact take_app x p _ rfl
def st2 (x : List Nat) : List Nat := if (nv x : Int) ≤ 2 then x else if cutM TA1 x (nv x) ≤ 2 then cutW TA1 x else tail2 (cutW TA1 x) (cutM TA1 x (nv x))
def st3 (x : List Nat) : List Nat := if (nv x : Int) ≤ 2 then x else tail2 x (nv x)
theorem stem_part (x p : List Nat) (hp : p = [107, 97, 104] ∨ p = [108, 97, 104] ∨ p = [112, 117, 110]) (hx : 2 ≤ nv x) : stem (x ++ p) = st2 x := by
  have np : nv p = 1 := by rcases hp with rfl | rfl | rfl <;> decide
  have nn : ((nv (x ++ p) : Nat) : Int) = (nv x : Int) + 1 := by rw [nv_app, np]; rfl
  obtain ⟨a, b⟩ := part_off x p hp ((nv x : Int) + 1)
  unfold stem tail1 st2
  rw [nn, if_neg (by omega), a, b, show (nv x : Int) + 1 - 1 = nv x by omega]
theorem stem_nopart (x : List Nat) (h : (aT (rvT TA0) x.reverse).2 = none) : stem x = st2 x := by
  obtain ⟨a, b⟩ := cut_no h (nv x)
  unfold stem tail1 st2
  rw [a, b]
  split
  · rfl
  · rfl
theorem st2_pron (x p : List Nat) (hp : p = [110, 121, 97] ∨ p = [107, 117] ∨ p = [109, 117]) (hx : 2 ≤ nv x) : st2 (x ++ p) = st3 x := by
  have np : nv p = 1 := by rcases hp with rfl | rfl | rfl <;> decide
  have nn : ((nv (x ++ p) : Nat) : Int) = (nv x : Int) + 1 := by rw [nv_app, np]; rfl
  obtain ⟨a, b⟩ := pron_off x p hp ((nv x : Int) + 1)
  unfold st2 st3
  rw [nn, if_neg (by omega), a, b, show (nv x : Int) + 1 - 1 = nv x by omega]
theorem st2_nopron (x : List Nat) (h : (aT (rvT TA1) x.reverse).2 = none) : st2 x = st3 x := by
  obtain ⟨a, b⟩ := cut_no h (nv x)
  unfold st2 st3
  rw [a, b]
  split
  · rfl
  · rfl
theorem part_not (x p : List Nat) (hp : p = [110, 121, 97] ∨ p = [107, 117] ∨ p = [109, 117]) : (aT (rvT TA0) (x ++ p).reverse).2 = none := by
  rw [e0, List.reverse_append]
  rcases hp with rfl | rfl | rfl <;> simp [aT, List.isPrefixOf]
theorem sufx_i (p : Int) (lb : Nat) (u : List Nat) (z : Nat) (hl : lb ≤ u.length) : sufx p lb (u ++ [z] ++ [105]) (u ++ [z] ++ [105]).length = if 2 < p ∨ z = 115 then none else some 1 := by
  have hd : rv (u ++ [z] ++ [105]) (u ++ [z] ++ [105]).length lb = 105 :: z :: (u.drop lb).reverse := by
    rw [rv_lb, List.append_assoc, List.drop_append_of_le_length hl, List.reverse_append]; rfl
  have ha : aT (rvT TA2) (105 :: z :: (u.drop lb).reverse) = (2, some 1) := by rw [e2]; simp [aT, List.isPrefixOf]
  have hc : (u ++ [z] ++ [105])[(u ++ [z] ++ [105]).length - 2]? = some z := by
    simp
  have ll : lb + 1 < (u ++ [z] ++ [105]).length := by simp; omega
  unfold sufx
  rw [hd, ha, hc]
  by_cases q : 2 < p
  · simp [q]
  · by_cases q2 : z = 115
    · simp [q, q2]; omega
    · simp [q, q2]
theorem sufx_an (p : Int) (lb : Nat) (u : List Nat) (z : Nat) (hl : lb ≤ u.length) : sufx p lb (u ++ [z] ++ [97, 110]) (u ++ [z] ++ [97, 110]).length = if (p ≠ 3 ∧ p ≠ 2) ∧ z = 107 then some 3 else if p = 1 then none else some 2 := by
  have hd : rv (u ++ [z] ++ [97, 110]) (u ++ [z] ++ [97, 110]).length lb = 110 :: 97 :: z :: (u.drop lb).reverse := by
    rw [rv_lb, List.append_assoc, List.drop_append_of_le_length hl, List.reverse_append]; rfl
  have ha : aT (rvT TA2) (110 :: 97 :: z :: (u.drop lb).reverse) = (1, some 2) := by rw [e2]; simp [aT, List.isPrefixOf]
  have hc : (u ++ [z] ++ [97, 110])[(u ++ [z] ++ [97, 110]).length - 3]? = some z := by
    simp
  have ll : lb + 2 < (u ++ [z] ++ [97, 110]).length := by simp; omega
  unfold sufx
  rw [hd, ha, hc]
  simp only [ll, true_and, Option.some.injEq, if_true, reduceCtorEq, if_false]
theorem sufx_no (p : Int) (lb : Nat) (w : List Nat) (h : (aT (rvT TA2) (w.drop lb).reverse).2 = none) : sufx p lb w w.length = none := by
  unfold sufx
  rw [rv_lb, h, if_pos rfl]
theorem tails_cases {t : List Nat} (h : At.str t ∈ tailsL) : t = [] ∨ t = [107, 97, 110] ∨ t = [97, 110] ∨ t = [105] := by
  simp only [tailsL, List.mem_cons, List.not_mem_nil, or_false, At.str.injEq] at h; exact h
theorem suf_bh (u : List Nat) (z : Nat) (p : Int) (lb : Nat) (t : List Nat) (ht : At.str t ∈ tailsL) (hl : lb ≤ u.length) (z1 : z ≠ 105) (z2 : z ≠ 110) :
    ((bh u z p t).1 = true → ∃ d, sufx p lb (u ++ [z] ++ t) (u ++ [z] ++ t).length = some d ∧ (u ++ [z] ++ t).take ((u ++ [z] ++ t).length - d) = (bh u z p t).2) ∧
    ((bh u z p t).1 = false → sufx p lb (u ++ [z] ++ t) (u ++ [z] ++ t).length = none ∧ (bh u z p t).2 = u ++ [z] ++ t) := by
  rcases tails_cases ht with rfl | rfl | rfl | rfl
  · have b : bh u z p [] = (false, u ++ [z]) := by unfold bh; simp
    rw [b]
    refine ⟨fun h => (by cases h), fun _ => ⟨?_, (List.append_nil _).symm⟩⟩
    rw [List.append_nil]
    apply sufx_no
    rw [List.drop_append_of_le_length hl, List.reverse_append, e2]
    simp [aT, List.isPrefixOf, Ne.symm z1, Ne.symm z2]
  · have s := sufx_an p lb (u ++ [z]) 107 (by simp; omega)
    rw [show u ++ [z] ++ [107] ++ [97, 110] = u ++ [z] ++ [107, 97, 110] by simp] at s
    rw [s]
    have t2 : (u ++ [z] ++ [107, 97, 110]).take ((u ++ [z] ++ [107, 97, 110]).length - 2) = u ++ [z] ++ [107] := by
      rw [show u ++ [z] ++ [107, 97, 110] = (u ++ [z] ++ [107]) ++ [97, 110] by simp]
      exact take_app _ _ 2 rfl
    have t3 : (u ++ [z] ++ [107, 97, 110]).take ((u ++ [z] ++ [107, 97, 110]).length - 3) = u ++ [z] := take_app _ _ 3 rfl
    unfold bh
    rw [if_pos rfl]
    by_cases q3 : p = 3
    · subst q3
      refine ⟨fun _ => ⟨2, by simp, by rw [t2]; simp⟩, fun h => ?_⟩
      simp at h
    by_cases q2 : p = 2
    · subst q2
      refine ⟨fun _ => ⟨2, by simp, by rw [t2]; simp⟩, fun h => ?_⟩
      simp at h
    refine ⟨fun _ => ⟨3, by simp [q2, q3], by rw [t3]; simp [q2, q3]⟩, fun h => ?_⟩
    simp [q2, q3] at h
  · have s := sufx_an p lb u z hl
    rw [s]
    have t2 : (u ++ [z] ++ [97, 110]).take ((u ++ [z] ++ [97, 110]).length - 2) = u ++ [z] := take_app _ _ 2 rfl
    have t3 : (u ++ [z] ++ [97, 110]).take ((u ++ [z] ++ [97, 110]).length - 3) = u := by
      rw [show u ++ [z] ++ [97, 110] = u ++ [z, 97, 110] by simp]
      exact take_app _ _ 3 rfl
    unfold bh
    rw [if_neg (by decide), if_pos rfl]
    by_cases q3 : p = 3
    · subst q3
      refine ⟨fun _ => ⟨2, by simp, by rw [t2]; simp⟩, fun h => ?_⟩
      simp at h
    by_cases q2 : p = 2
    · subst q2
      refine ⟨fun _ => ⟨2, by simp, by rw [t2]; simp⟩, fun h => ?_⟩
      simp at h
    by_cases k : z = 107
    · refine ⟨fun _ => ⟨3, by simp [q2, q3, k], by rw [t3]; simp [q2, q3, k]⟩, fun h => ?_⟩
      simp [q2, q3, k] at h
    by_cases q1 : p = 1
    · subst q1
      refine ⟨fun h => ?_, fun _ => ⟨by simp [k], by simp [k]⟩⟩
      simp [k] at h
    · refine ⟨fun _ => ⟨2, by simp [q1, q2, q3, k], by rw [t2]; simp [q1, q2, q3, k]⟩, fun h => ?_⟩
      simp [q1, q2, q3, k] at h
  · have s := sufx_i p lb u z hl
    rw [s]
    have t1 : (u ++ [z] ++ [105]).take ((u ++ [z] ++ [105]).length - 1) = u ++ [z] := take_app _ _ 1 rfl
    unfold bh
    rw [if_neg (by decide), if_neg (by decide), if_pos rfl]
    by_cases q : 2 < p ∨ z = 115
    · rw [if_pos q, if_pos q]
      exact ⟨fun h => (by cases h), fun _ => ⟨rfl, rfl⟩⟩
    · rw [if_neg q, if_neg q]
      exact ⟨fun _ => ⟨1, rfl, t1⟩, fun h => (by cases h)⟩
inductive Out (u : List Nat) (z : Nat) : List Nat → Int → List Nat → List Nat → Prop
  | a (t) (h1 : firstP (u ++ [z] ++ t) = none) (h2 : secondP 0 0 (u ++ [z] ++ t) = none) : Out u z (u ++ [z]) 0 [] t
  | b (F p t lb) (hl : lb ≤ u.length) (hn : nv F = 3) (h1 : firstP (F ++ t) = some (u ++ [z] ++ t, p, lb)) : Out u z F p [] t
  | c (F p t) (hn : nv F = 3) (h1 : firstP (F ++ t) = none) (h2 : secondP 0 0 (F ++ t) = some (u ++ [z] ++ t, p)) : Out u z F p [] t
  | d (F p I t) (hn : nv F = 4) (h1 : firstP (F ++ t) = some (I ++ (u ++ [z]) ++ t, p, 0)) (h2 : (bh u z p t).1 = true → ∃ q, secondP 0 p (I ++ (bh u z p t).2) = some ((bh u z p t).2, q)) : Out u z F p I t
theorem bh_app (I u : List Nat) (z : Nat) (p : Int) (t : List Nat) : (bh (I ++ u) z p t).1 = (bh u z p t).1 ∧ (bh (I ++ u) z p t).2 = I ++ (bh u z p t).2 := by
  unfold bh
  simp only [List.append_assoc]
  repeat' split
  all_goals exact ⟨rfl, rfl⟩
theorem bh_t {u : List Nat} {z : Nat} {p : Int} {t : List Nat} (h : (bh u z p t).1 = true) : t ≠ [] := by
  rintro rfl
  unfold bh at h
  simp at h
theorem nv_t {t : List Nat} (ht : At.str t ∈ tailsL) (h : t ≠ []) : nv t = 1 := by
  rcases tails_cases ht with rfl | rfl | rfl | rfl
  · exact absurd rfl h
  all_goals decide
theorem out_ok {u : List Nat} {z : Nat} {F I t : List Nat} {p : Int} (ht : At.str t ∈ tailsL) (hk : nv (u ++ [z]) = 2) (z1 : z ≠ 105) (z2 : z ≠ 110) (h : Out u z F p I t) :
    st3 (F ++ t) = if (bh u z p t).1 = true then (bh u z p t).2 else I ++ (bh u z p t).2 := by
  unfold st3
  by_cases h0 : t = []
  · subst h0
    have bf : (bh u z p []).1 = false := by
      cases q : (bh u z p []).1 with
      | false => rfl
      | true => exact absurd rfl (bh_t q)
    have b2 := ((suf_bh u z p 0 [] ht (Nat.zero_le _) z1 z2).2 bf).2
    rw [bf, if_neg (show ¬ (false = true) by decide), b2]
    rw [List.append_nil, List.append_nil]
    cases h with
    | a _ h1 h2 => rw [hk, if_pos (by decide)]; rfl
    | b _ _ _ lb hl hn h1 =>
      rw [hn, if_neg (by decide)]
      unfold tail2
      rw [List.append_nil] at h1
      rw [h1]
      dsimp only
      rw [if_pos (by decide)]
      simp
    | c _ _ _ hn h1 h2 =>
      rw [hn, if_neg (by decide)]
      unfold tail2
      rw [List.append_nil] at h1 h2
      rw [h1]
      dsimp only
      rw [h2]
      dsimp only
      rw [if_pos (by decide)]
      simp
    | d _ _ _ _ hn h1 h2 =>
      rw [hn, if_neg (by decide)]
      unfold tail2
      rw [List.append_nil] at h1
      rw [h1]
      dsimp only
      rw [if_neg (by decide)]
      obtain ⟨k1, k2⟩ := bh_app I u z p []
      have s := ((suf_bh (I ++ u) z p 0 [] ht (Nat.zero_le _) z1 z2).2 (by rw [k1]; exact bf)).1
      rw [List.append_nil] at s ⊢
      rw [← List.append_assoc, s]
  · have nt := nv_t ht h0
    rw [nv_app, nt]
    cases h with
    | a _ h1 h2 =>
      rw [hk, if_neg (by decide)]
      unfold tail2
      rw [h1]
      dsimp only
      rw [h2]
      dsimp only
      obtain ⟨s1, s2⟩ := suf_bh u z 0 0 t ht (Nat.zero_le _) z1 z2
      cases q : (bh u z 0 t).1 with
      | true => obtain ⟨d, e1, e2⟩ := s1 q; rw [e1]; simpa using e2
      | false => obtain ⟨e1, e2⟩ := s2 q; rw [e1, if_neg (show ¬ (false = true) by decide), e2]; rfl
    | b _ _ _ lb hl hn h1 =>
      rw [hn, if_neg (by decide)]
      unfold tail2
      rw [h1]
      dsimp only
      rw [if_neg (by decide)]
      obtain ⟨s1, s2⟩ := suf_bh u z p lb t ht hl z1 z2
      cases q : (bh u z p t).1 with
      | true =>
        obtain ⟨d, e1, e2⟩ := s1 q
        rw [e1]
        dsimp only
        rw [if_pos (by decide), if_pos rfl, e2]
      | false => obtain ⟨e1, e2⟩ := s2 q; rw [e1, if_neg (show ¬ (false = true) by decide), e2]; rfl
    | c _ _ _ hn h1 h2 =>
      rw [hn, if_neg (by decide)]
      unfold tail2
      rw [h1]
      dsimp only
      rw [h2]
      dsimp only
      rw [if_neg (by decide)]
      obtain ⟨s1, s2⟩ := suf_bh u z p 0 t ht (Nat.zero_le _) z1 z2
      cases q : (bh u z p t).1 with
      | true => obtain ⟨d, e1, e2⟩ := s1 q; rw [e1]; simpa using e2
      | false => obtain ⟨e1, e2⟩ := s2 q; rw [e1, if_neg (show ¬ (false = true) by decide), e2]; rfl
    | d _ _ _ _ hn h1 h2 =>
      rw [hn, if_neg (by decide)]
      unfold tail2
      rw [h1]
      dsimp only
      rw [if_neg (by decide)]
      obtain ⟨k1, k2⟩ := bh_app I u z p t
      obtain ⟨s1, s2⟩ := suf_bh (I ++ u) z p 0 t ht (Nat.zero_le _) z1 z2
      rw [k1, k2, show I ++ u ++ [z] = I ++ (u ++ [z]) by simp] at s1 s2
      cases q : (bh u z p t).1 with
      | true =>
        obtain ⟨d, e1, e2⟩ := s1 q
        rw [e1]
        dsimp only
        rw [if_neg (by decide), e2]
        obtain ⟨q', h3⟩ := h2 q
        rw [h3, if_pos rfl]
      | false => obtain ⟨e1, e2⟩ := s2 q; rw [e1, if_neg (show ¬ (false = true) by decide), e2]
theorem cut1 (x : Nat) (l : List Nat) : (x :: l)[0]? = some x := rfl
theorem fp_di (R : List Nat) : firstP ([100, 105] ++ R) = some (R, 1, 0) := by
  have h : aT TA3 ([100, 105] ++ R) = (1, some 2) := by simp [aT, TA3, List.isPrefixOf]
  unfold firstP
  rw [h]
  simp
theorem fp_ter (R : List Nat) : firstP ([116, 101, 114] ++ R) = some (R, 1, 0) := by
  have h : aT TA3 ([116, 101, 114] ++ R) = (1, some 3) := by simp [aT, TA3, List.isPrefixOf]
  unfold firstP
  rw [h]
  simp
theorem fp_ke (R : List Nat) : firstP ([107, 101] ++ R) = some (R, 3, 0) := by
  have h : aT TA3 ([107, 101] ++ R) = (3, some 2) := by simp [aT, TA3, List.isPrefixOf]
  unfold firstP
  rw [h]
  simp
theorem fp_meng (R : List Nat) : firstP ([109, 101, 110, 103] ++ R) = some (R, 1, 0) := by
  have h : aT TA3 ([109, 101, 110, 103] ++ R) = (1, some 4) := by simp [aT, TA3, List.isPrefixOf]
  unfold firstP
  rw [h]
  simp
theorem fp_peng (R : List Nat) : firstP ([112, 101, 110, 103] ++ R) = some (R, 3, 0) := by
  have h : aT TA3 ([112, 101, 110, 103] ++ R) = (3, some 4) := by simp [aT, TA3, List.isPrefixOf]
  unfold firstP
  rw [h]
  simp
theorem fp_mem_v (x : Nat) (tl : List Nat) (hv : isV x) : firstP ([109, 101, 109] ++ x :: tl) = some (112 :: x :: tl, 1, 1) := by
  have h : aT TA3 ([109, 101, 109] ++ x :: tl) = (5, some 3) := by simp [aT, TA3, List.isPrefixOf]
  have hq : vAt ([109, 101, 109] ++ x :: tl) 3 = true := vAt_iff.mpr ⟨x, rfl, hv⟩
  unfold firstP
  rw [h]
  simp only [hq]
  simp
theorem fp_mem_c (x : Nat) (tl : List Nat) (hv : ¬ isV x) : firstP ([109, 101, 109] ++ x :: tl) = some (x :: tl, 1, 0) := by
  have h : aT TA3 ([109, 101, 109] ++ x :: tl) = (5, some 3) := by simp [aT, TA3, List.isPrefixOf]
  have hq : ¬ vAt ([109, 101, 109] ++ x :: tl) 3 = true := fun z => by
    obtain ⟨y, h1, h2⟩ := vAt_iff.mp z
    cases h1
    exact hv h2
  unfold firstP
  rw [h]
  simp only [hq]
  simp
theorem fp_pem_v (x : Nat) (tl : List Nat) (hv : isV x) : firstP ([112, 101, 109] ++ x :: tl) = some (112 :: x :: tl, 3, 1) := by
  have h : aT TA3 ([112, 101, 109] ++ x :: tl) = (6, some 3) := by simp [aT, TA3, List.isPrefixOf]
  have hq : vAt ([112, 101, 109] ++ x :: tl) 3 = true := vAt_iff.mpr ⟨x, rfl, hv⟩
  unfold firstP
  rw [h]
  simp only [hq]
  simp
theorem fp_pem_c (x : Nat) (tl : List Nat) (hv : ¬ isV x) : firstP ([112, 101, 109] ++ x :: tl) = some (x :: tl, 3, 0) := by
  have h : aT TA3 ([112, 101, 109] ++ x :: tl) = (6, some 3) := by simp [aT, TA3, List.isPrefixOf]
  have hq : ¬ vAt ([112, 101, 109] ++ x :: tl) 3 = true := fun z => by
    obtain ⟨y, h1, h2⟩ := vAt_iff.mp z
    cases h1
    exact hv h2
  unfold firstP
  rw [h]
  simp only [hq]
  simp
theorem fp_meny (x : Nat) (tl : List Nat) (hv : isV x) : firstP ([109, 101, 110, 121] ++ x :: tl) = some (115 :: x :: tl, 1, 1) := by
  have h : aT TA3 ([109, 101, 110, 121] ++ x :: tl) = (2, some 3) := by simp [aT, TA3, List.isPrefixOf]
  have hq : ([109, 101, 110, 121] ++ x :: tl)[3]? = some 121 ∧ vAt ([109, 101, 110, 121] ++ x :: tl) (3 + 1) = true := ⟨rfl, vAt_iff.mpr ⟨x, rfl, hv⟩⟩
  unfold firstP
  rw [h]
  simp only [hq]
  simp
theorem fp_men_c (x : Nat) (tl : List Nat) (h1 : x ≠ 121) (h2 : x ≠ 103) : firstP ([109, 101, 110] ++ x :: tl) = some (x :: tl, 1, 0) := by
  have h : aT TA3 ([109, 101, 110] ++ x :: tl) = (2, some 3) := by simp [aT, TA3, List.isPrefixOf, h2, Ne.symm h2]
  have hq : ¬ (([109, 101, 110] ++ x :: tl)[3]? = some 121 ∧ vAt ([109, 101, 110] ++ x :: tl) (3 + 1) = true) := fun z => h1 (Option.some.inj z.1)
  unfold firstP
  rw [h]
  simp only [hq]
  simp
theorem fp_peny (x : Nat) (tl : List Nat) (hv : isV x) : firstP ([112, 101, 110, 121] ++ x :: tl) = some (115 :: x :: tl, 3, 1) := by
  have h : aT TA3 ([112, 101, 110, 121] ++ x :: tl) = (4, some 3) := by simp [aT, TA3, List.isPrefixOf]
  have hq : ([112, 101, 110, 121] ++ x :: tl)[3]? = some 121 ∧ vAt ([112, 101, 110, 121] ++ x :: tl) (3 + 1) = true := ⟨rfl, vAt_iff.mpr ⟨x, rfl, hv⟩⟩
  unfold firstP
  rw [h]
  simp only [hq]
  simp
theorem fp_pen_c (x : Nat) (tl : List Nat) (h1 : x ≠ 121) (h2 : x ≠ 103) : firstP ([112, 101, 110] ++ x :: tl) = some (x :: tl, 3, 0) := by
  have h : aT TA3 ([112, 101, 110] ++ x :: tl) = (4, some 3) := by simp [aT, TA3, List.isPrefixOf, h2, Ne.symm h2]
  have hq : ¬ (([112, 101, 110] ++ x :: tl)[3]? = some 121 ∧ vAt ([112, 101, 110] ++ x :: tl) (3 + 1) = true) := fun z => h1 (Option.some.inj z.1)
  unfold firstP
  rw [h]
  simp only [hq]
  simp
theorem fp_me (x : Nat) (tl : List Nat) (h1 : x ≠ 109) (h2 : x ≠ 110) : firstP ([109, 101] ++ x :: tl) = some (x :: tl, 1, 0) := by
  have h : aT TA3 ([109, 101] ++ x :: tl) = (1, some 2) := by simp [aT, TA3, List.isPrefixOf, Ne.symm h1, Ne.symm h2]
  unfold firstP
  rw [h]
  simp
theorem fp_no {w : List Nat} (h : (aT TA3 w).2 = none) : firstP w = none := by
  unfold firstP
  rw [aT_none h]
theorem sp_no {w : List Nat} {p : Int} (h : (aT TA4 w).2 = none) : secondP 0 p w = none := by
  unfold secondP
  rw [List.drop_zero, aT_none h]
theorem fp_none (x y : Nat) (tl : List Nat) (h1 : y ≠ 101) (h2 : y ≠ 105) : firstP (x :: y :: tl) = none := by
  apply fp_no
  simp [aT, TA3, List.isPrefixOf, Ne.symm h1, Ne.symm h2]
theorem fp_none_v (x : Nat) (l : List Nat) (h1 : x ≠ 100) (h2 : x ≠ 107) (h3 : x ≠ 109) (h4 : x ≠ 112) (h5 : x ≠ 116) : firstP (x :: l) = none := by
  apply fp_no
  simp [aT, TA3, List.isPrefixOf, Ne.symm h1, Ne.symm h2, Ne.symm h3, Ne.symm h4, Ne.symm h5]
theorem fp_pe_none (x : Nat) (tl : List Nat) (h1 : x ≠ 109) (h2 : x ≠ 110) : firstP ([112, 101] ++ x :: tl) = none := by
  apply fp_no
  simp [aT, TA3, List.isPrefixOf, Ne.symm h1, Ne.symm h2]
theorem sp_none (x y : Nat) (tl : List Nat) (p : Int) (h1 : y ≠ 101) : secondP 0 p (x :: y :: tl) = none := by
  apply sp_no
  simp [aT, TA4, List.isPrefixOf, Ne.symm h1]
theorem sp_none_v (x : Nat) (l : List Nat) (p : Int) (h1 : x ≠ 98) (h2 : x ≠ 112) : secondP 0 p (x :: l) = none := by
  apply sp_no
  simp [aT, TA4, List.isPrefixOf, Ne.symm h1, Ne.symm h2]
theorem at_pe (R : List Nat) : aT TA4 ([112, 101] ++ R) = (1, some 2) := by simp [aT, TA4, List.isPrefixOf]
theorem at_be (R : List Nat) : aT TA4 ([98, 101] ++ R) = (2, some 2) := by simp [aT, TA4, List.isPrefixOf]
theorem sp_per (R : List Nat) (p : Int) : secondP 0 p ([112, 101, 114] ++ R) = some (R, 2) := by
  unfold secondP
  rw [List.drop_zero, show [112, 101, 114] ++ R = [112, 101] ++ (114 :: R) from rfl, at_pe]
  simp
theorem sp_ber (R : List Nat) (p : Int) : secondP 0 p ([98, 101, 114] ++ R) = some (R, 4) := by
  unfold secondP
  rw [List.drop_zero, show [98, 101, 114] ++ R = [98, 101] ++ (114 :: R) from rfl, at_be]
  simp
theorem sp_pel (R : List Nat) (p : Int) : secondP 0 p ([112, 101, 108] ++ ([97, 106, 97, 114] ++ R)) = some ([97, 106, 97, 114] ++ R, p) := by
  unfold secondP
  rw [List.drop_zero, show [112, 101, 108] ++ ([97, 106, 97, 114] ++ R) = [112, 101] ++ (108 :: ([97, 106, 97, 114] ++ R)) from rfl, at_pe]
  simp [List.isPrefixOf]
theorem sp_bel (R : List Nat) (p : Int) : secondP 0 p ([98, 101, 108] ++ ([97, 106, 97, 114] ++ R)) = some ([97, 106, 97, 114] ++ R, 4) := by
  unfold secondP
  rw [List.drop_zero, show [98, 101, 108] ++ ([97, 106, 97, 114] ++ R) = [98, 101] ++ (108 :: ([97, 106, 97, 114] ++ R)) from rfl, at_be]
  simp [List.isPrefixOf]
theorem sp_pe (x : Nat) (tl : List Nat) (p : Int) (h1 : x ≠ 114) (h2 : ¬ (x = 108 ∧ [97, 106, 97, 114].isPrefixOf tl = true)) : secondP 0 p ([112, 101] ++ x :: tl) = some (x :: tl, 2) := by
  unfold secondP
  rw [List.drop_zero, at_pe]
  dsimp only
  rw [if_pos rfl, show ([112, 101] ++ x :: tl)[0 + 2]? = some x from rfl, show List.drop (0 + 2 + 1) ([112, 101] ++ x :: tl) = tl from rfl, if_neg (fun z => h1 (Option.some.inj z)), if_neg (fun z => h2 ⟨Option.some.inj z.1, z.2⟩)]
  rfl
theorem sp_beC (x : Nat) (R : List Nat) (p : Int) (h1 : x ≠ 114) (h2 : ¬ isV x) : secondP 0 p ([98, 101] ++ x :: 101 :: 114 :: R) = some (x :: 101 :: 114 :: R, 4) := by
  unfold secondP
  rw [List.drop_zero, at_be]
  dsimp only
  have hv : vAt ([98, 101] ++ x :: 101 :: 114 :: R) (0 + 2) = false := by
    cases q : vAt ([98, 101] ++ x :: 101 :: 114 :: R) (0 + 2) with
    | false => rfl
    | true =>
      obtain ⟨y, a, b⟩ := vAt_iff.mp q
      cases a
      exact absurd b h2
  have hc : cAt ([98, 101] ++ x :: 101 :: 114 :: R) (0 + 2) = true := by
    unfold cAt
    rw [hv]
    simp
  rw [if_neg (by decide), show ([98, 101] ++ x :: 101 :: 114 :: R)[0 + 2]? = some x from rfl, show List.drop (0 + 2 + 1) ([98, 101] ++ x :: 101 :: 114 :: R) = 101 :: 114 :: R from rfl, if_neg (fun z => h1 (Option.some.inj z)), if_neg (fun z => by have := z.2; simp [List.isPrefixOf] at this), if_pos ⟨hc, by simp [List.isPrefixOf]⟩]
  rfl
theorem cons_nv : ∀ x ∈ cons21, ¬ isV x := by decide
theorem h19_nv : ∀ x ∈ H19, ¬ isV x := by decide
theorem hards_nv : ∀ x ∈ hards20, ¬ isV x := by decide
theorem lasts_nv : ∀ x ∈ lasts19, ¬ isV x := by decide
theorem aou_v : ∀ x ∈ aou3, isV x := by decide
theorem vows_v : ∀ x ∈ vows5, isV x := by decide
theorem nv_cons_0 {x : Nat} {l : List Nat} (h : ¬ isV x) : nv (x :: l) = nv l := by rw [nv_cons, if_neg h]; omega
theorem nv_cons_1 {x : Nat} {l : List Nat} (h : isV x) : nv (x :: l) = 1 + nv l := by rw [nv_cons, if_pos h]
theorem nv_all : ∀ {l : List Nat}, (∀ x ∈ l, ¬ isV x) → nv l = 0
  | [], _ => rfl
  | x :: l, h => by rw [nv_cons_0 (h x (.head _))]; exact nv_all (fun y hy => h y (.tail _ hy))
theorem nv_one {x : Nat} (h : isV x) : nv [x] = 1 := by rw [nv_cons_1 h]; rfl
theorem nv_zero {x : Nat} (h : ¬ isV x) : nv [x] = 0 := by rw [nv_cons_0 h]; rfl
theorem lasts_ne : ∀ z ∈ lasts19, z ≠ 105 ∧ z ≠ 110 ∧ z ≠ 104 ∧ z ≠ 97 ∧ z ≠ 117 := by decide
structure RF (root u : List Nat) (z x y : Nat) (tl : List Nat) : Prop where
  e : root = u ++ [z]
  e' : root = x :: y :: tl
  hz : z ∈ lasts19
  hn : nv root = 2
  hx : x ∈ aou3 ∨ (x ∈ H19 ∧ (y ∈ aou3 ∨ y ∈ cons21) ∧ 2 ≤ tl.length)
  hu : 1 ≤ u.length
theorem not_ajar {root u : List Nat} {z x y : Nat} {tl : List Nat} (H : RF root u z x y tl) (h : ¬ root.take 5 = [108, 97, 106, 97, 114]) (t : List Nat) : ¬ (x = 108 ∧ [97, 106, 97, 114].isPrefixOf (y :: tl ++ t) = true) := by
  rintro ⟨rfl, hp⟩
  have l2 : 2 ≤ tl.length := by
    rcases H.hx with q | ⟨_, _, q⟩
    · exact absurd q (by decide)
    · exact q
  obtain ⟨s, hs⟩ := List.isPrefixOf_iff_prefix.mp hp
  obtain ⟨a, b, tl', rfl⟩ : ∃ a b tl', tl = a :: b :: tl' := by
    match tl, l2 with
    | a :: b :: tl', _ => exact ⟨a, b, tl', rfl⟩
  simp only [List.cons_append, List.nil_append, List.cons.injEq] at hs
  obtain ⟨rfl, rfl, rfl, hs⟩ := hs
  cases tl' with
  | nil =>
    have e := H.e.symm.trans H.e'
    have := congrArg List.getLast? e
    simp at this
    have hz := H.hz
    rw [this] at hz
    exact absurd hz (by decide)
  | cons d tl' =>
    simp only [List.cons_append, List.cons.injEq] at hs
    apply h
    rw [H.e', ← hs.1]
    rfl
def Good (F kernel : List Nat) (p : Int) (I : List Nat) : Prop := ∃ u z F', kernel = u ++ [z] ∧ z ∈ lasts19 ∧ nv (u ++ [z]) = 2 ∧ F = F' ++ [z] ∧ 2 ≤ nv F ∧ ∀ t, At.str t ∈ tailsL → Out u z F p I t
theorem h19_all : ∀ x ∈ H19, ¬ x = 114 → ¬ x ∈ [108, 119, 121] → x ∈ [97, 111, 117, 103, 104, 107, 113, 120] ∨ x ∈ [112, 115] ∨ x ∈ [98, 102, 118, 112] ∨ x ∈ [99, 100, 106, 115, 116, 122] := by decide
theorem aou_all : ∀ x ∈ aou3, x ∈ [97, 111, 117, 103, 104, 107, 113, 120] := by decide
theorem nasal_no : ∀ x, x ∈ aou3 ∨ x ∈ H19 → x ≠ 109 ∧ x ≠ 110 := by
  rintro x (h | h)
  · revert x; decide
  · revert x; decide
theorem bfvp_c : ∀ x ∈ [98, 102, 118, 112], ¬ isV x := by decide
theorem cdj_c : ∀ x ∈ [99, 100, 106, 115, 116, 122], x ≠ 121 ∧ x ≠ 103 := by decide
theorem aou_no : ∀ x ∈ aou3, x ≠ 100 ∧ x ≠ 107 ∧ x ≠ 109 ∧ x ≠ 112 ∧ x ≠ 116 ∧ x ≠ 98 ∧ x ≠ 101 ∧ x ≠ 105 := by decide
theorem cons_no : ∀ x ∈ cons21, x ≠ 101 ∧ x ≠ 105 := by decide
theorem h19_not : ∀ x ∈ H19, x ∉ aou3 := by decide
theorem ps_h19 : ∀ x ∈ [112, 115], x ∉ aou3 := by decide
section
variable {root u : List Nat} {z x y : Nat} {tl : List Nat}
theorem app3 (a b t : List Nat) : a ++ b ++ t = a ++ (b ++ t) := List.append_assoc a b t
theorem good_b (H : RF root u z x y tl) (f : List Nat) (p : Int) (lb : Nat) (hl : lb ≤ 1) (hf : nv f = 1) (h : ∀ t, firstP (f ++ (root ++ t)) = some (root ++ t, p, lb)) : Good (f ++ root) root p [] := by
  refine ⟨u, z, f ++ u, H.e, H.hz, by rw [← H.e]; exact H.hn, by rw [H.e, List.append_assoc], by rw [nv_app, hf, H.hn]; decide, fun t ht => .b _ _ _ lb ?_ ?_ ?_⟩
  · have := H.hu; omega
  · rw [nv_app, hf, H.hn]
  · rw [app3, h t, ← H.e]
theorem good_c (H : RF root u z x y tl) (f : List Nat) (p : Int) (hf : nv f = 1) (h1 : ∀ t, firstP (f ++ (root ++ t)) = none) (h : ∀ t, secondP 0 0 (f ++ (root ++ t)) = some (root ++ t, p)) : Good (f ++ root) root p [] := by
  refine ⟨u, z, f ++ u, H.e, H.hz, by rw [← H.e]; exact H.hn, by rw [H.e, List.append_assoc], by rw [nv_app, hf, H.hn]; decide, fun t ht => .c _ _ _ ?_ ?_ ?_⟩
  · rw [nv_app, hf, H.hn]
  · rw [app3, h1 t]
  · rw [app3, h t, ← H.e]
theorem good_d (H : RF root u z x y tl) (f I : List Nat) (p : Int) (hf : nv f = 1) (hI : nv I = 1) (h : ∀ X, firstP (f ++ (I ++ X)) = some (I ++ X, p, 0)) (h2 : ∀ X, ∃ q, secondP 0 p (I ++ X) = some (X, q)) : Good (f ++ (I ++ root)) root p I := by
  refine ⟨u, z, f ++ (I ++ u), H.e, H.hz, by rw [← H.e]; exact H.hn, by rw [H.e]; simp only [List.append_assoc], by rw [nv_app, nv_app, hf, hI, H.hn]; decide, fun t ht => .d _ _ _ _ ?_ ?_ ?_⟩
  · rw [nv_app, nv_app, hf, hI, H.hn]
  · rw [app3, app3, h, ← H.e]; simp only [List.append_assoc]
  · exact fun _ => h2 _
theorem good_snd (H : RF root u z x y tl) (f : List Nat) (p : Int) (hf : nv f = 1)
   (a1 : ∀ R, firstP (f ++ [110, 103] ++ R) = some (R, p, 0)) (a2 : ∀ x tl, isV x → firstP (f ++ [109] ++ x :: tl) = some (112 :: x :: tl, p, 1)) (a3 : ∀ x tl, isV x → firstP (f ++ [110, 121] ++ x :: tl) = some (115 :: x :: tl, p, 1))
   (a4 : ∀ x tl, ¬ isV x → firstP (f ++ [109] ++ x :: tl) = some (x :: tl, p, 0)) (a5 : ∀ x tl, x ≠ 121 → x ≠ 103 → firstP (f ++ [110] ++ x :: tl) = some (x :: tl, p, 0))
   (a6 : (x ∈ aou3 ∨ x ∈ H19) → ¬ x ∈ [97, 111, 117, 103, 104, 107, 113, 120] → ¬ x ∈ [112, 115] → ¬ x ∈ [98, 102, 118, 112] → ¬ x ∈ [99, 100, 106, 115, 116, 122] → ∀ tl, firstP (f ++ x :: tl) = some (x :: tl, p, 0)) : Good (sndd f root x y) root p [] := by
  have hx' : x ∈ aou3 ∨ x ∈ H19 := H.hx.imp id (·.1)
  unfold sndd
  by_cases c1 : x ∈ [97, 111, 117, 103, 104, 107, 113, 120]
  · rw [if_pos c1]
    exact good_b H _ p 0 (by decide) (by rw [nv_app, hf]; rfl) (fun t => a1 _)
  rw [if_neg c1]
  by_cases c2 : x ∈ [112, 115] ∧ y ∈ vows5
  · rw [if_pos c2]
    obtain ⟨c2, c3⟩ := c2
    have e1 : root.drop 1 = y :: tl := by rw [H.e']; rfl
    have xc : ¬ isV x := by
      rcases hx' with q | q
      · exact absurd q (ps_h19 x c2)
      · exact h19_nv x q
    have n1 : nv (y :: tl) = 2 := by have := H.hn; rwa [H.e', nv_cons_0 xc] at this
    obtain ⟨u', hu'⟩ : ∃ u', y :: tl = u' ++ [z] := by
      have e := H.e.symm.trans H.e'
      have hu := H.hu
      match u, hu with
      | a :: u1, _ =>
        rw [List.cons_append, List.cons.injEq] at e
        exact ⟨u1, e.2.symm⟩
    have done : ∀ s : List Nat, nv s = 0 → (∀ tl, firstP (f ++ s ++ y :: tl) = some (x :: y :: tl, p, 1)) → Good (f ++ s ++ root.drop 1) root p [] := by
      intro s hs h
      refine ⟨u, z, f ++ s ++ u', H.e, H.hz, by rw [← H.e]; exact H.hn, by rw [e1, hu']; simp only [List.append_assoc], by rw [e1, nv_app, nv_app, hf, hs, n1]; decide, fun t ht => .b _ _ _ 1 H.hu ?_ ?_⟩
      · rw [e1, nv_app, nv_app, hf, hs, n1]
      · rw [e1, app3, List.cons_append, h, ← H.e, H.e']; rfl
    simp only [List.mem_cons, List.not_mem_nil, or_false] at c2
    rcases c2 with q | q
    · rw [if_pos q]
      exact done _ rfl (fun tl => by rw [q]; exact a2 y tl (vows_v y c3))
    · rw [if_neg (by omega)]
      exact done _ rfl (fun tl => by rw [q]; exact a3 y tl (vows_v y c3))
  rw [if_neg c2]
  by_cases c3 : x ∈ [98, 102, 118, 112]
  · rw [if_pos c3]
    exact good_b H _ p 0 (by decide) (by rw [nv_app, hf]; rfl) (fun t => by rw [H.e']; exact a4 x _ (bfvp_c x c3))
  rw [if_neg c3]
  by_cases c4 : x ∈ [99, 100, 106, 115, 116, 122]
  · rw [if_pos c4]
    exact good_b H _ p 0 (by decide) (by rw [nv_app, hf]; rfl) (fun t => by rw [H.e']; exact a5 x _ (cdj_c x c4).1 (cdj_c x c4).2)
  rw [if_neg c4]
  have c5 : ¬ x ∈ [112, 115] := by
    intro q
    simp only [List.mem_cons, List.not_mem_nil, or_false] at q c3 c4
    omega
  exact good_b H _ p 0 (by decide) hf (fun t => by rw [H.e']; exact a6 hx' c1 c5 c3 c4 _)
end
theorem ajar_good (F : List Nat) (p : Int) (hn : nv F = 3) (hF : ∃ F', F = F' ++ [114]) (h1 : ∀ t, firstP (F ++ t) = none) (h2 : ∀ t, secondP 0 0 (F ++ t) = some ([97, 106, 97, 114] ++ t, p)) : Good F [97, 106, 97, 114] p [] := by
  obtain ⟨F', hF⟩ := hF
  exact ⟨[97, 106, 97], 114, F', rfl, by decide, by decide, hF, by omega, fun t ht => .c _ _ _ hn (h1 t) (h2 t)⟩
theorem fr_good {root u hu hard : List Nat} {z x y ch : Nat} {tl : List Nat} (H : RF root u z x y tl) (hh : hard = [ch, 101, 114] ++ hu ++ [z]) (hc : ch ∈ hards20) (hn : nv hard = 2) {F kernel I : List Nat} {p : Int} (h : Fr root hard x y F kernel p I) : Good F kernel p I := by
  have hx' : x ∈ aou3 ∨ x ∈ H19 := H.hx.imp id (·.1)
  obtain ⟨nx1, nx2⟩ := nasal_no x hx'
  cases h with
  | k0 =>
    refine ⟨u, z, u, H.e, H.hz, by rw [← H.e]; exact H.hn, H.e, by rw [H.hn]; decide, fun t ht => ?_⟩
    have E : root ++ t = x :: y :: (tl ++ t) := by rw [H.e']; rfl
    have q : firstP (root ++ t) = none ∧ secondP 0 0 (root ++ t) = none := by
      rw [E]
      rcases H.hx with q | ⟨_, q | q, _⟩
      · obtain ⟨b1, b2, b3, b4, b5, b6, _⟩ := aou_no x q
        exact ⟨fp_none_v x _ b1 b2 b3 b4 b5, sp_none_v x _ 0 b6 b4⟩
      · obtain ⟨_, _, _, _, _, _, b1, b2⟩ := aou_no y q
        exact ⟨fp_none x y _ b1 b2, sp_none x y _ 0 b1⟩
      · obtain ⟨b1, b2⟩ := cons_no y q
        exact ⟨fp_none x y _ b1 b2, sp_none x y _ 0 b1⟩
    rw [H.e] at q ⊢
    exact .a t q.1 q.2
  | k1 => exact good_b H _ 1 0 (by decide) rfl (fun t => fp_di _)
  | k2 => exact good_b H _ 1 0 (by decide) rfl (fun t => fp_ter _)
  | k3 => exact good_b H _ 3 0 (by decide) rfl (fun t => fp_ke _)
  | k4 => exact good_snd H [109, 101] 1 rfl fp_meng fp_mem_v fp_meny fp_mem_c fp_men_c (fun _ _ _ _ _ tl => fp_me x tl nx1 nx2)
  | k5r h => exact good_c H [112, 101, 114] 2 rfl (fun t => fp_pe_none 114 _ (by decide) (by decide)) (fun t => sp_per _ 0)
  | k5l h =>
    have e5 : ∃ s, root = [108, 97, 106, 97, 114] ++ s := ⟨root.drop 5, by rw [← h]; exact (List.take_append_drop 5 root).symm⟩
    obtain ⟨s, e5⟩ := e5
    obtain ⟨u', hu'⟩ : ∃ u', u = 108 :: u' := by
      have e := H.e.symm.trans e5
      have hu := H.hu
      match u, hu with
      | a :: u1, _ =>
        rw [List.cons_append, List.cons_append, List.cons.injEq] at e
        exact ⟨u1, by rw [e.1]⟩
    have ed : root.drop 1 = u' ++ [z] := by rw [H.e, hu']; rfl
    have ed2 : root.drop 1 = [97, 106, 97, 114] ++ s := by rw [e5]; rfl
    have n1 : nv (u' ++ [z]) = 2 := by
      have := H.hn
      rw [H.e, hu', List.cons_append, nv_cons_0 (by decide)] at this
      exact this
    have er : root = 108 :: (u' ++ [z]) := by rw [H.e, hu']; rfl
    refine ⟨u', z, [112, 101] ++ u, ed, H.hz, n1, by rw [H.e, List.append_assoc], by rw [nv_app, H.hn]; decide, fun t ht => .c _ _ _ ?_ ?_ ?_⟩
    · rw [nv_app, H.hn]; rfl
    · rw [er]; exact fp_pe_none 108 _ (by decide) (by decide)
    · rw [← ed, ed2, e5]
      exact sp_pel (s ++ t) 0
  | k5w h h2 =>
    refine good_c H [112, 101] 2 rfl (fun t => by rw [H.e']; exact fp_pe_none x _ nx1 nx2) (fun t => ?_)
    have := not_ajar H h t
    rw [H.e']
    refine sp_pe x _ 0 ?_ this
    simp only [List.mem_cons, List.not_mem_nil, or_false] at h2
    omega
  | k5s h1 h2 =>
    refine good_snd H [112, 101] 3 rfl fp_peng fp_pem_v fp_peny fp_pem_c fp_pen_c (fun hq q1 q2 q3 q4 => ?_)
    exfalso
    rcases hq with q | q
    · exact q1 (aou_all x q)
    · rcases h19_all x q h1 h2 with a | a | a | a
      · exact q1 a
      · exact q2 a
      · exact q3 a
      · exact q4 a
  | k6 => exact good_c H [98, 101, 114] 4 rfl (fun t => fp_none_v 98 _ (by decide) (by decide) (by decide) (by decide) (by decide)) (fun t => sp_ber _ 0)
  | k7 => exact good_c H [112, 101, 114] 2 rfl (fun t => fp_pe_none 114 _ (by decide) (by decide)) (fun t => sp_per _ 0)
  | k8 => exact good_d H [109, 101, 109] [112, 101, 114] 1 rfl rfl (fun X => fp_mem_c 112 _ (by decide)) (fun X => ⟨_, sp_per X 1⟩)
  | k9 => exact good_d H [100, 105] [112, 101, 114] 1 rfl rfl (fun X => fp_di _) (fun X => ⟨_, sp_per X 1⟩)
  | k10 => exact good_d H [107, 101] [98, 101, 114] 3 rfl rfl (fun X => fp_ke _) (fun X => ⟨_, sp_ber X 3⟩)
  | k11 =>
    refine ⟨[ch, 101, 114] ++ hu, z, [98, 101] ++ ([ch, 101, 114] ++ hu), hh, H.hz, by rw [← hh]; exact hn, by rw [hh]; simp only [List.append_assoc], by rw [nv_app, hn]; decide, fun t ht => .c _ _ _ ?_ ?_ ?_⟩
    · rw [nv_app, hn]; rfl
    · exact fp_none_v 98 _ (by decide) (by decide) (by decide) (by decide) (by decide)
    · rw [hh]
      have c1 : ∀ x ∈ hards20, x ≠ 114 := by decide
      exact sp_beC ch _ 0 (c1 ch hc) (hards_nv ch hc)
  | k12a => exact ajar_good _ 4 (by decide) ⟨[98, 101, 108, 97, 106, 97], rfl⟩ (fun t => fp_none_v 98 _ (by decide) (by decide) (by decide) (by decide) (by decide)) (fun t => sp_bel t 0)
  | k12b => exact ajar_good _ 0 (by decide) ⟨[112, 101, 108, 97, 106, 97], rfl⟩ (fun t => fp_pe_none 108 _ (by decide) (by decide)) (fun t => sp_pel t 0)
  | k12c =>
    refine ⟨[97, 106, 97], 114, [109, 101, 109, 112, 101, 108, 97, 106, 97], rfl, by decide, by decide, rfl, by decide, fun t ht => .d _ _ _ _ (by decide) ?_ ?_⟩
    · exact fp_mem_c 112 _ (by decide)
    · intro hb
      rcases tails_cases ht with rfl | rfl | rfl | rfl
      · exact absurd hb (by decide)
      · exact ⟨_, sp_pel [] 1⟩
      · exact absurd hb (by decide)
      · exact ⟨_, sp_pel [] 1⟩
theorem part_none_of (F' : List Nat) (z : Nat) (hz : z ∈ lasts19) (t : List Nat) (ht : At.str t ∈ tailsL) : (aT (rvT TA0) (F' ++ [z] ++ t).reverse).2 = none ∧ (aT (rvT TA1) (F' ++ [z] ++ t).reverse).2 = none := by
  obtain ⟨z1, z2, z3, z4, z5⟩ := lasts_ne z hz
  rw [e0, e1, List.reverse_append, List.reverse_append]
  rcases tails_cases ht with rfl | rfl | rfl | rfl <;> simp [aT, List.isPrefixOf, Ne.symm z1, Ne.symm z2, Ne.symm z3, Ne.symm z4, Ne.symm z5]
theorem good_stem {F kernel I : List Nat} {p : Int} (G : Good F kernel p I) {u : List Nat} {z : Nat} (hk : kernel = u ++ [z]) {t o q : List Nat} (ht : At.str t ∈ tailsL) (ho : At.str o ∈ ownersL) (hq : At.str q ∈ partsL) :
    stem (F ++ t ++ o ++ q) = if (bh u z p t).1 = true then (bh u z p t).2 else I ++ (bh u z p t).2 := by
  obtain ⟨u', z', F', e1, hz, hn, hF, nF, O⟩ := G
  obtain ⟨ea, eb⟩ := List.append_inj' (hk.symm.trans e1) rfl
  cases eb
  subst ea
  obtain ⟨z1, z2, z3, z4, z5⟩ := lasts_ne z hz
  rw [← out_ok ht hn z1 z2 (O t ht)]
  obtain ⟨P0, P1⟩ := part_none_of F' z hz t ht
  rw [← hF] at P0 P1
  have n2 : 2 ≤ nv (F ++ t) := by rw [nv_app]; omega
  have ho' : o = [] ∨ (o = [107, 117] ∨ o = [109, 117] ∨ o = [110, 121, 97]) := by
    simp only [ownersL, List.mem_cons, List.not_mem_nil, or_false, At.str.injEq] at ho; exact ho
  have hq' : q = [] ∨ (q = [107, 97, 104] ∨ q = [108, 97, 104] ∨ q = [112, 117, 110]) := by
    simp only [partsL, List.mem_cons, List.not_mem_nil, or_false, At.str.injEq] at hq; exact hq
  rcases ho' with rfl | ho'
  · rw [List.append_nil]
    rcases hq' with rfl | hq'
    · rw [List.append_nil, stem_nopart _ P0, st2_nopron _ P1]
    · rw [stem_part _ _ hq' n2, st2_nopron _ P1]
  · have ho2 : o = [110, 121, 97] ∨ o = [107, 117] ∨ o = [109, 117] := by
      rcases ho' with h | h | h
      · exact .inr (.inl h)
      · exact .inr (.inr h)
      · exact .inl h
    rcases hq' with rfl | hq'
    · rw [List.append_nil, stem_nopart _ (part_not _ _ ho2), st2_pron _ _ ho2 n2]
    · rw [stem_part _ _ hq' (by rw [nv_app]; omega), st2_pron _ _ ho2 n2]
theorem plain : PlainLaw := by
  intro h m k v z ch x y hh hm1 hm2 hk1 hk2 hv hz hc hx0 hx1 w s hb
  obtain ⟨F, kernel, sort, inner, t, o, p, u, z', hF, hk, tm, om, pm, rfl, rfl⟩ := hb
  have zb : big = 100000 := rfl
  have cm : nv m = 0 := nv_all (fun a ha => cons_nv a (hm1 a ha))
  have ck : nv k = 0 := nv_all (fun a ha => cons_nv a (hk1 a ha))
  have cv : nv [v] = 1 := nv_one (vows_v v hv)
  have cz : nv [z] = 0 := nv_zero (lasts_nv z hz)
  have hlen : ((h ++ m ++ [v] ++ k) ++ [z]).length = h.length + m.length + 1 + k.length + 1 := by simp only [List.length_append, List.length_singleton]
  obtain ⟨g1, g2⟩ := head_len hh
  have ix : ∀ {i : Nat} {a : Nat}, i < ((h ++ m ++ [v] ++ k) ++ [z]).length → idx ((h ++ m ++ [v] ++ k) ++ [z]) (i : Int) = some a → ((h ++ m ++ [v] ++ k) ++ [z])[i]? = some a := fun {i a} hi e => by
    rwa [idx_nat (by omega) hi] at e
  have x0 := ix (i := 0) (by omega) hx0
  have x1 := ix (i := 1) (by omega) hx1
  have R : ∃ tl, RF ((h ++ m ++ [v] ++ k) ++ [z]) (h ++ m ++ [v] ++ k) z x y tl := by
    have nh : nv h = 1 := by
      obtain ⟨v0, hv0, rfl | ⟨c1, q1, rfl⟩ | ⟨c1, q1, c2, q2, rfl⟩⟩ := hh
      · exact nv_one (aou_v v0 hv0)
      · rw [nv_cons_0 (h19_nv c1 q1)]; exact nv_one (aou_v v0 hv0)
      · rw [nv_cons_0 (h19_nv c1 q1), nv_cons_0 (cons_nv c2 q2)]; exact nv_one (aou_v v0 hv0)
    have hn : nv ((h ++ m ++ [v] ++ k) ++ [z]) = 2 := by rw [nv_app, nv_app, nv_app, nv_app, nh, cm, cv, ck, cz]
    obtain ⟨a, b, tl, e⟩ : ∃ a b tl, (h ++ m ++ [v] ++ k) ++ [z] = a :: b :: tl := by
      match q : (h ++ m ++ [v] ++ k) ++ [z] with
      | [] => rw [q] at hlen; simp at hlen
      | [_] => rw [q] at hlen; simp at hlen
      | a :: b :: tl => exact ⟨a, b, tl, rfl⟩
    rw [e] at x0 x1
    have ea : a = x := Option.some.inj x0
    have eb : b = y := Option.some.inj x1
    subst ea eb
    refine ⟨tl, rfl, e, hz, hn, ?_, by simp only [List.length_append, List.length_singleton]; omega⟩
    have el : tl.length + 2 = h.length + m.length + 1 + k.length + 1 := by rw [← hlen, e]; simp
    obtain ⟨v0, hv0, rfl | ⟨c1, q1, rfl⟩ | ⟨c1, q1, c2, q2, rfl⟩⟩ := hh
    · simp only [List.cons_append, List.nil_append, List.cons.injEq] at e
      rw [← e.1]
      exact .inl hv0
    · simp only [List.cons_append, List.nil_append, List.cons.injEq] at e
      rw [← e.1, ← e.2.1]
      simp only [List.length_cons, List.length_nil] at el
      exact .inr ⟨q1, .inl hv0, by omega⟩
    · simp only [List.cons_append, List.nil_append, List.cons.injEq] at e
      rw [← e.1, ← e.2.1]
      simp only [List.length_cons, List.length_nil] at el
      exact .inr ⟨q1, .inr q2, by omega⟩
  obtain ⟨tl, R⟩ := R
  have eh : ([ch, 101, 114] ++ m ++ [v] ++ k) ++ [z] = [ch, 101, 114] ++ (m ++ [v] ++ k) ++ [z] := by simp only [List.append_assoc]
  have hn : nv (([ch, 101, 114] ++ m ++ [v] ++ k) ++ [z]) = 2 := by
    rw [nv_app, nv_app, nv_app, nv_app, cm, cv, ck, cz, nv_cons_0 (hards_nv ch hc)]
    rfl
  exact good_stem (fr_good R eh hc hn hF) hk tm om pm
theorem law_holds : PySem.Challenge.rw_af0030_01.Holds := holds_of_call (callOk_of_run (run_ok plain))
end
end Ind01
theorem PySem.Challenge.cw_af0030_01_holds : PySem.Challenge.rw_af0030_01.Holds := by
  exact Ind01.law_holds
