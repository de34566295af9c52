import PyProof.Rows.All
import Wide.All
import OpenK.AllK
import Wide.FinOn
import PyProof.ToksMono
import KE.KDictSum
import PyProof.Rows.SortStr
import KE.KSortTup
import KE.KLam
import PyProof.Rows.PlainStore
import PySem.Challenge.RW_wz0020_01
set_option Elab.async false
set_option genInjectivity false
set_option genSizeOfSpec false
section
open PySem PySem.W PyProof.Rows PySem.Calls
set_option maxRecDepth 100000
set_option linter.unusedVariables false
namespace Mine
/-! runs of the top, as far as they have come -/
inductive TGo (p : Program) (w : World) (n₀ : Nat) (ann : Option Value) : Shared → Thread → Shared → Thread → Prop
  | refl (s : Shared) (t : Thread) : TGo p w n₀ ann s t s t
  | step {s s' s'' : Shared} {t t' t'' : Thread} : through t = false → stepOk n₀ ann t = true → step (denote table) p w s t = .go s' t' → TGo p w n₀ ann s' t' s'' t'' → TGo p w n₀ ann s t s'' t''
section
variable {p : Program} {w : World} {n₀ : Nat} {ann : Option Value}
theorem TGo.trans {s s' s'' : Shared} {t t' t'' : Thread} (h : TGo p w n₀ ann s t s' t') (k : TGo p w n₀ ann s' t' s'' t'') : TGo p w n₀ ann s t s'' t'' := by
  induction h with
  | refl => exact k
  | step a b d _ ih => exact .step a b d (ih k)
theorem go_of_topGo : ∀ {n : Nat} {s s' : Shared} {t t' : Thread}, topGo table p w n₀ ann n s t = some (s', t') → TGo p w n₀ ann s t s' t'
  | 0, s, s', t, t', h => by
    obtain ⟨rfl, rfl⟩ : s = s' ∧ t = t' := by simpa [topGo] using h
    exact .refl _ _
  | n + 1, s, s', t, t', h => by
    unfold topGo at h
    cases ht : through t with
    | true => rw [ht] at h; cases h
    | false =>
      rw [ht] at h
      cases hk : stepOk n₀ ann t with
      | false => rw [hk] at h; cases h
      | true =>
        rw [hk] at h
        cases hs : step (denote table) p w s t with
        | halt o s₂ => rw [hs] at h; cases h
        | go s₂ t₂ => rw [hs] at h; exact .step ht hk hs (go_of_topGo h)
variable {α : Type} {B : List Frame} {K' : α → Sem Fin} {H' : Value → Sem Fin} {gd : Bool → Bool} {lv : List Value → List Value} {res : α → Flow}
theorem go_of_seg (hB : splitAtGen B = none) : ∀ (n : Nat) {s s' : Shared} {t t' : Thread} {f : Flow} {c' : Code} {p' : Pos}, Rel2 (fun a => .pure (.done (res a))) K' deadEnd H' gd lv B t t' →
    segRun table p w n₀ ann B.length n s t = some (f, s', c', p') → ∃ a, res a = f ∧ TGo p w n₀ ann s t' s' ⟨K' a, c', p', B⟩
  | 0, _, _, _, _, _, _, _, _, h => by simp [segRun] at h
  | n + 1, s, s', ⟨cur, code, pos, st⟩, ⟨cur', code', pos', st'⟩, f, c', p', R, h => by
    obtain ⟨e1, e2, R⟩ := R
    dsimp only at e1 e2 R
    subst e1 e2
    unfold segRun at h
    cases he : endAt B.length ⟨cur, code, pos, st⟩ with
    | some g =>
      rw [he] at h
      obtain ⟨rfl, rfl, rfl, rfl⟩ : g = f ∧ s = s' ∧ code = c' ∧ pos = p' := by simpa using h
      rcases R with ⟨rfl, rfl, x, rfl, rfl⟩ | ⟨rfl, F⟩
      · cases x with
        | pure a =>
          simp only [endAt, Sem.wrap, beq_self_eq_true, Option.some.injEq] at he
          exact ⟨a, he, .refl _ _⟩
        | _ => simp [endAt, Sem.wrap] at he
      · have l := F.longer.1
        have : (st.length == B.length) = false := beq_eq_false_iff_ne.mpr (Nat.ne_of_gt l)
        simp only [endAt, this] at he
        cases he
    | none =>
      rw [he] at h
      cases hk : stepOk n₀ ann ⟨cur, code, pos, st⟩ with
      | false => rw [hk] at h; cases h
      | true =>
        rw [hk] at h
        cases hs : step (denote table) p w s ⟨cur, code, pos, st⟩ with
        | halt o s₂ => rw [hs] at h; cases h
        | go s₂ t₂ =>
          rw [hs] at h
          have key : through ⟨cur', code, pos, st'⟩ = false ∧ stepOk n₀ ann ⟨cur', code, pos, st'⟩ = true ∧ ∃ t₂', step (denote table) p w s ⟨cur', code, pos, st'⟩ = .go s₂ t₂' ∧ Rel2 (fun a => .pure (.done (res a))) K' deadEnd H' gd lv B t₂ t₂' := by
            rcases R with ⟨rfl, rfl, x, rfl, rfl⟩ | ⟨rfl, F⟩
            · have hp : ∀ a, x ≠ .pure a := by
                rintro a rfl
                simp [endAt, Sem.wrap] at he
              have hr : ∀ e, x ≠ .raise e := by
                rintro e rfl
                obtain ⟨heap, gens, drawn, toks, os⟩ := s
                simp only [Sem.wrap, step] at hs
                cases hs
              obtain ⟨k1, k2⟩ := okOuter (K' := K') (H' := H') hp hr hk
              exact ⟨k2, k1, step_outer hB hp hs⟩
            · obtain ⟨k1, k2⟩ := okInner hB F hk
              exact ⟨k2, k1, step_inner hB F hs⟩
          obtain ⟨k1, k2, t₂', k3, R'⟩ := key
          obtain ⟨a, ha, hg⟩ := go_of_seg hB n R' h
          exact ⟨a, ha, .step k1 k2 k3 hg⟩
theorem TGo.sched {s s' : Shared} {t t' : Thread} (h : TGo p w n₀ ann s t s' t') (hr : s.asleep) : (∃ n, schedN (denote table) p w n (.single s t) = .running (.single s' t')) ∧ s'.heap.life = s.heap.life ∧ s'.os = s.os ∧
    ∀ b o, b < n₀ → b ≠ mainNs → b ≠ cStatics → ann ≠ some (.ref b) → s.heap.get? b = some o → s'.heap.get? b = some o := by
  induction h with
  | refl => exact ⟨⟨0, rfl⟩, rfl, rfl, fun _ _ _ _ _ _ e => e⟩
  | @step s s₂ s' t t₂ t' ht hk hs _ ih =>
    obtain ⟨hc, hk⟩ := Bool.and_eq_true_iff.mp hk
    have hl := step_life (denote table) p w s s₂ t t₂ hs
    obtain ⟨⟨n, hn⟩, l, os, fr⟩ := ih (Shared.asleep_of_life hl hr)
    have e : sstep (denote table) p w (.single s t) = .go (.single s₂ t₂) := by
      rcases sstep_single (denote table) p w s t hc hr with e | e
      · rw [e, hs]; rfl
      · rw [hs] at e; cases e
    refine ⟨⟨n + 1, by simp only [schedN, e]; exact hn⟩, l.trans hl, os.trans (step_os_same hs (by revert hk; cases t.cur <;> simp)), fun b o h1 h2 h3 h4 h5 => fr b o h1 h2 h3 h4 ?_⟩
    rw [PySem.step_heap (denote table) p w s s₂ t t₂ hs]
    revert hk
    cases t.cur <;> intro hk <;> try exact h5
    case update a _ f _ =>
      have ne : b ≠ a := by
        rintro rfl
        simp only [Bool.or_eq_true, Nat.ble_eq, beq_iff_eq] at hk
        rcases hk with ((q | q) | q) | q
        · exact absurd h1 (Nat.not_lt.mpr q)
        · exact h2 q
        · exact h3 q
        · exact h4 q
      exact (Heap.get?_update_ne _ _ _ _ ne).trans h5
    case alloc x _ => exact Heap.get?_push_of_some x h5
theorem go_block {n : Nat} {env : Env} {q pos p' : Pos} {s s' : Shared} {b : List Stmt} {c c' : Code} {f : Flow} (h : segRun table p w n₀ ann 1 n s (blockOf b env c pos [topFrame q]) = some (f, s', c', p')) :
    TGo p w n₀ ann s ⟨denote table (.body b env), c, pos, [topFrame q]⟩ s' (restOf b env c' p' [topFrame q]) := by
  obtain ⟨a, _, hg⟩ := go_of_seg (res := fun _ : Unit => Flow.next) (K' := fun _ => (execs b env).wrap doneF (leaveH env) id id) (H' := Sem.raise) (B := [topFrame q]) rfl n (t := blockOf b env c pos [topFrame q])
    (t' := ⟨(blockStart b env).wrap (fun _ => (execs b env).wrap doneF (leaveH env) id id) .raise id id, c, pos, [topFrame q]⟩) ⟨rfl, rfl, .inl ⟨rfl, rfl, _, rfl, rfl⟩⟩ h
  rw [body_wrap]
  exact hg
theorem go_app {n : Nat} {env : Env} {q pos p' : Pos} {s s' : Shared} {l rest : List Stmt} {c c' : Code} (h : segRun table p w n₀ ann 1 n s (piecesOf l env c pos [topFrame q]) = some (.next, s', c', p')) :
    TGo p w n₀ ann s (restOf (l ++ rest) env c pos [topFrame q]) s' (restOf rest env c' p' [topFrame q]) := by
  obtain ⟨a, ha, hg⟩ := go_of_seg (res := id) (K' := fun f => match f with | .next => (execs rest env).wrap doneF (leaveH env) id id | f => doneF f) (H' := leaveH env) (B := [topFrame q]) rfl n (t := piecesOf l env c pos [topFrame q])
    (t' := ⟨(execs l env).wrap (fun f => match f with | .next => (execs rest env).wrap doneF (leaveH env) id id | f => doneF f) (leaveH env) id id, c, pos, [topFrame q]⟩) ⟨rfl, rfl, .inl ⟨rfl, rfl, _, rfl, rfl⟩⟩ h
  have ha : a = .next := ha
  subst ha
  unfold restOf
  rw [execs_app_wrap]
  exact hg
end
end Mine
end
section
open PySem PySem.W PyProof.Rows PySem.Calls
set_option maxRecDepth 100000
set_option linter.unusedVariables false
namespace Mine
/-! from a proof about the rest of the top to its run -/
section
variable {prog : Program} {w : World}
theorem fin_done {o : Outcome} {s s' : Shared} {f : Flow} (h : finish o s = .halt (.done f) s') : o = .done f ∧ s' = s := by
  unfold finish at h
  split at h
  · cases h
  · cases h; exact ⟨rfl, rfl⟩
theorem halt_done {s s' : Shared} {t : Thread} {f : Flow} (h : step (denote table) prog w s t = .halt (.done f) s') : through t = true ∧ s' = s := by
  obtain ⟨cur, code, pos, stack⟩ := t
  obtain ⟨heap, gens, drawn, toks, os⟩ := s
  cases cur with
  | pure fin =>
    cases fin with
    | done f' =>
      cases stack with
      | nil =>
        have h' : finish (.done f') ⟨heap, gens, drawn, toks, os⟩ = .halt (.done f) s' := h
        exact ⟨rfl, (fin_done h').2⟩
      | cons fr rest => cases fr <;> cases h
    | again c => cases h
  | raise e =>
    cases stack with
    | nil =>
      have h' : finish (.uncaught e) ⟨heap, gens, drawn, toks, os⟩ = .halt (.done f) s' := h
      have := (fin_done h').1
      cases this
    | cons fr rest => cases fr <;> cases h
  | finish e =>
    have h' : finish (.ended e) ⟨heap, gens, drawn, toks, os⟩ = .halt (.done f) s' := h
    have := (fin_done h').1
    cases this
  | _ =>
    exfalso
    simp only [step] at h
    (repeat' split at h) <;> first | cases h | (simp_all; done)
theorem run_last {s s'' : Shared} {t : Thread} {f : Flow} : ∀ {n : Nat} {s : Shared} {t : Thread}, runN (denote table) prog w n s t = .halted (.done f) s'' → ∃ m t₁, runN (denote table) prog w m s t = .running s'' t₁ ∧ through t₁ = true
  | 0, s, t, h => by cases h
  | n + 1, s, t, h => by
    simp only [runN] at h
    cases hs : step (denote table) prog w s t with
    | go s₂ t₂ =>
      rw [hs] at h
      obtain ⟨m, t₁, h1, h2⟩ := run_last (s := s₂) (t := t₂) (n := n) h
      exact ⟨m + 1, t₁, by simp only [runN, hs]; exact h1, h2⟩
    | halt o s₂ =>
      rw [hs] at h
      cases h
      obtain ⟨h1, rfl⟩ := halt_done hs
      exact ⟨0, t, rfl, h1⟩
theorem sched_of {s s' : Shared} {t : Thread} {n : Nat} {f : Flow} (hz : s.asleep) (h : runNI (denote table) prog w n s t = .halted (.done f) s') :
    ∃ m s₁ t₁, schedN (denote table) prog w m (.single s t) = .running (.single s₁ t₁) ∧ through t₁ = true ∧ s₁.forget = s'.forget ∧ s₁.heap.life = s.heap.life := by
  obtain ⟨s'', hn, hf, hc⟩ := runNI_real (denote table) prog w h rfl
  have hne : ∀ k s₂, runN (denote table) prog w k s t ≠ .halted (.unsupported "lifetime:generator-with-cleanup-left-suspended") s₂ := by
    intro k s₂ hk
    have a := runN_mono (denote table) prog w n k s t _ s'' hn
    have b := runN_mono (denote table) prog w k n s t _ s₂ hk
    rw [Nat.add_comm, b] at a
    cases a
  obtain ⟨m, t₁, h1, h2⟩ := run_last (s := s) (t := t) hn
  exact ⟨m, s'', t₁, (schedN_eq_runN (denote table) prog w s t hz ⟨hc, hne⟩ m).trans (congrArg Run.lift h1), h2, hf, runN_life_running h1⟩
theorem wp_rest {A : Around} {env : Env} {rest : List Stmt} {c : Code} {p q : Pos} {s : Shared} {R : Shared → Prop} (hz : s.asleep) (hin : (Ctx.of c [topFrame q]).In A)
    (h : wpAny (model prog w) A (execs rest env) (fun f s' => R s' ∧ s'.gens = #[]) (fun _ _ => False) s) :
    ∃ m s₁ t₁ s', schedN (denote table) prog w m (.single s (restOf rest env c p [topFrame q])) = .running (.single s₁ t₁) ∧ through t₁ = true ∧ s₁.forget = s'.forget ∧ s₁.heap.life = s.heap.life ∧ R s' ∧ s'.gens = #[] := by
  have h2 : wpAny (model prog w) A ((execs rest env).wrap doneF (leaveH env) id id) (fun fin s' => ∃ f, fin = .done f ∧ (∃ f₁, (.ok f : Result) = .ok f₁ ∧ R s' ∧ s'.gens = #[])) (fun e s' => ∃ f, (.error e : Result) = .ok f ∧ R s' ∧ s'.gens = #[]) s := by
    have e : (execs rest env).wrap doneF (leaveH env) id id = ((execs rest env).onRaise (leaving env)).bind fun f => (Sem.pure (Fin.done f) : Sem Fin) := by
      rw [Sem.bind_eq_wrap, Sem.onRaise_eq_wrap, Sem.wrap_wrap]; rfl
    rw [e]
    refine wpAny_bind (wpAny_onRaise (wpAny_mono h (fun f s' x => wpAny_pure ⟨f, rfl, f, rfl, x⟩) fun e s' x => x.elim))
  have h3 := wp_of_wpAny_done (M := model prog w) (Γ := Ctx.of c [topFrame q]) (R := fun r s' => ∃ f, r = .ok f ∧ R s' ∧ s'.gens = #[]) hin h2 p
  obtain ⟨n, r, s', c', p', hn, f, rfl, hR, hg⟩ := wp_runN h3
  have hn : (model prog w).runN n s (restOf rest env c p [topFrame q]) = .running s' ⟨leafOf (.ok f), c', p', [topFrame q]⟩ := hn
  have h4 : (model prog w).runN (n + 1) s (restOf rest env c p [topFrame q]) = .running s' ⟨.pure (.done (.ret .none)), .builtin "claim.caller" {}, q, []⟩ := by
    rw [runN_snoc hn, step_leaf_ret]; rfl
  have h5 : (model prog w).runN (n + 1 + 1) s (restOf rest env c p [topFrame q]) = .halted (.done (.ret .none)) s' := by
    rw [runN_snoc h4]
    have := step_leaf_nil (model prog w) s' (.builtin "claim.caller" {}) q (.ok (.ret .none))
    have e : (model prog w).step s' ⟨.pure (.done (.ret .none)), .builtin "claim.caller" {}, q, []⟩ = finish (.done (.ret .none)) s' := this
    rw [e]
    have hl : leftWithCleanup s'.gens = false := by rw [hg]; simp [leftWithCleanup]
    simp only [finish, hl, Bool.false_eq_true, if_false]
  obtain ⟨m, s₁, t₁, k1, k2, k3, k4⟩ := sched_of hz h5
  exact ⟨m, s₁, t₁, s', k1, k2, k3, k4, hR, hg⟩
end
end Mine
end
section
open PySem PySem.W PyProof.Rows
set_option maxRecDepth 100000
namespace Mine
/-! The frozen part of a heap (a view), relations on values, and steps that keep what stands. -/
noncomputable abbrev View := Addr → Option Obj
noncomputable def VLe (g g' : View) : Prop := ∀ a o, g a = some o → g' a = some o
noncomputable def Sees (g : View) (h : Heap) : Prop := ∀ a o, g a = some o → h.get? a = some o
noncomputable def Kp (h h' : Heap) : Prop := ∀ b o, h.get? b = some o → h'.get? b = some o
theorem VLe.refl (g : View) : VLe g g := fun _ _ e => e
theorem VLe.trans {a b c : View} (x : VLe a b) (y : VLe b c) : VLe a c := fun _ _ e => y _ _ (x _ _ e)
theorem Kp.refl (h : Heap) : Kp h h := fun _ _ e => e
theorem Kp.trans {a b c : Heap} (x : Kp a b) (y : Kp b c) : Kp a c := fun _ _ e => y _ _ (x _ _ e)
theorem Sees.keep {g : View} {h h' : Heap} (x : Sees g h) (k : Kp h h') : Sees g h' := fun _ _ e => k _ _ (x _ _ e)

structure Rel where
  r : View → Value → Prop
  up : ∀ {g g' v}, VLe g g' → r g v → r g' v

structure Step (g : View) (s : Shared) (g' : View) (s' : Shared) : Prop where
  same : ∃ h tk, s' = { s with heap := h, toks := tk }
  keep : Kp s.heap s'.heap
  ext : VLe g g'
  new : ∀ a o, g' a = some o → g a = some o ∨ s.heap.get? a = none
  sees : Sees g' s'.heap

theorem Step.refl {g : View} {s : Shared} (h : Sees g s.heap) : Step g s g s := ⟨⟨s.heap, s.toks, rfl⟩, Kp.refl _, VLe.refl _, fun _ _ e => .inl e, h⟩
theorem Step.trans {g₁ g₂ g₃ : View} {s₁ s₂ s₃ : Shared} (x : Step g₁ s₁ g₂ s₂) (y : Step g₂ s₂ g₃ s₃) : Step g₁ s₁ g₃ s₃ where
  same := by obtain ⟨h, t, rfl⟩ := x.same; obtain ⟨h', t', e⟩ := y.same; exact ⟨h', t', e⟩
  keep := x.keep.trans y.keep
  ext := x.ext.trans y.ext
  new := fun a o e => by
    rcases y.new a o e with q | q
    · exact x.new a o q
    · right
      cases z : s₁.heap.get? a with
      | none => rfl
      | some o' => rw [x.keep _ _ z] at q; cases q
  sees := y.sees
theorem Step.toks {g : View} {s : Shared} (h : Sees g s.heap) (t : Nat) : Step g s g { s with toks := t } := ⟨⟨s.heap, t, rfl⟩, Kp.refl _, VLe.refl _, fun _ _ e => .inl e, h⟩
theorem Step.heap {g : View} {s : Shared} (h : Sees g s.heap) {h' : Heap} {t : Nat} (k : Kp s.heap h') : Step g s g { s with heap := h', toks := t } :=
  ⟨⟨h', t, rfl⟩, k, VLe.refl _, fun _ _ e => .inl e, h.keep k⟩
theorem Step.heap' {g : View} {s : Shared} (h : Sees g s.heap) {h' : Heap} (k : Kp s.heap h') : Step g s g { s with heap := h' } := Step.heap (t := s.toks) h k

/-- the view with one object more -/
noncomputable def View.add (g : View) (a : Addr) (o : Obj) : View := fun b => if b = a then some o else g b
theorem View.add_self (g : View) (a : Addr) (o : Obj) : g.add a o a = some o := if_pos rfl
theorem View.le_add {g : View} {a : Addr} {o : Obj} (h : g a = none) : VLe g (g.add a o) := fun b x e => by
  unfold View.add
  split
  · rename_i q; subst q; rw [h] at e; cases e
  · exact e
theorem none_of_sees {g : View} {h : Heap} (x : Sees g h) {a : Addr} (e : h.get? a = none) : g a = none := by
  cases q : g a with
  | none => rfl
  | some o => rw [x _ _ q] at e; cases e
theorem get_size (h : Heap) : h.get? h.objs.size = none := by
  cases q : h.get? h.objs.size with
  | none => rfl
  | some o => exact absurd (Heap.lt_size q) (Nat.lt_irrefl _)
/-- a new object, taken into the view -/
theorem Step.push {g : View} {s : Shared} (h : Sees g s.heap) {a : Addr} {o : Obj} {h' : Heap} {t : Nat} (k : Kp s.heap h') (n : s.heap.get? a = none) (e : h'.get? a = some o) :
    Step g s (g.add a o) { s with heap := h', toks := t } where
  same := ⟨h', t, rfl⟩
  keep := k
  ext := View.le_add (none_of_sees h n)
  new := fun b x q => by
    unfold View.add at q
    split at q
    · rename_i z; subst z; exact .inr n
    · exact .inl q
  sees := fun b x q => by
    unfold View.add at q
    split at q
    · rename_i z; subst z; cases q; exact e
    · exact k _ _ (h _ _ q)
theorem kp_push (h : Heap) (o : Obj) : Kp h (h.push o) := fun _ _ e => Heap.get?_push_of_some _ e

/-! Relations. -/
noncomputable def RI (i : Int) : Rel := ⟨fun _ v => ∃ t, v = .int i t, fun _ h => h⟩
noncomputable def RS (x : Str) : Rel := ⟨fun _ v => ∃ t, v = .str x t, fun _ h => h⟩
noncomputable def RB (b : Bool) : Rel := ⟨fun _ v => v = .bool b, fun _ h => h⟩
noncomputable def RN : Rel := ⟨fun _ v => v = .none, fun _ h => h⟩
noncomputable def RV (u : Value) : Rel := ⟨fun _ v => v = u, fun _ h => h⟩
noncomputable def All2 (g : View) : List Rel → List Value → Prop
  | [], [] => True
  | R :: Rs, v :: vs => R.r g v ∧ All2 g Rs vs
  | _, _ => False
theorem All2.up {g g' : View} (k : VLe g g') : ∀ {Rs : List Rel} {vs : List Value}, All2 g Rs vs → All2 g' Rs vs
  | [], [], _ => trivial
  | R :: _, _ :: _, h => ⟨R.up k h.1, All2.up k h.2⟩
  | [], _ :: _, h => h.elim
  | _ :: _, [], h => h.elim
theorem len_nil {β : Type} {vs : List Value} (h : vs.length = ([] : List β).length) : vs = [] := List.eq_nil_of_length_eq_zero h
theorem len_cons {β : Type} {b : β} {bs : List β} {vs : List Value} (h : vs.length = (b :: bs).length) : ∃ v us, vs = v :: us ∧ us.length = bs.length := by
  cases vs with
  | nil => cases h
  | cons v vs => exact ⟨v, vs, rfl, Nat.succ.inj h⟩
theorem len_one {β : Type} {b : β} {vs : List Value} (h : vs.length = [b].length) : ∃ v, vs = [v] := by
  obtain ⟨v, us, rfl, hu⟩ := len_cons h
  exact ⟨v, by rw [len_nil hu]⟩
theorem len_two {β : Type} {b c : β} {vs : List Value} (h : vs.length = [b, c].length) : ∃ v u, vs = [v, u] := by
  obtain ⟨v, us, rfl, hu⟩ := len_cons h
  obtain ⟨u, rfl⟩ := len_one hu
  exact ⟨v, u, rfl⟩
theorem len_three {β : Type} {b c d : β} {vs : List Value} (h : vs.length = [b, c, d].length) : ∃ v u x, vs = [v, u, x] := by
  obtain ⟨v, us, rfl, hu⟩ := len_cons h
  obtain ⟨u, x, rfl⟩ := len_two hu
  exact ⟨v, u, x, rfl⟩
theorem nil_of {g : View} {vs : List Value} (h : All2 g [] vs) : vs = [] := by
  cases vs with
  | nil => rfl
  | cons v vs => exact h.elim
theorem cons_of {g : View} {R : Rel} {Rs : List Rel} {vs : List Value} (h : All2 g (R :: Rs) vs) : ∃ v us, vs = v :: us ∧ R.r g v ∧ All2 g Rs us := by
  cases vs with
  | nil => exact h.elim
  | cons v vs => exact ⟨v, vs, rfl, h.1, h.2⟩
theorem one_of {g : View} {R : Rel} {vs : List Value} (h : All2 g [R] vs) : ∃ v, vs = [v] ∧ R.r g v := by
  obtain ⟨v, us, rfl, hv, hu⟩ := cons_of h
  exact ⟨v, by rw [nil_of hu], hv⟩
theorem two_of {g : View} {R S : Rel} {vs : List Value} (h : All2 g [R, S] vs) : ∃ u v, vs = [u, v] ∧ R.r g u ∧ S.r g v := by
  obtain ⟨u, us, rfl, hu, hus⟩ := cons_of h
  obtain ⟨v, rfl, hv⟩ := one_of hus
  exact ⟨u, v, rfl, hu, hv⟩
theorem three_of {g : View} {R S T : Rel} {vs : List Value} (h : All2 g [R, S, T] vs) : ∃ u v x, vs = [u, v, x] ∧ R.r g u ∧ S.r g v ∧ T.r g x := by
  obtain ⟨u, us, rfl, hu, hus⟩ := cons_of h
  obtain ⟨v, x, rfl, hv, hx⟩ := two_of hus
  exact ⟨u, v, x, rfl, hu, hv, hx⟩
theorem All2.length {g : View} : ∀ {Rs : List Rel} {vs : List Value}, All2 g Rs vs → vs.length = Rs.length
  | [], [], _ => rfl
  | _ :: _, _ :: _, h => by rw [List.length_cons, List.length_cons, All2.length h.2]
  | [], _ :: _, h => h.elim
  | _ :: _, [], h => h.elim
theorem All2.get {g : View} : ∀ {Rs : List Rel} {vs : List Value}, All2 g Rs vs → ∀ {i : Nat} {R : Rel}, Rs[i]? = some R → ∃ v, vs[i]? = some v ∧ R.r g v
  | [], [], _, i, R, e => by simp at e
  | R₀ :: _, v :: _, h, 0, R, e => by
    simp only [List.getElem?_cons_zero, Option.some.injEq] at e
    subst e; exact ⟨v, rfl, h.1⟩
  | _ :: _, _ :: _, h, i + 1, R, e => by
    simp only [List.getElem?_cons_succ] at e ⊢
    exact All2.get h.2 e
  | [], _ :: _, h, _, _, _ => h.elim
  | _ :: _, [], h, _, _, _ => h.elim
theorem All2.append {g : View} : ∀ {Rs Rs' : List Rel} {vs vs' : List Value}, All2 g Rs vs → All2 g Rs' vs' → All2 g (Rs ++ Rs') (vs ++ vs')
  | [], _, [], _, _, h => h
  | _ :: _, _, _ :: _, _, h, h' => ⟨h.1, All2.append h.2 h'⟩
  | [], _, _ :: _, _, h, _ => h.elim
  | _ :: _, _, [], _, h, _ => h.elim
theorem All2.drop {g : View} : ∀ {Rs : List Rel} {vs : List Value}, All2 g Rs vs → ∀ n, All2 g (Rs.drop n) (vs.drop n)
  | _, _, h, 0 => h
  | [], [], _, _ + 1 => trivial
  | _ :: _, _ :: _, h, n + 1 => All2.drop h.2 n
  | [], _ :: _, h, _ => h.elim
  | _ :: _, [], h, _ => h.elim
theorem All2.take {g : View} : ∀ {Rs : List Rel} {vs : List Value}, All2 g Rs vs → ∀ n, All2 g (Rs.take n) (vs.take n)
  | _, _, _, 0 => trivial
  | [], [], _, _ + 1 => trivial
  | _ :: _, _ :: _, h, n + 1 => ⟨h.1, All2.take h.2 n⟩
  | [], _ :: _, h, _ => h.elim
  | _ :: _, [], h, _ => h.elim

/-- a list | a tuple of the view, its items as the relations say -/
noncomputable def LstAt (g : View) (a : Addr) (vs : List Value) : Prop := ∃ n, g a = some { cls := .type "list", data := .seq vs.toArray n }
noncomputable def TupAt (g : View) (a : Addr) (vs : List Value) : Prop := ∃ n, g a = some { cls := .type "tuple", data := .seq vs.toArray n }
theorem LstAt.up {g g' : View} (k : VLe g g') {a vs} (h : LstAt g a vs) : LstAt g' a vs := let ⟨n, e⟩ := h; ⟨n, k _ _ e⟩
theorem TupAt.up {g g' : View} (k : VLe g g') {a vs} (h : TupAt g a vs) : TupAt g' a vs := let ⟨n, e⟩ := h; ⟨n, k _ _ e⟩
noncomputable def RL (Rs : List Rel) : Rel := ⟨fun g v => ∃ a vs, v = .ref a ∧ LstAt g a vs ∧ All2 g Rs vs, fun k hpat => by obtain ⟨a, vs, e, h, z⟩ := hpat; exact ⟨a, vs, e, h.up k, z.up k⟩⟩
noncomputable def RT (Rs : List Rel) : Rel := ⟨fun g v => ∃ a vs, v = .ref a ∧ TupAt g a vs ∧ All2 g Rs vs, fun k hpat => by obtain ⟨a, vs, e, h, z⟩ := hpat; exact ⟨a, vs, e, h.up k, z.up k⟩⟩
theorem LstAt.isList {g : View} {a vs} (h : LstAt g a vs) {h' : Heap} (k : Sees g h') : h'.IsList a vs.toArray := let ⟨n, e⟩ := h; ⟨_, k _ _ e, rfl, n, rfl⟩
theorem TupAt.isTup {g : View} {a vs} (h : TupAt g a vs) {h' : Heap} (k : Sees g h') : h'.IsTuple a vs.toArray := let ⟨n, e⟩ := h; ⟨_, k _ _ e, rfl, n, rfl⟩

/-! Contexts and judgements. -/
structure Ctx where
  A : Around
  env : Env
  ok : View → Shared → Prop
  up : ∀ {g s g' s'}, ok g s → Step g s g' s' → ok g' s'
  sees : ∀ {g s}, ok g s → Sees g s.heap

noncomputable abbrev NoE : Value → Shared → Prop := fun _ _ => False
noncomputable abbrev Ends {α : Type} (g : View) (s : Shared) (q : View → α → Prop) : α → Shared → Prop := fun a s' => ∃ g', Step g s g' s' ∧ q g' a
section
variable (prog : Program) (w : World) (X : Ctx)
/-- the tree runs, without a raise, from any state of the context where `p` holds, and ends in `q` -/
structure Tr {α : Type} (p : View → Prop) (t : Sem α) (q : View → α → Prop) : Prop where
  run : ∀ g s, X.ok g s → p g → wpAny (model prog w) X.A t (Ends g s q) NoE s
noncomputable def Ev (e : Expr) (R : Rel) : Prop := Tr prog w X (fun _ => True) (eval e X.env) R.r
/-- a test -/
noncomputable def Te (e : Expr) (b : Bool) : Prop := Tr prog w X (fun _ => True) (isTrue e X.env (eval e X.env)) (fun _ c => c = b)
end
section
variable {prog : Program} {w : World} {X : Ctx}
theorem wp_of {α : Type} {A : Around} {t : Sem α} {Q : α → Shared → Prop} {E : Value → Shared → Prop} {s : Shared} {q : α → Shared → Prop} (h : wpAny (model prog w) A t q NoE s) (k : ∀ a s', q a s' → Q a s') :
    wpAny (model prog w) A t Q E s := wpAny_mono h k fun _ _ x => x.elim
theorem Tr.mono {α : Type} {p p' : View → Prop} {t : Sem α} {q q' : View → α → Prop} (h : Tr prog w X p t q) (hp : ∀ g, p' g → p g) (hq : ∀ g a, q g a → q' g a) : Tr prog w X p' t q' :=
  .mk fun g s ok hx => wp_of (h.run g s ok (hp g hx)) fun a s' ⟨g', st, ha⟩ => ⟨g', st, hq _ _ ha⟩
end
end Mine
end
section
open PySem PySem.W PyProof.Rows
set_option maxRecDepth 100000
set_option linter.unusedVariables false
namespace Mine
section
variable {prog : Program} {w : World} {X : Ctx}
/-! a tree whose rule hands on a value and a state with more tokens | a larger heap -/
theorem ends_toks {α : Type} {g : View} {s : Shared} {q : View → α → Prop} {a : α} (h : Sees g s.heap) (t : Nat) (k : q g a) : Ends g s q a { s with toks := t } := ⟨g, Step.toks h t, k⟩
theorem ends_here {α : Type} {g : View} {s : Shared} {q : View → α → Prop} {a : α} (h : Sees g s.heap) (k : q g a) : Ends g s q a s := ⟨g, Step.refl h, k⟩
theorem ends_step {α : Type} {g g' : View} {s s' : Shared} {q : View → α → Prop} {a : α} {s'' : Shared} (st : Step g s g' s') (k : Ends g' s' q a s'') : Ends g s q a s'' := let ⟨g'', st', z⟩ := k; ⟨g'', st.trans st', z⟩

theorem Ev.int (i : Int) (k : Nat) (pos : Pos) : Ev prog w X (.Constant (.int i) k pos) (RI i) := .mk fun g s ok _ => wpAny_Constant_int (ends_toks (X.sees ok) _ ⟨_, rfl⟩)
theorem Ev.str (x : Str) (k : Nat) (pos : Pos) : Ev prog w X (.Constant (.str x) k pos) (RS x) := .mk fun g s ok _ => Calls.Constant_str (ends_toks (X.sees ok) _ ⟨_, rfl⟩)
theorem Ev.bool (b : Bool) (k : Nat) (pos : Pos) : Ev prog w X (.Constant (.bool b) k pos) (RB b) := .mk fun g s ok _ => by
  show wpAny _ _ (constValue X.env (.bool b)) _ _ _
  exact wpAny_pure (ends_here (X.sees ok) rfl)
theorem Ev.none (k : Nat) (pos : Pos) : Ev prog w X (.Constant .none k pos) RN := .mk fun g s ok _ => by
  show wpAny _ _ (constValue X.env .none) _ _ _
  exact wpAny_pure (ends_here (X.sees ok) rfl)
theorem Ev.name {x : Str} {pos : Pos} {R : Rel} (h : Tr prog w X (fun _ => True) (loadName X.env x) R.r) (hd : (x == ("__debug__" : Str)) = false := by decide) : Ev prog w X (.Name x pos) R :=
  .mk fun g s ok _ => wpAny_Name (h.run g s ok trivial) hd

/-- two trees, one behind the other, then a third that uses both -/
theorem two {α β : Type} {a : Sem α} {g : View} {s : Shared} {f : α → Sem β} {p : View → α → Prop} {q : View → β → Prop} {A : Around} (hA : A = X.A) {Q : α → β → Shared → Prop} (ok : X.ok g s)
    (ha : Tr prog w X (fun _ => True) a p) (hb : ∀ x, Tr prog w X (fun _ => True) (f x) q) (up : ∀ {g g' x}, VLe g g' → p g x → p g' x)
    (k : ∀ x y g' s', X.ok g' s' → Step g s g' s' → p g' x → q g' y → Q x y s') :
    wpAny (model prog w) A a (fun x s₁ => wpAny (model prog w) A (f x) (fun y s₂ => Q x y s₂) NoE s₁) NoE s := by
  subst hA
  exact wp_of (ha.run g s ok trivial) fun x s₁ ⟨g₁, st, hp⟩ => wp_of ((hb x).run g₁ s₁ (X.up ok st) trivial) fun y s₂ ⟨g₂, st₂, hq⟩ =>
    k x y g₂ s₂ (X.up (X.up ok st) st₂) (st.trans st₂) (up st₂.ext hp) hq

noncomputable abbrev Op2 (prog : Program) (w : World) (X : Ctx) (f : Value → Value → Sem Value) (L R Z : Rel) : Prop := ∀ a b, Tr prog w X (fun g => L.r g a ∧ R.r g b) (f a b) Z.r

theorem Ev.bin {l r : Expr} {op : Operator} {pos : Pos} {L R Z : Rel} (hl : Ev prog w X l L) (hr : Ev prog w X r R) (h : Op2 prog w X (binaryOp op) L R Z) : Ev prog w X (.BinOp l op r pos) Z :=
  .mk fun g s ok _ => wpAny_BinOp (two rfl ok hl (fun _ => hr) L.up fun a b g' s' ok' st ha hb => wp_of ((h a b).run g' s' ok' ⟨ha, hb⟩) fun _ _ => ends_step st)
theorem Ev.cmp {l r : Expr} {op : CmpOp} {pos : Pos} {L R Z : Rel} (hl : Ev prog w X l L) (hr : Ev prog w X r R) (h : Op2 prog w X (compareOp op) L R Z) (hm : behindInMarks op r = false := by with_unfolding_all rfl) :
    Ev prog w X (.Compare l [op] [r] pos) Z :=
  .mk fun g s ok _ => wpAny_Compare1 (two rfl ok hl (fun _ => hr) L.up fun a b g' s' ok' st ha hb => wp_of ((h a b).run g' s' ok' ⟨ha, hb⟩) fun _ _ => ends_step st) hm
theorem Te.cmp {l r : Expr} {op : CmpOp} {pos : Pos} {L R : Rel} {c : Bool} (hl : Ev prog w X l L) (hr : Ev prog w X r R) (h : Op2 prog w X (compareOp op) L R (RB c)) (hm : behindInMarks op r = false := by with_unfolding_all rfl) :
    Te prog w X (.Compare l [op] [r] pos) c :=
  .mk fun g s ok _ => wpAny_isTrue_Compare1 (two rfl ok hl (fun _ => hr) L.up fun a b g' s' ok' st ha hb => wp_of ((h a b).run g' s' ok' ⟨ha, hb⟩) fun v s'' hpat => by
    obtain ⟨g'', st', e⟩ := hpat
    cases e; exact wpAny_truthy_bool ⟨g'', st.trans st', rfl⟩) hm
theorem Te.not {x : Expr} {pos : Pos} {c : Bool} (h : Te prog w X x c) : Te prog w X (.UnaryOp .Not x pos) (!c) :=
  .mk fun g s ok _ => isTrue_not (wp_of (h.run g s ok trivial) fun b s' ⟨g', st, e⟩ => ⟨g', st, by rw [e]⟩)
theorem Te.and {x y : Expr} {pos : Pos} {c d : Bool} (h : Te prog w X x c) (h' : c = true → Te prog w X y d) : Te prog w X (.BoolOp .And [x, y] pos) (c && d) :=
  .mk fun g s ok _ => isTrue_and (wp_of (h.run g s ok trivial) fun b s' hpat => by
    obtain ⟨g', st, e⟩ := hpat
    subst e
    cases b with
    | false => simp only [Bool.false_eq_true, if_false]; exact ⟨g', st, rfl⟩
    | true =>
      simp only [if_true]
      exact isTrue_and (wp_of ((h' rfl).run g' s' (X.up ok st) trivial) fun b' s'' hpat => by
        obtain ⟨g'', st', e⟩ := hpat
        subst e
        cases b' with
        | false => simp only [Bool.false_eq_true, if_false]; exact ⟨g'', st.trans st', rfl⟩
        | true => simp only [if_true]; exact isTrue_and_nil ⟨g'', st.trans st', rfl⟩))
theorem Te.or {x y : Expr} {pos : Pos} {c d : Bool} (h : Te prog w X x c) (h' : c = false → Te prog w X y d) : Te prog w X (.BoolOp .Or [x, y] pos) (c || d) :=
  .mk fun g s ok _ => isTrue_or (wp_of (h.run g s ok trivial) fun b s' hpat => by
    obtain ⟨g', st, e⟩ := hpat
    subst e
    cases b with
    | true => simp only [if_true]; exact ⟨g', st, rfl⟩
    | false =>
      simp only [Bool.false_eq_true, if_false]
      exact isTrue_or (wp_of ((h' rfl).run g' s' (X.up ok st) trivial) fun b' s'' hpat => by
        obtain ⟨g'', st', e⟩ := hpat
        subst e
        cases b' with
        | true => simp only [if_true]; exact ⟨g'', st.trans st', rfl⟩
        | false => simp only [Bool.false_eq_true, if_false]; exact isTrue_or_nil ⟨g'', st.trans st', rfl⟩))
/-- a value whose truth is known -/
noncomputable def TruthIs (prog : Program) (w : World) (X : Ctx) (R : Rel) (c : Bool) : Prop := ∀ v, Tr prog w X (fun g => R.r g v) (truthy v) (fun _ b => b = c)
theorem truth_bool (b : Bool) : TruthIs prog w X (RB b) b := fun v => .mk fun g s ok h => by cases h; exact wpAny_truthy_bool (ends_here (X.sees ok) rfl)
theorem truth_int (i : Int) : TruthIs prog w X (RI i) (i != 0) := fun v => .mk fun g s ok ⟨t, h⟩ => by subst h; exact P.truthy_int (ends_here (X.sees ok) rfl)
theorem Te.plain {e : Expr} {R : Rel} {c : Bool} (h : Ev prog w X e R) (ht : TruthIs prog w X R c)
    (he : isTrue e X.env (eval e X.env) = (do let v ← eval e X.env; standAt e.pos; holding [v] (truthy v)) := by rfl) : Te prog w X e c :=
  .mk fun g s ok _ => isTrue_plain (wp_of (h.run g s ok trivial) fun v s' ⟨g', st, hv⟩ => wp_of ((ht v).run g' s' (X.up ok st) hv) fun b s'' => ends_step st) he
theorem Ev.ife {test body orelse : Expr} {pos : Pos} {c : Bool} {R : Rel} (h : Te prog w X test c) (h1 : c = true → Ev prog w X body R) (h2 : c = false → Ev prog w X orelse R) : Ev prog w X (.IfExp test body orelse pos) R :=
  .mk fun g s ok _ => IfExp_ (wp_of (h.run g s ok trivial) fun b s' hpat => by
    obtain ⟨g', st, e⟩ := hpat
    subst e
    cases b with
    | true => simp only [if_true]; exact wp_of ((h1 rfl).run g' s' (X.up ok st) trivial) fun _ _ => ends_step st
    | false => simp only [Bool.false_eq_true, if_false]; exact wp_of ((h2 rfl).run g' s' (X.up ok st) trivial) fun _ _ => ends_step st)
/-- and | or of bools, as values -/
theorem Ev.and {x y : Expr} {pos : Pos} {c d : Bool} (h : Ev prog w X x (RB c)) (h' : c = true → Ev prog w X y (RB d)) : Ev prog w X (.BoolOp .And [x, y] pos) (RB (c && d)) :=
  .mk fun g s ok _ => BoolOp_and (wp_of (h.run g s ok trivial) fun v s' hpat => by
    obtain ⟨g', st, e⟩ := hpat
    cases e
    refine wpAny_truthy_bool ?_
    cases c with
    | true => simp only [if_true]; exact BoolOp_one (wp_of ((h' rfl).run g' s' (X.up ok st) trivial) fun u s'' k => ends_step st k)
    | false => simp only [Bool.false_eq_true, if_false]; exact ⟨g', st, rfl⟩)
theorem Ev.or {x y : Expr} {pos : Pos} {c d : Bool} (h : Ev prog w X x (RB c)) (h' : c = false → Ev prog w X y (RB d)) : Ev prog w X (.BoolOp .Or [x, y] pos) (RB (c || d)) :=
  .mk fun g s ok _ => BoolOp_or (wp_of (h.run g s ok trivial) fun v s' hpat => by
    obtain ⟨g', st, e⟩ := hpat
    cases e
    refine wpAny_truthy_bool ?_
    cases c with
    | false => simp only [Bool.false_eq_true, if_false]; exact BoolOp_one (wp_of ((h' rfl).run g' s' (X.up ok st) trivial) fun u s'' k => ends_step st k)
    | true => simp only [if_true]; exact ⟨g', st, rfl⟩)
theorem Ev.neg {x : Expr} {pos : Pos} {i : Int} (h : Ev prog w X x (RI i)) : Ev prog w X (.UnaryOp .USub x pos) (RI (-i)) :=
  .mk fun g s ok _ => by
    show wpAny _ _ (do let v ← eval x X.env; standAt pos; holding [v] (unaryOp .USub v)) _ _ _
    exact wpAny_bind (wp_of (h.run g s ok trivial) fun v s' hpat => by
      obtain ⟨g', st, t, e⟩ := hpat
      subst e
      exact wpAny_bind (wpAny_standAt (wpAny_holding (P.neg_int ⟨g', st.trans (Step.toks st.sees _), _, rfl⟩))))

theorem Ev.and1 {op : BoolOp} {x : Expr} {pos : Pos} {R : Rel} (h : Ev prog w X x R) : Ev prog w X (.BoolOp op [x] pos) R := .mk fun g s ok t => BoolOp_one (h.run g s ok t)
theorem Ev.andn {x y : Expr} {rest : List Expr} {pos : Pos} {c d : Bool} (h : Ev prog w X x (RB c)) (h' : c = true → Ev prog w X (.BoolOp .And (y :: rest) pos) (RB d)) : Ev prog w X (.BoolOp .And (x :: y :: rest) pos) (RB (c && d)) :=
  .mk fun g s ok _ => BoolOp_and (wp_of (h.run g s ok trivial) fun v s' hpat => by
    obtain ⟨g', st, e⟩ := hpat
    cases e
    refine wpAny_truthy_bool ?_
    cases c with
    | true => simp only [if_true]; exact wp_of ((h' rfl).run g' s' (X.up ok st) trivial) fun u s'' k => ends_step st k
    | false => simp only [Bool.false_eq_true, if_false]; exact ⟨g', st, rfl⟩)

/-! arguments and displays -/
noncomputable def Evs (prog : Program) (w : World) (X : Ctx) (pos : Pos) (es : List Expr) (Rs : List Rel) : Prop := Tr prog w X (fun _ => True) (spliced (backTo pos (starEach es X.env))) (fun g vs => All2 g Rs vs)
theorem Evs.nil {pos : Pos} : Evs prog w X pos [] [] := .mk fun g s ok _ => args_nil (ends_here (X.sees ok) trivial)
theorem Evs.cons {pos : Pos} {e : Expr} {es : List Expr} {R : Rel} {Rs : List Rel} (h : Ev prog w X e R) (hs : Evs prog w X pos es Rs) (he : starEach (e :: es) X.env = (false, eval e X.env) :: starEach es X.env := by rfl) :
    Evs prog w X pos (e :: es) (R :: Rs) := .mk fun g s ok _ => args_cons (wp_of (h.run g s ok trivial) fun v s' ⟨g', st, hv⟩ => wp_of (hs.run g' s' (X.up ok st) trivial) fun vs s'' ⟨g'', st', hvs⟩ =>
      ⟨g'', st.trans st', R.up st'.ext hv, hvs⟩) he
theorem newList_tr {Rs : List Rel} (hn : Rs.length ≤ sizeLine) (vs : List Value) : Tr prog w X (fun g => All2 g Rs vs) (newList vs) (RL Rs).r := .mk fun g s ok h => by
  have n := get_size s.heap
  have st := Step.push (t := s.toks) (X.sees ok) (kp_push s.heap _) n (Heap.get?_push_size s.heap (o := { cls := .type "list", data := .seq vs.toArray }) rfl)
  exact wpAny_newObj_type ⟨_, st, _, vs, rfl, ⟨_, View.add_self _ _ _⟩, h.up st.ext⟩ (by show vs.toArray.size ≤ sizeLine; rw [List.size_toArray, h.length]; exact hn)
theorem newTuple_tr {Rs : List Rel} (hn : Rs.length ≤ sizeLine) (vs : List Value) : Tr prog w X (fun g => All2 g Rs vs) (newTuple vs) (RT Rs).r := .mk fun g s ok h => by
  have n := get_size s.heap
  have st := Step.push (t := s.toks) (X.sees ok) (kp_push s.heap _) n (Heap.get?_push_size s.heap (o := { cls := .type "tuple", data := .seq vs.toArray }) rfl)
  exact wpAny_newObj_type ⟨_, st, _, vs, rfl, ⟨_, View.add_self _ _ _⟩, h.up st.ext⟩ (by show vs.toArray.size ≤ sizeLine; rw [List.size_toArray, h.length]; exact hn)
theorem small_line {n : Nat} (h : n ≤ 16777216) : n ≤ sizeLine := by rw [sizeLine_eq]; exact h
theorem Ev.list {es : List Expr} {pos : Pos} {Rs : List Rel} (h : Evs prog w X pos es Rs) (hn : Rs.length ≤ 16777216 := by exact Nat.le_of_ble_eq_true rfl) : Ev prog w X (.List es pos) (RL Rs) :=
  .mk fun g s ok _ => List_ (wp_of (h.run g s ok trivial) fun vs s' ⟨g', st, hv⟩ => wp_of ((newList_tr (small_line hn) vs).run g' s' (X.up ok st) hv) fun _ _ => ends_step st)
theorem Ev.tuple {es : List Expr} {k : Nat} {pos : Pos} {Rs : List Rel} (h : Evs prog w X pos es Rs) (hn : Rs.length ≤ 16777216 := by exact Nat.le_of_ble_eq_true rfl) : Ev prog w X (.Tuple es k pos) (RT Rs) :=
  .mk fun g s ok _ => Tuple_ (wp_of (h.run g s ok trivial) fun vs s' ⟨g', st, hv⟩ => wp_of ((newTuple_tr (small_line hn) vs).run g' s' (X.up ok st) hv) fun _ _ => ends_step st)

/-! operators -/
theorem op_add (i j : Int) : Op2 prog w X (binaryOp .Add) (RI i) (RI j) (RI (i + j)) := fun a b => .mk fun g s ok ⟨⟨t, h⟩, ⟨u, h'⟩⟩ => by subst h h'; exact P.add_int (ends_toks (X.sees ok) _ ⟨_, rfl⟩)
theorem op_sub (i j : Int) : Op2 prog w X (binaryOp .Sub) (RI i) (RI j) (RI (i - j)) := fun a b => .mk fun g s ok ⟨⟨t, h⟩, ⟨u, h'⟩⟩ => by subst h h'; exact P.sub_int (ends_toks (X.sees ok) _ ⟨_, rfl⟩)
theorem op_mul (i j : Int) (hm : IntMulOk i j) : Op2 prog w X (binaryOp .Mult) (RI i) (RI j) (RI (i * j)) := fun a b => .mk fun g s ok ⟨⟨t, h⟩, ⟨u, h'⟩⟩ => by subst h h'; exact P.mul_int (ends_toks (X.sees ok) _ ⟨_, rfl⟩) hm
theorem op_eq (i j : Int) : Op2 prog w X (compareOp .Eq) (RI i) (RI j) (RB (i == j)) := fun a b => .mk fun g s ok ⟨⟨t, h⟩, ⟨u, h'⟩⟩ => by subst h h'; exact P.eq_int (ends_here (X.sees ok) rfl)
theorem op_ne (i j : Int) : Op2 prog w X (compareOp .NotEq) (RI i) (RI j) (RB (i != j)) := fun a b => .mk fun g s ok ⟨⟨t, h⟩, ⟨u, h'⟩⟩ => by subst h h'; exact P.ne_int (ends_here (X.sees ok) rfl)
theorem op_lt (i j : Int) : Op2 prog w X (compareOp .Lt) (RI i) (RI j) (RB (decide (i < j))) := fun a b => .mk fun g s ok ⟨⟨t, h⟩, ⟨u, h'⟩⟩ => by subst h h'; exact P.lt_int (ends_here (X.sees ok) rfl)
theorem op_gt (i j : Int) : Op2 prog w X (compareOp .Gt) (RI i) (RI j) (RB (decide (i > j))) := fun a b => .mk fun g s ok ⟨⟨t, h⟩, ⟨u, h'⟩⟩ => by subst h h'; exact P.gt_int (ends_here (X.sees ok) rfl)
theorem op_ge (i j : Int) : Op2 prog w X (compareOp .GtE) (RI i) (RI j) (RB (decide (i ≥ j))) := fun a b => .mk fun g s ok ⟨⟨t, h⟩, ⟨u, h'⟩⟩ => by subst h h'; exact P.ge_int (ends_here (X.sees ok) rfl)
theorem op_mod (i j : Int) (hj : j ≠ 0) : Op2 prog w X (binaryOp .Mod) (RI i) (RI j) (RI (i.fmod j)) := fun a b => .mk fun g s ok hpat => by
  obtain ⟨⟨t, h⟩, ⟨u, h'⟩⟩ := hpat
  subst h h'; exact PyProof.Rows.mod_int hj (ends_toks (X.sees ok) _ ⟨_, rfl⟩)
theorem op_div (i j : Int) (hj : j ≠ 0) (hp : ¬(Builtin.divisionGoesByPylong i j) = true) : Op2 prog w X (binaryOp .FloorDiv) (RI i) (RI j) (RI (i.fdiv j)) := fun a b => .mk fun g s ok hpat => by
  obtain ⟨⟨t, h⟩, ⟨u, h'⟩⟩ := hpat
  subst h h'; exact AutoIntOps.floordiv_1 (by simpa using hj) hp (ends_toks (X.sees ok) _ ⟨_, rfl⟩)
theorem op_lt_str (x y : Str) : Op2 prog w X (compareOp .Lt) (RS x) (RS y) (RB (decide (x.cps.toList < y.cps.toList))) := fun a b => .mk fun g s ok ⟨⟨t, h⟩, ⟨u, h'⟩⟩ => by subst h h'; exact P.lt_str (ends_here (X.sees ok) rfl)
theorem op_gt_str (x y : Str) : Op2 prog w X (compareOp .Gt) (RS x) (RS y) (RB (decide (y.cps.toList < x.cps.toList))) := fun a b => .mk fun g s ok ⟨⟨t, h⟩, ⟨u, h'⟩⟩ => by subst h h'; exact P.gt_str (ends_here (X.sees ok) rfl)
theorem op_eq_str (x y : Str) : Op2 prog w X (compareOp .Eq) (RS x) (RS y) (RB (x == y)) := fun a b => .mk fun g s ok ⟨⟨t, h⟩, ⟨u, h'⟩⟩ => by subst h h'; exact PyProof.Rows.eq_str (ends_here (X.sees ok) rfl)
theorem op_ne_str (x y : Str) : Op2 prog w X (compareOp .NotEq) (RS x) (RS y) (RB (x != y)) := fun a b => .mk fun g s ok ⟨⟨t, h⟩, ⟨u, h'⟩⟩ => by subst h h'; exact PyProof.Rows.ne_str (ends_here (X.sees ok) rfl)
theorem op_add_str (x y : Str) (hs : x.length + y.length ≤ 16777216) : Op2 prog w X (binaryOp .Add) (RS x) (RS y) (RS (x ++ y)) := fun a b => .mk fun g s ok hpat => by
  obtain ⟨⟨t, h⟩, ⟨u, h'⟩⟩ := hpat
  subst h h'; exact PyProof.Rows.add_str (fun t' tk => ends_toks (X.sees ok) _ ⟨_, rfl⟩) (small_line hs)
end
end Mine
end
section
open PySem PySem.W PyProof.Rows
set_option maxRecDepth 100000
set_option linter.unusedVariables false
namespace Mine
/-! Frames. -/
noncomputable def look (x : Str) : List (Str × Rel) → Option Rel
  | [] => none
  | p :: l => match p.1 == x with | true => some p.2 | false => look x l
theorem look_cons_self (x : Str) (R : Rel) (l : List (Str × Rel)) : look x ((x, R) :: l) = some R := by
  show (match x == x with | true => some R | false => look x l) = _
  rw [beq_self_eq_true x]
theorem look_cons_ne {x y : Str} (R : Rel) (l : List (Str × Rel)) (h : y ≠ x) : look x ((y, R) :: l) = look x l := by
  show (match y == x with | true => some R | false => look x l) = _
  rw [beq_eq_false_iff_ne.mpr h]
/-- an object of the frame's own that its statements change -/
structure Pv where
  is : View → Addr → Heap → Prop
  up : ∀ {g g' a h}, VLe g g' → is g a h → is g' a h
  at' : ∀ {g a h h'}, (∀ o, h.get? a = some o → h'.get? a = some o) → is g a h → is g a h'
  here : ∀ {g a h}, is g a h → ∃ o, h.get? a = some o
structure Cfg where
  ρ : List (Str × Rel)
  pv : Option (Addr × Pv) := none
structure Fr where
  A : Around
  env : Env
  g₀ : View
  s₀ : Shared
  own : List Addr
  hold : View
  room : Nat
/-- what the frozen objects of the top must give -/
structure Fr.Ok (K : View) (F : Fr) : Prop where
  kind : F.env.scope.kind = .function
  loc : F.env.locals ∈ F.own
  inj : ∀ x y a, a ∈ F.own → a ≠ F.env.locals → F.env.cells.lookup x = some a → F.env.cells.lookup y = some a → x = y
  handled : F.A.handled = none
  room : F.A.depth + F.room < recursionLimit
  units : F.A.units + 100 + 4 * F.room < cLine
  lim : F.s₀.heap.NoLimit
  low : ∃ a o, 1 ≤ a ∧ F.s₀.heap.get? a = some o
  base : VLe K F.g₀
  globals : F.env.globals = mainGlobals
  builtins : F.env.builtins = builtinsNs

noncomputable def At (F : Fr) (m : Str → Option Value) (h : Heap) (x : Str) (v : Value) : Prop :=
  (F.env.kindOf x = some .local ∧ m x = some v) ∨ ((F.env.kindOf x = some .cell ∨ F.env.kindOf x = some .free) ∧ ∃ a, F.env.cells.lookup x = some a ∧ (a ≠ F.env.locals ∧ (a ∈ F.own ∨ ∃ o, F.s₀.heap.get? a = some o)) ∧ h.IsCell a (some v))

structure Fm (K : View) (F : Fr) (c : Cfg) (g : View) (s : Shared) : Prop where
  fok : F.Ok K
  st : Step F.g₀ F.s₀ g s
  own : ∀ a ∈ F.own, g a = none ∧ F.s₀.heap.get? a = none ∧ F.hold a = none
  cells : ∀ a ∈ F.own, a ≠ F.env.locals → ∃ v, s.heap.IsCell a v
  held : Sees F.hold s.heap
  apart : ∀ a o, F.hold a = some o → g a = none
  vars : ∃ m, s.heap.Ns F.env.locals m ∧ ∀ x R, look x c.ρ = some R → ∃ v, R.r g v ∧ At F m s.heap x v
  pv : ∀ a P, c.pv = some (a, P) → P.is g a s.heap ∧ g a = none ∧ F.s₀.heap.get? a = none ∧ a ∉ F.own ∧ F.hold a = none

section
variable {K : View} {F : Fr} {c : Cfg} {g g' : View} {s s' : Shared}
theorem Fm.sees (h : Fm K F c g s) : Sees g s.heap := h.st.sees
theorem not_new {o : Obj} {a : Addr} (st : Step g s g' s') (hs : s.heap.get? a = some o) (hg : g a = none) : g' a = none := by
  cases e : g' a with
  | none => rfl
  | some x =>
    rcases st.new a x e with q | q
    · rw [hg] at q; cases q
    · rw [hs] at q; cases q
theorem IsCell.obj {h : Heap} {a : Addr} {v : Option Value} (x : h.IsCell a v) : ∃ o, h.get? a = some o := let ⟨o, e, _⟩ := x; ⟨o, e⟩
theorem Ns.obj {h : Heap} {a : Addr} {m} (x : h.Ns a m) : ∃ o, h.get? a = some o := let ⟨o, _, _, e, _⟩ := x; ⟨o, e⟩
theorem Fm.ownObj (h : Fm K F c g s) {a : Addr} (ha : a ∈ F.own) : ∃ o, s.heap.get? a = some o := by
  by_cases e : a = F.env.locals
  · subst e; obtain ⟨m, hn, _⟩ := h.vars; exact Ns.obj hn
  · obtain ⟨v, hc⟩ := h.cells a ha e; exact IsCell.obj hc
theorem At.keep {F : Fr} {m : Str → Option Value} {h h' : Heap} {x : Str} {v : Value} (a : At F m h x v) (k : Kp h h') : At F m h' x v := by
  rcases a with ⟨a, b⟩ | ⟨a, c, b, n, d⟩
  · exact .inl ⟨a, b⟩
  · exact .inr ⟨a, c, b, n, d.keeps k⟩
theorem Fm.up (h : Fm K F c g s) (st : Step g s g' s') : Fm K F c g' s' where
  fok := h.fok
  st := h.st.trans st
  own := fun a ha => ⟨(let ⟨o, e⟩ := h.ownObj ha; not_new st e (h.own a ha).1), (h.own a ha).2⟩
  cells := fun a ha ne => let ⟨v, x⟩ := h.cells a ha ne; ⟨v, x.keeps st.keep⟩
  held := h.held.keep st.keep
  apart := fun a o e => not_new st (h.held a o e) (h.apart a o e)
  vars := let ⟨m, hn, hv⟩ := h.vars; ⟨m, hn.keeps st.keep, fun x R e => let ⟨v, hr, ha⟩ := hv x R e; ⟨v, R.up st.ext hr, ha.keep st.keep⟩⟩
  pv := fun a P e => let ⟨x, y, z⟩ := h.pv a P e; ⟨P.at' (fun o q => st.keep a o q) (P.up st.ext x), (let ⟨o, q⟩ := P.here x; not_new st q y), z⟩
theorem Fm.low (h : Fm K F c g s) : (s.heap.objs.size == sysModules) = false := by
  obtain ⟨a, o, h1, e⟩ := h.fok.low
  have := Heap.lt_size (h.st.keep _ _ e)
  have ne : s.heap.objs.size ≠ sysModules := Nat.ne_of_gt (Nat.lt_of_le_of_lt h1 this)
  exact beq_eq_false_iff_ne.mpr ne
noncomputable def Fr.ctx (K : View) (F : Fr) (c : Cfg) : Ctx := ⟨F.A, F.env, fun g s => Fm K F c g s, fun h st => h.up st, fun h => h.sees⟩

/-! statements -/
structure So (prog : Program) (w : World) (K : View) (F : Fr) (c : Cfg) (t : Sem Flow) (q : Flow → Shared → Prop) : Prop where
  run : ∀ g s, Fm K F c g s → wpAny (model prog w) F.A t q NoE s
noncomputable def Nx (K : View) (F : Fr) (c : Cfg) : Flow → Shared → Prop := fun f s => f = .next ∧ ∃ g, Fm K F c g s
noncomputable def Rt (F : Fr) (R : Rel) : Flow → Shared → Prop := fun f s => ∃ v g, f = .ret v ∧ Step F.g₀ F.s₀ g s ∧ R.r g v
/-- a store into a target -/
noncomputable def As (prog : Program) (w : World) (K : View) (F : Fr) (c : Cfg) (target : Expr) (R : Rel) (c' : Cfg) : Prop :=
  ∀ v g s, Fm K F c g s → R.r g v → wpAny (model prog w) F.A (assign target F.env v) (fun _ s' => Fm K F c' g s') NoE s
noncomputable def Cfg.set (c : Cfg) (x : Str) (R : Rel) : Cfg := { c with ρ := (x, R) :: c.ρ }

variable {prog : Program} {w : World}

/-- one object of the frame's own is written -/
theorem Fm.wrote {c' : Cfg} {a : Addr} {h' : Heap} {t : Nat} (x : Fm K F c g s) (ha : a ∈ F.own) (hs : Heap.SameBut a s.heap h')
    (hc : ∀ b ∈ F.own, b ≠ F.env.locals → ∃ v, h'.IsCell b v) (hpv : c'.pv = c.pv)
    (hv : ∃ m, h'.Ns F.env.locals m ∧ ∀ x R, look x c'.ρ = some R → ∃ v, R.r g v ∧ At F m h' x v) : Fm K F c' g { s with heap := h', toks := t } where
  fok := x.fok
  st :=
    have k : ∀ b o, b ≠ a → s.heap.get? b = some o → h'.get? b = some o := fun b o hb e => hs.extBut b o hb e
    { same := by obtain ⟨h, tk, e⟩ := x.st.same; exact ⟨h', t, by rw [e]⟩
      keep := fun b o e => k b o (fun q => by subst q; rw [(x.own b ha).2.1] at e; cases e) (x.st.keep b o e)
      ext := x.st.ext
      new := x.st.new
      sees := fun b o e => k b o (fun q => by subst q; rw [(x.own b ha).1] at e; cases e) (x.sees b o e) }
  own := x.own
  cells := hc
  apart := x.apart
  held := fun b o e => hs.extBut b o (fun q => by subst q; rw [(x.own b ha).2.2] at e; cases e) (x.held b o e)
  vars := hv
  pv := fun b P e => by
    rw [hpv] at e
    obtain ⟨p, q, r, no, z⟩ := x.pv b P e
    exact ⟨P.at' (fun o e => hs.extBut b o (fun q => no (q ▸ ha)) e) p, q, r, no, z⟩

theorem store_local {x : Str} {R : Rel} {v : Value} (ok : Fm K F c g s) (hl : F.env.kindOf x = some .local) (hr : R.r g v) :
    wpAny (model prog w) F.A (storeName F.env x v) (fun _ s' => Fm K F (c.set x R) g s') NoE s := by
  obtain ⟨m, hn, hv⟩ := ok.vars
  refine wpAny_storeName_local hl hn (fun h' hn' hs' => ok.wrote ok.fok.loc hs' (fun b hb ne => ?_) rfl ⟨_, hn', fun y Y e => ?_⟩) (by rw [ok.fok.kind]; rfl)
  · obtain ⟨v, z⟩ := ok.cells b hb ne; exact ⟨v, z.sameBut hs' ne⟩
  · by_cases hy : x = y
    · subst hy
      rw [Cfg.set, look_cons_self] at e; cases e
      exact ⟨v, hr, .inl ⟨hl, if_pos rfl⟩⟩
    · rw [Cfg.set, look_cons_ne _ _ hy] at e
      obtain ⟨u, hu, hat⟩ := hv y Y e
      refine ⟨u, hu, ?_⟩
      rcases hat with ⟨a, b⟩ | ⟨a, d, b, z⟩
      · exact .inl ⟨a, (if_neg fun q => hy q.symm).trans b⟩
      · exact .inr ⟨a, d, b, z.1, z.2.sameBut hs' z.1.1⟩

theorem store_cell {x : Str} {R : Rel} {v : Value} {a : Addr} (ok : Fm K F c g s) (hl : F.env.kindOf x = some .cell) (ha : F.env.cells.lookup x = some a) (hm : a ∈ F.own) (ne : a ≠ F.env.locals) (hr : R.r g v) :
    wpAny (model prog w) F.A (storeName F.env x v) (fun _ s' => Fm K F (c.set x R) g s') NoE s := by
  obtain ⟨m, hn, hv⟩ := ok.vars
  obtain ⟨v₀, hc⟩ := ok.cells a hm ne
  refine wpAny_storeName_cell ok.fok.kind hl ha hc (fun h' hc' hs' => ok.wrote (t := s.toks) hm hs' (fun b hb nb => ?_) rfl ⟨m, hn.sameBut hs' (Ne.symm ne), fun y Y e => ?_⟩)
  · by_cases q : b = a
    · subst q; exact ⟨_, hc'⟩
    · obtain ⟨v, z⟩ := ok.cells b hb nb; exact ⟨v, z.sameBut hs' q⟩
  · by_cases hy : x = y
    · subst hy
      rw [Cfg.set, look_cons_self] at e; cases e
      exact ⟨v, hr, .inr ⟨.inl hl, a, ha, ⟨ne, .inl hm⟩, hc'⟩⟩
    · rw [Cfg.set, look_cons_ne _ _ hy] at e
      obtain ⟨u, hu, hat⟩ := hv y Y e
      refine ⟨u, hu, ?_⟩
      rcases hat with ⟨p, q⟩ | ⟨p, d, q, z⟩
      · exact .inl ⟨p, q⟩
      · exact .inr ⟨p, d, q, z.1, z.2.sameBut hs' fun e => hy (ok.fok.inj _ _ _ hm ne ha (e ▸ q))⟩

/-- which names of a frame are stored how -/
noncomputable def Fr.Stores (F : Fr) (x : Str) : Prop := F.env.kindOf x = some .local ∨ (F.env.kindOf x = some .cell ∧ ∃ a, F.env.cells.lookup x = some a ∧ a ∈ F.own ∧ a ≠ F.env.locals)
theorem store_any {x : Str} {R : Rel} {v : Value} (ok : Fm K F c g s) (h : F.Stores x) (hr : R.r g v) :
    wpAny (model prog w) F.A (storeName F.env x v) (fun _ s' => Fm K F (c.set x R) g s') NoE s := by
  rcases h with h | ⟨h, a, ha, hm, ne⟩
  · exact store_local ok h hr
  · exact store_cell ok h ha hm ne hr
theorem As.name {x : Str} {p : Pos} {R : Rel} (h : F.Stores x) : As prog w K F c (.Name x p) R (c.set x R) := fun v g s ok hr => wpAny_assign_Name (store_any ok h hr)

/-! reading -/
theorem load_any {x : Str} {R : Rel} (h : look x c.ρ = some R) (hn : (x == ("__classdict__" : Str)) = false := by decide) : Tr prog w (F.ctx K c) (fun _ => True) (loadName F.env x) R.r := .mk fun g s ok _ => by
  have ok : Fm K F c g s := ok
  obtain ⟨m, hm, hv⟩ := ok.vars
  obtain ⟨v, hr, hat⟩ := hv x R h
  rcases hat with ⟨a, b⟩ | ⟨a, d, b, z⟩
  · exact wpAny_loadName_local ok.fok.kind a hm b (ends_here ok.sees hr)
  · rcases a with a | a
    · exact wpAny_loadName_cell ok.fok.kind a b z.2 (ends_here ok.sees hr)
    · exact wpAny_loadName_free ok.fok.kind a b z.2 (ends_here ok.sees hr) hn
theorem Ev.var {x : Str} {pos : Pos} {R : Rel} (h : look x c.ρ = some R := by rfl) (hd : (x == ("__debug__" : Str)) = false := by decide) (hn : (x == ("__classdict__" : Str)) = false := by decide) :
    Ev prog w (F.ctx K c) (.Name x pos) R := Ev.name (load_any h hn) hd

theorem seq {st : Stmt} {rest : List Stmt} {c' : Cfg} {q : Flow → Shared → Prop} (h : So prog w K F c (exec st F.env) (Nx K F c')) (k : So prog w K F c' (execs rest F.env) q) : So prog w K F c (execs (st :: rest) F.env) q :=
  .mk fun g s ok => wpAny_execs_cons (wp_of (h.run g s ok) fun f s' ⟨e, g', z⟩ => by subst e; exact k.run g' s' z)
theorem seqE {ι : Type} {st : Stmt} {rest : List Stmt} {c' : ι → Cfg} {q : Flow → Shared → Prop} (h : So prog w K F c (exec st F.env) (fun f s => ∃ i, Nx K F (c' i) f s)) (k : ∀ i, So prog w K F (c' i) (execs rest F.env) q) :
    So prog w K F c (execs (st :: rest) F.env) q :=
  .mk fun g s ok => wpAny_execs_cons (wp_of (h.run g s ok) fun f s' ⟨i, e, g', z⟩ => by subst e; exact (k i).run g' s' z)
theorem last {st : Stmt} {q : Flow → Shared → Prop} (h : So prog w K F c (exec st F.env) q) : So prog w K F c (execs [st] F.env) q :=
  .mk fun g s ok => wpAny_execs_cons (wp_of (h.run g s ok) fun f s' z => by cases f <;> first | exact wpAny_execs_nil z | exact z)
theorem done : So prog w K F c (execs [] F.env) (Nx K F c) := .mk fun g s ok => wpAny_execs_nil ⟨rfl, g, ok⟩
theorem So.mono {t : Sem Flow} {q q' : Flow → Shared → Prop} (h : So prog w K F c t q) (k : ∀ f s, q f s → q' f s) : So prog w K F c t q' := .mk fun g s ok => wp_of (h.run g s ok) k
theorem seqR {st : Stmt} {rest : List Stmt} {q : Flow → Shared → Prop} {R : Rel} (h : So prog w K F c (exec st F.env) (fun f s => Rt F R f s)) (k : ∀ f s, Rt F R f s → q f s) : So prog w K F c (execs (st :: rest) F.env) q :=
  .mk fun g s ok => wpAny_execs_cons (wp_of (h.run g s ok) fun f s' z => by obtain ⟨v, g', rfl, e⟩ := z; exact k _ _ ⟨v, g', rfl, e⟩)

theorem s_assign {x : Str} {p pos : Pos} {value : Expr} {R : Rel} (h : Ev prog w (F.ctx K c) value R) (hx : F.Stores x)
    (hs : swapsWith value (some (.Name x p)) pos.line F.env = pure false := by rfl) : So prog w K F c (exec (.Assign [.Name x p] value pos) F.env) (Nx K F (c.set x R)) :=
  .mk fun g s ok => wpAny_Assign_Name (wp_of (h.run g s ok trivial) fun v s' ⟨g', st, hv⟩ => wp_of (store_any (ok.up st) hx hv) fun _ _ z => ⟨rfl, _, z⟩) hs
theorem s_aug {x : Str} {p pos : Pos} {op : Operator} {value : Expr} {L R Z : Rel} (hl : look x c.ρ = some L) (h : Ev prog w (F.ctx K c) value R) (ho : Op2 prog w (F.ctx K c) (inplaceOp op) L R Z) (hx : F.Stores x)
    (hn : (x == ("__classdict__" : Str)) = false := by decide) : So prog w K F c (exec (.AugAssign (.Name x p) op value pos) F.env) (Nx K F (c.set x Z)) :=
  .mk fun g s ok => wpAny_AugAssign_Name (wp_of ((load_any hl hn).run g s ok trivial) fun a s₁ ⟨g₁, st₁, ha⟩ => wp_of (h.run g₁ s₁ (ok.up st₁) trivial) fun b s₂ ⟨g₂, st₂, hb⟩ =>
    wp_of ((ho a b).run g₂ s₂ ((ok.up st₁).up st₂) ⟨L.up st₂.ext ha, hb⟩) fun v s₃ ⟨g₃, st₃, hv⟩ => wp_of (store_any (((ok.up st₁).up st₂).up st₃) hx hv) fun _ _ z => ⟨rfl, _, z⟩)
theorem s_ret {e : Expr} {pos : Pos} {R : Rel} (h : Ev prog w (F.ctx K c) e R) : So prog w K F c (exec (.Return (some e) pos) F.env) (Rt F R) :=
  .mk fun g s ok => wpAny_Return_some (wp_of (h.run g s ok trivial) fun v s' ⟨g', st, hv⟩ => ⟨v, g', rfl, ok.st.trans st, hv⟩)
theorem s_if {test : Expr} {body orelse : List Stmt} {pos : Pos} {b : Bool} {q : Flow → Shared → Prop} (h : Te prog w (F.ctx K c) test b) (h1 : b = true → So prog w K F c (execs body F.env) q)
    (h2 : b = false → So prog w K F c (execs orelse F.env) q) : So prog w K F c (exec (.If test body orelse pos) F.env) q :=
  .mk fun g s ok => wpAny_If (wp_of (h.run g s ok trivial) fun b' s' hpat => by
    obtain ⟨g', st, e⟩ := hpat
    subst e
    cases b' with
    | true => simp only [if_true]; exact (h1 rfl).run g' s' (ok.up st)
    | false => simp only [Bool.false_eq_true, if_false]; exact (h2 rfl).run g' s' (ok.up st))
/-- a test that is false skips -/
theorem s_skip {test : Expr} {body : List Stmt} {pos : Pos} {b : Bool} (h : Te prog w (F.ctx K c) test b) (hb : b = false) : So prog w K F c (exec (.If test body [] pos) F.env) (Nx K F c) :=
  s_if h (fun e => by rw [hb] at e; cases e) fun _ => done
theorem s_tuple {elts : List Expr} {k : Nat} {tpos pos : Pos} {value : Expr} {R : Rel} {c' : Cfg} (h : Ev prog w (F.ctx K c) value R) (ha : As prog w K F c (.Tuple elts k tpos) R c')
    (hs : swapsWithSole [.Tuple elts k tpos] value pos.line F.env = pure false := by rfl) (hw : swappedStores [.Tuple elts k tpos] value F.env = pure none := by rfl) :
    So prog w K F c (exec (.Assign [.Tuple elts k tpos] value pos) F.env) (Nx K F c') :=
  .mk fun g s ok => Assign_Tuple (wp_of (h.run g s ok trivial) fun v s' ⟨g', st, hv⟩ => wp_of (ha v g' s' (ok.up st) hv) fun _ _ z => ⟨rfl, _, z⟩) hs hw

/-- less may be known -/
noncomputable def Le (R R' : Rel) : Prop := ∀ g v, R.r g v → R'.r g v
theorem Le.refl (R : Rel) : Le R R := fun _ _ h => h
noncomputable def Sub (ρ : List (Str × Rel)) : List (Str × Rel) → Prop
  | [] => True
  | p :: l => (∃ R, look p.1 ρ = some R ∧ Le R p.2) ∧ Sub ρ l
theorem Sub.look {ρ : List (Str × Rel)} : ∀ {ρ' : List (Str × Rel)}, Sub ρ ρ' → ∀ {x R}, look x ρ' = some R → ∃ R₀, look x ρ = some R₀ ∧ Le R₀ R
  | [], _, x, R, e => by cases e
  | (y, Y) :: l, h, x, R, e => by
    by_cases hy : y = x
    · subst hy; rw [look_cons_self] at e; cases e; exact h.1
    · rw [look_cons_ne _ _ hy] at e; exact Sub.look h.2 e
theorem Fm.weaken {ρ' : List (Str × Rel)} (h : Fm K F c g s) (hs : Sub c.ρ ρ') : Fm K F { c with ρ := ρ' } g s :=
  { h with vars := let ⟨m, hn, hv⟩ := h.vars; ⟨m, hn, fun x R e => let ⟨R₀, e₀, le⟩ := hs.look e; let ⟨v, hr, ha⟩ := hv x R₀ e₀; ⟨v, le _ _ hr, ha⟩⟩ }
end
end Mine
end
section
open PySem PySem.W PyProof.Rows
set_option maxRecDepth 100000
set_option linter.unusedVariables false
namespace Mine
/-! Stores into targets; loops. -/
inductive Item | one (R : Rel) | tup (Rs : List Rel)
noncomputable def Item.is : Item → View → Heap → Value → Prop
  | .one R, g, _, v => R.r g v
  | .tup Rs, g, h, v => ∃ T vals, v = .ref T ∧ h.IsTuple T vals ∧ All2 g Rs vals.toList
theorem kp_ext {h h' : Heap} (x : Heap.ExtBut h.objs.size h h') : Kp h h' := fun b o e => x b o (Nat.ne_of_lt (Heap.lt_size e)) e

section
variable {prog : Program} {w : World} {K : View} {F : Fr} {c c' : Cfg} {g g' : View} {s s' : Shared}
noncomputable def AsI (prog : Program) (w : World) (K : View) (F : Fr) (c : Cfg) (target : Expr) (i : Item) (c' : Cfg) : Prop :=
  ∀ v g s, Fm K F c g s → i.is g s.heap v → wpAny (model prog w) F.A (assign target F.env v) (fun _ s' => Fm K F c' g s') NoE s
theorem AsI.one {t : Expr} {R : Rel} (h : As prog w K F c t R c') : AsI prog w K F c t (.one R) c' := fun v g s ok hv => h v g s ok hv
theorem AsI.name {x : Str} {p : Pos} {R : Rel} (h : F.Stores x) : AsI prog w K F c (.Name x p) (.one R) (c.set x R) := .one (As.name h)

/-- targets one behind the other -/
inductive AsL (prog : Program) (w : World) (K : View) (F : Fr) : Cfg → List Expr → List Rel → Cfg → Prop
  | nil (c : Cfg) : AsL prog w K F c [] [] c
  | cons (c : Cfg) (t : Expr) (ts : List Expr) (R : Rel) (Rs : List Rel) (c₁ c₂ : Cfg) (he : assignEach (t :: ts) F.env = (false, assign t F.env) :: assignEach ts F.env) :
      As prog w K F c t R c₁ → AsL prog w K F c₁ ts Rs c₂ → AsL prog w K F c (t :: ts) (R :: Rs) c₂
theorem AsL.add {t : Expr} {ts : List Expr} {R : Rel} {Rs : List Rel} {c₁ c₂ : Cfg} (h : As prog w K F c t R c₁) (k : AsL prog w K F c₁ ts Rs c₂) (he : assignEach (t :: ts) F.env = (false, assign t F.env) :: assignEach ts F.env := by rfl) :
    AsL prog w K F c (t :: ts) (R :: Rs) c₂ := .cons c t ts R Rs c₁ c₂ he h k
theorem AsL.run {ts : List Expr} {Rs : List Rel} (h : AsL prog w K F c ts Rs c') : ∀ {vs : List Value} {g : View} {s : Shared}, Fm K F c g s → All2 g Rs vs →
    wpAny (model prog w) F.A (assignInOrder ((assignEach ts F.env).map (·.2)) vs) (fun _ s' => Fm K F c' g s') NoE s := by
  induction h with
  | nil c => intro vs g s ok hv; exact assignInOrder_nil ok
  | cons c t ts R Rs c₁ c₂ he ht _ ih =>
    intro vs g s ok hv
    cases vs with
    | nil => exact hv.elim
    | cons v vs =>
      rw [he]
      exact assignInOrder_cons (wp_of (ht v g s ok hv.1) fun _ s' ok' => ih ok' hv.2)
theorem AsL.len {ts : List Expr} {Rs : List Rel} (h : AsL prog w K F c ts Rs c') : (assignEach ts F.env).length = Rs.length ∧ (assignEach ts F.env).findIdx? (·.1) = none := by
  induction h with
  | nil c => exact ⟨rfl, rfl⟩
  | cons c t ts R Rs c₁ c₂ he ht _ ih =>
    rw [he]
    refine ⟨by rw [List.length_cons, List.length_cons, ih.1], ?_⟩
    rw [List.findIdx?_cons]
    simp [ih.2]
theorem AsI.tup {elts : List Expr} {k : Nat} {pos : Pos} {Rs : List Rel} (h : AsL prog w K F c elts Rs c') : AsI prog w K F c (.Tuple elts k pos) (.tup Rs) c' := fun v g s ok hv => by
  obtain ⟨T, vals, e, ht, ha⟩ := hv
  subst e
  refine wpAny_assign_Tuple ok.fok.handled ht (by rw [h.len.1, ← ha.length, Array.length_toList]) h.len.2 fun h' he => ?_
  exact h.run (ok.up (Step.heap' ok.sees (kp_ext he))) ha
theorem As.tup {elts : List Expr} {k : Nat} {pos : Pos} {Rs : List Rel} (h : AsL prog w K F c elts Rs c') : As prog w K F c (.Tuple elts k pos) (RT Rs) c' := fun v g s ok hv => by
  obtain ⟨a, vs, e, ht, ha⟩ := hv
  exact AsI.tup h v g s ok ⟨a, vs.toArray, e, ht.isTup ok.sees, by simpa using ha⟩

/-- the turned order of a display's stores -/
inductive AsR (prog : Program) (w : World) (K : View) (F : Fr) : Cfg → List (Str × Rel) → Cfg → Prop
  | nil (c : Cfg) : AsR prog w K F c [] c
  | cons (c : Cfg) (x : Str) (R : Rel) (l : List (Str × Rel)) (c' : Cfg) : F.Stores x → AsR prog w K F (c.set x R) l c' → AsR prog w K F c ((x, R) :: l) c'
theorem AsR.run {l : List (Str × Rel)} (h : AsR prog w K F c l c') : ∀ {vs : List Value} {g : View} {s : Shared}, Fm K F c g s → All2 g (l.map (·.2)) vs →
    wpAny (model prog w) F.A (assignInOrder ((l.map (·.1)).map fun n => bindName F.env n) vs) (fun _ s' => Fm K F c' g s') NoE s := by
  induction h with
  | nil c => intro vs g s ok hv; exact assignInOrder_nil ok
  | cons c x R l c₁ hx _ ih =>
    intro vs g s ok hv
    cases vs with
    | nil => exact hv.elim
    | cons v vs =>
      simp only [List.map_cons]
      exact assignInOrder_cons (wpAny_bindName (wp_of (store_any ok hx hv.1) fun _ s' ok' => ih ok' hv.2))
theorem All2.rev {g : View} {Rs : List Rel} {vs : List Value} (h : All2 g Rs vs) : All2 g Rs.reverse vs.reverse := by
  induction Rs generalizing vs with
  | nil => cases vs with
    | nil => exact h
    | cons v vs => exact h.elim
  | cons R Rs ih => cases vs with
    | nil => exact h.elim
    | cons v vs => rw [List.reverse_cons, List.reverse_cons]; exact (ih h.2).append ⟨h.1, trivial⟩
theorem s_swap {elts : List Expr} {k : Nat} {tpos pos : Pos} {value : Expr} {l : List (Str × Rel)} {c' : Cfg} (h : Ev prog w (F.ctx K c) value (RT (l.map (·.2)).reverse)) (ha : AsR prog w K F c l c')
    (hs : swapsWithSole [.Tuple elts k tpos] value pos.line F.env = pure false := by rfl)
    (hw : swappedStores [.Tuple elts k tpos] value F.env = pure (some (l.map (·.1)).reverse) := by rfl) :
    So prog w K F c (exec (.Assign [.Tuple elts k tpos] value pos) F.env) (Nx K F c') :=
  .mk fun g s ok => Assign_Tuple_swapped (wp_of (h.run g s ok trivial) fun v s' hpat => by
    obtain ⟨g', st, a, vs, e, ht, hv⟩ := hpat
    subst e
    have ok' := ok.up st
    have hl : (l.map (·.1)).reverse.length = vs.toArray.size := by
      have := hv.length; simp only [List.length_reverse, List.length_map, List.size_toArray] at this ⊢; exact this.symm
    rw [hl]
    refine unpackItems_tuple ok.fok.handled (ht.isTup ok'.sees) fun h' he => ?_
    rw [List.reverse_reverse]
    have hv' := hv.rev
    rw [List.reverse_reverse] at hv'
    exact wp_of (ha.run (ok'.up (Step.heap' ok'.sees (kp_ext he))) (by simpa using hv')) fun _ _ z => ⟨rfl, _, z⟩) hs hw
end
end Mine
end
section
open PySem PySem.W PyProof.Rows
set_option maxRecDepth 100000
set_option linter.unusedVariables false
namespace Mine
/-! Loops. -/
structure Lp (prog : Program) (w : World) (A : Around) (target : Expr) (items : List Item) (g₁ : View) (I : Addr) (fp wr : List Addr) (P Md : Nat → Value → Heap → Prop) (St : Nat → Heap → Prop) : Prop where
  turns : KTurns prog w A target I fp wr items.length P Md St
  fpg : ∀ b ∈ fp, b ∈ wr ∨ ∃ o, g₁ b = some o
  obj : ∀ i h, St i h → ∀ b ∈ wr, ∃ o, h.get? b = some o
  item : ∀ i v h g', i < items.length → VLe g₁ g' → Sees g' h → P i v h → ∃ j, items[i]? = some j ∧ j.is g' h v
  self : ∀ i (s : Shared) (Q : Value → Shared → Prop) (E : Value → Shared → Prop), St i s.heap → Q (.ref I) s → wpAny (model prog w) A (pyIter (.ref I)) Q E s
noncomputable def Turning (prog : Program) (w : World) (A : Around) (target : Expr) (items : List Item) (g : View) (s : Shared) (it : Value) (g₁ : View) (s₁ : Shared) : Prop :=
  Step g s g₁ s₁ ∧ ∃ (I : Addr) (fp wr : List Addr) (P Md : Nat → Value → Heap → Prop) (St : Nat → Heap → Prop),
    it = .ref I ∧ Lp prog w A target items g₁ I fp wr P Md St ∧ St 0 s₁.heap ∧ ∀ b ∈ wr, s.heap.get? b = none ∧ g₁ b = none
/-- an expression whose value is walked -/
structure EvIter (prog : Program) (w : World) (X : Ctx) (iter target : Expr) (items : List Item) : Prop where
  run : ∀ g s, X.ok g s → wpAny (model prog w) X.A (eval iter X.env) (fun x s₁ => wpAny (model prog w) X.A (pyIter x) (fun it s₂ => ∃ g₁, Turning prog w X.A target items g s it g₁ s₂) NoE s₁) NoE s

section
variable {prog : Program} {w : World} {K : View} {F : Fr} {c c' : Cfg} {g g' : View} {s s' : Shared}
structure Apart (F : Fr) (c : Cfg) (wr : List Addr) (g : View) : Prop where
  view : ∀ b ∈ wr, g b = none
  base : ∀ b ∈ wr, F.s₀.heap.get? b = none
  own : ∀ b ∈ wr, b ∉ F.own
  hold : ∀ b ∈ wr, F.hold b = none
  pv : ∀ b ∈ wr, ∀ a P, c.pv = some (a, P) → b ≠ a
theorem Fm.moved {wr : List Addr} {h' : Heap} {t : Nat} (x : Fm K F c g s) (a : Apart F c wr g) (k : ∀ b o, b ∉ wr → s.heap.get? b = some o → h'.get? b = some o) : Fm K F c g { s with heap := h', toks := t } where
  fok := x.fok
  st := { same := by obtain ⟨h, tk, e⟩ := x.st.same; exact ⟨h', t, by rw [e]⟩
          keep := fun b o e => k b o (fun q => by rw [a.base b q] at e; cases e) (x.st.keep b o e)
          ext := x.st.ext
          new := x.st.new
          sees := fun b o e => k b o (fun q => by rw [a.view b q] at e; cases e) (x.sees b o e) }
  own := x.own
  cells := fun b hb ne => let ⟨v, o, e, d⟩ := x.cells b hb ne; ⟨v, o, k b o (fun q => a.own b q hb) e, d⟩
  held := fun b o e => k b o (fun q => by rw [a.hold b q] at e; cases e) (x.held b o e)
  apart := x.apart
  vars := by
    obtain ⟨m, hn, hv⟩ := x.vars
    refine ⟨m, hn.at' fun o e => k _ o (fun q => a.own _ q x.fok.loc) e, fun y R e => ?_⟩
    obtain ⟨v, hr, hat⟩ := hv y R e
    refine ⟨v, hr, ?_⟩
    rcases hat with ⟨p, q⟩ | ⟨p, d, q, z, o, e, dd⟩
    · exact .inl ⟨p, q⟩
    · refine .inr ⟨p, d, q, z, o, k d o (fun hd => ?_) e, dd⟩
      rcases z.2 with z | ⟨o', z⟩
      · exact a.own d hd z
      · rw [a.base d hd] at z; cases z
  pv := fun b P e => by
    obtain ⟨p, q⟩ := x.pv b P e
    exact ⟨P.at' (fun o z => k b o (fun hb => a.pv b hb b P e rfl) z) p, q⟩

/-- the frame of a loop's body: the iterator is held -/
noncomputable def Fr.inner (F : Fr) (G H : View) : Fr := { F with g₀ := G, hold := H }
structure Held (wr : List Addr) (H hold : View) (h : Heap) : Prop where
  on : ∀ b ∈ wr, H b = h.get? b
  off : ∀ b, b ∉ wr → H b = hold b
noncomputable def holdOn (wr : List Addr) (hold : View) (h : Heap) : View := fun b => if b ∈ wr then h.get? b else hold b
theorem held_on (wr : List Addr) (hold : View) (h : Heap) : Held wr (holdOn wr hold h) hold h := ⟨fun b hb => if_pos hb, fun b hb => if_neg hb⟩

theorem Fm.enter {wr : List Addr} {g₁ H : View} (x : Fm K F c g s) (a : Apart F c wr g) (le : VLe g₁ g) (base : VLe F.g₀ g₁) (hH : Held wr H F.hold s.heap) : Fm K (F.inner g₁ H) c g s where
  fok := { x.fok with base := x.fok.base.trans base }
  st := { same := x.st.same, keep := x.st.keep, ext := le, new := fun b o e => (x.st.new b o e).imp_left fun q => base _ _ q, sees := x.sees }
  own := fun b hb => ⟨(x.own b hb).1, (x.own b hb).2.1, (by
    show H b = none
    rw [hH.off b fun q => a.own b q hb]; exact (x.own b hb).2.2)⟩
  cells := x.cells
  held := fun b o e => by
    by_cases q : b ∈ wr
    · have e : H b = some o := e
      rw [hH.on b q] at e; exact e
    · have e : H b = some o := e
      rw [hH.off b q] at e; exact x.held b o e
  apart := fun b o e => by
    by_cases q : b ∈ wr
    · exact a.view b q
    · have e : H b = some o := e
      rw [hH.off b q] at e; exact x.apart b o e
  vars := x.vars
  pv := fun b P e => by
    obtain ⟨p, q, r, n, z⟩ := x.pv b P e
    exact ⟨p, q, r, n, (by show H b = none; rw [hH.off b fun hb => a.pv b hb b P e rfl]; exact z)⟩
theorem Fm.leave {wr : List Addr} {g₁ H : View} {h : Heap} (x : Fm K (F.inner g₁ H) c g s) (fok : F.Ok K) (base : VLe F.g₀ g₁) (new : ∀ a o, g₁ a = some o → F.g₀ a = some o ∨ F.s₀.heap.get? a = none)
    (hH : Held wr H F.hold h) (hw : ∀ b ∈ wr, F.hold b = none) : Fm K F c g s where
  fok := fok
  st := { same := x.st.same, keep := x.st.keep, ext := base.trans x.st.ext, new := fun b o e => (x.st.new b o e).elim (new b o) .inr, sees := x.sees }
  own := fun b hb => ⟨(x.own b hb).1, (x.own b hb).2.1, (by
    by_cases q : b ∈ wr
    · exact hw b q
    · rw [← hH.off b q]; exact (x.own b hb).2.2)⟩
  cells := x.cells
  held := fun b o e => x.held b o (by show H b = some o; rw [hH.off b fun q => by rw [hw b q] at e; cases e]; exact e)
  apart := fun b o e => x.apart b o (by show H b = some o; rw [hH.off b fun q => by rw [hw b q] at e; cases e]; exact e)
  vars := x.vars
  pv := fun b P e => by
    obtain ⟨p, q, r, n, z⟩ := x.pv b P e
    refine ⟨p, q, r, n, ?_⟩
    by_cases hb : b ∈ wr
    · exact hw b hb
    · rw [← hH.off b hb]; exact z
theorem Apart.next {wr : List Addr} {g₁ H : View} {h : Heap} {c₀ : Cfg} {g₀ : View} (a : Apart F c₀ wr g₀) (x : Fm K (F.inner g₁ H) c g s) (hH : Held wr H F.hold h) (ho : ∀ b ∈ wr, ∃ o, h.get? b = some o) : Apart F c wr g where
  view := fun b hb => let ⟨o, e⟩ := ho b hb; x.apart b o (by show H b = some o; rw [hH.on b hb]; exact e)
  base := a.base
  own := a.own
  hold := a.hold
  pv := fun b hb d P e => by
    rintro rfl
    obtain ⟨o, q⟩ := ho b hb
    have : H b = none := (x.pv b P e).2.2.2.2
    rw [hH.on b hb, q] at this; cases this

/-- where a loop stands -/
structure At' (K : View) (F : Fr) (c : Cfg) (wr : List Addr) (St : Nat → Heap → Prop) (g₁ g : View) (s : Shared) (i : Nat) : Prop where
  fm : Fm K F c g s
  le : VLe g₁ g
  st : St i s.heap
  ap : Apart F c wr g
variable {target : Expr} {items : List Item} {g₁ : View} {I : Addr} {fp wr : List Addr} {P Md : Nat → Value → Heap → Prop} {St : Nat → Heap → Prop}
theorem Lp.turn (L : Lp prog w F.A target items g₁ I fp wr P Md St) (base : VLe F.g₀ g₁) {i : Nat} (hi : i < items.length) (x : At' K F c wr St g₁ g s i) :
    wpAny (model prog w) F.A (pyNext (.ref I)) (fun r s₁ => ∃ v, r = some v ∧ wpAny (model prog w) F.A (letOwnedTupleGo target (.ref I) v) (fun _ s₂ =>
      ∃ j, items[i]? = some j ∧ j.is g s₂.heap v ∧ St (i + 1) s₂.heap ∧ Fm K (F.inner g₁ (holdOn wr F.hold s₂.heap)) c g s₂) NoE s₁) NoE s := by
  refine L.turns.item i s _ _ hi x.st fun v h' tk hm hk => ⟨v, rfl, ?_⟩
  have ok₁ : Fm K F c g { s with heap := h', toks := tk } := x.fm.moved x.ap hk
  refine L.turns.go i v _ _ _ hm fun h₂ hP hst hk₂ => ?_
  have ok₂ : Fm K F c g { s with heap := h₂, toks := tk } := ok₁.moved (t := tk) x.ap hk₂
  obtain ⟨j, hj, hjs⟩ := L.item i v h₂ g hi x.le ok₂.sees hP
  exact ⟨j, hj, hjs, hst, ok₂.enter x.ap x.le base (held_on _ _ _)⟩
theorem Lp.back (L : Lp prog w F.A target items g₁ I fp wr P Md St) (base : VLe F.g₀ g₁) (new : ∀ a o, g₁ a = some o → F.g₀ a = some o ∨ F.s₀.heap.get? a = none) (fok : F.Ok K) {c₀ : Cfg} {g₀ : View} (a : Apart F c₀ wr g₀) {i : Nat} {h : Heap}
    (hst : St i h) (hs : Sees g₁ h) (x : Fm K (F.inner g₁ (holdOn wr F.hold h)) c g s) : At' K F c wr St g₁ g s i where
  fm := x.leave fok base new (held_on wr F.hold h) a.hold
  le := x.st.ext
  st := L.turns.frame i h s.heap hst fun b hb o e => by
    by_cases hw : b ∈ wr
    · exact x.held b o (by show holdOn wr F.hold h b = some o; rw [(held_on wr F.hold h).on b hw]; exact e)
    · rcases L.fpg b hb with q | ⟨o', q⟩
      · exact (hw q).elim
      · have e' := hs b o' q
        rw [e] at e'; cases e'
        exact x.sees b o (x.st.ext b o q)
  ap := a.next x (held_on wr F.hold h) (L.obj i h hst)
theorem Lp.fin (L : Lp prog w F.A target items g₁ I fp wr P Md St) (x : At' K F c wr St g₁ g s items.length) : wpAny (model prog w) F.A (pyNext (.ref I)) (fun r s₁ => r = none ∧ Fm K F c g s₁) NoE s :=
  L.turns.done s _ _ x.st fun h' tk hk => ⟨rfl, x.fm.moved x.ap hk⟩
theorem Turning.start (ok : Fm K F c g s) {it : Value} {s₁ : Shared} (t : Turning prog w F.A target items g s it g₁ s₁) : ∃ I fp wr P Md St, it = .ref I ∧ Lp prog w F.A target items g₁ I fp wr P Md St ∧ At' K F c wr St g₁ g₁ s₁ 0 ∧
    VLe F.g₀ g₁ ∧ ∀ a o, g₁ a = some o → F.g₀ a = some o ∨ F.s₀.heap.get? a = none := by
  obtain ⟨st, I, fp, wr, P, Md, St, e, L, h0, hw⟩ := t
  refine ⟨I, fp, wr, P, Md, St, e, L, ⟨ok.up st, VLe.refl _, h0, ⟨fun b hb => (hw b hb).2, fun b hb => ?_, fun b hb ho => ?_, fun b hb => ?_, fun b hb a P e => ?_⟩⟩, ok.st.ext.trans st.ext, (ok.st.trans st).new⟩
  · cases q : F.s₀.heap.get? b with
    | none => rfl
    | some o => have := ok.st.keep b o q; rw [(hw b hb).1] at this; cases this
  · obtain ⟨o, q⟩ := ok.ownObj ho; rw [(hw b hb).1] at q; cases q
  · cases q : F.hold b with
    | none => rfl
    | some o => have := ok.held b o q; rw [(hw b hb).1] at this; cases this
  · rintro rfl
    obtain ⟨o, q⟩ := P.here (ok.pv b P e).1
    rw [(hw b hb).1] at q; cases q

theorem Fm.to (h : Fm K F c g s) (hs : Sub c.ρ c'.ρ) (hp : c'.pv = c.pv) : Fm K F c' g s := by
  obtain ⟨ρ, pv⟩ := c'
  obtain ⟨ρ₀, pv₀⟩ := c
  simp only at hp hs
  subst hp
  exact h.weaken hs
noncomputable def Bd (K : View) (F : Fr) (c : Cfg) (R : Rel) : Flow → Shared → Prop := fun f s => Nx K F c f s ∨ Rt F R f s
theorem Rt.outer {R : Rel} {H : View} {f : Flow} (base : VLe F.g₀ g₁) (new : ∀ a o, g₁ a = some o → F.g₀ a = some o ∨ F.s₀.heap.get? a = none) (h : Rt (F.inner g₁ H) R f s) : Rt F R f s := by
  obtain ⟨v, g, e, st, hr⟩ := h
  exact ⟨v, g, e, { same := st.same, keep := st.keep, ext := base.trans st.ext, new := fun b o e => (st.new b o e).elim (new b o) .inr, sees := st.sees }, hr⟩
theorem s_forR {iter : Expr} {body : List Stmt} {pos : Pos} (inv mid : Nat → Cfg) {R : Rel} (hi : EvIter prog w (F.ctx K c) iter target items) (h0 : Sub c.ρ (inv 0).ρ) (hp : (inv 0).pv = c.pv)
    (hb : ∀ G H i j, items[i]? = some j → AsI prog w K (F.inner G H) (inv i) target j (mid i) ∧ So prog w K (F.inner G H) (mid i) (execs body F.env) (Bd K (F.inner G H) (inv (i + 1)) R))
    (hf : ∀ x, foldedSetIterable iter F.env x = pure x := by intro _; rfl) :
    So prog w K F c (exec (.For target iter body [] pos) F.env) (Bd K F (inv items.length) R) := .mk fun g s ok => by
  refine wpAny_For (wp_of (hi.run g s ok) fun x s₁ hx => wp_of hx fun it s₂ hpat => ?_) hf
  obtain ⟨g₁, t⟩ := hpat
  obtain ⟨I, fp, wr, P, Md, St, rfl, L, at0, base, new⟩ := t.start ok
  refine codeAny_forLoop_any (fun k s' => ∃ i g', At' K F (inv i) wr St g₁ g' s' i ∧ i ≤ items.length ∧ k = items.length + 1 - i) ?_ (items.length + 1)
    ⟨0, g₁, { at0 with fm := at0.fm.to h0 hp, ap := { at0.ap with pv := fun b hb a P e => at0.ap.pv b hb a P (hp ▸ e) } }, Nat.zero_le _, rfl⟩
  rintro k s' ⟨i, g', x, hle, rfl⟩
  by_cases hlt : i < items.length
  · refine wp_of (L.turn base hlt x) fun r s₁ hpat => ?_
    obtain ⟨v, e, hg⟩ := hpat
    subst e
    refine wp_of hg fun _ s₂ hpat => ?_
    obtain ⟨j, hj, hjs, hst, ok₂⟩ := hpat
    obtain ⟨ha, hbd⟩ := hb g₁ (holdOn wr F.hold s₂.heap) i j hj
    have hs₂ : Sees g₁ s₂.heap := fun b o e => ok₂.sees b o (x.le b o e)
    refine wp_of (ha v g' s₂ ok₂ hjs) fun _ s₃ ok₃ => wp_of (hbd.run g' s₃ ok₃) fun f s₄ h₄ => ?_
    rcases h₄ with ⟨rfl, g₄, ok₄⟩ | h₄
    · exact ⟨items.length + 1 - (i + 1), by grind, i + 1, g₄, L.back base new ok.fok x.ap hst hs₂ ok₄, hlt, rfl⟩
    · have h₅ := Rt.outer base new h₄
      obtain ⟨v, g₄, rfl, z⟩ := h₅
      exact .inr ⟨v, g₄, rfl, z⟩
  · have e : i = items.length := by lia
    subst e
    refine wp_of (L.fin x) fun r s₁ hpat => ?_
    obtain ⟨e, ok₁⟩ := hpat
    subst e
    exact wpAny_execs_nil (.inl ⟨rfl, g', ok₁⟩)
end
end Mine
end
section
open PySem PySem.W PyProof.Rows
set_option maxRecDepth 100000
set_option linter.unusedVariables false
namespace Mine
/-! Own lists; comprehensions. -/
noncomputable def PvL (Rs : List Rel) : Pv where
  is := fun g a h => ∃ vs : List Value, h.PlainList a vs.toArray ∧ All2 g Rs vs
  up := fun k ⟨vs, h, a⟩ => ⟨vs, h, a.up k⟩
  at' := fun k ⟨vs, h, a⟩ => ⟨vs, h.at k, a⟩
  here := fun ⟨vs, ⟨n, h⟩, a⟩ => ⟨_, h⟩
section
variable {prog : Program} {w : World} {K : View} {F : Fr} {c c' : Cfg} {g g' : View} {s s' : Shared}
/-- the frame's own object is written -/
theorem Fm.wrotePv {D : Addr} {P P' : Pv} {h' : Heap} {t : Nat} (x : Fm K F c g s) (hp : c.pv = some (D, P)) (hs : Heap.SameBut D s.heap h') (h : P'.is g D h') : Fm K F { c with pv := some (D, P') } g { s with heap := h', toks := t } := by
  obtain ⟨p, q, r, n, z⟩ := x.pv D P hp
  have k : ∀ b o, b ≠ D → s.heap.get? b = some o → h'.get? b = some o := fun b o hb e => hs.extBut b o hb e
  have nl : F.env.locals ≠ D := fun e => n (e ▸ x.fok.loc)
  exact {
    fok := x.fok
    st := { same := by obtain ⟨h, tk, e⟩ := x.st.same; exact ⟨h', t, by rw [e]⟩
            keep := fun b o e => k b o (fun z => by subst z; rw [r] at e; cases e) (x.st.keep b o e)
            ext := x.st.ext
            new := x.st.new
            sees := fun b o e => k b o (fun z => by subst z; rw [q] at e; cases e) (x.sees b o e) }
    own := x.own
    cells := fun b hb ne => let ⟨v, y⟩ := x.cells b hb ne; ⟨v, y.sameBut hs fun e => n (e ▸ hb)⟩
    held := fun b o e => k b o (fun y => by subst y; rw [z] at e; cases e) (x.held b o e)
    apart := x.apart
    vars := by
      obtain ⟨m, hn, hv⟩ := x.vars
      refine ⟨m, hn.sameBut hs nl, fun y R e => ?_⟩
      obtain ⟨v, hr, hat⟩ := hv y R e
      refine ⟨v, hr, ?_⟩
      rcases hat with ⟨a, b⟩ | ⟨a, d, b, y, u⟩
      · exact .inl ⟨a, b⟩
      · refine .inr ⟨a, d, b, y, u.sameBut hs fun e => ?_⟩
        subst e
        rcases y.2 with y | ⟨o, y⟩
        · exact n y
        · rw [r] at y; cases y
    pv := fun b P'' e => by
      simp only [Option.some.injEq, Prod.mk.injEq] at e
      obtain ⟨rfl, rfl⟩ := e
      exact ⟨h, q, r, n, z⟩ }
theorem append_pv {D : Addr} {Rs : List Rel} {R : Rel} {v : Value} (x : Fm K F c g s) (hp : c.pv = some (D, PvL Rs)) (hr : R.r g v) (hn : Rs.length ≤ 16777216) :
    wpAny (model prog w) F.A (call (.builtin "list.append") [.ref D, v]) (fun r s' => r = .none ∧ Fm K F { c with pv := some (D, PvL (Rs ++ [R])) } g s') NoE s := by
  obtain ⟨⟨vs, hl, ha⟩, _⟩ := x.pv D _ hp
  refine wpAny_list_append_plain hl (fun h' hl' hs => ⟨rfl, x.wrotePv (t := s.toks) hp hs ⟨vs ++ [v], ?_, ha.append ⟨hr, trivial⟩⟩⟩) (by rw [List.size_toArray, ha.length]; exact small_line hn)
  have : (vs ++ [v]).toArray = vs.toArray.push v := by simp
  rw [this]; exact hl'
/-- an object of the frame's own, frozen -/
theorem Fm.freeze {D : Addr} {Rs : List Rel} (x : Fm K F c g s) (hp : c.pv = some (D, PvL Rs)) : ∃ g', VLe g g' ∧ Step F.g₀ F.s₀ g' s ∧ (RL Rs).r g' (.ref D) := by
  obtain ⟨⟨vs, ⟨n, hl⟩, ha⟩, q, r, no, z⟩ := x.pv D _ hp
  have le : VLe g (g.add D { cls := .type "list", data := .seq vs.toArray n }) := View.le_add q
  have sees : Sees (g.add D { cls := .type "list", data := .seq vs.toArray n }) s.heap := fun b o e => by
    unfold View.add at e
    split at e
    · rename_i w; subst w; cases e; exact hl
    · exact x.sees b o e
  refine ⟨g.add D { cls := .type "list", data := .seq vs.toArray n }, le, ?_, D, vs, rfl, ⟨n, View.add_self _ _ _⟩, ha.up le⟩
  · exact {
      same := x.st.same, keep := x.st.keep, ext := x.st.ext.trans le, sees := sees
      new := fun b o e => by
        unfold View.add at e
        split at e
        · rename_i w; subst w; exact .inr r
        · exact x.st.new b o e }

/-! comprehensions -/
noncomputable def Fr.comp (F : Fr) (scope : Scope) (cl : List (Str × Addr)) (C : Addr) (g : View) (s : Shared) : Fr := ⟨F.A, compEnvC scope cl C F.env, g, s, [C], fun _ => none, F.room⟩
noncomputable def FreeOk (F : Fr) (scope : Scope) (cl : List (Str × Addr)) (ρ : List (Str × Rel)) : List (Str × Rel) → Prop
  | [] => True
  | p :: l => ((∃ R, look p.1 ρ = some R ∧ Le R p.2) ∧ ((compEnvC scope cl 0 F.env).kindOf p.1 = some .cell ∨ (compEnvC scope cl 0 F.env).kindOf p.1 = some .free) ∧ (F.env.kindOf p.1 == some .local) = false ∧
      cl.lookup p.1 = F.env.cells.lookup p.1) ∧ FreeOk F scope cl ρ l
theorem FreeOk.look {scope : Scope} {cl : List (Str × Addr)} {ρ : List (Str × Rel)} : ∀ {ρ' : List (Str × Rel)}, FreeOk F scope cl ρ ρ' → ∀ {x R}, look x ρ' = some R →
    (∃ R₀, look x ρ = some R₀ ∧ Le R₀ R) ∧ ((compEnvC scope cl 0 F.env).kindOf x = some .cell ∨ (compEnvC scope cl 0 F.env).kindOf x = some .free) ∧ (F.env.kindOf x == some .local) = false ∧ cl.lookup x = F.env.cells.lookup x
  | [], _, x, R, e => by cases e
  | (y, Y) :: l, h, x, R, e => by
    by_cases hy : y = x
    · subst hy; rw [look_cons_self] at e; cases e; exact h.1
    · rw [look_cons_ne _ _ hy] at e; exact FreeOk.look h.2 e
structure CompOk (F : Fr) (scope : Scope) (cl : List (Str × Addr)) : Prop where
  clos : closureFor scope F.env = pure cl
  cell : ∀ y ∈ scope.names, y.2 ≠ .cell
  kind : scope.kind = .function
  names : ∀ y ∈ scope.names, y.2 = .local → scope.names.lookup y.1 = some .local
theorem Fm.comp {scope : Scope} {cl : List (Str × Addr)} {C D : Addr} {g₁ : View} {s₂ s₄ : Shared} {ρ' : List (Str × Rel)} {P : Pv} (x : Fm K F c g s) (st : Step g s g₁ s₂) (co : CompOk F scope cl) (fr : FreeOk F scope cl c.ρ ρ')
    (hC : s₂.heap.get? C = none) (hD : s₂.heap.get? D = none) (hDC : D ≠ C) (k : Kp s₂.heap s₄.heap) (he : ∃ h tk, s₄ = { s₂ with heap := h, toks := tk }) (hn : ∃ m, s₄.heap.Ns C m) (hP : P.is g₁ D s₄.heap) :
    Fm K (F.comp scope cl C g s) ⟨ρ', some (D, P)⟩ g₁ s₄ := by
  have none_s : ∀ a, s₂.heap.get? a = none → s.heap.get? a = none := fun a e => by
    cases q : s.heap.get? a with
    | none => rfl
    | some o => rw [st.keep _ _ q] at e; cases e
  have none_g : ∀ a, s₂.heap.get? a = none → g₁ a = none := fun a e => none_of_sees st.sees e
  exact {
    fok := { kind := co.kind, loc := List.mem_singleton.mpr rfl, inj := fun _ _ a h n => absurd (List.mem_singleton.mp h) n, handled := x.fok.handled, room := x.fok.room, units := x.fok.units, lim := x.fok.lim.keeps x.st.keep, low := (let ⟨a, o, h, e⟩ := x.fok.low; ⟨a, o, h, x.st.keep _ _ e⟩),
             base := x.fok.base.trans x.st.ext, globals := x.fok.globals, builtins := x.fok.builtins }
    st := st.trans (by
      obtain ⟨h, tk, rfl⟩ := he
      exact Step.heap st.sees k)
    own := fun a ha => by
      rw [List.mem_singleton.mp ha]
      exact ⟨none_g C hC, none_s C hC, rfl⟩
    cells := fun a ha ne => absurd (List.mem_singleton.mp ha) ne
    held := fun a o e => by cases e
    apart := fun a o e => by cases e
    vars := by
      obtain ⟨m, hn⟩ := hn
      obtain ⟨m₀, _, hv⟩ := x.vars
      refine ⟨m, hn, fun y R e => ?_⟩
      obtain ⟨⟨R₀, e₀, le⟩, hk, hl, hcl⟩ := fr.look e
      obtain ⟨v, hr, hat⟩ := hv y R₀ e₀
      refine ⟨v, R.up st.ext (le _ _ hr), ?_⟩
      rcases hat with ⟨a, _⟩ | ⟨_, a, ha, _, hc⟩
      · rw [a] at hl; exact absurd hl (by decide)
      · refine .inr ⟨hk, a, by show cl.lookup y = some a; rw [hcl]; exact ha, ⟨fun q => ?_, .inr (IsCell.obj hc)⟩, (hc.keeps st.keep).keeps k⟩
        have q : a = C := q
        subst q
        obtain ⟨o, q⟩ := IsCell.obj (hc.keeps st.keep)
        rw [hC] at q; cases q
    pv := fun a P' e => by
      simp only [Option.some.injEq, Prod.mk.injEq] at e
      obtain ⟨rfl, rfl⟩ := e
      exact ⟨hP, none_g _ hD, none_s _ hD, fun q => hDC (List.mem_singleton.mp q), rfl⟩ }

theorem codeAny_compLoop_go {R : Result → Shared → Prop} {A : Around} {elt target iter : Expr} {ifs : List Expr} {scope : Scope} {pos : Pos} {it acc : Value} {env : Env} (I : Nat → Shared → Prop)
    (turn : ∀ n s, I n s → wpAny (model prog w) A (pyNext it) (fun r s₁ => match r with
      | none => R (.ok .next) s₁
      | some v => wpAny (model prog w) A (letOwnedTupleGo target it v) (fun _ s₁' => wpAny (model prog w) A (assign target env v) (fun _ s₂ =>
          wpAny (model prog w) A (forIn ifs true fun c r => if r = true then do let ok ← isTrue c env (eval c env); pure (ForInStep.yield ok) else pure (ForInStep.yield r)) (fun ok s₃ =>
            if ok = true then wpAny (model prog w) A (eval elt env) (fun x s₄ =>
              wpAny (model prog w) A (call (.builtin "list.append") [acc, x]) (fun _ s₅ => ∃ m, m < n ∧ I m s₅) NoE s₄) NoE s₃
            else ∃ m, m < n ∧ I m s₃) NoE s₂) NoE s₁') NoE s₁) NoE s)
    (n : Nat) (h : I n s) :
    codeAny (model prog w) A (.compLoop (.ListComp elt [⟨target, iter, ifs, 0⟩] scope pos) 0 it acc env) R s := by
  refine codeAny_loop rfl I (fun n s hI => ?_) n h
  show wpAny _ A ((compTurn (.ListComp elt [⟨target, iter, ifs, 0⟩] scope pos) 0 it acc env).onRaise (fun x => do noteFrame x env; theTreesLotGoes x)) _ _ s
  refine wpAny_noted ?_
  rw [compTurn_list]
  refine wpAny_bind (wpAny_standAt (wpAny_bind (wp_of (turn n s hI) fun r s₁ h₁ => ?_)))
  cases r with
  | none => exact wpAny_pure h₁
  | some v =>
    refine wpAny_bind (wp_of h₁ fun _ s₁' h₁' => wpAny_bind (wp_of h₁' fun _ s₂ h₂ => wpAny_bind (wp_of h₂ fun ok s₃ h₃ => ?_)))
    cases ok with
    | false => exact wpAny_pure ⟨rfl, h₃⟩
    | true => exact wpAny_bind (wpAny_bind (wp_of h₃ fun x s₄ h₄ => wpAny_bind (wp_of h₄ fun _ s₅ h₅ => wpAny_pure (wpAny_pure ⟨rfl, h₅⟩))))

/-- the tests of a comprehension -/
noncomputable def Tst (prog : Program) (w : World) (K : View) (F : Fr) (c : Cfg) (ifs : List Expr) (b : Bool) : Prop :=
  Tr prog w (F.ctx K c) (fun _ => True) (forIn ifs true fun e r => if r = true then do let ok ← isTrue e F.env (eval e F.env); pure (ForInStep.yield ok) else pure (ForInStep.yield r)) (fun _ ok => ok = b)
theorem Tst.nil : Tst prog w K F c [] true := .mk fun g s ok _ => wpAny_tests_nil (ends_here ok.sees rfl)
theorem Tst.one {e : Expr} {b : Bool} (h : Te prog w (F.ctx K c) e b) : Tst prog w K F c [e] b := .mk fun g s ok _ => wpAny_tests_one (h.run g s ok trivial)
end
end Mine
end
section
open PySem PySem.W PyProof.Rows
set_option maxRecDepth 100000
set_option linter.unusedVariables false
namespace Mine
section
variable {prog : Program} {w : World} {K : View} {F : Fr} {c c' : Cfg} {g g' : View} {s s' : Shared}
theorem Fm.toρ {ρ ρ' : List (Str × Rel)} {pv : Option (Addr × Pv)} (h : Fm K F ⟨ρ, pv⟩ g s) (hs : Sub ρ ρ') : Fm K F ⟨ρ', pv⟩ g s := h.to hs rfl
theorem filterMap_take_succ {α : Type} {l : List (Option α)} {i : Nat} {o : Option α} (h : l[i]? = some o) : (l.take (i + 1)).filterMap id = (l.take i).filterMap id ++ o.toList := by
  rw [List.take_add_one, h, List.filterMap_append]
  cases o <;> rfl
noncomputable def kept {α : Type} (outs : List (Option α)) (i : Nat) : Bool := (outs[i]?.getD Option.none).isSome
theorem kept_of {α : Type} {outs : List (Option α)} {i : Nat} {o : Option α} (h : outs[i]? = some o) : kept outs i = o.isSome := by unfold kept; rw [h]; rfl
/-- what a comprehension's parts must do, turn by turn -/
noncomputable def CompB (prog : Program) (w : World) (K : View) (F : Fr) (scope : Scope) (cl : List (Str × Addr)) (target : Expr) (ifs : List Expr) (items : List Item) (ρ' : List (Str × Rel)) (mid : Nat → List (Str × Rel)) (keep : Nat → Bool)
    (elt : Fr → Cfg → Nat → Prop) : Prop :=
  ∀ C g s G H pv i j, items[i]? = some j → AsI prog w K ((F.comp scope cl C g s).inner G H) ⟨ρ', pv⟩ target j ⟨mid i, pv⟩ ∧ Sub (mid i) ρ' ∧ Tst prog w K ((F.comp scope cl C g s).inner G H) ⟨mid i, pv⟩ ifs (keep i) ∧
    (keep i = true → elt ((F.comp scope cl C g s).inner G H) ⟨mid i, pv⟩ i)
/-- the frame of a comprehension is made -/
theorem comp_enter {scope : Scope} {cl : List (Str × Addr)} {target : Expr} {items : List Item} {ρ' : List (Str × Rel)} {g₁ : View} {s₂ : Shared} {it : Value} (ok : Fm K F c g s) (co : CompOk F scope cl) (fr : FreeOk F scope cl c.ρ ρ')
    (t : Turning prog w F.A target items g s it g₁ s₂) {o : Obj} (ho : o.isFreed = false) {P : Pv} (hP : ∀ h : Heap, h.get? s₂.heap.objs.size = some o → P.is g₁ s₂.heap.objs.size h) {Q : Env → Shared → Prop}
    (h : ∀ C s₄ I fp wr P₁ Md St, s₂.heap.get? C = none → s₂.heap.objs.size ≠ C → it = .ref I → Lp prog w F.A target items g₁ I fp wr P₁ Md St → VLe g g₁ → (∀ a o, g₁ a = some o → g a = some o ∨ s.heap.get? a = none) →
      At' K (F.comp scope cl C g s) ⟨ρ', some (s₂.heap.objs.size, P)⟩ wr St g₁ g₁ s₄ 0 → ∀ cenv : Env, cenv.locals = C → { cenv with scope := relabel scope F.env } = compEnvC scope cl C F.env → Q cenv s₄) :
    wpAny (model prog w) F.A (newFunctionEnv scope F.env.globals cl [] F.env.qual none .none (some F.env)) Q NoE { s₂ with heap := s₂.heap.push o } := by
  obtain ⟨st, I, fp, wr, P₁, Md, St, e, L, h0, hw⟩ := t
  refine wpAny_newFunctionEnv co.cell (by intro y hy; simp at hy) (fun h₁ hns hsb => ?_) co.kind
  dsimp only at hns hsb ⊢
  have hD : s₂.heap.get? s₂.heap.objs.size = none := get_size _
  have hsz : (s₂.heap.push o).objs.size = s₂.heap.objs.size + 1 := Heap.size_push ..
  have hC : s₂.heap.get? (s₂.heap.push o).objs.size = none := by
    cases q : s₂.heap.get? (s₂.heap.push o).objs.size with
    | none => rfl
    | some o' => have := Heap.lt_size q; rw [hsz] at this; exact absurd this (Nat.not_lt.mpr (Nat.le_succ _))
  have hDC : s₂.heap.objs.size ≠ (s₂.heap.push o).objs.size := by rw [hsz]; exact Nat.ne_of_lt (Nat.lt_succ_self _)
  have old : ∀ b o', (s₂.heap.push o).get? b = some o' → h₁.get? b = some o' := fun b o' q => hsb.extBut b o' (Nat.ne_of_lt (Heap.lt_size q)) (Heap.get?_push_of_some _ q)
  have keep : Kp s₂.heap h₁ := fun b o' q => old b o' (Heap.get?_push_of_some _ q)
  have fm := Fm.comp (s₄ := { s₂ with heap := h₁, toks := s₂.toks + ([] : List (Str × Value)).length }) (P := P) ok st co fr hC hD hDC keep ⟨_, _, rfl⟩ ⟨_, hns⟩ (hP h₁ (old _ _ (Heap.get?_push_size _ ho)))
  refine h _ _ I fp wr P₁ Md St hC hDC e L st.ext st.new ⟨fm, VLe.refl _, ?_, ?_⟩ _ rfl rfl
  · exact L.turns.frame 0 s₂.heap h₁ h0 fun b _ o' q => keep b o' q
  · refine ⟨fun b hb => (hw b hb).2, fun b hb => (hw b hb).1, fun b hb q => ?_, fun b hb => rfl, fun b hb a P' q => ?_⟩
    · obtain ⟨o', z⟩ := L.obj 0 _ h0 b hb
      rw [List.mem_singleton.mp q] at z
      have := Heap.lt_size z; rw [hsz] at this; exact absurd this (Nat.not_lt.mpr (Nat.le_succ _))
    · simp only [Option.some.injEq, Prod.mk.injEq] at q
      obtain ⟨rfl, rfl⟩ := q
      rintro rfl
      obtain ⟨o', z⟩ := L.obj 0 _ h0 _ hb
      rw [hD] at z; cases z

theorem listcomp_core {elt iter target : Expr} {ifs : List Expr} {scope : Scope} {pos p : Pos} {cl : List (Str × Addr)} {items : List Item} {ρ' : List (Str × Rel)} {mid : Nat → List (Str × Rel)} {outs : List (Option Rel)}
    {use : Option (Value → Sem Unit)} {Q : Value → Shared → Prop} (ok : Fm K F c g s) (hi : EvIter prog w (F.ctx K c) iter target items) (hlen : outs.length = items.length) (hsz : outs.length ≤ 16777216) (co : CompOk F scope cl) (fr : FreeOk F scope cl c.ρ ρ')
    (hb : CompB prog w K F scope cl target ifs items ρ' mid (kept outs) (fun F' c i => ∀ R, outs[i]? = some (some R) → Ev prog w (F'.ctx K c) elt R))
    (k : ∀ C D g' s', s.heap.get? C = none → D ≠ C → Fm K (F.comp scope cl C g s) ⟨ρ', some (D, PvL (outs.filterMap id))⟩ g' s' → compPost (model prog w) F.A NoE use Q (.ref D) C (.ok .next) s')
    (hf : ∀ x, foldedSetIterable iter F.env x = pure x) :
    wpAny (model prog w) F.A (comprehension (.ListComp elt [⟨target, iter, ifs, 0⟩] scope pos) scope F.env p (newList []) false (eval iter F.env) use) Q NoE s := by
  refine wpAny_comprehension_free rfl hf co.clos co.kind co.names (wp_of (hi.run g s ok) fun x s₁ hx => wp_of hx fun it s₂ hpat => ?_)
  obtain ⟨g₁, t⟩ := hpat
  refine wpAny_newObj_type (comp_enter ok co fr t rfl (P := PvL []) (fun h e => ⟨[], ⟨_, e⟩, trivial⟩) ?_) (by show #[].size ≤ sizeLine; exact small_line (Nat.zero_le _))
  intro C s₄ I fp wr P₁ Md St hC hDC e L le new at0 cenv hcl hce
  subst e
  have hCs : s.heap.get? C = none := by
    cases q : s.heap.get? C with
    | none => rfl
    | some o => rw [t.1.keep _ _ q] at hC; cases hC
  rw [hce, hcl]
  have loop : codeAny (model prog w) F.A (.compLoop (.ListComp elt [⟨target, iter, ifs, 0⟩] scope pos) 0 (.ref I) (.ref s₂.heap.objs.size) (compEnvC scope cl C F.env)) (compPost (model prog w) F.A NoE use Q (.ref s₂.heap.objs.size) C) s₄ := by
    refine codeAny_compLoop_go (fun k s' => ∃ i g', At' K (F.comp scope cl C g s) ⟨ρ', some (s₂.heap.objs.size, PvL ((outs.take i).filterMap id))⟩ wr St g₁ g' s' i ∧ i ≤ items.length ∧ k = items.length + 1 - i) ?_ (items.length + 1)
      ⟨0, g₁, at0, Nat.zero_le _, rfl⟩
    rintro k s' ⟨i, g', x, hle, rfl⟩
    by_cases hlt : i < items.length
    · refine wp_of (Lp.turn (F := F.comp scope cl C g s) L le hlt x) fun r s₁ hpat => ?_
      obtain ⟨v, e, hg⟩ := hpat
      subst e
      refine wp_of hg fun _ s₂ hpat => ?_
      obtain ⟨j, hj, hjs, hst, ok₂⟩ := hpat
      have hs₂ : Sees g₁ s₂.heap := fun b o e => ok₂.sees b o (x.le b o e)
      obtain ⟨ha, hsub, ht, he⟩ := hb C g s g₁ _ _ i j hj
      refine wp_of (ha v g' s₂ ok₂ hjs) fun _ s₃ ok₃ => wp_of (ht.run g' s₃ ok₃ trivial) fun b s₄ hpat => ?_
      obtain ⟨g₄, st₄, e⟩ := hpat
      have hilt : i < outs.length := by simp_all
      obtain ⟨o, ho⟩ : ∃ o, outs[i]? = some o := ⟨outs[i], by simp [hilt]⟩
      have ok₄ := ok₃.up st₄
      have e : b = kept outs i := e
      rw [kept_of ho] at e
      subst e
      cases o with
      | none =>
        rw [if_neg (show ¬ (Option.none : Option Rel).isSome = true from by decide)]
        refine ⟨items.length + 1 - (i + 1), by grind, i + 1, g₄, ?_, hlt, rfl⟩
        have z := Lp.back (F := F.comp scope cl C g s) L le new x.fm.fok x.ap hst hs₂ (ok₄.toρ hsub)
        rwa [filterMap_take_succ ho, Option.toList_none, List.append_nil]
      | some R =>
        rw [if_pos (show (some R).isSome = true from rfl)]
        refine wp_of ((he (kept_of ho) R ho).run g₄ s₄ ok₄ trivial) fun y s₅ hpat => ?_
        obtain ⟨g₅, st₅, hy⟩ := hpat
        have ok₅ := ok₄.up st₅
        have hle : ((outs.take i).filterMap id).length ≤ 16777216 := by
          have e1 : ((outs.take i).filterMap id).length ≤ (outs.take i).length := List.length_filterMap_le _ _
          have e2 : (outs.take i).length ≤ outs.length := by rw [List.length_take]; exact Nat.min_le_right _ _
          lia
        have hap := append_pv (prog := prog) (w := w) ok₅ rfl hy hle
        refine wp_of hap fun _ s₆ hpat => ?_
        obtain ⟨_, ok₆⟩ := hpat
        refine ⟨items.length + 1 - (i + 1), by omega, i + 1, g₅, ?_, hlt, rfl⟩
        have z := Lp.back (F := F.comp scope cl C g s) L le new x.fm.fok x.ap hst hs₂ (ok₆.toρ hsub)
        rwa [filterMap_take_succ ho]
    · have e : i = items.length := by grind
      subst e
      refine wp_of (Lp.fin (F := F.comp scope cl C g s) L x) fun r s₁ hpat => ?_
      obtain ⟨e, ok₁⟩ := hpat
      subst e
      have : outs.take items.length = outs := by rw [← hlen]; exact List.take_length
      rw [this] at ok₁
      exact k C _ g' s₁ hCs hDC ok₁
  exact codeAny_compStart_list loop (L.self 0 _ _ _ at0.st loop)

/-- a frame that is over is overwritten -/
theorem Step.over {C : Addr} {h' : Heap} (st : Step g s g' s') (hC : s.heap.get? C = none) (hg : g' C = none) (hs : Heap.SameBut C s'.heap h') : Step g s g' { s' with heap := h' } where
  same := by obtain ⟨h, tk, rfl⟩ := st.same; exact ⟨h', tk, rfl⟩
  keep := fun b o e => hs.extBut b o (fun q => by subst q; rw [hC] at e; cases e) (st.keep b o e)
  ext := st.ext
  new := st.new
  sees := fun b o e => hs.extBut b o (fun q => by subst q; rw [hg] at e; cases e) (st.sees b o e)
theorem Fm.compDone' {scope : Scope} {cl : List (Str × Addr)} {C D : Addr} {ρ' : List (Str × Rel)} {Rs : List Rel} (x : Fm K (F.comp scope cl C g s) ⟨ρ', some (D, PvL Rs)⟩ g' s') (hDC : D ≠ C) :
    ∃ m, s'.heap.Ns C m ∧ ∃ g'', g'' C = none ∧ Step g s g'' s' ∧ (RL Rs).r g'' (.ref D) := by
  obtain ⟨m, hn, _⟩ := x.vars
  obtain ⟨⟨vs, ⟨n, hl⟩, ha⟩, q, r, no, z⟩ := x.pv D _ rfl
  have le : VLe g' (g'.add D { cls := .type "list", data := .seq vs.toArray n }) := View.le_add q
  refine ⟨m, hn, g'.add D { cls := .type "list", data := .seq vs.toArray n }, ?_, ?_, D, vs, rfl, ⟨n, View.add_self _ _ _⟩, ha.up le⟩
  · unfold View.add; rw [if_neg fun e => hDC e.symm]; exact (x.own C (List.mem_singleton.mpr rfl)).1
  · exact {
      same := x.st.same, keep := x.st.keep, ext := x.st.ext.trans le
      new := fun b o e => by
        unfold View.add at e
        split at e
        · rename_i w; subst w; exact .inr r
        · exact x.st.new b o e
      sees := fun b o e => by
        unfold View.add at e
        split at e
        · rename_i w; subst w; cases e; exact hl
        · exact x.sees b o e }
theorem Ev.listcomp {elt iter target : Expr} {ifs : List Expr} {scope : Scope} {pos : Pos} {cl : List (Str × Addr)} {items : List Item} (ρ' : List (Str × Rel)) (mid : Nat → List (Str × Rel)) (outs : List (Option Rel))
    (hi : EvIter prog w (F.ctx K c) iter target items) (hlen : outs.length = items.length) (hsz : outs.length ≤ 16777216) (co : CompOk F scope cl) (fr : FreeOk F scope cl c.ρ ρ')
    (hb : CompB prog w K F scope cl target ifs items ρ' mid (kept outs) (fun F' c i => ∀ R, outs[i]? = some (some R) → Ev prog w (F'.ctx K c) elt R))
    (hf : ∀ x, foldedSetIterable iter F.env x = pure x := by intro _; rfl) :
    Ev prog w (F.ctx K c) (.ListComp elt [⟨target, iter, ifs, 0⟩] scope pos) (RL (outs.filterMap id)) := .mk fun g s ok _ => by
  show wpAny (model prog w) F.A (eval _ F.env) _ _ s
  rw [eval_ListComp]
  refine listcomp_core ok hi hlen hsz co fr hb (fun C D g' s' hC hDC x => ?_) hf
  obtain ⟨m, hn, g'', hg, st, hr⟩ := x.compDone' hDC
  exact ⟨m, hn, fun h' hs => ⟨g'', st.over hC hg hs, hr⟩⟩
theorem s_listcomp {elt iter target : Expr} {ifs : List Expr} {scope : Scope} {pos spos py : Pos} {y : Str} {cl : List (Str × Addr)} {items : List Item} (ρ' : List (Str × Rel)) (mid : Nat → List (Str × Rel)) (outs : List (Option Rel))
    (hi : EvIter prog w (F.ctx K c) iter target items) (hlen : outs.length = items.length) (hsz : outs.length ≤ 16777216) (co : CompOk F scope cl) (fr : FreeOk F scope cl c.ρ ρ')
    (hb : CompB prog w K F scope cl target ifs items ρ' mid (kept outs) (fun F' c i => ∀ R, outs[i]? = some (some R) → Ev prog w (F'.ctx K c) elt R)) (hy : F.Stores y)
    (hsw : swapsWith (.ListComp elt [⟨target, iter, ifs, 0⟩] scope pos) (some (.Name y py)) spos.line F.env = pure true := by rfl)
    (hf : ∀ x, foldedSetIterable iter F.env x = pure x := by intro _; rfl) :
    So prog w K F c (exec (.Assign [.Name y py] (.ListComp elt [⟨target, iter, ifs, 0⟩] scope pos) spos) F.env) (Nx K F (c.set y (RL (outs.filterMap id)))) := .mk fun g s ok => by
  rw [exec_Assign_Name_used _ _ _ _ hsw]
  refine wpAny_bind (wpAny_standAt (wpAny_bind ?_))
  show wpAny _ F.A (do let _ ← comprehension (.ListComp elt [⟨target, iter, ifs, 0⟩] scope pos) scope F.env _ (newList []) false (eval iter F.env) (some (assign (.Name y py) F.env))) _ _ s
  refine wpAny_bind (wp_of (listcomp_core (Q := fun _ s' => Nx K F (c.set y (RL (outs.filterMap id))) .next s') ok hi hlen hsz co fr hb (fun C D g' s' hC hDC x => ?_) hf) fun _ s' hq => wpAny_pure (wpAny_pure hq))
  obtain ⟨m, hn, g'', hg, st, hr⟩ := x.compDone' hDC
  have okc := ok.up st
  have hCo : C ∉ F.own := fun h => by obtain ⟨o, e⟩ := ok.ownObj h; rw [hC] at e; cases e
  have hCn : F.s₀.heap.get? C = none := by
    cases q : F.s₀.heap.get? C with
    | none => rfl
    | some o => have := ok.st.keep C o q; rw [hC] at this; cases this
  have hCL : F.env.locals ≠ C := fun e => hCo (e ▸ ok.fok.loc)
  show wpAny (model prog w) F.A (assign (.Name y py) F.env (.ref D)) _ _ _
  have ap : Apart F (c.set y (RL (outs.filterMap id))) [C] g'' := by
    refine ⟨fun b hb => by rw [List.mem_singleton.mp hb]; exact hg, fun b hb => by rw [List.mem_singleton.mp hb]; exact hCn, fun b hb => by rw [List.mem_singleton.mp hb]; exact hCo, fun b hb => ?_, fun b hb a P e => ?_⟩
    · rw [List.mem_singleton.mp hb]
      cases q : F.hold C with
      | none => rfl
      | some o => have := ok.held C o q; rw [hC] at this; cases this
    · rw [List.mem_singleton.mp hb]
      rintro rfl
      obtain ⟨o, q⟩ := P.here (ok.pv C P e).1
      rw [hC] at q; cases q
  have base : VLe F.g₀ g'' := ok.st.ext.trans st.ext
  have inn := okc.enter ⟨ap.view, ap.base, ap.own, ap.hold, ap.pv⟩ (VLe.refl _) base (held_on [C] F.hold s'.heap)
  have hy' : (F.inner g'' (holdOn [C] F.hold s'.heap)).Stores y := hy
  refine wp_of (As.name (p := py) hy' (.ref D) g'' s' inn hr) fun _ s'' ok'' => ?_
  have okL := ok''.leave ok.fok base (ok.st.trans st).new (held_on [C] F.hold s'.heap) ap.hold
  have hnC : s''.heap.Ns C m := hn.at' fun o e => ok''.held C o (by show holdOn [C] F.hold s'.heap C = some o; rw [(held_on [C] F.hold s'.heap).on C (List.mem_singleton.mpr rfl)]; exact e)
  refine ⟨m, hnC, fun h' hs => ⟨rfl, g'', okL.moved (t := s''.toks) ⟨ap.view, ap.base, ap.own, ap.hold, ap.pv⟩ fun b o hb e => hs.extBut b o (fun q => hb (by rw [q]; exact List.mem_singleton.mpr rfl)) e⟩⟩
end
end Mine
end
section
open PySem PySem.W PyProof.Rows
set_option maxRecDepth 100000
set_option linter.unusedVariables false
namespace Mine
/-! Names of the module, calls. -/
noncomputable def KNs (K : View) (a : Addr) (m : Str → Option Value) : Prop := ∃ o es ep, K a = some o ∧ o.data = .dict es ep ∧ StrKeys es ∧ ∀ name, nsFind es name = m name
theorem KNs.ns {K : View} {a : Addr} {m} (h : KNs K a m) {hp : Heap} (k : Sees K hp) : hp.Ns a m := let ⟨o, es, ep, e, r⟩ := h; ⟨o, es, ep, k _ _ e, r⟩
/-- a name that the module | the builtins give -/
noncomputable def Gl (K : View) (x : Str) (v : Value) : Prop := ∃ mg, KNs K mainGlobals mg ∧ (mg x = some v ∨ (mg x = none ∧ ∃ mb, KNs K builtinsNs mb ∧ mb x = some v))
noncomputable def CodeK (K : View) (cd : Value) (q : Str) : Prop := ∃ c o vs t, cd = .ref c ∧ K c = some o ∧ o.data = .fields vs ∧ vs[1]? = some (.str q t)
noncomputable def FnK (K : View) (f : Addr) (fd : FuncData) : Prop := ∃ o, K f = some o ∧ o.data = .func fd ∧ 1 ≤ f
section
variable {prog : Program} {w : World} {K : View} {F : Fr} {c c' : Cfg} {g g' : View} {s s' : Shared}
theorem Fm.seesK (ok : Fm K F c g s) : Sees K s.heap := fun a o e => ok.sees a o (ok.st.ext a o (ok.fok.base a o e))
theorem Ev.glob {x : Str} {pos : Pos} {v : Value} (h : Gl K x v) (hk : F.env.kindOf x = some .globalImplicit := by rfl) (hd : (x == ("__debug__" : Str)) = false := by decide) : Ev prog w (F.ctx K c) (.Name x pos) (RV v) :=
  .mk fun g s ok _ => by
    have ok : Fm K F c g s := ok
    obtain ⟨mg, hg, h⟩ := h
    refine Calls.Name_function_global ok.fok.kind hk ?_ hd
    have hg' : s.heap.Ns F.env.globals mg := by rw [ok.fok.globals]; exact hg.ns ok.seesK
    rcases h with h | ⟨h0, mb, hb, h⟩
    · exact Calls.loadGlobal_global hg' h (ends_here ok.sees rfl)
    · exact Calls.loadGlobal_builtin hg' h0 (by show s.heap.Ns F.env.builtins mb; rw [ok.fok.builtins]; exact hb.ns ok.seesK) h (ends_here ok.sees rfl)

/-- what a call of a def does -/
noncomputable def Ct (prog : Program) (w : World) (K : View) (f : Addr) (n : Nat) (Rs : List Rel) (R : Rel) : Prop := ∀ (A : Around) g s vs, A.handled = none → A.depth + n < recursionLimit → A.units + 100 + 4 * n < cLine → s.heap.NoLimit → VLe K g → Sees g s.heap → All2 g Rs vs →
  codeAny (model prog w) A (.call (.ref f) ⟨vs, []⟩) (fun r s' => ∃ v g', r = .ok (.ret v) ∧ Step g s g' s' ∧ R.r g' v) s
theorem Ct.call {f : Addr} {n : Nat} {Rs : List Rel} {R : Rel} (h : Ct prog w K f n Rs R) (ok : Fm K F c g s) (hn : n ≤ F.room) {vs : List Value} (hv : All2 g Rs vs) : wpAny (model prog w) F.A (call (.ref f) vs) (Ends g s R.r) NoE s :=
  wpAny_call (codeAny_mono (h F.A g s vs ok.fok.handled (by have := ok.fok.room; lia) (by have := ok.fok.units; lia) (ok.fok.lim.keeps ok.st.keep) (fun a o e => ok.st.ext a o (ok.fok.base a o e)) ok.sees hv) fun r s' ⟨v, g', e, st, hr⟩ => by subst e; exact ⟨g', st, hr⟩)
theorem Ev.callf {fn : Expr} {args : List Expr} {pos : Pos} {f : Addr} {n : Nat} {Rs : List Rel} {R : Rel} {fd : FuncData} (hf : Ev prog w (F.ctx K c) fn (RV (.ref f))) (ho : FnK K f fd) (ha : Evs prog w (F.ctx K c) pos args Rs) (hc : Ct prog w K f n Rs R)
    (hn : n ≤ F.room) (he : eval (.Call fn args [] pos) F.env = (do callWith pos (← eval fn F.env) [] (backTo pos (starEach args F.env)) (backToKw pos (keywordEach [] F.env))) := by rfl)
    (hs : ∃ e es, args = e :: es ∧ starEach (e :: es) F.env = (false, eval e F.env) :: starEach es F.env := by exact ⟨_, _, rfl, rfl⟩) :
    Ev prog w (F.ctx K c) (.Call fn args [] pos) R := .mk fun g s ok _ => by
  have ok : Fm K F c g s := ok
  obtain ⟨o, hK, hd, _⟩ := ho
  refine Call_ (wp_of (hf.run g s ok trivial) fun v s₁ hpat => ?_) he
  obtain ⟨g₁, st₁, e⟩ := hpat
  have e : v = .ref f := e
  subst e
  obtain ⟨e, es, rfl, hs⟩ := hs
  refine callWith_def (o := o) (fd := fd) hd ?_ hs
  refine wp_of (ha.run g₁ s₁ (ok.up st₁) trivial) fun vs s₂ hpat => ?_
  obtain ⟨g₂, st₂, hv⟩ := hpat
  have ok₂ := (ok.up st₁).up st₂
  exact ⟨ok₂.seesK _ _ hK, wp_of (hc.call ok₂ hn hv) fun u s₃ => ends_step (st₁.trans st₂)⟩
theorem Ev.callf0 {fn : Expr} {pos : Pos} {f : Addr} {n : Nat} {R : Rel} {fd : FuncData} (hf : Ev prog w (F.ctx K c) fn (RV (.ref f))) (ho : FnK K f fd) (hc : Ct prog w K f n [] R)
    (hn : n ≤ F.room) (he : eval (.Call fn [] [] pos) F.env = (do callWith pos (← eval fn F.env) [] (backTo pos (starEach [] F.env)) (backToKw pos (keywordEach [] F.env))) := by rfl) :
    Ev prog w (F.ctx K c) (.Call fn [] [] pos) R := .mk fun g s ok _ => by
  have ok : Fm K F c g s := ok
  obtain ⟨o, hK, hd, _⟩ := ho
  refine Call_ (wp_of (hf.run g s ok trivial) fun v s₁ hpat => ?_) he
  obtain ⟨g₁, st₁, e⟩ := hpat
  have e : v = .ref f := e
  subst e
  have ok₁ := ok.up st₁
  show wpAny _ _ (callWith pos (.ref f) [] [] []) _ _ _
  exact Calls.callWith_function (o := o) (fd := fd) (PyProof.Rows.evalArgs_none ⟨⟨ok₁.seesK _ _ hK, hd⟩, wp_of (hc.call ok₁ hn (vs := []) trivial) fun u s₃ => ends_step st₁⟩)

/-- a builtin function -/
noncomputable abbrev Bf (prog : Program) (w : World) (X : Ctx) (v : Value) (Rs : List Rel) (R : Rel) : Prop := ∀ vs, Tr prog w X (fun g => All2 g Rs vs) (call v vs) R.r
theorem Ev.callb {fn : Expr} {args : List Expr} {pos : Pos} {id : String} {Rs : List Rel} {R : Rel} (hf : Ev prog w (F.ctx K c) fn (RV (.builtin id))) (ha : Evs prog w (F.ctx K c) pos args Rs) (hc : Bf prog w (F.ctx K c) (.builtin id) Rs R)
    (he : eval (.Call fn args [] pos) F.env = (do callWith pos (← eval fn F.env) [] (backTo pos (starEach args F.env)) (backToKw pos (keywordEach [] F.env))) := by rfl)
    (hs : ∃ e es, args = e :: es ∧ starEach (e :: es) F.env = (false, eval e F.env) :: starEach es F.env ∧ (backTo pos (starEach es F.env)).any (·.1) = false := by exact ⟨_, _, rfl, rfl, rfl⟩) :
    Ev prog w (F.ctx K c) (.Call fn args [] pos) R := .mk fun g s ok _ => by
  refine Call_ (wp_of (hf.run g s ok trivial) fun v s₁ hpat => ?_) he
  obtain ⟨g₁, st₁, e⟩ := hpat
  have e : v = .builtin id := e
  subst e
  obtain ⟨e, es, rfl, hs, hp⟩ := hs
  refine callWith_builtin1 ?_ hs hp
  exact wp_of (ha.run g₁ s₁ (Ctx.up _ ok st₁) trivial) fun vs s₂ ⟨g₂, st₂, hv⟩ => wp_of ((hc vs).run g₂ s₂ (Ctx.up _ (Ctx.up _ ok st₁) st₂) hv) fun u s₃ => ends_step (st₁.trans st₂)
theorem Ev.callt {fn : Expr} {args : List Expr} {pos : Pos} {T : String} {Rs : List Rel} {R : Rel} (hf : Ev prog w (F.ctx K c) fn (RV (.type T))) (ha : Evs prog w (F.ctx K c) pos args Rs) (hc : Bf prog w (F.ctx K c) (.type T) Rs R)
    (he : eval (.Call fn args [] pos) F.env = (do callWith pos (← eval fn F.env) [] (backTo pos (starEach args F.env)) (backToKw pos (keywordEach [] F.env))) := by rfl)
    (hs : ∃ e es, args = e :: es ∧ starEach (e :: es) F.env = (false, eval e F.env) :: starEach es F.env ∧ (backTo pos (starEach es F.env)).any (·.1) = false := by exact ⟨_, _, rfl, rfl, rfl⟩) :
    Ev prog w (F.ctx K c) (.Call fn args [] pos) R := .mk fun g s ok _ => by
  refine Call_ (wp_of (hf.run g s ok trivial) fun v s₁ hpat => ?_) he
  obtain ⟨g₁, st₁, e⟩ := hpat
  have e : v = .type T := e
  subst e
  obtain ⟨e, es, rfl, hs, hp⟩ := hs
  refine callWith_type1 ?_ hs hp
  exact wp_of (ha.run g₁ s₁ (Ctx.up _ ok st₁) trivial) fun vs s₂ ⟨g₂, st₂, hv⟩ => wp_of ((hc vs).run g₂ s₂ (Ctx.up _ (Ctx.up _ ok st₁) st₂) hv) fun u s₃ => ends_step (st₁.trans st₂)

/-! a def's frame -/
noncomputable def Fr.call (fd : FuncData) (f : Addr) (A : Around) (g : View) (s : Shared) (n : Nat) : Fr :=
  ⟨A.deeper (callEnvC fd s.heap.objs.size f), callEnvC fd s.heap.objs.size f, g, s, s.heap.objs.size :: (cellsFrom (s.heap.objs.size + 1) fd.scope.names []).filterMap (fun p => (cellsFrom (s.heap.objs.size + 1) fd.scope.names []).lookup p.1), fun _ => none, n⟩
theorem bindL_not {kd : Str → Option NameKind} {x : Str} : ∀ {names : List Str} {vals : List Value} {m : Str → Option Value}, x ∉ names → bindL kd (names.zip vals) m x = m x
  | [], _, _, _ => rfl
  | _ :: _, [], _, _ => rfl
  | n :: ns, v :: vs, m, h => by
    show bindL kd (ns.zip vs) _ x = _
    rw [bindL_not fun q => h (List.mem_cons_of_mem _ q)]
    have : x ≠ n := fun e => h (e ▸ List.mem_cons_self)
    split
    · exact if_neg this
    · rfl
theorem bindC_not {kd : Str → Option NameKind} {x : Str} : ∀ {names : List Str} {vals : List Value} {m : Str → Option Value}, x ∉ names → bindC kd (names.zip vals) m x = m x
  | [], _, _, _ => rfl
  | _ :: _, [], _, _ => rfl
  | n :: ns, v :: vs, m, h => by
    show bindC kd (ns.zip vs) _ x = _
    rw [bindC_not fun q => h (List.mem_cons_of_mem _ q)]
    have : x ≠ n := fun e => h (e ▸ List.mem_cons_self)
    split
    · rfl
    · exact if_neg this
theorem bind_look {kd : Str → Option NameKind} {g : View} : ∀ {names : List Str} {Rs : List Rel} {vals : List Value} {m cm : Str → Option Value}, All2 g Rs vals → names.Nodup → (∀ x ∈ names, kd x = some .local ∨ kd x = some .cell) →
    ∀ {x R}, look x (names.zip Rs) = some R → ∃ v, R.r g v ∧ ((kd x = some .local ∧ bindL kd (names.zip vals) m x = some v) ∨ (kd x = some .cell ∧ bindC kd (names.zip vals) cm x = some v))
  | [], _, _, _, _, _, _, _, x, R, e => by cases e
  | _ :: _, [], _, _, _, _, _, _, x, R, e => by cases e
  | _ :: _, _ :: _, [], _, _, h, _, _, _, _, _ => h.elim
  | n :: ns, R₀ :: Rs, v :: vs, m, cm, h, nd, hk, x, R, e => by
    obtain ⟨hn, nd⟩ := List.nodup_cons.mp nd
    by_cases q : n = x
    · subst q
      have e : look n ((n, R₀) :: ns.zip Rs) = some R := e
      rw [look_cons_self] at e; cases e
      refine ⟨v, h.1, ?_⟩
      rcases hk n List.mem_cons_self with k | k
      · refine .inl ⟨k, ?_⟩
        show bindL kd (ns.zip vs) _ n = _
        rw [bindL_not hn, if_pos k]; exact if_pos rfl
      · refine .inr ⟨k, ?_⟩
        show bindC kd (ns.zip vs) _ n = _
        rw [bindC_not hn, if_neg (by rw [k]; decide)]; exact if_pos rfl
    · have e : look x ((n, R₀) :: ns.zip Rs) = some R := e
      rw [look_cons_ne _ _ q] at e
      exact bind_look h.2 nd (fun y hy => hk y (List.mem_cons_of_mem _ hy)) e
theorem look_mem {x : Str} {R : Rel} : ∀ {names : List Str} {Rs : List Rel}, look x (names.zip Rs) = some R → x ∈ names
  | [], _, e => by cases e
  | _ :: _, [], e => by cases e
  | n :: ns, R₀ :: Rs, e => by
    by_cases q : n = x
    · subst q; exact List.mem_cons_self
    · have e : look x ((n, R₀) :: ns.zip Rs) = some R := e
      rw [look_cons_ne _ _ q] at e
      exact List.mem_cons_of_mem _ (look_mem e)
theorem Fm.called {fd : FuncData} {f : Addr} {A : Around} {n : Nat} {names : List Str} {Rs : List Rel} {vals : List Value} {s₁ : Shared}
    (hlow : ∃ a o, 1 ≤ a ∧ s.heap.get? a = some o) (hh : A.handled = none) (hr : A.depth + (n + 1) < recursionLimit) (hun : A.units + 100 + 4 * (n + 1) < cLine) (hlim : s.heap.NoLimit) (hK : VLe K g) (hsees : Sees g s.heap) (hv : All2 g Rs vals) (hk : fd.scope.kind = .function) (hg : fd.globals = mainGlobals) (hb : fd.builtins = builtinsNs)
    (hnd : names.Nodup) (hkinds : ∀ x ∈ names, fd.scope.names.lookup x = some .local ∨ (fd.scope.names.lookup x = some .cell ∧ ((cellsFrom (s.heap.objs.size + 1) fd.scope.names []).lookup x).isSome = true))
    (x : InCallC s (callEnvC fd s.heap.objs.size f).locals (bindL (callEnvC fd s.heap.objs.size f).kindOf (names.zip vals) fun _ => none) (callEnvC fd s.heap.objs.size f).cells (bindC (callEnvC fd s.heap.objs.size f).kindOf (names.zip vals) fun _ => none) s₁) :
    Fm K (Fr.call fd f A g s n) ⟨names.zip Rs, none⟩ g s₁ := by
  have hL : s.heap.get? s.heap.objs.size = none := get_size _
  have fresh : ∀ a, s.heap.objs.size ≤ a → s.heap.get? a = none := fun a ha => by
    cases e : s.heap.get? a with
    | none => rfl
    | some o => exact absurd (Heap.lt_size e) (Nat.not_lt.mpr ha)
  have above : ∀ a ∈ (Fr.call fd f A g s n).own, s.heap.objs.size ≤ a := fun a ha => by
    rcases List.mem_cons.mp ha with rfl | ha
    · exact Nat.le_refl _
    · obtain ⟨⟨y, b⟩, hm, q⟩ := List.mem_filterMap.mp ha
      exact Nat.le_of_lt (x.above y a (mem_of_lookup q))
  exact {
    fok := { kind := hk, loc := List.mem_cons_self, handled := hh
             inj := fun y z a _ _ p q => name_of_addr x.apart (mem_of_lookup p) (mem_of_lookup q)
             room := by show A.depth + 1 + n < recursionLimit; lia
             units := (by show A.units + 3 + 100 + 4 * n < cLine; lia), lim := hlim, low := hlow, base := hK, globals := hg, builtins := hb }
    st := { same := x.toInCall.same, keep := x.toInCall.keep, ext := VLe.refl _, new := fun _ _ e => .inl e, sees := hsees.keep x.toInCall.keep }
    own := fun a ha => ⟨none_of_sees hsees (fresh a (above a ha)), fresh a (above a ha), rfl⟩
    cells := fun a ha ne => by
      rcases List.mem_cons.mp ha with rfl | ha
      · exact (ne rfl).elim
      · obtain ⟨⟨y, b⟩, hm, q⟩ := List.mem_filterMap.mp ha
        exact ⟨_, x.cell y a q⟩
    held := fun a o e => by cases e
    apart := fun a o e => by cases e
    vars := ⟨_, x.toInCall.ns, fun y R e => by
      obtain ⟨v, hr, q⟩ := bind_look (m := fun _ => none) (cm := fun _ => none) (kd := (callEnvC fd s.heap.objs.size f).kindOf) hv hnd (fun z hz => (hkinds z hz).imp id (·.1)) e
      refine ⟨v, hr, ?_⟩
      rcases q with q | ⟨q, p⟩
      · exact .inl q
      · have hy : y ∈ names := look_mem e
        rcases hkinds y hy with z | ⟨_, z⟩
        · have : (callEnvC fd s.heap.objs.size f).kindOf y = some .local := z
          rw [this] at q; cases q
        · obtain ⟨a, ha⟩ := Option.isSome_iff_exists.mp z
          have hm := mem_of_lookup ha
          refine .inr ⟨.inl q, a, ha, ⟨Nat.ne_of_gt (x.above y a hm), .inl (List.mem_cons_of_mem _ (List.mem_filterMap.mpr ⟨(y, a), hm, ha⟩))⟩, ?_⟩
          have := x.cell y a ha
          rw [p] at this; exact this⟩
    pv := fun a P e => by cases e }

theorem Ct.of {f : Addr} {fd : FuncData} {body : List Stmt} {names : List Str} {Rs : List Rel} {R : Rel} {n : Nat} (hf : FnK K f fd) (hcd : CodeK K fd.code fd.qualname) (hbody : fd.body = .stmts body)
    (hbind : ∀ vs : List Value, vs.length = names.length → bindArgs fd ⟨vs, []⟩ = pure (names.zip vs)) (hlen : names.length = Rs.length) (hclo : fd.closure = []) (hg : fd.globals = mainGlobals) (hb : fd.builtins = builtinsNs) (hnd : names.Nodup)
    (hkinds : ∀ L, ∀ x ∈ names, fd.scope.names.lookup x = some .local ∨ (fd.scope.names.lookup x = some .cell ∧ ((cellsFrom (L + 1) fd.scope.names []).lookup x).isSome = true))
    (hco : fd.scope.isCoroutine = false) (hgen : fd.scope.isGenerator = false) (hk : fd.scope.kind = .function)
    (h : ∀ A g s, So prog w K (Fr.call fd f A g s n) ⟨names.zip Rs, none⟩ (execs body (Fr.call fd f A g s n).env) (Rt (Fr.call fd f A g s n) R)) : Ct prog w K f (n + 1) Rs R := by
  intro A g s vs hh hr hun hlim hKg hsees hv
  obtain ⟨o, hK, hd, hf1⟩ := hf
  obtain ⟨c, oc, fs, t, e, hc, hcd, hq⟩ := hcd
  refine codeAny_call_cells (by (exact Nat.lt_of_le_of_lt (Nat.le_add_right _ _) (by assumption))) (hsees _ _ (hKg _ _ hK)) hd hlim ⟨c, oc, fs, t, e, hsees _ _ (hKg _ _ hc), hcd, hq⟩ hbody (hbind vs (by rw [hv.length, hlen])) hclo (fun x hx => ?_) (fun s₁ x => ?_) hco hgen hk
  · obtain ⟨y, v⟩ := x
    exact hkinds _ y (List.of_mem_zip hx).1
  · have fm := Fm.called (f := f) (fd := fd) (n := n) ⟨f, o, hf1, hsees _ _ (hKg _ _ hK)⟩ hh hr hun hlim hKg hsees hv hk hg hb hnd (hkinds _) x
    refine wp_of ((h A g s).run g s₁ fm) fun fl s' hpat => ?_
    obtain ⟨v, g', e, st, hr⟩ := hpat
    subst e
    exact ⟨v, g', rfl, st, hr⟩
end
end Mine
end
section
open PySem PySem.W PyProof.Rows
set_option maxRecDepth 100000
set_option linter.unusedVariables false
namespace Mine
/-! What is walked. -/
section
variable {prog : Program} {w : World} {K : View} {F : Fr} {c c' : Cfg} {g g' : View} {s s' : Shared} {X : Ctx}
theorem Turning.trans {A : Around} {target : Expr} {items : List Item} {g₁ g₂ : View} {s₁ s₂ : Shared} {it : Value} (st : Step g s g₁ s₁) (t : Turning prog w A target items g₁ s₁ it g₂ s₂) : Turning prog w A target items g s it g₂ s₂ := by
  obtain ⟨st', I, fp, wr, P, Md, St, e, L, h0, hw⟩ := t
  refine ⟨st.trans st', I, fp, wr, P, Md, St, e, L, h0, fun b hb => ⟨?_, (hw b hb).2⟩⟩
  cases q : s.heap.get? b with
  | none => rfl
  | some o => have := st.keep b o q; rw [(hw b hb).1] at this; cases this
theorem EvIter.of {iter target : Expr} {R : Rel} {items : List Item} (h : Ev prog w X iter R)
    (hi : ∀ v g s, X.ok g s → R.r g v → wpAny (model prog w) X.A (pyIter v) (fun it s₂ => ∃ g₁, Turning prog w X.A target items g s it g₁ s₂) NoE s) : EvIter prog w X iter target items := .mk fun g s ok =>
  wp_of (h.run g s ok trivial) fun v s₁ ⟨g₁, st, hv⟩ => wp_of (hi v g₁ s₁ (X.up ok st) hv) fun it s₂ ⟨g₂, t⟩ => ⟨g₂, t.trans st⟩
/-- an iterator, one new object -/
theorem Turning.one {A : Around} {target : Expr} {items : List Item} {o : Obj} {t : Nat} {fp : List Addr} {P Md : Nat → Value → Heap → Prop} {St : Nat → Heap → Prop} (hs : Sees g s.heap) (hfp : ∀ b ∈ fp, b = s.heap.objs.size ∨ ∃ o, g b = some o)
    (T : KTurns prog w A target s.heap.objs.size fp [s.heap.objs.size] items.length P Md St) (hobj : ∀ i h, St i h → ∃ o, h.get? s.heap.objs.size = some o)
    (hitem : ∀ i v h g', i < items.length → VLe g g' → Sees g' h → P i v h → ∃ j, items[i]? = some j ∧ j.is g' h v)
    (hself : ∀ i (s' : Shared) (Q : Value → Shared → Prop) (E : Value → Shared → Prop), St i s'.heap → Q (.ref s.heap.objs.size) s' → wpAny (model prog w) A (pyIter (.ref s.heap.objs.size)) Q E s') (h0 : St 0 (s.heap.push o)) :
    ∃ g₁, Turning prog w A target items g s (.ref s.heap.objs.size) g₁ { s with heap := s.heap.push o, toks := t } := by
  refine ⟨g, Step.heap hs (kp_push _ _), s.heap.objs.size, fp, [s.heap.objs.size], P, Md, St, rfl, ⟨T, fun b hb => ?_, fun i h st b hb => ?_, hitem, hself⟩, h0, fun b hb => ?_⟩
  · exact (hfp b hb).imp_left fun e => List.mem_singleton.mpr e
  · rw [List.mem_singleton.mp hb]; exact hobj i h st
  · rw [List.mem_singleton.mp hb]; exact ⟨get_size _, none_of_sees hs (get_size _)⟩
theorem get_items {g g' : View} {Rs : List Rel} {vs : List Value} (h : All2 g Rs vs) (k : VLe g g') {i : Nat} {v : Value} (e : vs.toArray[i]? = some v) : ∃ j, (Rs.map Item.one)[i]? = some j ∧ ∀ hp, j.is g' hp v := by
  have e' : vs[i]? = some v := by simpa using e
  have hi : i < Rs.length := by
    have := List.getElem?_eq_some_iff.mp e'
    rw [← h.length]; exact this.1
  obtain ⟨u, hu, hr⟩ := h.get (i := i) (R := Rs[i]) (by simp [hi])
  rw [e'] at hu; cases hu
  exact ⟨.one Rs[i], by simp [hi], fun hp => Rel.up _ k hr⟩
theorem iter_list {iter target : Expr} {Rs : List Rel} (h : Ev prog w (F.ctx K c) iter (RL Rs)) : EvIter prog w (F.ctx K c) iter target (Rs.map .one) := EvIter.of h fun v g s ok hv => by
  have ok : Fm K F c g s := ok
  obtain ⟨a, vs, e, hl, ha⟩ := hv
  subst e
  have hl' := hl.isList ok.sees
  have hlt : a ≠ s.heap.objs.size := by obtain ⟨o, e, _⟩ := hl'; exact Nat.ne_of_lt (Heap.lt_size e)
  have T := KTurns.ofWalks (target := target) (Walks.list (prog := prog) (w := w) (A := F.A) ok.fok.handled s.heap.objs.size a hlt vs.toArray) fun i v s Q E st q => letGo_listiter st.1 q
  have hn : vs.toArray.size = (Rs.map Item.one).length := by rw [List.size_toArray, ha.length, List.length_map]
  rw [hn] at T
  refine wpAny_pyIter_list hl' (Turning.one (t := s.toks) ok.sees ?_ T ?_ ?_ ?_ ?_)
  · intro b hb
    rcases List.mem_cons.mp hb with e | hb
    · exact .inl e
    · rw [List.mem_singleton.mp hb]; exact .inr (let ⟨n, e⟩ := hl; ⟨_, e⟩)
  · intro i h st; obtain ⟨o, e, _⟩ := st.1; exact ⟨o, e⟩
  · intro i v h g' hi k _ e
    obtain ⟨j, hj, hj'⟩ := get_items ha k e
    exact ⟨j, hj, hj' h⟩
  · intro i s' Q E st q; exact wpAny_pyIter_listiter st.1 q
  · exact ⟨⟨_, Heap.get?_push_size _ rfl, rfl, rfl⟩, hl'.push _⟩

/-- a range -/
noncomputable def RG (a b c : Int) : Rel := ⟨fun g v => ∃ r t u x, v = .ref r ∧ g r = some { cls := .type "range", dict := none, data := .fields #[.int a t, .int b u, .int c x], slots := #[] }, fun k hpat => by obtain ⟨r, t, u, x, e, h⟩ := hpat; exact ⟨r, t, u, x, e, k _ _ h⟩⟩
noncomputable def rangeItems (a b c : Int) : List Item := (List.range (Builtin.Range.rangeSize a b c).toNat).map fun (i : Nat) => .one (RI (a + i * c))
theorem letGo_rangeiter {A : Around} {E : Value → Shared → Prop} {target : Expr} {I : Addr} {x l st : Int} {v : Value} {Q' : Unit → Shared → Prop} {s' : Shared} (hit : IsRangeIter s'.heap I x l st) (h : Q' () s') :
    wpAny (model prog w) A (letOwnedTupleGo target (.ref I) v) Q' E s' := by
  unfold letOwnedTupleGo
  cases target <;> first
    | exact wpAny_pure h
    | (cases v <;> first
        | exact wpAny_pure h
        | (refine wpAny_bind (wpAny_load hit ?_)
           exact wpAny_pure h))
theorem letGo_striter {A : Around} {E : Value → Shared → Prop} {target : Expr} {I : Addr} {v : Value} {Q' : Unit → Shared → Prop} {s' : Shared} {o : Obj} (ho : s'.heap.get? I = some o) (hc : o.cls = .type "str_iterator" ∨ o.cls = .type "str_ascii_iterator") (h : Q' () s') :
    wpAny (model prog w) A (letOwnedTupleGo target (.ref I) v) Q' E s' := by
  unfold letOwnedTupleGo
  cases target <;> first
    | exact wpAny_pure h
    | (cases v <;> first
        | exact wpAny_pure h
        | (refine wpAny_bind (wpAny_load ho ?_)
           rcases hc with hc | hc <;> rw [hc] <;> (cases o.data <;> exact wpAny_pure h)))
theorem iter_range {iter target : Expr} {a b c' : Int} (h : Ev prog w (F.ctx K c) iter (RG a b c')) (hs : Builtin.Range.small a b c' = true := by decide) : EvIter prog w (F.ctx K c) iter target (rangeItems a b c') := EvIter.of h fun v g s ok hv => by
  have ok : Fm K F c g s := ok
  obtain ⟨r, t, u, x, e, hr⟩ := hv
  subst e
  have T := KTurns.ofWalks (target := target) (Walks.range (prog := prog) (w := w) (A := F.A) ok.fok.handled s.heap.objs.size a c' (Builtin.Range.rangeSize a b c').toNat) fun i v s Q E st q => letGo_rangeiter st q
  have hn : (Builtin.Range.rangeSize a b c').toNat = (rangeItems a b c').length := by unfold rangeItems; simp
  have hpos : 0 ≤ Builtin.Range.rangeSize a b c' := by
    unfold Builtin.Range.rangeSize
    split
    · split
      · rename_i h1 h2
        have := Int.ediv_nonneg (a := b - a - 1) (b := c') (by lia) (by lia)
        omega
      · exact Int.le_refl _
    · split
      · rename_i h1 h2
        first
          | (have := Int.ediv_nonneg (a := a - b - 1) (b := -c') (by lia) (by simp_all); omega)
          | omega
      · exact Int.le_refl _
  have T' := T
  rw [hn] at T'
  refine wpAny_pyIter_range (ok.sees _ _ hr) hs (Turning.one (t := s.toks) ok.sees ?_ T' ?_ ?_ ?_ ?_)
  · intro b hb; exact .inl (List.mem_singleton.mp hb)
  · intro i h st; exact ⟨_, st⟩
  · intro i v h g' hi k _ e
    obtain ⟨t, e⟩ := e
    rw [← hn] at hi
    exact ⟨.one (RI (a + i * c')), by unfold rangeItems; rw [List.getElem?_map, List.getElem?_range hi]; rfl, t, e⟩
  · intro i s' Q E st q; exact wpAny_pyIter_rangeiter st q
  · have e1 : a + ((0 : Nat) : Int) * c' = a := by simp
    have e2 : ((Builtin.Range.rangeSize a b c').toNat : Int) - ((0 : Nat) : Int) = Builtin.Range.rangeSize a b c' := by simp [Int.toNat_of_nonneg hpos]
    rw [e1, ← hn, e2]
    exact Heap.get?_push_size _ rfl
theorem iter_str {iter target : Expr} {x : Str} (h : Ev prog w (F.ctx K c) iter (RS x)) : EvIter prog w (F.ctx K c) iter target (x.cps.toList.map fun c => .one (RS ⟨#[c]⟩)) := EvIter.of h fun v g s ok hv => by
  have ok : Fm K F c g s := ok
  obtain ⟨t, e⟩ := hv
  subst e
  have hn : x.cps.size = (x.cps.toList.map fun c => Item.one (RS ⟨#[c]⟩)).length := by simp
  have item : ∀ i v (h : Heap) (g' : View), SignAt x i v → ∃ j, (x.cps.toList.map fun c => Item.one (RS ⟨#[c]⟩))[i]? = some j ∧ j.is g' h v := fun i v h g' e => by
    obtain ⟨c, u, hc, e⟩ := e
    exact ⟨.one (RS ⟨#[c]⟩), by simp [hc], u, e⟩
  cases ha : x.cps.all (· < 128)
  · have T := KTurns.ofWalks (target := target) (Walks.strWide (prog := prog) (w := w) (A := F.A) ok.fok.handled s.heap.objs.size x t) fun i v s Q E st q => let ⟨o, e, hc, _⟩ := st; letGo_striter e (.inl hc) q
    rw [hn] at T
    refine wpAny_pyIter_wide ha (Turning.one (t := s.toks) ok.sees ?_ T ?_ ?_ ?_ ?_)
    · intro b hb; exact .inl (List.mem_singleton.mp hb)
    · intro i h st; obtain ⟨o, e, _⟩ := st; exact ⟨o, e⟩
    · intro i v h g' hi k _ e; exact item i v h g' e
    · intro i s' Q E st q; exact wpAny_pyIter_striter_wide st q
    · exact ⟨_, Heap.get?_push_size _ rfl, rfl, rfl⟩
  · have T := KTurns.ofWalks (target := target) (Walks.strAscii (prog := prog) (w := w) (A := F.A) ok.fok.handled s.heap.objs.size x t) fun i v s Q E st q => let ⟨o, e, hc, _⟩ := st; letGo_striter e (.inr hc) q
    rw [hn] at T
    refine wpAny_pyIter_ascii ha (Turning.one (t := s.toks) ok.sees ?_ T ?_ ?_ ?_ ?_)
    · intro b hb; exact .inl (List.mem_singleton.mp hb)
    · intro i h st; obtain ⟨o, e, _⟩ := st; exact ⟨o, e⟩
    · intro i v h g' hi k _ e; exact item i v h g' e
    · intro i s' Q E st q; exact wpAny_pyIter_striter_ascii st q
    · exact ⟨_, Heap.get?_push_size _ rfl, rfl, rfl⟩
end
end Mine
end
section
open PySem PySem.W PyProof.Rows
open AutoSeq1 (wpAny_loadPart')
set_option maxRecDepth 100000
set_option linter.unusedVariables false
namespace Mine
/-! enumerate. -/
theorem meets_enum_tuple (l : Addr) (items : Array Value) (n : Nat) (dct : Option Addr) (sl : Array (Option Value)) :
    Meets (Builtin.«enumerate.__new__» ⟨[.type "enumerate", .ref l], []⟩) (fun _ R s => s.heap.get? l = some { cls := .type "tuple", dict := dct, data := .seq items n, slots := sl } ∧
      R (.ok (.ret (.ref (s.heap.push { cls := .type "tuple_iterator", data := .fields #[.ref l, .int 0 0] }).objs.size)))
        { s with heap := (s.heap.push { cls := .type "tuple_iterator", data := .fields #[.ref l, .int 0 0] }).push { cls := .type "enumerate", data := .fields #[.none, .bool false, .ref s.heap.objs.size, rawInt 0, .none, .none] } }) :=
  .of_wp fun prog w A R s h => by
    obtain ⟨hp, g, d, tk, os⟩ := s; obtain ⟨hl, h⟩ := h
    have hsub := sub_enumerate
    have hL : Heap.IsTuple (Shared.heap ⟨hp, g, d, tk, os⟩) l items := ⟨_, hl, rfl, n, rfl⟩
    wp_walk using wpAny_loadPart' hl
    refine wpAny_stack_any fun st => wpAny_pure ?_
    split
    · rename_i c _ _ _ _ _
      cases (c == Value.type "enumerate") <;> (wp_walk using wpAny_loadPart' hl, wpAny_pyIter_tuple hL; exact ⟨_, rfl, h⟩)
    · wp_walk using wpAny_loadPart' hl, wpAny_pyIter_tuple hL
      exact ⟨_, rfl, h⟩
section
variable {prog : Program} {w : World} {A : Around} {E : Value → Shared → Prop} {s : Shared}
theorem nextOf_tuple_item {it t : Addr} {i : Nat} {items} {x : Value} {Q : Value → Shared → Prop} (hit : s.heap.IsTupleIter it t i) (ht : s.heap.IsTuple t items) (hx : items[i]? = some x)
    (hQ : ∀ h', h'.IsTupleIter it t (i + 1) → Heap.SameBut it s.heap h' → Q x { s with heap := h' }) : wpAny (model prog w) A (Builtin.SmallTypes.nextOf (.ref it)) Q E s := by
  obtain ⟨o, ho, hc, hd⟩ := id hit
  obtain ⟨ol, hol, _, nl, hdl⟩ := ht
  unfold Builtin.SmallTypes.nextOf
  refine wpAny_bind (wpAny_callSpecial?_slot (name := Str.ofString "__next__") hit.typeIs F.slot_tuple_iterator_next (wpAny_call_entry F.slot_tuple_iterator_next hit.typeIs F.entry_tuple_iterator_next ?_ (F.args_tuple_iterator_next_1 _)))
  show wpAny _ _ (field (.ref it) 0 >>= _) _ _ s
  refine wpAny_bind (wpAny_field ho hd (x := .ref t) rfl ?_)
  show wpAny _ _ (if (Value.ref t == Value.none) = true then _ else _) _ _ s
  rw [if_neg (show ¬ ((Value.ref t == Value.none) = true) from Bool.false_ne_true)]
  show wpAny _ _ (field (.ref it) 1 >>= _) _ _ s
  refine wpAny_bind (wpAny_field ho hd (x := .int i 0) rfl ?_)
  show wpAny _ _ (seqItems? (.ref t) >>= _) _ _ s
  refine wpAny_bind (wpAny_seqItems hol hdl ?_)
  simp only [Int.toNat_natCast, hx]
  refine wpAny_bind (wpAny_setField ho hd (by simp) (wpAny_pure ⟨x, rfl, wpAny_pure (hQ _ ?_ (Heap.SameBut.update ..))⟩))
  exact ⟨_, Heap.get?_update_self _ ho (Obj.isFreed_of_fields (Obj.data_mapFields hd _)), (Obj.cls_mapFields ..).trans hc, by rw [Obj.data_mapFields hd]; simp [rawInt]⟩
theorem nextOf_tuple_end {it t : Addr} {i : Nat} {items} {Q : Value → Shared → Prop} (hh : A.handled = none) (hit : s.heap.IsTupleIter it t i) (ht : s.heap.IsTuple t items) (hx : items[i]? = none)
    (hE : ∀ h' e, Heap.ExtBut it s.heap h' → (∃ o, h'.get? e = some o ∧ o.cls = .type "StopIteration") → E (.ref e) { s with heap := h' }) : wpAny (model prog w) A (Builtin.SmallTypes.nextOf (.ref it)) Q E s := by
  obtain ⟨o, ho, hc, hd⟩ := id hit
  obtain ⟨ol, hol, _, nl, hdl⟩ := ht
  unfold Builtin.SmallTypes.nextOf
  refine wpAny_bind (wpAny_callSpecial?_slot (name := Str.ofString "__next__") hit.typeIs F.slot_tuple_iterator_next (wpAny_call_entry F.slot_tuple_iterator_next hit.typeIs F.entry_tuple_iterator_next ?_ (F.args_tuple_iterator_next_1 _)))
  show wpAny _ _ (field (.ref it) 0 >>= _) _ _ s
  refine wpAny_bind (wpAny_field ho hd (x := .ref t) rfl ?_)
  show wpAny _ _ (if (Value.ref t == Value.none) = true then _ else _) _ _ s
  rw [if_neg (show ¬ ((Value.ref t == Value.none) = true) from Bool.false_ne_true)]
  show wpAny _ _ (field (.ref it) 1 >>= _) _ _ s
  refine wpAny_bind (wpAny_field ho hd (x := .int i 0) rfl ?_)
  show wpAny _ _ (seqItems? (.ref t) >>= _) _ _ s
  refine wpAny_bind (wpAny_seqItems hol hdl ?_)
  simp only [Int.toNat_natCast, hx]
  refine wpAny_bind (wpAny_rule (wpAny_bind (wpAny_setField ho hd (by simp) ?_)))
  show wpAny _ _ (newExc (.type "StopIteration") [] >>= _) _ _ _
  refine wpAny_bind ?_
  simp only [newExc, newTuple]
  refine wpAny_bind (wpAny_newObj_type ?_ (by size_fits))
  refine wpAny_bind (m := firstArgMember _ _) (wpAny_of_eq (a := Value.none) (by first | rfl | (simp only [firstArgMember]; rfl)) ?_)
  refine wpAny_newObj_type ?_ (by size_fits)
  simp only [raiseNew]
  refine wpAny_bind (wpAny_handled ?_)
  first | rw [show A.in1.handled = none from hh] | rw [hh]
  refine wpAny_bind (wpAny_pure (wpAny_throw ?_))
  exact hE _ _ (((Heap.SameBut.update ..).extBut.push _).push _) ⟨_, Heap.get?_push_size _ rfl, rfl⟩
theorem draws_tuple (hh : A.handled = none) (it l : Addr) (hne : l ≠ it) (items : Array Value) :
    Draws prog w A it [it, l] items.size (fun i v => items[i]? = some v) (fun i h => h.IsTupleIter it l i ∧ h.IsTuple l items) where
  live := fun _ _ st => let ⟨o, ho, _⟩ := st.1; ⟨o, ho⟩
  frame := fun _ _ _ st hk => ⟨st.1.at fun o e => hk it (by simp) o e, st.2.at fun o e => hk l (by simp) o e⟩
  item := fun i s Q E hi st hQ => by
    refine nextOf_tuple_item st.1 st.2 (x := items[i]) (by simp [hi]) fun h' hit' hs' => ?_
    exact hQ _ h' s.toks (by simp [hi]) ⟨hit', st.2.extBut hs'.extBut hne⟩ hs'
  done := fun s Q E st hE => nextOf_tuple_end hh st.1 st.2 (by simp) hE
theorem call_enum_tuple {l : Addr} {items : Array Value} {Q : Value → Shared → Prop} (hL : s.heap.IsTuple l items)
    (h : ∀ h', IsEnum h' (s.heap.objs.size + 1) s.heap.objs.size 0 .none → h'.IsTupleIter s.heap.objs.size l 0 → h'.objs.size = s.heap.objs.size + 2 →
      (∀ b o, s.heap.get? b = some o → h'.get? b = some o) → Q (.ref (s.heap.objs.size + 1)) { s with heap := h' }) :
    wpAny (model prog w) A (call (.type "enumerate") [.ref l]) Q E s := by
  obtain ⟨⟨c, dct, dt, sl⟩, hl, hc, n, hd⟩ := hL
  replace hc : c = .type "tuple" := hc
  replace hd : dt = .seq items n := hd
  subst hc hd
  refine callType_new F.called_enumerate (by decide) (F.typeCall_enumerate_1 _) (F.newCall_enumerate_1 _) (fun obj => F.args_object_init_2 obj _) F.entry_enumerate_new (meets_enum_tuple l items n dct sl) ⟨hl, ?_⟩
  have hz : (s.heap.push { cls := .type "tuple_iterator", data := .fields #[.ref l, .int 0 0] }).objs.size = s.heap.objs.size + 1 := Heap.size_push ..
  show _ ∧ _
  rw [hz]
  have he : IsEnum ((s.heap.push { cls := .type "tuple_iterator", data := .fields #[.ref l, .int 0 0] }).push { cls := .type "enumerate", data := .fields #[.none, .bool false, .ref s.heap.objs.size, rawInt 0, .none, .none] }) (s.heap.objs.size + 1) s.heap.objs.size 0 .none := by
    have := Heap.get?_push_size (s.heap.push { cls := .type "tuple_iterator", data := .fields #[.ref l, .int 0 0] }) (o := { cls := .type "enumerate", data := .fields #[.none, .bool false, .ref s.heap.objs.size, rawInt 0, .none, .none] }) rfl
    rw [hz] at this; exact this
  exact ⟨⟨_, he, rfl⟩, h _ he ⟨_, Heap.get?_push_of_some _ (Heap.get?_push_size _ rfl), rfl, rfl⟩ (by rw [Heap.size_push, hz]) fun b o x => Heap.get?_push_of_some _ (Heap.get?_push_of_some _ x)⟩
end
section
variable {prog : Program} {w : World} {K : View} {F : Fr} {c c' : Cfg} {g g' : View} {s s' : Shared} {X : Ctx}
noncomputable def enumItems (Rs : List Rel) : List Item := Rs.zipIdx.map fun p => .tup [RI p.2, p.1]
theorem enumItems_get {Rs : List Rel} {i : Nat} {R : Rel} (h : Rs[i]? = some R) : (enumItems Rs)[i]? = some (.tup [RI i, R]) := by
  unfold enumItems; rw [List.getElem?_map, List.getElem?_zipIdx, h]; simp
/-- an enumeration stands ready -/
theorem enum_turning {elts : List Expr} {k : Nat} {pos : Pos} {A : Around} {Rs : List Rel} {vs : List Value} {St : Nat → Heap → Prop} {l : Addr} {h' : Heap} {t : Nat} (hs : Sees g s.heap) (hv : All2 g Rs vs)
    (D : Draws prog w A.in1 s.heap.objs.size [s.heap.objs.size, l] vs.toArray.size (fun i v => vs.toArray[i]? = some v) St) (hl : ∃ o, g l = some o) (he : IsEnum h' (s.heap.objs.size + 1) s.heap.objs.size 0 .none) (h0 : St 0 h')
    (k' : Kp s.heap h') : ∃ g₁, Turning prog w A (.Tuple elts k pos) (enumItems Rs) g s (.ref (s.heap.objs.size + 1)) g₁ { s with heap := h', toks := t } := by
  obtain ⟨ol, hl⟩ := hl
  have hlt : l < s.heap.objs.size := Heap.lt_size (hs _ _ hl)
  have n1 : s.heap.get? (s.heap.objs.size + 1) = none := by
    cases e : s.heap.get? (s.heap.objs.size + 1) with
    | none => rfl
    | some o => exact absurd (Heap.lt_size e) (Nat.not_lt.mpr (Nat.le_succ _))
  have T := KTurns.ofWalksU (elts := elts) (k := k) (pos := pos) (WalksT.enumerateD D (s.heap.objs.size + 1) (Nat.succ_ne_self _) (fun hm => by
    rcases List.mem_cons.mp hm with e | hm
    · exact Nat.succ_ne_self _ e
    · exact absurd (List.mem_singleton.mp hm) (Nat.ne_of_gt (Nat.lt_succ_of_lt hlt))) (by simp)).toU
  have hn : vs.toArray.size = (enumItems Rs).length := by unfold enumItems; rw [List.size_toArray, hv.length, List.length_map, List.length_zipIdx]
  rw [hn] at T
  refine ⟨g, Step.heap hs k', s.heap.objs.size + 1, _, [s.heap.objs.size + 1, s.heap.objs.size], _, _, _, rfl, ⟨T, fun b hb => ?_, fun i h st b hb => ?_, fun i v h g' hi k _ e => ?_, fun i s' Q E st q => ?_⟩, ⟨⟨_, he⟩, h0⟩, fun b hb => ?_⟩
  · simp only [List.mem_cons, List.not_mem_nil, or_false] at hb
    rcases hb with rfl | rfl | rfl
    · exact .inl (by simp)
    · exact .inl (by simp)
    · exact .inr ⟨_, hl⟩
  · obtain ⟨⟨old, he⟩, st⟩ := st
    simp only [List.mem_cons, List.not_mem_nil, or_false] at hb
    rcases hb with rfl | rfl
    · exact ⟨_, he⟩
    · exact D.live _ _ st
  · obtain ⟨T, vals, rfl, ⟨t, x, hx, rfl⟩, hT⟩ := e
    have hx' : vs[i]? = some x := by simpa using hx
    have hi' : i < Rs.length := by rw [← hv.length]; exact (List.getElem?_eq_some_iff.mp hx').1
    obtain ⟨u, hu, hr⟩ := hv.get (i := i) (R := Rs[i]) (by simp [hi'])
    rw [hx'] at hu; cases hu
    exact ⟨_, enumItems_get (by simp [hi']), T, _, rfl, hT, ⟨t, rfl⟩, Rel.up _ k hr, trivial⟩
  · obtain ⟨⟨old, he⟩, _⟩ := st
    exact wpAny_pyIter_enum he q
  · simp only [List.mem_cons, List.not_mem_nil, or_false] at hb
    rcases hb with rfl | rfl
    · exact ⟨n1, none_of_sees hs n1⟩
    · exact ⟨get_size _, none_of_sees hs (get_size _)⟩
theorem iter_enum {fn e : Expr} {pos tpos : Pos} {elts : List Expr} {k : Nat} {Rs : List Rel} (hf : Ev prog w (F.ctx K c) fn (RV (.type "enumerate"))) (h : Ev prog w (F.ctx K c) e (RL Rs) ∨ Ev prog w (F.ctx K c) e (RT Rs))
    (he : eval (.Call fn [e] [] pos) F.env = (do callWith pos (← eval fn F.env) [] (backTo pos (starEach [e] F.env)) (backToKw pos (keywordEach [] F.env))) := by rfl)
    (hs : starEach [e] F.env = (false, eval e F.env) :: starEach [] F.env := by rfl) :
    EvIter prog w (F.ctx K c) (.Call fn [e] [] pos) (.Tuple elts k tpos) (enumItems Rs) := .mk fun g s ok => by
  have ok : Fm K F c g s := ok
  refine Call_ (wp_of (hf.run g s ok trivial) fun v s₁ hpat => ?_) he
  obtain ⟨g₁, st₁, q⟩ := hpat
  have q : v = .type "enumerate" := q
  subst q
  have ok₁ := ok.up st₁
  refine callWith_type1 ?_ hs rfl
  rcases h with h | h
  · refine args_cons (wp_of (h.run g₁ s₁ ok₁ trivial) fun v s₂ ⟨g₂, st₂, a, vs, q, hl, hv⟩ => args_nil ?_) hs
    subst q
    have ok₂ := ok₁.up st₂
    have hl' := hl.isList ok₂.sees
    have hlt : a ≠ s₂.heap.objs.size := by obtain ⟨o, e, _⟩ := hl'; exact Nat.ne_of_lt (Heap.lt_size e)
    refine call_enumerate_list hl' fun h' hen hit hsz hk => wpAny_pyIter_enum hen ?_
    obtain ⟨g₃, t⟩ := enum_turning (A := F.A) (elts := elts) (k := k) (pos := tpos) (t := s₂.toks) ok₂.sees hv (Draws.list (A := F.A.in1) ok.fok.handled _ a hlt vs.toArray) (let ⟨n, e⟩ := hl; ⟨_, e⟩) hen ⟨hit, hl'.at fun o e => hk a o e⟩ hk
    exact ⟨g₃, t.trans (st₁.trans st₂)⟩
  · refine args_cons (wp_of (h.run g₁ s₁ ok₁ trivial) fun v s₂ ⟨g₂, st₂, a, vs, q, hl, hv⟩ => args_nil ?_) hs
    subst q
    have ok₂ := ok₁.up st₂
    have hl' := hl.isTup ok₂.sees
    have hlt : a ≠ s₂.heap.objs.size := by obtain ⟨o, e, _⟩ := hl'; exact Nat.ne_of_lt (Heap.lt_size e)
    refine call_enum_tuple hl' fun h' hen hit hsz hk => wpAny_pyIter_enum hen ?_
    obtain ⟨g₃, t⟩ := enum_turning (A := F.A) (elts := elts) (k := k) (pos := tpos) (t := s₂.toks) ok₂.sees hv (draws_tuple (A := F.A.in1) ok.fok.handled _ a hlt vs.toArray) (let ⟨n, e⟩ := hl; ⟨_, e⟩) hen ⟨hit, hl'.at fun o e => hk a o e⟩ hk
    exact ⟨g₃, t.trans (st₁.trans st₂)⟩
end
end Mine
end
section
open PySem PySem.W PyProof.Rows
set_option maxRecDepth 100000
set_option linter.unusedVariables false
namespace Mine
section
variable {prog : Program} {w : World} {K : View} {F : Fr} {c c' : Cfg} {g g' : View} {s s' : Shared} {X : Ctx}
/-! more operators -/
theorem op_shr (i j : Int) (hj : 0 ≤ j) : Op2 prog w X (binaryOp .RShift) (RI i) (RI j) (RI (i.fdiv (2 ^ j.toNat))) := fun a b => .mk fun g s ok ⟨⟨t, h⟩, ⟨u, h'⟩⟩ => by subst h h'; exact rshift_int hj (ends_toks (X.sees ok) _ ⟨_, rfl⟩)
theorem op_and (i j : Int) : Op2 prog w X (binaryOp .BitAnd) (RI i) (RI j) (RI (Builtin.bitAnd i j)) := fun a b => .mk fun g s ok ⟨⟨t, h⟩, ⟨u, h'⟩⟩ => by subst h h'; exact and_int (ends_toks (X.sees ok) _ ⟨_, rfl⟩)
theorem op_pow (i j : Int) (hj : 0 ≤ j) (hj2 : j ≤ 1000000) (hi : i.natAbs < 2 ^ 64) : Op2 prog w X (binaryOp .Pow) (RI i) (RI j) (RI (i ^ j.toNat)) := fun a b => .mk fun g s ok hpat => by
  obtain ⟨⟨t, h⟩, ⟨u, h'⟩⟩ := hpat
  subst h h'; exact pow_int_small hj hj2 hi (ends_toks (X.sees ok) _ ⟨_, rfl⟩)
theorem op_iadd (i j : Int) : Op2 prog w X (inplaceOp .Add) (RI i) (RI j) (RI (i + j)) := fun a b => .mk fun g s ok ⟨⟨t, h⟩, ⟨u, h'⟩⟩ => by subst h h'; exact P.iadd_int (ends_toks (X.sees ok) _ ⟨_, rfl⟩)
theorem op_isub (i j : Int) : Op2 prog w X (inplaceOp .Sub) (RI i) (RI j) (RI (i - j)) := fun a b => .mk fun g s ok ⟨⟨t, h⟩, ⟨u, h'⟩⟩ => by subst h h'; exact P.isub_int (ends_toks (X.sees ok) _ ⟨_, rfl⟩)
theorem Ev.conv {e : Expr} {R R' : Rel} (h : Ev prog w X e R) (k : Le R R') : Ev prog w X e R' := Tr.mono h (fun _ x => x) fun _ _ x => k _ _ x
theorem Ev.as {e : Expr} {R R' : Rel} (h : Ev prog w X e R) (k : R = R') : Ev prog w X e R' := k ▸ h
theorem Te.as {e : Expr} {b b' : Bool} (h : Te prog w X e b) (k : b = b') : Te prog w X e b' := k ▸ h

/-! builtin functions -/
theorem bf_len_list {Rs : List Rel} (hn : Rs.length ≤ 16777216) : Bf prog w X (.builtin "len") [RL Rs] (RI Rs.length) := fun vs => .mk fun g s ok h => by
  obtain ⟨v, rfl, ⟨a, xs, e, hl, hx⟩⟩ := one_of h
  subst e
  have hz : xs.toArray.size = Rs.length := by rw [List.size_toArray, hx.length]
  refine Calls.call_len_list (hl.isList (X.sees ok)) (by rw [hz]; lia) ?_
  rw [hz]
  exact ends_toks (X.sees ok) _ ⟨_, rfl⟩
theorem bf_range1 (n : Int) : Bf prog w X (.type "range") [RI n] (RG 0 n 1) := fun vs => .mk fun g s ok h => by
  obtain ⟨v, rfl, ⟨t, e⟩⟩ := one_of h
  subst e
  refine call_range_1 ?_
  have n := get_size s.heap
  exact ⟨_, Step.push (X.sees ok) (kp_push s.heap _) n (Heap.get?_push_size s.heap rfl), _, _, _, _, rfl, View.add_self _ _ _⟩
theorem bf_range2 (a b : Int) : Bf prog w X (.type "range") [RI a, RI b] (RG a b 1) := fun vs => .mk fun g s ok h => by
  obtain ⟨v, v', rfl, ⟨t, e⟩, ⟨u, e'⟩⟩ := two_of h
  subst e e'
  refine call_range_2 ?_
  have n := get_size s.heap
  exact ⟨_, Step.push (X.sees ok) (kp_push s.heap _) n (Heap.get?_push_size s.heap rfl), _, _, _, _, rfl, View.add_self _ _ _⟩
theorem bf_range3 (a b d : Int) (hd : d ≠ 0) (hp : Builtin.divisionGoesByPylong (b - a) d = false) : Bf prog w X (.type "range") [RI a, RI b, RI d] (RG a b d) := fun vs => .mk fun g s ok h => by
  obtain ⟨v, v', v'', rfl, ⟨t, e⟩, ⟨u, e'⟩, ⟨x, e''⟩⟩ := three_of h
  subst e e' e''
  refine call_range_3 hd ?_ (.inl hp)
  have n := get_size s.heap
  exact ⟨_, Step.push (X.sees ok) (kp_push s.heap _) n (Heap.get?_push_size s.heap rfl), _, _, _, _, rfl, View.add_self _ _ _⟩

/-! methods -/
noncomputable def Ty (R : Rel) (T : String) : Prop := ∀ (g : View) (s : Shared) (v : Value), Sees g s.heap → R.r g v → s.TypeIs v T ∧ ∀ a, v = .ref a → ∃ ob : Obj, s.heap.get? a = some ob ∧ ob.dict = Option.none
theorem ty_str {x : Str} : Ty (RS x) "str" := fun g s v hs hpat => by
  obtain ⟨t, e⟩ := hpat
  subst e
  exact ⟨typeIs_str s x t, fun a h => by cases h⟩
theorem Ev.meth0 {o : Expr} {name : Str} {apos pos : Pos} {T id : String} {RO R : Rel} (ho : Ev prog w (F.ctx K c) o RO) (pa : PlainAttrs T) (slot : Slot T name id) (hty : typeOf (.builtin id) = pure (.type "method_descriptor")) (hT : Ty RO T)
    (hc : ∀ ov, Tr prog w (F.ctx K c) (fun g => RO.r g ov) (call (.builtin id) [ov]) R.r) (hbase : attributeBase o name F.env (eval o F.env) = eval o F.env := by rfl)
    (hfew : ((backTo pos (starEach [] F.env)).all (fun x => !x.1) && (backToKw pos (keywordEach [] F.env)).all (fun x => x.1.isSome)
      && decide (([] : List Expr).length + ([] : List Keyword).length + (if ([] : List Keyword).isEmpty then 0 else 1) < 30)) = true := by rfl)
    (hline : (apos.endLine == pos.line) = true := by rfl) : Ev prog w (F.ctx K c) (.Call (.Attribute o name apos) [] [] pos) R := .mk fun g s ok _ => by
  refine wpAny_Call_method hbase hfew hline pa slot hty (wp_of (ho.run g s ok trivial) fun ov s₁ hpat => ?_)
  obtain ⟨g₁, st₁, hr⟩ := hpat
  have ok₁ : Fm K F c g₁ s₁ := Fm.up ok st₁
  obtain ⟨h1, h2⟩ := hT g₁ s₁ ov ok₁.sees hr
  refine ⟨h1, h2, ?_⟩
  exact Calls.callWith_builtin rfl (PySem.evalArgs_none (wp_of ((hc ov).run g₁ s₁ ok₁ hr) fun u s₃ => ends_step st₁))
theorem Ev.meth {o e : Expr} {es : List Expr} {name : Str} {apos pos : Pos} {T id : String} {RO : Rel} {Rs : List Rel} {R : Rel} (ho : Ev prog w (F.ctx K c) o RO) (pa : PlainAttrs T) (slot : Slot T name id) (hty : typeOf (.builtin id) = pure (.type "method_descriptor"))
    (hT : Ty RO T) (ha : Evs prog w (F.ctx K c) pos (e :: es) Rs) (hc : ∀ ov vs, Tr prog w (F.ctx K c) (fun g => RO.r g ov ∧ All2 g Rs vs) (call (.builtin id) (ov :: vs)) R.r)
    (hbase : attributeBase o name F.env (eval o F.env) = eval o F.env := by rfl)
    (hfew : ((backTo pos (starEach (e :: es) F.env)).all (fun x => !x.1) && (backToKw pos (keywordEach [] F.env)).all (fun x => x.1.isSome)
      && decide ((e :: es).length + ([] : List Keyword).length + (if ([] : List Keyword).isEmpty then 0 else 1) < 30)) = true := by rfl)
    (hline : (apos.endLine == pos.line) = true := by rfl) (hs : starEach (e :: es) F.env = (false, eval e F.env) :: starEach es F.env := by rfl) (hp : (backTo pos (starEach es F.env)).any (·.1) = false := by rfl) :
    Ev prog w (F.ctx K c) (.Call (.Attribute o name apos) (e :: es) [] pos) R := .mk fun g s ok _ => by
  refine wpAny_Call_method hbase hfew hline pa slot hty (wp_of (ho.run g s ok trivial) fun ov s₁ hpat => ?_)
  obtain ⟨g₁, st₁, hr⟩ := hpat
  have ok₁ : Fm K F c g₁ s₁ := Fm.up ok st₁
  obtain ⟨h1, h2⟩ := hT g₁ s₁ ov ok₁.sees hr
  refine ⟨h1, h2, ?_⟩
  have hA : wpAny (model prog w) F.A (spliced (backTo pos (starEach (e :: es) F.env))) (Ends g₁ s₁ fun g vs => All2 g Rs vs) NoE s₁ := ha.run g₁ s₁ ok₁ trivial
  show wpAny (model prog w) F.A (callWith pos (.builtin id) [ov] (backTo pos (starEach (e :: es) F.env)) []) _ _ _
  rw [hs] at hA ⊢
  refine Calls.callWith_builtin (by show (false || (backTo pos (starEach es F.env)).any (·.1)) = false; rw [hp]; rfl) (Calls.evalArgs_plain (wp_of hA fun vs s₂ hpat => ?_))
  obtain ⟨g₂, st₂, hv⟩ := hpat
  exact wp_of ((hc ov vs).run g₂ s₂ (Fm.up ok₁ st₂) ⟨RO.up st₂.ext hr, hv⟩) fun u s₃ => ends_step (st₁.trans st₂)

/-! own lists -/
theorem Fm.addPv {P : Pv} {o : Obj} (x : Fm K F c g s) (hp : c.pv = Option.none) (hP : P.is g s.heap.objs.size (s.heap.push o)) : Fm K F { c with pv := some (s.heap.objs.size, P) } g { s with heap := s.heap.push o } := by
  have y := x.up (Step.heap' x.sees (kp_push s.heap o))
  have n := get_size s.heap
  refine { y with pv := fun a P' e => ?_ }
  simp only [Option.some.injEq, Prod.mk.injEq] at e
  obtain ⟨rfl, rfl⟩ := e
  refine ⟨hP, none_of_sees x.sees n, ?_, fun h => ?_, ?_⟩
  · cases q : F.s₀.heap.get? s.heap.objs.size with
    | none => rfl
    | some o' => have := x.st.keep _ _ q; rw [n] at this; cases this
  · obtain ⟨o', q⟩ := x.ownObj h; rw [n] at q; cases q
  · cases q : F.hold s.heap.objs.size with
    | none => rfl
    | some o' => have := x.held _ _ q; rw [n] at this; cases this
theorem s_newlist {x : Str} {p lp pos : Pos} (hp : c.pv = Option.none) (hx : F.Stores x) (hs : swapsWith (.List [] lp) (some (.Name x p)) pos.line F.env = pure false := by rfl) :
    So prog w K F c (exec (.Assign [.Name x p] (.List [] lp) pos) F.env) (fun f s => ∃ D, Nx K F ⟨(x, RV (.ref D)) :: c.ρ, some (D, PvL [])⟩ f s) := .mk fun g s ok => by
  refine wpAny_Assign_Name (List_ (args_nil (wpAny_newObj_type ?_ (by show #[].size ≤ sizeLine; exact small_line (Nat.zero_le _))))) hs
  have y := ok.addPv (P := PvL []) (o := { cls := .type "list", data := .seq ([] : List Value).toArray }) hp ⟨[], ⟨_, Heap.get?_push_size _ rfl⟩, trivial⟩
  exact wp_of (store_any (R := RV (.ref s.heap.objs.size)) y hx rfl) fun _ s' z => ⟨_, rfl, g, z⟩
theorem s_newlist2 {x y : Str} {elts : List Expr} {k k' : Nat} {tpos vpos lp pos : Pos} {e : Expr} {R : Rel} (hp : c.pv = Option.none) (he : ∀ D, Ev prog w (F.ctx K { c with pv := some (D, PvL []) }) e R) (hx : F.Stores x) (hy : F.Stores y)
    (hs : swapsWithSole [.Tuple elts k tpos] (.Tuple [.List [] lp, e] k' vpos) pos.line F.env = pure false := by rfl)
    (hw : swappedStores [.Tuple elts k tpos] (.Tuple [.List [] lp, e] k' vpos) F.env = pure (some [x, y]) := by rfl)
    (h1 : starEach [.List [] lp, e] F.env = (false, eval (.List [] lp) F.env) :: starEach [e] F.env := by rfl) (h2 : starEach [e] F.env = (false, eval e F.env) :: starEach [] F.env := by rfl) :
    So prog w K F c (exec (.Assign [.Tuple elts k tpos] (.Tuple [.List [] lp, e] k' vpos) pos) F.env) (fun f s => ∃ D, Nx K F ⟨(x, RV (.ref D)) :: (y, R) :: c.ρ, some (D, PvL [])⟩ f s) := .mk fun g s ok => by
  refine Assign_Tuple_swapped (Tuple_ (args_cons (List_ (args_nil (wpAny_newObj_type ?_ (by show #[].size ≤ sizeLine; exact small_line (Nat.zero_le _))))) h1)) hs hw
  have ok₁ := ok.addPv (P := PvL []) (o := { cls := .type "list", data := .seq ([] : List Value).toArray }) hp ⟨[], ⟨_, Heap.get?_push_size _ rfl⟩, trivial⟩
  refine args_cons (wp_of ((he _).run g _ ok₁ trivial) fun v s₂ ⟨g₂, st₂, hv⟩ => args_nil ?_) h2
  have ok₂ := ok₁.up st₂
  refine wpAny_newObj_type ?_ (by show 2 ≤ sizeLine; exact small_line (by decide))
  have ok₃ := ok₂.up (Step.heap' ok₂.sees (kp_push s₂.heap { cls := .type "tuple", data := .seq [.ref s.heap.objs.size, v].toArray }))
  refine unpackItems_tuple (items := #[.ref s.heap.objs.size, v]) ok.fok.handled ⟨_, Heap.get?_push_size _ rfl, rfl, _, rfl⟩ fun h' hex => ?_
  have ok₄ := ok₃.up (Step.heap' ok₃.sees (kp_ext hex))
  have run := AsR.run (prog := prog) (w := w) (.cons _ y R [(x, RV (.ref s.heap.objs.size))] _ hy (.cons _ x _ [] _ hx (.nil _))) ok₄ (vs := [v, .ref s.heap.objs.size]) ⟨hv, rfl, trivial⟩
  exact wp_of run fun _ _ z => ⟨_, rfl, _, z⟩
theorem s_append {x : Str} {p apos pos epos : Pos} {e : Expr} {D : Addr} {Rs : List Rel} {R : Rel} (hx : look x c.ρ = some (RV (.ref D))) (hp : c.pv = some (D, PvL Rs)) (h : Ev prog w (F.ctx K c) e R) (hn : Rs.length ≤ 16777216)
    (hd : (x == ("__debug__" : Str)) = false := by decide) (hcd : (x == ("__classdict__" : Str)) = false := by decide)
    (hbase : attributeBase (.Name x p) "append" F.env (eval (.Name x p) F.env) = eval (.Name x p) F.env := by rfl)
    (hfew : ((backTo pos (starEach [e] F.env)).all (fun x => !x.1) && (backToKw pos (keywordEach [] F.env)).all (fun x => x.1.isSome)
      && decide (([e] : List Expr).length + ([] : List Keyword).length + (if ([] : List Keyword).isEmpty then 0 else 1) < 30)) = true := by rfl)
    (hline : (apos.endLine == pos.line) = true := by rfl) (hs : starEach [e] F.env = (false, eval e F.env) :: starEach [] F.env := by rfl)
    (hi : interactive F.env = false := by rfl) (hsw : swapsWith (.Call (.Attribute (.Name x p) "append" apos) [e] [] pos) Option.none epos.line F.env = pure false := by rfl) :
    So prog w K F c (exec (.Expr (.Call (.Attribute (.Name x p) "append" apos) [e] [] pos) epos) F.env) (Nx K F { c with pv := some (D, PvL (Rs ++ [R])) }) := .mk fun g s ok => by
  refine wpAny_Expr (wpAny_Call_method hbase hfew hline PySem.F.plainAttrs_list slot_list_append type_list_append (wp_of ((Ev.var (pos := p) hx hd hcd).run g s ok trivial) fun v s₁ hpat => ?_)) hi hsw
  obtain ⟨g₁, st₁, q⟩ := hpat
  have q : v = .ref D := q
  subst q
  have ok₁ := ok.up st₁
  obtain ⟨⟨vs, ⟨n, hl⟩, ha⟩, _⟩ := ok₁.pv D _ hp
  refine ⟨⟨_, hl, rfl⟩, fun b hb => by cases hb; exact ⟨_, hl, rfl⟩, ?_⟩
  rw [hs]
  refine Calls.callWith_builtin rfl (Calls.evalArgs_plain (Calls.spliced_cons (wp_of (h.run g₁ s₁ ok₁ trivial) fun u s₂ ⟨g₂, st₂, hu⟩ => Calls.spliced_nil ?_)))
  have hap := append_pv (prog := prog) (w := w) (ok₁.up st₂) hp hu hn
  refine wp_of hap fun r s₃ hpat => ?_
  obtain ⟨e, z⟩ := hpat
  subst e
  exact ⟨rfl, g₂, z⟩
/-- an own list is handed back -/
theorem s_ret_own {x : Str} {p pos : Pos} {D : Addr} {Rs : List Rel} (hx : look x c.ρ = some (RV (.ref D))) (hp : c.pv = some (D, PvL Rs)) (hd : (x == ("__debug__" : Str)) = false := by decide) (hcd : (x == ("__classdict__" : Str)) = false := by decide) :
    So prog w K F c (exec (.Return (some (.Name x p)) pos) F.env) (Rt F (RL Rs)) := .mk fun g s ok =>
  wpAny_Return_some (wp_of ((Ev.var (pos := p) hx hd hcd).run g s ok trivial) fun v s₁ hpat => by
    obtain ⟨g₁, st₁, q⟩ := hpat
    have q : v = .ref D := q
    subst q
    obtain ⟨g', le, st, hr⟩ := (ok.up st₁).freeze hp
    exact ⟨_, g', rfl, st, hr⟩)
end
end Mine
end
section
open PySem PySem.W PyProof.Rows
set_option maxRecDepth 100000
set_option linter.unusedVariables false
namespace Mine
/-! Dicts. -/
section
variable {Kt : Type} [DecidableEq Kt] {α β : Type}
/-- a pair laid into a table -/
noncomputable def put (l : List (Kt × α)) (k : Kt) (v : α) : List (Kt × α) := if l.any (fun p => p.1 = k) then l.map (fun p => if p.1 = k then (p.1, v) else p) else l ++ [(k, v)]
noncomputable def has (l : List (Kt × α)) (k : Kt) : Bool := l.any fun p => p.1 = k
theorem put_keys (l : List (Kt × α)) (m : List (Kt × β)) (k : Kt) (v : α) (u : β) (h : l.map (·.1) = m.map (·.1)) : (put l k v).map (·.1) = (put m k u).map (·.1) := by
  have e : ∀ {γ : Type} (l : List (Kt × γ)) (x : γ), (l.map (fun p => if p.1 = k then (p.1, x) else p)).map (·.1) = l.map (·.1) := fun l x => by
    rw [List.map_map]
    refine List.map_congr_left fun p _ => ?_
    show (if p.1 = k then (p.1, x) else p).1 = p.1
    split <;> rfl
  have a : l.any (fun p => p.1 = k) = m.any (fun p => p.1 = k) := by
    have e1 : l.any (fun p => decide (p.1 = k)) = (l.map (·.1)).any (fun x => decide (x = k)) := by rw [List.any_map]; rfl
    have e2 : m.any (fun p => decide (p.1 = k)) = (m.map (·.1)).any (fun x => decide (x = k)) := by rw [List.any_map]; rfl
    rw [e1, e2, h]
  unfold put
  rw [a]
  split
  · rw [e, e, h]
  · rw [List.map_append, List.map_append, h]; rfl
end
section
variable {prog : Program} {w : World} {Kt : Type} [DecidableEq Kt]
noncomputable def RKey (knd : KeyKind prog w Kt) (k : Kt) : Rel := ⟨fun _ v => knd.is k v = true, fun _ h => h⟩
theorem le_int (i : Int) : Le (RKey (intKind prog w) i) (RI i) := fun _ v h => Value.isInt_shape h
theorem le_str (x : Str) : Le (RKey (strKind prog w) x) (RS x) := fun _ v h => Value.isStrOf_shape h
theorem int_le (i : Int) : Le (RI i) (RKey (intKind prog w) i) := fun _ v ⟨t, e⟩ => by subst e; exact intKind_is prog w i t
theorem str_le (x : Str) : Le (RS x) (RKey (strKind prog w) x) := fun _ v ⟨t, e⟩ => by subst e; exact strKind_is prog w x t
/-- what stands in a table -/
noncomputable def Holds (knd : KeyKind prog w Kt) (kvs : List (Kt × Rel)) (g : View) (xs : List (Kt × Value)) : Prop := xs.map (·.1) = kvs.map (·.1) ∧ All2 g (kvs.map (·.2)) (xs.map (·.2))
theorem Holds.up {knd : KeyKind prog w Kt} {kvs : List (Kt × Rel)} {g g' : View} {xs : List (Kt × Value)} (k : VLe g g') (h : Holds knd kvs g xs) : Holds knd kvs g' xs := ⟨h.1, h.2.up k⟩
noncomputable def RD (knd : KeyKind prog w Kt) (kvs : List (Kt × Rel)) : Rel :=
  ⟨fun g v => ∃ d o xs, v = .ref d ∧ (d == sysModules) = false ∧ g d = some o ∧ o.IsDictOf knd xs ∧ Holds knd kvs g xs, fun k hpat => by obtain ⟨d, o, xs, e, n, h, i, z⟩ := hpat; exact ⟨d, o, xs, e, n, k _ _ h, i, z.up k⟩⟩
noncomputable def PvD (knd : KeyKind prog w Kt) (kvs : List (Kt × Rel)) : Pv where
  is := fun g a h => (a == sysModules) = false ∧ ∃ xs, h.DictOf knd a xs ∧ Holds knd kvs g xs
  up := fun k ⟨n, xs, h, z⟩ => ⟨n, xs, h, z.up k⟩
  at' := fun k ⟨n, xs, h, z⟩ => ⟨n, xs, h.at k, z⟩
  here := fun ⟨_, xs, ⟨o, _, _, h, _⟩, _⟩ => ⟨o, h⟩
theorem Holds.len {knd : KeyKind prog w Kt} {kvs : List (Kt × Rel)} {g : View} {xs : List (Kt × Value)} (h : Holds knd kvs g xs) : xs.length = kvs.length := by have := congrArg List.length h.1; simpa using this
theorem All2.mapk {g : View} {Kt : Type} [DecidableEq Kt] (k : Kt) (R : Rel) (v : Value) (hv : R.r g v) : ∀ (kvs : List (Kt × Rel)) (xs : List (Kt × Value)), xs.map (·.1) = kvs.map (·.1) → All2 g (kvs.map (·.2)) (xs.map (·.2)) →
    All2 g ((kvs.map fun p => if p.1 = k then (p.1, R) else p).map (·.2)) ((xs.map fun p => if p.1 = k then (p.1, v) else p).map (·.2))
  | [], [], _, _ => trivial
  | [], _ :: _, e, _ => by simp at e
  | _ :: _, [], e, _ => by simp at e
  | (a, A) :: kvs, (b, x) :: xs, e, h => by
    simp only [List.map_cons, List.cons.injEq] at e
    obtain ⟨e1, e2⟩ := e
    subst e1
    refine ⟨?_, All2.mapk k R v hv kvs xs e2 h.2⟩
    show (if b = k then (b, R) else (b, A)).2.r g (if b = k then (b, v) else (b, x)).2
    split
    · exact hv
    · exact h.1
theorem Holds.put {knd : KeyKind prog w Kt} {kvs : List (Kt × Rel)} {g : View} {xs : List (Kt × Value)} {k : Kt} {R : Rel} {v : Value} (h : Holds knd kvs g xs) (hv : R.r g v) : Holds knd (put kvs k R) g (stored xs k v) := by
  have e : stored xs k v = Mine.put xs k v := by unfold stored Mine.put; rfl
  rw [e]
  refine ⟨put_keys _ _ _ _ _ h.1, ?_⟩
  have a : xs.any (fun p => p.1 = k) = kvs.any (fun p => p.1 = k) := by
    have e1 : xs.any (fun p => decide (p.1 = k)) = (xs.map (·.1)).any (fun x => decide (x = k)) := by rw [List.any_map]; rfl
    have e2 : kvs.any (fun p => decide (p.1 = k)) = (kvs.map (·.1)).any (fun x => decide (x = k)) := by rw [List.any_map]; rfl
    rw [e1, e2, h.1]
  unfold Mine.put
  rw [a]
  split
  · exact All2.mapk k R v hv _ _ h.1 h.2
  · rw [List.map_append, List.map_append]; exact h.2.append ⟨hv, trivial⟩
theorem Holds.at {knd : KeyKind prog w Kt} {kvs : List (Kt × Rel)} {g : View} {xs : List (Kt × Value)} (h : Holds knd kvs g xs) {i : Nat} {k : Kt} {v : Value} (e : xs[i]? = some (k, v)) : ∃ R, kvs[i]? = some (k, R) ∧ R.r g v := by
  have e1 : (xs.map (·.1))[i]? = some k := by rw [List.getElem?_map, e]; rfl
  rw [h.1, List.getElem?_map] at e1
  cases q : kvs[i]? with
  | none => rw [q] at e1; cases e1
  | some p =>
    rw [q] at e1
    simp only [Option.map_some, Option.some.injEq] at e1
    obtain ⟨v', hv', hr⟩ := h.2.get (i := i) (R := p.2) (by rw [List.getElem?_map, q]; rfl)
    rw [List.getElem?_map, e] at hv'
    simp only [Option.map_some, Option.some.injEq] at hv'
    refine ⟨p.2, by rw [← e1], by rw [hv']; exact hr⟩
/-- the value at a key -/
noncomputable def getR (kvs : List (Kt × Rel)) (k : Kt) : Option Rel := (kvs.find? fun p => p.1 = k).map (·.2)
theorem Holds.get {g : View} : ∀ {kvs : List (Kt × Rel)} {xs : List (Kt × Value)}, xs.map (·.1) = kvs.map (·.1) → All2 g (kvs.map (·.2)) (xs.map (·.2)) → ∀ k, (getR kvs k = Option.none ∧ valueAt xs k = Option.none) ∨ ∃ R v, getR kvs k = some R ∧ valueAt xs k = some v ∧ R.r g v
  | [], [], _, _, k => .inl ⟨rfl, rfl⟩
  | [], _ :: _, e, _, _ => by simp at e
  | _ :: _, [], e, _, _ => by simp at e
  | (a, A) :: kvs, (b, x) :: xs, e, h, k => by
    simp only [List.map_cons, List.cons.injEq] at e
    obtain ⟨e1, e2⟩ := e
    subst e1
    by_cases q : b = k
    · exact .inr ⟨A, x, by simp [getR, q], by simp [valueAt, q], h.1⟩
    · have := Holds.get e2 h.2 k
      simpa [getR, valueAt, q] using this
theorem get_has (kvs : List (Kt × Rel)) (k : Kt) : (getR kvs k).isSome = has kvs k := by
  unfold getR has
  induction kvs with
  | nil => rfl
  | cons p l ih =>
    by_cases q : p.1 = k
    · simp [q]
    · simpa [q] using ih
end
end Mine
end
section
open PySem PySem.W PyProof.Rows
set_option maxRecDepth 100000
set_option linter.unusedVariables false
namespace Mine
section
variable {prog : Program} {w : World} {K : View} {F : Fr} {c c' : Cfg} {g g' : View} {s s' : Shared} {X : Ctx} {Kt : Type} [DecidableEq Kt] {knd : KeyKind prog w Kt}
theorem kturnsCast {A : Around} {target : Expr} {I : Addr} {fp wr : List Addr} {n n' : Nat} {P Md : Nat → Value → Heap → Prop} {St : Nat → Heap → Prop} (T : KTurns prog w A target I fp wr n P Md St) (h : n = n') :
    KTurns prog w A target I fp wr n' P Md St := by subst h; exact T
theorem dict_new : ({ cls := .type "dict", data := .dict #[] } : Obj).IsDictOf knd [] := ⟨#[], 0, ⟨rfl, rfl, rfl⟩, rfl, fun _ he => by simp at he, Pairs.nil, List.nodup_nil⟩
theorem Ev.dict0 {pos : Pos} : Ev prog w (F.ctx K c) (.Dict [] [] pos) (RD knd []) := .mk fun g s ok _ => by
  have ok : Fm K F c g s := ok
  have n := get_size s.heap
  exact wpAny_Dict_empty ⟨_, Step.push (t := s.toks) ok.sees (kp_push s.heap _) n (Heap.get?_push_size s.heap rfl), _, _, [], rfl, ok.low, View.add_self _ _ _, dict_new, rfl, trivial⟩
theorem ty_dict {kvs : List (Kt × Rel)} : Ty (RD knd kvs) "dict" := fun g s v hs hpat => by
  obtain ⟨d, o, xs, e, n, h, ⟨es, ep, ⟨hc, hd, _⟩, _⟩, _⟩ := hpat
  subst e
  exact ⟨⟨_, hs _ _ h, hc⟩, fun b hb => by cases hb; exact ⟨_, hs _ _ h, hd⟩⟩
theorem s_newdict {x : Str} {p dp pos : Pos} (knd : KeyKind prog w Kt) (hp : c.pv = Option.none) (hx : F.Stores x) (hs : swapsWith (.Dict [] [] dp) (some (.Name x p)) pos.line F.env = pure false := by rfl) :
    So prog w K F c (exec (.Assign [.Name x p] (.Dict [] [] dp) pos) F.env) (fun f s => ∃ D, Nx K F ⟨(x, RV (.ref D)) :: c.ρ, some (D, PvD knd [])⟩ f s) := .mk fun g s ok => by
  refine wpAny_Assign_Name (wpAny_Dict_empty ?_) hs
  have y := ok.addPv (P := PvD knd []) (o := { cls := .type "dict", data := .dict #[] }) hp ⟨ok.low, [], Heap.DictOf.new _, rfl, trivial⟩
  exact wp_of (store_any (R := RV (.ref s.heap.objs.size)) y hx rfl) fun _ s' z => ⟨_, rfl, g, z⟩
/-- walking a table's items | values | keys -/
theorem pyIter_itemiter {A : Around} {E : Value → Shared → Prop} {it d : Addr} {i n ep : Nat} {ok ov : Value} {Q : Value → Shared → Prop} (hit : IsItemIter s.heap it d i n ep ok ov) (h : Q (.ref it) s) : wpAny (model prog w) A (pyIter (.ref it)) Q E s := by
  have hT : s.TypeIs (.ref it) "dict_itemiterator" := ⟨_, hit, rfl⟩
  refine wpAny_pyIter_slot hT PySem.F.slot_dict_itemiterator_iter (wpAny_call_entry PySem.F.slot_dict_itemiterator_iter hT kcp_entry ?_ (PySem.F.args_dict_itemiterator_iter_1 _))
  show wpAny _ _ (ret (.ref it)) _ _ s
  exact wpAny_pure ⟨_, rfl, "dict_itemiterator", _, hT, PySem.F.slot_dict_itemiterator_next.lookup, h⟩
theorem items_turning {elts : List Expr} {k : Nat} {pos : Pos} {kvs : List (Kt × Rel)} {v : Value} (ok : Fm K F c g s) (hv : (RD knd kvs).r g v) :
    wpAny (model prog w) F.A (call (.builtin "dict.items") [v]) (fun u s₁ => wpAny (model prog w) F.A (pyIter u) (fun it s₂ => ∃ g₁, Turning prog w F.A (.Tuple elts k pos) (kvs.map fun p => .tup [RKey knd p.1, p.2]) g s it g₁ s₂) NoE s₁) NoE s := by
  obtain ⟨d, o, xs, e, n, h, hi, hh⟩ := hv
  subst e
  have hd : s.heap.DictOf knd d xs := Heap.dictOf_iff.mpr ⟨o, ok.sees _ _ h, hi⟩
  refine call_meetsIn PySem.F.slot_dict_items hd.typeIs PySem.F.entry_dict_items (PySem.F.args_dict_items_1 _) (meets_dict_items knd d n) ⟨⟨xs, hd⟩, ?_⟩
  have ok₁ := ok.up (Step.heap' ok.sees (kp_push s.heap { cls := .type "dict_items", data := .fields #[.ref d] }))
  have st₁ := Step.heap' ok.sees (kp_push s.heap { cls := .type "dict_items", data := .fields #[.ref d] })
  obtain ⟨ep, hat⟩ := (hd.push { cls := .type "dict_items", data := .fields #[.ref d] }).dictAt
  have hview : (s.heap.push { cls := .type "dict_items", data := .fields #[.ref d] }).IsItemsView s.heap.objs.size d := ⟨_, Heap.get?_push_size _ rfl, rfl, rfl⟩
  have T := kti_itemsTurns (A := F.A) (knd := knd) (elts := elts) (kk := k) (pos := pos) ok.fok.handled (s.heap.push { cls := .type "dict_items", data := .fields #[.ref d] }).objs.size d (Nat.ne_of_lt hat.lt_size) xs ep
  have hn : xs.length = (kvs.map fun p => Item.tup [RKey knd p.1, p.2]).length := by rw [List.length_map, hh.len]
  have T' := kturnsCast T hn
  refine wpAny_pyIter_items hview hat ?_
  have tt := Turning.one (s := { s with heap := s.heap.push { cls := .type "dict_items", data := .fields #[.ref d] } }) (t := s.toks) (items := kvs.map fun p => Item.tup [RKey knd p.1, p.2]) ok₁.sees (o := { cls := .type "dict_itemiterator", data := .fields #[.none, .bool false, .ref d, .int 0 0, .int xs.length 0, .int ep 0, .none, .none] }) ?_ T' ?_ ?_ ?_ ?_
  · obtain ⟨g₁, t⟩ := tt; exact ⟨g₁, t.trans st₁⟩
  · intro b hb
    rcases List.mem_cons.mp hb with e | hb
    · exact .inl e
    · rw [List.mem_singleton.mp hb]; exact .inr ⟨_, h⟩
  · intro i h st; obtain ⟨⟨ok, ov, e⟩, _⟩ := st; exact ⟨_, e⟩
  · intro i v h' g' hi k' _ e
    obtain ⟨T, key, k, x, rfl, hx, hk, hT⟩ := e
    obtain ⟨R, hR, hr⟩ := hh.at hx
    exact ⟨.tup [RKey knd k, R], by rw [List.getElem?_map, hR]; rfl, T, _, rfl, hT, hk, R.up k' hr, trivial⟩
  · intro i s' Q E st q; obtain ⟨⟨ok, ov, e⟩, _⟩ := st; exact pyIter_itemiter e q
  · exact ⟨⟨_, _, Heap.get?_push_size _ rfl⟩, hat.push _⟩
theorem iter_items {o : Expr} {apos pos tpos : Pos} {elts : List Expr} {k : Nat} {kvs : List (Kt × Rel)} (ho : Ev prog w (F.ctx K c) o (RD knd kvs)) (hbase : attributeBase o "items" F.env (eval o F.env) = eval o F.env := by rfl)
    (hfew : ((backTo pos (starEach [] F.env)).all (fun x => !x.1) && (backToKw pos (keywordEach [] F.env)).all (fun x => x.1.isSome)
      && decide (([] : List Expr).length + ([] : List Keyword).length + (if ([] : List Keyword).isEmpty then 0 else 1) < 30)) = true := by rfl)
    (hline : (apos.endLine == pos.line) = true := by rfl) : EvIter prog w (F.ctx K c) (.Call (.Attribute o "items" apos) [] [] pos) (.Tuple elts k tpos) (kvs.map fun p => .tup [RKey knd p.1, p.2]) := .mk fun g s ok => by
  refine wpAny_Call_method hbase hfew hline PySem.F.plainAttrs_dict PySem.F.slot_dict_items PySem.F.type_dict_items (wp_of (ho.run g s ok trivial) fun ov s₁ hpat => ?_)
  obtain ⟨g₁, st₁, hr⟩ := hpat
  have ok₁ : Fm K F c g₁ s₁ := Fm.up ok st₁
  obtain ⟨h1, h2⟩ := ty_dict g₁ s₁ ov ok₁.sees hr
  refine ⟨h1, h2, ?_⟩
  refine Calls.callWith_builtin rfl (PySem.evalArgs_none (wp_of (items_turning ok₁ hr) fun u s₂ h => wp_of h fun it s₃ ⟨g₂, t⟩ => ⟨g₂, t.trans st₁⟩))
theorem values_turning {target : Expr} {kvs : List (Kt × Rel)} {v : Value} {X : Shared → Prop} (ok : Fm K F c g s) (hv : (RD knd kvs).r g v) :
    wpAny (model prog w) F.A (call (.builtin "dict.values") [v]) (fun u s₁ => wpAny (model prog w) F.A (pyIter u) (fun it s₂ => ∃ g₁, Turning prog w F.A target (kvs.map fun p => .one p.2) g s it g₁ s₂) NoE s₁) NoE s := by
  obtain ⟨d, o, xs, e, n, h, hi, hh⟩ := hv
  subst e
  have hd : s.heap.DictOf knd d xs := Heap.dictOf_iff.mpr ⟨o, ok.sees _ _ h, hi⟩
  refine call_meetsIn PySem.F.slot_dict_values hd.typeIs PySem.F.entry_dict_values (PySem.F.args_dict_values_1 _) (meets_dict_values knd d n) ⟨⟨xs, hd⟩, ?_⟩
  have ok₁ := ok.up (Step.heap' ok.sees (kp_push s.heap { cls := .type "dict_values", data := .fields #[.ref d] }))
  have st₁ := Step.heap' ok.sees (kp_push s.heap { cls := .type "dict_values", data := .fields #[.ref d] })
  obtain ⟨ep, hat⟩ := (hd.push { cls := .type "dict_values", data := .fields #[.ref d] }).dictAt
  have hview : (s.heap.push { cls := .type "dict_values", data := .fields #[.ref d] }).IsValuesView s.heap.objs.size d := ⟨_, Heap.get?_push_size _ rfl, rfl, rfl⟩
  have T := KTurns.ofWalks (target := target) (Walks.dictValues (A := F.A) (knd := knd) ok.fok.handled (s.heap.push { cls := .type "dict_values", data := .fields #[.ref d] }).objs.size d (Nat.ne_of_lt hat.lt_size) xs ep) fun i v s Q E st q => letGo_valiter st.1 q
  have hn : xs.length = (kvs.map fun p => Item.one p.2).length := by rw [List.length_map, hh.len]
  have T' := kturnsCast T hn
  refine wpAny_pyIter_values hview hat ?_
  have tt := Turning.one (s := { s with heap := s.heap.push { cls := .type "dict_values", data := .fields #[.ref d] } }) (t := s.toks) (items := kvs.map fun p => Item.one p.2) ok₁.sees (o := { cls := .type "dict_valueiterator", data := .fields #[.ref d, .int 0 0, .int xs.length 0, .int ep 0] }) ?_ T' ?_ ?_ ?_ ?_
  · obtain ⟨g₁, t⟩ := tt; exact ⟨g₁, t.trans st₁⟩
  · intro b hb
    rcases List.mem_cons.mp hb with e | hb
    · exact .inl e
    · rw [List.mem_singleton.mp hb]; exact .inr ⟨_, h⟩
  · intro i h st; obtain ⟨o, e, _⟩ := st.1; exact ⟨_, e⟩
  · intro i v h' g' hi k' _ e
    obtain ⟨k, hx⟩ := e
    obtain ⟨R, hR, hr⟩ := hh.at hx
    exact ⟨.one R, by rw [List.getElem?_map, hR]; rfl, R.up k' hr⟩
  · intro i s' Q E st q; exact wpAny_pyIter_valiter st.1 q
  · exact ⟨⟨_, Heap.get?_push_size _ rfl, rfl, rfl⟩, hat.push _⟩
theorem iter_values {o target : Expr} {apos pos : Pos} {kvs : List (Kt × Rel)} (ho : Ev prog w (F.ctx K c) o (RD knd kvs)) (hbase : attributeBase o "values" F.env (eval o F.env) = eval o F.env := by rfl)
    (hfew : ((backTo pos (starEach [] F.env)).all (fun x => !x.1) && (backToKw pos (keywordEach [] F.env)).all (fun x => x.1.isSome)
      && decide (([] : List Expr).length + ([] : List Keyword).length + (if ([] : List Keyword).isEmpty then 0 else 1) < 30)) = true := by rfl)
    (hline : (apos.endLine == pos.line) = true := by rfl) : EvIter prog w (F.ctx K c) (.Call (.Attribute o "values" apos) [] [] pos) target (kvs.map fun p => .one p.2) := .mk fun g s ok => by
  refine wpAny_Call_method hbase hfew hline PySem.F.plainAttrs_dict PySem.F.slot_dict_values PySem.F.type_dict_values (wp_of (ho.run g s ok trivial) fun ov s₁ hpat => ?_)
  obtain ⟨g₁, st₁, hr⟩ := hpat
  have ok₁ : Fm K F c g₁ s₁ := Fm.up ok st₁
  obtain ⟨h1, h2⟩ := ty_dict g₁ s₁ ov ok₁.sees hr
  refine ⟨h1, h2, ?_⟩
  refine Calls.callWith_builtin rfl (PySem.evalArgs_none (wp_of (values_turning (X := fun _ => True) ok₁ hr) fun u s₂ h => wp_of h fun it s₃ ⟨g₂, t⟩ => ⟨g₂, t.trans st₁⟩))
theorem iter_dict {iter target : Expr} {kvs : List (Kt × Rel)} (h : Ev prog w (F.ctx K c) iter (RD knd kvs)) : EvIter prog w (F.ctx K c) iter target (kvs.map fun p => .one (RKey knd p.1)) := EvIter.of h fun v g s ok hv => by
  have ok : Fm K F c g s := ok
  obtain ⟨d, o, xs, e, n, h, hi, hh⟩ := hv
  subst e
  have hd : s.heap.DictOf knd d xs := Heap.dictOf_iff.mpr ⟨o, ok.sees _ _ h, hi⟩
  obtain ⟨ep, hat⟩ := hd.dictAt
  have T := KTurns.ofWalks (target := target) (Walks.dictKeys (A := F.A) (knd := knd) ok.fok.handled s.heap.objs.size d (Nat.ne_of_lt hat.lt_size) xs ep) fun i v s Q E st q => letGo_keyiter st.1 q
  have hn : xs.length = (kvs.map fun p => Item.one (RKey knd p.1)).length := by rw [List.length_map, hh.len]
  have T' := kturnsCast T hn
  refine wpAny_pyIter_dict n hat (Turning.one (t := s.toks) ok.sees ?_ T' ?_ ?_ ?_ ?_)
  · intro b hb
    rcases List.mem_cons.mp hb with e | hb
    · exact .inl e
    · rw [List.mem_singleton.mp hb]; exact .inr ⟨_, h⟩
  · intro i h st; obtain ⟨o, e, _⟩ := st.1; exact ⟨_, e⟩
  · intro i v h' g' hi k' _ e
    obtain ⟨k, x, hx, hk⟩ := e
    obtain ⟨R, hR, hr⟩ := hh.at hx
    exact ⟨.one (RKey knd k), by rw [List.getElem?_map, hR]; rfl, hk⟩
  · intro i s' Q E st q; exact wpAny_pyIter_keyiter st.1 q
  · exact ⟨⟨_, Heap.get?_push_size _ rfl, rfl, rfl⟩, hat.push _⟩
end
end Mine
end
section
open PySem PySem.W PyProof.Rows
set_option maxRecDepth 100000
set_option linter.unusedVariables false
namespace Mine
section
variable {prog : Program} {w : World} {K : View} {F : Fr} {c c' : Cfg} {g g' : View} {s s' : Shared} {X : Ctx} {Kt : Type} [DecidableEq Kt] {knd : KeyKind prog w Kt}
theorem setitem_pv {D : Addr} {kvs : List (Kt × Rel)} {k : Kt} {R : Rel} {key v : Value} (x : Fm K F c g s) (hp : c.pv = some (D, PvD knd kvs)) (hk : knd.is k key = true) (hr : R.r g v) (hn : kvs.length ≤ 16777216) :
    wpAny (model prog w) F.A (setItem (.ref D) key v) (fun _ s' => Fm K F { c with pv := some (D, PvD knd (put kvs k R)) } g s') NoE s := by
  obtain ⟨⟨n, xs, hd, hh⟩, _⟩ := x.pv D _ hp
  exact wpAny_setItem_pairs hk hd (fun h' hd' hs => x.wrotePv hp hs ⟨n, _, hd', hh.put hr⟩) (by rw [hh.len]; exact small_line hn)
theorem dictset_pv {D : Addr} {kvs : List (Kt × Rel)} {k : Kt} {R : Rel} {key v : Value} (x : Fm K F c g s) (hp : c.pv = some (D, PvD knd kvs)) (hk : knd.is k key = true) (hr : R.r g v) (hn : kvs.length ≤ 16777216) :
    wpAny (model prog w) F.A (dictSet D key v) (fun _ s' => Fm K F { c with pv := some (D, PvD knd (put kvs k R)) } g s') NoE s := by
  obtain ⟨⟨n, xs, hd, hh⟩, _⟩ := x.pv D _ hp
  exact wpAny_dictSet_pairs hk hd (fun h' hd' hs => x.wrotePv hp hs ⟨n, _, hd', hh.put hr⟩) (by rw [hh.len]; exact small_line hn)
theorem s_setitem {D : Addr} {o i value : Expr} {p pos : Pos} {kvs : List (Kt × Rel)} {k : Kt} {R : Rel} (hp : c.pv = some (D, PvD knd kvs)) (hv : Ev prog w (F.ctx K c) value R) (ho : Ev prog w (F.ctx K c) o (RV (.ref D))) (hi : Ev prog w (F.ctx K c) i (RKey knd k))
    (hn : kvs.length ≤ 16777216) (hs : swapsWith value (some (.Subscript o i p)) pos.line F.env = pure false := by rfl) :
    So prog w K F c (exec (.Assign [.Subscript o i p] value pos) F.env) (Nx K F { c with pv := some (D, PvD knd (put kvs k R)) }) := .mk fun g s ok =>
  wpAny_Assign_Subscript (wp_of (hv.run g s ok trivial) fun v s₁ ⟨g₁, st₁, hv⟩ => wp_of (ho.run g₁ s₁ (ok.up st₁) trivial) fun ov s₂ ⟨g₂, st₂, e⟩ => wp_of (hi.run g₂ s₂ ((ok.up st₁).up st₂) trivial) fun iv s₃ hpat => by
    obtain ⟨g₃, st₃, hk⟩ := hpat
    have e : ov = .ref D := e
    subst e
    exact wp_of (setitem_pv (((ok.up st₁).up st₂).up st₃) hp hk (R.up (st₂.ext.trans st₃.ext) hv) hn) fun _ _ z => ⟨rfl, _, z⟩) hs
theorem s_augitem {D : Addr} {o value : Expr} {x : Str} {px p pos : Pos} {op : Operator} {kvs : List (Kt × Rel)} {k : Kt} {L R Z : Rel} (hp : c.pv = some (D, PvD knd kvs)) (ho : Ev prog w (F.ctx K c) o (RV (.ref D))) (hi : Ev prog w (F.ctx K c) (.Name x px) (RKey knd k))
    (hg : getR kvs k = some L) (hv : Ev prog w (F.ctx K c) value R) (hop : Op2 prog w (F.ctx K c) (inplaceOp op) L R Z) (hn : kvs.length ≤ 16777216) :
    So prog w K F c (exec (.AugAssign (.Subscript o (.Name x px) p) op value pos) F.env) (Nx K F { c with pv := some (D, PvD knd (put kvs k Z)) }) := .mk fun g s ok =>
  wpAny_AugAssign_Subscript (wp_of (ho.run g s ok trivial) fun ov s₁ ⟨g₁, st₁, e⟩ => wp_of (hi.run g₁ s₁ (ok.up st₁) trivial) fun iv s₂ hpat => by
    obtain ⟨g₂, st₂, hk⟩ := hpat
    have e : ov = .ref D := e
    subst e
    have ok₂ := (ok.up st₁).up st₂
    obtain ⟨⟨n, xs, hd, hh⟩, _⟩ := ok₂.pv D _ hp
    rcases Holds.get hh.1 hh.2 k with ⟨q, _⟩ | ⟨L', u, q, hu, hr⟩
    · rw [q] at hg; cases hg
    · rw [q] at hg; cases hg
      refine wpAny_getItem_of hk hd.mapOf hu ?_
      have st₃ := Step.toks ok₂.sees (s.toks)
      have ok₃ := ok₂.up (Step.toks ok₂.sees (s₂.toks + 1))
      refine wp_of (hv.run g₂ _ ok₃ trivial) fun v s₄ hpat => ?_
      obtain ⟨g₄, st₄, hv⟩ := hpat
      have ok₄ := ok₃.up st₄
      refine wp_of ((hop u v).run g₄ s₄ ok₄ ⟨L.up st₄.ext hr, hv⟩) fun z s₅ hpat => ?_
      obtain ⟨g₅, st₅, hz⟩ := hpat
      exact wp_of (setitem_pv (ok₄.up st₅) hp hk hz hn) fun _ _ z => ⟨rfl, _, z⟩)
theorem op_in_pv {D : Addr} {kvs : List (Kt × Rel)} {k : Kt} (hp : c.pv = some (D, PvD knd kvs)) : Op2 prog w (F.ctx K c) (compareOp .In) (RKey knd k) (RV (.ref D)) (RB (has kvs k)) := fun a b => .mk fun g s ok hpat => by
  obtain ⟨ha, hb⟩ := hpat
  have ok : Fm K F c g s := ok
  have hb : b = .ref D := hb
  subst hb
  obtain ⟨⟨n, xs, hd, hh⟩, _⟩ := ok.pv D _ hp
  refine wpAny_in_of ha n hd.mapOf (ends_toks ok.sees _ ?_)
  show Value.bool _ = Value.bool _
  rw [← get_has]
  rcases Holds.get hh.1 hh.2 k with ⟨q, r⟩ | ⟨L', u, q, r, _⟩ <;> rw [q, r] <;> rfl
theorem op_in {kvs : List (Kt × Rel)} {k : Kt} : Op2 prog w (F.ctx K c) (compareOp .In) (RKey knd k) (RD knd kvs) (RB (has kvs k)) := fun a b => .mk fun g s ok hpat => by
  obtain ⟨ha, hb⟩ := hpat
  have ok : Fm K F c g s := ok
  obtain ⟨d, o, xs, e, n, h, hi, hh⟩ := hb
  subst e
  have hd : s.heap.DictOf knd d xs := Heap.dictOf_iff.mpr ⟨o, ok.sees _ _ h, hi⟩
  refine wpAny_in_of ha n hd.mapOf (ends_toks ok.sees _ ?_)
  show Value.bool _ = Value.bool _
  rw [← get_has]
  rcases Holds.get hh.1 hh.2 k with ⟨q, r⟩ | ⟨L', u, q, r, _⟩ <;> rw [q, r] <;> rfl
/-- an own table is handed back -/
theorem Fm.freezeD {D : Addr} {kvs : List (Kt × Rel)} (x : Fm K F c g s) (hp : c.pv = some (D, PvD knd kvs)) : ∃ g', VLe g g' ∧ Step F.g₀ F.s₀ g' s ∧ (RD knd kvs).r g' (.ref D) := by
  obtain ⟨⟨n, xs, hd, hh⟩, q, r, no, z⟩ := x.pv D _ hp
  obtain ⟨o, hl, hi⟩ := Heap.dictOf_iff.mp hd
  have le : VLe g (g.add D o) := View.le_add q
  refine ⟨g.add D o, le, ?_, D, o, xs, rfl, n, View.add_self _ _ _, hi, hh.up le⟩
  exact {
      same := x.st.same, keep := x.st.keep, ext := x.st.ext.trans le
      sees := fun b o' e => by
        unfold View.add at e
        split at e
        · rename_i w; subst w; cases e; exact hl
        · exact x.sees b o' e
      new := fun b o e => by
        unfold View.add at e
        split at e
        · rename_i w; subst w; exact .inr r
        · exact x.st.new b o e }
theorem s_ret_ownD {x : Str} {p pos : Pos} {D : Addr} {kvs : List (Kt × Rel)} (hx : look x c.ρ = some (RV (.ref D))) (hp : c.pv = some (D, PvD knd kvs)) (hd : (x == ("__debug__" : Str)) = false := by decide) (hcd : (x == ("__classdict__" : Str)) = false := by decide) :
    So prog w K F c (exec (.Return (some (.Name x p)) pos) F.env) (Rt F (RD knd kvs)) := .mk fun g s ok =>
  wpAny_Return_some (wp_of ((Ev.var (pos := p) hx hd hcd).run g s ok trivial) fun v s₁ hpat => by
    obtain ⟨g₁, st₁, q⟩ := hpat
    have q : v = .ref D := q
    subst q
    obtain ⟨g', le, st, hr⟩ := (ok.up st₁).freezeD hp
    exact ⟨_, g', rfl, st, hr⟩)
end
end Mine
end
section
open PySem PySem.W PyProof.Rows PySem.SeqAt
set_option maxRecDepth 100000
set_option linter.unusedVariables false
namespace Mine
section
variable {prog : Program} {w : World} {K : View} {F : Fr} {c c' : Cfg} {g g' : View} {s s' : Shared} {X : Ctx} {Kt : Type} [DecidableEq Kt] {knd : PySem.KeyKind prog w Kt}
/-! data, compared -/
noncomputable def RP (d : PyData) : Rel := ⟨fun g v => ∀ h : Heap, Sees g h → ∃ as, Reads h v d as, fun k h hp s => h hp fun a o e => s a o (k _ _ e)⟩
theorem le_RI (i : Int) : Le (RI i) (RP (.int i)) := fun g v ⟨t, e⟩ h _ => by subst e; exact ⟨_, .int i t⟩
theorem le_RS (x : Str) : Le (RS x) (RP (.str x)) := fun g v ⟨t, e⟩ h _ => by subst e; exact ⟨_, .str x t⟩
theorem le_RB (b : Bool) : Le (RB b) (RP (.bool b)) := fun g v e h _ => by have e : v = .bool b := e; subst e; exact ⟨_, .bool b⟩
theorem Le.trans {A B C : Rel} (h : Le A B) (k : Le B C) : Le A C := fun g v x => k g v (h g v x)
noncomputable def LeAll : List Rel → List PyData → Prop
  | [], [] => True
  | R :: Rs, d :: ds => Le R (RP d) ∧ LeAll Rs ds
  | _, _ => False
theorem LeAll.map {α : Type} {f : α → Rel} {d : α → PyData} (h : ∀ x, Le (f x) (RP (d x))) : ∀ l : List α, LeAll (l.map f) (l.map d)
  | [] => trivial
  | x :: l => ⟨h x, LeAll.map h l⟩
theorem LeAll.reads {g : View} {h : Heap} (hs : Sees g h) : ∀ {Rs : List Rel} {ds : List PyData} {vs : List Value}, LeAll Rs ds → All2 g Rs vs → ∃ as, ReadsAll h vs ds as
  | [], [], [], _, _ => ⟨_, .nil⟩
  | R :: Rs, d :: ds, v :: vs, l, a => by
    obtain ⟨as, h1⟩ := l.1 g v a.1 h hs
    obtain ⟨bs, h2⟩ := LeAll.reads hs l.2 a.2
    exact ⟨_, .cons h1 h2⟩
  | [], _ :: _, _, l, _ => l.elim
  | _ :: _, [], _, l, _ => l.elim
  | [], [], _ :: _, _, a => a.elim
  | _ :: _, _ :: _, [], _, a => a.elim
theorem le_list {Rs : List Rel} {ds : List PyData} (h : LeAll Rs ds) : Le (RL Rs) (RP (.list ds)) := fun g v ⟨a, vs, e, ⟨n, hl⟩, ha⟩ hp hs => by
  subst e
  obtain ⟨as, hr⟩ := LeAll.reads hs h ha
  exact ⟨_, .list (hs _ _ hl) rfl rfl (by simpa using hr)⟩
theorem le_tuple {Rs : List Rel} {ds : List PyData} (h : LeAll Rs ds) : Le (RT Rs) (RP (.tuple ds)) := fun g v ⟨a, vs, e, ⟨n, hl⟩, ha⟩ hp hs => by
  subst e
  obtain ⟨as, hr⟩ := LeAll.reads hs h ha
  exact ⟨_, .tuple (hs _ _ hl) rfl rfl (by simpa using hr)⟩
theorem op_eqd {a b : PyData} (ha : shaped a = true) (hb : shaped b = true) : Op2 prog w (F.ctx K c) (compareOp .Eq) (RP a) (RP b) (RB (PyData.eqv a b)) := fun u v => .mk fun g s ok hpat => by
  obtain ⟨hu, hv⟩ := hpat
  have ok : Fm K F c g s := ok
  obtain ⟨as, h1⟩ := hu _ ok.sees
  obtain ⟨bs, h2⟩ := hv _ ok.sees
  exact PyProof.Rows.eq_dataH h1 h2 ha hb (by have := ok.fok.units; show F.A.units + 64 < cLine; lia) (ends_here ok.sees rfl)
theorem op_ned {a b : PyData} (ha : shaped a = true) (hb : shaped b = true) : Op2 prog w (F.ctx K c) (compareOp .NotEq) (RP a) (RP b) (RB (!PyData.eqv a b)) := fun u v => .mk fun g s ok hpat => by
  obtain ⟨hu, hv⟩ := hpat
  have ok : Fm K F c g s := ok
  obtain ⟨as, h1⟩ := hu _ ok.sees
  obtain ⟨bs, h2⟩ := hv _ ok.sees
  exact PyProof.Rows.ne_dataH h1 h2 ha hb (by have := ok.fok.units; show F.A.units + 64 < cLine; lia) (ends_here ok.sees rfl)
theorem eqv_self {d : PyData} (h : shaped d = true) : PyData.eqv d d = true := eqv_refl d (canLay_of_shaped h)

/-! reading by an index -/
theorem subT {value slice : Expr} {o i : Value} {T id : String} {A : Around} {E : Value → Shared → Prop} {Q : Value → Shared → Prop} (hT : s.TypeIs o T) (hl : typeLookup (.type T) "__getitem__" = pure (some (.builtin id))) (h : wpAny (model prog w) A (getItem o i) Q E s)
    {L : List Value} (hs : subscripted slice false o i = operate L (getItem o i)) : wpAny (model prog w) A (subscriptTail value slice o i) Q E s := by
  unfold subscriptTail
  refine wpAny_bind ?_
  rw [getitemInPython_of_ne hT.not_modules]
  refine wpAny_bind (wpAny_specialOf hT hl ?_)
  have fin : wpAny (model prog w) A (subscripted slice false o i) (fun r s₃ => wpAny (model prog w) A (letTemporaryGo value o r >>= fun _ => pure r) Q E s₃) E s := by
    rw [hs]
    exact wpAny_operating (wpAny_mono h (fun r s₃ h₃ => wpAny_bind (wpAny_letTemporaryGo (wpAny_pure h₃))) fun _ _ x => x)
  first
    | exact wpAny_pure (wpAny_bind fin)
    | exact wpAny_bind (wpAny_pure (wpAny_bind fin))
    | exact wpAny_bind fin

theorem seqIndex_pos {k : Int} {n : Nat} (h0 : 0 ≤ k) (h : k.toNat < n) : seqIndex? k n = some k.toNat := by
  have h1 : ¬ k < 0 := by simp_all
  have h2 : k < (n : Int) := by simp_all
  unfold seqIndex?
  simp [h1, h0, h2]

theorem Ev.itemL {value slice : Expr} {pos : Pos} {Rs : List Rel} {k : Int} {R : Rel} (hv : Ev prog w (F.ctx K c) value (RL Rs)) (hi : Ev prog w (F.ctx K c) slice (RI k)) (h0 : 0 ≤ k) (hfit : k < 2 ^ 63) (hR : Rs[k.toNat]? = some R)
    (hs : ∀ o i, subscripted slice false o i = operate [o, i] (getItem o i) := by intro _ _; with_unfolding_all rfl) : Ev prog w (F.ctx K c) (.Subscript value slice pos) R := .mk fun g s ok _ => by
  refine Subscript_ (wp_of (hv.run g s ok trivial) fun o s₁ ⟨g₁, st₁, a, vs, e, hl, ha⟩ => wp_of (hi.run g₁ s₁ (Ctx.up _ ok st₁) trivial) fun i s₂ hpat => ?_)
  obtain ⟨g₂, st₂, t, e'⟩ := hpat
  subst e e'
  have hl' := hl.isList (h' := s₂.heap) (fun b o e => st₂.sees b o (st₂.ext b o e))
  obtain ⟨x, hx, hr⟩ := ha.get hR
  refine subT hl'.typeIs slot_list_getitem.lookup (wpAny_getItem_list hl' h0 hfit (by simpa using hx) ?_) (hs _ _)
  exact ⟨g₂, st₁.trans st₂, R.up st₂.ext hr⟩
theorem Ev.itemT {value slice : Expr} {pos : Pos} {Rs : List Rel} {k : Int} {R : Rel} (hv : Ev prog w (F.ctx K c) value (RT Rs)) (hi : Ev prog w (F.ctx K c) slice (RI k)) (h0 : 0 ≤ k) (hfit : k < 2 ^ 63) (hR : Rs[k.toNat]? = some R)
    (hs : ∀ o i, subscripted slice false o i = operate [o, i] (getItem o i) := by intro _ _; with_unfolding_all rfl) : Ev prog w (F.ctx K c) (.Subscript value slice pos) R := .mk fun g s ok _ => by
  refine Subscript_ (wp_of (hv.run g s ok trivial) fun o s₁ ⟨g₁, st₁, a, vs, e, hl, ha⟩ => wp_of (hi.run g₁ s₁ (Ctx.up _ ok st₁) trivial) fun i s₂ hpat => ?_)
  obtain ⟨g₂, st₂, t, e'⟩ := hpat
  subst e e'
  have hl' := hl.isTup (fun b o e => st₂.sees b o (st₂.ext b o e))
  obtain ⟨x, hx, hr⟩ := ha.get hR
  have hlt : k.toNat < vs.length := (List.getElem?_eq_some_iff.mp hx).1
  have hj : seqIndex? k vs.toArray.size = some k.toNat := seqIndex_pos h0 (by simpa using hlt)
  refine subT hl'.typeIs slot_tuple_getitem.lookup (PyProof.Rows.getItem_tuple hl' (by lia) hfit hj (by simpa using hx) ?_) (hs _ _)
  exact ⟨g₂, st₁.trans st₂, R.up st₂.ext hr⟩
theorem Ev.itemS {value slice : Expr} {pos : Pos} {x : Str} {k : Int} {ch : Nat} (hv : Ev prog w (F.ctx K c) value (RS x)) (hi : Ev prog w (F.ctx K c) slice (RI k)) (h0 : 0 ≤ k) (hfit : k < 2 ^ 63) (hR : x.cps[k.toNat]? = some ch)
    (hs : ∀ o i, subscripted slice false o i = operate [o, i] (getItem o i) := by intro _ _; with_unfolding_all rfl) : Ev prog w (F.ctx K c) (.Subscript value slice pos) (RS ⟨#[ch]⟩) := .mk fun g s ok _ => by
  refine Subscript_ (wp_of (hv.run g s ok trivial) fun o s₁ ⟨g₁, st₁, t, e⟩ => wp_of (hi.run g₁ s₁ (Ctx.up _ ok st₁) trivial) fun i s₂ hpat => ?_)
  obtain ⟨g₂, st₂, u, e'⟩ := hpat
  subst e e'
  have hlt : k.toNat < x.cps.size := (Array.getElem?_eq_some_iff.mp hR).1
  have hj : (seqIndex? k x.length).bind (x.cps[·]?) = some ch := by
    rw [seqIndex_pos (n := x.length) h0 hlt]; exact hR
  refine subT (typeIs_str s₂ x t) PySem.F.slot_str_getitem.lookup (P.getItem_str (by simp; omega) hj ?_) (hs _ _)
  exact ends_step (st₁.trans st₂) (ends_toks st₂.sees _ ⟨_, rfl⟩)
theorem Ev.itemD {value slice : Expr} {pos : Pos} {kvs : List (Kt × Rel)} {k : Kt} {R : Rel} (hv : Ev prog w (F.ctx K c) value (RD knd kvs)) (hi : Ev prog w (F.ctx K c) slice (RKey knd k)) (hR : getR kvs k = some R)
    (hs : ∀ o i, subscripted slice false o i = operate [o, i] (getItem o i) := by intro _ _; with_unfolding_all rfl) : Ev prog w (F.ctx K c) (.Subscript value slice pos) R := .mk fun g s ok _ => by
  refine Subscript_ (wp_of (hv.run g s ok trivial) fun o s₁ ⟨g₁, st₁, d, ob, xs, e, n, h, hd, hh⟩ => wp_of (hi.run g₁ s₁ (Ctx.up _ ok st₁) trivial) fun i s₂ hpat => ?_)
  obtain ⟨g₂, st₂, hk⟩ := hpat
  subst e
  have hd' : s₂.heap.DictOf knd d xs := Heap.dictOf_iff.mpr ⟨ob, st₂.sees _ _ (st₂.ext _ _ h), hd⟩
  rcases Holds.get hh.1 hh.2 k with ⟨q, _⟩ | ⟨L', u, q, hu, hr⟩
  · rw [q] at hR; cases hR
  · rw [q] at hR; cases hR
    refine subT hd'.typeIs slot_dict_getitem.lookup (wpAny_getItem_of hk hd'.mapOf hu ?_) (hs _ _)
    exact ends_step (st₁.trans st₂) (ends_toks st₂.sees _ (R.up st₂.ext hr))
end
end Mine
end
section
open PySem PySem.W PyProof.Rows PySem.SeqAt
set_option maxRecDepth 100000
set_option linter.unusedVariables false
namespace Mine
section
variable {prog : Program} {w : World} {K : View} {F : Fr} {c c' : Cfg} {g g' : View} {s s' : Shared} {X : Ctx} {Kt : Type} [DecidableEq Kt] {knd : PySem.KeyKind prog w Kt}
theorem ints_of {g : View} : ∀ {ns : List Int} {vs : List Value}, All2 g (ns.map RI) vs → ∃ l : List (Int × Tok), vs = l.map (fun p => .int p.1 p.2) ∧ l.map (·.1) = ns
  | [], [], _ => ⟨[], rfl, rfl⟩
  | n :: ns, v :: vs, h => by
    obtain ⟨⟨t, e⟩, h⟩ := h
    obtain ⟨l, e1, e2⟩ := ints_of h
    exact ⟨(n, t) :: l, by rw [e, e1]; rfl, by rw [← e2]; rfl⟩
  | [], _ :: _, h => h.elim
  | _ :: _, [], h => h.elim
theorem intArr {l : List (Int × Tok)} : (l.map fun p => Value.int p.1 p.2).toArray = intItems l.toArray := by simp [intItems]
theorem bf_sum (ns : List Int) : Bf prog w (F.ctx K c) (.builtin "sum") [RL (ns.map RI)] (RI ns.sum) := fun vs => .mk fun g s ok h => by
  have ok : Fm K F c g s := ok
  obtain ⟨v, rfl, ⟨a, xs, e, hl, hx⟩⟩ := one_of h
  subst e
  obtain ⟨l, e1, e2⟩ := ints_of hx
  have hl' := hl.isList ok.sees
  rw [e1, intArr] at hl'
  refine sum_intListG (A := F.A) ok.fok.handled hl' fun h' tk t' hk => ?_
  have : preSum (numAt l.toArray) l.toArray.size = ns.sum := by rw [preSum_eq, List.take_of_length_le (by simp), ← e2]
  rw [this]
  exact ⟨g, Step.heap ok.sees hk, t', rfl⟩
theorem bf_max {ns : List Int} {M : Int} (hM : M ∈ ns) (hle : ∀ a ∈ ns, a ≤ M) : Bf prog w (F.ctx K c) (.builtin "max") [RL (ns.map RI)] (RI M) := fun vs => .mk fun g s ok h => by
  have ok : Fm K F c g s := ok
  obtain ⟨v, rfl, ⟨a, xs, e, hl, hx⟩⟩ := one_of h
  subst e
  obtain ⟨l, e1, e2⟩ := ints_of hx
  have hl' := hl.isList ok.sees
  rw [e1, intArr] at hl'
  have hne : 0 < l.toArray.size := by
    cases l with
    | nil => simp at e2; subst e2; cases hM
    | cons p l => simp
  refine max_intList (A := F.A) ok.fok.handled hl' hne fun v h' tk hv hk => ?_
  obtain ⟨t, rfl⟩ := intItems_at hv
  obtain ⟨h1, h2⟩ := argBest_gt (numAt l.toArray) (l.toArray.size - 1)
  have hlen : ns.length = l.length := by rw [← e2]; simp
  have e3 : ∀ j, numAt l.toArray j = ns.getD j 0 := fun j => by rw [numAt_eq, ← e2]
  have hmem : numAt l.toArray (argBest (fun i j => decide (numAt l.toArray i > numAt l.toArray j)) (l.toArray.size - 1)) ∈ ns := by
    rw [e3]; exact getD_mem (by rw [hlen]; simp at hne h1 ⊢; omega)
  obtain ⟨j, hj, ej⟩ := mem_getD hM
  have h3 := h2 j (by rw [hlen] at hj; simp; grind)
  rw [e3 j, ej] at h3
  have : numAt l.toArray (argBest (fun i j => decide (numAt l.toArray i > numAt l.toArray j)) (l.toArray.size - 1)) = M := Int.le_antisymm (hle _ hmem) h3
  exact ⟨g, Step.heap ok.sees hk, t, by rw [this]⟩
theorem bf_min {ns : List Int} {M : Int} (hM : M ∈ ns) (hle : ∀ a ∈ ns, M ≤ a) : Bf prog w (F.ctx K c) (.builtin "min") [RL (ns.map RI)] (RI M) := fun vs => .mk fun g s ok h => by
  have ok : Fm K F c g s := ok
  obtain ⟨v, rfl, ⟨a, xs, e, hl, hx⟩⟩ := one_of h
  subst e
  obtain ⟨l, e1, e2⟩ := ints_of hx
  have hl' := hl.isList ok.sees
  rw [e1, intArr] at hl'
  have hne : 0 < l.toArray.size := by
    cases l with
    | nil => simp at e2; subst e2; cases hM
    | cons p l => simp
  refine min_intList (A := F.A) ok.fok.handled hl' hne fun v h' tk hv hk => ?_
  obtain ⟨t, rfl⟩ := intItems_at hv
  obtain ⟨h1, h2⟩ := argBest_lt (numAt l.toArray) (l.toArray.size - 1)
  have hlen : ns.length = l.length := by rw [← e2]; simp
  have e3 : ∀ j, numAt l.toArray j = ns.getD j 0 := fun j => by rw [numAt_eq, ← e2]
  have hmem : numAt l.toArray (argBest (fun i j => decide (numAt l.toArray i < numAt l.toArray j)) (l.toArray.size - 1)) ∈ ns := by
    rw [e3]; exact getD_mem (by rw [hlen]; simp at hne h1 ⊢; omega)
  obtain ⟨j, hj, ej⟩ := mem_getD hM
  have h3 := h2 j (by rw [hlen] at hj; simp; grind)
  rw [e3 j, ej] at h3
  have : numAt l.toArray (argBest (fun i j => decide (numAt l.toArray i < numAt l.toArray j)) (l.toArray.size - 1)) = M := Int.le_antisymm h3 (hle _ hmem)
  exact ⟨g, Step.heap ok.sees hk, t, by rw [this]⟩

/-! small builtins -/
theorem bf_ord (ch : Nat) : Bf prog w X (.builtin "ord") [RS ⟨#[ch]⟩] (RI ch) := fun vs => .mk fun g s ok h => by
  obtain ⟨v, rfl, ⟨t, e⟩⟩ := one_of h
  subst e; exact P.ord_of_char (ends_toks (X.sees ok) _ ⟨_, rfl⟩)
theorem bf_chr (i : Int) (h0 : 0 ≤ i) (h1 : i ≤ 0x10FFFF) : Bf prog w X (.builtin "chr") [RI i] (RS ⟨#[i.toNat]⟩) := fun vs => .mk fun g s ok h => by
  obtain ⟨v, rfl, ⟨t, e⟩⟩ := one_of h
  subst e; exact P.chr_of_int (by simp; simp_all) (ends_toks (X.sees ok) _ ⟨_, rfl⟩)
theorem bf_abs (i : Int) : Bf prog w X (.builtin "abs") [RI i] (RI (if i < 0 then -i else i)) := fun vs => .mk fun g s ok h => by
  obtain ⟨v, rfl, ⟨t, e⟩⟩ := one_of h
  subst e; exact PyProof.Rows.call_abs_int fun u tk => ends_toks (X.sees ok) _ ⟨_, rfl⟩
theorem bf_str (i : Int) (hi : i.natAbs.log2 < 1920) : Bf prog w X (.type "str") [RI i] (RS (toString i)) := fun vs => .mk fun g s ok h => by
  obtain ⟨v, rfl, ⟨t, e⟩⟩ := one_of h
  subst e; exact P.str_of_int hi (ends_toks (X.sees ok) _ ⟨_, rfl⟩)
theorem op_str_mul (x : Str) (n : Int) (hok : MulOk x n) : Op2 prog w X (binaryOp .Mult) (RS x) (RI n) (RS (Txt.mul x n)) := fun a b => .mk fun g s ok hpat => by
  obtain ⟨⟨t, h⟩, ⟨u, h'⟩⟩ := hpat
  subst h h'; exact SB.mul hok fun t' k => ends_toks (X.sees ok) _ ⟨_, rfl⟩
theorem op_list_add (Rs Rs' : List Rel) (hn : Rs.length + Rs'.length ≤ 16777216) : Op2 prog w X (binaryOp .Add) (RL Rs) (RL Rs') (RL (Rs ++ Rs')) := fun a b => .mk fun g s ok hpat => by
  obtain ⟨⟨d, vs, e, ⟨n, hl⟩, hv⟩, ⟨d', vs', e', ⟨n', hl'⟩, hv'⟩⟩ := hpat
  subst e e'
  have hs := X.sees ok
  refine P.add_list (hs _ _ hl) (hs _ _ hl') ?_ (by simp [hv.length, hv'.length]; exact small_line hn)
  have n := get_size s.heap
  have st := Step.push (t := s.toks) hs (kp_push s.heap { cls := .type "list", data := .seq (vs.toArray ++ vs'.toArray) }) n (Heap.get?_push_size s.heap rfl)
  exact ⟨_, st, _, vs ++ vs', rfl, ⟨0, by rw [View.add_self]; simp⟩, (hv.append hv').up st.ext⟩

/-! views of tables -/
noncomputable def RVw (T : String) (knd : PySem.KeyKind prog w Kt) (kvs : List (Kt × Rel)) : Rel :=
  ⟨fun g v => ∃ r d, v = .ref r ∧ g r = some { cls := .type T, data := .fields #[.ref d] } ∧ (RD knd kvs).r g (.ref d), fun k hpat => by obtain ⟨r, d, e, h, z⟩ := hpat; exact ⟨r, d, e, k _ _ h, (RD knd kvs).up k z⟩⟩
theorem Ev.values {o : Expr} {apos pos : Pos} {kvs : List (Kt × Rel)} (ho : Ev prog w (F.ctx K c) o (RD knd kvs)) (hbase : attributeBase o "values" F.env (eval o F.env) = eval o F.env := by rfl)
    (hfew : ((backTo pos (starEach [] F.env)).all (fun x => !x.1) && (backToKw pos (keywordEach [] F.env)).all (fun x => x.1.isSome)
      && decide (([] : List Expr).length + ([] : List Keyword).length + (if ([] : List Keyword).isEmpty then 0 else 1) < 30)) = true := by rfl)
    (hline : (apos.endLine == pos.line) = true := by rfl) : Ev prog w (F.ctx K c) (.Call (.Attribute o "values" apos) [] [] pos) (RVw "dict_values" knd kvs) :=
  Ev.meth0 ho PySem.F.plainAttrs_dict PySem.F.slot_dict_values PySem.F.type_dict_values ty_dict (fun ov => .mk fun g s ok h => by
    obtain ⟨d, o, xs, e, n, hg, hi, hh⟩ := h
    subst e
    have ok : Fm K F c g s := ok
    have hd : s.heap.DictOf knd d xs := Heap.dictOf_iff.mpr ⟨o, ok.sees _ _ hg, hi⟩
    refine call_meetsIn PySem.F.slot_dict_values hd.typeIs PySem.F.entry_dict_values (PySem.F.args_dict_values_1 _) (meets_dict_values knd d n) ⟨⟨xs, hd⟩, ?_⟩
    have st := Step.push (t := s.toks) ok.sees (kp_push s.heap { cls := .type "dict_values", data := .fields #[.ref d] }) (get_size _) (Heap.get?_push_size s.heap rfl)
    exact ⟨_, st, _, d, rfl, View.add_self _ _ _, d, o, xs, rfl, n, st.ext _ _ hg, hi, hh.up st.ext⟩) hbase hfew hline
theorem Ev.items {o : Expr} {apos pos : Pos} {kvs : List (Kt × Rel)} (ho : Ev prog w (F.ctx K c) o (RD knd kvs)) (hbase : attributeBase o "items" F.env (eval o F.env) = eval o F.env := by rfl)
    (hfew : ((backTo pos (starEach [] F.env)).all (fun x => !x.1) && (backToKw pos (keywordEach [] F.env)).all (fun x => x.1.isSome)
      && decide (([] : List Expr).length + ([] : List Keyword).length + (if ([] : List Keyword).isEmpty then 0 else 1) < 30)) = true := by rfl)
    (hline : (apos.endLine == pos.line) = true := by rfl) : Ev prog w (F.ctx K c) (.Call (.Attribute o "items" apos) [] [] pos) (RVw "dict_items" knd kvs) :=
  Ev.meth0 ho PySem.F.plainAttrs_dict PySem.F.slot_dict_items PySem.F.type_dict_items ty_dict (fun ov => .mk fun g s ok h => by
    obtain ⟨d, o, xs, e, n, hg, hi, hh⟩ := h
    subst e
    have ok : Fm K F c g s := ok
    have hd : s.heap.DictOf knd d xs := Heap.dictOf_iff.mpr ⟨o, ok.sees _ _ hg, hi⟩
    refine call_meetsIn PySem.F.slot_dict_items hd.typeIs PySem.F.entry_dict_items (PySem.F.args_dict_items_1 _) (meets_dict_items knd d n) ⟨⟨xs, hd⟩, ?_⟩
    have st := Step.push (t := s.toks) ok.sees (kp_push s.heap { cls := .type "dict_items", data := .fields #[.ref d] }) (get_size _) (Heap.get?_push_size s.heap rfl)
    exact ⟨_, st, _, d, rfl, View.add_self _ _ _, d, o, xs, rfl, n, st.ext _ _ hg, hi, hh.up st.ext⟩) hbase hfew hline
/-- many new objects, taken into the view -/
theorem all2_of {g : View} : ∀ {Rs : List Rel} {vs : List Value}, vs.length = Rs.length → (∀ (j : Nat) v R, vs[j]? = some v → Rs[j]? = some R → R.r g v) → All2 g Rs vs
  | [], [], _, _ => trivial
  | R :: Rs, v :: vs, h, k => ⟨k 0 v R rfl rfl, all2_of (by simpa using h) fun j v R hv hR => k (j + 1) v R (by simpa using hv) (by simpa using hR)⟩
  | [], _ :: _, h, _ => by simp at h
  | _ :: _, [], h, _ => by simp at h
theorem bf_list_values {kvs : List (Kt × Rel)} (hn : kvs.length ≤ 16777216) : Bf prog w (F.ctx K c) (.type "list") [RVw "dict_values" knd kvs] (RL (kvs.map (·.2))) := fun vs => .mk fun g s ok h => by
  have ok : Fm K F c g s := ok
  obtain ⟨v, ev, hv⟩ := one_of h
  subst ev
  obtain ⟨r, d, e, hr, hd⟩ := hv
  subst e
  obtain ⟨d', o, xs, e', n, hg, hi, hh⟩ := hd
  have e' : d = d' := by injection e'
  subst e'
  · have hd : s.heap.DictOf knd d xs := Heap.dictOf_iff.mpr ⟨o, ok.sees _ _ hg, hi⟩
    obtain ⟨ep, hat⟩ := hd.dictAt
    refine kdl_call (A := F.A) (kdl_values (knd := knd) (r := r) (d := d) (kvs := xs) (ep := ep)) ok.fok.handled ⟨⟨_, ok.sees _ _ hr, rfl, rfl⟩, hat⟩ (by rw [hh.len]; exact small_line hn) fun h' tk acc' c'' hk ho hacc => ?_
    have st := Step.push (t := tk) ok.sees hk (get_size _) ho
    refine ⟨_, st, _, acc'.toList, rfl, ⟨c'', by rw [View.add_self]⟩, all2_of (by simp [hacc.1, hh.len]) fun j v R hv hR => ?_⟩
    obtain ⟨k, hx⟩ := hacc.2 j v (by simpa using hv)
    obtain ⟨R', hR', hr'⟩ := hh.at hx
    rw [List.getElem?_map, hR'] at hR
    cases hR
    exact R'.up st.ext hr'
theorem bf_max_values {l : List (Kt × Int)} {M : Int} (hM : M ∈ l.map (·.2)) (hle : ∀ a ∈ l.map (·.2), a ≤ M) : Bf prog w (F.ctx K c) (.builtin "max") [RVw "dict_values" knd (l.map fun p => (p.1, RI p.2))] (RI M) := fun vs => .mk fun g s ok h => by
  have ok : Fm K F c g s := ok
  obtain ⟨v, ev, hv⟩ := one_of h
  subst ev
  obtain ⟨r, d, e, hr, hd⟩ := hv
  subst e
  obtain ⟨d', o, xs, e', n, hg, hi, hh⟩ := hd
  have e' : d = d' := by injection e'
  subst e'
  · have hd : s.heap.DictOf knd d xs := Heap.dictOf_iff.mpr ⟨o, ok.sees _ _ hg, hi⟩
    obtain ⟨ep, hat⟩ := hd.dictAt
    have hlen : xs.length = l.length := by rw [hh.len]; simp
    have hval : ∀ i v, (∃ k, xs[i]? = some (k, v)) → ∃ t, v = Value.int ((l.map (·.2)).getD i 0) t := fun i v hpat => by
      obtain ⟨k, hx⟩ := hpat
      obtain ⟨R, hR, hr⟩ := hh.at hx
      rw [List.getElem?_map] at hR
      cases q : l[i]? with
      | none => rw [q] at hR; cases hR
      | some p =>
        rw [q] at hR
        cases hR
        have e : (l.map (·.2)).getD i 0 = p.2 := by rw [List.getD_eq_getElem?_getD, List.getElem?_map, q]; rfl
        rw [e]; exact hr
    refine call_max_walk (wpAny_pyIter_values ⟨_, ok.sees _ _ hr, rfl, rfl⟩ hat ?_)
    have hne : 0 < xs.length := by rw [hlen]; cases l with
      | nil => cases hM
      | cons p l => simp
    refine ⟨_, _, _, _, _, _, _, rfl, Walks.dictValues (A := F.A.in1) (knd := knd) ok.fok.handled s.heap.objs.size d (Nat.ne_of_lt hat.lt_size) xs ep, ⟨⟨_, Heap.get?_push_size _ rfl, rfl, rfl⟩, hat.push _⟩, fun b hb => ?_, hne,
      CmpOf.ints_gt (fun i => (l.map (·.2)).getD i 0) hval, fun v h' tk hP hk => ?_⟩
    · have hz : (s.heap.push { cls := .type "dict_valueiterator", data := .fields #[.ref d, .int 0 0, .int xs.length 0, .int ep 0] }).objs.size = s.heap.objs.size + 1 := Heap.size_push ..
      show b < (s.heap.push { cls := .type "dict_valueiterator", data := .fields #[.ref d, .int 0 0, .int xs.length 0, .int ep 0] }).objs.size
      rw [hz]
      rcases List.mem_cons.mp hb with rfl | hb
      · exact Nat.lt_succ_self _
      · rw [List.mem_singleton.mp hb]; exact Nat.lt_succ_of_lt hat.lt_size
    · obtain ⟨t, rfl⟩ := hval _ _ hP
      obtain ⟨h1, h2⟩ := argBest_gt (fun i => (l.map (·.2)).getD i 0) (xs.length - 1)
      have hmem : (l.map (·.2)).getD (argBest (fun i j => decide ((l.map (·.2)).getD i 0 > (l.map (·.2)).getD j 0)) (xs.length - 1)) 0 ∈ l.map (·.2) := getD_mem (by rw [List.length_map]; exact Nat.lt_of_le_of_lt h1 (by grind))
      obtain ⟨j, hj, ej⟩ := mem_getD hM
      have h3 : (l.map (·.2)).getD j 0 ≤ (l.map (·.2)).getD (argBest (fun i j => decide ((l.map (·.2)).getD i 0 > (l.map (·.2)).getD j 0)) (xs.length - 1)) 0 := h2 j (by rw [List.length_map] at hj; grind)
      rw [ej] at h3
      have : (l.map (·.2)).getD (argBest (fun i j => decide ((l.map (·.2)).getD i 0 > (l.map (·.2)).getD j 0)) (xs.length - 1)) 0 = M := Int.le_antisymm (hle _ hmem) h3
      refine ⟨g, Step.heap ok.sees fun b o e => hk b o (fun hb => ?_) (Heap.get?_push_of_some _ e), t, by rw [this]⟩
      rw [List.mem_singleton.mp hb, get_size] at e; cases e
end
end Mine
end
section
open PySem PySem.W PyProof.Rows PySem.SeqAt
set_option maxRecDepth 100000
set_option linter.unusedVariables false
namespace Mine
section
variable {prog : Program} {w : World} {K : View} {F : Fr} {c c' : Cfg} {g g' : View} {s s' : Shared} {X : Ctx} {Kt : Type} [DecidableEq Kt] {knd : PySem.KeyKind prog w Kt}
/-! slices -/
theorem push_list {Rs : List Rel} {vs : List Value} {n t : Nat} (hs : Sees g s.heap) (hv : All2 g Rs vs) : Ends g s (RL Rs).r (.ref s.heap.objs.size) { s with heap := s.heap.push { cls := .type "list", data := .seq vs.toArray n }, toks := t } := by
  have st := Step.push (t := t) hs (kp_push s.heap { cls := .type "list", data := .seq vs.toArray n }) (get_size _) (Heap.get?_push_size s.heap rfl)
  exact ⟨_, st, _, vs, rfl, ⟨n, View.add_self _ _ _⟩, hv.up st.ext⟩
theorem Ev.slice {value : Expr} {lower upper : Option Expr} {p pos : Pos} {Rs Rs' : List Rel} {lo hi : Option Int} (hv : Ev prog w (F.ctx K c) value (RL Rs)) (hn : Rs.length ≤ 16777216)
    (hl : Tr prog w (F.ctx K c) (fun _ => True) (evalPart lower F.env) (fun _ v => IsPart v lo)) (hu : Tr prog w (F.ctx K c) (fun _ => True) (evalPart upper F.env) (fun _ v => IsPart v hi))
    (hp : ∀ (g : View) (vs : List Value), All2 g Rs vs → ∃ ws : List Value, slicePick vs.toArray lo hi Option.none = ws.toArray ∧ All2 g Rs' ws) : Ev prog w (F.ctx K c) (.Subscript value (.Slice lower upper Option.none p) pos) (RL Rs') := .mk fun g s ok _ => by
  have ok : Fm K F c g s := ok
  refine Subscript_ (wp_of (hv.run g s ok trivial) fun o s₁ ⟨g₁, st₁, a, vs, e, hl', ha⟩ => wpAny_Slice (wp_of (hl.run g₁ s₁ (Fm.up ok st₁) trivial) fun vl s₂ ⟨g₂, st₂, pl⟩ => wp_of (hu.run g₂ s₂ (Fm.up (Fm.up ok st₁) st₂) trivial) fun vu s₃ hpat => ?_))
  obtain ⟨g₃, st₃, pu⟩ := hpat
  subst e
  rw [evalPart_none]
  refine wpAny_pure ?_
  have ok₃ := ((ok.up st₁).up st₂).up st₃
  have hl₃ : s₃.heap.IsList a vs.toArray := hl'.isList (fun b o e => st₃.sees b o (st₃.ext b o (st₂.ext b o e)))
  have st₄ := Step.heap' ok₃.sees (kp_push s₃.heap { cls := .type "slice", data := .fields #[vl, vu, .none] })
  have ok₄ := ok₃.up st₄
  obtain ⟨ws, e, hws⟩ := hp g₃ vs (ha.up (st₂.ext.trans st₃.ext))
  refine subT (hl₃.push _).typeIs slot_list_getitem.lookup (wpAny_getItem_list_slice (hl₃.push _) (Heap.IsSliceOf.new ..) pl pu .none (by simp) ?_ (by rw [List.size_toArray, ha.length]; exact small_line hn)) (L := [.ref s₃.heap.objs.size, .ref a]) rfl
  rw [e]
  exact ends_step (((st₁.trans st₂).trans st₃).trans st₄) (push_list ok₄.sees hws)
theorem part_none : Tr prog w X (fun _ => True) (evalPart Option.none X.env) (fun _ v => IsPart v Option.none) := .mk fun g s ok _ => by
  rw [evalPart_none]; exact wpAny_pure (ends_here (X.sees ok) .none)
theorem part_some {e : Expr} {i : Int} (h : Ev prog w X e (RI i)) : Tr prog w X (fun _ => True) (evalPart (some e) X.env) (fun _ v => IsPart v (some i)) := .mk fun g s ok _ => by
  rw [evalPart_some]; exact wp_of (h.run g s ok trivial) fun v s' ⟨g', st, t, e⟩ => by subst e; exact ⟨g', st, .int i t⟩
theorem Ev.upto {value upper : Expr} {p pos : Pos} {Rs : List Rel} {b : Nat} {i : Int} (hv : Ev prog w (F.ctx K c) value (RL Rs)) (hn : Rs.length ≤ 16777216) (hu : Ev prog w (F.ctx K c) upper (RI i)) (hi : i = b) (hb : b ≤ Rs.length) :
    Ev prog w (F.ctx K c) (.Subscript value (.Slice Option.none (some upper) Option.none p) pos) (RL (Rs.take b)) := by
  subst hi
  refine Ev.slice (lo := Option.none) (hi := some b) hv hn part_none (part_some hu) fun g vs h => ⟨vs.take b, ?_, h.take b⟩
  have := slicePick_upto vs.toArray b (by rw [List.size_toArray, h.length]; exact hb)
  simpa using this
theorem Ev.between {value lower upper : Expr} {p pos : Pos} {Rs : List Rel} {a b : Nat} {i j : Int} (hv : Ev prog w (F.ctx K c) value (RL Rs)) (hn : Rs.length ≤ 16777216) (hl : Ev prog w (F.ctx K c) lower (RI i)) (hu : Ev prog w (F.ctx K c) upper (RI j)) (hi : i = a) (hj : j = b)
    (hab : a ≤ b) (hb : b ≤ Rs.length) : Ev prog w (F.ctx K c) (.Subscript value (.Slice (some lower) (some upper) Option.none p) pos) (RL ((Rs.drop a).take (b - a))) := by
  subst hi hj
  refine Ev.slice (lo := some a) (hi := some b) hv hn (part_some hl) (part_some hu) fun g vs h => ⟨(vs.drop a).take (b - a), ?_, (h.drop a).take _⟩
  have := slicePick_run vs.toArray a b (by rw [List.size_toArray, h.length]; exact hb) hab
  simpa using this

/-! a list taken many times -/
theorem All2.rep {g : View} {Rs : List Rel} {vs : List Value} (h : All2 g Rs vs) : ∀ n, All2 g (List.replicate n Rs).flatten (List.replicate n vs).flatten
  | 0 => trivial
  | n + 1 => by rw [List.replicate_succ, List.replicate_succ, List.flatten_cons, List.flatten_cons]; exact h.append (All2.rep h n)
theorem op_list_mul (Rs : List Rel) (x : Int) (h0 : 0 ≤ x) (h1 : x < 2 ^ 63) (hsz : Rs.length * x.toNat ≤ 2 ^ 24) : Op2 prog w X (binaryOp .Mult) (RL Rs) (RI x) (RL (List.replicate x.toNat Rs).flatten) := fun a b => .mk fun g s ok hpat => by
  obtain ⟨⟨l, vs, e, ⟨k, hl⟩, hv⟩, ⟨u, e'⟩⟩ := hpat
  subst e e'
  have ho := X.sees ok _ _ hl
  have hsz' : vs.toArray.size * x.toNat ≤ 2 ^ 24 := by rw [List.size_toArray, hv.length]; exact hsz
  refine wpAny_binaryOp_repeat_ref (T := "list") (U := "int") (by decide) ⟨_, ho, rfl⟩ (fun s' => typeIs_int s' x u) noFill_list_mul PySem.F.fills_int_mul PySem.F.slot_int_rmul repeat_list PySem.F.slot_int_index.lookup
    (call_meets PySem.F.slot_int_rmul (typeIs_int s x u) PySem.F.entry_int_rmul (PySem.F.args_int_rmul_2 _ _) (lm_int_rmul_list_any x u l vs.toArray k Option.none #[])
      ⟨ho, rfl, ⟨_, ho, rfl⟩, call_meets PySem.F.slot_list_mul ⟨_, ho, rfl⟩ PySem.F.entry_list_mul (PySem.F.args_list_mul_2 _ _)
        (lm_list_mul_any l vs.toArray k Option.none #[] x u (by simp [Builtin.List.listFitsIndex]; lia) (by grind) (by simp [Builtin.List.listTooLong, sizeLine]; simp at hsz'; omega))
        ⟨ho, ?_⟩⟩)
  rw [listMul_foldl_if]
  exact push_list (X.sees ok) (by simpa using hv.rep _)
end
end Mine
end
section
open PySem PySem.W PyProof.Rows PySem.SeqAt
set_option maxRecDepth 100000
set_option linter.unusedVariables false
namespace Mine
section
variable {prog : Program} {w : World} {K : View} {F : Fr} {c c' : Cfg} {g g' : View} {s s' : Shared} {X : Ctx} {Kt : Type} [DecidableEq Kt] {knd : PySem.KeyKind prog w Kt}
/-! table comprehensions -/
theorem codeAny_compLoop_goD {R : Result → Shared → Prop} {A : Around} {kx vx target iter : Expr} {scope : Scope} {pos : Pos} {it : Value} {D : Addr} {env : Env} (I : Nat → Shared → Prop)
    (turn : ∀ n s, I n s → wpAny (model prog w) A (pyNext it) (fun r s₁ => match r with
      | none => R (.ok .next) s₁
      | some v => wpAny (model prog w) A (letOwnedTupleGo target it v) (fun _ s₁' => wpAny (model prog w) A (assign target env v) (fun _ s₂ =>
          wpAny (model prog w) A (eval kx env) (fun kv s₄ => wpAny (model prog w) A (eval vx env) (fun vv s₅ =>
              wpAny (model prog w) A (dictSet D kv vv) (fun _ s₆ => ∃ m, m < n ∧ I m s₆) NoE s₅) NoE s₄) NoE s₂) NoE s₁') NoE s₁) NoE s)
    (n : Nat) (h : I n s) :
    codeAny (model prog w) A (.compLoop (.DictComp kx vx [⟨target, iter, [], 0⟩] scope pos) 0 it (.ref D) env) R s := by
  refine codeAny_loop rfl I (fun n s hI => ?_) n h
  show wpAny _ A ((compTurn (.DictComp kx vx [⟨target, iter, [], 0⟩] scope pos) 0 it (.ref D) env).onRaise (fun x => do noteFrame x env; theTreesLotGoes x)) _ _ s
  refine wpAny_noted ?_
  rw [compTurn_dict]
  refine wpAny_bind (wpAny_standAt (wpAny_bind (wp_of (turn n s hI) fun r s₁ h₁ => ?_)))
  cases r with
  | none => exact wpAny_pure h₁
  | some v =>
    refine wpAny_bind (wp_of h₁ fun _ s₁' h₁' => wpAny_bind (wp_of h₁' fun _ s₂ h₂ => wpAny_bind (wpAny_tests_nil ?_)))
    exact wpAny_bind (wpAny_bind (wp_of h₂ fun kv s₄ h₄ => wpAny_bind (wpAny_holding (wp_of h₄ fun vv s₅ h₅ => wpAny_bind (wpAny_standAt (wpAny_holding (wp_of h₅ fun _ s₆ h₆ => wpAny_pure ⟨rfl, h₆⟩)))))))
theorem puts_take {α : Type} {outs : List (Kt × α)} {i : Nat} {p : Kt × α} (h : outs[i]? = some p) : (outs.take (i + 1)).foldl (fun acc p => put acc p.1 p.2) [] = put ((outs.take i).foldl (fun acc p => put acc p.1 p.2) []) p.1 p.2 := by
  rw [List.take_add_one, h, List.foldl_append]; rfl
theorem put_le {α : Type} (l : List (Kt × α)) (k : Kt) (v : α) : (put l k v).length ≤ l.length + 1 := by unfold put; split <;> simp
theorem puts_len {α : Type} (l : List (Kt × α)) : ∀ acc : List (Kt × α), (l.foldl (fun acc p => put acc p.1 p.2) acc).length ≤ acc.length + l.length := by
  induction l with
  | nil => intro acc; simp
  | cons p l ih => intro acc; have := ih (put acc p.1 p.2); have := put_le acc p.1 p.2; simp only [List.foldl_cons, List.length_cons]; lia
theorem dictcomp_core {kx vx iter target : Expr} {scope : Scope} {pos p : Pos} {cl : List (Str × Addr)} {items : List Item} {ρ' : List (Str × Rel)} {mid : Nat → List (Str × Rel)} {outs : List (Kt × Rel)}
    {use : Option (Value → Sem Unit)} {Q : Value → Shared → Prop} (ok : Fm K F c g s) (hi : EvIter prog w (F.ctx K c) iter target items) (hlen : outs.length = items.length) (hsz : outs.length ≤ 16777216) (co : CompOk F scope cl) (fr : FreeOk F scope cl c.ρ ρ')
    (hb : CompB prog w K F scope cl target [] items ρ' mid (fun _ => true) (fun F' c i => ∀ k R, outs[i]? = some (k, R) → Ev prog w (F'.ctx K c) kx (RKey knd k) ∧ Ev prog w (F'.ctx K c) vx R))
    (k : ∀ C D g' s', s.heap.get? C = none → D ≠ C → Fm K (F.comp scope cl C g s) ⟨ρ', some (D, PvD knd (outs.foldl (fun acc p => put acc p.1 p.2) []))⟩ g' s' → compPost (model prog w) F.A NoE use Q (.ref D) C (.ok .next) s')
    (hf : ∀ x, foldedSetIterable iter F.env x = pure x) :
    wpAny (model prog w) F.A (comprehension (.DictComp kx vx [⟨target, iter, [], 0⟩] scope pos) scope F.env p newDict false (eval iter F.env) use) Q NoE s := by
  refine wpAny_comprehension_free rfl hf co.clos co.kind co.names (wp_of (hi.run g s ok) fun x s₁ hx => wp_of hx fun it s₂ hpat => ?_)
  obtain ⟨g₁, t⟩ := hpat
  have hlow : (s₂.heap.objs.size == sysModules) = false := (ok.up t.1).low
  refine wpAny_newObj_type (comp_enter ok co fr t rfl (P := PvD knd []) (fun h e => ⟨hlow, [], Heap.dictOf_iff.mpr ⟨_, e, dict_new⟩, rfl, trivial⟩) ?_)
  intro C s₄ I fp wr P₁ Md St hC hDC e L le new at0 cenv hcl hce
  subst e
  have hCs : s.heap.get? C = none := by
    cases q : s.heap.get? C with
    | none => rfl
    | some o => rw [t.1.keep _ _ q] at hC; cases hC
  rw [hce, hcl]
  have loop : codeAny (model prog w) F.A (.compLoop (.DictComp kx vx [⟨target, iter, [], 0⟩] scope pos) 0 (.ref I) (.ref s₂.heap.objs.size) (compEnvC scope cl C F.env)) (compPost (model prog w) F.A NoE use Q (.ref s₂.heap.objs.size) C) s₄ := by
    refine codeAny_compLoop_goD (fun k s' => ∃ i g', At' K (F.comp scope cl C g s) ⟨ρ', some (s₂.heap.objs.size, PvD knd ((outs.take i).foldl (fun acc p => put acc p.1 p.2) []))⟩ wr St g₁ g' s' i ∧ i ≤ items.length ∧ k = items.length + 1 - i) ?_ (items.length + 1)
      ⟨0, g₁, at0, Nat.zero_le _, rfl⟩
    rintro k s' ⟨i, g', x, hle, rfl⟩
    by_cases hlt : i < items.length
    · refine wp_of (Lp.turn (F := F.comp scope cl C g s) L le hlt x) fun r s₁ hpat => ?_
      obtain ⟨v, e, hg⟩ := hpat
      subst e
      refine wp_of hg fun _ s₂ hpat => ?_
      obtain ⟨j, hj, hjs, hst, ok₂⟩ := hpat
      have hs₂ : Sees g₁ s₂.heap := fun b o e => ok₂.sees b o (x.le b o e)
      obtain ⟨ha, hsub, ht, he⟩ := hb C g s g₁ _ _ i j hj
      refine wp_of (ha v g' s₂ ok₂ hjs) fun _ s₃ ok₃ => ?_
      have hilt : i < outs.length := by simp_all
      obtain ⟨⟨ky, R⟩, ho⟩ : ∃ o, outs[i]? = some o := ⟨outs[i], by simp [hilt]⟩
      obtain ⟨hk, hv⟩ := he rfl ky R ho
      refine wp_of (hk.run g' s₃ ok₃ trivial) fun kv s₄ ⟨g₄, st₄, hkv⟩ => wp_of (hv.run g₄ s₄ (ok₃.up st₄) trivial) fun vv s₅ hpat => ?_
      obtain ⟨g₅, st₅, hvv⟩ := hpat
      have ok₅ := (ok₃.up st₄).up st₅
      have hle : ((outs.take i).foldl (fun acc p => put acc p.1 p.2) []).length ≤ 16777216 := by
        have e1 := puts_len (outs.take i) []
        have e2 : (outs.take i).length ≤ outs.length := by rw [List.length_take]; exact Nat.min_le_right _ _
        simp only [List.length_nil] at e1
        lia
      have hap := dictset_pv (prog := prog) (w := w) ok₅ rfl hkv hvv hle
      refine wp_of hap fun _ s₆ ok₆ => ?_
      refine ⟨items.length + 1 - (i + 1), by grind, i + 1, g₅, ?_, hlt, rfl⟩
      have z := Lp.back (F := F.comp scope cl C g s) L le new x.fm.fok x.ap hst hs₂ (ok₆.toρ hsub)
      rwa [puts_take ho]
    · have e : i = items.length := by grind
      subst e
      refine wp_of (Lp.fin (F := F.comp scope cl C g s) L x) fun r s₁ hpat => ?_
      obtain ⟨e, ok₁⟩ := hpat
      subst e
      have : outs.take items.length = outs := by rw [← hlen]; exact List.take_length
      rw [this] at ok₁
      exact k C _ g' s₁ hCs hDC ok₁
  exact codeAny_compStart_dict loop (L.self 0 _ _ _ at0.st loop)
theorem Fm.compDoneD {scope : Scope} {cl : List (Str × Addr)} {C D : Addr} {ρ' : List (Str × Rel)} {kvs : List (Kt × Rel)} (x : Fm K (F.comp scope cl C g s) ⟨ρ', some (D, PvD knd kvs)⟩ g' s') (hDC : D ≠ C) :
    ∃ m, s'.heap.Ns C m ∧ ∃ g'', g'' C = none ∧ Step g s g'' s' ∧ (RD knd kvs).r g'' (.ref D) := by
  obtain ⟨m, hn, _⟩ := x.vars
  obtain ⟨⟨n, xs, hd, hh⟩, q, r, no, z⟩ := x.pv D _ rfl
  obtain ⟨o, hl, hi⟩ := Heap.dictOf_iff.mp hd
  have le : VLe g' (g'.add D o) := View.le_add q
  refine ⟨m, hn, g'.add D o, ?_, ?_, D, o, xs, rfl, n, View.add_self _ _ _, hi, hh.up le⟩
  · unfold View.add; rw [if_neg fun e => hDC e.symm]; exact (x.own C (List.mem_singleton.mpr rfl)).1
  · exact {
      same := x.st.same, keep := x.st.keep, ext := x.st.ext.trans le
      new := fun b o e => by
        unfold View.add at e
        split at e
        · rename_i w; subst w; exact .inr r
        · exact x.st.new b o e
      sees := fun b o e => by
        unfold View.add at e
        split at e
        · rename_i w; subst w; cases e; exact hl
        · exact x.sees b o e }
theorem s_dictcomp {kx vx iter target : Expr} {scope : Scope} {pos spos py : Pos} {y : Str} {cl : List (Str × Addr)} {items : List Item} (ρ' : List (Str × Rel)) (mid : Nat → List (Str × Rel)) (outs : List (Kt × Rel))
    (hi : EvIter prog w (F.ctx K c) iter target items) (hlen : outs.length = items.length) (hsz : outs.length ≤ 16777216) (co : CompOk F scope cl) (fr : FreeOk F scope cl c.ρ ρ')
    (hb : CompB prog w K F scope cl target [] items ρ' mid (fun _ => true) (fun F' c i => ∀ k R, outs[i]? = some (k, R) → Ev prog w (F'.ctx K c) kx (RKey knd k) ∧ Ev prog w (F'.ctx K c) vx R)) (hy : F.Stores y)
    (hsw : swapsWith (.DictComp kx vx [⟨target, iter, [], 0⟩] scope pos) (some (.Name y py)) spos.line F.env = pure true := by rfl)
    (hf : ∀ x, foldedSetIterable iter F.env x = pure x := by intro _; rfl) :
    So prog w K F c (exec (.Assign [.Name y py] (.DictComp kx vx [⟨target, iter, [], 0⟩] scope pos) spos) F.env) (Nx K F (c.set y (RD knd (outs.foldl (fun acc p => put acc p.1 p.2) [])))) := .mk fun g s ok => by
  rw [exec_Assign_Name_used _ _ _ _ hsw]
  refine wpAny_bind (wpAny_standAt (wpAny_bind ?_))
  show wpAny _ F.A (do let _ ← comprehension (.DictComp kx vx [⟨target, iter, [], 0⟩] scope pos) scope F.env _ newDict false (eval iter F.env) (some (assign (.Name y py) F.env))) _ _ s
  refine wpAny_bind (wp_of (dictcomp_core (Q := fun _ s' => Nx K F (c.set y (RD knd (outs.foldl (fun acc p => put acc p.1 p.2) []))) .next s') ok hi hlen hsz co fr hb (fun C D g' s' hC hDC x => ?_) hf) fun _ s' hq => wpAny_pure (wpAny_pure hq))
  obtain ⟨m, hn, g'', hg, st, hr⟩ := x.compDoneD hDC
  have okc := ok.up st
  have hCo : C ∉ F.own := fun h => by obtain ⟨o, e⟩ := ok.ownObj h; rw [hC] at e; cases e
  have hCn : F.s₀.heap.get? C = none := by
    cases q : F.s₀.heap.get? C with
    | none => rfl
    | some o => have := ok.st.keep C o q; rw [hC] at this; cases this
  show wpAny (model prog w) F.A (assign (.Name y py) F.env (.ref D)) _ _ _
  have ap : Apart F (c.set y (RD knd (outs.foldl (fun acc p => put acc p.1 p.2) []))) [C] g'' := by
    refine ⟨fun b hb => by rw [List.mem_singleton.mp hb]; exact hg, fun b hb => by rw [List.mem_singleton.mp hb]; exact hCn, fun b hb => by rw [List.mem_singleton.mp hb]; exact hCo, fun b hb => ?_, fun b hb a P e => ?_⟩
    · rw [List.mem_singleton.mp hb]
      cases q : F.hold C with
      | none => rfl
      | some o => have := ok.held C o q; rw [hC] at this; cases this
    · rw [List.mem_singleton.mp hb]
      rintro rfl
      obtain ⟨o, q⟩ := P.here (ok.pv C P e).1
      rw [hC] at q; cases q
  have base : VLe F.g₀ g'' := ok.st.ext.trans st.ext
  have inn := okc.enter ⟨ap.view, ap.base, ap.own, ap.hold, ap.pv⟩ (VLe.refl _) base (held_on [C] F.hold s'.heap)
  have hy' : (F.inner g'' (holdOn [C] F.hold s'.heap)).Stores y := hy
  refine wp_of (As.name (p := py) hy' (.ref D) g'' s' inn hr) fun _ s'' ok'' => ?_
  have okL := ok''.leave ok.fok base (ok.st.trans st).new (held_on [C] F.hold s'.heap) ap.hold
  have hnC : s''.heap.Ns C m := hn.at' fun o e => ok''.held C o (by show holdOn [C] F.hold s'.heap C = some o; rw [(held_on [C] F.hold s'.heap).on C (List.mem_singleton.mpr rfl)]; exact e)
  refine ⟨m, hnC, fun h' hs => ⟨rfl, g'', okL.moved (t := s''.toks) ⟨ap.view, ap.base, ap.own, ap.hold, ap.pv⟩ fun b o hb e => hs.extBut b o (fun q => hb (by rw [q]; exact List.mem_singleton.mpr rfl)) e⟩⟩
end
end Mine
end
section
open PySem PySem.W PyProof.Rows PySem.SeqAt
set_option maxRecDepth 100000
set_option linter.unusedVariables false
namespace Mine
section
variable {prog : Program} {w : World} {K : View} {F : Fr} {c c' : Cfg} {g g' : View} {s s' : Shared} {X : Ctx} {Kt : Type} [DecidableEq Kt] {knd : PySem.KeyKind prog w Kt}
/-- many new objects, taken into the view -/
noncomputable def View.many (g : View) (as : List Addr) (h : Heap) : View := fun b => if b ∈ as then h.get? b else g b
theorem Step.many {as : List Addr} {h' : Heap} {t : Nat} (hs : Sees g s.heap) (k : Kp s.heap h') (n : ∀ a ∈ as, s.heap.get? a = Option.none) : Step g s (g.many as h') { s with heap := h', toks := t } where
  same := ⟨h', t, rfl⟩
  keep := k
  ext := fun b o e => by
    unfold View.many
    rw [if_neg fun q => by have := hs _ _ e; rw [n b q] at this; cases this]
    exact e
  new := fun b o e => by
    unfold View.many at e
    split at e
    · rename_i q; exact .inr (n b q)
    · exact .inl e
  sees := fun b o e => by
    unfold View.many at e
    split at e
    · exact e
    · exact k _ _ (hs _ _ e)
theorem View.many_in {as : List Addr} {h : Heap} {a : Addr} (ha : a ∈ as) : g.many as h a = h.get? a := if_pos ha
theorem bf_list_items {kvs : List (Kt × Rel)} (hn : kvs.length ≤ 16777216) : Bf prog w (F.ctx K c) (.type "list") [RVw "dict_items" knd kvs] (RL (kvs.map fun p => RT [RKey knd p.1, p.2])) := fun vs => .mk fun g s ok h => by
  have ok : Fm K F c g s := ok
  obtain ⟨v, ev, hv⟩ := one_of h
  subst ev
  obtain ⟨r, d, e, hr, hd⟩ := hv
  subst e
  obtain ⟨d', o, xs, e', n, hg, hi, hh⟩ := hd
  have e' : d = d' := by injection e'
  subst e'
  have hd : s.heap.DictOf knd d xs := Heap.dictOf_iff.mpr ⟨o, ok.sees _ _ hg, hi⟩
  obtain ⟨ep, hat⟩ := hd.dictAt
  refine kdx_call (A := F.A) (knd := knd) (r := r) (d := d) (kvs := xs) (ep := ep) ok.fok.handled ⟨_, ok.sees _ _ hr, rfl, rfl⟩ hat (by rw [hh.len]; exact small_line hn) fun h' tk acc c'' as hk ho hlen hG hacc => ?_
  have fresh : ∀ a, s.heap.objs.size ≤ a → s.heap.get? a = Option.none := fun a ha => by
    cases e : s.heap.get? a with
    | none => rfl
    | some o => exact absurd (Heap.lt_size e) (Nat.not_lt.mpr ha)
  have st : Step g s (g.many (s.heap.objs.size :: as) h') { s with heap := h', toks := tk } := Step.many ok.sees hk fun a ha => by
    rcases List.mem_cons.mp ha with rfl | ha
    · exact get_size _
    · exact fresh a (Nat.le_of_lt (hG.above a ha))
  refine ⟨_, st, _, acc.toList, rfl, ⟨c'', by rw [View.many_in (List.mem_cons_self), ho]⟩, all2_of (by rw [hacc, List.length_map, hlen, hh.len, List.length_map]) fun j v R hv hR => ?_⟩
  rw [hacc, List.getElem?_map] at hv
  cases q : as[j]? with
  | none => rw [q] at hv; cases hv
  | some a =>
    rw [q] at hv
    have hv : v = .ref a := (Option.some.inj hv).symm
    subst hv
    obtain ⟨key, k, x, hx, hkey, hT⟩ := hG.pairs j a q
    obtain ⟨R', hR', hr'⟩ := hh.at hx
    rw [List.getElem?_map, hR'] at hR
    have hR : R = RT [RKey knd k, R'] := (Option.some.inj hR).symm
    subst hR
    exact ⟨a, [key, x], rfl, ⟨0, by rw [View.many_in (List.mem_cons_of_mem _ (List.mem_of_getElem? q)), hT]⟩, hkey, R'.up st.ext hr', trivial⟩
end
end Mine
end
section
open PySem PySem.W PyProof.Rows
set_option maxRecDepth 100000
set_option linter.unusedVariables false
namespace Mine
section
variable {prog : Program} {w : World} {K : View} {F : Fr} {c c' : Cfg} {g g' : View} {s s' : Shared} {Kt : Type} [DecidableEq Kt] {knd : KeyKind prog w Kt}
/-! table displays -/
noncomputable def EvPairs (prog : Program) (w : World) {Kt : Type} [DecidableEq Kt] (knd : KeyKind prog w Kt) (X : Ctx) (pos : Pos) (keys : List (Option Expr)) (values : List Expr) (kvs : List (Kt × Rel)) : Prop :=
  Tr prog w X (fun _ => True) (evalPairs (pairTrees keys values X.env pos)) (fun g vs => ∃ xs, Carries knd vs xs ∧ Holds knd kvs g xs)
theorem EvPairs.nil {X : Ctx} {pos : Pos} : EvPairs prog w knd X pos [] [] [] := .mk fun g s ok _ => pairTrees_nil_walk (ends_here (X.sees ok) ⟨[], trivial, rfl, trivial⟩)
theorem EvPairs.cons {X : Ctx} {pos : Pos} {k v : Expr} {ks : List (Option Expr)} {vs : List Expr} {key : Kt} {R : Rel} {kvs : List (Kt × Rel)} (hk : Ev prog w X k (RKey knd key)) (hv : Ev prog w X v R) (hr : EvPairs prog w knd X pos ks vs kvs) :
    EvPairs prog w knd X pos (some k :: ks) (v :: vs) ((key, R) :: kvs) := .mk fun g s ok _ => by
  refine pairTrees_cons_walk (wp_of (hk.run g s ok trivial) fun a s₁ ⟨g₁, st₁, ha⟩ => wp_of (hv.run g₁ s₁ (X.up ok st₁) trivial) fun b s₂ hpat => ?_)
  obtain ⟨g₂, st₂, hb⟩ := hpat
  refine wp_of (hr.run g₂ s₂ (X.up (X.up ok st₁) st₂) trivial) fun l s₃ hpat => ?_
  obtain ⟨g₃, st₃, xs, hc, hh⟩ := hpat
  exact ends_step (st₁.trans st₂) ⟨g₃, st₃, (key, b) :: xs, ⟨ha, rfl, hc⟩, by simp [hh.1], R.up st₃.ext hb, hh.2⟩
theorem holds_merged {g : View} : ∀ (kvs : List (Kt × Rel)) (xs : List (Kt × Value)) (acc : List (Kt × Rel)) (ax : List (Kt × Value)), Holds knd kvs g xs → Holds knd acc g ax → Holds knd (kvs.foldl (fun acc p => put acc p.1 p.2) acc) g (merged ax xs)
  | [], [], acc, ax, _, h => h
  | (k, R) :: kvs, (k', v) :: xs, acc, ax, h, ha => by
    have e : k' = k ∧ xs.map (·.1) = kvs.map (·.1) := by have := h.1; simpa using this
    obtain ⟨rfl, e⟩ := e
    exact holds_merged kvs xs _ _ ⟨e, h.2.2⟩ (Holds.put ha h.2.1)
  | [], _ :: _, _, _, h, _ => by have := h.1; simp at this
  | _ :: _, [], _, _, h, _ => by have := h.1; simp at this
theorem ev_dict {keys : List (Option Expr)} {values : List Expr} {pos : Pos} {kvs : List (Kt × Rel)} (h : EvPairs prog w knd (F.ctx K c) pos keys values kvs) (hall : keys.all (·.isSome) = true := by rfl) (hl : keys.length = values.length := by rfl) (h0 : keys ≠ [] := by intro h; cases h)
    (hlen : keys.length ≤ 15 := by exact Nat.le_of_ble_eq_true rfl) : Ev prog w (F.ctx K c) (.Dict keys values pos) (RD knd (kvs.foldl (fun acc p => put acc p.1 p.2) [])) := .mk fun g s ok _ => by
  have ok : Fm K F c g s := ok
  have n := get_size s.heap
  have st0 := Step.heap' ok.sees (kp_push s.heap { cls := .type "dict", data := .dict #[] })
  have low := ok.low
  refine wpAny_Dict_walk (knd := knd) hall hl h0 hlen (wp_of (h.run g _ (ok.up st0) trivial) fun vs s₁ ⟨g₁, st, xs, hc, hh⟩ => ⟨xs, hc, ?_, fun h' hd hs => ?_⟩)
  · exact Heap.dictOf_iff.mpr ⟨_, st.keep _ _ (Heap.get?_push_size s.heap rfl), dict_new⟩
  · obtain ⟨o, hl, hi⟩ := Heap.dictOf_iff.mp hd
    have st1 := st0.trans st
    have gD : g₁ s.heap.objs.size = Option.none := not_new st (Heap.get?_push_size s.heap rfl) (none_of_sees ok.sees n)
    have le : VLe g₁ (g₁.add s.heap.objs.size o) := View.le_add gD
    refine ⟨g₁.add s.heap.objs.size o, ?_, s.heap.objs.size, o, merged [] xs, rfl, low, View.add_self _ _ _, hi, (holds_merged kvs xs [] [] hh ⟨rfl, trivial⟩).up le⟩
    exact {
      same := by obtain ⟨hp, tk, e⟩ := st1.same; subst e; exact ⟨h', _, rfl⟩
      keep := fun b o e => hs.extBut b o (fun q => by subst q; rw [n] at e; cases e) (st1.keep b o e)
      ext := st1.ext.trans le
      new := fun b o' e => by
        unfold View.add at e
        split at e
        · rename_i q; subst q; exact .inr n
        · exact st1.new b o' e
      sees := fun b o' e => by
        unfold View.add at e
        split at e
        · rename_i q; subst q; cases e; exact hl
        · exact hs.extBut b o' (by assumption) (st.sees b o' e) }
end
end Mine
end
section
open PySem PySem.W PyProof.Rows
set_option maxRecDepth 100000
set_option linter.unusedVariables false
namespace Mine
section
variable {prog : Program} {w : World} {K : View} {F : Fr} {c : Cfg}
theorem range_outs (n : Nat) (Rf : Nat → Rel) : ((List.range n).map fun i => some (Rf i)).filterMap id = (List.range n).map Rf := by
  generalize List.range n = l
  induction l with
  | nil => rfl
  | cons x l ih => simp at ih ⊢
noncomputable def CompM (prog : Program) (w : World) (K : View) (F : Fr) (scope : Scope) (cl : List (Str × Addr)) (elt target : Expr) (items : List Item) (ρ' : List (Str × Rel)) (mid : Nat → List (Str × Rel)) (Rf : Nat → Rel) : Prop :=
  ∀ C g s G H pv i j, items[i]? = some j → i < items.length → AsI prog w K ((F.comp scope cl C g s).inner G H) ⟨ρ', pv⟩ target j ⟨mid i, pv⟩ ∧ Sub (mid i) ρ' ∧ Ev prog w (((F.comp scope cl C g s).inner G H).ctx K ⟨mid i, pv⟩) elt (Rf i)
theorem CompM.b {elt target : Expr} {scope : Scope} {cl : List (Str × Addr)} {items : List Item} {ρ' : List (Str × Rel)} {mid : Nat → List (Str × Rel)} {Rf : Nat → Rel} {n : Nat} (hn : items.length = n) (h : CompM prog w K F scope cl elt target items ρ' mid Rf) :
    CompB prog w K F scope cl target [] items ρ' mid (kept ((List.range n).map fun i => some (Rf i))) (fun F' c i => ∀ R, ((List.range n).map fun i => some (Rf i))[i]? = some (some R) → Ev prog w (F'.ctx K c) elt R) := fun C g s G H pv i j hj => by
  have hi : i < items.length := (List.getElem?_eq_some_iff.mp hj).1
  obtain ⟨a, b, e⟩ := h C g s G H pv i j hj hi
  have hk : kept ((List.range n).map fun i => some (Rf i)) i = true := (kept_of (o := some (Rf i)) (by rw [List.getElem?_map, List.getElem?_range (by simp_all)]; rfl)).trans rfl
  refine ⟨a, b, hk ▸ Tst.nil, fun _ R hR => ?_⟩
  rw [List.getElem?_map, List.getElem?_range (by omega)] at hR
  cases hR
  exact e
theorem ev_map {elt iter target : Expr} {scope : Scope} {pos : Pos} {cl : List (Str × Addr)} {items : List Item} (ρ' : List (Str × Rel)) (mid : Nat → List (Str × Rel)) (n : Nat) (Rf : Nat → Rel)
    (hi : EvIter prog w (F.ctx K c) iter target items) (hn : items.length = n) (hsz : n ≤ 16777216) (co : CompOk F scope cl) (fr : FreeOk F scope cl c.ρ ρ') (hb : CompM prog w K F scope cl elt target items ρ' mid Rf)
    (hf : ∀ x, foldedSetIterable iter F.env x = pure x := by intro _; rfl) :
    Ev prog w (F.ctx K c) (.ListComp elt [⟨target, iter, [], 0⟩] scope pos) (RL ((List.range n).map Rf)) :=
  (Ev.listcomp ρ' mid ((List.range n).map fun i => some (Rf i)) hi (by simp [hn]) (by simpa using hsz) co fr (hb.b hn) hf).as (by rw [range_outs])
theorem s_map {elt iter target : Expr} {scope : Scope} {pos spos py : Pos} {y : Str} {cl : List (Str × Addr)} {items : List Item} (ρ' : List (Str × Rel)) (mid : Nat → List (Str × Rel)) (n : Nat) (Rf : Nat → Rel)
    (hi : EvIter prog w (F.ctx K c) iter target items) (hn : items.length = n) (hsz : n ≤ 16777216) (co : CompOk F scope cl) (fr : FreeOk F scope cl c.ρ ρ') (hb : CompM prog w K F scope cl elt target items ρ' mid Rf) (hy : F.Stores y)
    (hsw : swapsWith (.ListComp elt [⟨target, iter, [], 0⟩] scope pos) (some (.Name y py)) spos.line F.env = pure true := by rfl)
    (hf : ∀ x, foldedSetIterable iter F.env x = pure x := by intro _; rfl) :
    So prog w K F c (exec (.Assign [.Name y py] (.ListComp elt [⟨target, iter, [], 0⟩] scope pos) spos) F.env) (Nx K F (c.set y (RL ((List.range n).map Rf)))) := by
  have := s_listcomp (spos := spos) (py := py) (pos := pos) (scope := scope) (cl := cl) (y := y) (elt := elt) ρ' mid ((List.range n).map fun i => some (Rf i)) hi (by simp [hn]) (by simpa using hsz) co fr (hb.b hn) hy hsw hf
  rw [range_outs] at this
  exact this
/-- n // b with naturals -/
theorem op_ndiv {X : Ctx} (i j : Nat) (hj : j ≠ 0) (hp : Builtin.divisionGoesByPylong i j = false) : Op2 prog w X (binaryOp .FloorDiv) (RI i) (RI j) (RI ((i / j : Nat) : Int)) := by
  have := op_div (prog := prog) (w := w) (X := X) (i : Int) (j : Int) (by simp_all) (by rw [hp]; exact Bool.false_ne_true)
  rw [show (i : Int).fdiv j = ((i / j : Nat) : Int) from by rw [Int.fdiv_eq_ediv_of_nonneg _ (by simp)]; rfl] at this
  exact this
theorem op_nmod {X : Ctx} (i j : Nat) (hj : j ≠ 0) : Op2 prog w X (binaryOp .Mod) (RI i) (RI j) (RI ((i % j : Nat) : Int)) := by
  have := op_mod (prog := prog) (w := w) (X := X) (i : Int) (j : Int) (by simp_all)
  rw [show (i : Int).fmod j = ((i % j : Nat) : Int) from by rw [Int.fmod_eq_emod_of_nonneg _ (by simp)]; rfl] at this
  exact this
theorem pylong_small {x y : Int} (hx : y.natAbs < 2 ^ 64) : Builtin.divisionGoesByPylong x y = false := by
  have e : (if (y == 0) = true then 0 else y.natAbs.log2 / 30 + 1) ≤ 300 := by
    split
    · decide
    · have : y.natAbs.log2 < 64 := by
        by_cases h : y.natAbs = 0
        · rw [h]; decide
        · exact (Nat.log2_lt h).mpr hx
      lia
  have : decide ((if (y == 0) = true then 0 else y.natAbs.log2 / 30 + 1) > 300) = false := decide_eq_false (by simp_all)
  show (decide ((if (y == 0) = true then 0 else y.natAbs.log2 / 30 + 1) > 300) && _) = false
  rw [this]; rfl
end
end Mine
end
section
open PySem PySem.W PyProof.Rows
set_option maxRecDepth 100000
set_option linter.unusedVariables false
namespace Mine
theorem cellsFrom_ge : ∀ (names : List (Str × NameKind)) (n m : Nat) (acc : List (Str × Addr)), m ≤ n → (∀ p ∈ acc, m ≤ p.2) → ∀ p ∈ cellsFrom n names acc, m ≤ p.2
  | [], _, _, _, _, ha, p, hp => ha p hp
  | (y, k) :: r, n, m, acc, hn, ha, p, hp => by
    unfold cellsFrom at hp
    split at hp
    · exact cellsFrom_ge r (n + 1) m ((y, n) :: acc) (Nat.le_succ_of_le hn) (fun q hq => by
        rcases List.mem_cons.mp hq with rfl | hq
        · exact hn
        · exact ha q hq) p hp
    · exact cellsFrom_ge r n m acc hn ha p hp
theorem storesC {fd : FuncData} {f : Addr} {A : Around} {g : View} {s : Shared} {n : Nat} {x : Str} (h : fd.scope.names.lookup x = some .cell) : (Fr.call fd f A g s n).Stores x := by
  obtain ⟨a, ha⟩ := Option.isSome_iff_exists.mp (cellsFrom_some (x := x) fd.scope.names (s.heap.objs.size + 1) [] (.inl h))
  have hm := mem_of_lookup ha
  have : s.heap.objs.size + 1 ≤ a := cellsFrom_ge fd.scope.names (s.heap.objs.size + 1) (s.heap.objs.size + 1) [] (Nat.le_refl _) (fun _ hp => by cases hp) _ hm
  exact .inr ⟨h, a, ha, List.mem_cons_of_mem _ (List.mem_filterMap.mpr ⟨(x, a), hm, ha⟩), Nat.ne_of_gt this⟩
end Mine
end
section
open PySem PySem.W PyProof.Rows
set_option maxRecDepth 100000
set_option linter.unusedVariables false
namespace Mine
open Sem (wp)
/-! zip over two iterators of any kind, equally long. -/
structure ZA (z TI TO i1 i2 : Addr) (fp1 fp2 : List Addr) : Prop where
  TIz : TI ≠ z
  TOz : TO ≠ z
  TITO : TI ≠ TO
  z1 : z ∉ fp1
  z2 : z ∉ fp2
  TI1 : TI ∉ fp1
  TI2 : TI ∉ fp2
  TO1 : TO ∉ fp1
  TO2 : TO ∉ fp2
  m1 : i1 ∈ fp1
  m2 : i2 ∈ fp2
  n1 : i1 ∉ fp2
  n2 : i2 ∉ fp1
section
variable {prog : Program} {w : World} {A : Around} {E : Value → Shared → Prop} {s : Shared} {z TI TO i1 i2 : Addr} {fp1 fp2 : List Addr} {n k : Nat} {P1 P2 : Nat → Value → Prop} {St1 St2 : Nat → Heap → Prop} {a b : Value}
theorem zip_next_itemD {Q : Value → Shared → Prop} (D1 : Draws prog w A i1 fp1 n P1 St1) (D2 : Draws prog w A i2 fp2 n P2 St2) (D : ZA z TI TO i1 i2 fp1 fp2) (hk : k < n)
    (hz : IsZip s.heap z TI TO .none) (hTI : IsPair s.heap TI (.ref i1) (.ref i2)) (hTO : IsPair s.heap TO a b) (h1 : St1 k s.heap) (h2 : St2 k s.heap)
    (hQ : ∀ x y h' tk, P1 k x → P2 k y → IsZip h' z TI TO (rawInt s.heap.objs.size) → IsPair h' TO x y → St1 (k + 1) h' → St2 (k + 1) h' → IsPair h' s.heap.objs.size x y → h'.objs.size = s.heap.objs.size + 1 →
      (∀ c o, c ≠ z → c ≠ TO → c ≠ i1 → c ≠ i2 → s.heap.get? c = some o → h'.get? c = some o) → Q (.ref s.heap.objs.size) { s with heap := h', toks := tk }) :
    wpAny (model prog w) A (Builtin.«zip.__next__» ⟨[.ref z], []⟩) (fun fin s' => ∃ v, fin = .done (.ret v) ∧ Q v s') E s := by
  have i1z : i1 ≠ z := fun e => D.z1 (e ▸ D.m1)
  have i2z : i2 ≠ z := fun e => D.z2 (e ▸ D.m2)
  have TOi1 : TO ≠ i1 := fun e => D.TO1 (e ▸ D.m1)
  have TOi2 : TO ≠ i2 := fun e => D.TO2 (e ▸ D.m2)
  show wpAny _ _ (field (.ref z) 2 >>= _) _ _ _
  refine wpAny_bind (wpAny_field hz rfl (x := .bool false) rfl ?_)
  show wpAny _ _ (field (.ref z) 3 >>= _) _ _ _
  refine wpAny_bind (wpAny_field hz rfl (x := .ref TI) rfl ?_)
  refine wpAny_bind (wpAny_seqItems hTI rfl ?_)
  show wpAny _ _ (Builtin.SmallTypes.ownedTupleIsFree (.ref z) >>= _) _ _ _
  refine wpAny_bind ?_
  unfold Builtin.SmallTypes.ownedTupleIsFree
  refine wpAny_bind (wpAny_field hz rfl (x := .none) rfl (wpAny_pure ?_))
  simp only [if_true]
  refine wpAny_bind (wpAny_rule ?_)
  refine wpAny_bind (wpAny_field hz rfl (x := .ref TO) rfl ?_)
  refine wpAny_bind (wpAny_setField_rec hz (by simp) fun h₁ hz₁ hs₁ => ?_)
  replace hz₁ : IsZip h₁ z TI TO .ellipsis := hz₁
  refine wpAny_bind ?_
  simp only [List.zipIdx_cons, List.zipIdx_nil, List.forIn_cons, List.forIn_nil]
  refine wpAny_bind (wpAny_bind (wpAny_onRaise ?_))
  show wpAny _ _ (Builtin.SmallTypes.nextOf (.ref i1) >>= _) _ _ _
  refine wpAny_bind (D1.item k _ _ _ hk (D1.frame _ _ _ h1 fun c hc o e => hs₁.extBut c o (fun q => D.z1 (q ▸ hc)) e) fun x h₂ tk₂ hP1 h1₂ hs₂ => wpAny_pure ?_)
  have hTO₂ : IsPair h₂ TO a b := hs₂.extBut _ _ TOi1 (hs₁.extBut _ _ D.TOz hTO)
  refine wpAny_bind (wpAny_seqItems hTO₂ rfl ?_)
  refine wpAny_bind (wpAny_updateSeq_pair hTO₂ fun h₃ hTO₃ hs₃ => ?_)
  replace hTO₃ : IsPair h₃ TO x b := hTO₃
  refine wpAny_bind (wpAny_letGo (wpAny_pure ?_))
  refine wpAny_bind (wpAny_bind (wpAny_onRaise ?_))
  show wpAny _ _ (Builtin.SmallTypes.nextOf (.ref i2) >>= _) _ _ _
  refine wpAny_bind (D2.item k _ _ _ hk (D2.frame _ _ _ h2 fun c hc o e => hs₃.extBut c o (fun q => D.TO2 (q ▸ hc)) (hs₂.extBut c o (fun q => D.n1 (q ▸ hc)) (hs₁.extBut c o (fun q => D.z2 (q ▸ hc)) e))) fun y h₄ tk₄ hP2 h2₄ hs₄ => wpAny_pure ?_)
  have hTO₄ : IsPair h₄ TO x b := hs₄.extBut _ _ TOi2 hTO₃
  refine wpAny_bind (wpAny_seqItems hTO₄ rfl ?_)
  refine wpAny_bind (wpAny_updateSeq_pair hTO₄ fun h₅ hTO₅ hs₅ => ?_)
  replace hTO₅ : IsPair h₅ TO x y := hTO₅
  refine wpAny_bind (wpAny_letGo (wpAny_pure (wpAny_pure ?_)))
  refine wpAny_bind (wpAny_seqItems hTO₅ rfl ?_)
  refine wpAny_bind (wpAny_newTuple ?_)
  have hsz : h₅.objs.size = s.heap.objs.size := by rw [hs₅.1, hs₄.1, hs₃.1, hs₂.1, hs₁.1]
  have hz₅ : IsZip h₅ z TI TO .ellipsis := hs₅.extBut _ _ D.TOz.symm (hs₄.extBut _ _ i2z.symm (hs₃.extBut _ _ D.TOz.symm (hs₂.extBut _ _ i1z.symm hz₁)))
  have hk₅ : ∀ c o, c ≠ z → c ≠ TO → c ≠ i1 → c ≠ i2 → s.heap.get? c = some o → h₅.get? c = some o := fun c o c1 c2 c3 c4 e =>
    hs₅.extBut _ _ c2 (hs₄.extBut _ _ c4 (hs₃.extBut _ _ c2 (hs₂.extBut _ _ c3 (hs₁.extBut _ _ c1 e))))
  have h1₅ : St1 (k + 1) h₅ := D1.frame _ _ _ h1₂ fun c hc o e => hs₅.extBut c o (fun q => D.TO1 (q ▸ hc)) (hs₄.extBut c o (fun q => D.n2 (q ▸ hc)) (hs₃.extBut c o (fun q => D.TO1 (q ▸ hc)) e))
  have h2₅ : St2 (k + 1) h₅ := D2.frame _ _ _ h2₄ fun c hc o e => hs₅.extBut c o (fun q => D.TO2 (q ▸ hc)) e
  have hzlt : z < h₅.objs.size := Heap.lt_size hz₅
  show wpAny _ _ (Builtin.SmallTypes.ownedTupleHandOut (.ref z) (.ref h₅.objs.size) >>= _) _ _ _
  refine wpAny_bind ?_
  unfold Builtin.SmallTypes.ownedTupleHandOut
  have hz₆ : IsZip (h₅.push { cls := .type "tuple", data := .seq #[x, y] }) z TI TO .ellipsis := Heap.get?_push_of_some _ hz₅
  refine wpAny_bind (wpAny_setField_rec hz₆ (by simp) fun h₇ hz₇ hs₇ => ?_)
  replace hz₇ : IsZip h₇ z TI TO (rawInt h₅.objs.size) := hz₇
  refine wpAny_setField_rec hz₇ (by simp) fun h₈ hz₈ hs₈ => ?_
  replace hz₈ : IsZip h₈ z TI TO (rawInt h₅.objs.size) := hz₈
  have up : ∀ c o, c ≠ z → h₅.get? c = some o → h₈.get? c = some o := fun c o c1 e => hs₈.extBut _ _ c1 (hs₇.extBut _ _ c1 (Heap.get?_push_of_some _ e))
  have hT₈ : IsPair h₈ h₅.objs.size x y := hs₈.extBut _ _ (Nat.ne_of_gt hzlt) (hs₇.extBut _ _ (Nat.ne_of_gt hzlt) (Heap.get?_push_size _ rfl))
  have hz8 : h₈.objs.size = h₅.objs.size + 1 := by rw [hs₈.1, hs₇.1, Heap.size_push]
  rw [hsz] at hz₈ hT₈ hz8
  refine wpAny_pure ⟨_, rfl, ?_⟩
  show Q (.ref h₅.objs.size) _
  rw [hsz]
  exact hQ x y h₈ tk₄ hP1 hP2 hz₈ (up _ _ D.TOz hTO₅) (D1.frame _ _ _ h1₅ fun c hc o e => up c o (fun q => D.z1 (q ▸ hc)) e) (D2.frame _ _ _ h2₅ fun c hc o e => up c o (fun q => D.z2 (q ▸ hc)) e) hT₈ hz8 fun c o c1 c2 c3 c4 e => up c o c1 (hk₅ c o c1 c2 c3 c4 e)
theorem zip_next_endD {Q : Fin → Shared → Prop} (D1 : Draws prog w A i1 fp1 n P1 St1) (D : ZA z TI TO i1 i2 fp1 fp2)
    (hz : IsZip s.heap z TI TO .none) (hTI : IsPair s.heap TI (.ref i1) (.ref i2)) (hTO : IsPair s.heap TO a b) (h1 : St1 n s.heap)
    (hE : ∀ h' e, (∀ c o, c ≠ z → c ≠ TO → c ≠ i1 → c ≠ i2 → s.heap.get? c = some o → h'.get? c = some o) → (∃ o, h'.get? e = some o ∧ o.cls = .type "StopIteration") → E (.ref e) { s with heap := h' }) :
    wpAny (model prog w) A (Builtin.«zip.__next__» ⟨[.ref z], []⟩) Q E s := by
  have i1z : i1 ≠ z := fun e => D.z1 (e ▸ D.m1)
  show wpAny _ _ (field (.ref z) 2 >>= _) _ _ _
  refine wpAny_bind (wpAny_field hz rfl (x := .bool false) rfl ?_)
  show wpAny _ _ (field (.ref z) 3 >>= _) _ _ _
  refine wpAny_bind (wpAny_field hz rfl (x := .ref TI) rfl ?_)
  refine wpAny_bind (wpAny_seqItems hTI rfl ?_)
  show wpAny _ _ (Builtin.SmallTypes.ownedTupleIsFree (.ref z) >>= _) _ _ _
  refine wpAny_bind ?_
  unfold Builtin.SmallTypes.ownedTupleIsFree
  refine wpAny_bind (wpAny_field hz rfl (x := .none) rfl (wpAny_pure ?_))
  simp only [if_true]
  refine wpAny_bind (wpAny_rule ?_)
  refine wpAny_bind (wpAny_field hz rfl (x := .ref TO) rfl ?_)
  refine wpAny_bind (wpAny_setField_rec hz (by simp) fun h₁ hz₁ hs₁ => ?_)
  replace hz₁ : IsZip h₁ z TI TO .ellipsis := hz₁
  refine wpAny_bind ?_
  simp only [List.zipIdx_cons, List.zipIdx_nil, List.forIn_cons, List.forIn_nil]
  refine wpAny_bind (wpAny_bind (wpAny_onRaise ?_))
  show wpAny _ _ (Builtin.SmallTypes.nextOf (.ref i1) >>= _) _ _ _
  refine wpAny_bind (D1.done _ _ _ (D1.frame _ _ _ h1 fun c hc o e => hs₁.extBut c o (fun q => D.z1 (q ▸ hc)) e) fun h₂ e hs₂ he => ?_)
  obtain ⟨oe, hoe, hce⟩ := he
  have hz₂ : IsZip h₂ z TI TO .ellipsis := hs₂ _ _ i1z.symm hz₁
  have hez : e ≠ z := fun x => by subst x; rw [hz₂] at hoe; cases hoe; simp at hce
  refine wpAny_setField_rec hz₂ (by simp) fun h₃ _ hs₃ => hE h₃ e (fun c o c1 _ c3 _ x => hs₃.extBut _ _ c1 (hs₂ _ _ c3 (hs₁.extBut _ _ c1 x))) ⟨oe, hs₃.extBut _ _ hez hoe, hce⟩
theorem zipD (hh : A.handled = none) (D1 : Draws prog w A.in1 i1 fp1 n P1 St1) (D2 : Draws prog w A.in1 i2 fp2 n P2 St2) (D : ZA z TI TO i1 i2 fp1 fp2) :
    WalksT prog w A z (z :: TI :: TO :: (fp1 ++ fp2)) [z, TO, i1, i2] n (fun i vals => ∃ x y, P1 i x ∧ P2 i y ∧ vals = #[x, y])
      (fun i h => IsZip h z TI TO .none ∧ IsPair h TI (.ref i1) (.ref i2) ∧ (∃ a b, IsPair h TO a b) ∧ St1 i h ∧ St2 i h)
      (fun i T h => IsZip h z TI TO (rawInt T) ∧ IsPair h TI (.ref i1) (.ref i2) ∧ (∃ a b, IsPair h TO a b) ∧ St1 (i + 1) h ∧ St2 (i + 1) h ∧ T ≠ z ∧ T ≠ TO ∧ T ≠ i1 ∧ T ≠ i2) where
  sub := fun c hc => by
    have m1 := D.m1
    have m2 := D.m2
    simp at hc ⊢; rcases hc with rfl | rfl | rfl | rfl <;> simp [*]
  frame := fun i h h' hst hk => by
    obtain ⟨hz, hTI, ⟨a, b, hTO⟩, h1, h2⟩ := hst
    exact ⟨hk z (by simp) _ hz, hk TI (by simp) _ hTI, ⟨a, b, hk TO (by simp) _ hTO⟩, D1.frame _ _ _ h1 fun c hc o e => hk c (by simp [hc]) o e, D2.frame _ _ _ h2 fun c hc o e => hk c (by simp [hc]) o e⟩
  item := fun i s Q E hi hst hQ => by
    obtain ⟨hz, hTI, ⟨a, b, hTO⟩, h1, h2⟩ := hst
    have hT : s.TypeIs (.ref z) "zip" := ⟨_, hz, rfl⟩
    have lt : ∀ {c o}, s.heap.get? c = some o → s.heap.objs.size ≠ c := fun e => Nat.ne_of_gt (Heap.lt_size e)
    unfold pyNext
    refine wpAny_bind (wpAny_attempt (wpAny_callSpecial?_slot (name := Str.ofString "__next__") hT F.slot_zip_next
      (wpAny_call_entry F.slot_zip_next hT F.entry_zip_next (zip_next_itemD D1 D2 D hi hz hTI hTO h1 h2 fun x y h' tk p1 p2 a1 a2 a3 a4 a5 a6 hk => wpAny_pure ?_) (F.args_zip_next_1 _))))
    exact hQ s.heap.objs.size #[x, y] h' tk ⟨x, y, p1, p2, rfl⟩ (Nat.le_refl _) ⟨_, a5, rfl, _, rfl⟩
      ⟨a1, hk _ _ D.TIz D.TITO (fun e => D.TI1 (e ▸ D.m1)) (fun e => D.TI2 (e ▸ D.m2)) hTI, ⟨_, _, a2⟩, a3, a4, lt hz, lt hTO, (let ⟨_, e⟩ := D1.live _ _ h1; lt e), (let ⟨_, e⟩ := D2.live _ _ h2; lt e)⟩
      fun c o hc e => hk c o (fun x => hc (by simp [x])) (fun x => hc (by simp [x])) (fun x => hc (by simp [x])) (fun x => hc (by simp [x])) e
  go := fun elts k pos i T s Q E hm hQ => by
    obtain ⟨hz, hTI, ⟨a, b, hTO⟩, h1, h2, _⟩ := hm
    refine wpAny_letOwnedTupleGo_zip hz fun h' hz' hs' => hQ h' ⟨hz', hs'.extBut _ _ D.TIz hTI, ⟨a, b, hs'.extBut _ _ D.TOz hTO⟩, D1.frame _ _ _ h1 fun c hc o e => hs'.extBut c o (fun q => D.z1 (q ▸ hc)) e, D2.frame _ _ _ h2 fun c hc o e => hs'.extBut c o (fun q => D.z2 (q ▸ hc)) e⟩
      fun c o hc e => hs'.extBut _ _ (fun x => hc (by simp [x])) e
  apart := fun i T h hm hT => by
    obtain ⟨_, _, _, _, _, t1, t2, t3, t4⟩ := hm
    simp at hT
    rcases hT with rfl | rfl | rfl | rfl
    · exact t1 rfl
    · exact t2 rfl
    · exact t3 rfl
    · exact t4 rfl
  done := fun s Q E hst hQ => by
    obtain ⟨hz, hTI, ⟨a, b, hTO⟩, h1, h2⟩ := hst
    have hT : s.TypeIs (.ref z) "zip" := ⟨_, hz, rfl⟩
    unfold pyNext
    refine wpAny_bind (wpAny_attempt (wpAny_callSpecial?_slot (name := Str.ofString "__next__") hT F.slot_zip_next
      (wpAny_call_entry F.slot_zip_next hT F.entry_zip_next (zip_next_endD D1 D hz hTI hTO h1 fun h' e hk he => ?_) (F.args_zip_next_1 _))))
    obtain ⟨o, ho, hc⟩ := he
    refine wpAny_bind (wpAny_isInstance (T := "StopIteration") (b := true) ⟨o, ho, hc⟩ isSubtype_stop ?_)
    exact wpAny_pure (hQ h' s.toks fun c o hc e => hk c o (fun x => hc (by simp [x])) (fun x => hc (by simp [x])) (fun x => hc (by simp [x])) (fun x => hc (by simp [x])) e)
  self := fun i s Q E hst hQ => wpAny_pyIter_zip hst.1 hQ
end
end Mine
end
section
open PySem PySem.W PyProof.Rows
open AutoSeq1 (wpAny_loadPart')
set_option maxRecDepth 100000
set_option linter.unusedVariables false
namespace Mine
/-! zip(text, list) -/
noncomputable abbrev siO (ty : String) (x : Str) (t : Tok) : Obj := { cls := .type ty, data := .fields #[.str x t, .int 0 0] }
noncomputable abbrev zs1 (h : Heap) (o : Obj) : Heap := h.push o
noncomputable abbrev zs2 (h : Heap) (o : Obj) (l2 : Addr) : Heap := (zs1 h o).push { cls := .type "list_iterator", data := .fields #[.ref l2, .int 0 0] }
noncomputable abbrev zs3 (h : Heap) (o : Obj) (l2 : Addr) : Heap := (zs2 h o l2).push { cls := .type "tuple", data := .seq #[.ref h.objs.size, .ref (zs1 h o).objs.size] }
noncomputable abbrev zs4 (h : Heap) (o : Obj) (l2 : Addr) : Heap := (zs3 h o l2).push { cls := .type "tuple", data := .seq #[.none, .none] }
noncomputable abbrev zs5 (h : Heap) (o : Obj) (l2 : Addr) : Heap := (zs4 h o l2).push { cls := .type "zip", data := .fields #[.none, .bool false, .bool false, .ref (zs2 h o l2).objs.size, .ref (zs3 h o l2).objs.size] }
noncomputable def siTy (x : Str) : String := if x.cps.all (· < 128) then "str_ascii_iterator" else "str_iterator"
section
variable {prog : Program} {w : World} {A : Around} {E : Value → Shared → Prop} {s : Shared}
theorem pyIter_str {x : Str} {t : Tok} {Q : Value → Shared → Prop} (hQ : Q (.ref s.heap.objs.size) { s with heap := s.heap.push (siO (siTy x) x t) }) : wpAny (model prog w) A (pyIter (.str x t)) Q E s := by
  cases ha : x.cps.all (· < 128)
  · have e : siTy x = "str_iterator" := by unfold siTy; rw [ha]; rfl
    rw [e] at hQ
    exact wpAny_pyIter_wide ha hQ
  · have e : siTy x = "str_ascii_iterator" := by unfold siTy; rw [ha]; rfl
    rw [e] at hQ
    exact wpAny_pyIter_ascii ha hQ
theorem draws_str (hh : A.handled = none) (it : Addr) (x : Str) (t : Tok) :
    Draws prog w A it [it] x.cps.size (fun i v => ∃ c u, x.cps[i]? = some c ∧ v = .str ⟨#[c]⟩ u) (fun i h => h.IsStrIter it (siTy x) x t i) := by
  unfold siTy
  split
  · exact Draws.strAscii hh it x t
  · exact Draws.strWide hh it x t
end
set_option maxHeartbeats 4000000 in
theorem meets_zip_str (x : Str) (t : Tok) (l2 : Addr) (ys : Array Value) :
    Meets (Builtin.«zip.__new__» ⟨[.type "zip", .str x t, .ref l2], []⟩) (fun _ R s => s.heap.IsList l2 ys ∧
      R (.ok (.ret (.ref (zs4 s.heap (siO (siTy x) x t) l2).objs.size))) { s with heap := zs5 s.heap (siO (siTy x) x t) l2 }) :=
  .of_wp fun prog w A R s h => by
    obtain ⟨hp, g, d, tk, os⟩ := s; obtain ⟨hl2, h⟩ := h
    have hsub := sub_zip
    have hL2 : Heap.IsList (Shared.heap ⟨hp.push (siO (siTy x) x t), g, d, tk, os⟩) l2 ys := Heap.IsList.push hl2 _
    wp_walk using pyIter_str, wpAny_pyIter_list hL2
    exact ⟨_, rfl, h⟩
section
variable {prog : Program} {w : World} {A : Around} {E : Value → Shared → Prop} {s : Shared}
theorem call_zip_str {x : Str} {t : Tok} {l2 : Addr} {ys : Array Value} {Q : Value → Shared → Prop} (hl2 : s.heap.IsList l2 ys)
    (h : ∀ h', IsZip h' (s.heap.objs.size + 4) (s.heap.objs.size + 2) (s.heap.objs.size + 3) .none → IsPair h' (s.heap.objs.size + 2) (.ref s.heap.objs.size) (.ref (s.heap.objs.size + 1)) →
      IsPair h' (s.heap.objs.size + 3) .none .none → h'.IsStrIter s.heap.objs.size (siTy x) x t 0 → h'.IsListIter (s.heap.objs.size + 1) l2 0 → h'.objs.size = s.heap.objs.size + 5 →
      (∀ c o, s.heap.get? c = some o → h'.get? c = some o) → Q (.ref (s.heap.objs.size + 4)) { s with heap := h' }) :
    wpAny (model prog w) A (call (.type "zip") [.str x t, .ref l2]) Q E s := by
  refine callType_new F.called_zip (by decide) (F.typeCall_zip_2 _ _) (F.newCall_zip_2 _ _) (fun obj => F.args_object_init_3 obj _ _) F.entry_zip_new
    (meets_zip_str x t l2 ys) ⟨hl2, ?_⟩
  have z1 : (zs1 s.heap (siO (siTy x) x t)).objs.size = s.heap.objs.size + 1 := Heap.size_push ..
  have z2 : (zs2 s.heap (siO (siTy x) x t) l2).objs.size = s.heap.objs.size + 2 := by rw [Heap.size_push, z1]
  have z3 : (zs3 s.heap (siO (siTy x) x t) l2).objs.size = s.heap.objs.size + 3 := by rw [Heap.size_push, z2]
  have z4 : (zs4 s.heap (siO (siTy x) x t) l2).objs.size = s.heap.objs.size + 4 := by rw [Heap.size_push, z3]
  have z5 : (zs5 s.heap (siO (siTy x) x t) l2).objs.size = s.heap.objs.size + 5 := by rw [Heap.size_push, z4]
  have g5 : (zs5 s.heap (siO (siTy x) x t) l2).get? (zs4 s.heap (siO (siTy x) x t) l2).objs.size = some _ := Heap.get?_push_size _ rfl
  have g4 : (zs5 s.heap (siO (siTy x) x t) l2).get? (zs3 s.heap (siO (siTy x) x t) l2).objs.size = some _ := Heap.get?_push_of_some _ (Heap.get?_push_size _ rfl)
  have g3 : (zs5 s.heap (siO (siTy x) x t) l2).get? (zs2 s.heap (siO (siTy x) x t) l2).objs.size = some _ := Heap.get?_push_of_some _ (Heap.get?_push_of_some _ (Heap.get?_push_size _ rfl))
  have g2 : (zs5 s.heap (siO (siTy x) x t) l2).get? (zs1 s.heap (siO (siTy x) x t)).objs.size = some _ := Heap.get?_push_of_some _ (Heap.get?_push_of_some _ (Heap.get?_push_of_some _ (Heap.get?_push_size _ rfl)))
  have g1 : (zs5 s.heap (siO (siTy x) x t) l2).get? s.heap.objs.size = some _ := Heap.get?_push_of_some _ (Heap.get?_push_of_some _ (Heap.get?_push_of_some _ (Heap.get?_push_of_some _ (Heap.get?_push_size _ rfl))))
  show _ ∧ _
  rw [z2, z3, z4] at g5
  rw [z1, z2] at g3
  rw [z3] at g4
  rw [z1] at g2
  rw [z4]
  exact ⟨⟨_, g5, rfl⟩, h _ g5 g3 g4 ⟨_, g1, rfl, rfl⟩ ⟨_, g2, rfl, rfl⟩ z5 fun c o x =>
    Heap.get?_push_of_some _ (Heap.get?_push_of_some _ (Heap.get?_push_of_some _ (Heap.get?_push_of_some _ (Heap.get?_push_of_some _ x))))⟩
end
section
variable {prog : Program} {w : World} {K : View} {F : Fr} {c : Cfg}
theorem nm1 {p q : Nat} (h1 : p ≠ q) : p ∉ ([q] : List Nat) := fun h => h1 (List.mem_singleton.mp h)
theorem nm2 {p q r : Nat} (h1 : p ≠ q) (h2 : p ≠ r) : p ∉ ([q, r] : List Nat) := fun h => by
  rcases List.mem_cons.mp h with e | h
  · exact h1 e
  · exact h2 (List.mem_singleton.mp h)
theorem size_none {h : Heap} {a : Addr} (ha : h.objs.size ≤ a) : h.get? a = none := by
  cases e : h.get? a with
  | none => rfl
  | some o => exact absurd (Heap.lt_size e) (Nat.not_lt.mpr ha)
theorem iter_zip {fn e1 e2 : Expr} {pos tpos : Pos} {elts : List Expr} {k : Nat} {x : Str} {Rs : List Rel} (hf : Ev prog w (F.ctx K c) fn (RV (.type "zip"))) (h1 : Ev prog w (F.ctx K c) e1 (RS x)) (h2 : Ev prog w (F.ctx K c) e2 (RL Rs)) (hn : x.cps.size = Rs.length)
    (he : eval (.Call fn [e1, e2] [] pos) F.env = (do callWith pos (← eval fn F.env) [] (backTo pos (starEach [e1, e2] F.env)) (backToKw pos (keywordEach [] F.env))) := by rfl)
    (hs : starEach [e1, e2] F.env = (false, eval e1 F.env) :: starEach [e2] F.env := by rfl) (hs2 : starEach [e2] F.env = (false, eval e2 F.env) :: starEach [] F.env := by rfl) (hp : (backTo pos (starEach [e2] F.env)).any (·.1) = false := by rfl) :
    EvIter prog w (F.ctx K c) (.Call fn [e1, e2] [] pos) (.Tuple elts k tpos) ((x.cps.toList.zip Rs).map fun p => .tup [RS ⟨#[p.1]⟩, p.2]) := .mk fun g s ok => by
  have ok : Fm K F c g s := ok
  refine Call_ (wp_of (hf.run g s ok trivial) fun v s₁ hpat => ?_) he
  obtain ⟨g₁, st₁, q⟩ := hpat
  have q : v = .type "zip" := q
  subst q
  have ok₁ := ok.up st₁
  refine callWith_type1 ?_ hs hp
  refine args_cons (wp_of (h1.run g₁ s₁ ok₁ trivial) fun v s₂ hpat => ?_) hs
  obtain ⟨g₂, st₂, t, q⟩ := hpat
  subst q
  refine args_cons (wp_of (h2.run g₂ s₂ (ok₁.up st₂) trivial) fun v s₃ ⟨g₃, st₃, a, vs, q, hl, hv⟩ => args_nil ?_) hs2
  subst q
  have ok₃ := (ok₁.up st₂).up st₃
  have hl' := hl.isList ok₃.sees
  refine call_zip_str hl' fun h' hz hTI hTO hi1 hi2 hsz hk => wpAny_pyIter_zip hz ?_
  have hlt : a < s₃.heap.objs.size := by obtain ⟨o, e, _⟩ := hl'; exact Heap.lt_size e
  have hsize : vs.toArray.size = x.cps.size := by rw [hn, List.size_toArray, hv.length]
  generalize hN : s₃.heap.objs.size = N at *
  have na : ∀ m, N + m ≠ a := fun m => Nat.ne_of_gt (Nat.lt_of_lt_of_le hlt (Nat.le_add_right N m))
  have D : ZA (N + 4) (N + 2) (N + 3) N (N + 1) [N] [N + 1, a] :=
    { TIz := by show (N + 2 : Nat) ≠ N + 4; simp, TOz := by show (N + 3 : Nat) ≠ N + 4; simp, TITO := by show (N + 2 : Nat) ≠ N + 3; simp
      z1 := nm1 (by simp), z2 := nm2 (by simp) (na 4), TI1 := nm1 (by simp), TI2 := nm2 (by simp) (na 2), TO1 := nm1 (by simp), TO2 := nm2 (by simp) (na 3)
      m1 := List.mem_cons_self, m2 := List.mem_cons_self, n1 := nm2 (by simp) (na 0), n2 := nm1 (by simp) }
  have D2 := Draws.list (prog := prog) (w := w) (A := F.A.in1) ok.fok.handled (N + 1) a (Nat.ne_of_lt (Nat.lt_succ_of_lt hlt)) vs.toArray
  rw [hsize] at D2
  have T := KTurns.ofWalksU (elts := elts) (k := k) (pos := tpos) (zipD (A := F.A) ok.fok.handled (draws_str (A := F.A.in1) ok.fok.handled N x t) D2 D).toU
  have hln : x.cps.size = ((x.cps.toList.zip Rs).map fun p => Item.tup [RS ⟨#[p.1]⟩, p.2]).length := by simp [← hn]
  rw [hln] at T
  obtain ⟨ln, hl0⟩ := hl
  have st : Step g s g₃ s₃ := (st₁.trans st₂).trans st₃
  have nn : ∀ m, s₃.heap.get? (N + m) = none := fun m => size_none (by rw [hN]; exact Nat.le_add_right N m)
  have ng : ∀ m, s.heap.get? (N + m) = none := fun m => by
    cases e : s.heap.get? (N + m) with
    | none => rfl
    | some o => have := st.keep _ _ e; rw [nn m] at this; cases this
  have stp := Step.push (t := s₃.toks) ok₃.sees hk (nn 2) hTI
  have g1 : ∀ m, m ≠ 2 → (g₃.add (N + 2) { cls := .type "tuple", data := .seq #[.ref N, .ref (N + 1)] }) (N + m) = none := fun m hm => by
    unfold View.add
    rw [if_neg (fun e => hm (Nat.add_left_cancel e))]
    exact none_of_sees ok₃.sees (nn m)
  refine ⟨_, st.trans stp, N + 4, _, [N + 4, N + 3, N, N + 1], _, _, _, rfl, ⟨T, fun b hb => ?_, fun i h st b hb => ?_, fun i v h g' hi kk _ e => ?_, fun i s' Q E st q => ?_⟩, ⟨hz, hTI, ⟨_, _, hTO⟩, hi1, hi2, hl'.at fun o e => hk a o e⟩, fun b hb => ?_⟩
  · simp only [List.mem_cons, List.not_mem_nil, or_false, List.cons_append, List.nil_append] at hb
    rcases hb with rfl | rfl | rfl | rfl | rfl | rfl
    · exact .inl (by simp)
    · exact .inr ⟨_, View.add_self _ _ _⟩
    · exact .inl (by simp)
    · exact .inl (by simp)
    · exact .inl (by simp)
    · exact .inr ⟨_, stp.ext _ _ hl0⟩
  · obtain ⟨q1, q2, ⟨_, _, q3⟩, q4, q5⟩ := st
    simp only [List.mem_cons, List.not_mem_nil, or_false] at hb
    rcases hb with rfl | rfl | rfl | rfl
    · exact ⟨_, q1⟩
    · exact ⟨_, q3⟩
    · exact (draws_str (prog := prog) (w := w) (A := F.A.in1) ok.fok.handled _ x t).live _ _ q4
    · exact D2.live _ _ q5
  · obtain ⟨T, vals, rfl, ⟨u, v, ⟨ch, tk, hx, rfl⟩, hy, rfl⟩, hT⟩ := e
    have hy' : vs[i]? = some v := by simpa using hy
    have hi' : i < Rs.length := by rw [← hv.length]; exact (List.getElem?_eq_some_iff.mp hy').1
    obtain ⟨v', hv', hr⟩ := hv.get (i := i) (R := Rs[i]) (by simp [hi'])
    rw [hy'] at hv'; cases hv'
    refine ⟨.tup [RS ⟨#[ch]⟩, Rs[i]], ?_, T, _, rfl, hT, ⟨tk, rfl⟩, Rel.up _ (stp.ext.trans kk) hr, trivial⟩
    have hx' : x.cps.toList[i]? = some ch := by simpa using hx
    have hzip : (x.cps.toList.zip Rs)[i]? = some (ch, Rs[i]) := List.getElem?_zip_eq_some.mpr ⟨hx', List.getElem?_eq_getElem hi'⟩
    rw [List.getElem?_map, hzip]
    rfl
  · exact wpAny_pyIter_zip st.1 q
  · simp only [List.mem_cons, List.not_mem_nil, or_false] at hb
    rcases hb with rfl | rfl | rfl | rfl
    · exact ⟨ng 4, g1 4 (by decide)⟩
    · exact ⟨ng 3, g1 3 (by decide)⟩
    · exact ⟨ng 0, g1 0 (by decide)⟩
    · exact ⟨ng 1, g1 1 (by decide)⟩
end
end Mine
end
section
open PySem PySem.W PyProof.Rows
open Builtin.Str (partsBetween occurrences)
set_option maxRecDepth 100000
set_option linter.unusedVariables false
namespace Mine
/-! texts cut, stripped, joined, changed. -/
section
variable {prog : Program} {w : World} {A : Around} {E : Value → Shared → Prop} {s : Shared} {x : Str} {t : Tok} {Q : Value → Shared → Prop}
theorem split_new {y : Str} {u : Tok} (hy : (y.length == 0) = false)
    (hq : ∀ l tk, l.map (·.1) = Txt.split x y → Q (.ref s.heap.objs.size) { s with heap := s.heap.push { cls := .type "list", data := .seq (strValues l).toArray }, toks := tk })
    (hsz : x.length ≤ sizeLine) (hsz2 : (partsBetween x (occurrences x y 0 x.length (x.length + 1)) y.length).length ≤ sizeLine) :
    wpAny (model prog w) A (call (.builtin "str.split") [.str x t, .str y u]) Q E s := by
  cases h1 : (decide (x.length < y.length) || decide (Builtin.Str.strKind x < Builtin.Str.strKind y))
  · cases hf : (occurrences x y 0 x.length (x.length + 1)).isEmpty
    · refine call_meets PySem.F.slot_str_split (typeIs_str _ _ _) PySem.F.entry_str_split (PySem.F.args_str_split_2 _ _) (meets_str_split_sep x y t u h1 hy hf hsz hsz2) ?_
      show wants Q E _ { s with toks := _, heap := s.heap.push { cls := .type "list", data := .seq (strsFrom s.toks (partsBetween x (occurrences x y 0 x.length (x.length + 1)) y.length)).toArray } }
      rw [strsFrom_eq]
      exact hq (numbered s.toks _) _ ((numbered_texts _ _).trans ((if_neg (ne_true_of_eq_false h1)).trans (if_neg (ne_true_of_eq_false hf))).symm)
    · exact call_meets PySem.F.slot_str_split (typeIs_str _ _ _) PySem.F.entry_str_split (PySem.F.args_str_split_2 _ _) (meets_str_split_not_found x y t u h1 hy hf)
        (hq [(x, t)] s.toks ((if_neg (ne_true_of_eq_false h1)).trans (if_pos hf)).symm)
  · exact call_meets PySem.F.slot_str_split (typeIs_str _ _ _) PySem.F.entry_str_split (PySem.F.args_str_split_2 _ _) (meets_str_split_cannot_occur x y t u h1)
      (hq [(x, t)] s.toks (if_pos h1).symm)
end
section
variable {prog : Program} {w : World} {K : View} {F : Fr} {c : Cfg} {X : Ctx}
theorem all2_strs {g : View} : ∀ (l : List (Str × Tok)), All2 g ((l.map (·.1)).map RS) (strValues l)
  | [] => trivial
  | p :: l => ⟨⟨p.2, rfl⟩, all2_strs l⟩
theorem strs_of {g : View} : ∀ {xs : List Str} {vs : List Value}, All2 g (xs.map RS) vs → ∃ l : List (Str × Tok), vs = strValues l ∧ l.map (·.1) = xs
  | [], [], _ => ⟨[], rfl, rfl⟩
  | x :: xs, v :: vs, ⟨⟨t, e⟩, h⟩ => by
    subst e
    obtain ⟨l, rfl, rfl⟩ := strs_of h
    exact ⟨(x, t) :: l, rfl, rfl⟩
  | [], _ :: _, h => h.elim
  | _ :: _, [], h => h.elim
theorem call_split {x y : Str} {ov : Value} (hy : (y.length == 0) = false) (hsz : x.length ≤ sizeLine) (hsz2 : (partsBetween x (occurrences x y 0 x.length (x.length + 1)) y.length).length ≤ sizeLine) (vs : List Value) :
    Tr prog w X (fun g => (RS x).r g ov ∧ All2 g [RS y] vs) (call (.builtin "str.split") (ov :: vs)) (RL ((Txt.split x y).map RS)).r := .mk fun g s ok hpat => by
  obtain ⟨⟨t, e⟩, hv⟩ := hpat
  obtain ⟨v, e', u, e''⟩ := one_of hv
  subst e e' e''
  refine split_new hy (fun l tk hl => ?_) hsz hsz2
  rw [← hl]
  exact ⟨_, Step.push (X.sees ok) (kp_push s.heap _) (get_size s.heap) (Heap.get?_push_size s.heap rfl), _, strValues l, rfl, ⟨0, View.add_self _ _ _⟩, all2_strs l⟩
theorem call_lstrip {x y : Str} {ov : Value} (hsz : x.length ≤ sizeLine) (vs : List Value) :
    Tr prog w X (fun g => (RS x).r g ov ∧ All2 g [RS y] vs) (call (.builtin "str.lstrip") (ov :: vs)) (RS (Txt.lstripChars x y)).r := .mk fun g s ok hpat => by
  obtain ⟨⟨t, e⟩, hv⟩ := hpat
  obtain ⟨v, e', u, e''⟩ := one_of hv
  subst e e' e''
  exact SC.lstripChars (fun t' k => ends_toks (X.sees ok) _ ⟨_, rfl⟩) hsz
theorem call_join {x : Str} {xs : List Str} {ov : Value} (hok : JoinOk x xs = true) (vs : List Value) :
    Tr prog w X (fun g => (RS x).r g ov ∧ All2 g [RL (xs.map RS)] vs) (call (.builtin "str.join") (ov :: vs)) (RS (Txt.join x xs)).r := .mk fun g s ok hpat => by
  obtain ⟨⟨t, e⟩, hv⟩ := hpat
  obtain ⟨v, e', a, us, e'', hl, hu⟩ := one_of hv
  subst e e' e''
  obtain ⟨l, rfl, hl'⟩ := strs_of hu
  exact SC.join (hl.isList (X.sees ok)) hl' hok fun t' k => ends_toks (X.sees ok) _ ⟨_, rfl⟩
theorem bf_len_str (x : Str) (hn : x.length ≤ 16777216) : Bf prog w X (.builtin "len") [RS x] (RI x.length) := fun vs => .mk fun g s ok h => by
  obtain ⟨v, rfl, ⟨t, e⟩⟩ := one_of h
  subst e; exact P.len_str (by lia) (ends_toks (X.sees ok) _ ⟨_, rfl⟩)
theorem op_isnot_bool (a b : Bool) : Op2 prog w X (compareOp .IsNot) (RB a) (RB b) (RB (a != b)) := fun u v => .mk fun g s ok hpat => by
  obtain ⟨hu, hv⟩ := hpat
  have hu : u = .bool a := hu
  have hv : v = .bool b := hv
  subst hu hv
  show wpAny (model prog w) X.A (do return Value.bool (!(← isSame (.bool a) (.bool b)))) _ _ _
  have : isSame (.bool a) (.bool b) = pure (a == b) := by cases a <;> cases b <;> rfl
  rw [this]
  exact wpAny_bind (wpAny_pure (wpAny_pure (ends_here (X.sees ok) rfl)))
theorem op_is_bool (a b : Bool) : Op2 prog w X (compareOp .Is) (RB a) (RB b) (RB (a == b)) := fun u v => .mk fun g s ok hpat => by
  obtain ⟨hu, hv⟩ := hpat
  have hu : u = .bool a := hu
  have hv : v = .bool b := hv
  subst hu hv
  show wpAny (model prog w) X.A (do return Value.bool (← isSame (.bool a) (.bool b))) _ _ _
  have : isSame (.bool a) (.bool b) = pure (a == b) := by cases a <;> cases b <;> rfl
  rw [this]
  exact wpAny_bind (wpAny_pure (wpAny_pure (ends_here (X.sees ok) rfl)))
end
end Mine
end
section
open PySem PySem.W PyProof.Rows
set_option maxRecDepth 100000
set_option linter.unusedVariables false
namespace Mine
section
variable {prog : Program} {w : World} {K : View} {F : Fr} {c : Cfg}
theorem bf_min2 (a b : Int) : Bf prog w (F.ctx K c) (.builtin "min") [RI a, RI b] (RI (if b < a then b else a)) := fun vs => .mk fun g s ok h => by
  have ok : Fm K F c g s := ok
  obtain ⟨v, u, rfl, ⟨t, e⟩, ⟨t', e'⟩⟩ := two_of h
  subst e e'
  refine min_two_ints ok.fok.handled fun h' tk hk => ?_
  by_cases hc : b < a
  · rw [if_pos hc]; exact ⟨g, Step.heap ok.sees hk, _, by rw [if_pos hc]⟩
  · rw [if_neg hc]; exact ⟨g, Step.heap ok.sees hk, _, by rw [if_neg hc]⟩
theorem range4 {p m : Nat} {i : Nat} (h : i < (Builtin.Range.rangeSize p m 4).toNat) : p + i * 4 < m := by
  unfold Builtin.Range.rangeSize at h
  simp at h
  split at h <;> lia
end
end Mine
end
section
open PySem PySem.W PyProof.Rows
set_option maxRecDepth 100000
set_option linter.unusedVariables false
namespace Mine
/-! statements run where a token has been drawn before -/
section
variable {prog : Program} {w : World} {K : View} {F : Fr} {c c' : Cfg}
theorem wp_toks1 {α : Type} {A : Around} {t : Sem α} {Q : α → Shared → Prop} {s : Shared} (h : wpAny (model prog w) A t Q NoE s) : wpAny (model prog w) A t (fun a s' => s.toks ≤ s'.toks ∧ Q a s') NoE s :=
  wpAny_mono (wpAny_toks_of (Nat.le_refl _) h) (fun _ _ x => x) fun _ _ x => x.2
structure SoT (prog : Program) (w : World) (K : View) (F : Fr) (c : Cfg) (t : Sem Flow) (q : Flow → Shared → Prop) : Prop where
  run : ∀ g s, Fm K F c g s → 1 ≤ s.toks → wpAny (model prog w) F.A t q NoE s
theorem So.t {t : Sem Flow} {q : Flow → Shared → Prop} (h : So prog w K F c t q) : SoT prog w K F c t q := .mk fun g s ok _ => h.run g s ok
theorem seqT {st : Stmt} {rest : List Stmt} {q : Flow → Shared → Prop} (h : SoT prog w K F c (exec st F.env) (Nx K F c')) (k : SoT prog w K F c' (execs rest F.env) q) : SoT prog w K F c (execs (st :: rest) F.env) q :=
  .mk fun g s ok ht => wpAny_execs_cons (wp_of (wp_toks1 (h.run g s ok ht)) fun f s' ⟨hle, e, g', ok'⟩ => by subst e; exact k.run g' s' ok' (Nat.le_trans ht hle))
theorem lastT {st : Stmt} {q : Flow → Shared → Prop} (h : SoT prog w K F c (exec st F.env) q) : SoT prog w K F c (execs [st] F.env) q := .mk fun g s ok ht =>
  wpAny_execs_cons (wp_of (h.run g s ok ht) fun f s' z => by cases f <;> first | exact wpAny_execs_nil z | exact z)
theorem SoT.mono {t : Sem Flow} {q q' : Flow → Shared → Prop} (h : SoT prog w K F c t q) (k : ∀ f s, q f s → q' f s) : SoT prog w K F c t q' := .mk fun g s ok ht => wp_of (h.run g s ok ht) k
theorem s_forT {items : List Item} {iter target : Expr} {body : List Stmt} {pos : Pos} (inv mid : Nat → Cfg) {R : Rel} (hi : EvIter prog w (F.ctx K c) iter target items) (hc : inv 0 = c)
    (hb : ∀ G H i j, items[i]? = some j → AsI prog w K (F.inner G H) (inv i) target j (mid i) ∧ SoT prog w K (F.inner G H) (mid i) (execs body F.env) (Bd K (F.inner G H) (inv (i + 1)) R))
    (hf : ∀ x, foldedSetIterable iter F.env x = pure x := by intro _; rfl) :
    SoT prog w K F c (exec (.For target iter body [] pos) F.env) (Bd K F (inv items.length) R) := .mk fun g s ok ht => by
  refine wpAny_For (wp_of (wp_toks1 (hi.run g s ok)) fun x s₁ ⟨t1, hx⟩ => wp_of (wp_toks1 hx) fun it s₂ hpat => ?_) hf
  obtain ⟨t2, g₁, t⟩ := hpat
  obtain ⟨I, fp, wr, P, Md, St, rfl, L, at0, base, new⟩ := t.start ok
  refine codeAny_forLoop_any (fun k s' => ∃ i g', At' K F (inv i) wr St g₁ g' s' i ∧ i ≤ items.length ∧ k = items.length + 1 - i ∧ 1 ≤ s'.toks) ?_ (items.length + 1)
    ⟨0, g₁, hc ▸ at0, Nat.zero_le _, rfl, Nat.le_trans ht (Nat.le_trans t1 t2)⟩
  rintro k s' ⟨i, g', x, hle, rfl, hT⟩
  by_cases hlt : i < items.length
  · refine wp_of (wp_toks1 (L.turn base hlt x)) fun r s₁ hpat => ?_
    obtain ⟨u1, v, e, hg⟩ := hpat
    subst e
    refine wp_of (wp_toks1 hg) fun _ s₂ hpat => ?_
    obtain ⟨u2, j, hj, hjs, hst, ok₂⟩ := hpat
    obtain ⟨ha, hbd⟩ := hb g₁ (holdOn wr F.hold s₂.heap) i j hj
    have hs₂ : Sees g₁ s₂.heap := fun b o e => ok₂.sees b o (x.le b o e)
    refine wp_of (wp_toks1 (ha v g' s₂ ok₂ hjs)) fun _ s₃ ⟨u3, ok₃⟩ => wp_of (wp_toks1 (hbd.run g' s₃ ok₃ (Nat.le_trans hT (Nat.le_trans u1 (Nat.le_trans u2 u3))))) fun f s₄ hpat => ?_
    obtain ⟨u4, h₄⟩ := hpat
    rcases h₄ with ⟨rfl, g₄, ok₄⟩ | h₄
    · exact ⟨items.length + 1 - (i + 1), by grind, i + 1, g₄, L.back base new ok.fok x.ap hst hs₂ ok₄, hlt, rfl, Nat.le_trans hT (Nat.le_trans u1 (Nat.le_trans u2 (Nat.le_trans u3 u4)))⟩
    · have h₅ := Rt.outer base new h₄
      obtain ⟨v, g₄, rfl, z⟩ := h₅
      exact .inr ⟨v, g₄, rfl, z⟩
  · have e : i = items.length := by lia
    subst e
    refine wp_of (L.fin x) fun r s₁ hpat => ?_
    obtain ⟨e, ok₁⟩ := hpat
    subst e
    exact wpAny_execs_nil (.inl ⟨rfl, g', ok₁⟩)
theorem Fm.looks {ρ' : List (Str × Rel)} {g : View} {s : Shared} (h : Fm K F c g s) (k : ∀ x R, look x ρ' = some R → look x c.ρ = some R) : Fm K F { c with ρ := ρ' } g s :=
  { h with vars := let ⟨m, hn, hv⟩ := h.vars; ⟨m, hn, fun x R e => hv x R (k x R e)⟩ }
theorem look_loop {a b : Str} {R Y R0 : Rel} {ρ : List (Str × Rel)} (hb : look b ρ = none) (hab : a ≠ b) : ∀ x R', look x ((a, R) :: ρ) = some R' → look x ((a, R) :: (b, Y) :: (a, R0) :: ρ) = some R' := fun x R' e => by
  by_cases h : a = x
  · subst h; rw [look_cons_self] at e ⊢; exact e
  · rw [look_cons_ne _ _ h] at e
    have hbx : b ≠ x := fun q => by subst q; rw [hb] at e; cases e
    rw [look_cons_ne _ _ h, look_cons_ne _ _ hbx, look_cons_ne _ _ h]; exact e
end
end Mine
end
section
open PySem PySem.W PyProof.Rows
set_option maxRecDepth 100000
set_option linter.unusedVariables false
namespace Mine
/-! expressions run where tokens up to n have been drawn -/
section
variable {prog : Program} {w : World} {K : View} {F : Fr} {c c' : Cfg} {X : Ctx}
noncomputable def RSt (x : Str) (n : Nat) : Rel := ⟨fun _ v => ∃ t, v = .str x t ∧ n ≤ t, fun _ h => h⟩
noncomputable def EvN (prog : Program) (w : World) (X : Ctx) (n : Nat) (e : Expr) (R : Rel) : Prop := ∀ g s, X.ok g s → n ≤ s.toks → wpAny (model prog w) X.A (eval e X.env) (Ends g s R.r) NoE s
noncomputable def EvsN (prog : Program) (w : World) (X : Ctx) (n : Nat) (pos : Pos) (es : List Expr) (Rs : List Rel) : Prop := ∀ g s, X.ok g s → n ≤ s.toks → wpAny (model prog w) X.A (spliced (backTo pos (starEach es X.env))) (Ends g s fun g vs => All2 g Rs vs) NoE s
theorem EvN.str {n : Nat} (x : Str) (k : Nat) (pos : Pos) : EvN prog w X n (.Constant (.str x) k pos) (RSt x n) := fun g s ok ht => Calls.Constant_str (ends_toks (X.sees ok) _ ⟨_, rfl, ht⟩)
theorem EvsN.nil {n : Nat} {pos : Pos} : EvsN prog w X n pos [] [] := fun g s ok _ => args_nil (ends_here (X.sees ok) trivial)
theorem EvsN.cons {n : Nat} {pos : Pos} {e : Expr} {es : List Expr} {R : Rel} {Rs : List Rel} (h : EvN prog w X n e R) (hs : EvsN prog w X n pos es Rs) (he : starEach (e :: es) X.env = (false, eval e X.env) :: starEach es X.env := by rfl) :
    EvsN prog w X n pos (e :: es) (R :: Rs) := fun g s ok ht => args_cons (wp_of (wp_toks1 (h g s ok ht)) fun v s' ⟨t1, g', st, hv⟩ => wp_of (hs g' s' (X.up ok st) (Nat.le_trans ht t1)) fun vs s'' ⟨g'', st', hvs⟩ =>
      ⟨g'', st.trans st', R.up st'.ext hv, hvs⟩) he
theorem EvN.tuple {n : Nat} {es : List Expr} {k : Nat} {pos : Pos} {Rs : List Rel} (h : EvsN prog w X n pos es Rs) (hn : Rs.length ≤ 16777216 := by exact Nat.le_of_ble_eq_true rfl) : EvN prog w X n (.Tuple es k pos) (RT Rs) :=
  fun g s ok ht => Tuple_ (wp_of (h g s ok ht) fun vs s' ⟨g', st, hv⟩ => wp_of ((newTuple_tr (small_line hn) vs).run g' s' (X.up ok st) hv) fun _ _ => ends_step st)
theorem EvN.itemT {n : Nat} {value slice : Expr} {pos : Pos} {Rs : List Rel} {k : Int} {R : Rel} (hv : EvN prog w (F.ctx K c) n value (RT Rs)) (hi : Ev prog w (F.ctx K c) slice (RI k)) (h0 : 0 ≤ k) (hfit : k < 2 ^ 63) (hR : Rs[k.toNat]? = some R)
    (hs : ∀ o i, subscripted slice false o i = operate [o, i] (getItem o i) := by intro _ _; with_unfolding_all rfl) : EvN prog w (F.ctx K c) n (.Subscript value slice pos) R := fun g s ok ht => by
  refine Subscript_ (wp_of (hv g s ok ht) fun o s₁ ⟨g₁, st₁, a, vs, e, hl, ha⟩ => wp_of (hi.run g₁ s₁ (Ctx.up _ ok st₁) trivial) fun i s₂ hpat => ?_)
  obtain ⟨g₂, st₂, t, e'⟩ := hpat
  subst e e'
  have hl' := hl.isTup (fun b o e => st₂.sees b o (st₂.ext b o e))
  obtain ⟨x, hx, hr⟩ := ha.get hR
  have hlt : k.toNat < vs.length := (List.getElem?_eq_some_iff.mp hx).1
  have hj : seqIndex? k vs.toArray.size = some k.toNat := seqIndex_pos h0 (by simpa using hlt)
  refine subT hl'.typeIs slot_tuple_getitem.lookup (PyProof.Rows.getItem_tuple hl' (by lia) hfit hj (by simpa using hx) ?_) (hs _ _)
  exact ⟨g₂, st₁.trans st₂, R.up st₂.ext hr⟩
theorem EvN.conv {n : Nat} {e : Expr} {R R' : Rel} (h : EvN prog w X n e R) (k : Le R R') : EvN prog w X n e R' := fun g s ok ht => wp_of (h g s ok ht) fun v s' ⟨g', st, hr⟩ => ⟨g', st, k _ _ hr⟩
/-- o.replace('..', e) -/
theorem ev_replace {o e : Expr} {apos pos : Pos} {x y z : Str} {k1 : Nat} {p1 : Pos} (ho : Ev prog w (F.ctx K c) o (RS x)) (hy : ∀ n, EvN prog w (F.ctx K c) n e (RSt z n)) (hb : x.length + (x.length + 1) * z.length ≤ 16777216) (hnb : ∀ h, Sees K h → NoneBooked h)
    (hbase : attributeBase o "replace" F.env (eval o F.env) = eval o F.env := by rfl)
    (hfew : ((backTo pos (starEach [.Constant (.str y) k1 p1, e] F.env)).all (fun x => !x.1) && (backToKw pos (keywordEach [] F.env)).all (fun x => x.1.isSome)
      && decide (([.Constant (.str y) k1 p1, e] : List Expr).length + ([] : List Keyword).length + (if ([] : List Keyword).isEmpty then 0 else 1) < 30)) = true := by rfl)
    (hline : (apos.endLine == pos.line) = true := by rfl) (hs : starEach [.Constant (.str y) k1 p1, e] F.env = (false, eval (.Constant (.str y) k1 p1) F.env) :: starEach [e] F.env := by rfl) (hs2 : starEach [e] F.env = (false, eval e F.env) :: starEach [] F.env := by rfl)
    (hp : (backTo pos (starEach [e] F.env)).any (·.1) = false := by rfl) :
    EvN prog w (F.ctx K c) 1 (.Call (.Attribute o "replace" apos) [.Constant (.str y) k1 p1, e] [] pos) (RS (Txt.replace x y z)) := fun g s ok ht => by
  have ok : Fm K F c g s := ok
  refine wpAny_Call_method hbase hfew hline PySem.F.plainAttrs_str PySem.F.slot_str_replace PySem.F.type_str_replace (wp_of (wp_toks1 (ho.run g s ok trivial)) fun ov s₁ hpat => ?_)
  obtain ⟨t1, g₁, st₁, t, q⟩ := hpat
  subst q
  have ok₁ : Fm K F c g₁ s₁ := Fm.up ok st₁
  refine (And.intro (typeIs_str s₁ x t) (And.intro (fun a (h : Value.str x t = Value.ref a) => nomatch h) ?_))
  have h1 : 1 ≤ s₁.toks := Nat.le_trans ht t1
  have hargs : wpAny (model prog w) F.A (spliced (backTo pos (starEach [.Constant (.str y) k1 p1, e] F.env))) (fun vs s₂ => ∃ u v g₂, vs = [.str y u, .str z v] ∧ u ≠ 0 ∧ v ≠ 0 ∧ u ≠ v ∧ Step g₁ s₁ g₂ s₂) NoE s₁ := by
    refine args_cons (Calls.Constant_str ?_) hs
    have stc := Step.toks ok₁.sees (s₁.toks + 1)
    refine args_cons (wp_of (hy (s₁.toks + 1) g₁ _ (ok₁.up stc) (Nat.le_refl _)) fun b s₂ ⟨g₂, st₂, v, q, hv⟩ => args_nil ?_) hs2
    subst q
    exact ⟨s₁.toks, v, g₂, rfl, Nat.ne_of_gt h1, Nat.ne_of_gt (Nat.lt_of_lt_of_le (Nat.succ_pos _) hv), Nat.ne_of_lt hv, stc.trans st₂⟩
  show wpAny (model prog w) F.A (callWith pos (.builtin "str.replace") [.str x t] (backTo pos (starEach [.Constant (.str y) k1 p1, e] F.env)) []) _ _ _
  rw [hs] at hargs ⊢
  refine Calls.callWith_builtin (by show (false || (backTo pos (starEach [e] F.env)).any (·.1)) = false; rw [hp]; rfl) (Calls.evalArgs_plain (wp_of hargs fun vs s₂ hpat => ?_))
  obtain ⟨u, v, g₂, q, n1, n2, n3, st₂⟩ := hpat
  subst q
  have ok₂ := ok₁.up st₂
  exact SC.replaceA n1 n2 n3 hb (fun t' k => ends_step (st₁.trans st₂) (ends_toks ok₂.sees _ ⟨_, rfl⟩)) (hnb _ ok₂.seesK)
end
end Mine
end
section
open PySem PySem.W PyProof.Rows
set_option maxRecDepth 100000
set_option linter.unusedVariables false
namespace Mine
section
variable {prog : Program} {w : World} {K : View} {F : Fr} {c c' : Cfg} {X : Ctx}
theorem s_assignT {x : Str} {p pos : Pos} {value : Expr} {R : Rel} (h : EvN prog w (F.ctx K c) 1 value R) (hx : F.Stores x)
    (hs : swapsWith value (some (.Name x p)) pos.line F.env = pure false := by rfl) : SoT prog w K F c (exec (.Assign [.Name x p] value pos) F.env) (Nx K F (c.set x R)) :=
  .mk fun g s ok ht => wpAny_Assign_Name (wp_of (h g s ok ht) fun v s' ⟨g', st, hv⟩ => wp_of (store_any (ok.up st) hx hv) fun _ _ z => ⟨rfl, _, z⟩) hs
theorem EvN.callf {m : Nat} {fn e : Expr} {pos : Pos} {f : Addr} {n : Nat} {R Z : Rel} {fd : FuncData} (hf : Ev prog w (F.ctx K c) fn (RV (.ref f))) (ho : FnK K f fd) (ha : EvN prog w (F.ctx K c) m e R) (hc : Ct prog w K f n [R] Z)
    (hn : n ≤ F.room) (he : eval (.Call fn [e] [] pos) F.env = (do callWith pos (← eval fn F.env) [] (backTo pos (starEach [e] F.env)) (backToKw pos (keywordEach [] F.env))) := by rfl)
    (hs : starEach [e] F.env = (false, eval e F.env) :: starEach [] F.env := by rfl) : EvN prog w (F.ctx K c) m (.Call fn [e] [] pos) Z := fun g s ok ht => by
  have ok : Fm K F c g s := ok
  obtain ⟨o, hK, hd, _⟩ := ho
  refine Call_ (wp_of (wp_toks1 (hf.run g s ok trivial)) fun v s₁ hpat => ?_) he
  obtain ⟨t1, g₁, st₁, q⟩ := hpat
  have q : v = .ref f := q
  subst q
  refine callWith_def (o := o) (fd := fd) hd ?_ hs
  refine args_cons (wp_of (ha g₁ s₁ (ok.up st₁) (Nat.le_trans ht t1)) fun u s₂ ⟨g₂, st₂, hu⟩ => args_nil ?_) hs
  have ok₂ := (ok.up st₁).up st₂
  exact ⟨ok₂.seesK _ _ hK, wp_of (hc.call ok₂ hn (vs := [u]) ⟨hu, trivial⟩) fun u s₃ => ends_step (st₁.trans st₂)⟩
end
end Mine
end
section
open PySem PySem.W PyProof.Rows
set_option maxRecDepth 100000
set_option linter.unusedVariables false
namespace Mine
section
variable {prog : Program} {w : World} {K : View} {F : Fr} {c c' : Cfg} {X : Ctx}
theorem EvN.upto {n : Nat} {value upper : Expr} {p pos : Pos} {Rs : List Rel} {b : Nat} (hv : EvN prog w (F.ctx K c) n value (RL Rs)) (hn : Rs.length ≤ 16777216) (hu : Ev prog w (F.ctx K c) upper (RI (b : Int))) (hb : b ≤ Rs.length) :
    EvN prog w (F.ctx K c) n (.Subscript value (.Slice Option.none (some upper) Option.none p) pos) (RL (Rs.take b)) := fun g s ok ht => by
  have ok : Fm K F c g s := ok
  refine Subscript_ (wp_of (hv g s ok ht) fun o s₁ ⟨g₁, st₁, a, vs, e, hl', ha⟩ => wpAny_Slice (wp_of (part_none.run g₁ s₁ (Fm.up ok st₁) trivial) fun vl s₂ ⟨g₂, st₂, pl⟩ => wp_of ((part_some hu).run g₂ s₂ (Fm.up (Fm.up ok st₁) st₂) trivial) fun vu s₃ hpat => ?_))
  obtain ⟨g₃, st₃, pu⟩ := hpat
  subst e
  rw [evalPart_none]
  refine wpAny_pure ?_
  have ok₃ := ((ok.up st₁).up st₂).up st₃
  have hl₃ : s₃.heap.IsList a vs.toArray := hl'.isList (fun b o e => st₃.sees b o (st₃.ext b o (st₂.ext b o e)))
  have st₄ := Step.heap' ok₃.sees (kp_push s₃.heap { cls := .type "slice", data := .fields #[vl, vu, .none] })
  have ok₄ := ok₃.up st₄
  have h := ha.up (st₂.ext.trans st₃.ext)
  have e : slicePick vs.toArray Option.none (some (b : Int)) Option.none = (vs.take b).toArray := by
    have := slicePick_upto vs.toArray b (by rw [List.size_toArray, h.length]; exact hb)
    simpa using this
  refine subT (hl₃.push _).typeIs slot_list_getitem.lookup (wpAny_getItem_list_slice (hl₃.push _) (Heap.IsSliceOf.new ..) pl pu .none (by simp) ?_ (by rw [List.size_toArray, ha.length]; exact small_line hn)) (L := [.ref s₃.heap.objs.size, .ref a]) rfl
  rw [e]
  exact ends_step (((st₁.trans st₂).trans st₃).trans st₄) (push_list ok₄.sees (h.take b))
end
end Mine
end
section
open PySem PySem.W PyProof.Rows
set_option maxRecDepth 100000
set_option linter.unusedVariables false
namespace Mine
section
variable {prog : Program} {w : World} {K : View} {F : Fr} {c c' : Cfg}
/-- a loop that hands nothing back -/
theorem s_forN {items : List Item} {iter target : Expr} {body : List Stmt} {pos : Pos} (inv mid : Nat → Cfg) (hi : EvIter prog w (F.ctx K c) iter target items) (h0 : Sub c.ρ (inv 0).ρ) (hp : (inv 0).pv = c.pv)
    (hb : ∀ G H i j, items[i]? = some j → AsI prog w K (F.inner G H) (inv i) target j (mid i) ∧ So prog w K (F.inner G H) (mid i) (execs body F.env) (Nx K (F.inner G H) (inv (i + 1))))
    (hf : ∀ x, foldedSetIterable iter F.env x = pure x := by intro _; rfl) : So prog w K F c (exec (.For target iter body [] pos) F.env) (Nx K F (inv items.length)) :=
  So.mono (s_forR (R := ⟨fun _ _ => False, fun _ h => h⟩) inv mid hi h0 hp (fun G H i j hj => ⟨(hb G H i j hj).1, (hb G H i j hj).2.mono fun f s h => .inl h⟩) hf) fun f s h => by
    rcases h with h | ⟨_, _, _, _, h⟩
    · exact h
    · exact h.elim
theorem range_len : ∀ n : Nat, n ≤ 6 → (rangeItems 0 (n : Int) 1).length = n := by
  intro n hn
  match n, hn with
  | 0, _ => rfl
  | 1, _ => rfl
  | 2, _ => rfl
  | 3, _ => rfl
  | 4, _ => rfl
  | 5, _ => rfl
  | 6, _ => rfl
theorem range_small : ∀ n : Nat, n ≤ 6 → Builtin.Range.small 0 (n : Int) 1 = true := by
  intro n hn
  match n, hn with
  | 0, _ => rfl
  | 1, _ => rfl
  | 2, _ => rfl
  | 3, _ => rfl
  | 4, _ => rfl
  | 5, _ => rfl
  | 6, _ => rfl
end
noncomputable def maxL : List Int → Int
  | [] => 0
  | [a] => a
  | a :: l => if maxL l < a then a else maxL l
theorem maxL_ok : ∀ {l : List Int}, l ≠ [] → maxL l ∈ l ∧ ∀ a ∈ l, a ≤ maxL l
  | [], h => (h rfl).elim
  | [a], _ => ⟨List.mem_singleton.mpr rfl, fun b hb => by rw [List.mem_singleton.mp hb]; exact Int.le_refl _⟩
  | a :: b :: l, _ => by
    obtain ⟨h1, h2⟩ := maxL_ok (l := b :: l) (by intro h; cases h)
    show (if maxL (b :: l) < a then a else maxL (b :: l)) ∈ _ ∧ ∀ x ∈ _, x ≤ (if maxL (b :: l) < a then a else maxL (b :: l))
    split
    · refine ⟨List.mem_cons_self, fun x hx => ?_⟩
      rcases List.mem_cons.mp hx with rfl | hx
      · exact Int.le_refl _
      · have := h2 x hx; lia
    · refine ⟨List.mem_cons_of_mem _ h1, fun x hx => ?_⟩
      rcases List.mem_cons.mp hx with rfl | hx
      · simp_all
      · exact h2 x hx
end Mine
end
section
open PySem PySem.W PyProof.Rows
set_option maxRecDepth 100000
set_option linter.unusedVariables false
namespace Mine
/-! sorted texts -/
theorem rising_le : ∀ {l : List Str} {p : Str}, risingS p l = true → ∀ x ∈ l, p.cps.toList ≤ x.cps.toList
  | [], p, _, x, hx => by cases hx
  | y :: l, p, h, x, hx => by
    have h : (!PySem.Spec.ltCps y.cps.toList p.cps.toList && risingS y l) = true := h
    rw [Bool.and_eq_true] at h
    obtain ⟨h1, h2⟩ := h
    have h1 : p.cps.toList ≤ y.cps.toList := by
      rw [ltCps_eq] at h1
      exact List.not_lt.mp (by simpa using h1)
    rcases List.mem_cons.mp hx with rfl | hx
    · exact h1
    · exact List.le_trans h1 (rising_le h2 x hx)
theorem rising_tail {l : List Str} {p : Str} (h : risingS p l = true) : sortedS l = true := by
  cases l with
  | nil => rfl
  | cons y l =>
    have h : (!PySem.Spec.ltCps y.cps.toList p.cps.toList && risingS y l) = true := h
    rw [Bool.and_eq_true] at h
    exact h.2
theorem sorted_pw : ∀ {l : List Str}, sortedS l = true → l.Pairwise fun a b => a.cps.toList ≤ b.cps.toList
  | [], _ => List.Pairwise.nil
  | p :: l, h => List.pairwise_cons.mpr ⟨rising_le h, sorted_pw (rising_tail h)⟩
theorem str_ext {a b : Str} (h : a.cps.toList = b.cps.toList) : a = b := by
  obtain ⟨a⟩ := a; obtain ⟨b⟩ := b
  have : a = b := Array.toList_inj.mp h
  rw [this]
theorem sorted_unique {l m : List Str} (h1 : sortedS l = true) (h2 : sortedS m = true) (p : l.Perm m) : l = m :=
  List.Perm.eq_of_pairwise (fun a b _ _ x y => str_ext (List.le_antisymm x y)) (sorted_pw h1) (sorted_pw h2) p
/-- a list of these texts, sorted -/
noncomputable def RSrt (ss : List Str) : Rel := ⟨fun g v => ∃ ss', ss'.Perm ss ∧ sortedS ss' = true ∧ (RL (ss'.map RS)).r g v, fun k hpat => by obtain ⟨s, a, b, h⟩ := hpat; exact ⟨s, a, b, (RL _).up k h⟩⟩
section
variable {prog : Program} {w : World} {K : View} {F : Fr} {c : Cfg} {g : View} {s : Shared}
theorem strsOf2 {g : View} : ∀ {ss : List Str} {vs : List Value}, All2 g (ss.map RS) vs → StrsAre vs ss
  | [], [], _ => .nil
  | x :: ss, v :: vs, h => by
    obtain ⟨⟨t, e⟩, h⟩ := h
    subst e
    exact .cons x t (strsOf2 h)
  | [], _ :: _, h => h.elim
  | _ :: _, [], h => h.elim
theorem ofStrs2 {g : View} : ∀ {ss : List Str} {vs : List Value}, StrsAre vs ss → All2 g (ss.map RS) vs
  | _, _, .nil => trivial
  | _, _, .cons x t h => ⟨⟨t, rfl⟩, ofStrs2 h⟩
theorem push_kept {g : View} {s : Shared} (hs : Sees g s.heap) {h' : Heap} {t : Nat} {a : Addr} {vs : List Value} {n : Nat} {R : Rel} {ss : List Str} (k : Kp s.heap h') (hn : s.heap.get? a = Option.none) (ho : h'.get? a = some (seqObj "list" vs.toArray n)) (h1 : StrsAre vs ss) :
    Ends g s (RL (ss.map RS)).r (.ref a) { s with heap := h', toks := t } := by
  have st := Step.push (t := t) hs k hn ho
  exact ⟨_, st, _, vs, rfl, ⟨n, View.add_self _ _ _⟩, ofStrs2 h1⟩
theorem bf_sorted_strs (ss : List Str) (h64 : ss.length < 64) : Bf prog w (F.ctx K c) (.builtin "sorted") [RL (ss.map RS)] (RSrt ss) := fun vs => .mk fun g s ok h => by
  have ok : Fm K F c g s := ok
  obtain ⟨v, ev, a, xs, e, hl, hx⟩ := one_of h
  subst ev; subst e
  have hS := strsOf2 hx
  refine sorted_strs (hl.isList ok.sees) hS (by rw [hx.length, List.length_map]; exact h64) fun out ss' h1 h2 h3 => ?_
  obtain ⟨e, he⟩ := sortedAll_at s.heap xs out
  have hk : Kp s.heap (sortedAll s.heap xs out) := fun b o q => sortedAll_old q
  have hn : s.heap.get? (s.heap.objs.size + 1) = Option.none := by
    cases q : s.heap.get? (s.heap.objs.size + 1) with
    | none => rfl
    | some o => exact absurd (Heap.lt_size q) (Nat.not_lt.mpr (Nat.le_succ _))
  obtain ⟨g', st, hr⟩ := push_kept (R := RN) (t := s.toks) (vs := out.toList) ok.sees hk hn (by rw [Array.toArray_toList]; exact he) h1
  exact ⟨g', st, ss', h2, h3, hr⟩
theorem bf_sorted_dict {kvs : List (Str × Rel)} (h64 : kvs.length < 64) : Bf prog w (F.ctx K c) (.builtin "sorted") [RD (PySem.strKind prog w) kvs] (RSrt (kvs.map (·.1))) := fun vs => .mk fun g s ok h => by
  have ok : Fm K F c g s := ok
  obtain ⟨v, ev, d, o, xs, e, n, hg, hi, hh⟩ := one_of h
  subst ev; subst e
  have hd : s.heap.DictOf (PySem.strKind prog w) d xs := Heap.dictOf_iff.mpr ⟨o, ok.sees _ _ hg, hi⟩
  obtain ⟨ep, hat⟩ := hd.dictAt
  refine Calls.call_function_entry kind_sorted plain_sorted entry_sorted (args_sorted1 _) ?_
  unfold Builtin.«sorted»
  refine wpAny_bind (m := checkCount "sorted" 1 1 _) (wpAny_pure ?_)
  refine wpAny_bind (kdu_collect (A := F.A.in1) (kdl_dict (knd := PySem.strKind prog w) (kvs := xs) (ep := ep) n) ok.fok.handled hat (by rw [hh.len]; exact small_line (by lia)) fun h' tk acc hk hacc => ?_)
  have hsz : acc.toList.length = kvs.length := by rw [Array.length_toList, hacc.1, hh.len]
  have hall : All2 g ((kvs.map (·.1)).map RS) acc.toList := all2_of (by rw [hsz, List.length_map, List.length_map]) fun j v R hv hR => by
    obtain ⟨k, x, hx, hkey⟩ := hacc.2 j v (by rw [← Array.getElem?_toList]; exact hv)
    obtain ⟨R', hR', _⟩ := hh.at hx
    rw [List.getElem?_map, List.getElem?_map, hR'] at hR
    have hR : R = RS k := (Option.some.inj hR).symm
    subst hR
    exact le_str k g v hkey
  have hS := strsOf2 hall
  refine wpAny_bind (wpAny_newList ?_ (by rw [hsz]; exact small_line (by lia)))
  have hoL : (h'.push (seqObj "list" acc.toList.toArray 0)).get? h'.objs.size = some (seqObj "list" acc.toList.toArray 0) := Heap.get?_push_size _ rfl
  refine wpAny_bind (wpAny_holding (wpAny_call_entry slot_list_sort ⟨_, hoL, rfl⟩ entry_list_sort (list_sort_treeK (s := { s with heap := h'.push (seqObj "list" acc.toList.toArray 0), toks := tk }) strKind_oneLt hoL hS.keysOf (fun v₁ v₂ rest e => keyKind_strs (by rw [← e]; exact hS)) (by rw [hsz]; exact h64) fun st' hp hs => ⟨_, rfl, ?_⟩) (args_list_sort _)))
  refine wpAny_pure ⟨_, rfl, ?_⟩
  obtain ⟨ss', h1, h2, h3⟩ := sorted_out_str hS hp hs
  obtain ⟨e, he⟩ := sortedHeap_at (vs := acc.toList) (out := (arrOf st').map (·.2)) hoL
  have kk : Kp s.heap (sortedHeap (h'.push (seqObj "list" acc.toList.toArray 0)) h'.objs.size acc.toList ((arrOf st').map (·.2))) := fun b o q => by
    have q' := hk b o q
    have hlt : b < h'.objs.size := Heap.lt_size q'
    rw [sortedHeap_old (Nat.ne_of_lt hlt) (by rw [size_push']; exact Nat.lt_succ_of_lt hlt)]
    exact Heap.get?_push_of_some _ q'
  have hn : s.heap.get? h'.objs.size = Option.none := by
    cases q : s.heap.get? h'.objs.size with
    | none => rfl
    | some o => exact absurd (Heap.lt_size (hk _ _ q)) (Nat.lt_irrefl _)
  obtain ⟨g', st, hr⟩ := push_kept (R := RN) (t := tk) (vs := ((arrOf st').map (·.2)).toList) ok.sees kk hn (by rw [Array.toArray_toList]; exact he) h1
  exact ⟨g', st, ss', h2, h3, hr⟩
end
end Mine
end
section
open PySem PySem.W PyProof.Rows
set_option maxRecDepth 100000
set_option linter.unusedVariables false
namespace Mine
/-! sorted by a key that is a pair of ints -/
/-- a sort's tree, run by a pure comparison -/
noncomputable def evalT {α : Type} (n : Nat) (lt : Nat → Nat → Bool) : KasT α → Option α
  | .ret a => some a
  | .ask i j k => if i < n ∧ j < n then evalT n lt (k (lt i j)) else none
theorem evalT_wp {α : Type} {n : Nat} {lt : Nat → Nat → Bool} {cmp : Nat → Nat → (Bool → Shared → Prop) → Shared → Prop} {G : α → Shared → Prop} {s : Shared} (hc : ∀ i j C, i < n → j < n → C (lt i j) s → cmp i j C s) :
    ∀ (t : KasT α) (a : α), evalT n lt t = some a → G a s → t.kasWp cmp G s
  | .ret b, a, h, hg => by
    have h : b = a := Option.some.inj h
    subst h; exact hg
  | .ask i j k, a, h, hg => by
    unfold evalT at h
    split at h
    · rename_i q
      exact hc i j _ q.1 q.2 (evalT_wp hc (k (lt i j)) a h hg)
    · cases h
noncomputable def lexlt (a b : Int × Int) : Bool := if a.1 = b.1 then (if a.2 = b.2 then false else decide (a.2 < b.2)) else decide (a.1 < b.1)
noncomputable def RKp (k : Int × Int) : Rel := RT [RI k.1, RI k.2]
section
variable {prog : Program} {w : World} {A : Around} {E : Value → Shared → Prop} {s : Shared} {g : View}
theorem ask_pair {keys : List (Int × Int)} {ks : List Value} (hs : Sees g s.heap) (ha : All2 g (keys.map RKp) ks) {i j : Nat} (hi : i < keys.length) (hj : j < keys.length) {C : Bool → Shared → Prop} (hc : C (lexlt (keys.getD i (0, 0)) (keys.getD j (0, 0))) s) :
    kas_ask prog w A (tuples' true) ks i j C s := by
  have get : ∀ {i : Nat}, i < keys.length → ∃ a n t u, ks.getD i Value.none = .ref a ∧ s.heap.get? a = some (seqObj "tuple" #[.int (keys.getD i (0, 0)).1 t, .int (keys.getD i (0, 0)).2 u] n) := fun {i} hi => by
    have e : (keys.map RKp)[i]? = some (RKp (keys.getD i (0, 0))) := by
      rw [List.getElem?_map, List.getD_eq_getElem?_getD, List.getElem?_eq_getElem hi]; rfl
    obtain ⟨v, hv, a, vs, rfl, ⟨n, hl⟩, hr⟩ := ha.get e
    obtain ⟨x, y, rfl, ⟨t, rfl⟩, ⟨u, rfl⟩⟩ := two_of hr
    exact ⟨a, n, t, u, by rw [List.getD_eq_getElem?_getD, hv]; rfl, hs _ _ hl⟩
  obtain ⟨a, n, t, u, e1, h1⟩ := get hi
  obtain ⟨b, m, t', u', e2, h2⟩ := get hj
  unfold kas_ask
  rw [e1, e2]
  generalize keys.getD i (0, 0) = x at *
  generalize keys.getD j (0, 0) = y at *
  refine kat_lt h1 rfl h2 rfl ?_
  show KatLex prog w A true _ C [(.int x.1 t, .int y.1 t'), (.int x.2 u, .int y.2 u')] 0 s
  refine kat_cons (wpAny_eqBool_int ?_)
  unfold lexlt at hc
  by_cases q : x.1 = y.1
  · rw [if_pos q] at hc
    have e : (x.1 == y.1) = true := beq_iff_eq.mpr q
    rw [e]
    refine kat_yes (kat_cons (wpAny_eqBool_int ?_))
    by_cases q' : x.2 = y.2
    · rw [if_pos q'] at hc
      have e : (x.2 == y.2) = true := beq_iff_eq.mpr q'
      rw [e]
      exact kat_yes (kat_nil hc)
    · rw [if_neg q'] at hc
      have e : (x.2 == y.2) = false := beq_eq_false_iff_ne.mpr q'
      rw [e]
      exact kat_no (kat_one _ _ (P.lt_int hc))
  · rw [if_neg q] at hc
    have e : (x.1 == y.1) = false := beq_eq_false_iff_ne.mpr q
    rw [e]
    exact kat_no (oneLt_int hc)
theorem katTups_of {h : Heap} (hs : Sees g h) : ∀ {keys : List (Int × Int)} {ks : List Value}, All2 g (keys.map RKp) ks → ∃ fs, KatTups h ks fs ∧ fs.length = ks.length ∧ ∀ v ∈ fs, ∃ i t, v = Value.int i t
  | [], [], _ => ⟨[], KatTups.nil, rfl, fun v hv => by cases hv⟩
  | k :: keys, v :: ks, ha => by
    obtain ⟨⟨a, vs, rfl, ⟨n, hl⟩, hr⟩, ha⟩ := ha
    obtain ⟨x, y, rfl, ⟨t, rfl⟩, ⟨u, rfl⟩⟩ := two_of hr
    obtain ⟨fs, h1, h2, h3⟩ := katTups_of hs ha
    refine ⟨.int k.1 t :: fs, KatTups.cons (hs _ _ hl) rfl rfl rfl h1, by simp [h2], fun v hv => ?_⟩
    rcases List.mem_cons.mp hv with rfl | hv
    · exact ⟨_, _, rfl⟩
    · exact h3 v hv
  | [], _ :: _, ha => ha.elim
  | _ :: _, [], ha => ha.elim
theorem kind_pairs {keys : List (Int × Int)} {ks : List Value} {Q : SortKind → Shared → Prop} (hs : Sees g s.heap) (ha : All2 g (keys.map RKp) ks) (hne : 0 < ks.length) (h : Q (tuples' true) s) : wpAny (model prog w) A (keyKind' (List.toArray ks)) Q E s := by
  obtain ⟨fs, h1, h2, h3⟩ := katTups_of hs ha
  refine kat_kind (T := Value.type "int") h1 (by simp_all) (fun v hv => ?_) rfl h
  obtain ⟨i, t, rfl⟩ := h3 v hv
  exact Looks.of_pure rfl
theorem forIn_inv {M : Model} {A : Around} {E : Value → Shared → Prop} (xs : List Value) (I : Nat → Shared → Prop) {body : Value → PUnit → Sem (ForInStep PUnit)}
    (hb : ∀ i x s, xs[i]? = some x → I i s → wpAny M A (body x ⟨⟩) (fun r s' => r = .yield ⟨⟩ ∧ I (i + 1) s') E s) : ∀ (r : List Value) (k : Nat), xs.drop k = r → k ≤ xs.length → ∀ s, I k s → wpAny M A (forIn r PUnit.unit body) (fun _ s' => I xs.length s') E s
  | [], k, e, hk, s, h => by
    rw [List.forIn_nil]
    have : k = xs.length := by have := congrArg List.length e; rw [List.length_drop, List.length_nil] at this; grind
    subst this
    exact wpAny_pure h
  | x :: r, k, e, hk, s, h => by
    have hx : xs[k]? = some x := by have := congrArg (·[0]?) e; rw [List.getElem?_drop] at this; simpa using this
    have hlt : k < xs.length := (List.getElem?_eq_some_iff.mp hx).1
    have e' : xs.drop (k + 1) = r := by rw [← List.drop_drop, e]; rfl
    rw [List.forIn_cons]
    refine wpAny_bind (wpAny_mono (hb k x s hx h) (fun q s' hq => ?_) fun _ _ x => x)
    obtain ⟨rfl, h2⟩ := hq
    exact forIn_inv xs I hb r (k + 1) e' hlt s' h2
end
end Mine
end
section
open PySem PySem.W PyProof.Rows
set_option maxRecDepth 100000
set_option linter.unusedVariables false
set_option maxHeartbeats 1000000
namespace Mine
section
variable {α : Type} {prog : Program} {w : World} {A : Around} {E : Value → Shared → Prop} {s s₀ : Shared} {g : View}
/-- the function gives each item's key -/
noncomputable def KeyCt (prog : Program) (w : World) (A : Around) (f : Addr) (g : View) (s : Shared) (Rf : α → Rel) (key : α → Int × Int) (ps : List α) : Prop :=
  ∀ g' s' v p, p ∈ ps → Step g s g' s' → (Rf p).r g' v → wpAny (model prog w) A (call (.ref f) [v]) (Ends g' s' (RKp (key p)).r) NoE s'
/-- the state within the sort -/
structure InSort (g : View) (s₀ : Shared) (Rs : List Rel) (a kS e1 : Nat) (ks : List Value) (e : Nat) (g' : View) (s : Shared) : Prop where
  st : Step g s₀ g' s
  ha : s.heap.get? a = some (seqObj "list" #[] e1)
  hk : s.heap.get? kS = some (seqObj "list" (List.toArray ks) e)
  ga : g' a = none
  gk : g' kS = none
  all : All2 g' Rs ks
theorem Step.own {g g' : View} {s₀ s : Shared} (st : Step g s₀ g' s) {b : Addr} (hb0 : s₀.heap.get? b = none) (gb : g' b = none) {h' : Heap} (hs : Heap.SameBut b s.heap h') : Step g s₀ g' { s with heap := h' } where
  same := by obtain ⟨h, tk, rfl⟩ := st.same; exact ⟨h', tk, rfl⟩
  keep := fun c o e => hs.extBut c o (fun q => by subst q; rw [hb0] at e; cases e) (st.keep c o e)
  ext := st.ext
  new := st.new
  sees := fun c o e => hs.extBut c o (fun q => by subst q; rw [gb] at e; cases e) (st.sees c o e)
theorem Step.freeze {g g' : View} {s₀ s : Shared} (st : Step g s₀ g' s) {b : Addr} {o : Obj} (hb0 : s₀.heap.get? b = none) (gb : g' b = none) (hb : s.heap.get? b = some o) : Step g s₀ (g'.add b o) s where
  same := st.same
  keep := st.keep
  ext := st.ext.trans (View.le_add gb)
  new := fun c x e => by
    unfold View.add at e
    split at e
    · rename_i q; subst q; exact .inr hb0
    · exact st.new c x e
  sees := fun c x e => by
    unfold View.add at e
    split at e
    · rename_i q; subst q; cases e; exact hb
    · exact st.sees c x e
theorem key_end {keys : List (Int × Int)} {vs ks : List Value} {a kS e e1 : Nat} {g' : View} {perm : Array Nat} {P : PySem.Fin → Shared → Prop} (I : InSort g s₀ (keys.map RKp) a kS e1 ks e g' s) (hl : keys.length = vs.length) (h2 : 2 ≤ vs.length) (h64 : vs.length < 64) (hne : kS ≠ a)
    (ha0 : s₀.heap.get? a = none) (hk0 : s₀.heap.get? kS = none)
    (hperm : evalT vs.length (fun i j => lexlt (keys.getD i (0, 0)) (keys.getD j (0, 0))) (kas_sort vs.length) = some perm) (hsize : perm.size = vs.length)
    (h : ∀ s' n, Step g s₀ g' s' → s'.heap.get? a = some (seqObj "list" (List.toArray (perm.toList.map fun i => vs.getD i Value.none)) n) → P (.done (.ret .none)) s') :
    wpAny (model prog w) A (ksk_end a false vs.toArray e1 (.ref kS) (List.toArray ks)) P E s := by
  have hkl : ks.length = vs.length := by rw [I.all.length, List.length_map, hl]
  have hn2 : ¬ vs.toArray.size < 2 := by rw [List.size_toArray]; simp_all
  unfold ksk_end
  simp only [Bool.false_eq_true, if_false]
  rw [if_neg hn2, if_neg hn2]
  have tree : (kas_sort vs.length).kasWp (kas_ask prog w A (tuples' true) ks) (fun p s' => p = perm ∧ s' = s) s :=
    evalT_wp (lt := fun i j => lexlt (keys.getD i (0, 0)) (keys.getD j (0, 0))) (fun i j C hi hj hc => ask_pair I.st.sees I.all (by simp_all) (by simp_all) hc) _ _ hperm ⟨rfl, rfl⟩
  refine wpAny_bind (kind_pairs I.st.sees I.all (by lia) ?_)
  refine wpAny_bind (wpAny_mono (kat_run (Q := fun st' s' => arrOf st' = perm.map (kas_item ((List.toArray ks).zip vs.toArray)) ∧ failedOf st' = none ∧ s' = s) hkl h2 h64 (fun p' st' s' a1 a2 a3 a4 => ⟨by rw [← a4.1]; exact a2, a3, a4.2⟩) tree) ?_ fun _ _ x => x)
  rintro ⟨⟨⟩, st'⟩ s' ⟨har, hf, rfl⟩
  dsimp only
  have hout := kat_snds hkl har
  have hsz : (List.toArray (perm.toList.map fun i => vs.getD i Value.none)).size = vs.length := by rw [List.size_toArray, List.length_map, Array.length_toList, hsize]
  unfold ksk_tail
  dsimp only
  rw [hout]
  simp only [Bool.false_eq_true, if_false]
  have s1 := Heap.SameBut.update s'.heap kS (Obj.mapSeq fun _ => (#[] : Array Value))
  have ha1 : (s'.heap.update kS (Obj.mapSeq fun _ => (#[] : Array Value))).get? a = some (seqObj "list" #[] e1) := s1.extBut _ _ hne.symm I.ha
  refine wpAny_bind (listUpdate_at I.hk rfl ?_ (by rw [List.size_toArray, sizeLine_eq]; lia) (Nat.zero_le _))
  refine wpAny_bind (wpAny_letGo ?_)
  refine wpAny_bind (seqEpoch_at ha1 rfl ?_)
  refine wpAny_bind (listUpdate_at ha1 rfl ?_ (Nat.zero_le _) (Nat.le_trans (Nat.le_of_eq hsz) (by rw [sizeLine_eq]; lia)))
  rw [hf]
  simp only [bne_self_eq_false, Bool.false_eq_true, if_false]
  have st1 := I.st.own hk0 I.gk s1
  have s2 := Heap.SameBut.update (s'.heap.update kS (Obj.mapSeq fun _ => (#[] : Array Value))) a (Obj.mapSeq fun _ => List.toArray (perm.toList.map fun i => vs.getD i Value.none))
  have st2 := st1.own ha0 I.ga s2
  exact wpAny_pure (h _ _ st2 (get?_update_seq ha1 fun _ => List.toArray (perm.toList.map fun i => vs.getD i Value.none)))
theorem list_sort_key {Rf : α → Rel} {key : α → Int × Int} {ps : List α} {xs : List Value} {a f : Addr} {n : Nat} {d : α} {perm : Array Nat} {P : PySem.Fin → Shared → Prop} (hs0 : Sees g s₀.heap) (st : Step g s₀ g s) (ho : s.heap.get? a = some (seqObj "list" xs.toArray n)) (ha0 : s₀.heap.get? a = none)
    (hx : All2 g (ps.map Rf) xs) (h2 : 2 ≤ ps.length) (h64 : ps.length < 64) (hkey : KeyCt prog w A f g s₀ Rf key ps) (hperm : evalT ps.length (fun i j => lexlt ((ps.map key).getD i (0, 0)) ((ps.map key).getD j (0, 0))) (kas_sort ps.length) = some perm)
    (hin : ∀ i ∈ perm.toList, i < ps.length) (hsize : perm.size = ps.length)
    (h : ∀ g' s', Step g s₀ g' s' → (RL (perm.toList.map fun i => Rf (ps.getD i d))).r g' (.ref a) → P (.done (.ret .none)) s') : wpAny (model prog w) A (ksk_tree a (.ref f) false) P E s := by
  have hlen : xs.length = ps.length := by rw [hx.length, List.length_map]
  have ga : g a = none := none_of_sees hs0 ha0
  have s1 := Heap.SameBut.update s.heap a (Obj.mapSeq fun _ => (#[] : Array Value))
  obtain ⟨e1, ho1⟩ : ∃ e1, (s.heap.update a (Obj.mapSeq fun _ => (#[] : Array Value))).get? a = some (seqObj "list" #[] e1) := ⟨_, get?_update_seq ho fun _ => #[]⟩
  have st1 := st.own ha0 ga s1
  have st2 := st1.trans (Step.heap' st1.sees (kp_push _ (seqObj "tuple" xs.toArray 0)))
  have st3 := st2.trans (Step.heap' st2.sees (kp_push _ (seqObj "list" #[] 0)))
  have kS0 : s₀.heap.get? ((s.heap.update a (Obj.mapSeq fun _ => (#[] : Array Value))).push (seqObj "tuple" xs.toArray 0)).objs.size = none := by
    cases q : s₀.heap.get? ((s.heap.update a (Obj.mapSeq fun _ => (#[] : Array Value))).push (seqObj "tuple" xs.toArray 0)).objs.size with
    | none => rfl
    | some o => exact absurd (Heap.lt_size (st2.keep _ _ q)) (Nat.lt_irrefl _)
  have gk := none_of_sees hs0 kS0
  have hne : ((s.heap.update a (Obj.mapSeq fun _ => (#[] : Array Value))).push (seqObj "tuple" xs.toArray 0)).objs.size ≠ a := by
    have := Heap.lt_size (Heap.get?_push_of_some (seqObj "tuple" xs.toArray 0) ho1)
    exact Nat.ne_of_gt this
  unfold ksk_tree
  refine wpAny_bind (listItems_at ho rfl ?_)
  refine wpAny_bind (listUpdate_at ho rfl ?_ (by rw [List.size_toArray, sizeLine_eq]; lia) (Nat.zero_le _))
  refine wpAny_bind (seqEpoch_at ho1 rfl ?_)
  refine wpAny_bind (wpAny_newTuple ?_ (by show xs.length ≤ _; rw [sizeLine_eq]; omega))
  refine wpAny_bind (wpAny_newList ?_ (Nat.zero_le _))
  refine wpAny_holding ?_
  have start : InSort g s₀ ((((ps.map key).take 0)).map RKp) a ((s.heap.update a (Obj.mapSeq fun _ => (#[] : Array Value))).push (seqObj "tuple" xs.toArray 0)).objs.size e1 [] 0 g { s with heap := ((s.heap.update a (Obj.mapSeq fun _ => (#[] : Array Value))).push (seqObj "tuple" xs.toArray 0)).push (seqObj "list" #[] 0) } :=
    ⟨st3, Heap.get?_push_of_some _ (Heap.get?_push_of_some _ ho1), Heap.get?_push_size _ rfl, ga, gk, trivial⟩
  generalize ((s.heap.update a (Obj.mapSeq fun _ => (#[] : Array Value))).push (seqObj "tuple" xs.toArray 0)).objs.size = kS at *
  show wpAny (model prog w) A (ksk_rest a (.ref f) false xs.toArray e1 (.ref kS)) P E { s with heap := ((s.heap.update a (Obj.mapSeq fun _ => (#[] : Array Value))).push (seqObj "tuple" xs.toArray 0)).push (seqObj "list" #[] 0) }
  unfold ksk_rest
  refine wpAny_bind (wpAny_rule ?_)
  rw [List.forIn_toArray]
  refine wpAny_bind (wpAny_mono (forIn_inv xs (fun i s' => ∃ ks e g', InSort g s₀ (((ps.map key).take i).map RKp) a kS e1 ks e g' s') ?_ xs 0 rfl (Nat.zero_le _) _ ⟨[], 0, g, start⟩) ?_ fun _ _ x => x)
  · rintro i x s' hxi ⟨ks, e, g', I⟩
    have hi : i < ps.length := by rw [← hlen]; exact (List.getElem?_eq_some_iff.mp hxi).1
    have hp : (ps.map Rf)[i]? = some (Rf ps[i]) := by rw [List.getElem?_map, List.getElem?_eq_getElem hi]; rfl
    obtain ⟨v, hv, hr⟩ := hx.get hp
    rw [hxi] at hv; cases hv
    refine wpAny_bind (wpAny_attempt (wp_of (hkey g' s' x ps[i] (List.getElem_mem hi) I.st ((Rf ps[i]).up I.st.ext hr)) fun k s'' hpat => ?_))
    obtain ⟨g'', st'', hk⟩ := hpat
    dsimp only
    have hkS := st''.keep _ _ I.hk
    have gk' := not_new st'' I.hk I.gk
    have ga' := not_new st'' I.ha I.ga
    have hks : ks.length ≤ 64 := by
      rw [I.all.length, List.length_map, List.length_take]; grind
    refine wpAny_bind (listUpdate_at hkS rfl ?_ (by rw [List.size_toArray, sizeLine_eq]; (exact Nat.le_trans (by assumption) (Nat.le_add_left _ _))) (Nat.le_trans (Nat.le_of_eq (Array.size_push ..)) (by rw [List.size_toArray, sizeLine_eq]; (exact Nat.lt_of_le_of_lt (by assumption) (by decide)))))
    have sb := Heap.SameBut.update s''.heap kS (Obj.mapSeq (·.push k))
    have ea : (List.toArray ks).push k = List.toArray (ks ++ [k]) := by simp
    obtain ⟨e', he'⟩ : ∃ e', (s''.heap.update kS (Obj.mapSeq (·.push k))).get? kS = some (seqObj "list" (List.toArray (ks ++ [k])) e') := ⟨_, by rw [← ea]; exact get?_update_seq hkS (·.push k)⟩
    refine wpAny_pure ⟨rfl, ks ++ [k], e', g'', (I.st.trans st'').own kS0 gk' sb, sb.extBut _ _ hne.symm (st''.keep _ _ I.ha), he', ga', gk', ?_⟩
    · have e2 : ((ps.map key).take (i + 1)).map RKp = ((ps.map key).take i).map RKp ++ [RKp (key ps[i])] := by
        rw [List.take_add_one, List.getElem?_map, List.getElem?_eq_getElem hi, List.map_append]; rfl
      rw [e2]
      exact (I.all.up st''.ext).append ⟨hk, trivial⟩
  · rintro _ s' ⟨ks, e, g', I⟩
    try dsimp only
    have e3 : (ps.map key).take xs.length = ps.map key := by rw [hlen, ← List.length_map (f := key) (as := ps)]; exact List.take_length
    rw [e3] at I
    refine wpAny_bind (listItems_at I.hk rfl ?_)
    refine key_end I (by rw [List.length_map, hlen]) (by simp_all) (by simp_all) hne ha0 kS0 (by rw [hlen]; exact hperm) (by rw [hlen]; exact hsize) fun s'' n'' st'' hout => ?_
    refine h _ s'' (st''.freeze ha0 I.ga hout) ⟨a, _, rfl, ⟨n'', View.add_self _ _ _⟩, ?_⟩
    refine All2.up (View.le_add I.ga) ?_
    refine all2_of (by rw [List.length_map, List.length_map]) fun j v R hv hR => ?_
    rw [List.getElem?_map] at hv hR
    cases q : perm.toList[j]? with
    | none => rw [q] at hv; cases hv
    | some i =>
      rw [q] at hv hR
      cases hv; cases hR
      have hi := hin i (List.mem_of_getElem? q)
      have hp : (ps.map Rf)[i]? = some (Rf (ps.getD i d)) := by rw [List.getElem?_map, List.getElem?_eq_getElem hi, List.getD_eq_getElem?_getD, List.getElem?_eq_getElem hi]; rfl
      obtain ⟨v, hv, hr⟩ := hx.get hp
      have : xs.getD i Value.none = v := by rw [List.getD_eq_getElem?_getD, hv]; rfl
      show (Rf (ps.getD i d)).r g' (xs.getD i Value.none)
      rw [this]
      exact (Rf _).up I.st.ext hr
theorem sorted_key {Rf : α → Rel} {key : α → Int × Int} {ps : List α} {xs : List Value} {l f : Addr} {d : α} {perm : Array Nat} (hs : Sees g s.heap) (hl : LstAt g l xs)
    (hx : All2 g (ps.map Rf) xs) (h2 : 2 ≤ ps.length) (h64 : ps.length < 64) (hkey : KeyCt prog w A.in1.in1 f g s Rf key ps) (hperm : evalT ps.length (fun i j => lexlt ((ps.map key).getD i (0, 0)) ((ps.map key).getD j (0, 0))) (kas_sort ps.length) = some perm)
    (hin : ∀ i ∈ perm.toList, i < ps.length) (hsize : perm.size = ps.length) :
    wpAny (model prog w) A (call (.builtin "sorted") [.ref l] [(Str.ofString "key", .ref f)]) (Ends g s (RL (perm.toList.map fun i => Rf (ps.getD i d))).r) NoE s := by
  have hI := hl.isList hs
  have hlen : xs.length = ps.length := by rw [hx.length, List.length_map]
  refine call_function_entry_kw kind_sorted plain_sorted entry_sorted (ksk_s1 _ _) ?_
  unfold Builtin.«sorted»
  refine wpAny_bind (m := checkCount "sorted" 1 1 _) (wpAny_pure ?_)
  refine wpAny_bind (collect_list hI ?_ (by rw [sizeLine_eq]; lia))
  refine wpAny_bind (wpAny_newList ?_ (by rw [sizeLine_eq]; omega))
  have hsz : ((s.heap.push (seqObj "list" #[] 0)).update s.heap.objs.size (Obj.mapSeq (· ++ xs.toArray))).objs.size = s.heap.objs.size + 1 := by
    rw [Heap.size_update, size_push']
  have hoL : (((s.heap.push (seqObj "list" #[] 0)).update s.heap.objs.size (Obj.mapSeq (· ++ xs.toArray))).push (seqObj "list" xs.toArray 0)).get? (s.heap.objs.size + 1) = some (seqObj "list" xs.toArray 0) := by
    rw [← hsz]; exact Heap.get?_push_size _ rfl
  have keep : Kp s.heap (((s.heap.push (seqObj "list" #[] 0)).update s.heap.objs.size (Obj.mapSeq (· ++ xs.toArray))).push (seqObj "list" xs.toArray 0)) := fun b o q => by
    have hlt : b < s.heap.objs.size := Heap.lt_size q
    rw [Heap.get?_push_ne _ _ _ (by rw [hsz]; exact Nat.ne_of_lt (Nat.lt_succ_of_lt hlt)), Heap.get?_update_ne _ _ _ _ (Nat.ne_of_lt hlt), Heap.get?_push_ne _ _ _ (Nat.ne_of_lt hlt)]
    exact q
  have hn : s.heap.get? (s.heap.objs.size + 1) = Option.none := by
    cases q : s.heap.get? (s.heap.objs.size + 1) with
    | none => rfl
    | some o => exact absurd (Heap.lt_size q) (Nat.not_lt.mpr (Nat.le_succ _))
  show wpAny _ _ _ _ _ { s with heap := ((s.heap.push (seqObj "list" #[] 0)).update s.heap.objs.size (Obj.mapSeq (· ++ xs.toArray))).push (seqObj "list" xs.toArray 0) }
  rw [hsz]
  refine wpAny_bind (wpAny_holding (wpAny_call_entry_kw slot_list_sort ⟨_, hoL, rfl⟩ entry_list_sort ?body (ksk_l1 _ _)))
  case body =>
    show wpAny (model prog w) A.in1.in1 (Builtin.«list.sort» ⟨[.ref (s.heap.objs.size + 1)], [(Str.ofString "key", .ref f)]⟩) _ _ _
    rw [ksk_t1]
    refine list_sort_key (s := { s with heap := ((s.heap.push (seqObj "list" #[] 0)).update s.heap.objs.size (Obj.mapSeq (· ++ xs.toArray))).push (seqObj "list" xs.toArray 0) }) (s₀ := s) (g := g) (d := d) hs (Step.heap' hs keep) hoL hn hx h2 h64 hkey hperm hin hsize fun g' s' st hr => ⟨_, rfl, ?_⟩
    exact wpAny_pure ⟨_, rfl, g', st, hr⟩
end
end Mine
end
section
open PySem PySem.W PyProof.Rows
set_option maxRecDepth 100000
set_option linter.unusedVariables false
set_option maxHeartbeats 1000000
namespace Mine
/-! lambdas; the table of a code object, which grows -/
noncomputable def PvTab (ps : Array Value) : Pv where
  is := fun _ a h => h.get? a = some (tabObj ps)
  up := fun _ h => h
  at' := fun k h => k _ h
  here := fun h => ⟨_, h⟩
section
variable {prog : Program} {w : World} {K : View} {F : Fr} {c : Cfg} {g : View} {s : Shared} {P : Addr}
noncomputable def Fr.gh (F : Fr) (P : Addr) : Fr := { F with s₀ := { F.s₀ with heap := F.s₀.heap.hide P } }
theorem hide_kp (h : Heap) (P : Addr) : Kp (h.hide P) h := fun b o e => by
  by_cases q : b = P
  · subst q; rw [Heap.hide_self] at e; cases e
  · rwa [Heap.hide_ne h q] at e
/-- the table is taken out of what must stay -/
theorem Fm.ghost {ρ : List (Str × Rel)} {ps : Array Value} (x : Fm K F ⟨ρ, none⟩ g s) (hP : F.s₀.heap.get? P = some (tabObj ps)) (hg : F.g₀ P = none) (hh : F.hold P = none) (low : ∃ a o, 1 ≤ a ∧ a ≠ P ∧ F.s₀.heap.get? a = some o) : Fm K (F.gh P) ⟨ρ, some (P, PvTab ps)⟩ g s where
  fok := { kind := x.fok.kind, loc := x.fok.loc, inj := x.fok.inj, handled := x.fok.handled, room := x.fok.room, units := x.fok.units
           lim := by
             obtain ⟨mc, ⟨o, es, ep, e, d, r⟩, hm⟩ := x.fok.lim
             refine ⟨mc, ⟨o, es, ep, ?_, d, r⟩, hm⟩
             show (F.s₀.heap.hide P).get? cStatics = _
             rw [Heap.hide_ne _ fun q => by rw [q, hP] at e; cases e; cases d]; exact e
           low := by
             obtain ⟨a, o, h1, hn, e⟩ := low
             refine ⟨a, o, h1, ?_⟩
             show (F.s₀.heap.hide P).get? a = _
             rw [Heap.hide_ne _ hn]; exact e
           base := x.fok.base, globals := x.fok.globals, builtins := x.fok.builtins }
  st := { same := by obtain ⟨h, tk, e⟩ := x.st.same; exact ⟨h, tk, e⟩
          keep := fun b o e => x.st.keep b o (hide_kp _ _ b o e)
          ext := x.st.ext
          new := fun a o e => (x.st.new a o e).imp_right fun q => by
            show (F.s₀.heap.hide P).get? a = none
            by_cases h : a = P
            · subst h; exact Heap.hide_self _ _
            · rw [Heap.hide_ne _ h]; exact q
          sees := x.st.sees }
  own := fun a ha => ⟨(x.own a ha).1, by
    show (F.s₀.heap.hide P).get? a = none
    by_cases h : a = P
    · subst h; exact Heap.hide_self _ _
    · rw [Heap.hide_ne _ h]; exact (x.own a ha).2.1, (x.own a ha).2.2⟩
  cells := x.cells
  held := x.held
  apart := x.apart
  vars := by
    obtain ⟨m, hn, hv⟩ := x.vars
    refine ⟨m, hn, fun y R e => ?_⟩
    obtain ⟨v, hr, hat⟩ := hv y R e
    refine ⟨v, hr, ?_⟩
    rcases hat with ⟨p, q⟩ | ⟨p, d, q, z, hc⟩
    · exact .inl ⟨p, q⟩
    · refine .inr ⟨p, d, q, ⟨z.1, ?_⟩, hc⟩
      rcases z.2 with z | ⟨o, z⟩
      · exact .inl z
      · refine .inr ⟨o, ?_⟩
        show (F.s₀.heap.hide P).get? d = _
        rw [Heap.hide_ne _ fun e => ?_]
        · exact z
        · subst e
          obtain ⟨o', e', d'⟩ := hc
          have e2 := x.st.keep _ _ hP
          rw [e2] at e'; cases e'; cases d'
  pv := fun a Q e => by
    simp only [Option.some.injEq, Prod.mk.injEq] at e
    obtain ⟨rfl, rfl⟩ := e
    refine ⟨x.st.keep _ _ hP, ?_, Heap.hide_self _ _, fun q => ?_, hh⟩
    · cases q : g P with
      | none => rfl
      | some o =>
        rcases x.st.new P o q with z | z
        · rw [hg] at z; cases z
        · rw [hP] at z; cases z
    · have := (x.own _ q).2.1
      rw [hP] at this; cases this
/-- the table has grown -/
theorem Fm.table {ps ps' : Array Value} {h' : Heap} {t : Nat} (x : Fm K F c g s) (hp : c.pv = some (P, PvTab ps)) (hx : Heap.ExtBut P s.heap h') (h : h'.get? P = some (tabObj ps')) : Fm K F { c with pv := some (P, PvTab ps') } g { s with heap := h', toks := t } := by
  obtain ⟨p, q, r, n, z⟩ := x.pv P _ hp
  have k : ∀ b o, b ≠ P → s.heap.get? b = some o → h'.get? b = some o := hx
  have nl : F.env.locals ≠ P := fun e => n (e ▸ x.fok.loc)
  exact {
    fok := x.fok
    st := { same := by obtain ⟨h, tk, e⟩ := x.st.same; exact ⟨h', t, by rw [e]⟩
            keep := fun b o e => k b o (fun z => by subst z; rw [r] at e; cases e) (x.st.keep b o e)
            ext := x.st.ext
            new := x.st.new
            sees := fun b o e => k b o (fun z => by subst z; rw [q] at e; cases e) (x.sees b o e) }
    own := x.own
    cells := fun b hb ne => let ⟨v, o, e, d⟩ := x.cells b hb ne; ⟨v, o, k b o (fun e => n (e ▸ hb)) e, d⟩
    held := fun b o e => k b o (fun y => by subst y; rw [z] at e; cases e) (x.held b o e)
    apart := x.apart
    vars := by
      obtain ⟨m, hn, hv⟩ := x.vars
      refine ⟨m, hn.at' fun o e => k _ o nl e, fun y R e => ?_⟩
      obtain ⟨v, hr, hat⟩ := hv y R e
      refine ⟨v, hr, ?_⟩
      rcases hat with ⟨a, b⟩ | ⟨a, d, b, y, o, u, dd⟩
      · exact .inl ⟨a, b⟩
      · refine .inr ⟨a, d, b, y, o, k d o (fun e => ?_) u, dd⟩
        subst e
        rcases y.2 with y | ⟨o, y⟩
        · exact n y
        · rw [r] at y; cases y
    pv := fun b P'' e => by
      simp only [Option.some.injEq, Prod.mk.injEq] at e
      obtain ⟨rfl, rfl⟩ := e
      exact ⟨h, q, r, n, z⟩ }
/-- what the making of a lambda reads -/
structure LT (K : View) (cd : Value) (P : Addr) : Prop where
  cc : ∃ cC, cd = .ref cC ∧ ∀ h, Sees K h → CodeHd h cC P
  mg : ∃ mg, KNs K mainGlobals mg ∧ ∀ h, Sees K h → h.BuiltinsAt mg P
  out : K P = none
noncomputable def LamAt (g : View) (f : Addr) (qual : Str) (params : Arguments) (body : Expr) (scope : Scope) (cl : List (Str × Addr)) : Prop :=
  ∃ pm c' ctv oc vs t, g f = some (kla_obj "<lambda>" qual params body scope cl pm c' ctv) ∧ g c' = some oc ∧ oc.data = .fields vs ∧ vs[1]? = some (.str qual t)
theorem LamAt.up {g g' : View} {f : Addr} {qual : Str} {params : Arguments} {body : Expr} {scope : Scope} {cl : List (Str × Addr)} (k : VLe g g') (h : LamAt g f qual params body scope cl) : LamAt g' f qual params body scope cl :=
  let ⟨pm, c', ctv, oc, vs, t, a, b, d, e⟩ := h; ⟨pm, c', ctv, oc, vs, t, k _ _ a, k _ _ b, d, e⟩
theorem ev_lambda {ps : Array Value} {cd : Value} {params : Arguments} {body : Expr} {scope : Scope} {pos : Pos} {cl : List (Str × Addr)} (hp : c.pv = some (P, PvTab ps)) (T : LT K cd P) (hcode : F.env.code = cd) (hcl : closureFor scope F.env = pure cl)
    (hdef : defaultsOf params F.env = ([], [])) (ht : TriplesOk ps.toList) (hnf : codeAmong pos ps.toList = none) (x : Fm K F c g s) :
    wpAny (model prog w) F.A (eval (.Lambda params body scope pos) F.env) (fun v s' => ∃ f g' ps', v = .ref f ∧ Fm K F { c with pv := some (P, PvTab ps') } g' s' ∧ VLe g g' ∧ LamAt g' f (F.env.qual ++ "<lambda>") params body scope cl) NoE s := by
  obtain ⟨cC, hcd, hC⟩ := T.cc
  obtain ⟨mg, hmg, hb⟩ := T.mg
  have hP : s.heap.get? P = some (tabObj ps) := (x.pv P _ hp).1
  have hsK := x.seesK
  have hgP : mainGlobals ≠ P := fun e => by
    obtain ⟨o, es, ep, h, _⟩ := hmg
    rw [e, T.out] at h; cases h
  refine kla_eval hdef (kla_makeFunction hcl x.fok.globals (hmg.ns hsK) (hcode.trans hcd) (hC _ hsK) hP ht hnf hgP (hb _ hsK) fun c' ctv h' tk hx hge hlt hrec hPt => ?_)
  have y := x.table (t := tk) hp hx hPt
  obtain ⟨c2, oc, vs, t, e2, hoc, hd, hv⟩ := hrec
  have e2 : c' = c2 := by injection e2
  subst e2
  have nc : s.heap.get? c' = none := by
    cases q : s.heap.get? c' with
    | none => rfl
    | some o => exact absurd (Heap.lt_size q) (Nat.not_lt.mpr hge)
  have gc : g c' = none := none_of_sees x.sees nc
  have cP : c' ≠ P := fun e => by subst e; rw [nc] at hP; cases hP
  -- the new code object, taken into the view
  have z : Fm K F { c with pv := some (P, PvTab (ps ++ #[rawInt pos.line, rawInt pos.col, .ref c'])) } (g.add c' oc) { s with heap := h', toks := tk } := by
    have le := View.le_add (o := oc) gc
    refine { y with st := ?_, own := fun a ha => ⟨?_, (y.own a ha).2⟩, apart := fun a o e => ?_, vars := ?_, pv := fun a Q e => ?_ }
    · exact { same := y.st.same, keep := y.st.keep, ext := y.st.ext.trans le
              new := fun a o e => by
                unfold View.add at e
                split at e
                · rename_i q; subst q
                  right
                  cases q : F.s₀.heap.get? a with
                  | none => rfl
                  | some o' => have := x.st.keep _ _ q; rw [nc] at this; cases this
                · exact y.st.new a o e
              sees := fun a o e => by
                unfold View.add at e
                split at e
                · rename_i q; subst q; cases e; exact hoc
                · exact y.sees a o e }
    · unfold View.add
      rw [if_neg fun q => by subst q; obtain ⟨o, e⟩ := x.ownObj ha; rw [nc] at e; cases e]
      exact (y.own a ha).1
    · unfold View.add
      rw [if_neg fun q => by subst q; have := x.held _ _ e; rw [nc] at this; cases this]
      exact y.apart a o e
    · obtain ⟨m, hn, hv⟩ := y.vars
      exact ⟨m, hn, fun n R e => let ⟨v, hr, ha⟩ := hv n R e; ⟨v, R.up le hr, ha⟩⟩
    · obtain ⟨p, q, r⟩ := y.pv a Q e
      simp only [Option.some.injEq, Prod.mk.injEq] at e
      obtain ⟨rfl, rfl⟩ := e
      refine ⟨p, ?_, r⟩
      unfold View.add
      rw [if_neg cP.symm]; exact q
  have nf : h'.get? h'.objs.size = none := get_size _
  have st := Step.push (t := tk) z.sees (kp_push h' (kla_obj "<lambda>" (F.env.qual ++ "<lambda>") params body scope cl ((mg "__name__").getD .none) c' ctv)) nf (Heap.get?_push_size h' rfl)
  refine ⟨_, _, _, rfl, z.up st, (View.le_add gc).trans st.ext, _, c', ctv, oc, vs, t, View.add_self _ _ _, ?_, hd, hv⟩
  exact st.ext _ _ (View.add_self _ _ _)
/-- a lambda's frame -/
noncomputable def lamEnv (f : Addr) (L : Addr) (qual : Str) (scope : Scope) (cl : List (Str × Addr)) (c' : Addr) : Env := newEnv scope L mainGlobals cl (qual ++ ".<locals>.") (some f) (.ref c') none builtinsNs
noncomputable def Fr.lam (A : Around) (f c' : Addr) (qual : Str) (scope : Scope) (cl : List (Str × Addr)) (g : View) (s : Shared) (n : Nat) : Fr :=
  ⟨A.deeper (lamEnv f s.heap.objs.size qual scope cl c'), lamEnv f s.heap.objs.size qual scope cl c', g, s, [s.heap.objs.size], fun _ => none, n⟩
theorem lam_call {A : Around} {f : Addr} {qual : Str} {params : Arguments} {body : Expr} {scope : Scope} {cl : List (Str × Addr)} {v : Value} {x : Str} {ρ : List (Str × Rel)} {R : Rel} (n : Nat)
    (hh : A.handled = none) (hr : A.depth + (n + 1) < recursionLimit) (hu : A.units + 100 + 4 * (n + 1) < cLine) (hlim : s.heap.NoLimit) (hK : VLe K g) (hs : Sees g s.heap) (hlow : ∃ a o, 1 ≤ a ∧ s.heap.get? a = some o)
    (hf : LamAt g f qual params body scope cl) (hbind : ∀ pm c' ctv, bindArgs (kla_fn "<lambda>" qual params body scope cl pm (.ref c') ctv) ⟨[v], []⟩ = pure [(x, v)]) (hloc : scope.names.lookup x = some .local) (hnc : ∀ y ∈ scope.names, y.2 ≠ .cell) (hk : scope.kind = .function) (hco : scope.isCoroutine = false) (hgen : scope.isGenerator = false)
    (hvars : ∀ y R, look y ρ = some R → (y = x ∧ R.r g v) ∨ (scope.names.lookup y = some .free ∧ ∃ a u, cl.lookup y = some a ∧ s.heap.IsCell a (some u) ∧ R.r g u))
    (hev : ∀ c', Ev prog w ((Fr.lam A f c' qual scope cl g s n).ctx K ⟨ρ, none⟩) body R) : wpAny (model prog w) A (call (.ref f) [v]) (Ends g s R.r) NoE s := by
  obtain ⟨pm, c', ctv, oc, vs, t, hfo, hco', hd, hv⟩ := hf
  have core : codeAny (model prog w) A (.call (.ref f) ⟨[v], []⟩) (fun r s' => ∃ u g', r = .ok (.ret u) ∧ Step g s g' s' ∧ R.r g' u) s := by
    refine kla_callFunE (o := kla_obj "<lambda>" qual params body scope cl pm c' ctv) (fd := kla_fn "<lambda>" qual params body scope cl pm (.ref c') ctv) (body := body) (by (exact Nat.lt_of_le_of_lt (Nat.le_add_right _ _) (by assumption))) (hs _ _ hfo) rfl hco hgen rfl ⟨c', oc, vs, t, rfl, hs _ _ hco', hd, hv⟩ ?_
    rw [hbind]
    refine wpAny_pure (wpAny_newFunctionEnv hnc (fun y hy => by rw [List.mem_singleton.mp hy]; exact hloc) (fun h₁ hns hsb => ⟨hlim.fresh _ hsb, ?_⟩) hk)
    have kp : Kp s.heap h₁ := fun b o e => hsb.extBut b o (Nat.ne_of_lt (Heap.lt_size e)) (Heap.get?_push_of_some _ e)
    have nL : s.heap.get? s.heap.objs.size = none := get_size _
    have fm : Fm K (Fr.lam A f c' qual scope cl g s n) ⟨ρ, none⟩ g { s with heap := h₁, toks := s.toks + [(x, v)].length } := {
      fok := { kind := hk, loc := List.mem_singleton.mpr rfl, inj := fun _ _ a h ne => absurd (List.mem_singleton.mp h) ne, handled := hh
               room := by show A.depth + 1 + n < recursionLimit; lia
               units := (by show A.units + 3 + 100 + 4 * n < cLine; lia)
               lim := hlim, low := hlow, base := hK, globals := rfl, builtins := rfl }
      st := Step.heap hs kp
      own := fun a ha => by rw [List.mem_singleton.mp ha]; exact ⟨none_of_sees hs nL, nL, rfl⟩
      cells := fun a ha ne => absurd (List.mem_singleton.mp ha) ne
      held := fun a o e => by cases e
      apart := fun a o e => by cases e
      vars := by
        refine ⟨_, hns, fun y R e => ?_⟩
        rcases hvars y R e with ⟨rfl, hr⟩ | ⟨hfr, a, u, ha, hc, hr⟩
        · refine ⟨v, hr, .inl ⟨hloc, ?_⟩⟩
          show ([(y, v)].reverse.lookup y) = some v
          simp
        · refine ⟨u, hr, .inr ⟨.inr hfr, a, ha, ⟨fun q => ?_, .inr (IsCell.obj hc)⟩, hc.keeps kp⟩⟩
          obtain ⟨o, e⟩ := IsCell.obj hc
          have q : a = s.heap.objs.size := q
          rw [q, nL] at e; cases e
      pv := fun a P e => by cases e }
    exact kla_codeExpr (wp_of ((hev c').run g _ fm trivial) fun u s' ⟨g', st, hr⟩ => ⟨u, g', rfl, (show Step g s g { s with heap := h₁, toks := _ } from Step.heap hs kp).trans st, hr⟩)
  exact wpAny_call (codeAny_mono core fun r s' ⟨u, g', e, st, hr⟩ => by subst e; exact ⟨g', st, hr⟩)
end
end Mine
end
section
open PySem PySem.Sre
set_option maxRecDepth 100000
set_option linter.unusedVariables false
namespace Mine
/-! The matching machine. -/
noncomputable def iter : Nat → M → M
  | 0, m => m
  | n + 1, m => iter n m.step
theorem step_done {m : M} (h : m.outcome.isSome = true) : m.step = m := by unfold M.step; rw [if_pos h]
theorem iter_done {m : M} (h : m.outcome.isSome = true) : ∀ n, iter n m = m
  | 0 => rfl
  | n + 1 => by unfold iter; rw [step_done h, iter_done h n]
theorem iter_add (a b : Nat) (m : M) : iter (a + b) m = iter b (iter a m) := by
  induction a generalizing m with
  | zero => rw [Nat.zero_add]; rfl
  | succ a ih => rw [Nat.succ_add]; exact ih m.step
theorem iter_le {a b : Nat} {m : M} (h : (iter a m).outcome.isSome = true) (hab : a ≤ b) : iter b m = iter a m := by
  have e : b = a + (b - a) := by simp_all
  rw [e, iter_add, iter_done h]
theorem iter_eq {a b : Nat} {m : M} (h : (iter a m).outcome.isSome = true) (h' : (iter b m).outcome.isSome = true) : iter a m = iter b m := by
  rcases Nat.le_total a b with q | q
  · exact (iter_le h q).symm
  · exact iter_le h' q
theorem runFor_iter : ∀ (n : Nat) (m : M), m.runFor n = iter n m
  | 0, m => rfl
  | n + 1, m => by
    unfold M.runFor iter
    split
    · rename_i h; rw [step_done h, iter_done h]
    · exact runFor_iter n m.step
section
variable {prog : Program} {w : World} {A : Around} {E : Value → Shared → Prop} {s : Shared}
theorem drive_wp {Q : M → Shared → Prop} : ∀ (k : Nat) (turns : Nat) (m : M), k < turns → (iter k m).outcome.isSome = true → Q (iter k m) s → wpAny (model prog w) A (Builtin.Re.reDrive turns m) Q E s := by
  intro k
  induction k using Nat.strongRecOn with
  | ind k ih =>
    intro turns m hk ho hQ
    obtain ⟨t, rfl⟩ : ∃ t, turns = t + 1 := ⟨turns - 1, by lia⟩
    unfold Builtin.Re.reDrive
    show wpAny _ _ (if (m.runFor 4).outcome.isSome = true then pure (m.runFor 4) else (do rule "sre.turn"; Builtin.Re.reDrive t (m.runFor 4))) _ _ _
    rw [runFor_iter]
    by_cases h : (iter 4 m).outcome.isSome = true
    · rw [if_pos h]
      refine wpAny_pure ?_
      rw [iter_eq h ho]; exact hQ
    · rw [if_neg h]
      refine wpAny_bind (wpAny_rule ?_)
      have h4 : 4 < k := by
        by_cases q : k ≤ 4
        · exfalso
          have e : iter 4 m = iter k m := iter_le ho q
          rw [e] at h; exact h ho
        · (exact Nat.not_le.mp (by assumption))
      have e : iter k m = iter (k - 4) (iter 4 m) := by rw [← iter_add]; congr 1; lia
      exact ih (k - 4) (by omega) t (iter 4 m) (by grind) (e ▸ ho) (e ▸ hQ)

theorem rules_wp {Q : PUnit → Shared → Prop} (seen : Seen) (f : Nat → PUnit → Sem (ForInStep PUnit)) (hf : ∀ i u, f i u = (if seen.has i = true then (do rule (names.getD i ""); pure (.yield ⟨⟩)) else pure (.yield ⟨⟩))) : ∀ l : List Nat, Q ⟨⟩ s → wpAny (model prog w) A (forIn l ⟨⟩ f) Q E s
  | [], h => by rw [List.forIn_nil]; exact wpAny_pure h
  | i :: l, h => by
    rw [List.forIn_cons, hf]
    refine wpAny_bind ?_
    split
    · exact wpAny_bind (wpAny_rule (wpAny_pure (rules_wp seen f hf l h)))
    · exact wpAny_pure (rules_wp seen f hf l h)
theorem end_matched {m : M} {Q : Option M → Shared → Prop} (k : Nat) (hk : k < 2 ^ 64) (ho : (iter k m).outcome = some .matched) (h : Q (some (iter k m)) s) : wpAny (model prog w) A (Builtin.Re.reRunToEnd m) Q E s := by
  unfold Builtin.Re.reRunToEnd
  refine wpAny_bind (drive_wp k _ m hk (by rw [ho]; rfl) ?_)
  refine wpAny_bind (rules_wp _ _ (fun i u => by rfl) _ ?_)
  rw [ho]
  exact wpAny_pure h
theorem end_failed {m : M} {Q : Option M → Shared → Prop} (k : Nat) (hk : k < 2 ^ 64) (ho : (iter k m).outcome = some .failed) (h : Q none s) : wpAny (model prog w) A (Builtin.Re.reRunToEnd m) Q E s := by
  unfold Builtin.Re.reRunToEnd
  refine wpAny_bind (drive_wp k _ m hk (by rw [ho]; rfl) ?_)
  refine wpAny_bind (rules_wp _ _ (fun i u => by rfl) _ ?_)
  rw [ho]
  exact wpAny_pure h
end
end Mine
end
section
open PySem PySem.Sre
set_option maxRecDepth 100000
set_option linter.unusedVariables false
namespace Mine
structure Bs where
  code : Array Nat
  text : Array Nat
  lim : Nat
  last : Nat
structure Sx where
  start : Nat
  pc : Nat
  pos : Nat
  handed : Nat
  om : Bool
  fr : List Sre.Frame
  wt : Nat
  ans : Option Bool := none
  out : Option Sre.Outcome := none
noncomputable def Bs.m (b : Bs) (x : Sx) (σ : Seen) : M :=
  { code := b.code, text := b.text, lim := b.lim, start := x.start, lastStart := b.last, pc := x.pc, pos := x.pos, handed := x.handed, outermost := x.om, marks := #[], frames := x.fr, weight := x.wt, answer := x.ans, seen := σ, outcome := x.out }
noncomputable def Bs.Go (b : Bs) (n : Nat) (x y : Sx) : Prop := ∀ σ, ∃ σ', iter n (b.m x σ) = b.m y σ'
section
variable {b : Bs} {x y z : Sx}
theorem Go.trans {n m : Nat} (h : b.Go n x y) (k : b.Go m y z) : b.Go (n + m) x z := fun σ => by
  obtain ⟨σ', e⟩ := h σ
  obtain ⟨σ'', e'⟩ := k σ'
  exact ⟨σ'', by rw [iter_add, e, e']⟩
theorem Go.one (h : ∀ σ, ∃ σ', (b.m x σ).step = b.m y σ') : b.Go 1 x y := fun σ => h σ
theorem step_exec {x : Sx} {σ : Seen} (ha : x.ans = none) (ho : x.out = none) (hp : x.pc < b.code.size) : (b.m x σ).step = (b.m x σ).exec := by
  unfold M.step
  rw [if_neg (by show ¬ x.out.isSome = true; rw [ho]; decide)]
  show (match x.ans, x.fr with | some yes, [] => _ | some yes, f :: rest => _ | none, _ => if x.pc < b.code.size then (b.m x σ).exec else _) = _
  rw [ha]
  exact if_pos hp
theorem acc_lit {code : Array Nat} {i c : Nat} {σ : Seen} (hc : code.getD i 0 = 16) : accepts code i c σ = .ok (c == code.getD (i + 1) 0, σ) := by
  unfold accepts; rw [hc]; rfl
theorem width_lit {code : Array Nat} {i : Nat} (hc : code.getD i 0 = 16) : itemWidth code i = 2 := by
  unfold itemWidth; rw [hc]; rfl
theorem word0 {x : Sx} {σ : Seen} {n : Nat} (hc : b.code.getD x.pc 0 = n) : (b.m x σ).word 0 = n := hc
theorem ex_lit {m : M} {σ : Seen} (h : m.word 0 = 16) (hlt : m.pos < m.lim) (ha : accepts m.code m.pc (m.text.getD m.pos 0) (m.seen.add 16) = .ok (true, σ)) : m.exec = { m with seen := σ, pc := m.pc + itemWidth m.code m.pc, pos := m.pos + 1 } := by
  unfold M.exec
  rw [h, show ops[16]? = some Op.LITERAL from rfl]
  dsimp only
  rw [if_neg (Nat.not_le.mpr hlt), ha]
theorem ex_lit_no {m : M} {σ : Seen} (h : m.word 0 = 16) (hlt : m.pos < m.lim) (ha : accepts m.code m.pc (m.text.getD m.pos 0) (m.seen.add 16) = .ok (false, σ)) : m.exec = M.say { m with seen := σ } false := by
  unfold M.exec
  rw [h, show ops[16]? = some Op.LITERAL from rfl]
  dsimp only
  rw [if_neg (Nat.not_le.mpr hlt), ha]
theorem ex_lit_end {m : M} (h : m.word 0 = 16) (hlt : m.lim ≤ m.pos) : m.exec = M.say { m with seen := m.seen.add 16 } false := by
  unfold M.exec
  rw [h, show ops[16]? = some Op.LITERAL from rfl]
  dsimp only
  rw [if_pos hlt]
theorem ex_jump {m : M} (h : m.word 0 = 15) : m.exec = { m with seen := m.seen.add 15, pc := m.pc + 1 + m.word 1 } := by
  unfold M.exec
  rw [h, show ops[15]? = some Op.JUMP from rfl]; rfl
theorem ex_success {m : M} (h : m.word 0 = 1) (h1 : m.wholeText = false) (h2 : m.mustAdvance = false) : m.exec = M.say { m with seen := m.seen.add 1, handed := m.pos } true := by
  unfold M.exec
  rw [h, show ops[1]? = some Op.SUCCESS from rfl]
  dsimp only
  rw [h1, h2, if_neg (by simp)]
theorem ex_branch {m : M} (h : m.word 0 = 7) (hi : m.inner = none) : m.exec = M.alternative { m with seen := m.seen.add 7 } (m.pc + 1) (M.keep { m with seen := m.seen.add 7 } false) := by
  unfold M.exec
  rw [h, show ops[7]? = some Op.BRANCH from rfl]
  dsimp only
  rw [hi]; rfl
theorem ex_not {m : M} (h : m.word 0 = 5) (h2 : m.word 2 = 0) (hi : m.inner = none) : m.exec = M.attempt { m with seen := m.seen.add 5 } { M.frame { m with seen := m.seen.add 5 } .lookNot with kept := M.keep { m with seen := m.seen.add 5 } false } (m.pc + 3) m.pos false := by
  unfold M.exec
  rw [h, show ops[5]? = some Op.ASSERT_NOT from rfl]
  dsimp only
  have e : M.word { m with seen := m.seen.add 5 } 2 = 0 := h2
  rw [e, if_neg (Nat.not_lt_zero _), hi]; rfl
theorem ex_at {m : M} {y : Bool} (h : m.word 0 = 6) (ha : m.isAt (m.word 1) = .ok y) : m.exec = (if y = true then { m with seen := (m.seen.add 6).add (43 + m.word 1), pc := m.pc + 2 } else M.say { m with seen := (m.seen.add 6).add (43 + m.word 1) } false) := by
  unfold M.exec
  rw [h, show ops[6]? = some Op.AT from rfl]
  dsimp only
  have e : M.isAt { m with seen := m.seen.add 6 } (M.word { m with seen := m.seen.add 6 } 1) = .ok y := ha
  rw [e]; rfl
/-- a sign that is the one wanted -/
theorem go_lit (ha : x.ans = none) (ho : x.out = none) (hp : x.pc < b.code.size) (hc : b.code.getD x.pc 0 = 16) (hlt : x.pos < b.lim) (he : b.text.getD x.pos 0 = b.code.getD (x.pc + 1) 0) : b.Go 1 x { x with pc := x.pc + 2, pos := x.pos + 1 } := Go.one fun σ => by
  rw [step_exec ha ho hp, ex_lit (σ := σ.add 16) (word0 hc) hlt (by
    show accepts b.code x.pc (b.text.getD x.pos 0) (σ.add 16) = _
    rw [acc_lit hc, beq_iff_eq.mpr he])]
  refine ⟨σ.add 16, ?_⟩
  show ({ b.m x σ with seen := σ.add 16, pc := x.pc + itemWidth b.code x.pc, pos := x.pos + 1 } : M) = _
  rw [width_lit hc]; rfl
theorem go_lit_no (ha : x.ans = none) (ho : x.out = none) (hp : x.pc < b.code.size) (hc : b.code.getD x.pc 0 = 16) (he : b.lim ≤ x.pos ∨ b.text.getD x.pos 0 ≠ b.code.getD (x.pc + 1) 0) : b.Go 1 x { x with ans := some false } := Go.one fun σ => by
  rw [step_exec ha ho hp]
  by_cases q : b.lim ≤ x.pos
  · rw [ex_lit_end (word0 hc) q]; exact ⟨σ.add 16, rfl⟩
  · rw [ex_lit_no (σ := σ.add 16) (word0 hc) (Nat.not_le.mp q) (by
      show accepts b.code x.pc (b.text.getD x.pos 0) (σ.add 16) = _
      rw [acc_lit hc, beq_eq_false_iff_ne.mpr (he.resolve_left q)])]
    exact ⟨σ.add 16, rfl⟩
theorem go_jump (ha : x.ans = none) (ho : x.out = none) (hp : x.pc < b.code.size) (hc : b.code.getD x.pc 0 = 15) : b.Go 1 x { x with pc := x.pc + 1 + b.code.getD (x.pc + 1) 0 } := Go.one fun σ => by
  rw [step_exec ha ho hp, ex_jump (word0 hc)]
  exact ⟨σ.add 15, rfl⟩
theorem go_success (ha : x.ans = none) (ho : x.out = none) (hp : x.pc < b.code.size) (hc : b.code.getD x.pc 0 = 1) : b.Go 1 x { x with handed := x.pos, ans := some true } := Go.one fun σ => by
  rw [step_exec ha ho hp, ex_success (word0 hc) rfl rfl]
  exact ⟨σ.add 1, rfl⟩
/-- a sub-match is begun -/
noncomputable def nb (pos : Nat) (om : Bool) (alt : Nat) : Sre.Frame := { wait := .nextBranch, pc := alt, pos := pos, outermost := om, kept := { lastmark := -1, lastindex := -1, whole := false, marks := #[] } }
theorem alt_go {σ : Seen} {alt : Nat} (hw : x.wt ≤ 1000) (h0 : b.code.getD alt 0 ≠ 0) : (b.m x σ).alternative alt { lastmark := -1, lastindex := -1, whole := false, marks := #[] } = b.m { x with fr := nb x.pos x.om alt :: x.fr, wt := x.wt + 1, pc := alt + 1, handed := x.pos } σ := by
  unfold M.alternative
  rw [if_neg (by show ¬ (b.code.getD alt 0 == 0) = true; simpa using h0)]
  unfold M.attempt
  rw [if_neg (by show ¬ x.wt + 1 + 0 > 16777216; lia)]
  rfl
theorem go_branch (ha : x.ans = none) (ho : x.out = none) (hp : x.pc < b.code.size) (hc : b.code.getD x.pc 0 = 7) (hw : x.wt ≤ 1000) (h0 : b.code.getD (x.pc + 1) 0 ≠ 0) : b.Go 1 x { x with fr := nb x.pos x.om (x.pc + 1) :: x.fr, wt := x.wt + 1, pc := x.pc + 2, handed := x.pos } := Go.one fun σ => by
  rw [step_exec ha ho hp, ex_branch (word0 hc) rfl]
  exact ⟨σ.add 7, alt_go (x := x) (σ := σ.add 7) (alt := x.pc + 1) hw h0⟩
noncomputable def ln (x : Sx) : Sre.Frame := { wait := .lookNot, pc := x.pc, pos := x.pos, outermost := x.om, kept := { lastmark := -1, lastindex := -1, whole := false, marks := #[] } }
theorem go_not (ha : x.ans = none) (ho : x.out = none) (hp : x.pc < b.code.size) (hc : b.code.getD x.pc 0 = 5) (hb : b.code.getD (x.pc + 2) 0 = 0) (hw : x.wt ≤ 1000) :
    b.Go 1 x { x with fr := ln x :: x.fr, wt := x.wt + 1, pc := x.pc + 3, handed := x.pos, om := false } := Go.one fun σ => by
  rw [step_exec ha ho hp, ex_not (word0 hc) hb rfl]
  unfold M.attempt
  rw [if_neg (by show ¬ x.wt + 1 + 0 > 16777216; lia)]
  exact ⟨σ.add 5, rfl⟩
/-- an answer comes back to a frame -/
theorem back {σ : Seen} {f : Sre.Frame} {rest : List Sre.Frame} {yes : Bool} (ha : x.ans = some yes) (ho : x.out = none) (hf : x.fr = f :: rest) : (b.m x σ).step = M.resume (b.m { x with ans := none, fr := rest, wt := x.wt - (1 + f.kept.marks.size), pc := f.pc, pos := f.pos, om := f.outermost } σ) f yes := by
  obtain ⟨start, pc, pos, handed, om, fr, wt, ans, out⟩ := x
  simp only at ha ho hf
  subst ha ho hf
  rfl
theorem back_yes {f : Sre.Frame} {rest : List Sre.Frame} (ha : x.ans = some true) (ho : x.out = none) (hf : x.fr = f :: rest) (hw : f.wait = .nextBranch ∨ f.wait = .nextStart) :
    b.Go 1 x { x with fr := rest, wt := x.wt - (1 + f.kept.marks.size), pc := f.pc, pos := f.pos, om := f.outermost } := Go.one fun σ => by
  rw [back ha ho hf]
  unfold M.resume
  obtain ⟨start, pc, pos, handed, om, fr, wt, ans, out⟩ := x
  simp only at ha ho hf
  subst ha ho hf
  rcases hw with hw | hw <;> rw [hw] <;> exact ⟨σ, rfl⟩
theorem back_not {f : Sre.Frame} {rest : List Sre.Frame} (ha : x.ans = some false) (ho : x.out = none) (hf : x.fr = f :: rest) (hw : f.wait = .lookNot) (hk : f.kept = { lastmark := -1, lastindex := -1, whole := false, marks := #[] }) :
    b.Go 1 x { x with ans := none, fr := rest, wt := x.wt - 1, pc := f.pc + 1 + b.code.getD (f.pc + 1) 0, pos := f.pos, om := f.outermost } := Go.one fun σ => by
  rw [back ha ho hf]
  unfold M.resume
  rw [hw, hk]
  exact ⟨σ, rfl⟩
theorem back_branch {pos alt : Nat} {om : Bool} {rest : List Sre.Frame} (ha : x.ans = some false) (ho : x.out = none) (hf : x.fr = nb pos om alt :: rest) (hwt : x.wt ≤ 1000) (h0 : b.code.getD (alt + b.code.getD alt 0) 0 ≠ 0) :
    b.Go 1 x { x with ans := none, fr := nb pos om (alt + b.code.getD alt 0) :: rest, wt := x.wt - 1 + 1, pc := alt + b.code.getD alt 0 + 1, pos := pos, handed := pos, om := om } := Go.one fun σ => by
  rw [back ha ho hf]
  exact ⟨σ, alt_go (x := { x with ans := none, fr := rest, wt := x.wt - 1, pc := alt, pos := pos, om := om }) (σ := σ) (alt := alt + b.code.getD alt 0) (by show x.wt - 1 ≤ 1000; omega) h0⟩
theorem fin_yes {yes : Bool} (ha : x.ans = some yes) (ho : x.out = none) (hf : x.fr = []) : b.Go 1 x { x with out := some (if yes then .matched else .failed) } := Go.one fun σ => by
  obtain ⟨start, pc, pos, handed, om, fr, wt, ans, out⟩ := x
  simp only at ha ho hf
  subst ha ho hf
  exact ⟨σ, rfl⟩

theorem Bs.Go.trans {n m : Nat} (h : b.Go n x y) (k : b.Go m y z) : b.Go (n + m) x z := Mine.Go.trans h k
section
variable {c : Array Nat} {st pos hd wt : Nat} {om : Bool} {fr : List Sre.Frame}
theorem lit (hc : b.code = c) (pc : Nat) (hlt : pos < b.lim) (he : b.text.getD pos 0 = c.getD (pc + 1) 0) (h : c.getD pc 0 = 16 := by rfl) (hp : pc < c.size := by decide) : b.Go 1 ⟨st, pc, pos, hd, om, fr, wt, none, none⟩ ⟨st, pc + 2, pos + 1, hd, om, fr, wt, none, none⟩ := by
  subst hc; exact go_lit (x := ⟨st, pc, pos, hd, om, fr, wt, none, none⟩) rfl rfl hp h hlt he
theorem litNo (hc : b.code = c) (pc : Nat) (he : b.lim ≤ pos ∨ b.text.getD pos 0 ≠ c.getD (pc + 1) 0) (h : c.getD pc 0 = 16 := by rfl) (hp : pc < c.size := by decide) : b.Go 1 ⟨st, pc, pos, hd, om, fr, wt, none, none⟩ ⟨st, pc, pos, hd, om, fr, wt, some false, none⟩ := by
  subst hc; exact go_lit_no (x := ⟨st, pc, pos, hd, om, fr, wt, none, none⟩) rfl rfl hp h he
theorem jump (hc : b.code = c) (pc to : Nat) (ht : pc + 1 + c.getD (pc + 1) 0 = to := by rfl) (h : c.getD pc 0 = 15 := by rfl) (hp : pc < c.size := by decide) : b.Go 1 ⟨st, pc, pos, hd, om, fr, wt, none, none⟩ ⟨st, to, pos, hd, om, fr, wt, none, none⟩ := by
  subst hc; subst ht; exact go_jump (x := ⟨st, pc, pos, hd, om, fr, wt, none, none⟩) rfl rfl hp h
theorem success (hc : b.code = c) (pc : Nat) (h : c.getD pc 0 = 1 := by rfl) (hp : pc < c.size := by decide) : b.Go 1 ⟨st, pc, pos, hd, om, fr, wt, none, none⟩ ⟨st, pc, pos, pos, om, fr, wt, some true, none⟩ := by
  subst hc; exact go_success (x := ⟨st, pc, pos, hd, om, fr, wt, none, none⟩) rfl rfl hp h
theorem branch (hc : b.code = c) (pc : Nat) (hw : wt ≤ 1000) (h : c.getD pc 0 = 7 := by rfl) (h0 : c.getD (pc + 1) 0 ≠ 0 := by decide) (hp : pc < c.size := by decide) : b.Go 1 ⟨st, pc, pos, hd, om, fr, wt, none, none⟩ ⟨st, pc + 2, pos, pos, om, nb pos om (pc + 1) :: fr, wt + 1, none, none⟩ := by
  subst hc; exact go_branch (x := ⟨st, pc, pos, hd, om, fr, wt, none, none⟩) rfl rfl hp h hw h0
theorem look' (hc : b.code = c) (pc : Nat) (hw : wt ≤ 1000) (h : c.getD pc 0 = 5 := by rfl) (hb : c.getD (pc + 2) 0 = 0 := by rfl) (hp : pc < c.size := by decide) :
    b.Go 1 ⟨st, pc, pos, hd, om, fr, wt, none, none⟩ ⟨st, pc + 3, pos, pos, false, { wait := .lookNot, pc := pc, pos := pos, outermost := om, kept := { lastmark := -1, lastindex := -1, whole := false, marks := #[] } } :: fr, wt + 1, none, none⟩ := by
  subst hc; exact go_not (x := ⟨st, pc, pos, hd, om, fr, wt, none, none⟩) rfl rfl hp h hb hw
theorem unlook {pc pos' wt : Nat} {om' : Bool} (hc : b.code = c) (pc' to : Nat) (ht : pc' + 1 + c.getD (pc' + 1) 0 = to := by rfl) :
    b.Go 1 ⟨st, pc, pos, hd, om, { wait := .lookNot, pc := pc', pos := pos', outermost := om', kept := { lastmark := -1, lastindex := -1, whole := false, marks := #[] } } :: fr, wt + 1, some false, none⟩ ⟨st, to, pos', hd, om', fr, wt, none, none⟩ := by
  subst hc; subst ht
  exact back_not (x := ⟨st, pc, pos, hd, om, { wait := .lookNot, pc := pc', pos := pos', outermost := om', kept := { lastmark := -1, lastindex := -1, whole := false, marks := #[] } } :: fr, wt + 1, some false, none⟩) rfl rfl rfl rfl rfl
theorem upB {pc pos' pc' : Nat} {om' : Bool} : b.Go 1 ⟨st, pc, pos, hd, om, nb pos' om' pc' :: fr, wt + 1, some true, none⟩ ⟨st, pc', pos', hd, om', fr, wt, some true, none⟩ :=
  back_yes (x := ⟨st, pc, pos, hd, om, nb pos' om' pc' :: fr, wt + 1, some true, none⟩) rfl rfl rfl (.inl rfl)
theorem next {pc pos' : Nat} {om' : Bool} (hc : b.code = c) (alt to : Nat) (hw : wt ≤ 999) (ht : alt + c.getD alt 0 = to := by rfl) (h0 : c.getD to 0 ≠ 0 := by decide) :
    b.Go 1 ⟨st, pc, pos, hd, om, nb pos' om' alt :: fr, wt + 1, some false, none⟩ ⟨st, to + 1, pos', pos', om', nb pos' om' to :: fr, wt + 1, none, none⟩ := by
  subst hc; subst ht
  exact back_branch (x := ⟨st, pc, pos, hd, om, nb pos' om' alt :: fr, wt + 1, some false, none⟩) rfl rfl rfl (by show wt + 1 ≤ 1000; (exact Nat.lt_succ_of_le (by assumption))) h0
noncomputable def ns (s pc : Nat) (om : Bool) : Sre.Frame := { wait := .nextStart, pc := pc, pos := s, outermost := om }
theorem upS {pc pos' pc' : Nat} {om' : Bool} : b.Go 1 ⟨st, pc, pos, hd, om, ns pos' pc' om' :: fr, wt + 1, some true, none⟩ ⟨st, pc', pos', hd, om', fr, wt, some true, none⟩ :=
  back_yes (x := ⟨st, pc, pos, hd, om, ns pos' pc' om' :: fr, wt + 1, some true, none⟩) rfl rfl rfl (.inr rfl)
theorem fin {pc : Nat} {yes : Bool} : b.Go 1 ⟨st, pc, pos, hd, om, [], wt, some yes, none⟩ ⟨st, pc, pos, hd, om, [], wt, some yes, some (if yes then .matched else .failed)⟩ :=
  fin_yes (x := ⟨st, pc, pos, hd, om, [], wt, some yes, none⟩) rfl rfl rfl
end
/-! the pattern for ends of lines -/
noncomputable def code2 : Array Nat := #[14, 9, 4, 1, 2, 16, 10, 16, 13, 0, 7, 7, 16, 13, 16, 10, 15, 18, 5, 16, 10, 15, 13, 11, 16, 13, 5, 5, 0, 16, 10, 1, 15, 2, 0, 1]
theorem eol_rn (hc : b.code = code2) {s : Nat} {om : Bool} (h1 : s + 1 < b.lim) (h2 : b.text.getD s 0 = 13) (h3 : b.text.getD (s + 1) 0 = 10) :
    b.Go 8 ⟨s, 10, s, s, om, [ns s 10 om], 1, none, none⟩ ⟨s, 10, s, s + 2, om, [], 0, some true, some .matched⟩ :=
  ((((((branch hc 10 (by decide)).trans (lit hc 12 (by (exact Nat.le_of_lt (by assumption))) h2)).trans (lit hc 14 h1 h3)).trans (jump hc 16 35)).trans (success hc 35)).trans upB |>.trans upS).trans fin
theorem eol_n (hc : b.code = code2) {s : Nat} {om : Bool} (h1 : s < b.lim) (h2 : b.text.getD s 0 = 10) :
    b.Go 9 ⟨s, 10, s, s, om, [ns s 10 om], 1, none, none⟩ ⟨s, 10, s, s + 1, om, [], 0, some true, some .matched⟩ :=
  (((((((branch hc 10 (by decide)).trans (litNo hc 12 (.inr (by rw [h2]; decide)))).trans (next hc 11 18 (by decide))).trans (lit hc 19 h1 h2)).trans (jump hc 21 35)).trans (success hc 35)).trans upB |>.trans upS).trans fin
theorem eol_r (hc : b.code = code2) {s : Nat} {om : Bool} (h1 : s < b.lim) (h2 : b.text.getD s 0 = 13) (h3 : b.lim ≤ s + 1 ∨ b.text.getD (s + 1) 0 ≠ 10) :
    b.Go 15 ⟨s, 10, s, s, om, [ns s 10 om], 1, none, none⟩ ⟨s, 10, s, s + 1, om, [], 0, some true, some .matched⟩ :=
  ((((((((((((branch hc 10 (by decide)).trans (lit hc 12 h1 h2)).trans (litNo hc 14 h3)).trans (next hc 11 18 (by decide))).trans (litNo hc 19 (.inr (by rw [h2]; decide)))).trans (next hc 18 23 (by decide))).trans
    (lit hc 24 h1 h2)).trans (look' hc 26 (by decide))).trans (litNo hc 29 h3)).trans (unlook hc 26 32)).trans (jump hc 32 35)).trans (success hc 35)).trans upB |>.trans upS |>.trans fin
end
end Mine
end
section
open PySem PySem.Sre
set_option maxRecDepth 100000
set_option linter.unusedVariables false
namespace Mine
noncomputable def isEol (c : Nat) : Bool := c == 10 || c == 13
theorem inset2 (c : Nat) (σ : Seen) : ∃ σ', inSet code2 c 36 5 true σ = .ok (isEol c, σ') := by
  unfold isEol
  cases h : c == 10 with
  | true =>
    refine ⟨σ.add 16, ?_⟩
    show (if (c == 10) = true then _ else _) = _
    rw [if_pos h]; rfl
  | false =>
    cases h' : c == 13 with
    | true =>
      refine ⟨(σ.add 16).add 16, ?_⟩
      show (if (c == 10) = true then _ else (if (c == 13) = true then _ else _)) = _
      rw [if_neg (by rw [h]; decide), if_pos h']; rfl
    | false =>
      refine ⟨((σ.add 16).add 16).add 0, ?_⟩
      show (if (c == 10) = true then _ else (if (c == 13) = true then _ else _)) = _
      rw [if_neg (by rw [h]; decide), if_neg (by rw [h']; decide)]; rfl
theorem admit_some {m : M} (hc : m.code = code2) {e : Nat} (he : e < m.lim) (hE : isEol (m.text.getD e 0) = true) : ∀ (fuel s : Nat) (σ : Seen), s ≤ e → e - s < fuel → (∀ i, s ≤ i → i < e → isEol (m.text.getD i 0) = false) → ∃ σ', M.admitted m fuel s σ = .ok (some e, σ')
  | 0, s, σ, _, h, _ => absurd h (Nat.not_lt_zero _)
  | fuel + 1, s, σ, hs, hf, hn => by
    obtain ⟨σ', hi⟩ := inset2 (m.text.getD s 0) σ
    have hz : m.code.size = 36 := by rw [hc]; rfl
    unfold M.admitted
    rw [if_neg (by lia), hc]
    rw [show code2.size = 36 from rfl, hi]
    by_cases q : s = e
    · subst q
      rw [hE]
      exact ⟨σ', rfl⟩
    · rw [hn s (Nat.le_refl _) (by lia)]
      obtain ⟨σ'', h⟩ := admit_some hc he hE fuel (s + 1) σ' (by lia) (by grind) fun i h1 h2 => hn i (by (exact Nat.le_of_lt (by assumption))) h2
      exact ⟨σ'', h⟩
theorem admit_none {m : M} (hc : m.code = code2) : ∀ (fuel s : Nat) (σ : Seen), (∀ i, s ≤ i → i < m.lim → isEol (m.text.getD i 0) = false) → ∃ σ', M.admitted m fuel s σ = .ok (none, σ')
  | 0, s, σ, _ => ⟨σ, rfl⟩
  | fuel + 1, s, σ, hn => by
    unfold M.admitted
    by_cases q : s ≥ m.lim
    · rw [if_pos q]; exact ⟨σ, rfl⟩
    · obtain ⟨σ', hi⟩ := inset2 (m.text.getD s 0) σ
      rw [if_neg q, hc, show code2.size = 36 from rfl, hi, hn s (Nat.le_refl _) (by (exact Nat.not_le.mp (by assumption)))]
      obtain ⟨σ'', h⟩ := admit_none hc fuel (s + 1) σ' fun i h1 h2 => hn i (by (exact Nat.le_of_lt (by assumption))) h2
      exact ⟨σ'', h⟩
noncomputable def m2 (text : Array Nat) (s : Nat) (must : Bool) : M := { code := code2, text, lim := text.size, start := s, lastStart := text.size, pc := 10, pos := s, handed := s, marks := #[], mustAdvance := must, seen := ({} : Seen).add 14 }
theorem fs2 {text : Array Nat} {s : Nat} {must : Bool} (h : s < text.size) : forSearch code2 text 0 s text.size must = (m2 text s must).attemptFrom s true := by
  unfold forSearch
  dsimp only
  rw [show header code2 = (1, 10) from rfl]
  dsimp only
  rw [if_neg (by simp; grind)]
  rfl
theorem fs2_end {text : Array Nat} {must : Bool} : forSearch code2 text 0 text.size text.size must = M.say { m2 text text.size must with lastStart := 0 } false := by
  unfold forSearch
  dsimp only
  rw [show header code2 = (1, 10) from rfl]
  dsimp only
  rw [if_pos (by simp)]
  rfl
theorem af_some {m : M} {s e : Nat} {first : Bool} {σ : Seen} (hf : m.hasFirstSet = true) (h : M.admitted m (m.lim + 1 - s) s m.seen = .ok (some e, σ)) : m.attemptFrom s first = M.attemptAt { m with mustAdvance := false, seen := σ } e first := by
  unfold M.attemptFrom
  rw [hf, if_neg (by decide), h]
theorem af_none {m : M} {s : Nat} {first : Bool} {σ : Seen} (hf : m.hasFirstSet = true) (h : M.admitted m (m.lim + 1 - s) s m.seen = .ok (none, σ)) : m.attemptFrom s first = M.say { m with seen := σ } false := by
  unfold M.attemptFrom
  rw [hf, if_neg (by decide), h]
/-- the search begins where the first sign stands -/
theorem search2_some {text : Array Nat} {s e : Nat} {must : Bool} (hs : s ≤ e) (he : e < text.size) (hE : isEol (text.getD e 0) = true) (hn : ∀ i, s ≤ i → i < e → isEol (text.getD i 0) = false) :
    ∃ σ, forSearch code2 text 0 s text.size must = Bs.m ⟨code2, text, text.size, text.size⟩ ⟨e, 10, e, e, true, [ns e 10 true], 1, none, none⟩ σ := by
  rw [fs2 (by (exact Nat.lt_of_le_of_lt (by assumption) (by assumption)))]
  obtain ⟨σ, h⟩ := admit_some (m := m2 text s must) rfl he hE (text.size + 1 - s) s (({} : Seen).add 14) hs (by grind) hn
  rw [af_some rfl h]
  unfold M.attemptAt M.attempt
  rw [if_neg (by show ¬ 0 + 1 + 0 > 16777216; decide)]
  exact ⟨σ, rfl⟩
theorem search2_none {text : Array Nat} {s : Nat} {must : Bool} (hs : s ≤ text.size) (hn : ∀ i, s ≤ i → i < text.size → isEol (text.getD i 0) = false) :
    (iter 1 (forSearch code2 text 0 s text.size must)).outcome = some .failed := by
  by_cases q : s < text.size
  · rw [fs2 q]
    obtain ⟨σ, h⟩ := admit_none (m := m2 text s must) rfl (text.size + 1 - s) s (({} : Seen).add 14) hn
    rw [af_none rfl h]
    rfl
  · have e : s = text.size := by lia
    subst e
    rw [fs2_end]; rfl
section
variable {prog : Program} {w : World} {A : Around} {E : Value → Shared → Prop} {s : Shared}
/-- where a sign's end lies -/
noncomputable def eolEnd (text : Array Nat) (e : Nat) : Nat := if text.getD e 0 == 13 && decide (e + 1 < text.size) && text.getD (e + 1) 0 == 10 then e + 2 else e + 1
theorem found2 {text : Array Nat} {st e : Nat} {must : Bool} {Q : Option M → Shared → Prop} (hs : st ≤ e) (he : e < text.size) (hE : isEol (text.getD e 0) = true) (hn : ∀ i, st ≤ i → i < e → isEol (text.getD i 0) = false)
    (h : ∀ m : M, m.start = e → m.handed = eolEnd text e → Q (some m) s) : wpAny (model prog w) A (Builtin.Re.reRunToEnd (forSearch code2 text 0 st text.size must)) Q E s := by
  obtain ⟨σ, e1⟩ := search2_some (must := must) hs he hE hn
  rw [e1]
  have go : ∃ n, n < 2 ^ 64 ∧ Bs.Go ⟨code2, text, text.size, text.size⟩ n ⟨e, 10, e, e, true, [ns e 10 true], 1, none, none⟩ ⟨e, 10, e, eolEnd text e, true, [], 0, some true, some .matched⟩ := by
    by_cases h13 : text.getD e 0 = 13
    · by_cases h10 : e + 1 < text.size ∧ text.getD (e + 1) 0 = 10
      · have : eolEnd text e = e + 2 := by unfold eolEnd; rw [if_pos (by simp only [h13, h10.1, h10.2]; decide)]
        rw [this]; exact ⟨8, by decide, eol_rn rfl h10.1 h13 h10.2⟩
      · have : eolEnd text e = e + 1 := by
          unfold eolEnd; rw [if_neg]
          intro q; simp only [Bool.and_eq_true, decide_eq_true_eq, beq_iff_eq] at q
          exact h10 ⟨q.1.2, q.2⟩
        rw [this]
        refine ⟨15, by decide, eol_r rfl he h13 ?_⟩
        by_cases q : e + 1 < text.size
        · exact .inr fun z => h10 ⟨q, z⟩
        · exact .inl (Nat.not_lt.mp q)
    · have h10 : text.getD e 0 = 10 := by
        unfold isEol at hE
        simp only [Bool.or_eq_true, beq_iff_eq] at hE
        exact hE.resolve_right h13
      have : eolEnd text e = e + 1 := by
        unfold eolEnd; rw [if_neg]
        intro q; simp only [Bool.and_eq_true, decide_eq_true_eq, beq_iff_eq] at q
        exact h13 q.1.1
      rw [this]; exact ⟨9, by decide, eol_n rfl he h10⟩
  obtain ⟨n, hn', g⟩ := go
  obtain ⟨σ', e2⟩ := g σ
  refine end_matched n hn' (by rw [e2]; rfl) ?_
  rw [e2]
  exact h _ rfl rfl
theorem none2 {text : Array Nat} {st : Nat} {must : Bool} {Q : Option M → Shared → Prop} (hs : st ≤ text.size) (hn : ∀ i, st ≤ i → i < text.size → isEol (text.getD i 0) = false) (h : Q none s) :
    wpAny (model prog w) A (Builtin.Re.reRunToEnd (forSearch code2 text 0 st text.size must)) Q E s := end_failed 1 (by decide) (search2_none hs hn) h
end
end Mine
end
section
open PySem PySem.Sre
set_option maxRecDepth 100000
set_option linter.unusedVariables false
namespace Mine
/-! the pattern for a dot at a line's begin -/
noncomputable def code1 : Array Nat := #[14, 4, 0, 1, 1, 6, 1, 16, 46, 1]
noncomputable def bol (text : Array Nat) (i : Nat) : Bool := i == 0 || text.getD (i - 1) 0 == 10
noncomputable def isDot (text : Array Nat) (i : Nat) : Bool := decide (i < text.size) && text.getD i 0 == 46 && bol text i
section
variable {b : Bs} {st pos hd wt : Nat} {om : Bool} {fr : List Sre.Frame}
theorem at_yes (hc : b.code = code1) (h : bol b.text pos = true) : b.Go 1 ⟨st, 5, pos, hd, om, fr, wt, none, none⟩ ⟨st, 7, pos, hd, om, fr, wt, none, none⟩ := Go.one fun σ => by
  rw [step_exec (x := ⟨st, 5, pos, hd, om, fr, wt, none, none⟩) rfl rfl (by rw [hc]; exact (by decide : (5 : Nat) < code1.size)), ex_at (y := true) (by show b.code.getD 5 0 = 6; rw [hc]; rfl) (by
    have e : (b.m ⟨st, 5, pos, hd, om, fr, wt, none, none⟩ σ).word 1 = 1 := by show b.code.getD 6 0 = 1; rw [hc]; rfl
    rw [e]; show Except.ok (bol b.text pos) = _; rw [h])]
  exact ⟨_, rfl⟩
theorem at_no (hc : b.code = code1) (h : bol b.text pos = false) : b.Go 1 ⟨st, 5, pos, hd, om, fr, wt, none, none⟩ ⟨st, 5, pos, hd, om, fr, wt, some false, none⟩ := Go.one fun σ => by
  rw [step_exec (x := ⟨st, 5, pos, hd, om, fr, wt, none, none⟩) rfl rfl (by rw [hc]; exact (by decide : (5 : Nat) < code1.size)), ex_at (y := false) (by show b.code.getD 5 0 = 6; rw [hc]; rfl) (by
    have e : (b.m ⟨st, 5, pos, hd, om, fr, wt, none, none⟩ σ).word 1 = 1 := by show b.code.getD 6 0 = 1; rw [hc]; rfl
    rw [e]; show Except.ok (bol b.text pos) = _; rw [h])]
  exact ⟨_, rfl⟩
theorem hfs1 (m : M) (h : m.code = code1) : m.hasFirstSet = false := by
  unfold M.hasFirstSet; rw [h]; rfl
theorem on_start {pc pos' : Nat} {om' : Bool} (hc : b.code = code1) (hl : pos' < b.last) : b.Go 1 ⟨st, pc, pos, hd, om, [ns pos' 5 om'], 1, some false, none⟩ ⟨pos' + 1, 5, pos' + 1, pos' + 1, false, [ns (pos' + 1) 5 false], 1, none, none⟩ := Go.one fun σ => by
  rw [back (x := ⟨st, pc, pos, hd, om, [ns pos' 5 om'], 1, some false, none⟩) rfl rfl rfl]
  unfold M.resume
  refine ⟨σ, ?_⟩
  show (if pos' < b.last then M.attemptFrom _ (pos' + 1) false else _) = _
  rw [if_pos hl]
  unfold M.attemptFrom
  rw [if_pos (by rw [hfs1 _ hc]; rfl)]
  unfold M.attemptAt M.attempt
  rw [if_neg (by show ¬ 1 - (1 + 0) + 1 + 0 > 16777216; decide)]
  rfl
theorem off_start {pc pos' : Nat} {om' : Bool} (hl : ¬ pos' < b.last) : b.Go 1 ⟨st, pc, pos, hd, om, [ns pos' 5 om'], 1, some false, none⟩ ⟨st, 5, pos', hd, om', [], 0, some false, none⟩ := Go.one fun σ => by
  rw [back (x := ⟨st, pc, pos, hd, om, [ns pos' 5 om'], 1, some false, none⟩) rfl rfl rfl]
  unfold M.resume
  refine ⟨σ, ?_⟩
  show (if pos' < b.last then M.attemptFrom _ (pos' + 1) false else _) = _
  rw [if_neg hl]
  rfl
/-- no dot here: an answer no, in at most two steps -/
theorem no_dot (hc : b.code = code1) (hl : b.lim = b.text.size) {s : Nat} {om : Bool} (h : isDot b.text s = false) : ∃ n pc hd, n ≤ 2 ∧ b.Go n ⟨s, 5, s, s, om, [ns s 5 om], 1, none, none⟩ ⟨s, pc, s, hd, om, [ns s 5 om], 1, some false, none⟩ := by
  by_cases hb : bol b.text s = true
  · refine ⟨2, 7, s, by decide, (at_yes hc hb).trans (litNo hc 7 ?_)⟩
    unfold isDot at h
    rw [hb] at h
    simp only [Bool.and_true, Bool.and_eq_false_iff, decide_eq_false_iff_not, beq_eq_false_iff_ne] at h
    rcases h with h | h
    · exact .inl (by rw [hl]; exact Nat.not_lt.mp h)
    · exact .inr h
  · exact ⟨1, 5, s, by decide, at_no hc (by simpa using hb)⟩
theorem dot (hc : b.code = code1) (hl : b.lim = b.text.size) {s : Nat} {om : Bool} (h : isDot b.text s = true) : b.Go 5 ⟨s, 5, s, s, om, [ns s 5 om], 1, none, none⟩ ⟨s, 5, s, s + 1, om, [], 0, some true, some .matched⟩ := by
  unfold isDot at h
  simp only [Bool.and_eq_true, decide_eq_true_eq, beq_iff_eq] at h
  exact ((((at_yes hc h.2).trans (lit hc 7 (by rw [hl]; exact h.1.1) h.1.2)).trans (success hc 9)).trans upS).trans fin
theorem run_some (hc : b.code = code1) (hl : b.lim = b.text.size) (hla : b.last = b.text.size) {e : Nat} (he : isDot b.text e = true) : ∀ (d s : Nat) (om : Bool), e = s + d → (∀ i, s ≤ i → i < e → isDot b.text i = false) →
    ∃ n om', n ≤ 3 * d + 5 ∧ b.Go n ⟨s, 5, s, s, om, [ns s 5 om], 1, none, none⟩ ⟨e, 5, e, e + 1, om', [], 0, some true, some .matched⟩
  | 0, s, om, h, _ => by subst h; exact ⟨5, om, by (exact Nat.le_refl _), dot hc hl he⟩
  | d + 1, s, om, h, hn => by
    obtain ⟨n, pc, hd, hn2, g1⟩ := no_dot hc hl (om := om) (hn s (Nat.le_refl _) (by simp_all))
    have hlt : e < b.text.size := by unfold isDot at he; simp only [Bool.and_eq_true, decide_eq_true_eq] at he; exact he.1.1
    obtain ⟨n', om', hn', g2⟩ := run_some hc hl hla he d (s + 1) false (by lia) fun i h1 h2 => hn i (by (exact Nat.le_of_lt (by assumption))) h2
    exact ⟨n + 1 + n', om', by lia, (g1.trans (on_start hc (by lia))).trans g2⟩
theorem run_none (hc : b.code = code1) (hl : b.lim = b.text.size) (hla : b.last = b.text.size) : ∀ (d s : Nat) (om : Bool), b.text.size = s + d → (∀ i, s ≤ i → isDot b.text i = false) →
    ∃ n x, n ≤ 3 * d + 5 ∧ b.Go n ⟨s, 5, s, s, om, [ns s 5 om], 1, none, none⟩ x ∧ x.out = some .failed
  | 0, s, om, h, hn => by
    obtain ⟨n, pc, hd, hn2, g1⟩ := no_dot hc hl (om := om) (hn s (Nat.le_refl _))
    exact ⟨n + 1 + 1, _, by lia, (g1.trans (off_start (by simp_all))).trans fin, rfl⟩
  | d + 1, s, om, h, hn => by
    obtain ⟨n, pc, hd, hn2, g1⟩ := no_dot hc hl (om := om) (hn s (Nat.le_refl _))
    obtain ⟨n', x, hn', g2, hx⟩ := run_none hc hl hla d (s + 1) false (by lia) fun i h1 => hn i (by (exact Nat.le_of_lt (by assumption)))
    exact ⟨n + 1 + n', x, by lia, (g1.trans (on_start hc (by simp_all))).trans g2, hx⟩
end
theorem fs1 {text : Array Nat} {s : Nat} (h : s < text.size) : ∃ σ, forSearch code1 text 0 s text.size false = Bs.m ⟨code1, text, text.size, text.size⟩ ⟨s, 5, s, s, true, [ns s 5 true], 1, none, none⟩ σ := by
  unfold forSearch
  dsimp only
  rw [show header code1 = (1, 5) from rfl]
  dsimp only
  rw [if_neg (by simp; grind)]
  unfold M.attemptFrom
  rw [if_pos (by rfl)]
  unfold M.attemptAt M.attempt
  rw [if_neg (by show ¬ 0 + 1 + 0 > 16777216; decide)]
  exact ⟨_, rfl⟩
theorem fs1_end {text : Array Nat} : (iter 1 (forSearch code1 text 0 text.size text.size false)).outcome = some .failed := by
  unfold forSearch
  dsimp only
  rw [show header code1 = (1, 5) from rfl]
  dsimp only
  rw [if_pos (by simp)]
  rfl
section
variable {prog : Program} {w : World} {A : Around} {E : Value → Shared → Prop} {s : Shared}
theorem found1 {text : Array Nat} {st e : Nat} {Q : Option M → Shared → Prop} (hz : text.size < 2 ^ 60) (hs : st ≤ e) (he : isDot text e = true) (hn : ∀ i, st ≤ i → i < e → isDot text i = false) (h : ∀ m : M, m.start = e → m.handed = e + 1 → Q (some m) s) :
    wpAny (model prog w) A (Builtin.Re.reRunToEnd (forSearch code1 text 0 st text.size false)) Q E s := by
  have hlt : e < text.size := by unfold isDot at he; simp only [Bool.and_eq_true, decide_eq_true_eq] at he; exact he.1.1
  obtain ⟨σ, e1⟩ := fs1 (text := text) (s := st) (by (exact Nat.lt_of_le_of_lt (by assumption) (by assumption)))
  rw [e1]
  obtain ⟨n, om', hn', g⟩ := run_some (b := ⟨code1, text, text.size, text.size⟩) rfl rfl rfl he (e - st) st true (by simp_all) hn
  obtain ⟨σ', e2⟩ := g σ
  refine end_matched n (by grind) (by rw [e2]; rfl) ?_
  rw [e2]
  exact h _ rfl rfl
theorem none1 {text : Array Nat} {st : Nat} {Q : Option M → Shared → Prop} (hz : text.size < 2 ^ 60) (hs : st ≤ text.size) (hn : ∀ i, st ≤ i → isDot text i = false) (h : Q none s) :
    wpAny (model prog w) A (Builtin.Re.reRunToEnd (forSearch code1 text 0 st text.size false)) Q E s := by
  by_cases q : st < text.size
  · obtain ⟨σ, e1⟩ := fs1 (text := text) (s := st) q
    rw [e1]
    obtain ⟨n, x, hn', g, hx⟩ := run_none (b := ⟨code1, text, text.size, text.size⟩) rfl rfl rfl (text.size - st) st true (by show text.size = _; simp_all) hn
    obtain ⟨σ', e2⟩ := g σ
    exact end_failed n (by grind) (by rw [e2]; exact hx) h
  · have e : st = text.size := by lia
    subst e
    exact end_failed 1 (by decide) fs1_end h
end
end Mine
end
section
open PySem PySem.W PyProof.Rows
set_option maxRecDepth 100000
set_option linter.unusedVariables false
namespace Mine
theorem plainAttrs_pat : PlainAttrs "re.Pattern" :=
  ⟨⟨"object.__getattribute__", by rw [typeLookup_type, builtinLookup_eq_fast]; kernel_rfl, by decide +kernel⟩, by rw [typeLookup_type, builtinLookup_eq_fast]; kernel_rfl⟩
theorem slot_pat_sub : Slot "re.Pattern" "sub" "re.Pattern.sub" :=
  .of (owner := "re.Pattern") (n := "sub") (by rw [typeLookup_type, builtinLookup_eq_fast]; kernel_rfl) (by decide +kernel) (by decide +kernel) (by decide +kernel)
    (by first | exact .inl (by decide +kernel) | exact .inr (by decide +kernel)) (by rw [isSubtype_type]; kernel_rfl)
theorem type_pat_sub : typeOf (.builtin "re.Pattern.sub") = pure (.type "method_descriptor") := by show builtinType _ = _; rw [builtinType_eq_fast]; kernel_rfl
theorem entry_pat_sub : entryFor table "re.Pattern.sub" = some Builtin.«re.Pattern.sub» := entryFor_of_tree (by kernel_rfl)
theorem entry_pat_loop : entryFor table "re.Pattern.sub.loop" = some Builtin.«re.Pattern.sub.loop» := entryFor_of_tree (by kernel_rfl)
theorem plain_pat_loop : plainId "re.Pattern.sub.loop" = true := by decide +kernel
theorem args_pat_sub (a b c : Value) : argsOk "re.Pattern.sub" ⟨[a, b, c], []⟩ := by unfold argsOk; kernel_rfl
theorem no_call_str : typeLookup (.type "str") "__call__" = pure none := by rw [typeLookup_type, builtinLookup_eq_fast]; kernel_rfl

/-- a pattern stands in the heap -/
structure PatO (p : Addr) (o : Obj) (vs : Array Value) (cd : Addr) (co : Obj) (items : Array Value) (n : Nat) (code : Array Nat) : Prop where
  cls : o.cls = .type "re.Pattern"
  dict : o.dict = none
  data : o.data = .fields vs
  groups : Builtin.Re.reRawNat (vs.getD 2 .none) = 0
  kind : Builtin.Re.reRawNat (vs.getD 6 .none) = 0
  ref : vs.getD 5 .none = .ref cd
  seq : co.data = .seq items n
  code : (items.map Builtin.Re.reRawOf).map (·.toNat) = code
noncomputable def PatAt (h : Heap) (p : Addr) (code : Array Nat) : Prop := ∃ o vs cd co items n, h.get? p = some o ∧ h.get? cd = some co ∧ PatO p o vs cd co items n code
section
variable {prog : Program} {w : World} {A : Around} {E : Value → Shared → Prop} {s : Shared}
theorem whole_wp {p : Addr} {code : Array Nat} {x : Str} {t : Tok} {Q : Builtin.Re.ReTarget → Shared → Prop} (hp : PatAt s.heap p code) (h : Q ⟨.ref p, .str x t, code, x.cps, 0, 0, 0, x.cps.size⟩ s) :
    wpAny (model prog w) A (Builtin.Re.reWholeTarget (.ref p) (.str x t)) Q E s := by
  obtain ⟨o, vs, cd, co, items, n, ho, hco, P⟩ := hp
  unfold Builtin.Re.reWholeTarget
  refine wpAny_bind (wpAny_fieldsOf ho P.data ?_)
  rw [show Builtin.Re.reTextOf (.str x t) = pure (x.cps, 0) from rfl]
  refine wpAny_bind (wpAny_pure ?_)
  dsimp only
  rw [P.kind]
  rw [if_neg (by decide), if_neg (by decide)]
  refine wpAny_bind (m := Builtin.Re.reNoCollectionInside (.str x t) 0) (wpAny_of_eq (a := ()) rfl ?_)
  refine wpAny_bind (m := Builtin.Re.reRawItems (vs.getD 5 .none)) ?_
  unfold Builtin.Re.reRawItems
  rw [P.ref]
  refine wpAny_bind (wpAny_seqItems hco P.seq (wpAny_pure (wpAny_pure ?_)))
  rw [P.groups]
  show Q ⟨.ref p, .str x t, (items.map Builtin.Re.reRawOf).map (·.toNat), x.cps, 0, 0, 0, x.cps.size⟩ s
  rw [P.code]; exact h
end
end Mine
end
section
open PySem PySem.W PyProof.Rows
set_option maxRecDepth 100000
set_option linter.unusedVariables false
namespace Mine
noncomputable def cat (l : List Str) : List Nat := l.flatMap fun x => x.cps.toList
section
variable {prog : Program} {w : World} {A : Around} {E : Value → Shared → Prop} {s : Shared}
/-- what the search does from a place on -/
noncomputable def Fnd (prog : Program) (w : World) (code : Array Nat) (x : Str) (r : List Nat) (spec : Nat → List Nat) (d : Nat) : Prop :=
  ((∀ (A : Around) (E : Value → Shared → Prop) (s : Shared) (Q : Option Sre.M → Shared → Prop), Q none s → wpAny (model prog w) A (Builtin.Re.reRunToEnd (Sre.forSearch code x.cps 0 d x.cps.size false)) Q E s) ∧ spec d = x.cps.toList.drop d) ∨
  ∃ e h, d ≤ e ∧ e < h ∧ h ≤ x.cps.size ∧ (∀ (A : Around) (E : Value → Shared → Prop) (s : Shared) (Q : Option Sre.M → Shared → Prop), (∀ m : Sre.M, m.start = e → m.handed = h → Q (some m) s) →
    wpAny (model prog w) A (Builtin.Re.reRunToEnd (Sre.forSearch code x.cps 0 d x.cps.size false)) Q E s) ∧ spec d = (x.cps.toList.drop d).take (e - d) ++ r ++ spec h
noncomputable abbrev loopArgs (p : Addr) (x : Str) (t : Tok) (r : Str) (u : Tok) (n : Int) (d : Nat) (L : Addr) : Args := ⟨[.ref p, .str x t, .str r u, rawInt 0, rawInt 0, rawInt n, rawInt d, rawInt d, .bool false, .ref L, .bool false], []⟩
noncomputable def PatL (h : Heap) (p : Addr) (code : Array Nat) (L : Addr) : Prop := ∃ o vs cd co items n, h.get? p = some o ∧ h.get? cd = some co ∧ p ≠ L ∧ cd ≠ L ∧ PatO p o vs cd co items n code
theorem PatL.at {h : Heap} {p : Addr} {code : Array Nat} {L : Addr} (x : PatL h p code L) : PatAt h p code := let ⟨o, vs, cd, co, items, n, a, b, _, _, P⟩ := x; ⟨o, vs, cd, co, items, n, a, b, P⟩
theorem PatL.keep {h h' : Heap} {p : Addr} {code : Array Nat} {L : Addr} (x : PatL h p code L) (k : ∀ b o, b ≠ L → h.get? b = some o → h'.get? b = some o) : PatL h' p code L :=
  let ⟨o, vs, cd, co, items, n, a, b, e, f, P⟩ := x; ⟨o, vs, cd, co, items, n, k _ _ e a, k _ _ f b, e, f, P⟩
theorem push_wp {L : Addr} {vs : List Value} {c : Nat} {v : Value} {Q : Unit → Shared → Prop} (hL : s.heap.get? L = some { cls := .type "list", data := .seq vs.toArray c }) (hn : vs.length ≤ 16777216)
    (h : ∀ h', h'.get? L = some { cls := .type "list", data := .seq (vs ++ [v]).toArray (c + 1) } → (∀ b o, b ≠ L → s.heap.get? b = some o → h'.get? b = some o) → Q () { s with heap := h' }) : wpAny (model prog w) A (updateSeq L (·.push v)) Q E s := by
  refine wpAny_updateSeq hL rfl (h _ ?_ fun b o hb e => (Heap.SameBut.update ..).extBut b o hb e) (by simp; exact small_line hn) (by simp; have := small_line hn; omega)
  have e := Heap.get?_update_self (Obj.mapSeq (·.push v)) hL rfl
  rw [Obj.mapSeq_push_plain] at e
  rw [e]; simp
theorem strs_snoc {vs : List Value} {ys : List Str} {y : Str} {t : Tok} (h : StrsAre vs ys) : StrsAre (vs ++ [.str y t]) (ys ++ [y]) := by
  induction h with
  | nil => exact .cons _ _ .nil
  | cons a b _ ih => exact .cons _ _ ih
theorem cat_snoc (ys : List Str) (y : Str) : cat (ys ++ [y]) = cat ys ++ y.cps.toList := by simp [cat]
theorem len_cat (ys : List Str) : (ys.map (·.length)).sum = (cat ys).length := by
  induction ys with
  | nil => rfl
  | cons y ys ih => simp only [List.map_cons, List.sum_cons, ih, cat, List.flatMap_cons, List.length_append]; rfl
theorem fold_cat (ys : List Str) : ∀ acc : Array Nat, (ys.foldl (fun acc p => acc ++ (#[] : Array Nat) ++ p.cps) acc).toList = acc.toList ++ cat ys := by
  induction ys with
  | nil => intro acc; simp [cat]
  | cons y ys ih => intro acc; rw [List.foldl_cons, ih]; simp [cat]
theorem join_cat (ys : List Str) : Txt.join ⟨#[]⟩ ys = ⟨(cat ys).toArray⟩ := by
  show (⟨(ys.drop 1).foldl (fun acc p => acc ++ (#[] : Array Nat) ++ p.cps) (ys.headD Str.empty).cps⟩ : Str) = _
  congr 1
  apply Array.toList_inj.mp
  rw [fold_cat]
  cases ys with
  | nil => rfl
  | cons y ys => simp [cat]
theorem again_wp {p : Addr} {x r : Str} {t u : Tok} {n : Int} {h e : Nat} {L : Addr} {R : Result → Shared → Prop} (hne : (h == e) = false) (hc : codeAny (model prog w) A (.builtin "re.Pattern.sub.loop" (loopArgs p x t r u (n + 1) h L)) R s) :
    wpAny (model prog w) A.in1 (again (.builtin "re.Pattern.sub.loop" ⟨[.ref p, .str x t, .str r u, rawInt 0, rawInt 0, rawInt (n + 1), rawInt h, rawInt h, .bool (h == e), .ref L, .bool false], []⟩))
      (fun fin s' => match fin with | .done f => R (.ok f) s' | .again c' => c'.quiet = true ∧ codeAny (model prog w) A c' R s') (fun e s' => R (.error e) s') s := by
  rw [hne]
  exact wpAny_pure ⟨Code.quiet_builtin _ (by decide +kernel), hc⟩
theorem sub_loop {p : Addr} {code : Array Nat} {x r : Str} {t u : Tok} {spec : Nat → List Nat} (hf : ∀ d, d ≤ x.cps.size → Fnd prog w code x r.cps.toList spec d) (hx : x.cps.size ≤ 4000000) :
    ∀ (k : Nat) (n : Int) (d : Nat) (L : Addr) (s : Shared) (ys : List Str) (vs : List Value) (c : Nat) (R : Result → Shared → Prop), x.cps.size - d < k → d ≤ x.cps.size → PatL s.heap p code L → s.heap.get? L = some { cls := .type "list", data := .seq vs.toArray c } →
      StrsAre vs ys → ys.length ≤ 2 * d → (cat ys).length + (spec d).length ≤ 16777216 →
      (∀ h' tk t', (∀ b o, b ≠ L → s.heap.get? b = some o → h'.get? b = some o) → R (.ok (.ret (.str ⟨(cat ys ++ spec d).toArray⟩ t'))) { s with heap := h', toks := tk }) →
      codeAny (model prog w) A (.builtin "re.Pattern.sub.loop" (loopArgs p x t r u n d L)) R s := by
  intro k
  induction k with
  | zero => intro n d L s ys vs c R hk; exact absurd hk (Nat.not_lt_zero _)
  | succ k ih =>
    intro n d L s ys vs c R hk hd hp hL hS hn hsz hR
    have hlen : vs.length = ys.length := hS.length
    refine codeAny_builtin entry_pat_loop ?_
    rw [Around.under_plainId plain_pat_loop]
    show wpAny _ _ (Builtin.Re.reWholeTarget (.ref p) (.str x t) >>= _) _ _ _
    refine wpAny_bind (whole_wp hp.at ?_)
    show wpAny _ _ (Builtin.Re.reLiteralCannotBeTurned (.str r u) >>= _) _ _ _
    refine wpAny_bind (wpAny_of_eq (a := ()) rfl ?_)
    show wpAny _ _ (Builtin.Re.reRunToEnd (Sre.forSearch code x.cps 0 d x.cps.size false) >>= _) _ _ _
    refine wpAny_bind ?_
    rcases hf d hd with ⟨hnone, hspec⟩ | ⟨e, h, hde, heh, hhz, hfound, hspec⟩
    · refine hnone _ _ _ _ ?_
      by_cases hlt : d < x.cps.size
      · show wpAny _ _ (if d < x.cps.size then _ else _) _ _ _
        rw [if_pos hlt]
        show wpAny _ _ (mkStr ⟨x.cps.extract d x.cps.size⟩ >>= _) _ _ _
        have hex : (x.cps.extract d x.cps.size).toList = x.cps.toList.drop d := by rw [Array.toList_extract, List.extract, List.take_of_length_le (by simp)]
        refine wpAny_bind (wpAny_mkStr ?_ (by show (x.cps.extract d x.cps.size).size ≤ sizeLine; exact small_line (by simp; lia)))
        refine wpAny_bind (push_wp (s := { s with toks := s.toks + 1 }) hL (by lia) fun h₁ hL₁ hk₁ => ?_)
        show wpAny _ _ (mkStr ⟨x.cps.extract 0 0⟩ >>= _) _ _ _
        refine wpAny_bind (wpAny_mkStr ?_ (by show (x.cps.extract 0 0).size ≤ sizeLine; exact small_line (by simp)))
        refine wpAny_bind (m := seqItems? (.ref L)) (wpAny_seqItems hL₁ rfl ?_)
        show wpAny _ _ (if (vs ++ [Value.str ⟨x.cps.extract d x.cps.size⟩ s.toks]).toArray.isEmpty = true then _ else _) _ _ _
        rw [if_neg (by simp)]
        have hc : cat (ys ++ [⟨x.cps.extract d x.cps.size⟩]) = cat ys ++ spec d := by rw [cat_snoc, hspec, ← hex]
        have hj := strs_snoc (y := ⟨x.cps.extract d x.cps.size⟩) (t := s.toks) hS
        rw [show x.cps.extract 0 0 = #[] by simp]
        refine wpAny_bind (join_list (ys := ys ++ [⟨x.cps.extract d x.cps.size⟩]) ⟨_, hL₁, rfl, _, rfl⟩ (by simpa using hj) ?_ fun t' tk => ?_)
        · show _ + _ * 0 ≤ _
          rw [Nat.mul_zero, Nat.add_zero, len_cat, hc, List.length_append]; exact hsz
        · rw [join_cat, hc]
          refine wpAny_pure ?_
          exact hR h₁ tk t' hk₁
      · have hz : spec d = [] := by rw [hspec, List.drop_of_length_le (by simp; (exact Nat.not_lt.mp (by assumption)))]
        show wpAny _ _ (if d < x.cps.size then _ else _) _ _ _
        rw [if_neg hlt]
        show wpAny _ _ (mkStr ⟨x.cps.extract 0 0⟩ >>= _) _ _ _
        refine wpAny_bind (wpAny_mkStr ?_ (by show (x.cps.extract 0 0).size ≤ sizeLine; exact small_line (by simp)))
        refine wpAny_bind (m := seqItems? (.ref L)) (wpAny_seqItems hL rfl ?_)
        rw [show x.cps.extract 0 0 = #[] by simp]
        cases vs with
        | nil =>
          have hy : ys = [] := by cases ys with
            | nil => rfl
            | cons y ys => simp at hlen
          show wpAny _ _ (pure (Value.str ⟨#[]⟩ s.toks) >>= _) _ _ _
          refine wpAny_bind (wpAny_pure ?_)
          refine wpAny_pure ?_
          have := hR s.heap (s.toks + 1) s.toks fun b o _ e => e
          rw [hz, hy] at this
          exact this
        | cons v vs =>
          show wpAny _ _ (if (v :: vs).toArray.isEmpty = true then _ else _) _ _ _
          rw [if_neg (by simp)]
          refine wpAny_bind (join_list (ys := ys) ⟨_, hL, rfl, _, rfl⟩ (by simpa using hS) ?_ fun t' tk => ?_)
          · show _ + _ * 0 ≤ _
            rw [Nat.mul_zero, Nat.add_zero, len_cat]; (exact Nat.le_trans (Nat.le_add_right _ _) (by assumption))
          · rw [join_cat]
            refine wpAny_pure ?_
            have := hR s.heap tk t' fun b o _ e => e
            rw [hz, List.append_nil] at this
            exact this
    · refine hfound _ _ _ _ fun m hm1 hm2 => ?_
      by_cases hlt : d < e
      · show wpAny _ _ (if d < m.start then _ else _) _ _ _
        rw [if_pos (by rw [hm1]; exact hlt)]
        show wpAny _ _ (mkStr ⟨x.cps.extract d m.start⟩ >>= _) _ _ _
        rw [hm1]
        have hex : (x.cps.extract d e).toList = (x.cps.toList.drop d).take (e - d) := by simp [List.extract]
        refine wpAny_bind (wpAny_mkStr ?_ (by show (x.cps.extract d e).size ≤ sizeLine; exact small_line (by simp; grind)))
        refine wpAny_bind (push_wp (s := { s with toks := s.toks + 1 }) hL (by lia) fun h₁ hL₁ hk₁ => ?_)
        show wpAny _ _ (updateSeq L (·.push (.str r u)) >>= _) _ _ _
        refine wpAny_bind (push_wp hL₁ (by rw [List.length_append, List.length_singleton]; lia) fun h' hL' hk' => ?_)
        rw [hm2]
        refine again_wp (beq_eq_false_iff_ne.mpr (by (exact Nat.ne_of_gt (by assumption)))) ?_
        have hk2 : ∀ b o, b ≠ L → s.heap.get? b = some o → h'.get? b = some o := fun b o hb q => hk' b o hb (hk₁ b o hb q)
        have hc : cat (ys ++ [⟨x.cps.extract d e⟩] ++ [r]) = cat ys ++ ((x.cps.toList.drop d).take (e - d) ++ r.cps.toList) := by rw [cat_snoc, cat_snoc, ← hex, List.append_assoc]
        refine ih (n + 1) h L _ (ys ++ [⟨x.cps.extract d e⟩] ++ [r]) (vs ++ [.str ⟨x.cps.extract d e⟩ s.toks] ++ [.str r u]) (c + 1 + 1) R (by grind) hhz (hp.keep hk2) hL' (strs_snoc (strs_snoc hS)) (by simp only [List.length_append, List.length_singleton]; lia) ?_ fun h'' tk t' hk'' => ?_
        · rw [hc]; rw [hspec] at hsz; simp only [List.length_append] at hsz ⊢; lia
        · have := hR h'' tk t' fun b o hb q => hk'' b o hb (hk2 b o hb q)
          rw [hspec] at this
          rw [hc]
          simp only [List.append_assoc] at this ⊢; exact this
      · show wpAny _ _ (if d < m.start then _ else _) _ _ _
        rw [if_neg (by rw [hm1]; exact hlt)]
        show wpAny _ _ (updateSeq L (·.push (.str r u)) >>= _) _ _ _
        refine wpAny_bind (push_wp hL (by lia) fun h' hL' hk' => ?_)
        rw [hm1, hm2]
        refine again_wp (beq_eq_false_iff_ne.mpr (by omega)) ?_
        have he : e = d := by lia
        have hspec' : spec d = r.cps.toList ++ spec h := by rw [hspec, he, Nat.sub_self, List.take_zero, List.nil_append]
        refine ih (n + 1) h L _ (ys ++ [r]) (vs ++ [.str r u]) (c + 1) R (by grind) hhz (hp.keep hk') hL' (strs_snoc hS) (by rw [List.length_append, List.length_singleton]; lia) ?_ fun h'' tk t' hk'' => ?_
        · rw [cat_snoc, List.length_append]; rw [hspec', List.length_append] at hsz; lia
        · have := hR h'' tk t' fun b o hb q => hk'' b o hb (hk' b o hb q)
          rw [hspec'] at this
          rw [cat_snoc, List.append_assoc]; exact this
end
end Mine
end
section
open PySem PySem.W PyProof.Rows
set_option maxRecDepth 100000
set_option linter.unusedVariables false
namespace Mine
section
variable {prog : Program} {w : World} {A : Around} {E : Value → Shared → Prop} {s : Shared}
theorem named_sub (r x : Value) : Builtin.Re.reNamed "re.Pattern.sub" "sub" ["repl", "string", "count"] 2 [r, x] [] = pure [some r, some x, none] := by rfl
theorem sub_call {p : Addr} {code : Array Nat} {x r : Str} {t u : Tok} {spec : Nat → List Nat} {Q : Value → Shared → Prop} (hp : PatAt s.heap p code) (hr : r.cps.contains 92 = false) (hf : ∀ d, d ≤ x.cps.size → Fnd prog w code x r.cps.toList spec d) (hx : x.cps.size ≤ 4000000)
    (hz : (spec 0).length ≤ 16777216) (h : ∀ h' tk t', Kp s.heap h' → Q (.str ⟨(spec 0).toArray⟩ t') { s with heap := h', toks := tk }) : wpAny (model prog w) A (call (.builtin "re.Pattern.sub") [.ref p, .str r u, .str x t]) Q E s := by
  obtain ⟨o, vs, cd, co, items, n, ho, hco, P⟩ := hp
  refine wpAny_call (codeAny_call_builtin slot_pat_sub.plain entry_pat_sub (slot_pat_sub.check _ _ _ _ _ _ _ _ ⟨o, ho, P.cls⟩ (args_pat_sub _ _ _) ?_))
  show wpAny _ _ (Builtin.Re.reNamed "re.Pattern.sub" "sub" ["repl", "string", "count"] 2 [.str r u, .str x t] [] >>= _) _ _ _
  rw [named_sub]
  refine wpAny_bind (wpAny_pure ?_)
  show wpAny _ _ (pure (0 : Int) >>= _) _ _ _
  refine wpAny_bind (wpAny_pure ?_)
  refine wpAny_bind (wpAny_specialOf (typeIs_str s r u) no_call_str ?_)
  dsimp only
  rw [if_neg (by decide)]
  refine wpAny_bind (m := asStr? (.str r u)) (wpAny_of_eq (a := some r) rfl ?_)
  dsimp only
  refine wpAny_bind (wpAny_pure ?_)
  rw [hr, if_neg (by decide), if_pos (by decide)]
  refine wpAny_bind (wpAny_pure ?_)
  dsimp only
  refine wpAny_bind (wpAny_holding (whole_wp ⟨o, vs, cd, co, items, n, ho, hco, P⟩ ?_))
  rw [if_neg (by decide)]
  show wpAny _ _ (newList [] >>= _) _ _ _
  refine wpAny_bind (wpAny_newObj_type ?_ (by show #[].size ≤ sizeLine; exact small_line (Nat.zero_le _)))
  refine wpAny_pure ⟨Code.quiet_builtin _ (by decide +kernel), ?_⟩
  have lt : ∀ {a ob}, s.heap.get? a = some ob → a ≠ s.heap.objs.size := fun e => Nat.ne_of_lt (Heap.lt_size e)
  refine sub_loop hf hx (x.cps.size + 1) 0 0 s.heap.objs.size _ [] [] 0 _ (by (exact Nat.lt_succ_self _)) (by (exact Nat.zero_le _)) ⟨o, vs, cd, co, items, n, Heap.get?_push_of_some _ ho, Heap.get?_push_of_some _ hco, lt ho, lt hco, P⟩ (Heap.get?_push_size _ rfl) .nil (by simp) (by simpa [cat] using hz) fun h' tk t' hk => ?_
  exact h h' tk t' fun b o e => hk b o (Nat.ne_of_lt (Heap.lt_size e)) (Heap.get?_push_of_some _ e)
end
end Mine
end
section
open PySem PySem.W PyProof.Rows
set_option maxRecDepth 100000
set_option linter.unusedVariables false
namespace Mine
/-- ends of lines, made even -/
noncomputable def eolL : List Nat → List Nat
  | [] => []
  | 13 :: 10 :: r => 13 :: 10 :: eolL r
  | 13 :: r => 13 :: 10 :: eolL r
  | 10 :: r => 13 :: 10 :: eolL r
  | c :: r => c :: eolL r
theorem eolL_plain {c : Nat} (r : List Nat) (h : isEol c = false) : eolL (c :: r) = c :: eolL r := by
  unfold isEol at h
  simp only [Bool.or_eq_false_iff, beq_eq_false_iff_ne] at h
  rw [eolL]
  · intro r' e; exact fun h' => h.2 e
  · exact fun e => h.2 e
  · exact fun e => h.1 e
theorem eolL_app (p r : List Nat) (h : ∀ c ∈ p, isEol c = false) : eolL (p ++ r) = p ++ eolL r := by
  induction p with
  | nil => rfl
  | cons c p ih => rw [List.cons_append, eolL_plain _ (h c List.mem_cons_self), ih fun c hc => h c (List.mem_cons_of_mem _ hc)]; rfl
theorem eolL_10 (r : List Nat) : eolL (10 :: r) = 13 :: 10 :: eolL r := by rw [eolL]
theorem eolL_1310 (r : List Nat) : eolL (13 :: 10 :: r) = 13 :: 10 :: eolL r := by rw [eolL]
theorem eolL_13 (r : List Nat) (h : r.head? ≠ some 10) : eolL (13 :: r) = 13 :: 10 :: eolL r := by
  cases r with
  | nil => rfl
  | cons c r =>
    rw [eolL]
    intro r' e
    cases e; simp at h
theorem getD_list (a : Array Nat) (i : Nat) : a.getD i 0 = (a.toList[i]?).getD 0 := by
  rw [Array.getD_eq_getD_getElem?, Array.getElem?_toList]
/-- a text cut where the first sign of a kind stands -/
theorem first_of (f : Nat → Bool) (l : List Nat) : (∀ c ∈ l, f c = false) ∨ ∃ p c r, l = p ++ c :: r ∧ (∀ c ∈ p, f c = false) ∧ f c = true := by
  induction l with
  | nil => exact .inl (fun c h => by cases h)
  | cons c l ih =>
    by_cases h : f c = true
    · exact .inr ⟨[], c, l, rfl, (fun c h => by cases h), h⟩
    · have h : f c = false := by simpa using h
      rcases ih with ih | ⟨p, c', r, e, hp, hc⟩
      · refine .inl (fun c' hc => ?_)
        rcases List.mem_cons.mp hc with e | hc
        · rw [e]; exact h
        · exact ih _ hc
      · refine .inr ⟨c :: p, c', r, by rw [e]; rfl, (fun c'' hc' => ?_), hc⟩
        rcases List.mem_cons.mp hc' with e | hc'
        · rw [e]; exact h
        · exact hp _ hc'
theorem eolEnd_gt (text : Array Nat) (e : Nat) : e < eolEnd text e := by
  unfold eolEnd
  by_cases q : (text.getD e 0 == 13 && decide (e + 1 < text.size) && text.getD (e + 1) 0 == 10) = true
  · rw [if_pos q]; (exact Nat.le_succ _)
  · rw [if_neg q]; (exact Nat.lt_succ_self _)
theorem eolEnd_le {text : Array Nat} {e : Nat} (h : e < text.size) : eolEnd text e ≤ text.size := by
  unfold eolEnd
  by_cases q : (text.getD e 0 == 13 && decide (e + 1 < text.size) && text.getD (e + 1) 0 == 10) = true
  · rw [if_pos q]; simp only [Bool.and_eq_true, decide_eq_true_eq] at q; have := q.1.2; assumption
  · rw [if_neg q]; exact h
theorem drop_get {l p r : List Nat} {c d : Nat} (h : l.drop d = p ++ c :: r) : l[d + p.length]? = some c ∧ (∀ i, d ≤ i → i < d + p.length → ∃ y ∈ p, l[i]? = some y) ∧ d + p.length < l.length ∧ l[d + p.length + 1]? = r.head? ∧ l.drop (d + p.length + 1) = r := by
  have e : ∀ k, l[d + k]? = (p ++ c :: r)[k]? := fun k => by rw [← h, List.getElem?_drop]
  have hlen : l.length - d = p.length + (r.length + 1) := by have := congrArg List.length h; simpa using this
  refine ⟨by rw [e]; simp, fun i h1 h2 => ?_, by omega, ?_, ?_⟩
  · obtain ⟨k, rfl⟩ : ∃ k, i = d + k := ⟨i - d, by simp_all⟩
    have hk : k < p.length := by simp_all
    refine ⟨p[k], List.getElem_mem hk, ?_⟩
    rw [e, List.getElem?_append_left hk, List.getElem?_eq_getElem hk]
  · rw [Nat.add_assoc, e, List.getElem?_append_right (by (exact Nat.le_succ _))]
    rw [show p.length + 1 - p.length = 1 by simp]
    cases r <;> rfl
  · have : l.drop (d + p.length + 1) = (l.drop d).drop (p.length + 1) := by rw [List.drop_drop]; congr 1
    rw [this, h, List.drop_append]
    simp
noncomputable def spec2 (x : Str) (d : Nat) : List Nat := eolL (x.cps.toList.drop d)
theorem fnd2 {prog : Program} {w : World} (x : Str) (d : Nat) (hd : d ≤ x.cps.size) : Fnd prog w code2 x [13, 10] (spec2 x) d := by
  rcases first_of isEol (x.cps.toList.drop d) with h | ⟨p, c, r, hl, hp, hc⟩
  · refine .inl ⟨fun A E s Q hq => none2 hd (fun i h1 h2 => ?_) hq, ?_⟩
    · rw [getD_list]
      have hi : x.cps.toList[i]? = some x.cps.toList[i] := List.getElem?_eq_getElem (by simpa using h2)
      rw [hi]
      refine h _ ?_
      have : (x.cps.toList.drop d)[i - d]? = some x.cps.toList[i] := by rw [List.getElem?_drop, show d + (i - d) = i by simp_all, hi]
      exact List.mem_of_getElem? this
    · unfold spec2
      have := eolL_app _ [] h
      rw [List.append_nil] at this
      rw [this]; exact List.append_nil _
  · obtain ⟨g1, g2, g3, g4, g5⟩ := drop_get hl
    have hsz : d + p.length < x.cps.size := by simpa using g3
    have hget : x.cps.getD (d + p.length) 0 = c := by rw [getD_list, g1]; rfl
    have hget1 : x.cps.getD (d + p.length + 1) 0 = r.head?.getD 0 := by rw [getD_list, g4]
    have hlen : x.cps.size = d + p.length + 1 + r.length := by
      have := congrArg List.length hl
      simp at this; grind
    refine .inr ⟨d + p.length, eolEnd x.cps (d + p.length), by (exact Nat.le_add_right _ _), eolEnd_gt _ _, eolEnd_le hsz, fun A E s Q hq => found2 (by omega) hsz (by rw [hget]; exact hc) (fun i h1 h2 => ?_) hq, ?_⟩
    · obtain ⟨y, hy, e⟩ := g2 i h1 h2
      rw [getD_list, e]; exact hp y hy
    · unfold spec2
      rw [hl, eolL_app _ _ hp, show d + p.length - d = p.length by simp, List.take_left' rfl, List.append_assoc]
      congr 1
      unfold eolEnd
      rw [hget, hget1]
      by_cases q : c = 13 ∧ r.head? = some 10
      · obtain ⟨rfl, q⟩ := q
        obtain ⟨r', rfl⟩ : ∃ r', r = 10 :: r' := by
          cases r with
          | nil => cases q
          | cons y r' => exact ⟨r', by rw [(Option.some.inj q)]⟩
        rw [if_pos (by simp at hlen ⊢; simp_all), eolL_1310]
        have : x.cps.toList.drop (d + p.length + 2) = r' := by
          have e : x.cps.toList.drop (d + p.length + 2) = (x.cps.toList.drop (d + p.length + 1)).drop 1 := by rw [List.drop_drop]
          rw [e, g5]; rfl
        rw [this]; rfl
      · rw [if_neg, g5]
        · by_cases q13 : c = 13
          · subst q13
            rw [eolL_13 _ fun z => q ⟨rfl, z⟩]; rfl
          · have : c = 10 := by
              unfold isEol at hc
              simp only [Bool.or_eq_true, beq_iff_eq] at hc
              exact hc.resolve_right q13
            subst this
            rw [eolL_10]; rfl
        · intro z
          simp only [Bool.and_eq_true, decide_eq_true_eq, beq_iff_eq] at z
          apply q
          refine ⟨z.1.1, ?_⟩
          cases r with
          | nil => simp at hlen; simp_all
          | cons y r' => have := z.2; simp at this; simp [this]
end Mine
end
section
open PySem PySem.W PyProof.Rows
set_option maxRecDepth 100000
set_option linter.unusedVariables false
namespace Mine
/-- a dot at a line's begin, doubled -/
noncomputable def dotL : Bool → List Nat → List Nat
  | _, [] => []
  | b, c :: r => (if b && c == 46 then [46, 46] else [c]) ++ dotL (c == 10) r
noncomputable def spec1 (x : Str) (d : Nat) : List Nat := dotL (bol x.cps d) (x.cps.toList.drop d)
theorem bol_succ (x : Str) {d : Nat} {c : Nat} (h : x.cps.toList[d]? = some c) : bol x.cps (d + 1) = (c == 10) := by
  unfold bol
  rw [Nat.add_sub_cancel, getD_list, h]
  rfl
theorem dot_skip (x : Str) : ∀ (k d : Nat), d + k ≤ x.cps.size → (∀ i, d ≤ i → i < d + k → isDot x.cps i = false) → spec1 x d = (x.cps.toList.drop d).take k ++ spec1 x (d + k)
  | 0, d, _, _ => rfl
  | k + 1, d, h, hn => by
    have hd : d < x.cps.toList.length := by simpa using (by (exact Nat.lt_of_le_of_lt (Nat.le_add_right _ _) (by assumption)) : d < x.cps.size)
    have hg : x.cps.toList[d]? = some x.cps.toList[d] := List.getElem?_eq_getElem hd
    have e : x.cps.toList.drop d = x.cps.toList[d] :: x.cps.toList.drop (d + 1) := List.drop_eq_getElem_cons hd
    have h0 := hn d (Nat.le_refl _) (by simp)
    have e2 : (bol x.cps d && x.cps.toList[d] == 46) = false := by
      unfold isDot at h0
      rw [getD_list, hg] at h0
      have : decide (d < x.cps.size) = true := by simpa using hd
      rw [this] at h0
      cases hb : bol x.cps d with
      | false => rfl
      | true => rw [hb] at h0; simpa using h0
    have ih := dot_skip x k (d + 1) (by lia) fun i h1 h2 => hn i (by (exact Nat.le_of_lt (by assumption))) (by lia)
    have s1 : spec1 x d = x.cps.toList[d] :: spec1 x (d + 1) := by
      unfold spec1
      rw [e, dotL, e2, bol_succ x hg]; rfl
    rw [s1, ih, e, List.take_succ_cons, List.cons_append]
    congr 2
    congr 1
    (simp +arith)
theorem find_dot (x : Str) : ∀ (k d : Nat), x.cps.size = d + k → (∀ i, d ≤ i → isDot x.cps i = false) ∨ ∃ e, d ≤ e ∧ isDot x.cps e = true ∧ ∀ i, d ≤ i → i < e → isDot x.cps i = false
  | 0, d, h => .inl fun i hi => by unfold isDot; rw [show decide (i < x.cps.size) = false from decide_eq_false (by simp_all)]; rfl
  | k + 1, d, h => by
    cases q : isDot x.cps d with
    | true => exact .inr ⟨d, Nat.le_refl _, q, fun i h1 h2 => by (exact absurd (by assumption) (Nat.not_lt_of_le (by assumption)))⟩
    | false =>
      rcases find_dot x k (d + 1) (by lia) with h' | ⟨e, h1, h2, h3⟩
      · refine .inl fun i hi => ?_
        by_cases z : i = d
        · rw [z]; exact q
        · exact h' i (by lia)
      · refine .inr ⟨e, by (exact Nat.le_of_lt (by assumption)), h2, fun i hi hie => ?_⟩
        by_cases z : i = d
        · rw [z]; exact q
        · exact h3 i (by lia) hie
theorem fnd1 {prog : Program} {w : World} (x : Str) (hx : x.cps.size < 2 ^ 60) (d : Nat) (hd : d ≤ x.cps.size) : Fnd prog w code1 x [46, 46] (spec1 x) d := by
  rcases find_dot x (x.cps.size - d) d (by simp_all) with h | ⟨e, h1, h2, h3⟩
  · refine .inl ⟨fun A E s Q hq => none1 hx hd h hq, ?_⟩
    rw [dot_skip x (x.cps.size - d) d (by simp_all) fun i hi _ => h i hi]
    have e1 : d + (x.cps.size - d) = x.cps.size := by simp_all
    rw [e1]
    have e2 : spec1 x x.cps.size = [] := by unfold spec1; rw [List.drop_of_length_le (by simp)]; rfl
    rw [e2, List.append_nil, List.take_of_length_le (by simp)]
  · have hlt : e < x.cps.size := by unfold isDot at h2; simp only [Bool.and_eq_true, decide_eq_true_eq] at h2; exact h2.1.1
    refine .inr ⟨e, e + 1, h1, by (exact Nat.lt_succ_self _), hlt, fun A E s Q hq => found1 hx h1 h2 h3 hq, ?_⟩
    have sk := dot_skip x (e - d) d (by grind) fun i hi hi2 => h3 i hi (by simp_all)
    rw [show d + (e - d) = e by simp_all] at sk
    rw [sk, List.append_assoc]
    congr 1
    have hel : e < x.cps.toList.length := by simpa using hlt
    have hg : x.cps.toList[e]? = some x.cps.toList[e] := List.getElem?_eq_getElem hel
    have ec : x.cps.toList.drop e = x.cps.toList[e] :: x.cps.toList.drop (e + 1) := List.drop_eq_getElem_cons hel
    unfold isDot at h2
    rw [getD_list, hg] at h2
    simp only [Bool.and_eq_true, decide_eq_true_eq, beq_iff_eq, Option.getD_some] at h2
    unfold spec1
    rw [ec, dotL, h2.2, h2.1.2, bol_succ x (hg.trans (by rw [h2.1.2]))]; rfl
section
variable {prog : Program} {w : World} {K : View} {F : Fr} {c : Cfg}
/-- a pattern -/
noncomputable def RPat (code : Array Nat) : Rel := ⟨fun g v => ∃ p o vs cd co items n, v = .ref p ∧ g p = some o ∧ g cd = some co ∧ PatO p o vs cd co items n code, fun k hpat => by obtain ⟨p, o, vs, cd, co, items, n, e, a, b, P⟩ := hpat; exact ⟨p, o, vs, cd, co, items, n, e, k _ _ a, k _ _ b, P⟩⟩
theorem ty_pat {code : Array Nat} : Ty (RPat code) "re.Pattern" := fun g s v hs hpat => by
  obtain ⟨p, o, vs, cd, co, items, n, e, a, b, P⟩ := hpat
  subst e
  exact ⟨⟨o, hs _ _ a, P.cls⟩, fun q h => by cases h; exact ⟨o, hs _ _ a, P.dict⟩⟩
theorem Ev.sub2 {o e1 e2 : Expr} {apos pos : Pos} {x : Str} (ho : Ev prog w (F.ctx K c) o (RPat code2)) (h1 : Ev prog w (F.ctx K c) e1 (RS ⟨#[13, 10]⟩)) (h2 : Ev prog w (F.ctx K c) e2 (RS x)) (hx : x.cps.size ≤ 4000000) (hz : (eolL x.cps.toList).length ≤ 16777216)
    (hbase : attributeBase o "sub" F.env (eval o F.env) = eval o F.env := by rfl)
    (hfew : ((backTo pos (starEach [e1, e2] F.env)).all (fun x => !x.1) && (backToKw pos (keywordEach [] F.env)).all (fun x => x.1.isSome)
      && decide (([e1, e2] : List Expr).length + ([] : List Keyword).length + (if ([] : List Keyword).isEmpty then 0 else 1) < 30)) = true := by rfl)
    (hline : (apos.endLine == pos.line) = true := by rfl) (hs : starEach [e1, e2] F.env = (false, eval e1 F.env) :: starEach [e2] F.env := by rfl) (hs2 : starEach [e2] F.env = (false, eval e2 F.env) :: starEach [] F.env := by rfl)
    (hp : (backTo pos (starEach [e2] F.env)).any (·.1) = false := by rfl) :
    Ev prog w (F.ctx K c) (.Call (.Attribute o "sub" apos) [e1, e2] [] pos) (RS ⟨(eolL x.cps.toList).toArray⟩) :=
  Ev.meth ho plainAttrs_pat slot_pat_sub type_pat_sub ty_pat (Evs.cons h1 (Evs.cons h2 Evs.nil hs2) hs) (fun ov vs => .mk fun g s ok hpat => by
    obtain ⟨hv, ha⟩ := hpat
    have ok : Fm K F c g s := ok
    obtain ⟨p, o, fs, cd, co, items, n, e, a, b, P⟩ := hv
    subst e
    obtain ⟨v1, v2, rfl, ⟨t1, q1⟩, ⟨t2, q2⟩⟩ := two_of ha
    subst q1 q2
    refine sub_call (spec := spec2 x) ⟨o, fs, cd, co, items, n, ok.sees _ _ a, ok.sees _ _ b, P⟩ (by decide +kernel) (fun d hd => fnd2 x d hd) hx (by simpa [spec2] using hz) fun h' tk t' hk => ?_
    exact ⟨g, Step.heap ok.sees hk, t', by unfold spec2; rw [List.drop_zero]⟩) hbase hfew hline hs hp
theorem Ev.sub1 {o e1 e2 : Expr} {apos pos : Pos} {x : Str} (ho : Ev prog w (F.ctx K c) o (RPat code1)) (h1 : Ev prog w (F.ctx K c) e1 (RS ⟨#[46, 46]⟩)) (h2 : Ev prog w (F.ctx K c) e2 (RS x)) (hx : x.cps.size ≤ 4000000) (hz : (dotL true x.cps.toList).length ≤ 16777216)
    (hbase : attributeBase o "sub" F.env (eval o F.env) = eval o F.env := by rfl)
    (hfew : ((backTo pos (starEach [e1, e2] F.env)).all (fun x => !x.1) && (backToKw pos (keywordEach [] F.env)).all (fun x => x.1.isSome)
      && decide (([e1, e2] : List Expr).length + ([] : List Keyword).length + (if ([] : List Keyword).isEmpty then 0 else 1) < 30)) = true := by rfl)
    (hline : (apos.endLine == pos.line) = true := by rfl) (hs : starEach [e1, e2] F.env = (false, eval e1 F.env) :: starEach [e2] F.env := by rfl) (hs2 : starEach [e2] F.env = (false, eval e2 F.env) :: starEach [] F.env := by rfl)
    (hp : (backTo pos (starEach [e2] F.env)).any (·.1) = false := by rfl) :
    Ev prog w (F.ctx K c) (.Call (.Attribute o "sub" apos) [e1, e2] [] pos) (RS ⟨(dotL true x.cps.toList).toArray⟩) :=
  Ev.meth ho plainAttrs_pat slot_pat_sub type_pat_sub ty_pat (Evs.cons h1 (Evs.cons h2 Evs.nil hs2) hs) (fun ov vs => .mk fun g s ok hpat => by
    obtain ⟨hv, ha⟩ := hpat
    have ok : Fm K F c g s := ok
    obtain ⟨p, o, fs, cd, co, items, n, e, a, b, P⟩ := hv
    subst e
    obtain ⟨v1, v2, rfl, ⟨t1, q1⟩, ⟨t2, q2⟩⟩ := two_of ha
    subst q1 q2
    have e0 : spec1 x 0 = dotL true x.cps.toList := by unfold spec1; rw [List.drop_zero]; rfl
    refine sub_call (spec := spec1 x) ⟨o, fs, cd, co, items, n, ok.sees _ _ a, ok.sees _ _ b, P⟩ (by decide +kernel) (fun d hd => fnd1 x (by (exact Nat.lt_of_le_of_lt (by assumption) (by decide))) d hd) hx (by rw [e0]; exact hz) fun h' tk t' hk => ?_
    exact ⟨g, Step.heap ok.sees hk, t', by rw [e0]⟩) hbase hfew hline hs hp
end
end Mine
end
section
open PySem PySem.W PyProof.Rows
set_option maxRecDepth 100000
set_option linter.unusedVariables false
namespace Mine
/-! The program's defs. -/
noncomputable def stAt (i : Nat) : Stmt := PySem.Challenge.pw_wz0020_01.main.body.getD i (.Pass ⟨0, 0, 0, 0⟩)
noncomputable def fdOf (st : Stmt) (q : Str) (pm cd doc : Value) : FuncData :=
  match st with
  | .FunctionDef n a b _ _ _ sc _ _ _ => { name := n, qualname := q, params := a, body := .stmts b, scope := sc, globals := mainGlobals, closure := [], defaults := .none, kwdefaults := .none, doc, pyModule := pm, code := cd, builtins := builtinsNs }
  | _ => default
noncomputable def bodyOf (st : Stmt) : List Stmt := match st with | .FunctionDef _ _ b _ _ _ _ _ _ _ => b | _ => []
noncomputable def FnAt (K : View) (f : Addr) (st : Stmt) (q : Str) (pm cd doc : Value) : Prop := FnK K f (fdOf st q pm cd doc) ∧ CodeK K cd q
end Mine
end
section
open PySem PySem.W PyProof.Rows
set_option maxRecDepth 100000
set_option linter.unusedVariables false
namespace Mine
noncomputable def bitOf (b : Int) (i : Nat) : Bool := Builtin.bitAnd (b.fdiv (2 ^ i)) 1 != 0
noncomputable def rif0 (b : Int) : Int := (((List.range 6).filter (bitOf b)).length : Int)
noncomputable def rif (b : Int) : Nat → List Int × Int × Int
  | 0 => ([], rif0 b, rif0 b + 1)
  | i + 1 => let x := rif b i; if bitOf b i then (x.1 ++ [x.2.1], x.2.1 - 1, x.2.2) else (x.1 ++ [x.2.2], x.2.1, x.2.2 + 1)
theorem rangeItems_get {a b d : Int} {i : Nat} {j : Item} (h : (rangeItems a b d)[i]? = some j) : j = .one (RI (a + i * d)) := by
  unfold rangeItems at h
  rw [List.getElem?_map] at h
  cases q : (List.range (Builtin.Range.rangeSize a b d).toNat)[i]? with
  | none => rw [q] at h; cases h
  | some k =>
    rw [q] at h
    have : k = i := by
      have hh := List.getElem?_eq_some_iff.mp q
      obtain ⟨hlt, e⟩ := hh
      rw [List.getElem_range] at e; exact e.symm
    subst this
    cases h; rfl
section
variable {prog : Program} {w : World} {K : View}
theorem rif_len (b : Int) : ∀ n, (rif b n).1.length = n
  | 0 => rfl
  | n + 1 => by
    unfold rif
    simp only
    split <;> simp [rif_len b n]
theorem ct_riffle {f : Addr} {pm cd doc : Value} (hf : FnAt K f (stAt 18) "_law_riffle" pm cd doc) (hr : Gl K "range" (.type "range")) (hl : Gl K "len" (.builtin "len")) (b : Int) : Ct prog w K f 1 [RI b] (RL ((rif b 6).1.map RI)) := by
  refine Ct.of (names := ["bits"]) hf.1 hf.2 rfl (fun vs h => ?_) rfl rfl rfl rfl (by decide) (fun L x hx => ?_) rfl rfl rfl ?_
  · obtain ⟨v, rfl⟩ := len_one h
    rfl
  · rw [List.mem_singleton.mp hx]; exact .inr ⟨rfl, rfl⟩
  intro A g s
  refine seq (s_assign (R := RI (rif0 b)) ?_ (.inl rfl)) ?_
  · refine (Ev.callb (Ev.glob hl) (Evs.cons (Ev.listcomp [("bits", RI b)] (fun i => [("spot", RI (0 + i * 1)), ("bits", RI b)]) ((List.range 6).map fun i => if bitOf b i then some (RI 1) else none)
      (iter_range (Ev.callt (Ev.glob hr) (Evs.cons (Ev.int _ _ _) Evs.nil) (bf_range1 6))) rfl (by simp) ⟨rfl, by decide, rfl, by decide⟩ ⟨⟨⟨_, rfl, Le.refl _⟩, .inl rfl, rfl, rfl⟩, trivial⟩ ?_) Evs.nil) (bf_len_list ?_)).as ?_
    · intro C g s G H pv i j hj
      have hi : i < 6 := by
        have := (List.getElem?_eq_some_iff.mp hj).1
        exact this
      rw [rangeItems_get hj]
      have hk : kept ((List.range 6).map fun i => if bitOf b i then some (RI 1) else none) i = bitOf b i := by
        refine (kept_of (o := if bitOf b i then some (RI 1) else none) ?_).trans ?_
        · rw [List.getElem?_map, List.getElem?_range hi]; rfl
        · cases bitOf b i <;> rfl
      refine ⟨AsI.name (.inl rfl), ⟨⟨_, rfl, Le.refl _⟩, trivial⟩, Tst.one ((Te.plain (Ev.bin (Ev.bin Ev.var Ev.var (op_shr _ _ (by simp))) (Ev.int _ _ _) (op_and _ _)) (truth_int _)).as ?_), fun _ R hR => ?_⟩
      · rw [hk]
        have : (0 + (i : Int) * 1).toNat = i := by simp
        rw [this]; rfl
      · rw [List.getElem?_map, List.getElem?_range hi] at hR
        simp only [Option.map_some, Option.some.injEq] at hR
        split at hR
        · cases hR; exact Ev.int _ _ _
        · cases hR
    · exact Nat.le_trans (List.length_filterMap_le _ _) (by simp)
    · have : ∀ l : List Nat, ((l.map fun i => if bitOf b i then some (RI 1) else none).filterMap id).length = (l.filter (bitOf b)).length := fun l => by
        induction l with
        | nil => rfl
        | cons x l ih => cases h : bitOf b x <;> simpa [h] using ih
      rw [this]; rfl
  refine seqE (s_newlist2 (R := RI (rif0 b + 1)) rfl (fun D => Ev.bin Ev.var (Ev.int _ _ _) (op_add _ _)) (.inl rfl) (.inl rfl)) fun D => ?_
  refine seq (c' := ⟨[("line", RV (.ref D)), ("front", RI (rif b 6).2.1), ("back", RI (rif b 6).2.2), ("bits", RI b)], some (D, PvL ((rif b 6).1.map RI))⟩) ?_ (last (s_ret_own rfl rfl))
  refine So.mono (s_forR (R := ⟨fun _ _ => False, fun _ h => h⟩) (fun i => ⟨[("line", RV (.ref D)), ("front", RI (rif b i).2.1), ("back", RI (rif b i).2.2), ("bits", RI b)], some (D, PvL ((rif b i).1.map RI))⟩)
    (fun i => ⟨[("spot", RI (0 + i * 1)), ("line", RV (.ref D)), ("front", RI (rif b i).2.1), ("back", RI (rif b i).2.2), ("bits", RI b)], some (D, PvL ((rif b i).1.map RI))⟩)
    (iter_range (Ev.callt (Ev.glob hr) (Evs.cons (Ev.int _ _ _) Evs.nil) (bf_range1 6))) ?_ rfl ?_) ?_
  · exact ⟨⟨_, rfl, Le.refl _⟩, ⟨_, rfl, Le.refl _⟩, ⟨_, rfl, Le.refl _⟩, ⟨_, rfl, Le.refl _⟩, trivial⟩
  · intro G H i j hj
    have hi : i < 6 := (List.getElem?_eq_some_iff.mp hj).1
    rw [rangeItems_get hj]
    refine ⟨AsI.name (.inl rfl), So.mono (q := Nx K _ ⟨[("line", RV (.ref D)), ("front", RI (rif b (i + 1)).2.1), ("back", RI (rif b (i + 1)).2.2), ("bits", RI b)], some (D, PvL ((rif b (i + 1)).1.map RI))⟩) ?_ fun f s h => .inl h⟩
    refine last (s_if (b := bitOf b i) ((Te.plain (Ev.bin (Ev.bin Ev.var Ev.var (op_shr _ _ (by omega))) (Ev.int _ _ _) (op_and _ _)) (truth_int _)).as ?_) (fun hb => ?_) (fun hb => ?_))
    · have : (0 + (i : Int) * 1).toNat = i := by omega
      rw [this]; rfl
    · have e : rif b (i + 1) = ((rif b i).1 ++ [(rif b i).2.1], (rif b i).2.1 - 1, (rif b i).2.2) := by rw [rif]; simp [hb]
      rw [e]
      refine seq (s_append (R := RI (rif b i).2.1) rfl rfl Ev.var (by simp [rif_len]; lia)) ?_
      refine last (So.mono (s_aug (Z := RI ((rif b i).2.1 - 1)) rfl (Ev.int _ _ _) (op_isub _ _) (.inl rfl)) fun f s ⟨e, g, h⟩ => ⟨e, g, h.to ?_ (by simp only [List.map_append]; rfl)⟩)
      exact ⟨⟨_, rfl, Le.refl _⟩, ⟨_, rfl, Le.refl _⟩, ⟨_, rfl, Le.refl _⟩, ⟨_, rfl, Le.refl _⟩, trivial⟩
    · have e : rif b (i + 1) = ((rif b i).1 ++ [(rif b i).2.2], (rif b i).2.1, (rif b i).2.2 + 1) := by rw [rif]; simp [hb]
      rw [e]
      refine seq (s_append (R := RI (rif b i).2.2) rfl rfl Ev.var (by simp [rif_len]; omega)) ?_
      refine last (So.mono (s_aug (Z := RI ((rif b i).2.2 + 1)) rfl (Ev.int _ _ _) (op_iadd _ _) (.inl rfl)) fun f s ⟨e, g, h⟩ => ⟨e, g, h.to ?_ (by simp only [List.map_append]; rfl)⟩)
      exact ⟨⟨_, rfl, Le.refl _⟩, ⟨_, rfl, Le.refl _⟩, ⟨_, rfl, Le.refl _⟩, ⟨_, rfl, Le.refl _⟩, trivial⟩
  · intro f s h
    rcases h with h | ⟨_, _, _, _, h⟩
    · exact h
    · exact h.elim
end
end Mine
end
section
open PySem PySem.W PyProof.Rows
set_option maxRecDepth 100000
set_option linter.unusedVariables false
namespace Mine
section
variable {prog : Program} {w : World} {K : View} {Kt : Type} [DecidableEq Kt] {knd : KeyKind prog w Kt}
noncomputable def isum (l : List Int) : Int := l.foldl (· + ·) 0
noncomputable def RIs (l : List (Kt × Int)) : List (Kt × Rel) := l.map fun p => (p.1, RI p.2)
theorem ct_count {f : Addr} {pm cd doc : Value} (hf : FnAt K f (stAt 10) "count_calls" pm cd doc) (l : List (Kt × Int)) : Ct prog w K f 1 [RD knd (RIs l)] (RI (isum (l.map (·.2)))) := by
  refine Ct.of (names := ["callers"]) hf.1 hf.2 rfl (fun vs h => ?_) rfl rfl rfl rfl (by decide) (fun L x hx => ?_) rfl rfl rfl ?_
  · obtain ⟨v, rfl⟩ := len_one h
    rfl
  · rw [List.mem_singleton.mp hx]; exact .inl rfl
  intro A g s
  refine seq (s_assign (Ev.int _ _ _) (.inl rfl)) ?_
  refine seq (c' := ⟨[("nc", RI (isum (l.map (·.2))))], none⟩) ?_ (last (s_ret Ev.var))
  refine So.mono (s_forR (R := ⟨fun _ _ => False, fun _ h => h⟩) (fun i => ⟨[("nc", RI (isum ((l.take i).map (·.2))))], none⟩) (fun i => ⟨[("calls", RI ((l[i]?.map (·.2)).getD 0)), ("nc", RI (isum ((l.take i).map (·.2))))], none⟩)
    (iter_values (Ev.var (R := RD knd (RIs l)))) ⟨⟨_, rfl, Le.refl _⟩, trivial⟩ rfl ?_) ?_
  · intro G H i j hj
    have hi : i < l.length := by have := (List.getElem?_eq_some_iff.mp hj).1; simpa [RIs] using this
    have hx : l[i]? = some l[i] := by simp [hi]
    have e : j = .one (RI ((l[i]?.map (·.2)).getD 0)) := by
      rw [RIs, List.map_map, List.getElem?_map, hx] at hj
      rw [hx]
      exact (Option.some.inj hj).symm
    subst e
    refine ⟨AsI.name (.inl rfl), last (So.mono (s_aug (Z := RI ((isum ((l.take i).map (·.2))) + (l[i]?.map (·.2)).getD 0)) rfl Ev.var (op_iadd _ _) (.inl rfl)) fun f s ⟨e, g, h⟩ => .inl ⟨e, g, h.to ⟨⟨_, rfl, ?_⟩, trivial⟩ rfl⟩)⟩
    have : isum ((l.take (i + 1)).map (·.2)) = (isum ((l.take i).map (·.2))) + (l[i]?.map (·.2)).getD 0 := by
      rw [List.take_add_one, hx, List.map_append]; unfold isum; rw [List.foldl_append]; rfl
    rw [this]; exact Le.refl _
  · intro f s h
    rcases h with h | ⟨_, _, _, _, h⟩
    · have e : (RIs l).length = l.length := by simp [RIs]
      rw [List.length_map, e, List.take_length] at h
      exact h
    · exact h.elim

theorem put_RIs (l : List (Kt × Int)) (k : Kt) (v : Int) : put (RIs l) k (RI v) = RIs (put l k v) := by
  unfold put RIs
  have : (l.map fun p => (p.1, RI p.2)).any (fun p => decide (p.1 = k)) = l.any (fun p => decide (p.1 = k)) := by rw [List.any_map]; rfl
  rw [this]
  split
  · rw [List.map_map, List.map_map]
    refine List.map_congr_left fun p _ => ?_
    show (if p.1 = k then (p.1, RI v) else (p.1, RI p.2)) = ((if p.1 = k then (p.1, v) else p).1, RI (if p.1 = k then (p.1, v) else p).2)
    split <;> rfl
  · rw [List.map_append]; rfl
theorem has_RIs (l : List (Kt × Int)) (k : Kt) : has (RIs l) k = has l k := by unfold has RIs; rw [List.any_map]; rfl
noncomputable def getI (l : List (Kt × Int)) (k : Kt) : Int := ((l.find? fun p => p.1 = k).map (·.2)).getD 0
theorem get_RIs {l : List (Kt × Int)} {k : Kt} (h : has l k = true) : getR (RIs l) k = some (RI (getI l k)) := by
  unfold getR getI RIs
  induction l with
  | nil => simp [has] at h
  | cons p l ih =>
    by_cases q : p.1 = k
    · simp [q]
    · have : has l k = true := by simpa [has, q] using h
      simpa [q] using ih this
noncomputable def addOne (acc : List (Kt × Int)) (p : Kt × Int) : List (Kt × Int) := put acc p.1 (if has acc p.1 then getI acc p.1 + p.2 else p.2)
noncomputable def laid (l : List (Kt × Int)) : List (Kt × Int) := l.foldl (fun acc p => put acc p.1 p.2) []
/-- two tables put together -/
noncomputable def addC (l m : List (Kt × Int)) : List (Kt × Int) := m.foldl addOne (laid l)
theorem put_len (l : List (Kt × Int)) (k : Kt) (v : Int) : (put l k v).length ≤ l.length + 1 := by unfold put; split <;> simp
theorem laid_len (l : List (Kt × Int)) : ∀ acc : List (Kt × Int), (l.foldl (fun acc p => put acc p.1 p.2) acc).length ≤ acc.length + l.length := by
  induction l with
  | nil => intro acc; simp
  | cons p l ih => intro acc; have := ih (put acc p.1 p.2); have := put_len acc p.1 p.2; simp only [List.foldl_cons, List.length_cons]; lia
theorem addC_len (l : List (Kt × Int)) : ∀ acc : List (Kt × Int), (l.foldl addOne acc).length ≤ acc.length + l.length := by
  induction l with
  | nil => intro acc; simp
  | cons p l ih => intro acc; have := ih (addOne acc p); have := put_len acc p.1 (if has acc p.1 then getI acc p.1 + p.2 else p.2); simp only [List.foldl_cons, List.length_cons]; unfold addOne at *; lia
theorem bf_isinst {X : Ctx} (i : Int) : Bf prog w X (.builtin "isinstance") [RI i, RV (.type "tuple")] (RB false) := fun vs => .mk fun g s ok h => by
  obtain ⟨v, u, rfl, ⟨t, e⟩, e'⟩ := two_of h
  have e' : u = .type "tuple" := e'
  subst e e'
  exact call_isinstance (isinstance_false_int (by decide +kernel) PySem.F.isi_meta_tuple PySem.F.sub_int_tuple) (ends_toks (X.sees ok) _ rfl)
/-- the shape of a pair's target -/
theorem ct_add {f : Addr} {pm cd doc : Value} (hf : FnAt K f (stAt 9) "add_callers" pm cd doc) (his : Gl K "isinstance" (.builtin "isinstance")) (htu : Gl K "tuple" (.type "tuple")) (l m : List (Kt × Int)) (hs : l.length + m.length ≤ 16777216) :
    Ct prog w K f 1 [RD knd (RIs l), RD knd (RIs m)] (RD knd (RIs (addC l m))) := by
  refine Ct.of (names := ["target", "source"]) hf.1 hf.2 rfl (fun vs h => ?_) rfl rfl rfl rfl (by decide) (fun L x hx => ?_) rfl rfl rfl ?_
  · obtain ⟨v, u, rfl⟩ := len_two h
    rfl
  · simp only [List.mem_cons, List.not_mem_nil, or_false] at hx
    rcases hx with rfl | rfl <;> exact .inl rfl
  intro A g s
  refine seqE (s_newdict knd rfl (.inl rfl)) fun D => ?_
  refine seq (c' := ⟨[("new_callers", RV (.ref D)), ("source", RD knd (RIs m))], some (D, PvD knd (RIs (laid l)))⟩) ?_ ?_
  · refine So.mono (s_forR (R := ⟨fun _ _ => False, fun _ h => h⟩) (fun i => ⟨[("new_callers", RV (.ref D)), ("source", RD knd (RIs m))], some (D, PvD knd (RIs (laid (l.take i))))⟩)
      (fun i => ⟨("caller", RI ((l[i]?.map (·.2)).getD 0)) :: ("func", match l[i]? with | some p => RKey knd p.1 | none => RN) :: [("new_callers", RV (.ref D)), ("source", RD knd (RIs m))], some (D, PvD knd (RIs (laid (l.take i))))⟩)
      (iter_items (Ev.var (R := RD knd (RIs l)))) ⟨⟨_, rfl, Le.refl _⟩, ⟨_, rfl, Le.refl _⟩, trivial⟩ rfl ?_) ?_
    · intro G H i j hj
      have hi : i < l.length := by have := (List.getElem?_eq_some_iff.mp hj).1; simpa [RIs] using this
      have hx : l[i]? = some l[i] := by simp [hi]
      have e : j = .tup [RKey knd l[i].1, RI l[i].2] := by
        rw [RIs, List.map_map, List.getElem?_map, hx] at hj
        exact (Option.some.inj hj).symm
      subst e
      rw [hx]
      refine ⟨AsI.tup (AsL.add (As.name (.inl rfl)) (AsL.add (As.name (.inl rfl)) (.nil _))), last (So.mono (s_setitem (k := l[i].1) (R := RI l[i].2) (kvs := RIs (laid (l.take i))) rfl Ev.var Ev.var Ev.var ?_) fun f s ⟨e, g, h⟩ => .inl ⟨e, g, h.to ⟨⟨_, rfl, Le.refl _⟩, ⟨_, rfl, Le.refl _⟩, trivial⟩ ?_⟩)⟩
      · have := laid_len (l.take i) []
        have e2 : (l.take i).length ≤ l.length := by rw [List.length_take]; exact Nat.min_le_right _ _
        simp only [RIs, List.length_map]
        unfold laid
        simp only [List.length_nil] at this
        lia
      · show some (D, PvD knd (RIs (laid (l.take (i + 1))))) = some (D, PvD knd (put (RIs (laid (l.take i))) l[i].1 (RI l[i].2)))
        rw [put_RIs, List.take_add_one, hx]
        unfold laid
        rw [List.foldl_append]; rfl
    · intro f s h
      rcases h with h | ⟨_, _, _, _, h⟩
      · have e : (RIs l).length = l.length := by simp [RIs]
        rw [List.length_map, e, List.take_length] at h
        exact h
      · exact h.elim
  refine seq (c' := ⟨[("new_callers", RV (.ref D))], some (D, PvD knd (RIs (addC l m)))⟩) ?_ (last (s_ret_ownD rfl rfl))
  refine So.mono (s_forR (R := ⟨fun _ _ => False, fun _ h => h⟩) (fun i => ⟨[("new_callers", RV (.ref D))], some (D, PvD knd (RIs ((m.take i).foldl addOne (laid l))))⟩)
      (fun i => ⟨("caller", RI ((m[i]?.map (·.2)).getD 0)) :: ("func", match m[i]? with | some p => RKey knd p.1 | none => RN) :: [("new_callers", RV (.ref D))], some (D, PvD knd (RIs ((m.take i).foldl addOne (laid l))))⟩)
      (iter_items (Ev.var (R := RD knd (RIs m)))) ⟨⟨_, rfl, Le.refl _⟩, trivial⟩ rfl ?_) ?_
  · intro G H i j hj
    have hi : i < m.length := by have := (List.getElem?_eq_some_iff.mp hj).1; simpa [RIs] using this
    have hx : m[i]? = some m[i] := by simp [hi]
    have e : j = .tup [RKey knd m[i].1, RI m[i].2] := by
      rw [RIs, List.map_map, List.getElem?_map, hx] at hj
      exact (Option.some.inj hj).symm
    subst e
    rw [hx]
    have hlen : (RIs ((m.take i).foldl addOne (laid l))).length ≤ 16777216 := by
      have h1 := laid_len l []
      have h2 := addC_len (m.take i) (laid l)
      have e2 : (m.take i).length ≤ m.length := by rw [List.length_take]; exact Nat.min_le_right _ _
      simp only [RIs, List.length_map]
      unfold laid at *
      simp only [List.length_nil] at h1
      lia
    have hstep : (m.take (i + 1)).foldl addOne (laid l) = addOne ((m.take i).foldl addOne (laid l)) m[i] := by rw [List.take_add_one, hx, List.foldl_append]; rfl
    generalize hacc : (m.take i).foldl addOne (laid l) = acc at hlen hstep
    refine ⟨AsI.tup (AsL.add (As.name (.inl rfl)) (AsL.add (As.name (.inl rfl)) (.nil _))), last (s_if (b := has (RIs acc) m[i].1) (Te.cmp Ev.var Ev.var (op_in_pv (kvs := RIs acc) rfl)) (fun hb => last (s_if (b := false) (Te.plain (Ev.callb (Ev.glob his) (Evs.cons Ev.var (Evs.cons (Ev.glob htu) Evs.nil)) (bf_isinst _)) (truth_bool _)) (fun h => by cases h) fun _ => ?_)) fun hb => ?_)⟩
    · rw [has_RIs] at hb
      refine last (So.mono (s_augitem (k := m[i].1) (kvs := RIs acc) (Z := RI (getI acc m[i].1 + m[i].2)) rfl Ev.var Ev.var (get_RIs hb) Ev.var (op_iadd _ _) hlen) fun f s ⟨e, g, h⟩ => .inl ⟨e, g, h.to ⟨⟨_, rfl, Le.refl _⟩, trivial⟩ ?_⟩)
      show some (D, PvD knd (RIs ((m.take (i + 1)).foldl addOne (laid l)))) = some (D, PvD knd (put (RIs acc) m[i].1 (RI (getI acc m[i].1 + m[i].2))))
      rw [put_RIs, hstep]
      unfold addOne
      rw [hb]; rfl
    · rw [has_RIs] at hb
      refine last (So.mono (s_setitem (k := m[i].1) (kvs := RIs acc) (R := RI m[i].2) rfl Ev.var Ev.var Ev.var hlen) fun f s ⟨e, g, h⟩ => .inl ⟨e, g, h.to ⟨⟨_, rfl, Le.refl _⟩, trivial⟩ ?_⟩)
      show some (D, PvD knd (RIs ((m.take (i + 1)).foldl addOne (laid l)))) = some (D, PvD knd (put (RIs acc) m[i].1 (RI m[i].2)))
      rw [put_RIs, hstep]
      unfold addOne
      rw [hb]; rfl
  · intro f s h
    rcases h with h | ⟨_, _, _, _, h⟩
    · have e : (RIs m).length = m.length := by simp [RIs]
      rw [List.length_map, e, List.take_length] at h
      exact h
    · exact h.elim
end
end Mine
end
section
open PySem PySem.W PyProof.Rows PySem.SeqAt
set_option maxRecDepth 100000
set_option linter.unusedVariables false
namespace Mine
noncomputable def numOf (l : List Int) : Int := (l.zipIdx.map fun p => 10 ^ p.2 * p.1).sum
section
variable {prog : Program} {w : World} {K : View} {F : Fr} {c : Cfg}
theorem enumItems_get' {Rs : List Rel} {i : Nat} {j : Item} (h : (enumItems Rs)[i]? = some j) : ∃ R, Rs[i]? = some R ∧ j = .tup [RI i, R] := by
  cases q : Rs[i]? with
  | none =>
    unfold enumItems at h
    rw [List.getElem?_map, List.getElem?_zipIdx, q] at h
    cases h
  | some R =>
    rw [enumItems_get q] at h
    exact ⟨R, rfl, (Option.some.inj h).symm⟩
theorem pow_bits : ∀ p < 7, Builtin.Int.intBits ((10 : Int) ^ p) ≤ 64 := by decide
/-- the number that a line spells -/
theorem ev_num {v : Str} {arg : Expr} {sc : Scope} {cl : List (Str × Addr)} {p1 p2 p3 p4 p5 p6 p7 p8 p9 p10 p11 p12 p13 : Pos} {k2 k9 : Nat} {ns : List Int} (hsum : Gl K "sum" (.builtin "sum")) (hen : Gl K "enumerate" (.type "enumerate")) (hk1 : F.env.kindOf "sum" = some .globalImplicit)
    (hk2 : F.env.kindOf "enumerate" = some .globalImplicit) (co : CompOk F sc cl) (hp : (compEnvC sc cl 0 F.env).kindOf "place" = some .local) (hv : (compEnvC sc cl 0 F.env).kindOf v = some .local) (hne : v ≠ ("place" : Str)) (hdv : (v == ("__debug__" : Str)) = false)
    (hcv : (v == ("__classdict__" : Str)) = false) (harg : Ev prog w (F.ctx K c) arg (RL (ns.map RI))) (hn : ns.length ≤ 6) (hs : starEach [arg] F.env = (false, eval arg F.env) :: starEach [] F.env) :
    Ev prog w (F.ctx K c) (.Call (.Name "sum" p1) [.ListComp (.BinOp (.BinOp (.Constant (.int 10) k2 p2) .Pow (.Name "place" p3) p4) .Mult (.Name v p5) p6) [⟨.Tuple [.Name "place" p7, .Name v p8] k9 p9, .Call (.Name "enumerate" p10) [arg] [] p11, [], 0⟩] sc p12] [] p13) (RI (numOf ns)) := by
  have key := Ev.listcomp (prog := prog) (w := w) (K := K) (F := F) (c := c) (elt := .BinOp (.BinOp (.Constant (.int 10) k2 p2) .Pow (.Name "place" p3) p4) .Mult (.Name v p5) p6) (target := .Tuple [.Name "place" p7, .Name v p8] k9 p9) (ifs := []) (scope := sc) (pos := p12) (cl := cl)
    [] (fun i => [(v, RI (ns.getD i 0)), ("place", RI i)]) (ns.zipIdx.map fun p => some (RI (10 ^ p.2 * p.1)))
    (iter_enum (pos := p11) (k := k9) (tpos := p9) (elts := [.Name "place" p7, .Name v p8]) (Ev.glob (pos := p10) hen hk2) (.inl harg) rfl hs) (by simp [enumItems]) (by simp; (exact Nat.le_trans (by assumption) (Nat.le_add_left _ _))) co trivial ?_
  · have e : (ns.zipIdx.map fun p => some (RI (10 ^ p.2 * p.1))).filterMap id = (ns.zipIdx.map fun p => (10 : Int) ^ p.2 * p.1).map RI := by
      rw [List.filterMap_map, List.map_map]
      generalize ns.zipIdx = l
      induction l with
      | nil => rfl
      | cons p l ih => simp at ih ⊢
    rw [e] at key
    exact Ev.callb (Ev.glob hsum hk1) (Evs.cons key Evs.nil) (bf_sum _)
  · intro C g s G H pv i j hj
    obtain ⟨R, hR, rfl⟩ := enumItems_get' hj
    have hi : i < ns.length := by have := (List.getElem?_eq_some_iff.mp hR).1; simpa using this
    have hR : R = RI (ns.getD i 0) := by
      rw [List.getElem?_map, List.getElem?_eq_getElem hi] at hR
      have := (Option.some.inj hR).symm
      rw [this, List.getD_eq_getElem?_getD, List.getElem?_eq_getElem hi]; rfl
    subst hR
    have hp' : ((F.comp sc cl C g s).inner G H).Stores "place" := .inl hp
    have hv' : ((F.comp sc cl C g s).inner G H).Stores v := .inl hv
    have hk : kept (ns.zipIdx.map fun p => some (RI (10 ^ p.2 * p.1))) i = true := (kept_of (o := some (RI (10 ^ i * ns[i]))) (by rw [List.getElem?_map, List.getElem?_zipIdx, List.getElem?_eq_getElem hi]; simp)).trans rfl
    refine ⟨AsI.tup (AsL.add (As.name hp') (AsL.add (As.name hv') (.nil _))), trivial, hk ▸ Tst.nil, fun _ R' hR' => ?_⟩
    rw [List.getElem?_map, List.getElem?_zipIdx, List.getElem?_eq_getElem hi] at hR'
    have hR' : R' = RI ((10 : Int) ^ i * ns[i]) := by
      have := Option.some.inj (Option.some.inj hR')
      rw [← this]; simp
    subst hR'
    have e1 : ns.getD i 0 = ns[i] := by rw [List.getD_eq_getElem?_getD, List.getElem?_eq_getElem hi]; rfl
    have lp : look "place" [(v, RI (ns.getD i 0)), ("place", RI i)] = some (RI i) := by rw [look_cons_ne _ _ hne, look_cons_self]
    have lv : look v [(v, RI (ns.getD i 0)), ("place", RI i)] = some (RI (ns.getD i 0)) := look_cons_self _ _ _
    have := Ev.bin (prog := prog) (w := w) (pos := p6) (X := ((F.comp sc cl C g s).inner G H).ctx K ⟨[(v, RI (ns.getD i 0)), ("place", RI i)], pv⟩) (Ev.bin (pos := p4) (Ev.int 10 k2 p2) (Ev.var (pos := p3) lp) (op_pow 10 i (by simp) (by lia) (by decide))) (Ev.var (pos := p5) lv hdv hcv) (op_mul _ _ (IntMulOk.of_left (by
      have : (i : Int).toNat = i := by simp
      rw [this]; exact pow_bits i (by lia))))
    exact this.as (by rw [e1]; rfl)

noncomputable def oddL : List (Int × Int) := (List.range 32).map fun (i : Nat) => (numOf (rif (1 + i * 2) 6).1, 1)
noncomputable def evenL : List (Int × Int) := (List.range 32).map fun (i : Nat) => (numOf (rif (0 + i * 2) 6).1, 1)
noncomputable def waysL : List (Int × Int) := oddL.map fun p => (p.1, 2)
theorem ways_facts : laid oddL = oddL ∧ laid evenL = evenL ∧ addC oddL evenL = waysL ∧ isum (waysL.map (·.2)) = 64 := by decide +kernel
theorem foldl_RIs {Kt : Type} [DecidableEq Kt] (l : List (Kt × Int)) : ∀ acc : List (Kt × Int), (RIs l).foldl (fun acc p => put acc p.1 p.2) (RIs acc) = RIs (l.foldl (fun acc p => put acc p.1 p.2) acc) := by
  induction l with
  | nil => intro acc; rfl
  | cons p l ih =>
    intro acc
    show (RIs l).foldl _ (put (RIs acc) p.1 (RI p.2)) = _
    rw [put_RIs, ih]; rfl
theorem ct_ways {fw fr fa fc : Addr} {pm1 cd1 doc1 pm2 cd2 doc2 pm3 cd3 doc3 pm4 cd4 doc4 : Value} (hf : FnAt K fw (stAt 20) "_law_ways" pm1 cd1 doc1) (hfr : FnAt K fr (stAt 18) "_law_riffle" pm2 cd2 doc2) (hfa : FnAt K fa (stAt 9) "add_callers" pm3 cd3 doc3)
    (hfc : FnAt K fc (stAt 10) "count_calls" pm4 cd4 doc4) (g1 : Gl K "_law_riffle" (.ref fr)) (g2 : Gl K "add_callers" (.ref fa)) (g3 : Gl K "count_calls" (.ref fc)) (hr : Gl K "range" (.type "range")) (hl : Gl K "len" (.builtin "len")) (hsum : Gl K "sum" (.builtin "sum"))
    (hen : Gl K "enumerate" (.type "enumerate")) (his : Gl K "isinstance" (.builtin "isinstance")) (htu : Gl K "tuple" (.type "tuple")) (hli : Gl K "list" (.type "list")) (hst : Gl K "str" (.type "str")) :
    Ct prog w K fw 3 [] (RT [RD (intKind prog w) (RIs waysL), RB true]) := by
  refine Ct.of (names := []) hf.1 hf.2 rfl (fun vs h => ?_) rfl rfl rfl rfl (by decide) (fun L x hx => by cases hx) rfl rfl rfl ?_
  · obtain rfl := len_nil h
    rfl
  intro A g s
  refine seq (s_dictcomp (knd := intKind prog w) [] (fun i => [("bits", RI (1 + i * 2))]) (RIs oddL) (iter_range (Ev.callt (Ev.glob hr) (Evs.cons (Ev.int _ _ _) (Evs.cons (Ev.int _ _ _) (Evs.cons (Ev.int _ _ _) Evs.nil))) (bf_range3 1 64 2 (by decide) (by decide)))) rfl (by decide +kernel) ⟨rfl, by decide, rfl, by decide⟩ trivial ?_ (.inl rfl)) ?_
  · intro C g s G H pv i j hj
    rw [rangeItems_get hj]
    refine ⟨AsI.name (.inl rfl), trivial, Tst.nil, fun _ k R hR => ?_⟩
    have hi : i < 32 := (List.getElem?_eq_some_iff.mp hj).1
    have e : (RIs oddL)[i]? = some (numOf (rif (1 + i * 2) 6).1, RI 1) := by
      unfold RIs oddL; rw [List.map_map, List.getElem?_map, List.getElem?_range hi]; rfl
    rw [e] at hR
    cases hR
    refine ⟨(ev_num hsum hen rfl rfl ⟨rfl, by decide, rfl, by decide⟩ rfl rfl (by decide) (by decide) (by decide) (Ev.callf (Ev.glob g1) hfr.1 (Evs.cons Ev.var Evs.nil) (ct_riffle hfr hr hl _) (by show 1 ≤ 2; decide)) (by rw [rif_len]; decide) rfl).conv (int_le _), Ev.int _ _ _⟩
  have eo : (RIs oddL).foldl (fun acc p => put acc p.1 p.2) [] = RIs oddL := by
    have := foldl_RIs oddL []
    rw [show oddL.foldl (fun acc p => put acc p.1 p.2) [] = oddL from ways_facts.1] at this
    exact this
  have ee : (RIs evenL).foldl (fun acc p => put acc p.1 p.2) [] = RIs evenL := by
    have := foldl_RIs evenL []
    rw [show evenL.foldl (fun acc p => put acc p.1 p.2) [] = evenL from ways_facts.2.1] at this
    exact this
  rw [eo]
  refine seq (s_dictcomp (knd := intKind prog w) [] (fun i => [("bits", RI (0 + i * 2))]) (RIs evenL) (iter_range (Ev.callt (Ev.glob hr) (Evs.cons (Ev.int _ _ _) (Evs.cons (Ev.int _ _ _) (Evs.cons (Ev.int _ _ _) Evs.nil))) (bf_range3 0 64 2 (by decide) (by decide)))) rfl (by decide +kernel) ⟨rfl, by decide, rfl, by decide⟩ trivial ?_ (.inl rfl)) ?_
  · intro C g s G H pv i j hj
    rw [rangeItems_get hj]
    refine ⟨AsI.name (.inl rfl), trivial, Tst.nil, fun _ k R hR => ?_⟩
    have hi : i < 32 := (List.getElem?_eq_some_iff.mp hj).1
    have e : (RIs evenL)[i]? = some (numOf (rif (0 + i * 2) 6).1, RI 1) := by
      unfold RIs evenL; rw [List.map_map, List.getElem?_map, List.getElem?_range hi]; rfl
    rw [e] at hR
    cases hR
    refine ⟨(ev_num hsum hen rfl rfl ⟨rfl, by decide, rfl, by decide⟩ rfl rfl (by decide) (by decide) (by decide) (Ev.callf (Ev.glob g1) hfr.1 (Evs.cons Ev.var Evs.nil) (ct_riffle hfr hr hl _) (by show 1 ≤ 2; decide)) (by rw [rif_len]; decide) rfl).conv (int_le _), Ev.int _ _ _⟩
  rw [ee]
  refine seq (s_assign (R := RD (intKind prog w) (RIs waysL)) ((Ev.callf (Ev.glob g2) hfa.1 (Evs.cons Ev.var (Evs.cons Ev.var Evs.nil)) (ct_add hfa his htu oddL evenL (by decide +kernel)) (by show 1 ≤ 2; decide)).as (by rw [ways_facts.2.2.1])) (.inl rfl)) ?_
  have lI : ∀ (l : List (Int × Int)), Le (RL ((RIs l).map fun p => RT [RKey (intKind prog w) p.1, p.2])) (RP (.list (l.map fun p => .tuple [.int p.1, .int p.2]))) := fun l => by
    refine le_list ?_
    unfold RIs
    rw [List.map_map]
    exact LeAll.map (f := fun p : Int × Int => RT [RKey (intKind prog w) p.1, RI p.2]) (d := fun p => .tuple [.int p.1, .int p.2]) (fun p => le_tuple (ds := [.int p.1, .int p.2]) ⟨(le_int _).trans (le_RI _), le_RI _, trivial⟩) l
  have lV : ∀ (l : List (Int × Int)), Le (RL ((RIs l).map (·.2))) (RP (.list (l.map fun p => .int p.2))) := fun l => by
    refine le_list ?_
    unfold RIs
    rw [List.map_map]
    exact LeAll.map (fun p => le_RI _) l
  have l1 : Le (RL (List.replicate (32 : Int).toNat [RI 1]).flatten) (RP (.list ((List.range 32).map fun _ => .int 1))) := by
    rw [show (List.replicate (32 : Int).toNat [RI 1]).flatten = (List.range 32).map fun _ => RI 1 from rfl]
    exact le_list (LeAll.map (fun _ => le_RI 1) _)
  refine last (s_ret (Ev.tuple (Evs.cons Ev.var (Evs.cons ?_ Evs.nil))))
  refine (Ev.andn (c := true) (d := true) ?_ fun _ => Ev.andn (c := true) (d := true) ?_ fun _ => Ev.andn (c := true) (d := true) ?_ fun _ => Ev.and1 ?_)
  · refine (Ev.cmp ((Ev.callt (Ev.glob hli) (Evs.cons (Ev.items Ev.var) Evs.nil) (bf_list_items (by decide +kernel))).conv (lI waysL)) ((Ev.listcomp [] (fun i => [("line", RKey (intKind prog w) (oddL.getD i (0, 0)).1)]) (oddL.map fun p => some (RT [RKey (intKind prog w) p.1, RI 2]))
      (iter_dict (Ev.var (R := RD (intKind prog w) (RIs oddL)))) rfl (by rw [List.length_map]; decide +kernel) ⟨rfl, by decide, rfl, by decide⟩ trivial ?_).conv ?_) (op_eqd (a := .list (waysL.map fun p => .tuple [.int p.1, .int p.2])) (b := .list (waysL.map fun p => .tuple [.int p.1, .int p.2])) (by decide +kernel) (by decide +kernel))).as ?_
    · intro C g s G H pv i j hj
      have hi : i < oddL.length := by have := (List.getElem?_eq_some_iff.mp hj).1; simpa [RIs] using this
      have e1 : oddL[i]? = some (oddL.getD i (0, 0)) := by rw [List.getD_eq_getElem?_getD, List.getElem?_eq_getElem hi]; rfl
      have e : j = .one (RKey (intKind prog w) (oddL.getD i (0, 0)).1) := by
        unfold RIs at hj
        rw [List.map_map, List.getElem?_map, e1] at hj
        exact (Option.some.inj hj).symm
      subst e
      have hk : kept (oddL.map fun p => some (RT [RKey (intKind prog w) p.1, RI 2])) i = true := (kept_of (o := some (RT [RKey (intKind prog w) (oddL.getD i (0, 0)).1, RI 2])) (by rw [List.getElem?_map, e1]; rfl)).trans rfl
      refine ⟨AsI.name (.inl rfl), trivial, hk ▸ Tst.nil, fun _ R hR => ?_⟩
      rw [List.getElem?_map, e1] at hR
      have hR := (Option.some.inj (Option.some.inj hR)).symm
      subst hR
      exact Ev.tuple (Evs.cons Ev.var (Evs.cons (Ev.int _ _ _) Evs.nil))
    · have e : (oddL.map fun p => some (RT [RKey (intKind prog w) p.1, RI 2])).filterMap id = oddL.map fun p => RT [RKey (intKind prog w) p.1, RI 2] := by
        rw [List.filterMap_map]
        generalize oddL = l
        induction l with
        | nil => rfl
        | cons p l ih => simp at ih ⊢
      rw [e]
      refine le_list ?_
      unfold waysL
      rw [List.map_map]
      exact LeAll.map (f := fun p : Int × Int => RT [RKey (intKind prog w) p.1, RI 2]) (d := fun p => .tuple [.int p.1, .int 2]) (fun p => le_tuple (ds := [.int p.1, .int 2]) ⟨(le_int _).trans (le_RI _), le_RI _, trivial⟩) oddL
    · exact congrArg RB (eqv_self (by decide +kernel))
  · exact (Ev.cmp ((Ev.callt (Ev.glob hli) (Evs.cons (Ev.values (Ev.var (R := RD (intKind prog w) (RIs oddL)))) Evs.nil) (bf_list_values (by decide +kernel))).conv (lV oddL)) ((Ev.bin (Ev.list (Evs.cons (Ev.int _ _ _) Evs.nil)) (Ev.int _ _ _) (op_list_mul [RI 1] 32 (by decide) (by decide) (by show 1 * 32 ≤ 2 ^ 24; decide))).conv l1)
      (op_eqd (by decide +kernel) (by decide +kernel))).as (congrArg RB (by decide +kernel))
  · exact (Ev.cmp ((Ev.callt (Ev.glob hli) (Evs.cons (Ev.values (Ev.var (R := RD (intKind prog w) (RIs evenL)))) Evs.nil) (bf_list_values (by decide +kernel))).conv (lV evenL)) ((Ev.bin (Ev.list (Evs.cons (Ev.int _ _ _) Evs.nil)) (Ev.int _ _ _) (op_list_mul [RI 1] 32 (by decide) (by decide) (by show 1 * 32 ≤ 2 ^ 24; decide))).conv l1)
      (op_eqd (by decide +kernel) (by decide +kernel))).as (congrArg RB (by decide +kernel))
  · exact (Ev.cmp (Ev.callt (Ev.glob hst) (Evs.cons (Ev.callf (Ev.glob g3) hfc.1 (Evs.cons Ev.var Evs.nil) (ct_count hfc waysL) (by show 1 ≤ 2; decide)) Evs.nil) (bf_str _ (by decide +kernel))) (Ev.str _ _ _) (op_eq_str _ _)).as (congrArg RB (by decide +kernel))
end
end Mine
end
section
open PySem PySem.W PyProof.Rows PySem.SeqAt
set_option maxRecDepth 100000
set_option linter.unusedVariables false
namespace Mine
section
variable {prog : Program} {w : World} {K : View} {F : Fr} {c : Cfg}
/-- a global whose value stands among the frozen objects -/
theorem Ev.globR {x : Str} {pos : Pos} {v : Value} {R : Rel} (h : Gl K x v) (hR : R.r K v) (hk : F.env.kindOf x = some .globalImplicit := by rfl) (hd : (x == ("__debug__" : Str)) = false := by decide) : Ev prog w (F.ctx K c) (.Name x pos) R :=
  .mk fun g s ok t => wp_of ((Ev.glob h hk hd).run g s ok t) fun u s' hpat => by
    obtain ⟨g', st, e⟩ := hpat
    have e : u = v := e
    subst e
    have ok' : Fm K F c g' s' := Fm.up ok st
    exact ⟨g', st, R.up (fun a o e => ok'.st.ext a o (ok'.fok.base a o e)) hR⟩
/-- the names that the text defs read -/
structure GlT (K : View) (v1 v2 vc : Value) : Prop where
  p1 : Gl K "_twin_re_1" v1
  r1 : (RPat code1).r K v1
  p2 : Gl K "_twin_re_2" v2
  r2 : (RPat code2).r K v2
  pc : Gl K "CRLF" vc
  rc : (RS ⟨#[13, 10]⟩).r K vc
theorem eolL_len (l : List Nat) : (eolL l).length ≤ 2 * l.length := by
  induction l using eolL.induct with
  | case1 => simp [eolL]
  | case2 r ih => rw [eolL]; simp; lia
  | case3 r h ih => rw [eolL]; simp; lia; exact h
  | case4 r ih => rw [eolL]; simp; omega
  | case5 c r h1 h2 h3 ih => rw [eolL]; simp; lia; all_goals assumption
theorem dotL_len (b : Bool) (l : List Nat) : (dotL b l).length ≤ 2 * l.length := by
  induction l generalizing b with
  | nil => rw [dotL]; simp
  | cons c l ih => rw [dotL, List.length_append, List.length_cons]; have := ih (c == 10); split <;> simp <;> lia
theorem ct_fix {f : Addr} {pm cd doc v1 v2 vc : Value} (hf : FnAt K f (stAt 6) "_fix_eols" pm cd doc) (G : GlT K v1 v2 vc) (x : Str) (hx : x.cps.size ≤ 1000000) : Ct prog w K f 1 [RS x] (RS ⟨(eolL x.cps.toList).toArray⟩) := by
  refine Ct.of (names := ["data"]) hf.1 hf.2 rfl (fun vs h => ?_) rfl rfl rfl rfl (by decide) (fun L y hy => ?_) rfl rfl rfl ?_
  · obtain ⟨v, rfl⟩ := len_one h
    rfl
  · rw [List.mem_singleton.mp hy]; exact .inl rfl
  intro A g s
  have h2 := eolL_len x.cps.toList
  have e : x.cps.toList.length = x.cps.size := by simp
  exact last (s_ret (Ev.sub2 (Ev.globR G.p2 G.r2) (Ev.globR G.pc G.rc) Ev.var (by (exact Nat.le_trans (by assumption) (Nat.le_add_left _ _))) (by lia)))
/-- what quotedata answers -/
noncomputable def quoteL (l : List Nat) : List Nat := dotL true (eolL l)
theorem ct_quote {f : Addr} {pm cd doc v1 v2 vc : Value} (hf : FnAt K f (stAt 5) "quotedata" pm cd doc) (G : GlT K v1 v2 vc) (x : Str) (hx : x.cps.size ≤ 1000000) : Ct prog w K f 1 [RS x] (RS ⟨(quoteL x.cps.toList).toArray⟩) := by
  refine Ct.of (names := ["data"]) hf.1 hf.2 rfl (fun vs h => ?_) rfl rfl rfl rfl (by decide) (fun L y hy => ?_) rfl rfl rfl ?_
  · obtain ⟨v, rfl⟩ := len_one h
    rfl
  · rw [List.mem_singleton.mp hy]; exact .inl rfl
  intro A g s
  have h2 := eolL_len x.cps.toList
  have e : x.cps.toList.length = x.cps.size := by simp
  have h1 := dotL_len true (eolL x.cps.toList)
  exact last (s_ret ((Ev.sub1 (x := ⟨(eolL x.cps.toList).toArray⟩) (Ev.globR G.p1 G.r1) (Ev.str _ _ _) (Ev.sub2 (Ev.globR G.p2 G.r2) (Ev.globR G.pc G.rc) Ev.var (by (exact Nat.le_trans (by assumption) (Nat.le_add_left _ _))) (by lia)) (by simp; lia) (by simp; lia))))
end
end Mine
end
section
open PySem PySem.W PyProof.Rows PySem.SeqAt
set_option maxRecDepth 100000
set_option linter.unusedVariables false
namespace Mine
section
variable {prog : Program} {w : World} {K : View} {F : Fr} {c : Cfg}
/-- a frozen set of ints -/
noncomputable def RSet (prog : Program) (w : World) (S : Int → Bool) : Rel := ⟨fun g v => ∃ a o n, v = .ref a ∧ n < scanBound ∧ g a = some o ∧ o.SetObjOf (intKind prog w) S n, fun k hpat => by obtain ⟨a, o, n, e, h, z, y⟩ := hpat; exact ⟨a, o, n, e, h, k _ _ z, y⟩⟩
theorem op_in_set {S : Int → Bool} (i : Int) : Op2 prog w (F.ctx K c) (compareOp .In) (RI i) (RSet prog w S) (RB (S i)) := fun a b => .mk fun g s ok hpat => by
  obtain ⟨⟨t, ha⟩, ⟨d, o, n, e, hn, hd, ho⟩⟩ := hpat
  have ok : Fm K F c g s := ok
  subst e; subst ha
  exact wpAny_inSet_of (knd := intKind prog w) (intKind_is prog w i t) rfl (ho.setOf (ok.sees _ _ hd) hn) (ends_toks ok.sees _ rfl)
noncomputable def b1S : List Int := [173, 847, 6150, 6155, 6156, 6157, 8203, 8204, 8205, 8288, 65279] ++ (List.range 16).map fun (i : Nat) => 65024 + (i : Int)
noncomputable def inB1 (ch : Nat) : Bool := b1S.any (· == (ch : Int))
theorem ct_b1 {f : Addr} {pm cd doc v : Value} {S : Int → Bool} (hf : FnAt K f (stAt 13) "in_table_b1" pm cd doc) (hset : Gl K "b1_set" v) (hS : (RSet prog w S).r K v) (hord : Gl K "ord" (.builtin "ord")) (ch : Nat) : Ct prog w K f 1 [RS ⟨#[ch]⟩] (RB (S ch)) := by
  refine Ct.of (names := ["code"]) hf.1 hf.2 rfl (fun vs h => ?_) rfl rfl rfl rfl (by decide) (fun L x hx => ?_) rfl rfl rfl ?_
  · obtain ⟨v, rfl⟩ := len_one h
    rfl
  · rw [List.mem_singleton.mp hx]; exact .inl rfl
  intro A g s
  exact last (s_ret (Ev.cmp (Ev.callb (Ev.glob hord) (Evs.cons Ev.var Evs.nil) (bf_ord ch)) (Ev.globR hset hS) (op_in_set _)))
/-! tables asked -/
theorem call_get {Kt : Type} [DecidableEq Kt] {knd : KeyKind prog w Kt} {kvs : List (Kt × Rel)} {k : Kt} {ov : Value} {R : Rel} (hlo : ov ≠ .ref sysModules) (hR : (getR kvs k).getD RN = R) (vs : List Value) :
    Tr prog w (F.ctx K c) (fun g => (RD knd kvs).r g ov ∧ All2 g [RKey knd k] vs) (call (.builtin "dict.get") (ov :: vs)) R.r := .mk fun g s ok hpat => by
  obtain ⟨⟨d, o, xs, e, n, h, hi, hh⟩, hv⟩ := hpat
  have ok : Fm K F c g s := ok
  obtain ⟨key, e', hk⟩ := one_of hv
  subst e; subst e'
  have hd : s.heap.DictOf knd d xs := Heap.dictOf_iff.mpr ⟨o, ok.sees _ _ h, hi⟩
  have lo : (d == sysModules) = false := by
    by_cases q : d = sysModules
    · exact absurd (by rw [q]) hlo
    · exact beq_eq_false_iff_ne.mpr q
  refine call_meetsIn PySem.F.slot_dict_get hd.mapOf.typeIs PySem.F.entry_dict_get (PySem.F.args_dict_get_2 _ _) (meets_dict_get knd d hk lo) ⟨_, hd.mapOf, ends_toks ok.sees _ ?_⟩
  rcases Holds.get hh.1 hh.2 k with ⟨q, r⟩ | ⟨L', u, q, r, hu⟩
  · rw [r]; rw [q] at hR; subst hR; rfl
  · rw [r]; rw [q] at hR; subst hR; exact hu
theorem Ev.get {Kt : Type} [DecidableEq Kt] {knd : KeyKind prog w Kt} {o e : Expr} {apos pos : Pos} {kvs : List (Kt × Rel)} {k : Kt} {R : Rel} {D : Value} (ho : Ev prog w (F.ctx K c) o ⟨fun g v => (RD knd kvs).r g v ∧ v = D, fun l ⟨h, e⟩ => ⟨(RD knd kvs).up l h, e⟩⟩) (hlo : D ≠ .ref sysModules)
    (ha : Evs prog w (F.ctx K c) pos [e] [RKey knd k]) (hR : (getR kvs k).getD RN = R)
    (hbase : attributeBase o "get" F.env (eval o F.env) = eval o F.env := by rfl)
    (hfew : ((backTo pos (starEach [e] F.env)).all (fun x => !x.1) && (backToKw pos (keywordEach [] F.env)).all (fun x => x.1.isSome)
      && decide (([e] : List Expr).length + ([] : List Keyword).length + (if ([] : List Keyword).isEmpty then 0 else 1) < 30)) = true := by rfl)
    (hline : (apos.endLine == pos.line) = true := by rfl) (hs : starEach [e] F.env = (false, eval e F.env) :: starEach [] F.env := by rfl) :
    Ev prog w (F.ctx K c) (.Call (.Attribute o "get" apos) [e] [] pos) R :=
  Ev.meth ho PySem.F.plainAttrs_dict PySem.F.slot_dict_get PySem.F.type_dict_get (fun g s v hs h => ty_dict g s v hs h.1) ha (fun ov vs => .mk fun g s ok h => (call_get (F := F) (c := c) (knd := knd) (ov := ov) (by rw [h.1.2]; exact hlo) hR vs).run g s ok ⟨h.1.1, h.2⟩) hbase hfew hline hs rfl
theorem op_isnot_none {R : Rel} {b : Bool} (h : ∀ g v, R.r g v → (v == .none) = !b) : Op2 prog w (F.ctx K c) (compareOp .IsNot) R RN (RB b) := fun a u => .mk fun g s ok hpat => by
  obtain ⟨ha, hu⟩ := hpat
  have ok : Fm K F c g s := ok
  have hu : u = .none := hu
  subst hu
  refine PySem.isNot_none (ends_here ok.sees ?_)
  rw [h g a ha, Bool.not_not]; rfl
theorem Ev.lower {o : Expr} {apos pos : Pos} {x : Str} (ho : Ev prog w (F.ctx K c) o (RS x)) (hf : x.length ≤ 5592405) (hbase : attributeBase o "lower" F.env (eval o F.env) = eval o F.env := by rfl)
    (hfew : ((backTo pos (starEach [] F.env)).all (fun x => !x.1) && (backToKw pos (keywordEach [] F.env)).all (fun x => x.1.isSome)
      && decide (([] : List Expr).length + ([] : List Keyword).length + (if ([] : List Keyword).isEmpty then 0 else 1) < 30)) = true := by rfl)
    (hline : (apos.endLine == pos.line) = true := by rfl) : Ev prog w (F.ctx K c) (.Call (.Attribute o "lower" apos) [] [] pos) (RS (Txt.lower x)) :=
  Ev.meth0 ho PySem.F.plainAttrs_str PySem.F.slot_str_lower PySem.F.type_str_lower ty_str (fun ov => .mk fun g s ok hpat => by
    obtain ⟨t, e⟩ := hpat
    subst e; exact SC.lower (fit_lower hf) (ends_toks (Ctx.sees _ ok) _ ⟨_, rfl⟩)) hbase hfew hline
/-- the program's table -/
noncomputable def b3L : List (Int × Str) := match stAt 14 with
  | .Assign _ (.Dict ks vs _) _ => (ks.zip vs).filterMap fun p => match p with
    | (some (.Constant (.int i) _ _), .Constant (.str x) _ _) => some (i, x)
    | _ => none
  | _ => []
noncomputable def b3R : List (Int × Rel) := b3L.map fun p => (p.1, RS p.2)
noncomputable def mapB3 (ch : Nat) : Str := match b3L.find? fun p => p.1 = (ch : Int) with
  | some p => p.2
  | none => Txt.lower ⟨#[ch]⟩
theorem get_b3 (ch : Nat) : getR b3R ch = (b3L.find? fun p => p.1 = (ch : Int)).map fun p => RS p.2 := by
  unfold getR b3R
  generalize b3L = l
  induction l with
  | nil => rfl
  | cons p l ih =>
    by_cases q : p.1 = (ch : Int)
    · simp [q]
    · simpa [q] using ih
theorem ct_b3 {f D : Addr} {pm cd doc : Value} (hf : FnAt K f (stAt 15) "map_table_b3" pm cd doc) (hb3 : Gl K "b3_exceptions" (.ref D)) (hD : (RD (intKind prog w) b3R).r K (.ref D)) (hlo : D ≠ sysModules) (hord : Gl K "ord" (.builtin "ord")) (ch : Nat) : Ct prog w K f 1 [RS ⟨#[ch]⟩] (RS (mapB3 ch)) := by
  refine Ct.of (names := ["code"]) hf.1 hf.2 rfl (fun vs h => ?_) rfl rfl rfl rfl (by decide) (fun L x hx => ?_) rfl rfl rfl ?_
  · obtain ⟨v, rfl⟩ := len_one h
    rfl
  · rw [List.mem_singleton.mp hx]; exact .inl rfl
  intro A g s
  refine seq (s_assign (Ev.get (knd := intKind prog w) (kvs := b3R) (k := (ch : Int)) (D := .ref D) (Ev.globR hb3 ⟨hD, rfl⟩) (fun e => hlo (Value.ref.inj e)) (Evs.cons ((Ev.callb (Ev.glob hord) (Evs.cons Ev.var Evs.nil) (bf_ord ch)).conv (int_le _)) Evs.nil) rfl) (.inl rfl)) ?_
  rw [get_b3]
  unfold mapB3
  cases q : b3L.find? fun p => p.1 = (ch : Int) with
  | some p => exact seqR (s_if (b := true) (Te.cmp (Ev.var (R := RS p.2)) (Ev.none _ _) (op_isnot_none fun g v ⟨t, e⟩ => by subst e; rfl)) (fun _ => last (s_ret Ev.var)) (fun e => by cases e)) fun _ _ z => z
  | none => exact seq (s_skip (b := false) (Te.cmp (Ev.var (R := RN)) (Ev.none _ _) (op_isnot_none fun g v e => by have e : v = .none := e; subst e; rfl)) rfl) (last (s_ret (Ev.lower (x := ⟨#[ch]⟩) Ev.var (by show 1 ≤ 5592405; decide))))
end
end Mine
end
section
open PySem PySem.W PyProof.Rows PySem.SeqAt
set_option maxRecDepth 100000
set_option linter.unusedVariables false
namespace Mine
noncomputable def clsSt (i : Nat) : Stmt := match stAt 8 with
  | .ClassDef _ _ _ b _ _ _ _ _ _ _ => b.getD i (.Pass ⟨0, 0, 0, 0⟩)
  | _ => .Pass ⟨0, 0, 0, 0⟩
/-- the class among the frozen objects -/
structure CmpK (K : View) (C fI fC : Addr) : Prop where
  cls : ∃ N mN, (∀ h, Sees K h → ClsAt h C N mN) ∧ mN "__init__" = some (.ref fI) ∧ mN "compare" = some (.ref fC) ∧ mN "__setattr__" = none ∧ mN "__getattribute__" = none ∧ mN "__getattr__" = none ∧ mN "comp_select_list" = none
  cin : ∃ o, K C = some o
  init : ∃ pm cd doc, FnAt K fI (clsSt 0) "TupleComp.__init__" pm cd doc
  comp : ∃ pm cd doc, FnAt K fC (clsSt 1) "TupleComp.compare" pm cd doc
  finit : ∃ o, K fI = some o ∧ o.cls = .type "function"
  fcomp : ∃ o, K fC = some o ∧ o.cls = .type "function"
/-- a comparer, its list as R says -/
noncomputable def RCmp (C : Addr) (R : Rel) : Rel := ⟨fun g v => ∃ x dx o od es ep u, v = .ref x ∧ g x = some o ∧ o.cls = .ref C ∧ o.dict = some dx ∧ (∀ c, o.data ≠ .cls c) ∧ dx ≠ x ∧ g dx = some od ∧ od.data = .dict es ep ∧ StrKeys es ∧ UniqKeys es ∧
  (∀ name, nsFind es name = if name = ("comp_select_list" : Str) then some u else none) ∧ R.r g u, fun k hpat => by obtain ⟨x, dx, o, od, es, ep, u, e1, e2, e3, e4, e5, e6, e7, e8, e9, e10, e11, e12⟩ := hpat; exact ⟨x, dx, o, od, es, ep, u, e1, k _ _ e2, e3, e4, e5, e6, k _ _ e7, e8, e9, e10, e11, R.up k e12⟩⟩
theorem obj_eq {a b : Obj} (h1 : a.cls = b.cls) (h2 : a.data = b.data) (h3 : a.slots = b.slots) (h4 : a.dict = b.dict) : a = b := by
  cases a; cases b; simp_all
section
variable {prog : Program} {w : World} {K : View} {F : Fr} {c : Cfg} {C fI fC : Addr}
theorem call_init {A : Around} {s : Shared} {x dx : Addr} {ox : Obj} {v : Value} (X : CmpK K C fI fC) (hroom : A.depth < recursionLimit) (hlim : s.heap.NoLimit) (hs : Sees K s.heap) (hKx : K x = none) (hx : s.heap.get? x = some ox) (hc : ox.cls = .ref C) (hdx : ox.dict = some dx)
    (hnc : ∀ c, ox.data ≠ .cls c) (hne : dx ≠ x) (hns : s.heap.Ns1 dx fun _ => none) :
    wpAny (model prog w) A (call (.ref fI) [.ref x, v]) (fun r s' => r = .none ∧ ∃ h' tk, s' = { s with heap := h', toks := tk } ∧ (∀ b o, b ≠ dx → s.heap.get? b = some o → h'.get? b = some o) ∧ h'.Ns1 dx fun n => if n = ("comp_select_list" : Str) then some v else none) NoE s := by
  obtain ⟨N, mN, hcls, _, _, m1, _, _, m4⟩ := X.cls
  obtain ⟨pm, cd, doc, ⟨o, hK, hd, hf1⟩, ⟨c, oc, fs, t, e, hcK, hcd, hq⟩⟩ := X.init
  obtain ⟨oC, hC⟩ := X.cin
  refine wpAny_call (codeAny_call_cells (body := bodyOf (clsSt 0)) (binds := [("self", .ref x), ("comp_select_list", v)]) hroom (hs _ _ hK) hd hlim ⟨c, oc, fs, t, e, hs _ _ hcK, hcd, hq⟩ rfl rfl rfl (fun y hy => ?_) (fun s₁ I => ?_) rfl rfl rfl)
  · rcases List.mem_cons.mp hy with rfl | hy
    · exact .inl rfl
    · rw [List.mem_singleton.mp hy]; exact .inl rfl
  · obtain ⟨h₁, tk₁, e₁⟩ := I.toInCall.same
    have ik := I.toInCall.keep
    have ns := I.toInCall.ns
    subst e₁
    have ks : Sees K h₁ := hs.keep ik
    have main : wpAny (model prog w) (A.deeper (callEnvC (fdOf (clsSt 0) "TupleComp.__init__" pm cd doc) s.heap.objs.size fI)) (execs (bodyOf (clsSt 0)) (callEnvC (fdOf (clsSt 0) "TupleComp.__init__" pm cd doc) s.heap.objs.size fI))
        (fun f s' => f = Flow.next ∧ ∃ h' tk, s' = { s with heap := h', toks := tk } ∧ (∀ b o, b ≠ dx → s.heap.get? b = some o → h'.get? b = some o) ∧ h'.Ns1 dx fun n => if n = ("comp_select_list" : Str) then some v else none) NoE { s with heap := h₁, toks := tk₁ } := by
      refine wpAny_execs_cons (plainObj_wpAny_Assign_Attribute (wpAny_Name (wpAny_loadName_local rfl rfl ns rfl ?_) rfl) rfl)
      refine wpAny_Name (wpAny_loadName_local rfl rfl ns rfl ?_) rfl
      obtain ⟨nm, q, bs, sn, sub, col, dd, k0, k1, k2, k3, k5, hC'⟩ := (hcls h₁ ks).obj
      have hxC : x ≠ C := fun e => by subst e; rw [hKx] at hC; cases hC
      refine store_attr PySem.F.store_object hC' (hcls h₁ ks).ns m1 m4 (by rw [typeLookup_type, builtinLookup_eq_fast]; kernel_rfl) hxC (mA := fun _ => none) ⟨ox, ik _ _ hx, hc, hnc, .inr ⟨dx, hdx, hne, hns.keeps ik⟩⟩ (fun h' tk' I' hk hsame => ?_) Within.nil (Nat.zero_le _)
      refine wpAny_pure ⟨rfl, h', tk', rfl, fun b o hb e => ?_, ?_⟩
      · by_cases q : b = x
        · subst q
          obtain ⟨o₁, e₁, c₁, d₁, s₁, k₁⟩ := hsame o (ik _ _ e)
          have : o₁ = o := by
            rw [hx] at e; cases e
            exact obj_eq c₁ d₁ s₁ ((k₁ dx hdx).trans hdx.symm)
          rw [e₁, this]
        · exact hk b o q (fun o₀ d₀ e₀ ed => by
            rw [ik _ _ hx] at e₀; cases e₀
            rw [hdx] at ed; cases ed; exact hb) (ik _ _ e)
      · obtain ⟨o', e', _, _, hd'⟩ := I'
        obtain ⟨o₁, e₁, c₁, d₁, s₁, k₁⟩ := hsame ox (ik _ _ hx)
        rw [e₁] at e'; cases e'
        rcases hd' with ⟨hn0, _⟩ | ⟨d', hd', _, hns'⟩
        · rw [k₁ dx hdx] at hn0; cases hn0
        · rw [k₁ dx hdx] at hd'; cases hd'; exact hns'
    exact wp_of main fun f s' ⟨e, z⟩ => by subst e; exact ⟨rfl, z⟩
theorem ev_newcmp {fn e : Expr} {pos : Pos} {R : Rel} (X : CmpK K C fI fC) (hf : Ev prog w (F.ctx K c) fn (RV (.ref C))) (ha : Evs prog w (F.ctx K c) pos [e] [R]) (hroom : 2 ≤ F.room)
    (he : eval (.Call fn [e] [] pos) F.env = (do callWith pos (← eval fn F.env) [] (backTo pos (starEach [e] F.env)) (backToKw pos (keywordEach [] F.env))) := by rfl)
    (hs : starEach [e] F.env = (false, eval e F.env) :: starEach [] F.env := by rfl) : Ev prog w (F.ctx K c) (.Call fn [e] [] pos) (RCmp C R) := .mk fun g s ok _ => by
  have ok : Fm K F c g s := ok
  refine Call_ (wp_of (hf.run g s ok trivial) fun v s₁ hpat => ?_) he
  obtain ⟨g₁, st₁, e'⟩ := hpat
  have e' : v = .ref C := e'
  subst e'
  have ok₁ := ok.up st₁
  obtain ⟨N, mN, hcls, m1, m2, m3, m4, m5, m6⟩ := X.cls
  refine callWith_cls (hcls _ ok₁.seesK) (wp_of (ha.run g₁ s₁ ok₁ trivial) fun vs s₂ ⟨g₂, st₂, hv⟩ => ⟨st₂.keep, ?_⟩) hs rfl
  obtain ⟨u, rfl, hu⟩ := one_of hv
  have ok₂ := ok₁.up st₂
  have hK₂ := ok₂.seesK
  obtain ⟨nm, q, bs, sn, sub, col, dd, k0, k1, k2, k3, k5, hC'⟩ := (hcls _ hK₂).obj
  obtain ⟨oI, hI, hIc⟩ := X.finit
  have hlim : s₂.heap.NoLimit := ok₂.fok.lim.keeps ok₂.st.keep
  refine wpAny_call_obj_init PySem.F.objNew hC' (hcls _ hK₂).ns m1 (hK₂ _ _ hI) hIc fun h' x dx Mk => ?_
  obtain ⟨ox, hx, hcx, hncx, hdx⟩ := Mk.inst
  have hdd := Mk.dict ox hx
  have hd2 : dx ≠ x ∧ h'.Ns1 dx fun _ => none := by
    rcases hdx with ⟨hn0, _⟩ | ⟨d', hd', hne, hns'⟩
    · rw [hn0] at hdd; cases hdd
    · rw [hdd] at hd'; cases hd'; exact ⟨hne, hns'⟩
  have hKx : K x = none := by
    cases q : K x with
    | none => rfl
    | some o => have := hK₂ _ _ q; rw [Mk.newX] at this; cases this
  refine wp_of (call_init (s := ⟨h', s₂.gens, s₂.drawn, s₂.toks, s₂.os⟩) X (by show F.A.depth + 1 < recursionLimit; have := ok₂.fok.room; lia) (hlim.keeps Mk.keeps) (fun a o e => Mk.keeps _ _ (hK₂ _ _ e)) hKx hx hcx hdd hncx hd2.1 hd2.2) fun r s₃ ⟨er, h₃, tk, e₃, k₃, ns₃⟩ => ⟨er, ?_⟩
  subst e₃
  obtain ⟨od, es, ep, q1, q2, q3, q4, q5⟩ := ns₃
  have k : Kp s₂.heap h₃ := fun b o e => k₃ b o (fun q => by subst q; rw [Mk.newD] at e; cases e) (Mk.keeps _ _ e)
  have stx : Step g₂ s₂ (g₂.add x ox) { s₂ with heap := h₃, toks := tk } := Step.push ok₂.sees k Mk.newX (k₃ x ox hd2.1.symm hx)
  have hgd : (g₂.add x ox) dx = none := by
    show (if dx = x then _ else _) = _
    rw [if_neg hd2.1]; exact none_of_sees ok₂.sees Mk.newD
  have std : Step g₂ s₂ ((g₂.add x ox).add dx od) { s₂ with heap := h₃, toks := tk } :=
    { same := ⟨h₃, tk, rfl⟩, keep := k, ext := stx.ext.trans (View.le_add hgd)
      new := fun a o e => by
        by_cases q : a = dx
        · subst q; exact .inr Mk.newD
        · refine stx.new a o ?_
          have : ((g₂.add x ox).add dx od) a = (g₂.add x ox) a := if_neg q
          rw [← this]; exact e
      sees := fun a o e => by
        by_cases q : a = dx
        · subst q; rw [View.add_self] at e; cases e; exact q1
        · have : ((g₂.add x ox).add dx od) a = (g₂.add x ox) a := if_neg q
          rw [this] at e; exact stx.sees a o e }
  refine ⟨_, (st₁.trans st₂).trans std, x, dx, ox, od, es, ep, u, rfl, ?_, hcx, hdd, hncx, hd2.1, View.add_self _ _ _, q2, q3, q4, q5, R.up std.ext hu⟩
  show (if x = dx then _ else _) = _
  rw [if_neg hd2.1.symm]; exact View.add_self _ _ _
/-- self.comp_select_list -/
theorem ev_cmplist {o : Expr} {pos : Pos} {R : Rel} (X : CmpK K C fI fC) (ho : Ev prog w (F.ctx K c) o (RCmp C R)) (hh : ∀ g v, R.r g v → handedOut v = pure v)
    (he : eval (.Attribute o "comp_select_list" pos) F.env = (do
      let v ← eval o F.env
      standAt pos.atName
      let r ← holding [v] (getAttr v "comp_select_list" true)
      letTemporaryGo o v r
      pure r) := by with_unfolding_all rfl) : Ev prog w (F.ctx K c) (.Attribute o "comp_select_list" pos) R := .mk fun g s ok _ => by
  have ok : Fm K F c g s := ok
  refine Attribute_any_ (wp_of (ho.run g s ok trivial) fun v s₁ hpat => ?_) he
  obtain ⟨g₁, st₁, x, dx, ox, od, es, ep, u, e1, e2, e3, e4, e5, e6, e7, e8, e9, e10, e11, e12⟩ := hpat
  subst e1
  have ok₁ := ok.up st₁
  obtain ⟨N, mN, hcls, m1, m2, m3, m4, m5, m6⟩ := X.cls
  obtain ⟨nm, q, bs, sn, sub, col, dd, k0, k1, k2, k3, k5, hC'⟩ := (hcls _ ok₁.seesK).obj
  refine load_attr hC' (hcls _ ok₁.seesK).ns m4 m6 (by rw [typeLookup_type, builtinLookup_eq_fast]; kernel_rfl) (mA := fun n => if n = ("comp_select_list" : Str) then some u else none)
    ⟨ox, ok₁.sees _ _ e2, e3, e5, .inr ⟨dx, e4, e6, od, es, ep, ok₁.sees _ _ e7, e8, e9, e10, e11⟩⟩ (if_pos rfl) (hh _ _ e12) ?_
  exact ends_step st₁ (ends_toks ok₁.sees _ e12)
/-- a method of the class called -/
theorem ev_cmpcall {o a b : Expr} {apos pos : Pos} {n : Nat} {R Ra Rb Z : Rel} (X : CmpK K C fI fC) (ho : Ev prog w (F.ctx K c) o (RCmp C R)) (ha : Evs prog w (F.ctx K c) pos [a, b] [Ra, Rb]) (hc : Ct prog w K fC n [RCmp C R, Ra, Rb] Z) (hn : n ≤ F.room)
    (hbase : attributeBase o "compare" F.env (eval o F.env) = eval o F.env := by rfl)
    (hfew : ((backTo pos (starEach [a, b] F.env)).all (fun x => !x.1) && (backToKw pos (keywordEach [] F.env)).all (fun x => x.1.isSome)
      && decide (([a, b] : List Expr).length + ([] : List Keyword).length + (if ([] : List Keyword).isEmpty then 0 else 1) < 30)) = true := by rfl)
    (hline : (apos.endLine == pos.line) = true := by rfl) (hs : starEach [a, b] F.env = (false, eval a F.env) :: starEach [b] F.env := by rfl) :
    Ev prog w (F.ctx K c) (.Call (.Attribute o "compare" apos) [a, b] [] pos) Z := .mk fun g s ok _ => by
  have ok : Fm K F c g s := ok
  show wpAny (model prog w) F.A (eval (.Call (.Attribute o "compare" apos) [a, b] [] pos) F.env) _ _ _
  rw [arm_eval_Call, hbase]
  refine wpAny_bind (wp_of (ho.run g s ok trivial) fun v s₁ hpat => ?_)
  obtain ⟨g₁, st₁, hr⟩ := hpat
  have hr' := hr
  obtain ⟨x, dx, ox, od, es, ep, u, e1, e2, e3, e4, e5, e6, e7, e8, e9, e10, e11, e12⟩ := hr'
  subst e1
  have ok₁ := ok.up st₁
  obtain ⟨N, mN, hcls, m1, m2, m3, m4, m5, m6⟩ := X.cls
  obtain ⟨nm, q, bs, sn, sub, col, dd, k0, k1, k2, k3, k5, hC'⟩ := (hcls _ ok₁.seesK).obj
  obtain ⟨of, hfo, hfc⟩ := X.fcomp
  obtain ⟨pm, cd, doc, ⟨o', hK, hd, _⟩, _⟩ := X.comp
  rw [hK] at hfo; cases hfo
  have I : s₁.heap.Inst x C fun n => if n = ("comp_select_list" : Str) then some u else none :=
    ⟨ox, ok₁.sees _ _ e2, e3, e5, .inr ⟨dx, e4, e6, od, es, ep, ok₁.sees _ _ e7, e8, e9, e10, e11⟩⟩
  refine wpAny_bind (wpAny_standAt ?_)
  have hform : methodCallForm (([a, b] : List Expr).length + ([] : List Keyword).length) (backTo pos (starEach [a, b] F.env)) (backToKw pos (keywordEach [] F.env)) = true := hfew
  have hpos : methodCallPos true o F.env apos pos = pure pos := by unfold methodCallPos; simp [hline]
  unfold methodCall
  rw [hform]
  have hB : typeLookup (.type "object") ("compare" : Str) = pure none := by rw [typeLookup_type, builtinLookup_eq_fast]; kernel_rfl
  refine wpAny_bind (wpAny_holding (method_of hC' (hcls _ ok₁.seesK).ns m4 m5 m2 (ok₁.seesK _ _ hK) hfc hB I (if_neg (by decide)) ?_))
  refine wpAny_bind (wpAny_of_eq hpos ?_)
  refine callWith_meth hd (ok₁.seesK _ _ hK) (wp_of (ha.run g₁ s₁ ok₁ trivial) fun vs s₂ ⟨g₂, st₂, hv⟩ => ⟨st₂.keep, ?_⟩) hs
  have ok₂ := ok₁.up st₂
  exact wp_of (hc.call ok₂ hn (vs := .ref x :: vs) ⟨(RCmp C R).up st₂.ext hr, hv⟩) fun u s₃ => ends_step (st₁.trans st₂)
/-! what is known, kept in a name's relation -/
noncomputable def RQ (P : Prop) (R : Rel) : Rel := ⟨fun g v => P ∧ R.r g v, fun k h => ⟨h.1, R.up k h.2⟩⟩
theorem So.known {x : Str} {P : Prop} {R : Rel} {t : Sem Flow} {q : Flow → Shared → Prop} (hx : look x c.ρ = some (RQ P R)) (h : P → So prog w K F c t q) : So prog w K F c t q := .mk fun g s ok => by
  obtain ⟨m, hm, hv⟩ := ok.vars
  obtain ⟨v, hr, _⟩ := hv x _ hx
  exact (h hr.1).run g s ok
theorem le_RQ {P : Prop} {R : Rel} : Le (RQ P R) R := fun _ _ h => h.2
theorem seqB {st : Stmt} {rest : List Stmt} {c' : Cfg} {R : Rel} (h : So prog w K F c (exec st F.env) (Bd K F c' R)) (k : So prog w K F c' (execs rest F.env) (Rt F R)) : So prog w K F c (execs (st :: rest) F.env) (Rt F R) :=
  .mk fun g s ok => wpAny_execs_cons (wp_of (h.run g s ok) fun f s' z => by
    rcases z with ⟨rfl, g', ok'⟩ | ⟨v, g', rfl, e⟩
    · exact k.run g' s' ok'
    · exact ⟨v, g', rfl, e⟩)
/-- what compare answers -/
noncomputable def cmpV (d1 d2 : Int) (m m' : Int) (x y : Str) : Int :=
  if x.cps.toList < y.cps.toList then -d1 else if y.cps.toList < x.cps.toList then d1 else if m < m' then -d2 else if m' < m then d2 else 0
noncomputable def RKeys (d1 d2 : Int) : Rel := RL [RT [RI 1, RI d1], RT [RI 0, RI d2]]
theorem ct_cmp {pm cd doc : Value} (X : CmpK K C fI fC) (hf : FnAt K fC (clsSt 1) "TupleComp.compare" pm cd doc) (d1 d2 m m' : Int) (x y : Str) :
    Ct prog w K fC 1 [RCmp C (RKeys d1 d2), RT [RI m, RS x], RT [RI m', RS y]] (RI (cmpV d1 d2 m m' x y)) := by
  refine Ct.of (names := ["self", "left", "right"]) hf.1 hf.2 rfl (fun vs h => ?_) rfl rfl rfl rfl (by decide) (fun L y hy => ?_) rfl rfl rfl ?_
  · obtain ⟨_, _, _, rfl⟩ := len_three h
    rfl
  · rcases List.mem_cons.mp hy with rfl | hy
    · exact .inl rfl
    rcases List.mem_cons.mp hy with rfl | hy
    · exact .inl rfl
    · rw [List.mem_singleton.mp hy]; exact .inl rfl
  intro A g s
  let P : Nat → Prop := fun i => (1 ≤ i → ¬ x.cps.toList < y.cps.toList ∧ ¬ y.cps.toList < x.cps.toList) ∧ (2 ≤ i → ¬ m < m' ∧ ¬ m' < m)
  have P0 : P 0 := ⟨fun h => absurd h (by decide), fun h => absurd h (by decide)⟩
  let inv : Nat → Cfg := fun i => ⟨[("left", RQ (P i) (RT [RI m, RS x])), ("right", RT [RI m', RS y])], none⟩
  let mid : Nat → Cfg := fun i => ⟨[("direction", RI (if i = 0 then d1 else d2)), ("index", RI (if i = 0 then 1 else 0)), ("left", RQ (P i) (RT [RI m, RS x])), ("right", RT [RI m', RS y])], none⟩
  refine seqB (c' := inv 2) (So.mono (s_forR inv mid (iter_list (ev_cmplist X (Ev.var (R := RCmp C (RKeys d1 d2))) (fun _ _ ⟨_, _, e, _⟩ => by subst e; rfl))) ⟨⟨_, rfl, fun _ _ h => ⟨P0, h⟩⟩, ⟨_, rfl, Le.refl _⟩, trivial⟩ rfl ?_) fun f s h => h) ?_
  · intro G H i j hj
    have hi : i < 2 := (List.getElem?_eq_some_iff.mp hj).1
    have ej : j = .one (RT [RI (if i = 0 then 1 else 0), RI (if i = 0 then d1 else d2)]) := by
      match i, hi with
      | 0, _ => exact (Option.some.inj hj).symm
      | 1, _ => exact (Option.some.inj hj).symm
    subst ej
    refine ⟨AsI.one (As.tup (AsL.add (As.name (.inl rfl)) (AsL.add (As.name (.inl rfl)) (.nil _)))), ?_⟩
    refine So.known (x := "left") (P := P i) (R := RT [RI m, RS x]) rfl fun hP => ?_
    match i, hi with
    | 0, _ =>
      refine seq (s_assign (R := RS x) (Ev.itemT ((Ev.var (R := RQ (P 0) (RT [RI m, RS x]))).conv le_RQ) (Ev.var (R := RI 1)) (by decide) (by decide) rfl) (.inl rfl)) ?_
      refine seq (s_assign (R := RS y) (Ev.itemT (Ev.var (R := RT [RI m', RS y])) (Ev.var (R := RI 1)) (by decide) (by decide) rfl) (.inl rfl)) ?_
      by_cases h1 : x.cps.toList < y.cps.toList
      · refine seqR (R := RI (cmpV d1 d2 m m' x y)) (s_if (Te.cmp Ev.var Ev.var (op_lt_str x y)) (fun _ => last (s_ret ((Ev.neg (i := d1) Ev.var).as ?_))) (fun e => absurd h1 (of_decide_eq_false e))) fun _ _ z => .inr z
        unfold cmpV; rw [if_pos h1]
      · refine seq (s_skip (Te.cmp Ev.var Ev.var (op_lt_str x y)) (decide_eq_false h1)) ?_
        by_cases h2 : y.cps.toList < x.cps.toList
        · refine seqR (R := RI (cmpV d1 d2 m m' x y)) (s_if (Te.cmp Ev.var Ev.var (op_gt_str x y)) (fun _ => last (s_ret (Ev.as (R := RI d1) Ev.var ?_))) (fun e => absurd h2 (of_decide_eq_false e))) fun _ _ z => .inr z
          unfold cmpV; rw [if_neg h1, if_pos h2]
        · have P1 : P 1 := ⟨fun _ => ⟨h1, h2⟩, fun h => absurd h (by decide)⟩
          exact last (So.mono (s_skip (Te.cmp Ev.var Ev.var (op_gt_str x y)) (decide_eq_false h2)) fun f s ⟨e, g, h⟩ => .inl ⟨e, g, h.to ⟨⟨_, rfl, fun _ _ h => ⟨P1, h.2⟩⟩, ⟨_, rfl, Le.refl _⟩, trivial⟩ rfl⟩)
    | 1, _ =>
      obtain ⟨h1, h2⟩ := hP.1 (Nat.le_refl _)
      refine seq (s_assign (R := RI m) (Ev.itemT ((Ev.var (R := RQ (P 1) (RT [RI m, RS x]))).conv le_RQ) (Ev.var (R := RI 0)) (by decide) (by decide) rfl) (.inl rfl)) ?_
      refine seq (s_assign (R := RI m') (Ev.itemT (Ev.var (R := RT [RI m', RS y])) (Ev.var (R := RI 0)) (by decide) (by decide) rfl) (.inl rfl)) ?_
      by_cases h3 : m < m'
      · refine seqR (R := RI (cmpV d1 d2 m m' x y)) (s_if (Te.cmp Ev.var Ev.var (op_lt m m')) (fun _ => last (s_ret ((Ev.neg (i := d2) Ev.var).as ?_))) (fun e => absurd h3 (of_decide_eq_false e))) fun _ _ z => .inr z
        unfold cmpV; rw [if_neg h1, if_neg h2, if_pos h3]
      · refine seq (s_skip (Te.cmp Ev.var Ev.var (op_lt m m')) (decide_eq_false h3)) ?_
        by_cases h4 : m' < m
        · refine seqR (R := RI (cmpV d1 d2 m m' x y)) (s_if (Te.cmp Ev.var Ev.var (op_gt m m')) (fun _ => last (s_ret (Ev.as (R := RI d2) Ev.var ?_))) (fun e => absurd h4 (of_decide_eq_false e))) fun _ _ z => .inr z
          unfold cmpV; rw [if_neg h1, if_neg h2, if_neg h3, if_pos h4]
        · have P2 : P 2 := ⟨fun _ => ⟨h1, h2⟩, fun _ => ⟨h3, h4⟩⟩
          exact last (So.mono (s_skip (Te.cmp Ev.var Ev.var (op_gt m m')) (decide_eq_false h4)) fun f s ⟨e, g, h⟩ => .inl ⟨e, g, h.to ⟨⟨_, rfl, fun _ _ h => ⟨P2, h.2⟩⟩, ⟨_, rfl, Le.refl _⟩, trivial⟩ rfl⟩)
  · refine So.known (x := "left") (P := P 2) (R := RT [RI m, RS x]) rfl fun hP => last (s_ret ((Ev.int 0 _ _).as ?_))
    obtain ⟨h1, h2⟩ := hP.1 (by decide)
    obtain ⟨h3, h4⟩ := hP.2 (by decide)
    unfold cmpV; rw [if_neg h1, if_neg h2, if_neg h3, if_neg h4]
end
end Mine
end
section
open PySem PySem.W PyProof.Rows PySem.SeqAt
set_option maxRecDepth 100000
set_option linter.unusedVariables false
set_option maxHeartbeats 400000
namespace Mine
/-- a text as its signs -/
noncomputable def LS (l : List Nat) : Rel := RS ⟨l.toArray⟩
noncomputable def kindL (ch V : Nat) : List (List Nat) :=
  if ch = 107 then [[107], [75], [8490], [173, 75]] else if ch = 109 then [[109], [119820], [77, 65024 + V / 4096 % 16], [8203, 109]] else [[66], [8492], [98, 8288], [65039, 119809]]
noncomputable def endsL : List (List Nat) := [[10], [13], [13, 10]]
noncomputable def endW (V p : Nat) : List Nat := endsL.getD (V / 3 ^ p % 3) []
noncomputable def wordW (ls : List Nat) (V p : Nat) : List Nat := (kindL (ls.getD p 0) V).getD (V / 4 ^ p % 4) []
noncomputable def pileT (ls : List Nat) (V : Nat) : Nat → List Nat
  | 0 => [107, 133] ++ endW V 6 ++ endW V 6 ++ [109]
  | i + 1 => [46] ++ wordW ls V (5 - i) ++ endW V (5 - i) ++ quoteL (pileT ls V i)
noncomputable def pileB : Nat → Nat
  | 0 => 7
  | i + 1 => 5 + 4 * pileB i
theorem quoteL_len (l : List Nat) : (quoteL l).length ≤ 4 * l.length := by
  have h1 := dotL_len true (eolL l)
  have h2 := eolL_len l
  unfold quoteL; lia
theorem endW_len (V p : Nat) : (endW V p).length ≤ 2 := by
  have h : V / 3 ^ p % 3 < 3 := Nat.mod_lt _ (by decide)
  unfold endW endsL
  match h' : V / 3 ^ p % 3, h with
  | 0, _ => decide
  | 1, _ => decide
  | 2, _ => decide
theorem kindL_len (ch V : Nat) : (kindL ch V).length = 4 ∧ ∀ x ∈ kindL ch V, x.length ≤ 2 := by
  unfold kindL
  split
  · exact ⟨rfl, by decide⟩
  · split
    · exact ⟨rfl, fun x hx => by simp at hx; rcases hx with rfl | rfl | rfl | rfl <;> exact Nat.le_of_ble_eq_true rfl⟩
    · exact ⟨rfl, by decide⟩
theorem wordW_len (ls : List Nat) (V p : Nat) : (wordW ls V p).length ≤ 2 := by
  have h : V / 4 ^ p % 4 < 4 := Nat.mod_lt _ (by decide)
  obtain ⟨h1, h2⟩ := kindL_len (ls.getD p 0) V
  unfold wordW
  rw [List.getD_eq_getElem?_getD, List.getElem?_eq_getElem (by simp_all)]
  exact h2 _ (List.getElem_mem _)
theorem pileT_len (ls : List Nat) (V : Nat) : ∀ i, (pileT ls V i).length ≤ pileB i
  | 0 => by have := endW_len V 6; simp [pileT, pileB]; lia
  | i + 1 => by
    have h1 := endW_len V (5 - i); have h2 := wordW_len ls V (5 - i); have h3 := quoteL_len (pileT ls V i); have h4 := pileT_len ls V i
    simp only [pileT, pileB, List.length_append, List.length_cons, List.length_nil]; lia
theorem rangeItems_get0 {n : Int} {i : Nat} {j : Item} (h : (rangeItems 0 n 1)[i]? = some j) : j = .one (RI i) := by
  have := rangeItems_get h
  rw [show (0 : Int) + i * 1 = i from by simp_all] at this
  exact this
section
variable {prog : Program} {w : World} {K : View} {F : Fr} {c : Cfg} {X : Ctx}
theorem str_app (a b : List Nat) : (⟨a.toArray⟩ : Str) ++ ⟨b.toArray⟩ = ⟨(a ++ b).toArray⟩ := by
  show (⟨a.toArray ++ b.toArray⟩ : Str) = _
  simp
theorem ev_cat {l r : Expr} {pos : Pos} {a b : List Nat} (hl : Ev prog w X l (LS a)) (hr : Ev prog w X r (LS b)) (hs : a.length + b.length ≤ 16777216) : Ev prog w X (.BinOp l .Add r pos) (LS (a ++ b)) :=
  (Ev.bin hl hr (op_add_str ⟨a.toArray⟩ ⟨b.toArray⟩ (by show a.toArray.size + b.toArray.size ≤ _; simpa using hs))).as (by rw [str_app]; rfl)
/-- n // b ** p % m -/
theorem ev_digit {a e : Expr} {b m V p : Nat} {k1 k2 : Nat} {p1 p2 p3 p4 p5 : Pos} (ha : Ev prog w X a (RI (V : Int))) (he : Ev prog w X e (RI (p : Int))) (hp : p ≤ 1000000) (hb : b ^ p < 2 ^ 64) (hb0 : 1 ≤ b) (hb1 : b < 2 ^ 64) (hm : m ≠ 0) :
    Ev prog w X (.BinOp (.BinOp a .FloorDiv (.BinOp (.Constant (.int (b : Int)) k1 p1) .Pow e p2) p3) .Mod (.Constant (.int (m : Int)) k2 p4) p5) (RI ((V / b ^ p % m : Nat) : Int)) := by
  refine Ev.bin (Ev.bin ha ((Ev.bin (Ev.int (b : Int) k1 p1) he (op_pow (b : Int) p (by simp) (by lia) (by simpa using hb1))).as (R' := RI ((b ^ p : Nat) : Int)) ?_) (op_ndiv V (b ^ p) ?_ (pylong_small ?_))) (Ev.int (m : Int) k2 p4) (op_nmod _ _ hm)
  · have : ((p : Int)).toNat = p := by simp
    rw [this, Int.natCast_pow]
  · exact Nat.pos_iff_ne_zero.mp (Nat.pow_pos hb0)
  · simpa using hb
theorem idx_nat {Rs : List Rel} {k : Nat} {R : Rel} (h : Rs[k]? = some R) : Rs[(k : Int).toNat]? = some R := by
  rw [Int.toNat_natCast]; exact h
theorem getD_some {α : Type} {l : List α} {k : Nat} {d : α} (h : k < l.length) : l[k]? = some (l.getD k d) := by
  rw [List.getD_eq_getElem?_getD, List.getElem?_eq_getElem h]; rfl
theorem map_getD {α : Type} {l : List α} {k : Nat} {d : α} (f : α → Rel) (h : k < l.length) : (l.map f)[k]? = some (f (l.getD k d)) := by
  rw [List.getElem?_map, getD_some (d := d) h]; rfl
theorem pow_small (b : Nat) (hb : b ≤ 4) : ∀ i < 7, b ^ i < 2 ^ 64 := fun i hi => Nat.lt_of_le_of_lt (Nat.pow_le_pow_left hb i) (Nat.lt_of_le_of_lt (Nat.pow_le_pow_right (by decide) (Nat.le_of_lt hi)) (by decide))
theorem range_get {n k : Nat} (f : Nat → Rel) (h : k < n) : ((List.range n).map f)[k]? = some (f k) := by
  rw [List.getElem?_map, List.getElem?_range h]; rfl
noncomputable def letterOk (ch : Nat) : Prop := ch = 107 ∨ ch = 109 ∨ ch = 98
noncomputable def RTxt (ls : List (List Nat)) : Rel := RT (ls.map LS)
noncomputable def kindsR (V : Nat) : List (Str × Rel) := [(⟨#[107]⟩, RTxt (kindL 107 V)), (⟨#[109]⟩, RTxt (kindL 109 V)), (⟨#[98]⟩, RTxt (kindL 98 V))]
theorem kinds_get {ch : Nat} (V : Nat) (h : letterOk ch) : getR (kindsR V) ⟨#[ch]⟩ = some (RTxt (kindL ch V)) := by
  rcases h with rfl | rfl | rfl <;> rfl
theorem ct_pile {f fq ff : Addr} {pm cd doc pm1 cd1 doc1 pm2 cd2 doc2 v1 v2 vc : Value} (hf : FnAt K f (stAt 17) "_law_pile" pm cd doc) (hfq : FnAt K fq (stAt 5) "quotedata" pm1 cd1 doc1) (hff : FnAt K ff (stAt 6) "_fix_eols" pm2 cd2 doc2)
    (G : GlT K v1 v2 vc) (gq : Gl K "quotedata" (.ref fq)) (gf : Gl K "_fix_eols" (.ref ff)) (hr : Gl K "range" (.type "range")) (hchr : Gl K "chr" (.builtin "chr")) (ls : List Nat) (V : Nat) (h6 : ls.length = 6) (hls : ∀ ch ∈ ls, letterOk ch) :
    Ct prog w K f 2 [RL (ls.map fun ch => LS [ch]), RI (V : Int)] (RT [LS (eolL (pileT ls V 6)), RL ((List.range 6).map fun p => LS (wordW ls V p))]) := by
  refine Ct.of (names := ["letters", "value"]) hf.1 hf.2 rfl (fun vs h => ?_) rfl rfl rfl rfl (by decide) (fun L x hx => ?_) rfl rfl rfl ?_
  · obtain ⟨_, _, rfl⟩ := len_two h
    rfl
  · rcases List.mem_cons.mp hx with rfl | hx
    · exact .inr ⟨rfl, rfl⟩
    · rw [List.mem_singleton.mp hx]; exact .inr ⟨rfl, rfl⟩
  intro A g s
  refine seq (s_assign (R := RD (strKind prog w) (kindsR V)) (Ev.as (ev_dict (knd := strKind prog w) (kvs := kindsR V) (EvPairs.cons ?_ ?_ (EvPairs.cons ?_ ?_ (EvPairs.cons ?_ ?_ EvPairs.nil)))) ?_) (storesC rfl)) ?_
  · exact (Ev.str _ _ _).conv (str_le _)
  · exact Ev.tuple (Evs.cons (Ev.str _ _ _) (Evs.cons (Ev.str _ _ _) (Evs.cons (Ev.str _ _ _) (Evs.cons (Ev.str _ _ _) Evs.nil))))
  · exact (Ev.str _ _ _).conv (str_le _)
  · refine Ev.tuple (Evs.cons (Ev.str _ _ _) (Evs.cons (Ev.str _ _ _) (Evs.cons (R := LS [77, 65024 + V / 4096 % 16]) (ev_cat (a := [77]) (b := [65024 + V / 4096 % 16]) (Ev.str _ _ _) (Ev.as (Ev.callb (Ev.glob hchr) (Evs.cons (Ev.bin (Ev.int _ _ _) (Ev.bin (Ev.bin (Ev.var (R := RI (V : Int))) (Ev.int _ _ _) (op_ndiv V 4096 (by decide) (pylong_small (by decide)))) (Ev.int _ _ _) (op_nmod _ 16 (by decide))) (op_add _ _)) Evs.nil) (bf_chr _ ?_ ?_)) ?_) (by simp)) (Evs.cons (Ev.str _ _ _) Evs.nil))))
    · lia
    · lia
    · have : ((65024 : Int) + ((V / 4096 % 16 : Nat) : Int)).toNat = 65024 + V / 4096 % 16 := by (exact rfl)
      rw [this]; rfl
  · exact (Ev.str _ _ _).conv (str_le _)
  · exact Ev.tuple (Evs.cons (Ev.str _ _ _) (Evs.cons (Ev.str _ _ _) (Evs.cons (Ev.str _ _ _) (Evs.cons (Ev.str _ _ _) Evs.nil))))
  · rfl
  refine seq (s_map [("value", RI (V : Int))] (fun i => [("place", RI (i : Int)), ("value", RI (V : Int))]) 7 (fun i => LS (endW V i)) (iter_range (Ev.callt (Ev.glob hr) (Evs.cons (Ev.int _ _ _) Evs.nil) (bf_range1 7))) rfl (by decide) ⟨rfl, by decide, rfl, by decide⟩ ⟨⟨⟨_, rfl, Le.refl _⟩, .inl rfl, rfl, rfl⟩, trivial⟩ ?_ (.inl rfl)) ?_
  · intro C g s G H pv i j hj hi
    rw [rangeItems_get0 hj]
    have hi : i < 7 := hi
    refine ⟨AsI.name (.inl rfl), ⟨⟨_, rfl, Le.refl _⟩, trivial⟩, ?_⟩
    refine Ev.itemT (Rs := endsL.map LS) (Ev.tuple (Evs.cons (Ev.str _ _ _) (Evs.cons (Ev.str _ _ _) (Evs.cons (Ev.str _ _ _) Evs.nil)))) (ev_digit (b := 3) (m := 3) (p := i) (Ev.var (R := RI (V : Int))) (Ev.var (R := RI (i : Int))) (by lia) (pow_small 3 (by decide) i hi) (by decide) (by decide) (by decide)) (by grind) ?_ (idx_nat (map_getD (d := []) LS ?_))
    · have : V / 3 ^ i % 3 < 3 := Nat.mod_lt _ (by decide)
      omega
    · exact Nat.mod_lt _ (by decide)
  refine seq (s_map [("letters", RL (ls.map fun ch => LS [ch])), ("value", RI (V : Int)), ("kinds", RD (strKind prog w) (kindsR V))] (fun i => [("place", RI (i : Int)), ("letters", RL (ls.map fun ch => LS [ch])), ("value", RI (V : Int)), ("kinds", RD (strKind prog w) (kindsR V))]) 6 (fun i => LS (wordW ls V i)) (iter_range (Ev.callt (Ev.glob hr) (Evs.cons (Ev.int _ _ _) Evs.nil) (bf_range1 6))) rfl (by decide) ⟨rfl, by decide, rfl, by decide⟩
    ⟨⟨⟨_, rfl, Le.refl _⟩, .inl rfl, rfl, rfl⟩, ⟨⟨_, rfl, Le.refl _⟩, .inl rfl, rfl, rfl⟩, ⟨⟨_, rfl, Le.refl _⟩, .inl rfl, rfl, rfl⟩, trivial⟩ ?_ (.inl rfl)) ?_
  · intro C g s G H pv i j hj hi
    rw [rangeItems_get0 hj]
    have hi : i < 6 := hi
    refine ⟨AsI.name (.inl rfl), ⟨⟨_, rfl, Le.refl _⟩, ⟨_, rfl, Le.refl _⟩, ⟨_, rfl, Le.refl _⟩, trivial⟩, ?_⟩
    have hch : letterOk (ls.getD i 0) := hls _ (List.mem_of_getElem? (getD_some (d := 0) (by omega)))
    have hk := (kindL_len (ls.getD i 0) V).1
    refine Ev.itemT (Rs := (kindL (ls.getD i 0) V).map LS) (Ev.itemD (knd := strKind prog w) (kvs := kindsR V) (k := ⟨#[ls.getD i 0]⟩) Ev.var ((Ev.itemL (Rs := ls.map fun ch => LS [ch]) (k := (i : Int)) Ev.var Ev.var (by omega) (by omega) (idx_nat (map_getD (d := 0) (fun ch => LS [ch]) (by omega)))).conv (str_le _)) (kinds_get V hch))
      (ev_digit (b := 4) (m := 4) (p := i) (Ev.var (R := RI (V : Int))) (Ev.var (R := RI (i : Int))) (by omega) (pow_small 4 (by decide) i (by omega)) (by decide) (by decide) (by decide)) (by omega) ?_ (idx_nat (map_getD (d := []) LS ?_))
    · have : V / 4 ^ i % 4 < 4 := Nat.mod_lt _ (by decide)
      omega
    · rw [hk]; exact Nat.mod_lt _ (by decide)
  refine seq (s_assign (R := LS (pileT ls V 0)) ?_ (.inl rfl)) ?_
  · have e6 := endW_len V 6
    exact ev_cat (a := [107, 133] ++ endW V 6 ++ endW V 6) (b := [109]) (ev_cat (ev_cat (a := [107, 133]) (Ev.str _ _ _) (Ev.itemL (k := 6) Ev.var (Ev.int _ _ _) (by decide) (by decide) (range_get (n := 7) (k := 6) _ (by decide))) (by simp; omega)) (Ev.itemL (k := 6) Ev.var (Ev.int _ _ _) (by decide) (by decide) (range_get (n := 7) (k := 6) _ (by decide))) (by simp; omega)) (Ev.str _ _ _) (by simp; omega)
  let ρ0 : List (Str × Rel) := [("words", RL ((List.range 6).map fun i => LS (wordW ls V i))), ("ends", RL ((List.range 7).map fun i => LS (endW V i)))]
  refine seq (c' := ⟨("text", LS (pileT ls V 6)) :: ρ0, none⟩) (So.mono (s_forR (R := ⟨fun _ _ => False, fun _ h => h⟩) (fun i => ⟨("text", LS (pileT ls V i)) :: ρ0, none⟩) (fun i => ⟨("place", RI (5 + (i : Int) * (-1))) :: ("text", LS (pileT ls V i)) :: ρ0, none⟩)
    (iter_range (Ev.callt (Ev.glob hr) (Evs.cons (Ev.int _ _ _) (Evs.cons (Ev.neg (Ev.int 1 _ _)) (Evs.cons (Ev.neg (Ev.int 1 _ _)) Evs.nil))) (bf_range3 5 (-1) (-1) (by decide) (by decide)))) ⟨⟨_, rfl, Le.refl _⟩, ⟨_, rfl, Le.refl _⟩, ⟨_, rfl, Le.refl _⟩, trivial⟩ rfl ?_) ?_) ?_
  · intro G' H i j hj
    have hi : i < 6 := (List.getElem?_eq_some_iff.mp hj).1
    rw [rangeItems_get hj]
    refine ⟨AsI.name (.inl rfl), ?_⟩
    have hp : (5 + (i : Int) * (-1)) = ((5 - i : Nat) : Int) := by omega
    have hT := pileT_len ls V i
    have hB : pileB i ≤ 10000 := by
      match i, hi with
      | 0, _ => decide
      | 1, _ => decide
      | 2, _ => decide
      | 3, _ => decide
      | 4, _ => decide
      | 5, _ => decide
    have hq := quoteL_len (pileT ls V i)
    have h1 := endW_len V (5 - i)
    have h2 := wordW_len ls V (5 - i)
    refine last (So.mono (s_assign (R := LS (pileT ls V (i + 1))) ?_ (.inl rfl)) fun f s ⟨e, g, h⟩ => .inl ⟨e, g, h.to ⟨⟨_, rfl, Le.refl _⟩, ⟨_, rfl, Le.refl _⟩, ⟨_, rfl, Le.refl _⟩, trivial⟩ rfl⟩)
    refine ev_cat (a := [46] ++ wordW ls V (5 - i) ++ endW V (5 - i)) (ev_cat (ev_cat (a := [46]) (Ev.str _ _ _) (Ev.itemL (k := ((5 - i : Nat) : Int)) Ev.var (Ev.as Ev.var (by rw [hp])) (by omega) (by omega) (idx_nat (range_get (n := 6) (k := 5 - i) _ (by omega)))) (by simp; omega)) (Ev.itemL (k := ((5 - i : Nat) : Int)) Ev.var (Ev.as Ev.var (by rw [hp])) (by omega) (by omega) (idx_nat (range_get (n := 7) (k := 5 - i) _ (by omega)))) (by simp; omega))
      (Ev.callf (Ev.glob gq) hfq.1 (Evs.cons Ev.var Evs.nil) (ct_quote hfq G ⟨(pileT ls V i).toArray⟩ (by simp; omega)) (by show 1 ≤ 1; decide)) (by simp; omega)
  · intro f s h
    rcases h with h | ⟨_, _, _, _, h⟩
    · exact h
    · exact h.elim
  · have hT := pileT_len ls V 6
    have hB : pileB 6 ≤ 100000 := by decide
    exact last (s_ret (Ev.tuple (Evs.cons (Ev.callf (Ev.glob gf) hff.1 (Evs.cons Ev.var Evs.nil) (ct_fix hff G ⟨(pileT ls V 6).toArray⟩ (by simp; omega)) (by show 1 ≤ 1; decide)) (Evs.cons Ev.var Evs.nil))))
end
end Mine
end
section
open PySem PySem.W PyProof.Rows PySem.SeqAt
open Builtin.Str (partsBetween occurrences)
set_option maxRecDepth 100000
set_option linter.unusedVariables false
set_option maxHeartbeats 400000
namespace Mine
/-- what _law_read tells of a row -/
noncomputable def restR (row : Str) : Str := Txt.lstripChars row ⟨#[46]⟩
noncomputable def lettersR (x : Str) : List Str := (x.cps.toList.filter fun c => !inB1 c).map mapB3
noncomputable def toldR (row : Str) : Int × Str := ((row.length : Int) - ((restR row).length : Int), Txt.join ⟨#[]⟩ (lettersR (restR row)))
noncomputable def rowsR (mail : Str) : List Str := Txt.split mail ⟨#[13, 10]⟩
noncomputable def readR (mail : Str) : List (Int × Str) := (rowsR mail).map toldR
noncomputable def RTold (p : Int × Str) : Rel := RT [RI p.1, RS p.2]
/-- what keeps a mail within bounds -/
structure MailOk (mail : Str) : Prop where
  sz : mail.length ≤ 16777216
  parts : (partsBetween mail (occurrences mail ⟨#[13, 10]⟩ 0 mail.length (mail.length + 1)) 2).length ≤ sizeLine
  rows : (rowsR mail).length ≤ 16777215
  row : ∀ r ∈ rowsR mail, r.length ≤ 16777216 ∧ (restR r).length ≤ 16777216 ∧ JoinOk ⟨#[]⟩ (lettersR (restR r)) = true
section
variable {prog : Program} {w : World} {K : View} {F : Fr} {c : Cfg} {X : Ctx}
theorem range_map_getD {α β : Type} (xs : List α) (d : α) (f : α → β) : (List.range xs.length).map (fun i => f (xs.getD i d)) = xs.map f := by
  refine List.ext_getElem (by simp) fun i h1 h2 => ?_
  have : i < xs.length := by simpa using h2
  simp [List.getD_eq_getElem?_getD, List.getElem?_eq_getElem this]
theorem s_mapL {α : Type} (xs : List α) (d : α) (f : α → Rel) {elt iter target : Expr} {scope : Scope} {pos spos py : Pos} {y : Str} {cl : List (Str × Addr)} {items : List Item} (ρ' : List (Str × Rel)) (mid : Nat → List (Str × Rel))
    (hi : EvIter prog w (F.ctx K c) iter target items) (hn : items.length = xs.length) (hsz : xs.length ≤ 16777216) (co : CompOk F scope cl) (fr : FreeOk F scope cl c.ρ ρ') (hb : CompM prog w K F scope cl elt target items ρ' mid (fun i => f (xs.getD i d))) (hy : F.Stores y)
    (hsw : swapsWith (.ListComp elt [⟨target, iter, [], 0⟩] scope pos) (some (.Name y py)) spos.line F.env = pure true := by rfl)
    (hf : ∀ x, foldedSetIterable iter F.env x = pure x := by intro _; rfl) :
    So prog w K F c (exec (.Assign [.Name y py] (.ListComp elt [⟨target, iter, [], 0⟩] scope pos) spos) F.env) (Nx K F (c.set y (RL (xs.map f)))) := by
  rw [← range_map_getD xs d f]
  exact s_map ρ' mid xs.length _ hi hn hsz co fr hb hy hsw hf
theorem letters_outs (cs : List Nat) : (cs.map fun ch => if inB1 ch then Option.none else some (RS (mapB3 ch))).filterMap id = ((cs.filter fun c => !inB1 c).map mapB3).map RS := by
  induction cs with
  | nil => rfl
  | cons x l ih => cases h : inB1 x <;> simp [h] at ih ⊢ <;> exact ih
theorem none_outs (cs : List Nat) : (cs.map fun _ => (Option.none : Option Rel)).filterMap id = [] := by
  induction cs with
  | nil => rfl
  | cons x l ih => simp at ih ⊢
theorem ct_read {f f1 f2 D : Addr} {pm cd doc pm1 cd1 doc1 pm2 cd2 doc2 v : Value} {S : Int → Bool} (hf : FnAt K f (stAt 19) "_law_read" pm cd doc) (hf1 : FnAt K f1 (stAt 13) "in_table_b1" pm1 cd1 doc1) (hf2 : FnAt K f2 (stAt 15) "map_table_b3" pm2 cd2 doc2)
    (hset : Gl K "b1_set" v) (hS : (RSet prog w S).r K v) (hSb : ∀ ch : Nat, S ch = inB1 ch) (hb3 : Gl K "b3_exceptions" (.ref D)) (hD : (RD (intKind prog w) b3R).r K (.ref D)) (hlo : D ≠ sysModules) (hord : Gl K "ord" (.builtin "ord"))
    (hl : Gl K "len" (.builtin "len")) (hzip : Gl K "zip" (.type "zip")) (g1 : Gl K "in_table_b1" (.ref f1)) (g2 : Gl K "map_table_b3" (.ref f2)) (mail : Str) (hm : MailOk mail) :
    Ct prog w K f 2 [RS mail] (RL ((readR mail).map RTold)) := by
  refine Ct.of (names := ["mail"]) hf.1 hf.2 rfl (fun vs h => ?_) rfl rfl rfl rfl (by decide) (fun L x hx => ?_) rfl rfl rfl ?_
  · obtain ⟨_, rfl⟩ := len_one h
    rfl
  · rw [List.mem_singleton.mp hx]; exact .inl rfl
  intro A g s
  refine seqE (s_newlist rfl (.inl rfl)) fun T => ?_
  refine seq (c' := ⟨[("told", RV (.ref T))], some (T, PvL ((readR mail).map RTold))⟩) ?_ (last (s_ret_own rfl rfl))
  refine So.mono (s_forR (R := ⟨fun _ _ => False, fun _ h => h⟩) (fun i => ⟨[("told", RV (.ref T))], some (T, PvL (((readR mail).take i).map RTold))⟩)
    (fun i => ⟨[("row", RS ((rowsR mail).getD i ⟨#[]⟩)), ("told", RV (.ref T))], some (T, PvL (((readR mail).take i).map RTold))⟩)
    (iter_list (Rs := (rowsR mail).map RS) (Ev.meth Ev.var PySem.F.plainAttrs_str PySem.F.slot_str_split PySem.F.type_str_split ty_str (Evs.cons (Ev.str _ _ _) Evs.nil) (fun ov vs => call_split (by rfl) (by rw [sizeLine_eq]; exact hm.sz) hm.parts vs))) ⟨⟨_, rfl, Le.refl _⟩, trivial⟩ rfl ?_) ?_
  · intro G H i j hj
    have hi : i < (rowsR mail).length := by have := (List.getElem?_eq_some_iff.mp hj).1; simpa using this
    have ej : j = .one (RS ((rowsR mail).getD i ⟨#[]⟩)) := by
      rw [List.getElem?_map, List.getElem?_map, getD_some (d := ⟨#[]⟩) hi] at hj
      exact (Option.some.inj hj).symm
    subst ej
    refine ⟨AsI.name (.inl rfl), ?_⟩
    have hmem : (rowsR mail).getD i ⟨#[]⟩ ∈ rowsR mail := List.mem_of_getElem? (getD_some hi)
    obtain ⟨q1, q2, q3⟩ := hm.row _ hmem
    have htold : ((readR mail).take (i + 1)).map RTold = ((readR mail).take i).map RTold ++ [RTold (toldR ((rowsR mail).getD i ⟨#[]⟩))] := by
      have : (readR mail)[i]? = some (toldR ((rowsR mail).getD i ⟨#[]⟩)) := by
        unfold readR
        rw [List.getElem?_map, getD_some (d := ⟨#[]⟩) hi]; rfl
      rw [List.take_add_one, this, List.map_append]; rfl
    have hlen : (((readR mail).take i).map RTold).length ≤ 16777216 := by
      have := hm.rows
      simp [readR]; grind
    generalize hrow : (rowsR mail).getD i ⟨#[]⟩ = row at *
    let cs := (restR row).cps.toList
    have hcs : cs.length = (restR row).length := by show (restR row).cps.toList.length = (restR row).cps.size; simp
    refine seq (s_assign (R := RS (restR row)) (Ev.meth (Ev.var (R := RS row)) PySem.F.plainAttrs_str PySem.F.slot_str_lstrip PySem.F.type_str_lstrip ty_str (Evs.cons (Ev.str _ _ _) Evs.nil) (fun ov vs => call_lstrip (y := ⟨#[46]⟩) (by rw [sizeLine_eq]; exact q1) vs)) (.inl rfl)) ?_
    refine seq (s_mapL cs 0 (fun ch => RB (inB1 ch)) [] (fun i => [("sign", RS ⟨#[cs.getD i 0]⟩)]) (iter_str (Ev.var (R := RS (restR row)))) (by rw [List.length_map]) (by rw [hcs]; exact q2) ⟨rfl, by decide, rfl, by decide⟩ trivial ?_ (.inl rfl)) ?_
    · intro C g s G H pv i j hj hi
      have hi : i < cs.length := by rw [List.length_map] at hi; exact hi
      have ej : j = .one (RS ⟨#[cs.getD i 0]⟩) := by
        have hj : (cs.map fun c => Item.one (RS ⟨#[c]⟩))[i]? = some j := hj
        rw [List.getElem?_map, getD_some (d := 0) hi] at hj
        exact (Option.some.inj hj).symm
      subst ej
      refine ⟨AsI.name (.inl rfl), trivial, ?_⟩
      exact (Ev.callf (Ev.glob g1) hf1.1 (Evs.cons Ev.var Evs.nil) (ct_b1 hf1 hset hS hord (cs.getD i 0)) (by show 1 ≤ 1; decide)).as (by rw [hSb])
    refine seq (s_skip (b := false) ((Te.cmp ((Ev.listcomp [] (fun i => [("mark", RB (inB1 (cs.getD i 0)))]) (cs.map fun _ => Option.none) (iter_list (Ev.var (R := RL (cs.map fun ch => RB (inB1 ch))))) (by simp) (by rw [List.length_map, hcs]; exact q2) ⟨rfl, by decide, rfl, by decide⟩ trivial ?_).conv (R' := RP (.list [])) ?_)
      ((Ev.list Evs.nil).conv (R' := RP (.list [])) (le_list trivial)) (op_ned (by decide) (by decide))).as (by decide +kernel)) rfl) ?_
    · intro C g s G H pv i j hj
      have hi : i < cs.length := by have := (List.getElem?_eq_some_iff.mp hj).1; rw [List.length_map, List.length_map] at this; exact this
      have ej : j = .one (RB (inB1 (cs.getD i 0))) := by
        rw [List.getElem?_map, List.getElem?_map, getD_some (d := 0) hi] at hj
        exact (Option.some.inj hj).symm
      subst ej
      have hk : kept (cs.map fun _ => (Option.none : Option Rel)) i = false := (kept_of (o := Option.none) (by rw [List.getElem?_map, getD_some (d := 0) hi]; rfl)).trans rfl
      refine ⟨AsI.name (.inl rfl), trivial, Tst.one ((Te.and (Te.cmp (Ev.var (R := RB (inB1 (cs.getD i 0)))) (Ev.bool _ _ _) (op_isnot_bool _ _)) fun _ => Te.cmp (Ev.var (R := RB (inB1 (cs.getD i 0)))) (Ev.bool _ _ _) (op_isnot_bool _ _)).as ?_), fun hh => ?_⟩
      · rw [hk]; cases inB1 (cs.getD i 0) <;> rfl
      · rw [hk] at hh; cases hh
    · rw [none_outs]; exact le_list trivial
    refine last (So.mono (s_append (R := RTold (toldR row)) rfl rfl (Ev.tuple (Evs.cons (Ev.bin (Ev.callb (Ev.glob hl) (Evs.cons (Ev.var (R := RS row)) Evs.nil) (bf_len_str row q1)) (Ev.callb (Ev.glob hl) (Evs.cons (Ev.var (R := RS (restR row))) Evs.nil) (bf_len_str (restR row) q2)) (op_sub _ _)) (Evs.cons
      (Ev.meth (Ev.str _ _ _) PySem.F.plainAttrs_str PySem.F.slot_str_join PySem.F.type_str_join ty_str (Evs.cons ((Ev.listcomp [] (fun i => [("mark", RB (inB1 (cs.getD i 0))), ("sign", RS ⟨#[cs.getD i 0]⟩)]) (cs.map fun ch => if inB1 ch then Option.none else some (RS (mapB3 ch)))
        (iter_zip (x := restR row) (Rs := cs.map fun ch => RB (inB1 ch)) (Ev.glob hzip) Ev.var Ev.var (by simp [cs])) (by simp [cs]) (by rw [List.length_map, hcs]; exact q2) ⟨rfl, by decide, rfl, by decide⟩ trivial ?_).as (R' := RL ((lettersR (restR row)).map RS)) ?_) Evs.nil) (fun ov vs => call_join (x := ⟨#[]⟩) q3 vs)) Evs.nil))) hlen) fun f s ⟨e, g, h⟩ => .inl ⟨e, g, h.to ⟨⟨_, rfl, Le.refl _⟩, trivial⟩ ?_⟩)
    · intro C g s G H pv i j hj
      have hi : i < cs.length := by have := (List.getElem?_eq_some_iff.mp hj).1; simpa [cs] using this
      have ej : j = .tup [RS ⟨#[cs.getD i 0]⟩, RB (inB1 (cs.getD i 0))] := by
        have hz : (cs.zip (cs.map fun ch => RB (inB1 ch)))[i]? = some (cs.getD i 0, RB (inB1 (cs.getD i 0))) := List.getElem?_zip_eq_some.mpr ⟨getD_some hi, map_getD (d := 0) (fun ch => RB (inB1 ch)) hi⟩
        have hj : ((cs.zip (cs.map fun ch => RB (inB1 ch))).map fun p => Item.tup [RS ⟨#[p.1]⟩, p.2])[i]? = some j := hj
        rw [List.getElem?_map, hz] at hj
        exact (Option.some.inj hj).symm
      subst ej
      have ho : (cs.map fun ch => if inB1 ch then Option.none else some (RS (mapB3 ch)))[i]? = some (if inB1 (cs.getD i 0) then Option.none else some (RS (mapB3 (cs.getD i 0)))) := by rw [List.getElem?_map, getD_some (d := 0) hi]; rfl
      refine ⟨AsI.tup (AsL.add (As.name (.inl rfl)) (AsL.add (As.name (.inl rfl)) (.nil _))), trivial, Tst.one ((Te.cmp (Ev.var (R := RB (inB1 (cs.getD i 0)))) (Ev.bool _ _ _) (op_is_bool _ _)).as ?_), fun _ R hR => ?_⟩
      · rw [kept_of ho]; cases inB1 (cs.getD i 0) <;> rfl
      · rw [ho] at hR
        cases hb : inB1 (cs.getD i 0) with
        | true => rw [hb] at hR; cases hR
        | false =>
          rw [hb] at hR; cases hR
          exact Ev.callf (Ev.glob g2) hf2.1 (Evs.cons (Ev.var (R := RS ⟨#[cs.getD i 0]⟩)) Evs.nil) (ct_b3 hf2 hb3 hD hlo hord (cs.getD i 0)) (by show 1 ≤ 1; decide)
    · rw [letters_outs]; rfl
    · show _ = some (T, PvL _)
      rw [htold]
  · intro f s h
    rcases h with h | ⟨_, _, _, _, h⟩
    · have e : (List.map Item.one (List.map RS (rowsR mail))).length = (readR mail).length := by simp [readR]
      rw [e, List.take_length] at h
      exact h
    · exact h.elim
end
end Mine
end
section
open PySem PySem.W PyProof.Rows PySem.SeqAt
set_option maxRecDepth 100000
set_option linter.unusedVariables false
set_option maxHeartbeats 400000
namespace Mine
/-- all that the call reads of what the top leaves -/
structure LK (prog : Program) (w : World) (K : View) where
  fq : Addr
  ff : Addr
  fa : Addr
  fc : Addr
  fb1 : Addr
  fb3 : Addr
  fp : Addr
  fr : Addr
  frd : Addr
  fw : Addr
  C : Addr
  fI : Addr
  fC : Addr
  D : Addr
  v1 : Value
  v2 : Value
  vc : Value
  vs : Value
  S : Int → Bool
  hq : ∃ pm cd doc, FnAt K fq (stAt 5) "quotedata" pm cd doc
  hf : ∃ pm cd doc, FnAt K ff (stAt 6) "_fix_eols" pm cd doc
  ha : ∃ pm cd doc, FnAt K fa (stAt 9) "add_callers" pm cd doc
  hc : ∃ pm cd doc, FnAt K fc (stAt 10) "count_calls" pm cd doc
  hb1 : ∃ pm cd doc, FnAt K fb1 (stAt 13) "in_table_b1" pm cd doc
  hb3 : ∃ pm cd doc, FnAt K fb3 (stAt 15) "map_table_b3" pm cd doc
  hp : ∃ pm cd doc, FnAt K fp (stAt 17) "_law_pile" pm cd doc
  hr : ∃ pm cd doc, FnAt K fr (stAt 18) "_law_riffle" pm cd doc
  hrd : ∃ pm cd doc, FnAt K frd (stAt 19) "_law_read" pm cd doc
  hw : ∃ pm cd doc, FnAt K fw (stAt 20) "_law_ways" pm cd doc
  hC : CmpK K C fI fC
  gq : Gl K "quotedata" (.ref fq)
  gf : Gl K "_fix_eols" (.ref ff)
  ga : Gl K "add_callers" (.ref fa)
  gc : Gl K "count_calls" (.ref fc)
  gb1 : Gl K "in_table_b1" (.ref fb1)
  gb3 : Gl K "map_table_b3" (.ref fb3)
  gp : Gl K "_law_pile" (.ref fp)
  gr : Gl K "_law_riffle" (.ref fr)
  grd : Gl K "_law_read" (.ref frd)
  gw : Gl K "_law_ways" (.ref fw)
  gC : Gl K "TupleComp" (.ref C)
  tx : GlT K v1 v2 vc
  gset : Gl K "b1_set" vs
  rset : (RSet prog w S).r K vs
  bset : ∀ ch : Nat, S ch = inB1 ch
  gtab : Gl K "b3_exceptions" (.ref D)
  rtab : (RD (intKind prog w) b3R).r K (.ref D)
  lo : D ≠ sysModules
  bord : Gl K "ord" (.builtin "ord")
  blen : Gl K "len" (.builtin "len")
  bsum : Gl K "sum" (.builtin "sum")
  bmin : Gl K "min" (.builtin "min")
  bmax : Gl K "max" (.builtin "max")
  babs : Gl K "abs" (.builtin "abs")
  bchr : Gl K "chr" (.builtin "chr")
  bsorted : Gl K "sorted" (.builtin "sorted")
  bisi : Gl K "isinstance" (.builtin "isinstance")
  trange : Gl K "range" (.type "range")
  tenum : Gl K "enumerate" (.type "enumerate")
  tzip : Gl K "zip" (.type "zip")
  tlist : Gl K "list" (.type "list")
  ttuple : Gl K "tuple" (.type "tuple")
  tstr : Gl K "str" (.type "str")
  nb : ∀ h, Sees K h → NoneBooked h
section
variable {prog : Program} {w : World} {K : View}
noncomputable def FnE (K : View) (f : Addr) : Prop := ∃ fd, FnK K f fd
theorem fnE_of {f : Addr} {st : Stmt} {q : Str} (h : ∃ pm cd doc, FnAt K f st q pm cd doc) : FnE K f := let ⟨_, _, _, h⟩ := h; ⟨_, h.1⟩
theorem LK.quote (L : LK prog w K) (l : List Nat) (h : l.length ≤ 1000000) : Ct prog w K L.fq 1 [LS l] (LS (quoteL l)) := by
  obtain ⟨pm, cd, doc, hq⟩ := L.hq
  exact ct_quote hq L.tx ⟨l.toArray⟩ (by simpa using h)
theorem LK.pile (L : LK prog w K) (ls : List Nat) (V : Nat) (h6 : ls.length = 6) (hls : ∀ ch ∈ ls, letterOk ch) :
    Ct prog w K L.fp 2 [RL (ls.map fun ch => LS [ch]), RI (V : Int)] (RT [LS (eolL (pileT ls V 6)), RL ((List.range 6).map fun p => LS (wordW ls V p))]) := by
  obtain ⟨_, _, _, h⟩ := L.hp
  obtain ⟨_, _, _, hq⟩ := L.hq
  obtain ⟨_, _, _, hf⟩ := L.hf
  exact ct_pile h hq hf L.tx L.gq L.gf L.trange L.bchr ls V h6 hls
theorem LK.riffle (L : LK prog w K) (b : Int) : Ct prog w K L.fr 1 [RI b] (RL ((rif b 6).1.map RI)) := by
  obtain ⟨_, _, _, h⟩ := L.hr
  exact ct_riffle h L.trange L.blen b
theorem LK.read (L : LK prog w K) (mail : Str) (hm : MailOk mail) : Ct prog w K L.frd 2 [RS mail] (RL ((readR mail).map RTold)) := by
  obtain ⟨_, _, _, h⟩ := L.hrd
  obtain ⟨_, _, _, h1⟩ := L.hb1
  obtain ⟨_, _, _, h2⟩ := L.hb3
  exact ct_read h h1 h2 L.gset L.rset L.bset L.gtab L.rtab L.lo L.bord L.blen L.tzip L.gb1 L.gb3 mail hm
theorem LK.ways (L : LK prog w K) : Ct prog w K L.fw 3 [] (RT [RD (intKind prog w) (RIs waysL), RB true]) := by
  obtain ⟨_, _, _, h⟩ := L.hw
  obtain ⟨_, _, _, h1⟩ := L.hr
  obtain ⟨_, _, _, h2⟩ := L.ha
  obtain ⟨_, _, _, h3⟩ := L.hc
  exact ct_ways h h1 h2 h3 L.gr L.ga L.gc L.trange L.blen L.bsum L.tenum L.bisi L.ttuple L.tlist L.tstr
end
end Mine
end
section
open PySem PySem.W PyProof.Rows PySem.SeqAt
set_option maxRecDepth 100000
set_option linter.unusedVariables false
set_option maxHeartbeats 1000000
namespace Mine
/-! law's own statements, one by one -/
noncomputable abbrev LF (pm cd doc : Value) (f : Addr) (A : Around) (g : View) (s : Shared) : Fr := Fr.call (fdOf (stAt 21) "law" pm cd doc) f A g s 5
noncomputable def lawSt (i : Nat) : Stmt := (bodyOf (stAt 21)).getD i (.Pass ⟨0, 0, 0, 0⟩)
noncomputable def starts : List Int := [4051, 23, 1730, 316]
noncomputable def endAt (n : Nat) : Nat := if n < 60 then n else 60
noncomputable def spotN (n p : Nat) : Nat := (Builtin.Range.rangeSize (p : Int) (endAt n : Int) 4).toNat
noncomputable def cellAt (script : List Int) (p : Nat) : Int := starts.getD p 0 + ((List.range (spotN script.length p)).map fun i => (script.getD (p + i * 4) 0).fmod (10 ^ 9)).sum
noncomputable def cellsL (script : List Int) : List Int := (List.range 4).map (cellAt script)
theorem cells_map (script : List Int) : (List.range 4).map (fun i => RI (cellAt script i)) = (cellsL script).map RI := by unfold cellsL; rw [List.map_map]; rfl
theorem small4 : ∀ i < 4, ∀ e < 61, Builtin.Range.small (i : Nat) (e : Nat) 4 = true := by decide +kernel
section
variable {prog : Program} {w : World} {K : View} {pm cd doc : Value} {f : Addr} {A : Around} {g : View} {s : Shared}
noncomputable def RScript (script : List Int) : Rel := RL (script.map RI)
theorem law0 (L : LK prog w K) (script : List Int) (hn : script.length ≤ 1000) :
    So prog w K (LF pm cd doc f A g s) ⟨[("script", RScript script)], none⟩ (exec (lawSt 0) (LF pm cd doc f A g s).env) (Nx K (LF pm cd doc f A g s) ⟨[("cells", RL ((cellsL script).map RI)), ("script", RScript script)], none⟩) := by
  rw [← cells_map]
  refine s_map (c := ⟨[("script", RScript script)], none⟩) [("script", RScript script)] (fun i => [("start", RI (starts.getD i 0)), ("place", RI i), ("script", RScript script)]) 4 (fun i => RI (cellAt script i))
    (iter_enum (Rs := starts.map RI) (Ev.glob L.tenum) (.inr (Ev.tuple (Evs.cons (Ev.int _ _ _) (Evs.cons (Ev.int _ _ _) (Evs.cons (Ev.int _ _ _) (Evs.cons (Ev.int _ _ _) Evs.nil))))))) rfl (by decide) ⟨rfl, by decide, rfl, by decide⟩ ⟨⟨⟨_, rfl, Le.refl _⟩, .inl rfl, rfl, rfl⟩, trivial⟩ ?_ (.inl rfl)
  intro C g' s' G H pv i j hj hi
  obtain ⟨R, hR, rfl⟩ := enumItems_get' hj
  have hi : i < 4 := hi
  have eR : R = RI (starts.getD i 0) := by
    have := map_getD (l := starts) (d := 0) RI (k := i) hi
    rw [this] at hR; exact (Option.some.inj hR).symm
  subst eR
  refine ⟨AsI.tup (AsL.add (As.name (.inl rfl)) (AsL.add (As.name (.inl rfl)) (.nil _))), ⟨⟨_, rfl, Le.refl _⟩, trivial⟩, ?_⟩
  have hend : (if ((script.map RI).length : Int) < 60 then ((script.map RI).length : Int) else 60) = (endAt script.length : Int) := by
    rw [List.length_map]; unfold endAt; split <;> split <;> (first | exact rfl | lia | grind | omega)
  refine Ev.bin Ev.var (Ev.callb (Ev.glob L.bsum) (Evs.cons ((ev_map [("script", RScript script)] (fun k => [("spot", RI ((i : Int) + k * 4)), ("script", RScript script)]) (spotN script.length i) (fun k => RI ((script.getD (i + k * 4) 0).fmod (10 ^ 9)))
    (iter_range (Ev.callt (Ev.glob L.trange) (Evs.cons (Ev.var (R := RI (i : Int))) (Evs.cons ((Ev.callb (Ev.glob L.bmin) (Evs.cons (Ev.int 60 _ _) (Evs.cons (Ev.callb (Ev.glob L.blen) (Evs.cons (Ev.var (R := RScript script)) Evs.nil) (bf_len_list (by simpa using Nat.le_trans hn (by decide)))) Evs.nil)) (bf_min2 _ _)).as (by rw [hend])) (Evs.cons (Ev.int 4 _ _) Evs.nil)))
      (bf_range3 (i : Int) (endAt script.length : Int) 4 (by decide) (pylong_small (by decide)))) ?_) (by unfold rangeItems; simp; rfl) ?_ ⟨rfl, by decide, rfl, by decide⟩ ⟨⟨⟨_, rfl, Le.refl _⟩, .inl rfl, rfl, rfl⟩, trivial⟩ ?_).as (R' := RL (((List.range (spotN script.length i)).map fun k => (script.getD (i + k * 4) 0).fmod (10 ^ 9)).map RI)) ?_) Evs.nil) (bf_sum _)) (op_add _ _)
  · have : endAt script.length ≤ 60 := by unfold endAt; split <;> (first | exact Nat.le_refl _ | exact Nat.le_of_lt (by assumption) | omega)
    exact small4 i hi _ (by (exact Nat.lt_succ_of_le (by assumption)))
  · refine Nat.le_trans (m := 1000) ?_ (by decide)
    have h60 : endAt script.length ≤ 60 := by unfold endAt; split <;> omega
    refine Nat.le_of_not_lt fun h => ?_
    have := range4 (p := i) (m := endAt script.length) (i := 1000) h
    lia
  · intro C2 g2 s2 G2 H2 pv2 k j2 hj2 hk2
    have hk : k < spotN script.length i := by unfold rangeItems at hk2; simpa [spotN] using hk2
    have hb := range4 hk
    have he : endAt script.length ≤ script.length := by unfold endAt; split <;> (first | exact Nat.le_refl _ | exact Nat.not_lt.mp (by assumption) | omega)
    rw [rangeItems_get hj2]
    refine ⟨AsI.name (.inl rfl), ⟨⟨_, rfl, Le.refl _⟩, trivial⟩, ?_⟩
    refine Ev.bin (Ev.itemL (Rs := script.map RI) (k := ((i + k * 4 : Nat) : Int)) (Ev.var (R := RScript script)) (Ev.as Ev.var (by congr 1)) (by lia) ?_ (idx_nat (map_getD (d := 0) RI (by (exact Nat.lt_of_lt_of_le (by assumption) (by assumption)))))) (Ev.bin (Ev.int 10 _ _) (Ev.int 9 _ _) (op_pow 10 9 (by decide) (by decide) (by decide))) (op_mod _ _ (by decide))
    have : i + k * 4 < 1000 := by lia
    omega
  · rw [List.map_map]; rfl
/-! from here on the cells are any four naturals -/
noncomputable def RCells (c0 c1 c2 c3 : Nat) : Rel := RL [RI c0, RI c1, RI c2, RI c3]
noncomputable def footL : List (List Nat) := [[107, 133], [], [109]]
noncomputable def ρ1 (script : List Int) (c0 c1 c2 c3 : Nat) : List (Str × Rel) := [("cells", RCells c0 c1 c2 c3), ("script", RScript script)]
noncomputable def ρ2 (script : List Int) (c0 c1 c2 c3 : Nat) : List (Str × Rel) := ("foot", RL (footL.map LS)) :: ("size", RI (2 + c0 % 2 : Nat)) :: ρ1 script c0 c1 c2 c3
/-- the letters: k, m (and b) by turns -/
noncomputable def lettersL (c0 : Nat) : List Nat := (List.range 6).map fun i => [107, 109, 98].getD (i % (2 + c0 % 2)) 0
noncomputable def ρ3 (script : List Int) (c0 c1 c2 c3 : Nat) : List (Str × Rel) := ("letters", RL ((lettersL c0).map fun ch => LS [ch])) :: ρ2 script c0 c1 c2 c3
theorem law2 (L : LK prog w K) (script : List Int) (c0 c1 c2 c3 : Nat) :
    So prog w K (LF pm cd doc f A g s) ⟨ρ2 script c0 c1 c2 c3, none⟩ (exec (lawSt 2) (LF pm cd doc f A g s).env) (Nx K (LF pm cd doc f A g s) ⟨ρ3 script c0 c1 c2 c3, none⟩) := by
  have e : (lettersL c0).map (fun ch => LS [ch]) = (List.range 6).map fun i => LS [[107, 109, 98].getD (i % (2 + c0 % 2)) 0] := by unfold lettersL; rw [List.map_map]; rfl
  unfold ρ3
  rw [e]
  refine s_assign (ev_map [("size", RI (2 + c0 % 2 : Nat))] (fun i => [("place", RI (i : Int)), ("size", RI (2 + c0 % 2 : Nat))]) 6 (fun i => LS [[107, 109, 98].getD (i % (2 + c0 % 2)) 0]) (iter_range (Ev.callt (Ev.glob L.trange) (Evs.cons (Ev.int _ _ _) Evs.nil) (bf_range1 6))) rfl (by decide) ⟨rfl, by decide, rfl, by decide⟩
    ⟨⟨⟨_, rfl, Le.refl _⟩, .inl rfl, rfl, rfl⟩, trivial⟩ ?_) (storesC rfl)
  intro C g' s' G H pv i j hj hi
  rw [rangeItems_get0 hj]
  have h2 : i % (2 + c0 % 2) < 3 := Nat.lt_of_lt_of_le (Nat.mod_lt _ (by (simp +arith))) (by grind)
  refine ⟨AsI.name (.inl rfl), ⟨⟨_, rfl, Le.refl _⟩, trivial⟩, ?_⟩
  refine Ev.itemS (x := ⟨#[107, 109, 98]⟩) (k := ((i % (2 + c0 % 2) : Nat) : Int)) (Ev.str _ _ _) (Ev.bin (Ev.var (R := RI (i : Int))) (Ev.var (R := RI (2 + c0 % 2 : Nat))) (op_nmod i (2 + c0 % 2) (by simp))) (by lia) (by omega) ?_
  rw [Int.toNat_natCast]
  match h : i % (2 + c0 % 2), h2 with
  | 0, _ => rfl
  | 1, _ => rfl
  | 2, _ => rfl
end
end Mine
end
section
open PySem PySem.W PyProof.Rows PySem.SeqAt
set_option maxRecDepth 100000
set_option linter.unusedVariables false
set_option maxHeartbeats 1000000
namespace Mine
section
variable {prog : Program} {w : World} {K : View} {pm cd doc : Value} {f : Addr} {A : Around} {g : View} {s : Shared}
theorem letters_len (c0 : Nat) : (lettersL c0).length = 6 := by simp [lettersL]
theorem letters_ok (c0 : Nat) : ∀ ch ∈ lettersL c0, letterOk ch := fun ch h => by
  obtain ⟨i, hi, rfl⟩ := List.mem_map.mp h
  have h2 : i % (2 + c0 % 2) < 3 := Nat.lt_of_lt_of_le (Nat.mod_lt _ (by (simp +arith))) (by grind)
  match h : i % (2 + c0 % 2), h2 with
  | 0, _ => exact .inl rfl
  | 1, _ => exact .inr (.inl rfl)
  | 2, _ => exact .inr (.inr rfl)
noncomputable def wordsL (c0 : Nat) : List (List Nat) := (List.range 6).map fun p => wordW (lettersL c0) (c0 / 2) p
noncomputable def textL (c0 : Nat) : List Nat := eolL (pileT (lettersL c0) (c0 / 2) 6)
noncomputable def ρ4 (script : List Int) (c0 c1 c2 c3 : Nat) : List (Str × Rel) := ("words", RL ((wordsL c0).map LS)) :: ("text", LS (textL c0)) :: ρ3 script c0 c1 c2 c3
theorem law3 (L : LK prog w K) (script : List Int) (c0 c1 c2 c3 : Nat) :
    So prog w K (LF pm cd doc f A g s) ⟨ρ3 script c0 c1 c2 c3, none⟩ (exec (lawSt 3) (LF pm cd doc f A g s).env) (Nx K (LF pm cd doc f A g s) ⟨ρ4 script c0 c1 c2 c3, none⟩) := by
  have e : (wordsL c0).map LS = (List.range 6).map fun p => LS (wordW (lettersL c0) (c0 / 2) p) := by unfold wordsL; rw [List.map_map]; rfl
  unfold ρ4
  rw [e]
  obtain ⟨fd, hfd⟩ := fnE_of L.hp
  refine s_tuple (Ev.callf (Ev.glob L.gp) hfd (Evs.cons (Ev.var (R := RL ((lettersL c0).map fun ch => LS [ch]))) (Evs.cons (Ev.bin (Ev.itemL (Rs := [RI c0, RI c1, RI c2, RI c3]) (k := 0) (Ev.var (R := RCells c0 c1 c2 c3)) (Ev.int 0 _ _) (by decide) (by decide) rfl) (Ev.int 2 _ _) (op_ndiv c0 2 (by decide) (pylong_small (by decide)))) Evs.nil)) (L.pile (lettersL c0) (c0 / 2) (letters_len c0) (letters_ok c0)) (by show 2 ≤ 5; decide))
    (As.tup (AsL.add (As.name (.inl rfl)) (AsL.add (As.name (.inl rfl)) (.nil _))))
noncomputable def rowsL (c0 : Nat) : List (List Nat) := (List.range 6).map (fun p => List.replicate (p + 1) 46 ++ (wordsL c0).getD p []) ++ footL
noncomputable def toS (l : List Nat) : Str := ⟨l.toArray⟩
noncomputable def ρ5 (script : List Int) (c0 c1 c2 c3 : Nat) : List (Str × Rel) := ("rows", RL ((rowsL c0).map LS)) :: ρ4 script c0 c1 c2 c3
theorem law4 (script : List Int) (c0 c1 c2 c3 : Nat) (M1 : Txt.split (toS (textL c0)) (toS [13, 10]) = (rowsL c0).map toS) (M2 : (toS (textL c0)).length ≤ sizeLine)
    (M3 : (Builtin.Str.partsBetween (toS (textL c0)) (Builtin.Str.occurrences (toS (textL c0)) (toS [13, 10]) 0 (toS (textL c0)).length ((toS (textL c0)).length + 1)) 2).length ≤ sizeLine) :
    So prog w K (LF pm cd doc f A g s) ⟨ρ4 script c0 c1 c2 c3, none⟩ (exec (lawSt 4) (LF pm cd doc f A g s).env) (Nx K (LF pm cd doc f A g s) ⟨ρ5 script c0 c1 c2 c3, none⟩) := by
  have e : (rowsL c0).map LS = (Txt.split (toS (textL c0)) (toS [13, 10])).map RS := by rw [M1, List.map_map]; rfl
  unfold ρ5
  rw [e]
  exact s_assign (Ev.meth (Ev.var (R := RS (toS (textL c0)))) PySem.F.plainAttrs_str PySem.F.slot_str_split PySem.F.type_str_split ty_str (Evs.cons (Ev.str _ _ _) Evs.nil) (fun ov vs => call_split (y := toS [13, 10]) (by rfl) M2 M3 vs)) (storesC rfl)
end
end Mine
end
section
open PySem PySem.W PyProof.Rows PySem.SeqAt
set_option maxRecDepth 100000
set_option linter.unusedVariables false
set_option maxHeartbeats 1000000
namespace Mine
theorem canAll_strs : ∀ (l : List Str), (∀ x ∈ l, PyData.strOk x = true) → PyData.canLayAll0 (l.map .str) = true
  | [], _ => by simp [PyData.canLayAll0]
  | x :: l, h => by
    simp only [List.map_cons, PyData.canLayAll0, PyData.canLay0, Bool.and_eq_true]
    exact ⟨h x List.mem_cons_self, canAll_strs l fun y hy => h y (List.mem_cons_of_mem _ hy)⟩
theorem depthAll_strs : ∀ (l : List Str), PyData.depthAll (l.map .str) = 0
  | [] => by simp [PyData.depthAll]
  | x :: l => by simp [PyData.depthAll, PyData.depth, depthAll_strs l]
theorem shaped_strs (l : List Str) (h : ∀ x ∈ l, PyData.strOk x = true) : shaped (.list (l.map .str)) = true := by
  unfold shaped
  rw [Bool.and_eq_true]
  refine ⟨by simp only [PyData.canLay0]; exact canAll_strs l h, decide_eq_true ?_⟩
  simp only [PyData.depth]
  rw [depthAll_strs]; decide
theorem le_strs (l : List (List Nat)) : Le (RL (l.map LS)) (RP (.list ((l.map toS).map .str))) := by
  refine le_list ?_
  rw [List.map_map]
  exact LeAll.map (fun x => le_RS _) l
section
variable {prog : Program} {w : World} {K : View} {pm cd doc : Value} {f : Addr} {A : Around} {g : View} {s : Shared}
theorem mul_dots : ∀ i < 6, Txt.mul ⟨#[46]⟩ (((i + 1 : Nat) : Int)) = (⟨(List.replicate (i + 1) 46).toArray⟩ : Str) ∧ MulOk ⟨#[46]⟩ (((i + 1 : Nat) : Int)) := fun i hi => by
  unfold MulOk
  match i, hi with
  | 0, _ => exact ⟨by decide +kernel, by decide, fun _ h => absurd h (by decide), fun _ h => absurd h (by decide)⟩
  | 1, _ => exact ⟨by decide +kernel, by decide, fun _ _ => by decide, fun _ _ => by decide⟩
  | 2, _ => exact ⟨by decide +kernel, by decide, fun _ _ => by decide, fun _ _ => by decide⟩
  | 3, _ => exact ⟨by decide +kernel, by decide, fun _ _ => by decide, fun _ _ => by decide⟩
  | 4, _ => exact ⟨by decide +kernel, by decide, fun _ _ => by decide, fun _ _ => by decide⟩
  | 5, _ => exact ⟨by decide +kernel, by decide, fun _ _ => by decide, fun _ _ => by decide⟩
theorem law5 (L : LK prog w K) (script : List Int) (c0 c1 c2 c3 : Nat) (hok : ∀ x ∈ (rowsL c0).map toS, PyData.strOk x = true) :
    So prog w K (LF pm cd doc f A g s) ⟨ρ5 script c0 c1 c2 c3, none⟩ (exec (lawSt 5) (LF pm cd doc f A g s).env) (Nx K (LF pm cd doc f A g s) ⟨ρ5 script c0 c1 c2 c3, none⟩) := by
  have e : RL ((rowsL c0).map LS) = RL (((List.range 6).map fun p => LS (List.replicate (p + 1) 46 ++ (wordsL c0).getD p [])) ++ footL.map LS) := by unfold rowsL; rw [List.map_append, List.map_map]; rfl
  refine s_skip (b := false) ((Te.cmp ((Ev.var (R := RL ((rowsL c0).map LS))).conv (le_strs (rowsL c0))) (((Ev.bin (ev_map [] (fun i => [("word", LS ((wordsL c0).getD i [])), ("place", RI (i : Int))]) 6 (fun p => LS (List.replicate (p + 1) 46 ++ (wordsL c0).getD p [])) (iter_enum (Rs := (wordsL c0).map LS) (Ev.glob L.tenum) (.inl Ev.var)) (by simp [enumItems, wordsL]) (by decide) ⟨rfl, by decide, rfl, by decide⟩ trivial ?_)
    (Ev.var (R := RL (footL.map LS))) (op_list_add _ _ (by simp [footL]))).as e.symm).conv (le_strs (rowsL c0))) (op_ned (shaped_strs _ hok) (shaped_strs _ hok))).as ?_) rfl
  · intro C g' s' G H pv i j hj hi
    obtain ⟨R, hR, rfl⟩ := enumItems_get' hj
    have hi : i < 6 := by have : (enumItems ((wordsL c0).map LS)).length = 6 := by simp [enumItems, wordsL]
                          assumption
    have hw : i < (wordsL c0).length := by simp [wordsL]; omega
    rw [map_getD (d := []) LS hw] at hR
    cases hR
    refine ⟨AsI.tup (AsL.add (As.name (.inl rfl)) (AsL.add (As.name (.inl rfl)) (.nil _))), trivial, ?_⟩
    obtain ⟨m1, m2⟩ := mul_dots i hi
    have hl : ((wordsL c0).getD i []).length ≤ 2 := by
      have : (wordsL c0).getD i [] = wordW (lettersL c0) (c0 / 2) i := by
        rw [List.getD_eq_getElem?_getD]; unfold wordsL; rw [List.getElem?_map, List.getElem?_range hi]; rfl
      rw [this]; exact wordW_len _ _ _
    refine ev_cat (a := List.replicate (i + 1) 46) (Ev.as (Ev.bin (Ev.str _ _ _) (Ev.as (R' := RI ((i + 1 : Nat) : Int)) (Ev.bin (Ev.var (R := RI (i : Int))) (Ev.int 1 _ _) (op_add _ _)) (by congr 1)) (op_str_mul ⟨#[46]⟩ _ m2)) (by rw [m1]; rfl)) Ev.var (by rw [List.length_replicate]; lia)
  · rw [eqv_self (shaped_strs _ hok)]; rfl
end
end Mine
end
section
open PySem PySem.W PyProof.Rows PySem.SeqAt
set_option maxRecDepth 100000
set_option linter.unusedVariables false
set_option maxHeartbeats 1000000
namespace Mine
theorem beq_nat (a b : Nat) : ((a : Int) == (b : Int)) = decide (a = b) := by
  by_cases h : a = b
  · subst h; simp
  · rw [decide_eq_false h]; exact beq_eq_false_iff_ne.mpr (by lia)
section
variable {prog : Program} {w : World} {K : View} {pm cd doc : Value} {f : Addr} {A : Around} {g : View} {s : Shared}
noncomputable def lineA (c1 : Nat) : List Int := (rif ((c1 % 64 : Nat) : Int) 6).1
noncomputable def oneN (c2 : Nat) : Nat := if c2 % 2 = 0 then 0 else c2 / 2 % 6
noncomputable def twoN (c2 : Nat) : Nat := if c2 % 2 = 0 then 0 else c2 / 12 % 6
noncomputable def swapN (c2 p : Nat) : Nat := if p = oneN c2 then twoN c2 else if p = twoN c2 then oneN c2 else p
noncomputable def lineL (c1 c2 : Nat) : List Int := (List.range 6).map fun p => (lineA c1).getD (swapN c2 p) 0
theorem one_lt (c2 : Nat) : oneN c2 < 6 := by unfold oneN; split <;> (first | exact Nat.succ_pos _ | exact Nat.mod_lt _ (by decide) | omega)
theorem two_lt (c2 : Nat) : twoN c2 < 6 := by unfold twoN; split <;> (first | exact Nat.succ_pos _ | exact Nat.mod_lt _ (by decide) | omega)
theorem swap_lt (c2 p : Nat) (h : p < 6) : swapN c2 p < 6 := by
  have := one_lt c2
  have := two_lt c2
  unfold swapN
  split
  · assumption
  · split <;> assumption
noncomputable def ρ6 (script : List Int) (c0 c1 c2 c3 : Nat) : List (Str × Rel) := ("line", RL ((lineA c1).map RI)) :: ρ5 script c0 c1 c2 c3
theorem law6 (L : LK prog w K) (script : List Int) (c0 c1 c2 c3 : Nat) :
    So prog w K (LF pm cd doc f A g s) ⟨ρ5 script c0 c1 c2 c3, none⟩ (exec (lawSt 6) (LF pm cd doc f A g s).env) (Nx K (LF pm cd doc f A g s) ⟨ρ6 script c0 c1 c2 c3, none⟩) := by
  obtain ⟨fd, hfd⟩ := fnE_of L.hr
  exact s_assign (Ev.callf (Ev.glob L.gr) hfd (Evs.cons (Ev.bin (Ev.itemL (Rs := [RI c0, RI c1, RI c2, RI c3]) (k := 1) (Ev.var (R := RCells c0 c1 c2 c3)) (Ev.int 1 _ _) (by decide) (by decide) rfl) (Ev.int 64 _ _) (op_nmod c1 64 (by decide))) Evs.nil) (L.riffle _) (by show 1 ≤ 5; decide)) (storesC rfl)
noncomputable def ρ7 (script : List Int) (c0 c1 c2 c3 : Nat) : List (Str × Rel) := ("two", RI (twoN c2 : Nat)) :: ("one", RI (oneN c2 : Nat)) :: ρ6 script c0 c1 c2 c3
theorem ev_c2 (script : List Int) (c0 c1 c2 c3 : Nat) {k : Nat} {p1 p2 p3 : Pos} : Ev prog w ((LF pm cd doc f A g s).ctx K ⟨ρ6 script c0 c1 c2 c3, none⟩) (.Subscript (.Name "cells" p1) (.Constant (.int 2) k p2) p3) (RI (c2 : Int)) :=
  Ev.itemL (Rs := [RI c0, RI c1, RI c2, RI c3]) (k := 2) (Ev.var (R := RCells c0 c1 c2 c3)) (Ev.int 2 _ _) (by decide) (by decide) rfl
theorem law7 (script : List Int) (c0 c1 c2 c3 : Nat) :
    So prog w K (LF pm cd doc f A g s) ⟨ρ6 script c0 c1 c2 c3, none⟩ (exec (lawSt 7) (LF pm cd doc f A g s).env) (Nx K (LF pm cd doc f A g s) ⟨ρ7 script c0 c1 c2 c3, none⟩) := by
  refine s_tuple (R := RT [RI (oneN c2 : Nat), RI (twoN c2 : Nat)]) (Ev.ife (c := decide (c2 % 2 ≠ 0)) ((Te.plain (Ev.bin (ev_c2 script c0 c1 c2 c3) (Ev.int 2 _ _) (op_nmod c2 2 (by decide))) (truth_int _)).as ?_) (fun h => ?_) (fun h => ?_)) (As.tup (AsL.add (As.name (storesC rfl)) (AsL.add (As.name (storesC rfl)) (.nil _))))
  · by_cases h : c2 % 2 = 0
    · rw [h]; rfl
    · have : c2 % 2 = 1 := by simp_all
      rw [this]; rfl
  · have h : c2 % 2 ≠ 0 := of_decide_eq_true h
    have e1 : oneN c2 = c2 / 2 % 6 := if_neg h
    have e2 : twoN c2 = c2 / 12 % 6 := if_neg h
    rw [e1, e2]
    exact Ev.tuple (Evs.cons (Ev.bin (Ev.bin (ev_c2 script c0 c1 c2 c3) (Ev.int 2 _ _) (op_ndiv c2 2 (by decide) (pylong_small (by decide)))) (Ev.int 6 _ _) (op_nmod _ 6 (by decide))) (Evs.cons (Ev.bin (Ev.bin (ev_c2 script c0 c1 c2 c3) (Ev.int 12 _ _) (op_ndiv c2 12 (by decide) (pylong_small (by decide)))) (Ev.int 6 _ _) (op_nmod _ 6 (by decide))) Evs.nil))
  · have h : c2 % 2 = 0 := by simpa using of_decide_eq_false h
    have e1 : oneN c2 = 0 := if_pos h
    have e2 : twoN c2 = 0 := if_pos h
    rw [e1, e2]
    exact Ev.tuple (Evs.cons (Ev.int _ _ _) (Evs.cons (Ev.int _ _ _) Evs.nil))
noncomputable def ρ8 (script : List Int) (c0 c1 c2 c3 : Nat) : List (Str × Rel) := ("line", RL ((lineL c1 c2).map RI)) :: ρ7 script c0 c1 c2 c3
theorem law8 (L : LK prog w K) (script : List Int) (c0 c1 c2 c3 : Nat) :
    So prog w K (LF pm cd doc f A g s) ⟨ρ7 script c0 c1 c2 c3, none⟩ (exec (lawSt 8) (LF pm cd doc f A g s).env) (Nx K (LF pm cd doc f A g s) ⟨ρ8 script c0 c1 c2 c3, none⟩) := by
  have e : (lineL c1 c2).map RI = (List.range 6).map fun p => RI ((lineA c1).getD (swapN c2 p) 0) := by unfold lineL; rw [List.map_map]; rfl
  unfold ρ8
  rw [e]
  let fr : List (Str × Rel) := [("one", RI (oneN c2 : Nat)), ("two", RI (twoN c2 : Nat)), ("line", RL ((lineA c1).map RI))]
  refine s_assign (ev_map fr (fun i => ("place", RI (i : Int)) :: fr) 6 (fun p => RI ((lineA c1).getD (swapN c2 p) 0)) (iter_range (Ev.callt (Ev.glob L.trange) (Evs.cons (Ev.int _ _ _) Evs.nil) (bf_range1 6))) rfl (by decide) ⟨rfl, by decide, rfl, by decide⟩
    ⟨⟨⟨_, rfl, Le.refl _⟩, .inl rfl, rfl, rfl⟩, ⟨⟨_, rfl, Le.refl _⟩, .inl rfl, rfl, rfl⟩, ⟨⟨_, rfl, Le.refl _⟩, .inl rfl, rfl, rfl⟩, trivial⟩ ?_) (storesC rfl)
  intro C g' s' G H pv i j hj hi
  rw [rangeItems_get0 hj]
  have hi : i < 6 := hi
  have hs := swap_lt c2 i hi
  have hl : (lineA c1).length = 6 := rif_len _ 6
  refine ⟨AsI.name (.inl rfl), ⟨⟨_, rfl, Le.refl _⟩, ⟨_, rfl, Le.refl _⟩, ⟨_, rfl, Le.refl _⟩, trivial⟩, ?_⟩
  refine Ev.itemL (Rs := (lineA c1).map RI) (k := (swapN c2 i : Nat)) (Ev.var (R := RL ((lineA c1).map RI))) (Ev.ife (c := decide (i = oneN c2)) ((Te.cmp (Ev.var (R := RI (i : Int))) (Ev.var (R := RI (oneN c2 : Nat))) (op_eq _ _)).as ?_) (fun h => ?_) (fun h => Ev.ife (c := decide (i = twoN c2)) ((Te.cmp (Ev.var (R := RI (i : Int))) (Ev.var (R := RI (twoN c2 : Nat))) (op_eq _ _)).as ?_) (fun h' => ?_) (fun h' => ?_))) (by simp) (by lia) (idx_nat (map_getD (d := 0) RI (by simp_all)))
  · exact beq_nat i (oneN c2)
  · have h : i = oneN c2 := of_decide_eq_true h
    exact (Ev.var (R := RI (twoN c2 : Nat))).as (by unfold swapN; rw [if_pos h])
  · exact beq_nat i (twoN c2)
  · have h : ¬ i = oneN c2 := of_decide_eq_false h
    have h' : i = twoN c2 := of_decide_eq_true h'
    exact (Ev.var (R := RI (oneN c2 : Nat))).as (by unfold swapN; rw [if_neg h, if_pos h'])
  · have h : ¬ i = oneN c2 := of_decide_eq_false h
    have h' : ¬ i = twoN c2 := of_decide_eq_false h'
    exact (Ev.var (R := RI (i : Int))).as (by unfold swapN; rw [if_neg h, if_neg h'])
end
end Mine
end
section
open PySem PySem.W PyProof.Rows PySem.SeqAt
set_option maxRecDepth 100000
set_option linter.unusedVariables false
set_option maxHeartbeats 1000000
namespace Mine
theorem lineL_facts : ∀ c1 < 64, ∀ a < 6, ∀ b < 6, ∀ x ∈ (List.range 6).map (fun p => (rif ((c1 : Nat) : Int) 6).1.getD (if p = a then b else if p = b then a else p) 0), 1 ≤ x ∧ x ≤ 6 := by decide +kernel
section
variable {prog : Program} {w : World} {K : View} {pm cd doc : Value} {f : Addr} {A : Around} {g : View} {s : Shared}
theorem line_ok (c1 c2 : Nat) : ∀ x ∈ lineL c1 c2, 1 ≤ x ∧ x ≤ 6 := lineL_facts (c1 % 64) (Nat.mod_lt _ (by decide)) (oneN c2) (one_lt c2) (twoN c2) (two_lt c2)
theorem rows_len (c0 : Nat) : (rowsL c0).length = 9 := by simp [rowsL, footL]
/-- the mail's rows -/
noncomputable def mailR (c0 c1 c2 : Nat) : List (List Nat) := (lineL c1 c2).map (fun n => (rowsL c0).getD (n - 1).toNat []) ++ footL
noncomputable def ρ9 (script : List Int) (c0 c1 c2 c3 : Nat) (mail : List Nat) : List (Str × Rel) := ("mail", LS mail) :: ("more", RI (c3 % 3 : Nat)) :: ρ8 script c0 c1 c2 c3
theorem law9 (script : List Int) (c0 c1 c2 c3 : Nat) (mail : List Nat) (M1 : Txt.join (toS [13, 10]) ((mailR c0 c1 c2).map toS) = toS mail) (M2 : JoinOk (toS [13, 10]) ((mailR c0 c1 c2).map toS) = true) :
    So prog w K (LF pm cd doc f A g s) ⟨ρ8 script c0 c1 c2 c3, none⟩ (exec (lawSt 9) (LF pm cd doc f A g s).env) (Nx K (LF pm cd doc f A g s) ⟨ρ9 script c0 c1 c2 c3 mail, none⟩) := by
  let fr : List (Str × Rel) := [("rows", RL ((rowsL c0).map LS))]
  have hll : (lineL c1 c2).length = 6 := by simp [lineL]
  have e : RL (((List.range 6).map fun i => LS ((rowsL c0).getD ((lineL c1 c2).getD i 0 - 1).toNat [])) ++ footL.map LS) = RL (((mailR c0 c1 c2).map toS).map RS) := by
    unfold mailR
    rw [← range_map_getD (lineL c1 c2) 0, hll, List.map_append, List.map_append, List.map_map, List.map_map, List.map_map]
    rfl
  refine s_tuple (R := RT [RI (c3 % 3 : Nat), LS mail]) (Ev.tuple (Evs.cons (Ev.bin (Ev.itemL (Rs := [RI c0, RI c1, RI c2, RI c3]) (k := 3) (Ev.var (R := RCells c0 c1 c2 c3)) (Ev.int 3 _ _) (by decide) (by decide) rfl) (Ev.int 3 _ _) (op_nmod c3 3 (by decide))) (Evs.cons (Ev.as (Ev.meth (Ev.str _ _ _) PySem.F.plainAttrs_str PySem.F.slot_str_join PySem.F.type_str_join ty_str
    (Evs.cons (R := RL (((mailR c0 c1 c2).map toS).map RS)) ?_ Evs.nil) (fun ov vs => call_join (x := toS [13, 10]) M2 vs)) (by rw [M1]; rfl)) Evs.nil))) (As.tup (AsL.add (As.name (storesC rfl)) (AsL.add (As.name (.inl rfl)) (.nil _))))
  rw [← e]
  refine Ev.bin ?_ (Ev.var (R := RL (footL.map LS))) (op_list_add _ _ (by simp [footL]))
  refine ev_map fr (fun i => ("number", RI ((lineL c1 c2).getD i 0)) :: fr) 6 (fun i => LS ((rowsL c0).getD ((lineL c1 c2).getD i 0 - 1).toNat [])) (iter_list (Ev.var (R := RL ((lineL c1 c2).map RI)))) (by simp [lineL]) (by decide) ⟨rfl, by decide, rfl, by decide⟩ ⟨⟨⟨_, rfl, Le.refl _⟩, .inl rfl, rfl, rfl⟩, trivial⟩ ?_
  intro C g' s' G H pv i j hj hi
  have hi : i < 6 := by simp [lineL] at hi; exact hi
  have ej : j = .one (RI ((lineL c1 c2).getD i 0)) := by
    rw [List.getElem?_map, List.getElem?_map, getD_some (d := 0) (by assumption)] at hj
    exact (Option.some.inj hj).symm
  subst ej
  have hb := line_ok c1 c2 _ (List.mem_of_getElem? (getD_some (d := 0) (show i < (lineL c1 c2).length by omega)))
  refine ⟨AsI.name (.inl rfl), ⟨⟨_, rfl, Le.refl _⟩, trivial⟩, ?_⟩
  exact Ev.itemL (Rs := (rowsL c0).map LS) (k := (lineL c1 c2).getD i 0 - 1) (Ev.var (R := RL ((rowsL c0).map LS))) (Ev.bin (Ev.var (R := RI ((lineL c1 c2).getD i 0))) (Ev.int 1 _ _) (op_sub _ _)) (by simp_all) (by lia) (map_getD (d := []) LS (by rw [rows_len]; lia))
end
end Mine
end
section
open PySem PySem.W PyProof.Rows PySem.SeqAt
set_option maxRecDepth 100000
set_option linter.unusedVariables false
set_option maxHeartbeats 1000000
namespace Mine
section
variable {prog : Program} {w : World} {K : View} {pm cd doc : Value} {f : Addr} {A : Around} {g : View} {s : Shared}
noncomputable def ρm (script : List Int) (c0 c1 c2 c3 : Nat) : List (Str × Rel) := ("more", RI (c3 % 3 : Nat)) :: ρ8 script c0 c1 c2 c3
theorem law10 (L : LK prog w K) (script : List Int) (c0 c1 c2 c3 : Nat) (ms rs : Nat → List Nat)
    (M : ∀ i < c3 % 3, Txt.replace (toS (ms i)) (toS [13, 10]) (toS (endW c3 (i + 1))) = toS (rs i) ∧ quoteL (rs i) = ms (i + 1) ∧ (ms i).length ≤ 100000 ∧ (rs i).length ≤ 1000000) :
    SoT prog w K (LF pm cd doc f A g s) ⟨ρ9 script c0 c1 c2 c3 (ms 0), none⟩ (exec (lawSt 10) (LF pm cd doc f A g s).env) (Nx K (LF pm cd doc f A g s) ⟨ρ9 script c0 c1 c2 c3 (ms (c3 % 3)), none⟩) := by
  have hlen : (rangeItems 0 (c3 % 3 : Nat) 1).length = c3 % 3 := by
    have : ∀ m < 3, (rangeItems 0 (m : Nat) 1).length = m := by intro m hm; match m, hm with | 0, _ => rfl | 1, _ => rfl | 2, _ => rfl
    exact this _ (Nat.mod_lt _ (by decide))
  refine SoT.mono (s_forT (R := ⟨fun _ _ => False, fun _ h => h⟩) (fun i => ⟨ρ9 script c0 c1 c2 c3 (ms i), none⟩) (fun i => ⟨("turn", RI (i : Int)) :: ρ9 script c0 c1 c2 c3 (ms i), none⟩) (iter_range (Ev.callt (Ev.glob L.trange) (Evs.cons (Ev.var (R := RI (c3 % 3 : Nat))) Evs.nil) (bf_range1 _)) ?_) rfl ?_) ?_
  · have : ∀ m < 3, Builtin.Range.small 0 (m : Nat) 1 = true := by decide
    exact this _ (Nat.mod_lt _ (by decide))
  · intro G H i j hj
    have hi : i < c3 % 3 := by have := (List.getElem?_eq_some_iff.mp hj).1; rw [hlen] at this; exact this
    have h3 : c3 % 3 < 3 := Nat.mod_lt _ (by decide)
    obtain ⟨m1, m2, m3, m4⟩ := M i hi
    rw [rangeItems_get0 hj]
    refine ⟨AsI.name (.inl rfl), ?_⟩
    obtain ⟨fd, hfd⟩ := fnE_of L.hq
    refine SoT.mono (lastT (s_assignT (R := LS (ms (i + 1))) ?_ (.inl rfl))) fun f s ⟨e, g, h⟩ => .inl ⟨e, g, h.looks (look_loop rfl (by decide))⟩
    have hz := endW_len c3 (i + 1)
    rw [← m2]
    refine EvN.callf (Ev.glob L.gq) hfd (EvN.conv (ev_replace (x := toS (ms i)) (y := toS [13, 10]) (z := toS (endW c3 (i + 1))) (Ev.var (R := LS (ms i))) (fun n => ?_) ?_ L.nb) ?_) (L.quote (rs i) m4) (by show 1 ≤ 5; decide)
    · have hd : c3 / 3 ^ (i + 1) % 3 < 3 := Nat.mod_lt _ (by decide)
      refine EvN.itemT (Rs := endsL.map fun l => RSt (toS l) n) (k := ((c3 / 3 ^ (i + 1) % 3 : Nat) : Int)) (EvN.tuple (EvsN.cons (EvN.str _ _ _) (EvsN.cons (EvN.str _ _ _) (EvsN.cons (EvN.str _ _ _) EvsN.nil)))) (ev_digit (b := 3) (m := 3) (p := i + 1) (Ev.itemL (Rs := [RI c0, RI c1, RI c2, RI c3]) (k := 3) (Ev.var (R := RCells c0 c1 c2 c3)) (Ev.int 3 _ _) (by decide) (by decide) rfl) (Ev.bin (Ev.var (R := RI (i : Int))) (Ev.int 1 _ _) (op_add _ _)) (by grind) (pow_small 3 (by decide) (i + 1) (by grind)) (by decide) (by decide) (by decide)) (by grind) (by grind) (idx_nat (map_getD (d := []) (fun l => RSt (toS l) n) hd))
    · show (ms i).toArray.size + ((ms i).toArray.size + 1) * (endW c3 (i + 1)).toArray.size ≤ 16777216
      simp only [List.size_toArray]
      have : ((ms i).length + 1) * (endW c3 (i + 1)).length ≤ ((ms i).length + 1) * 2 := Nat.mul_le_mul_left _ hz
      lia
    · intro g v h
      rw [m1] at h; exact h
  · intro f s h
    rcases h with h | ⟨_, _, _, _, h⟩
    · rw [hlen] at h; exact h
    · exact h.elim
end
end Mine
end
section
open PySem PySem.W PyProof.Rows PySem.SeqAt
set_option maxRecDepth 100000
set_option linter.unusedVariables false
set_option maxHeartbeats 1000000
namespace Mine
section
variable {prog : Program} {w : World} {K : View} {pm cd doc : Value} {f : Addr} {A : Around} {g : View} {s : Shared}
/-- what is told of the mail -/
noncomputable def toldL (c0 c1 c2 c3 : Nat) : List (Int × Str) := ((lineL c1 c2).map fun (n : Int) => (n + ((c3 % 3 : Nat) : Int), toS [(lettersL c0).getD (n - 1).toNat 0])) ++ footL.map fun l => ((0 : Int), toS l)
noncomputable def ρ11 (script : List Int) (c0 c1 c2 c3 : Nat) (mail : List Nat) : List (Str × Rel) := ("told", RL ((toldL c0 c1 c2 c3).map RTold)) :: ρ9 script c0 c1 c2 c3 mail
theorem law11 (L : LK prog w K) (script : List Int) (c0 c1 c2 c3 : Nat) (mail : List Nat) (M1 : readR (toS mail) = toldL c0 c1 c2 c3) (M2 : MailOk (toS mail)) :
    So prog w K (LF pm cd doc f A g s) ⟨ρ9 script c0 c1 c2 c3 mail, none⟩ (exec (lawSt 11) (LF pm cd doc f A g s).env) (Nx K (LF pm cd doc f A g s) ⟨ρ11 script c0 c1 c2 c3 mail, none⟩) := by
  obtain ⟨fd, hfd⟩ := fnE_of L.hrd
  unfold ρ11
  rw [← M1]
  exact s_assign (Ev.callf (Ev.glob L.grd) hfd (Evs.cons (Ev.var (R := LS mail)) Evs.nil) (L.read (toS mail) M2) (by show 2 ≤ 5; decide)) (.inl rfl)
end
end Mine
end
section
open PySem PySem.W PyProof.Rows PySem.SeqAt
set_option maxRecDepth 100000
set_option linter.unusedVariables false
set_option maxHeartbeats 1000000
namespace Mine
noncomputable def dTold (p : Int × Str) : PyData := .tuple [.int p.1, .str p.2]
theorem le_told (l : List (Int × Str)) : Le (RL (l.map RTold)) (RP (.list (l.map dTold))) :=
  le_list (LeAll.map (f := RTold) (d := dTold) (fun p => le_tuple (Rs := [RI p.1, RS p.2]) (ds := [.int p.1, .str p.2]) ⟨le_RI _, le_RS _, trivial⟩) l)
theorem shaped_told (l : List (Int × Str)) (h : ∀ p ∈ l, PyData.strOk p.2 = true) : shaped (.list (l.map dTold)) = true := by
  have h1 : ∀ l : List (Int × Str), (∀ p ∈ l, PyData.strOk p.2 = true) → PyData.canLayAll0 (l.map dTold) = true := fun l => by
    induction l with
    | nil => intro _; simp [PyData.canLayAll0]
    | cons p l ih =>
      intro h
      simp only [List.map_cons, PyData.canLayAll0, dTold, PyData.canLay0, Bool.and_eq_true]
      exact ⟨by simp [h p List.mem_cons_self], ih fun q hq => h q (List.mem_cons_of_mem _ hq)⟩
  have h2 : ∀ l : List (Int × Str), PyData.depthAll (l.map dTold) ≤ 1 := fun l => by
    induction l with
    | nil => simp [PyData.depthAll]
    | cons p l ih => simp only [List.map_cons, PyData.depthAll, dTold, PyData.depth] at ih ⊢; simp; simp_all
  unfold shaped
  rw [Bool.and_eq_true]
  refine ⟨by simp only [PyData.canLay0]; exact h1 l h, decide_eq_true ?_⟩
  simp only [PyData.depth]
  have := h2 l; (exact Nat.lt_of_le_of_lt (by assumption) (by decide))
section
variable {prog : Program} {w : World} {K : View} {pm cd doc : Value} {f : Addr} {A : Around} {g : View} {s : Shared}
theorem lineL_len (c1 c2 : Nat) : (lineL c1 c2).length = 6 := by simp [lineL]
theorem law12 (L : LK prog w K) (script : List Int) (c0 c1 c2 c3 : Nat) (mail : List Nat) (hok : ∀ p ∈ toldL c0 c1 c2 c3, PyData.strOk p.2 = true) :
    So prog w K (LF pm cd doc f A g s) ⟨ρ11 script c0 c1 c2 c3 mail, none⟩ (exec (lawSt 12) (LF pm cd doc f A g s).env) (Nx K (LF pm cd doc f A g s) ⟨ρ11 script c0 c1 c2 c3 mail, none⟩) := by
  let fr : List (Str × Rel) := [("letters", RL ((lettersL c0).map fun ch => LS [ch])), ("more", RI (c3 % 3 : Nat))]
  have hll := lineL_len c1 c2
  have e1 : RL ((toldL c0 c1 c2 c3).map RTold) = RL (((List.range 6).map fun i => RTold ((lineL c1 c2).getD i 0 + ((c3 % 3 : Nat) : Int), toS [(lettersL c0).getD ((lineL c1 c2).getD i 0 - 1).toNat 0])) ++ ((List.range 3).map fun i => RTold ((0 : Int), toS (footL.getD i [])))) := by
    unfold toldL
    rw [List.map_append, List.map_map, List.map_map, ← range_map_getD (lineL c1 c2) 0, hll]
    rfl
  refine s_skip (b := false) (Te.as (Te.cmp (Ev.conv (Ev.var (R := RL ((toldL c0 c1 c2 c3).map RTold))) (le_told _)) (Ev.conv (Ev.as (Ev.bin (L := RL ((List.range 6).map fun i => RTold ((lineL c1 c2).getD i 0 + ((c3 % 3 : Nat) : Int), toS [(lettersL c0).getD ((lineL c1 c2).getD i 0 - 1).toNat 0]))) (R := RL ((List.range 3).map fun i => RTold ((0 : Int), toS (footL.getD i [])))) ?_ ?_ (op_list_add _ _ (by simp))) e1.symm) (le_told _)) (op_ned (shaped_told _ hok) (shaped_told _ hok))) ?_) rfl
  · refine ev_map fr (fun i => ("number", RI ((lineL c1 c2).getD i 0)) :: fr) 6 _ (iter_list (Ev.var (R := RL ((lineL c1 c2).map RI)))) (by simp [lineL]) (by decide) ⟨rfl, by decide, rfl, by decide⟩ ⟨⟨⟨_, rfl, Le.refl _⟩, .inl rfl, rfl, rfl⟩, ⟨⟨_, rfl, Le.refl _⟩, .inl rfl, rfl, rfl⟩, trivial⟩ ?_
    intro C g' s' G H pv i j hj hi
    have hi : i < 6 := by simp [lineL] at hi; exact hi
    have ej : j = .one (RI ((lineL c1 c2).getD i 0)) := by
      rw [List.getElem?_map, List.getElem?_map, getD_some (d := 0) (by assumption)] at hj
      exact (Option.some.inj hj).symm
    subst ej
    have hb := line_ok c1 c2 _ (List.mem_of_getElem? (getD_some (d := 0) (show i < (lineL c1 c2).length by omega)))
    refine ⟨AsI.name (.inl rfl), ⟨⟨_, rfl, Le.refl _⟩, ⟨_, rfl, Le.refl _⟩, trivial⟩, ?_⟩
    exact Ev.tuple (Evs.cons (Ev.bin (Ev.var (R := RI ((lineL c1 c2).getD i 0))) (Ev.var (R := RI (c3 % 3 : Nat))) (op_add _ _)) (Evs.cons (Ev.itemL (Rs := (lettersL c0).map fun ch => LS [ch]) (k := (lineL c1 c2).getD i 0 - 1) (Ev.var (R := RL ((lettersL c0).map fun ch => LS [ch]))) (Ev.bin (Ev.var (R := RI ((lineL c1 c2).getD i 0))) (Ev.int 1 _ _) (op_sub _ _)) (by simp_all) (by lia) (map_getD (d := 0) (fun ch => LS [ch]) (by rw [letters_len]; lia))) Evs.nil))
  · refine ev_map [] (fun i => [("row", LS (footL.getD i []))]) 3 _ (iter_list (Ev.var (R := RL (footL.map LS)))) (by simp [footL]) (by decide) ⟨rfl, by decide, rfl, by decide⟩ trivial ?_
    intro C g' s' G H pv i j hj hi
    have hi : i < 3 := by simp [footL] at hi; exact hi
    have ej : j = .one (LS (footL.getD i [])) := by
      rw [List.getElem?_map, List.getElem?_map, getD_some (d := []) hi] at hj
      exact (Option.some.inj hj).symm
    subst ej
    refine ⟨AsI.name (.inl rfl), trivial, ?_⟩
    exact Ev.tuple (Evs.cons (Ev.int _ _ _) (Evs.cons (Ev.var (R := LS (footL.getD i []))) Evs.nil))
  · rw [eqv_self (shaped_told _ hok)]; rfl
end
end Mine
end
section
open PySem PySem.W PyProof.Rows PySem.SeqAt
set_option maxRecDepth 100000
set_option linter.unusedVariables false
set_option maxHeartbeats 1000000
namespace Mine
section
variable {prog : Program} {w : World} {K : View} {pm cd doc : Value} {f : Addr} {A : Around} {g : View} {s : Shared}
/-- the mail sent once more and read again -/
noncomputable def againL (c0 c1 c2 c3 : Nat) : List (Int × Str) := (lineL c1 c2).map fun (n : Int) => (n + ((c3 % 3 : Nat) : Int) + 1, toS [(lettersL c0).getD (n - 1).toNat 0])
noncomputable def ρ13 (script : List Int) (c0 c1 c2 c3 : Nat) (mail : List Nat) : List (Str × Rel) := ("again", RL ((againL c0 c1 c2 c3).map RTold)) :: ρ11 script c0 c1 c2 c3 mail
theorem law13 (L : LK prog w K) (script : List Int) (c0 c1 c2 c3 : Nat) (mail r : List Nat) (M1 : Txt.replace (toS mail) (toS [13, 10]) (toS (endsL.getD (c3 / 27 % 3) [])) = toS r) (M2 : mail.length ≤ 100000) (M3 : r.length ≤ 1000000)
    (M4 : MailOk (toS (quoteL r))) (M5 : (readR (toS (quoteL r))).take 6 = againL c0 c1 c2 c3) (M6 : 6 ≤ (readR (toS (quoteL r))).length ∧ (readR (toS (quoteL r))).length ≤ 1000) :
    SoT prog w K (LF pm cd doc f A g s) ⟨ρ11 script c0 c1 c2 c3 mail, none⟩ (exec (lawSt 13) (LF pm cd doc f A g s).env) (Nx K (LF pm cd doc f A g s) ⟨ρ13 script c0 c1 c2 c3 mail, none⟩) := by
  obtain ⟨fd, hfd⟩ := fnE_of L.hq
  obtain ⟨fd2, hfd2⟩ := fnE_of L.hrd
  have hd : c3 / 27 % 3 < 3 := Nat.mod_lt _ (by decide)
  unfold ρ13
  rw [← M5, List.map_take]
  refine s_assignT (EvN.upto (b := 6) (EvN.callf (Ev.glob L.grd) hfd2 (EvN.callf (Ev.glob L.gq) hfd (EvN.conv (ev_replace (x := toS mail) (y := toS [13, 10]) (z := toS (endsL.getD (c3 / 27 % 3) [])) (Ev.var (R := LS mail)) (fun n => ?_) ?_ L.nb) ?_) (L.quote r M3) (by show 1 ≤ 5; decide)) (L.read (toS (quoteL r)) M4) (by show 2 ≤ 5; decide)) ?_ (Ev.int 6 _ _) ?_) (.inl rfl)
  · refine EvN.itemT (Rs := endsL.map fun l => RSt (toS l) n) (k := ((c3 / 27 % 3 : Nat) : Int)) (EvN.tuple (EvsN.cons (EvN.str _ _ _) (EvsN.cons (EvN.str _ _ _) (EvsN.cons (EvN.str _ _ _) EvsN.nil)))) (Ev.bin (Ev.bin (Ev.itemL (Rs := [RI c0, RI c1, RI c2, RI c3]) (k := 3) (Ev.var (R := RCells c0 c1 c2 c3)) (Ev.int 3 _ _) (by decide) (by decide) rfl) (Ev.int 27 _ _) (op_ndiv c3 27 (by decide) (pylong_small (by decide)))) (Ev.int 3 _ _) (op_nmod _ 3 (by decide))) (by grind) (by grind) (idx_nat (map_getD (d := []) (fun l => RSt (toS l) n) hd))
  · have hz : (endsL.getD (c3 / 27 % 3) []).length ≤ 2 := by
      match h : c3 / 27 % 3, hd with
      | 0, _ => decide
      | 1, _ => decide
      | 2, _ => decide
    show mail.toArray.size + (mail.toArray.size + 1) * (endsL.getD (c3 / 27 % 3) []).toArray.size ≤ 16777216
    simp only [List.size_toArray]
    have : (mail.length + 1) * (endsL.getD (c3 / 27 % 3) []).length ≤ (mail.length + 1) * 2 := Nat.mul_le_mul_left _ hz
    lia
  · intro g v h
    rw [M1] at h; exact h
  · rw [List.length_map]; lia
  · rw [List.length_map]; exact M6.1
end
end Mine
end
section
open PySem PySem.W PyProof.Rows PySem.SeqAt
set_option maxRecDepth 100000
set_option linter.unusedVariables false
set_option maxHeartbeats 1000000
namespace Mine
section
variable {prog : Program} {w : World} {K : View} {pm cd doc : Value} {f : Addr} {A : Around} {g : View} {s : Shared}
noncomputable def dotsL (c1 c2 c3 : Nat) : List Int := (lineL c1 c2).map fun (n : Int) => n + ((c3 % 3 : Nat) : Int) + 1
theorem dots_len (c1 c2 c3 : Nat) : (dotsL c1 c2 c3).length = 6 := by simp [dotsL, lineL_len]
theorem again_len (c0 c1 c2 c3 : Nat) : (againL c0 c1 c2 c3).length = 6 := by simp [againL, lineL_len]
theorem again_dots (c0 c1 c2 c3 i : Nat) (h : i < 6) : ((againL c0 c1 c2 c3).getD i (0, ⟨#[]⟩)).1 = (dotsL c1 c2 c3).getD i 0 := by
  have h1 : i < (lineL c1 c2).length := by rw [lineL_len]; exact h
  unfold againL dotsL
  rw [List.getD_eq_getElem?_getD, List.getD_eq_getElem?_getD, List.getElem?_map, List.getElem?_map, List.getElem?_eq_getElem h1]
  rfl
/-- what the rest of law reads -/
noncomputable def ρ14 (prog : Program) (w : World) (c0 c1 c2 c3 : Nat) : List (Str × Rel) :=
  [("fine", RB true), ("ways", RD (intKind prog w) (RIs waysL)), ("dots", RL ((dotsL c1 c2 c3).map RI)), ("again", RL ((againL c0 c1 c2 c3).map RTold)), ("told", RL ((toldL c0 c1 c2 c3).map RTold)),
   ("line", RL ((lineL c1 c2).map RI)), ("letters", RL ((lettersL c0).map fun ch => LS [ch])), ("size", RI (2 + c0 % 2 : Nat)), ("cells", RCells c0 c1 c2 c3)]
theorem law14 (L : LK prog w K) (script : List Int) (c0 c1 c2 c3 : Nat) (mail : List Nat) :
    So prog w K (LF pm cd doc f A g s) ⟨ρ13 script c0 c1 c2 c3 mail, none⟩ (exec (lawSt 14) (LF pm cd doc f A g s).env) (Nx K (LF pm cd doc f A g s) ⟨ρ14 prog w c0 c1 c2 c3, none⟩) := by
  obtain ⟨fd, hfd⟩ := fnE_of L.hw
  have e : RL ((dotsL c1 c2 c3).map RI) = RL ((List.range 6).map fun i => RI ((dotsL c1 c2 c3).getD i 0)) := by
    rw [← dots_len c1 c2 c3, range_map_getD (dotsL c1 c2 c3) 0]
  refine So.mono (s_tuple (R := RT [RL ((dotsL c1 c2 c3).map RI), RT [RD (intKind prog w) (RIs waysL), RB true]]) (Ev.tuple (Evs.cons (Ev.as ?_ e.symm) (Evs.cons (Ev.callf0 (Ev.glob L.gw) hfd L.ways (by show 3 ≤ 5; decide)) Evs.nil)))
    (As.tup (AsL.add (As.name (storesC rfl)) (AsL.add (As.tup (AsL.add (As.name (.inl rfl)) (AsL.add (As.name (.inl rfl)) (.nil _)))) (.nil _))))) fun f s ⟨e, g, h⟩ => ⟨e, g, h.to ?_ rfl⟩
  · refine ev_map [] (fun i => [("letter", RS ((againL c0 c1 c2 c3).getD i (0, ⟨#[]⟩)).2), ("count", RI ((dotsL c1 c2 c3).getD i 0))]) 6 _ (iter_list (Ev.var (R := RL ((againL c0 c1 c2 c3).map RTold)))) (by simp [again_len]) (by decide) ⟨rfl, by decide, rfl, by decide⟩ trivial ?_
    intro C g' s' G H pv i j hj hi
    have hi : i < 6 := by simp [again_len] at hi; exact hi
    have ej : j = .one (RT [RI ((dotsL c1 c2 c3).getD i 0), RS ((againL c0 c1 c2 c3).getD i (0, ⟨#[]⟩)).2]) := by
      rw [← again_dots c0 c1 c2 c3 i hi]
      rw [List.getElem?_map, List.getElem?_map, getD_some (d := (0, ⟨#[]⟩)) (by rw [again_len]; exact hi)] at hj
      exact (Option.some.inj hj).symm
    subst ej
    exact ⟨AsI.one (As.tup (AsL.add (As.name (.inl rfl)) (AsL.add (As.name (.inl rfl)) (.nil _)))), trivial, Ev.var⟩
  · exact ⟨⟨_, rfl, Le.refl _⟩, ⟨_, rfl, Le.refl _⟩, ⟨_, rfl, Le.refl _⟩, ⟨_, rfl, Le.refl _⟩, ⟨_, rfl, Le.refl _⟩, ⟨_, rfl, Le.refl _⟩, ⟨_, rfl, Le.refl _⟩, ⟨_, rfl, Le.refl _⟩, ⟨_, rfl, Le.refl _⟩, trivial⟩
end
end Mine
end
section
open PySem PySem.W PyProof.Rows PySem.SeqAt
set_option maxRecDepth 100000
set_option linter.unusedVariables false
set_option maxHeartbeats 1000000
namespace Mine
section
variable {prog : Program} {w : World} {K : View} {pm cd doc : Value} {f : Addr} {A : Around} {g : View} {s : Shared}
/-- does the line come of dealing and riffling? -/
noncomputable def firstB (c1 c2 : Nat) : Bool := has waysL (numOf (lineL c1 c2))
noncomputable def ρ15 (prog : Program) (w : World) (c0 c1 c2 c3 : Nat) (b2 b3 : Bool) : List (Str × Rel) := ("first", RB (firstB c1 c2)) :: ("second", RB b2) :: ("third", RB b3) :: ρ14 prog w c0 c1 c2 c3
theorem law15 (L : LK prog w K) (c0 c1 c2 c3 : Nat) :
    So prog w K (LF pm cd doc f A g s) ⟨ρ14 prog w c0 c1 c2 c3, none⟩ (exec (lawSt 15) (LF pm cd doc f A g s).env) (Nx K (LF pm cd doc f A g s) ⟨ρ15 prog w c0 c1 c2 c3 true true, none⟩) := by
  refine s_swap (l := [("third", RB true), ("second", RB true), ("first", RB (firstB c1 c2))]) (Ev.tuple (Evs.cons ?_ (Evs.cons (Ev.bool _ _ _) (Evs.cons (Ev.bool _ _ _) Evs.nil)))) (.cons _ _ _ _ _ (.inl rfl) (.cons _ _ _ _ _ (.inl rfl) (.cons _ _ _ _ _ (.inl rfl) (.nil _))))
  refine (Ev.cmp ((ev_num L.bsum L.tenum rfl rfl ⟨rfl, by decide, rfl, by decide⟩ rfl rfl (by decide) (by decide) (by decide) (Ev.var (R := RL ((lineL c1 c2).map RI))) (by rw [lineL_len]; decide) rfl).conv (int_le _)) (Ev.var (R := RD (intKind prog w) (RIs waysL))) op_in).as ?_
  rw [has_RIs]; rfl
end
end Mine
end
section
open PySem PySem.W PyProof.Rows PySem.SeqAt
set_option maxRecDepth 100000
set_option linter.unusedVariables false
set_option maxHeartbeats 1000000
namespace Mine
section
variable {Kt : Type} [DecidableEq Kt]
/-- a table put together, one pair after the other -/
noncomputable def tabOf (ps : List (Kt × Int)) : List (Kt × Int) := ps.foldl (fun T p => addC T [p]) []
theorem tabOf_take {ps : List (Kt × Int)} {j : Nat} {p : Kt × Int} (h : ps[j]? = some p) : tabOf (ps.take (j + 1)) = addC (tabOf (ps.take j)) [p] := by
  unfold tabOf; rw [List.take_add_one, h, List.foldl_append]; rfl
theorem addC_le (l m : List (Kt × Int)) : (addC l m).length ≤ l.length + m.length := by
  have h1 := addC_len m (laid l)
  have h2 := laid_len l []
  unfold addC
  simp only [List.length_nil] at h2
  unfold laid at *
  lia
theorem tabOf_le (ps : List (Kt × Int)) : (tabOf ps).length ≤ ps.length := by
  have : ∀ (ps acc : List (Kt × Int)), (ps.foldl (fun T p => addC T [p]) acc).length ≤ acc.length + ps.length := fun ps => by
    induction ps with
    | nil => intro acc; simp
    | cons p ps ih => intro acc; have := ih (addC acc [p]); have := addC_le acc [p]; simp only [List.foldl_cons, List.length_cons, List.length_nil] at *; lia
  have := this ps []
  simpa [tabOf] using this
end
section
variable {prog : Program} {w : World} {K : View} {pm cd doc : Value} {f : Addr} {A : Around} {g : View} {s : Shared}
theorem LK.add (L : LK prog w K) {Kt : Type} [DecidableEq Kt] (knd : KeyKind prog w Kt) (l m : List (Kt × Int)) (hs : l.length + m.length ≤ 16777216) : Ct prog w K L.fa 1 [RD knd (RIs l), RD knd (RIs m)] (RD knd (RIs (addC l m))) := by
  obtain ⟨_, _, _, h⟩ := L.ha
  exact ct_add h L.bisi L.ttuple l m hs
theorem LK.count (L : LK prog w K) {Kt : Type} [DecidableEq Kt] (knd : KeyKind prog w Kt) (l : List (Kt × Int)) : Ct prog w K L.fc 1 [RD knd (RIs l)] (RI (isum (l.map (·.2)))) := by
  obtain ⟨_, _, _, h⟩ := L.hc
  exact ct_count h l
noncomputable def sliceD {α : Type} (ds : List α) (c t : Nat) : List α := (ds.drop (t * c)).take c
noncomputable def remD (c : Nat) (ds : List Int) : List (Int × Int) := ds.map fun d => (d.fmod c, (c : Int))
noncomputable def tabD (ds : List Int) (c t : Nat) : List (Int × Int) := tabOf (remD c (sliceD ds c t))
noncomputable def unl (ds : List Int) (c t : Nat) : Bool := maxL ((tabD ds c t).map (·.2)) == (c : Int)
noncomputable def sec1 (ds : List Int) (c : Nat) (b : Bool) : Nat → Bool
  | 0 => b
  | t + 1 => sec1 ds c b t && (unl ds c t || decide ((t : Int) > 0))
noncomputable def thi1 (ds : List Int) (c : Nat) (b : Bool) : Nat → Bool
  | 0 => b
  | t + 1 => thi1 ds c b t && unl ds c t
noncomputable def sec0 (ds : List Int) : Nat → Bool
  | 0 => true
  | k + 1 => sec1 ds (k + 1) (sec0 ds k) (6 / (k + 1))
noncomputable def thi0 (ds : List Int) : Nat → Bool
  | 0 => true
  | k + 1 => thi1 ds (k + 1) (thi0 ds k) (6 / (k + 1))
noncomputable def ρ16 (prog : Program) (w : World) (c0 c1 c2 c3 c : Nat) (b2 b3 : Bool) : List (Str × Rel) := ("count", RI (c : Int)) :: ρ15 prog w c0 c1 c2 c3 b2 b3
noncomputable def ρ16t (prog : Program) (w : World) (c0 c1 c2 c3 c t : Nat) (b2 b3 : Bool) : List (Str × Rel) := ("turn", RI (t : Int)) :: ρ16 prog w c0 c1 c2 c3 c b2 b3
noncomputable def ρ16j (prog : Program) (w : World) (c0 c1 c2 c3 c t : Nat) (b2 b3 : Bool) (T : List (Int × Int)) : List (Str × Rel) := ("table", RD (intKind prog w) (RIs T)) :: ρ16t prog w c0 c1 c2 c3 c t b2 b3
theorem small_mul {a b : Nat} (ha : a ≤ 6) : IntMulOk (a : Int) (b : Int) := IntMulOk.of_left (by
  match a, ha with
  | 0, _ => decide
  | 1, _ => decide
  | 2, _ => decide
  | 3, _ => decide
  | 4, _ => decide
  | 5, _ => decide
  | 6, _ => decide)
theorem small_mul' {a b : Nat} (hb : b ≤ 6) : IntMulOk (a : Int) (b : Int) := IntMulOk.of_right (by
  match b, hb with
  | 0, _ => decide
  | 1, _ => decide
  | 2, _ => decide
  | 3, _ => decide
  | 4, _ => decide
  | 5, _ => decide
  | 6, _ => decide)
/-- one turn of the inner loop -/
theorem law16t (L : LK prog w K) (c0 c1 c2 c3 c t : Nat) (b2 b3 : Bool) (hc : 1 ≤ c) (hc6 : c ≤ 6) (ht : t * c + c ≤ 6) {F : Fr} (hF : ∃ G₁ H₁ G₂ H₂, F = ((LF pm cd doc f A g s).inner G₁ H₁).inner G₂ H₂)
    (hsum : isum ((tabD (dotsL c1 c2 c3) c t).map (·.2)) = ((c * c : Nat) : Int)) (hne : (tabD (dotsL c1 c2 c3) c t).map (·.2) ≠ []) {body : List Stmt} (hb : body = match lawSt 16 with | .For _ _ [.For _ _ b _ _] _ _ => b | _ => []) :
    So prog w K F ⟨ρ16t prog w c0 c1 c2 c3 c t b2 b3, none⟩ (execs body F.env) (Nx K F ⟨ρ16 prog w c0 c1 c2 c3 c (b2 && (unl (dotsL c1 c2 c3) c t || decide ((t : Int) > 0))) (b3 && unl (dotsL c1 c2 c3) c t), none⟩) := by
  obtain ⟨G₁, H₁, G₂, H₂, rfl⟩ := hF
  subst hb
  obtain ⟨fd, hfd⟩ := fnE_of L.ha
  obtain ⟨fd2, hfd2⟩ := fnE_of L.hc
  have hps : (remD c (sliceD (dotsL c1 c2 c3) c t)).length = c := by
    unfold remD sliceD; rw [List.length_map, List.length_take, List.length_drop, dots_len]; lia
  have hsl : (sliceD (dotsL c1 c2 c3) c t).length = c := by unfold sliceD; rw [List.length_take, List.length_drop, dots_len]; lia
  refine seq (s_assign (R := RD (intKind prog w) []) Ev.dict0 (.inl rfl)) ?_
  refine seq (c' := ⟨ρ16j prog w c0 c1 c2 c3 c t b2 b3 (tabD (dotsL c1 c2 c3) c t), none⟩) (So.mono (s_forN (items := (sliceD (dotsL c1 c2 c3) c t).map fun d => .one (RI d)) (fun j => ⟨ρ16j prog w c0 c1 c2 c3 c t b2 b3 (tabOf ((remD c (sliceD (dotsL c1 c2 c3) c t)).take j)), none⟩)
    (fun j => ⟨("dot", RI ((sliceD (dotsL c1 c2 c3) c t).getD j 0)) :: ρ16j prog w c0 c1 c2 c3 c t b2 b3 (tabOf ((remD c (sliceD (dotsL c1 c2 c3) c t)).take j)), none⟩) ?_ ?_ rfl ?_) fun f s h => ?_) ?_
  · have e : (sliceD (dotsL c1 c2 c3) c t).map (fun d => Item.one (RI d)) = ((((dotsL c1 c2 c3).map RI).drop (t * c)).take (t * c + c - t * c)).map Item.one := by
      unfold sliceD; rw [Nat.add_sub_cancel_left, ← List.map_drop, ← List.map_take, List.map_map]; rfl
    rw [e]
    exact iter_list (Ev.between (a := t * c) (b := t * c + c) (i := (t : Int) * (c : Int)) (j := (t : Int) * (c : Int) + (c : Int)) (Ev.var (R := RL ((dotsL c1 c2 c3).map RI))) (by rw [List.length_map, dots_len]; decide) (Ev.bin (Ev.var (R := RI (t : Int))) (Ev.var (R := RI (c : Int))) (op_mul _ _ (small_mul' hc6)))
      (Ev.bin (Ev.bin (Ev.var (R := RI (t : Int))) (Ev.var (R := RI (c : Int))) (op_mul _ _ (small_mul' hc6))) (Ev.var (R := RI (c : Int))) (op_add _ _)) (by rw [Int.natCast_mul]) (by rw [Int.natCast_add, Int.natCast_mul]) (Nat.le_add_right _ _) (by rw [List.length_map, dots_len]; exact ht))
  · repeat (first | exact trivial | refine ⟨⟨_, rfl, Le.refl _⟩, ?_⟩)
  · intro G H j i hj
    have hj' : j < c := by have := (List.getElem?_eq_some_iff.mp hj).1; rw [List.length_map, hsl] at this; exact this
    have hd := getD_some (l := sliceD (dotsL c1 c2 c3) c t) (d := 0) (k := j) (by simp_all)
    rw [List.getElem?_map, hd] at hj
    cases hj
    have hp : (remD c (sliceD (dotsL c1 c2 c3) c t))[j]? = some ((((sliceD (dotsL c1 c2 c3) c t).getD j 0).fmod c, (c : Int))) := by unfold remD; rw [List.getElem?_map, hd]; rfl
    refine ⟨AsI.name (.inl rfl), last (So.mono (s_assign (R := RD (intKind prog w) (RIs (tabOf ((remD c (sliceD (dotsL c1 c2 c3) c t)).take (j + 1))))) ?_ (.inl rfl)) fun f s ⟨e, g, h⟩ => ⟨e, g, h.to ?_ rfl⟩)⟩
    · rw [tabOf_take hp]
      have hlen := tabOf_le ((remD c (sliceD (dotsL c1 c2 c3) c t)).take j)
      have hlen2 : ((remD c (sliceD (dotsL c1 c2 c3) c t)).take j).length ≤ 6 := by rw [List.length_take]; grind
      refine Ev.callf (Ev.glob L.ga) hfd (Evs.cons (Ev.var (R := RD (intKind prog w) (RIs (tabOf ((remD c (sliceD (dotsL c1 c2 c3) c t)).take j))))) (Evs.cons (R := RD (intKind prog w) (RIs [(((sliceD (dotsL c1 c2 c3) c t).getD j 0).fmod c, (c : Int))])) (ev_dict (knd := intKind prog w) (kvs := RIs [(((sliceD (dotsL c1 c2 c3) c t).getD j 0).fmod c, (c : Int))]) (EvPairs.cons ?_ ?_ EvPairs.nil)) Evs.nil)) (L.add (intKind prog w) _ _ (by simp only [List.length_cons, List.length_nil]; lia)) (by show 1 ≤ 5; decide)
      · exact (Ev.bin (Ev.var (R := RI ((sliceD (dotsL c1 c2 c3) c t).getD j 0))) (Ev.var (R := RI (c : Int))) (op_mod _ _ (by lia))).conv (int_le _)
      · exact Ev.var (R := RI (c : Int))
    · repeat (first | exact trivial | refine ⟨⟨_, rfl, Le.refl _⟩, ?_⟩)
  · have e : ((sliceD (dotsL c1 c2 c3) c t).map fun d => Item.one (RI d)).length = (remD c (sliceD (dotsL c1 c2 c3) c t)).length := by rw [List.length_map, hsl, hps]
    rw [e, List.take_length] at h
    exact h
  refine seq (s_skip (b := false) (Te.as (Te.cmp (Ev.callf (Ev.glob L.gc) hfd2 (Evs.cons (Ev.var (R := RD (intKind prog w) (RIs (tabD (dotsL c1 c2 c3) c t)))) Evs.nil) (L.count (intKind prog w) _) (by show 1 ≤ 5; decide)) (Ev.bin (Ev.var (R := RI (c : Int))) (Ev.var (R := RI (c : Int))) (op_mul _ _ (small_mul hc6))) (op_ne _ _)) ?_) rfl) ?_
  · rw [hsum, Int.natCast_mul]; simp
  obtain ⟨m1, m2⟩ := maxL_ok hne
  refine seq (s_assign (R := RB (unl (dotsL c1 c2 c3) c t)) (Ev.cmp (Ev.callb (Ev.glob L.bmax) (Evs.cons (Ev.values (knd := intKind prog w) (Ev.var (R := RD (intKind prog w) (RIs (tabD (dotsL c1 c2 c3) c t))))) Evs.nil) (bf_max_values m1 m2)) (Ev.var (R := RI (c : Int))) (op_eq _ _)) (.inl rfl)) ?_
  refine last (So.mono (s_swap (l := [("third", RB (b3 && unl (dotsL c1 c2 c3) c t)), ("second", RB (b2 && (unl (dotsL c1 c2 c3) c t || decide ((t : Int) > 0))))]) (Ev.tuple (Evs.cons ?_ (Evs.cons ?_ Evs.nil))) (.cons _ _ _ _ _ (.inl rfl) (.cons _ _ _ _ _ (.inl rfl) (.nil _)))) fun f s ⟨e, g, h⟩ => ⟨e, g, h.to ?_ rfl⟩)
  · exact Ev.and (Ev.var (R := RB b2)) fun _ => Ev.or (Ev.var (R := RB (unl (dotsL c1 c2 c3) c t))) fun _ => Ev.cmp (Ev.var (R := RI (t : Int))) (Ev.int 0 _ _) (op_gt _ _)
  · exact Ev.and (Ev.var (R := RB b3)) fun _ => Ev.var (R := RB (unl (dotsL c1 c2 c3) c t))
  · repeat (first | exact trivial | refine ⟨⟨_, rfl, Le.refl _⟩, ?_⟩)
end
end Mine
end
section
open PySem PySem.W PyProof.Rows PySem.SeqAt
set_option maxRecDepth 100000
set_option linter.unusedVariables false
set_option maxHeartbeats 1000000
namespace Mine
section
variable {prog : Program} {w : World} {K : View} {pm cd doc : Value} {f : Addr} {A : Around} {g : View} {s : Shared}
theorem six_div : ∀ k < 6, 6 / (k + 1) ≤ 6 := by decide
theorem six_bound : ∀ k < 6, ∀ t < 6 / (k + 1), t * (k + 1) + (k + 1) ≤ 6 := by decide
theorem law16 (L : LK prog w K) (c0 c1 c2 c3 : Nat)
    (M : ∀ k < 6, ∀ t < 6 / (k + 1), isum ((tabD (dotsL c1 c2 c3) (k + 1) t).map (·.2)) = (((k + 1) * (k + 1) : Nat) : Int) ∧ (tabD (dotsL c1 c2 c3) (k + 1) t).map (·.2) ≠ []) :
    So prog w K (LF pm cd doc f A g s) ⟨ρ15 prog w c0 c1 c2 c3 true true, none⟩ (exec (lawSt 16) (LF pm cd doc f A g s).env) (Nx K (LF pm cd doc f A g s) ⟨ρ15 prog w c0 c1 c2 c3 (sec0 (dotsL c1 c2 c3) 6) (thi0 (dotsL c1 c2 c3) 6), none⟩) := by
  refine s_forN (items := rangeItems 1 7 1) (fun k => ⟨ρ15 prog w c0 c1 c2 c3 (sec0 (dotsL c1 c2 c3) k) (thi0 (dotsL c1 c2 c3) k), none⟩) (fun k => ⟨ρ16 prog w c0 c1 c2 c3 (k + 1) (sec0 (dotsL c1 c2 c3) k) (thi0 (dotsL c1 c2 c3) k), none⟩)
    (iter_range (Ev.callt (Ev.glob L.trange) (Evs.cons (Ev.int 1 _ _) (Evs.cons (Ev.int 7 _ _) Evs.nil)) (bf_range2 1 7))) ?_ rfl ?_
  · repeat (first | exact trivial | refine ⟨⟨_, rfl, Le.refl _⟩, ?_⟩)
  intro G H k j hj
  have hk : k < 6 := (List.getElem?_eq_some_iff.mp hj).1
  have e1 : (1 : Int) + (k : Int) * 1 = ((k + 1 : Nat) : Int) := by (simp +arith)
  rw [rangeItems_get hj, e1]
  refine ⟨AsI.name (.inl rfl), ?_⟩
  have hd := six_div k hk
  refine last (So.mono (s_forN (items := rangeItems 0 ((6 / (k + 1) : Nat) : Int) 1) (fun t => ⟨ρ16 prog w c0 c1 c2 c3 (k + 1) (sec1 (dotsL c1 c2 c3) (k + 1) (sec0 (dotsL c1 c2 c3) k) t) (thi1 (dotsL c1 c2 c3) (k + 1) (thi0 (dotsL c1 c2 c3) k) t), none⟩)
    (fun t => ⟨ρ16t prog w c0 c1 c2 c3 (k + 1) t (sec1 (dotsL c1 c2 c3) (k + 1) (sec0 (dotsL c1 c2 c3) k) t) (thi1 (dotsL c1 c2 c3) (k + 1) (thi0 (dotsL c1 c2 c3) k) t), none⟩)
    (iter_range (Ev.callt (Ev.glob L.trange) (Evs.cons (Ev.bin (Ev.int 6 _ _) (Ev.var (R := RI ((k + 1 : Nat) : Int))) (op_ndiv 6 (k + 1) (by simp) (pylong_small (by rw [Int.natAbs_natCast]; (exact Nat.lt_of_le_of_lt (by assumption) (by decide)))))) Evs.nil) (bf_range1 _)) (range_small _ hd)) ?_ rfl ?_) fun f s ⟨e, g, h⟩ => ⟨e, g, h.to ?_ rfl⟩)
  · repeat (first | exact trivial | refine ⟨⟨_, rfl, Le.refl _⟩, ?_⟩)
  · intro G₂ H₂ t j hj
    have ht : t < 6 / (k + 1) := by have := (List.getElem?_eq_some_iff.mp hj).1; rw [range_len _ hd] at this; exact this
    rw [rangeItems_get0 hj]
    obtain ⟨m1, m2⟩ := M k hk t ht
    exact ⟨AsI.name (.inl rfl), law16t L c0 c1 c2 c3 (k + 1) t _ _ (by (exact Nat.succ_pos _)) (by assumption) (six_bound k hk t ht) ⟨G, H, G₂, H₂, rfl⟩ m1 m2 rfl⟩
  · rw [range_len _ hd]
    repeat (first | exact trivial | refine ⟨⟨_, rfl, Le.refl _⟩, ?_⟩)
end
end Mine
end
section
open PySem PySem.W PyProof.Rows PySem.SeqAt
set_option maxRecDepth 100000
set_option linter.unusedVariables false
set_option maxHeartbeats 1000000
namespace Mine
noncomputable def minL : List Int → Int
  | [] => 0
  | [a] => a
  | a :: l => if a < minL l then a else minL l
theorem minL_ok : ∀ {l : List Int}, l ≠ [] → minL l ∈ l ∧ ∀ a ∈ l, minL l ≤ a
  | [], h => (h rfl).elim
  | [a], _ => ⟨List.mem_singleton.mpr rfl, fun b hb => by rw [List.mem_singleton.mp hb]; exact Int.le_refl _⟩
  | a :: b :: l, _ => by
    obtain ⟨h1, h2⟩ := minL_ok (l := b :: l) (by intro h; cases h)
    show (if a < minL (b :: l) then a else minL (b :: l)) ∈ _ ∧ ∀ x ∈ _, (if a < minL (b :: l) then a else minL (b :: l)) ≤ x
    split
    · refine ⟨List.mem_cons_self, fun x hx => ?_⟩
      rcases List.mem_cons.mp hx with rfl | hx
      · exact Int.le_refl _
      · have := h2 x hx; lia
    · refine ⟨List.mem_cons_of_mem _ h1, fun x hx => ?_⟩
      rcases List.mem_cons.mp hx with rfl | hx
      · simp_all
      · exact h2 x hx
theorem shaped_ints (l : List Int) : shaped (.list (l.map .int)) = true := by
  have h1 : ∀ l : List Int, PyData.canLayAll0 (l.map .int) = true := fun l => by
    induction l with
    | nil => simp [PyData.canLayAll0]
    | cons p l ih => simp only [List.map_cons, PyData.canLayAll0, PyData.canLay0, Bool.and_eq_true]; exact ⟨trivial, ih⟩
  have h2 : ∀ l : List Int, PyData.depthAll (l.map .int) = 0 := fun l => by
    induction l with
    | nil => simp [PyData.depthAll]
    | cons p l ih => simp [PyData.depthAll, PyData.depth, ih]
  unfold shaped
  rw [Bool.and_eq_true]
  refine ⟨by simp only [PyData.canLay0]; exact h1 l, decide_eq_true ?_⟩
  simp only [PyData.depth]
  rw [h2]; decide
theorem eqv_nil (l : List PyData) : PyData.eqv (.list l) (.list []) = l.isEmpty := by
  cases l <;> simp [PyData.eqv, PyData.eqvAll]
theorem le_ints (l : List Int) : Le (RL (l.map RI)) (RP (.list (l.map .int))) := le_list (LeAll.map le_RI l)
section
variable {prog : Program} {w : World} {K : View} {pm cd doc : Value} {f : Addr} {A : Around} {g : View} {s : Shared}
/-- do the first k + 1 rows leave a gap? -/
noncomputable def gapB (ds : List Int) (k : Nat) : Bool := decide (maxL (ds.take (k + 1)) - minL (ds.take (k + 1)) ≥ ((k + 1 : Nat) : Int))
noncomputable def gapL (ds : List Int) : List Int := ((List.range 6).filter (gapB ds)).map fun k => ((k + 1 : Nat) : Int)
noncomputable def fourB (ds : List Int) : Bool := ((gapL ds).map PyData.int).isEmpty
theorem gap_outs (ds : List Int) : ((List.range 6).map fun k => if gapB ds k then some (RI ((k + 1 : Nat) : Int)) else Option.none).filterMap id = (gapL ds).map RI := by
  unfold gapL
  generalize List.range 6 = l
  induction l with
  | nil => rfl
  | cons x l ih => cases h : gapB ds x <;> simpa [h] using ih
noncomputable def ρ17 (prog : Program) (w : World) (c0 c1 c2 c3 : Nat) (b2 b3 b4 : Bool) : List (Str × Rel) := ("fourth", RB b4) :: ρ15 prog w c0 c1 c2 c3 b2 b3
theorem law17 (L : LK prog w K) (c0 c1 c2 c3 : Nat) (b2 b3 : Bool) :
    So prog w K (LF pm cd doc f A g s) ⟨ρ15 prog w c0 c1 c2 c3 b2 b3, none⟩ (exec (lawSt 17) (LF pm cd doc f A g s).env) (Nx K (LF pm cd doc f A g s) ⟨ρ17 prog w c0 c1 c2 c3 b2 b3 (fourB (dotsL c1 c2 c3)), none⟩) := by
  let fr : List (Str × Rel) := [("dots", RL ((dotsL c1 c2 c3).map RI))]
  refine s_assign ((Ev.cmp ((Ev.as (Ev.listcomp fr (fun k => ("count", RI ((k + 1 : Nat) : Int)) :: fr) ((List.range 6).map fun k => if gapB (dotsL c1 c2 c3) k then some (RI ((k + 1 : Nat) : Int)) else Option.none)
    (iter_range (Ev.callt (Ev.glob L.trange) (Evs.cons (Ev.int 1 _ _) (Evs.cons (Ev.int 7 _ _) Evs.nil)) (bf_range2 1 7))) rfl (by simp) ⟨rfl, by decide, rfl, by decide⟩ ?fr ?body) (by rw [gap_outs])).conv (le_ints (gapL (dotsL c1 c2 c3))))
    ((Ev.list Evs.nil).conv (R' := RP (.list [])) (le_list trivial)) (op_eqd (shaped_ints _) (by decide))).as ?_) (.inl rfl)
  case fr => exact ⟨⟨⟨_, rfl, Le.refl _⟩, .inl rfl, rfl, rfl⟩, trivial⟩
  case body =>
    intro C g' s' G H pv k j hj
    have hk : k < 6 := (List.getElem?_eq_some_iff.mp hj).1
    have e1 : (1 : Int) + (k : Int) * 1 = ((k + 1 : Nat) : Int) := by (simp +arith)
    rw [rangeItems_get hj, e1]
    have ho : ((List.range 6).map fun k => if gapB (dotsL c1 c2 c3) k then some (RI ((k + 1 : Nat) : Int)) else Option.none)[k]? = some (if gapB (dotsL c1 c2 c3) k then some (RI ((k + 1 : Nat) : Int)) else Option.none) := by
      rw [List.getElem?_map, List.getElem?_range hk]; rfl
    have hkk : kept ((List.range 6).map fun k => if gapB (dotsL c1 c2 c3) k then some (RI ((k + 1 : Nat) : Int)) else Option.none) k = gapB (dotsL c1 c2 c3) k := by
      rw [kept_of ho]; cases gapB (dotsL c1 c2 c3) k <;> rfl
    have hne : (dotsL c1 c2 c3).take (k + 1) ≠ [] := fun h => by
      have := congrArg List.length h
      rw [List.length_take, dots_len] at this
      simp at this
    obtain ⟨m1, m2⟩ := maxL_ok hne
    obtain ⟨n1, n2⟩ := minL_ok hne
    refine ⟨AsI.name (.inl rfl), ⟨⟨_, rfl, Le.refl _⟩, trivial⟩, Tst.one ((Te.cmp (Ev.bin (Ev.callb (Ev.glob L.bmax) (Evs.cons (Ev.as (R' := RL (((dotsL c1 c2 c3).take (k + 1)).map RI)) (Ev.upto (b := k + 1) (Ev.var (R := RL ((dotsL c1 c2 c3).map RI))) (by rw [List.length_map, dots_len]; decide) (Ev.var (R := RI ((k + 1 : Nat) : Int))) rfl (by rw [List.length_map, dots_len]; assumption)) (by rw [List.map_take])) Evs.nil) (bf_max m1 m2))
      (Ev.callb (Ev.glob L.bmin) (Evs.cons (Ev.as (R' := RL (((dotsL c1 c2 c3).take (k + 1)).map RI)) (Ev.upto (b := k + 1) (Ev.var (R := RL ((dotsL c1 c2 c3).map RI))) (by rw [List.length_map, dots_len]; decide) (Ev.var (R := RI ((k + 1 : Nat) : Int))) rfl (by rw [List.length_map, dots_len]; omega)) (by rw [List.map_take])) Evs.nil) (bf_min n1 n2)) (op_sub _ _)) (Ev.var (R := RI ((k + 1 : Nat) : Int))) (op_ge _ _)).as ?_), fun _ R hR => ?_⟩
    · rw [hkk]; rfl
    · rw [ho] at hR
      cases hb : gapB (dotsL c1 c2 c3) k with
      | false => rw [hb] at hR; cases hR
      | true => rw [hb] at hR; cases hR; exact Ev.var (R := RI ((k + 1 : Nat) : Int))
  · exact congrArg RB (eqv_nil _)
/-- all three say what first says -/
theorem law18 (L : LK prog w K) (c0 c1 c2 c3 : Nat) (b2 b3 b4 : Bool) (h2 : b2 = firstB c1 c2) (h3 : b3 = firstB c1 c2) (h4 : b4 = firstB c1 c2) :
    So prog w K (LF pm cd doc f A g s) ⟨ρ17 prog w c0 c1 c2 c3 b2 b3 b4, none⟩ (exec (lawSt 18) (LF pm cd doc f A g s).env) (Nx K (LF pm cd doc f A g s) ⟨ρ17 prog w c0 c1 c2 c3 b2 b3 b4, none⟩) := by
  refine s_skip (b := false) (Te.as (Te.or (c := false) (d := false) ((Te.cmp (Ev.conv (Ev.list (Evs.cons (Ev.var (R := RB b2)) (Evs.cons (Ev.var (R := RB b3)) (Evs.cons (Ev.var (R := RB b4)) Evs.nil)))) (R' := RP (.list [.bool b2, .bool b3, .bool b4])) (le_list ⟨le_RB _, le_RB _, le_RB _, trivial⟩))
    (Ev.conv (Ev.bin (Ev.list (Evs.cons (Ev.var (R := RB (firstB c1 c2))) Evs.nil)) (Ev.int 3 _ _) (op_list_mul [RB (firstB c1 c2)] 3 (by decide) (by decide) (by show 1 * 3 ≤ 2 ^ 24; decide))) (R' := RP (.list [.bool (firstB c1 c2), .bool (firstB c1 c2), .bool (firstB c1 c2)])) (le_list ⟨le_RB _, le_RB _, le_RB _, trivial⟩)) (op_ned ?_ ?_)).as ?_)
    fun _ => (Te.not (Te.plain (Ev.var (R := RB true)) (truth_bool true))).as rfl) rfl) rfl
  · cases b2 <;> cases b3 <;> cases b4 <;> decide
  · cases firstB c1 c2 <;> decide
  · rw [h2, h3, h4]; cases firstB c1 c2 <;> decide +kernel
end
end Mine
end
section
open PySem PySem.W PyProof.Rows PySem.SeqAt
set_option maxRecDepth 100000
set_option linter.unusedVariables false
set_option maxHeartbeats 1000000
namespace Mine
section
variable {prog : Program} {w : World} {K : View} {F : Fr} {c : Cfg}
theorem op_ne_sorted {ss tt : List Str} (hp : ss.Perm tt) (hs : ∀ x ∈ ss, PyData.strOk x = true) : Op2 prog w (F.ctx K c) (compareOp .NotEq) (RSrt ss) (RSrt tt) (RB false) := fun u v => by
  refine .mk fun g s ok hpat => ?_
  obtain ⟨⟨s1, p1, q1, r1⟩, ⟨s2, p2, q2, r2⟩⟩ := hpat
  have e : s1 = s2 := sorted_unique q1 q2 (p1.trans (hp.trans p2.symm))
  subst e
  have sh := shaped_strs s1 fun x hx => hs x (p1.mem_iff.mp hx)
  have h := op_ned (prog := prog) (w := w) (K := K) (F := F) (c := c) (a := .list (s1.map .str)) (b := .list (s1.map .str)) sh sh u v
  rw [eqv_self sh] at h
  exact h.run g s ok ⟨le_list (LeAll.map le_RS s1) g u r1, le_list (LeAll.map le_RS s1) g v r2⟩
end
section
variable {prog : Program} {w : World} {K : View} {pm cd doc : Value} {f : Addr} {A : Around} {g : View} {s : Shared}
noncomputable def rowD : Int × Str := (0, ⟨#[]⟩)
noncomputable def pairS (as : List (Int × Str)) : List (Str × Int) := as.map fun p => (p.2, 1)
noncomputable def tabS (as : List (Int × Str)) (z t : Nat) : List (Str × Int) := tabOf (pairS (sliceD as z t))
noncomputable def ρ19t (prog : Program) (w : World) (c0 c1 c2 c3 t : Nat) (b2 b3 b4 : Bool) : List (Str × Rel) := ("turn", RI (t : Int)) :: ρ17 prog w c0 c1 c2 c3 b2 b3 b4
noncomputable def ρ19j (prog : Program) (w : World) (c0 c1 c2 c3 t : Nat) (b2 b3 b4 : Bool) (T : List (Str × Int)) : List (Str × Rel) := ("table", RD (PySem.strKind prog w) (RIs T)) :: ρ19t prog w c0 c1 c2 c3 t b2 b3 b4
theorem law19t (L : LK prog w K) (c0 c1 c2 c3 z t : Nat) (b2 b3 b4 : Bool) (hz : z = 2 + c0 % 2) (ht : t * z + z ≤ 6) {F : Fr} (hF : ∃ G₁ H₁, F = (LF pm cd doc f A g s).inner G₁ H₁)
    (hsum : isum ((tabS (againL c0 c1 c2 c3) z t).map (·.2)) = (z : Int)) (hperm : firstB c1 c2 = true → ((tabS (againL c0 c1 c2 c3) z t).map (·.1)).Perm ((lettersL c0).take z |>.map fun ch => toS [ch]))
    (hok : ∀ x ∈ (tabS (againL c0 c1 c2 c3) z t).map (·.1), PyData.strOk x = true) {body : List Stmt} (hb : body = match lawSt 19 with | .For _ _ b _ _ => b | _ => []) :
    So prog w K F ⟨ρ19t prog w c0 c1 c2 c3 t b2 b3 b4, none⟩ (execs body F.env) (Nx K F ⟨ρ17 prog w c0 c1 c2 c3 b2 b3 b4, none⟩) := by
  obtain ⟨G₁, H₁, rfl⟩ := hF
  subst hb
  obtain ⟨fd, hfd⟩ := fnE_of L.ha
  obtain ⟨fd2, hfd2⟩ := fnE_of L.hc
  have hz3 : z ≤ 3 := by grind
  have hps : (pairS (sliceD (againL c0 c1 c2 c3) z t)).length = z := by
    unfold pairS sliceD; rw [List.length_map, List.length_take, List.length_drop, again_len]; lia
  have hsl : (sliceD (againL c0 c1 c2 c3) z t).length = z := by unfold sliceD; rw [List.length_take, List.length_drop, again_len]; lia
  have evz : ∀ {c : Cfg} {p : Pos}, look "size" c.ρ = some (RI (2 + c0 % 2 : Nat)) → Ev prog w (((LF pm cd doc f A g s).inner G₁ H₁).ctx K c) (.Name "size" p) (RI (z : Int)) := fun h => by rw [hz]; exact Ev.var h
  refine seq (s_assign (R := RD (PySem.strKind prog w) []) Ev.dict0 (.inl rfl)) ?_
  refine seq (c' := ⟨ρ19j prog w c0 c1 c2 c3 t b2 b3 b4 (tabS (againL c0 c1 c2 c3) z t), none⟩) (So.mono (s_forN (items := (sliceD (againL c0 c1 c2 c3) z t).map fun p => .one (RTold p)) (fun j => ⟨ρ19j prog w c0 c1 c2 c3 t b2 b3 b4 (tabOf ((pairS (sliceD (againL c0 c1 c2 c3) z t)).take j)), none⟩)
    (fun j => ⟨("letter", RS ((sliceD (againL c0 c1 c2 c3) z t).getD j rowD).2) :: ("count", RI ((sliceD (againL c0 c1 c2 c3) z t).getD j rowD).1) :: ρ19j prog w c0 c1 c2 c3 t b2 b3 b4 (tabOf ((pairS (sliceD (againL c0 c1 c2 c3) z t)).take j)), none⟩) ?_ ?_ rfl ?_) fun f s h => ?_) ?_
  · have e : (sliceD (againL c0 c1 c2 c3) z t).map (fun p => Item.one (RTold p)) = ((((againL c0 c1 c2 c3).map RTold).drop (t * z)).take (t * z + z - t * z)).map Item.one := by
      unfold sliceD; rw [Nat.add_sub_cancel_left, ← List.map_drop, ← List.map_take, List.map_map]; rfl
    rw [e]
    exact iter_list (Ev.between (a := t * z) (b := t * z + z) (i := (t : Int) * (z : Int)) (j := (t : Int) * (z : Int) + (z : Int)) (Ev.var (R := RL ((againL c0 c1 c2 c3).map RTold))) (by rw [List.length_map, again_len]; decide) (Ev.bin (Ev.var (R := RI (t : Int))) (evz rfl) (op_mul _ _ (small_mul' (by (exact Nat.le_trans (by assumption) (Nat.le_add_left _ _))))))
      (Ev.bin (Ev.bin (Ev.var (R := RI (t : Int))) (evz rfl) (op_mul _ _ (small_mul' (by omega)))) (evz rfl) (op_add _ _)) (by rw [Int.natCast_mul]) (by rw [Int.natCast_add, Int.natCast_mul]) (Nat.le_add_right _ _) (by rw [List.length_map, again_len]; exact ht))
  · repeat (first | exact trivial | refine ⟨⟨_, rfl, Le.refl _⟩, ?_⟩)
  · intro G H j i hj
    have hj' : j < z := by have := (List.getElem?_eq_some_iff.mp hj).1; rw [List.length_map, hsl] at this; exact this
    have hd := getD_some (l := sliceD (againL c0 c1 c2 c3) z t) (d := rowD) (k := j) (by simp_all)
    rw [List.getElem?_map, hd] at hj
    cases hj
    have hp : (pairS (sliceD (againL c0 c1 c2 c3) z t))[j]? = some (((sliceD (againL c0 c1 c2 c3) z t).getD j rowD).2, 1) := by unfold pairS; rw [List.getElem?_map, hd]; rfl
    refine ⟨AsI.one (As.tup (AsL.add (As.name (.inl rfl)) (AsL.add (As.name (.inl rfl)) (.nil _)))), last (So.mono (s_assign (R := RD (PySem.strKind prog w) (RIs (tabOf ((pairS (sliceD (againL c0 c1 c2 c3) z t)).take (j + 1))))) ?_ (.inl rfl)) fun f s ⟨e, g, h⟩ => ⟨e, g, h.to ?_ rfl⟩)⟩
    · rw [tabOf_take hp]
      have hlen := tabOf_le ((pairS (sliceD (againL c0 c1 c2 c3) z t)).take j)
      have hlen2 : ((pairS (sliceD (againL c0 c1 c2 c3) z t)).take j).length ≤ 6 := by rw [List.length_take]; grind
      refine Ev.callf (Ev.glob L.ga) hfd (Evs.cons (Ev.var (R := RD (PySem.strKind prog w) (RIs (tabOf ((pairS (sliceD (againL c0 c1 c2 c3) z t)).take j))))) (Evs.cons (R := RD (PySem.strKind prog w) (RIs [(((sliceD (againL c0 c1 c2 c3) z t).getD j rowD).2, (1 : Int))])) (ev_dict (knd := PySem.strKind prog w) (kvs := RIs [(((sliceD (againL c0 c1 c2 c3) z t).getD j rowD).2, (1 : Int))]) (EvPairs.cons ?_ ?_ EvPairs.nil)) Evs.nil)) (L.add (PySem.strKind prog w) _ _ (by simp only [List.length_cons, List.length_nil]; lia)) (by show 1 ≤ 5; decide)
      · exact (Ev.var (R := RS ((sliceD (againL c0 c1 c2 c3) z t).getD j rowD).2)).conv (str_le _)
      · exact Ev.int 1 _ _
    · repeat (first | exact trivial | refine ⟨⟨_, rfl, Le.refl _⟩, ?_⟩)
  · have e : ((sliceD (againL c0 c1 c2 c3) z t).map fun p => Item.one (RTold p)).length = (pairS (sliceD (againL c0 c1 c2 c3) z t)).length := by rw [List.length_map, hsl, hps]
    rw [e, List.take_length] at h
    exact h
  have hlen := tabOf_le (pairS (sliceD (againL c0 c1 c2 c3) z t))
  refine last (So.mono (s_skip (b := false) (Te.as (Te.or (c := false) (d := false) (Te.as (Te.cmp (Ev.callf (Ev.glob L.gc) hfd2 (Evs.cons (Ev.var (R := RD (PySem.strKind prog w) (RIs (tabS (againL c0 c1 c2 c3) z t)))) Evs.nil) (L.count (PySem.strKind prog w) _) (by show 1 ≤ 5; decide)) (evz rfl) (op_ne _ _)) ?_) fun _ =>
    Te.as (Te.and (c := firstB c1 c2) (d := false) (Te.plain (Ev.var (R := RB (firstB c1 c2))) (truth_bool _)) fun hf => Te.cmp (Ev.callb (Ev.glob L.bsorted) (Evs.cons (Ev.var (R := RD (PySem.strKind prog w) (RIs (tabS (againL c0 c1 c2 c3) z t)))) Evs.nil) (bf_sorted_dict ?_))
      (Ev.callb (Ev.glob L.bsorted) (Evs.cons (Ev.as (R' := RL ((((lettersL c0).take z).map fun ch => toS [ch]).map RS)) (Ev.upto (b := z) (Ev.var (R := RL ((lettersL c0).map fun ch => LS [ch]))) (by rw [List.length_map, letters_len]; decide) (evz rfl) rfl (by rw [List.length_map, letters_len]; omega)) ?_) Evs.nil) (bf_sorted_strs _ ?_)) (op_ne_sorted ?_ ?_)) ?_) rfl) rfl) fun f s ⟨e, g, h⟩ => ⟨e, g, h.to ?_ rfl⟩)
  · rw [hsum]; simp
  · unfold RIs; rw [List.length_map]; unfold tabS; grind
  · rw [List.map_map, ← List.map_take]; rfl
  · rw [List.length_map, List.length_take]; grind
  · have e : (RIs (tabS (againL c0 c1 c2 c3) z t)).map (·.1) = (tabS (againL c0 c1 c2 c3) z t).map (·.1) := by unfold RIs; rw [List.map_map]; rfl
    rw [e]; exact hperm hf
  · have e : (RIs (tabS (againL c0 c1 c2 c3) z t)).map (·.1) = (tabS (againL c0 c1 c2 c3) z t).map (·.1) := by unfold RIs; rw [List.map_map]; rfl
    rw [e]; exact hok
  · exact Bool.and_false _
  · repeat (first | exact trivial | refine ⟨⟨_, rfl, Le.refl _⟩, ?_⟩)
end
end Mine
end
section
open PySem PySem.W PyProof.Rows PySem.SeqAt
set_option maxRecDepth 100000
set_option linter.unusedVariables false
set_option maxHeartbeats 1000000
namespace Mine
section
variable {prog : Program} {w : World} {K : View} {pm cd doc : Value} {f : Addr} {A : Around} {g : View} {s : Shared}
theorem size_bound : ∀ c < 2, ∀ t < 6 / (2 + c), t * (2 + c) + (2 + c) ≤ 6 := by decide
theorem size_six : ∀ c < 2, 6 / (2 + c) ≤ 6 := by decide
theorem law19 (L : LK prog w K) (c0 c1 c2 c3 : Nat) (b2 b3 b4 : Bool)
    (M : ∀ t < 6 / (2 + c0 % 2), isum ((tabS (againL c0 c1 c2 c3) (2 + c0 % 2) t).map (·.2)) = ((2 + c0 % 2 : Nat) : Int) ∧ (firstB c1 c2 = true → ((tabS (againL c0 c1 c2 c3) (2 + c0 % 2) t).map (·.1)).Perm ((lettersL c0).take (2 + c0 % 2) |>.map fun ch => toS [ch])) ∧
      ∀ x ∈ (tabS (againL c0 c1 c2 c3) (2 + c0 % 2) t).map (·.1), PyData.strOk x = true) :
    So prog w K (LF pm cd doc f A g s) ⟨ρ17 prog w c0 c1 c2 c3 b2 b3 b4, none⟩ (exec (lawSt 19) (LF pm cd doc f A g s).env) (Nx K (LF pm cd doc f A g s) ⟨ρ17 prog w c0 c1 c2 c3 b2 b3 b4, none⟩) := by
  have h2 : c0 % 2 < 2 := Nat.mod_lt _ (by decide)
  have hd := size_six _ h2
  refine s_forN (items := rangeItems 0 ((6 / (2 + c0 % 2) : Nat) : Int) 1) (fun _ => ⟨ρ17 prog w c0 c1 c2 c3 b2 b3 b4, none⟩) (fun t => ⟨ρ19t prog w c0 c1 c2 c3 t b2 b3 b4, none⟩)
    (iter_range (Ev.callt (Ev.glob L.trange) (Evs.cons (Ev.bin (Ev.int 6 _ _) (Ev.var (R := RI (2 + c0 % 2 : Nat))) (op_ndiv 6 (2 + c0 % 2) (by simp) (pylong_small (by rw [Int.natAbs_natCast]; grind)))) Evs.nil) (bf_range1 _)) (range_small _ hd)) ?_ rfl ?_
  · repeat (first | exact trivial | refine ⟨⟨_, rfl, Le.refl _⟩, ?_⟩)
  intro G H t j hj
  have ht : t < 6 / (2 + c0 % 2) := by have := (List.getElem?_eq_some_iff.mp hj).1; rw [range_len _ hd] at this; exact this
  rw [rangeItems_get0 hj]
  obtain ⟨m1, m2, m3⟩ := M t ht
  exact ⟨AsI.name (.inl rfl), law19t L c0 c1 c2 c3 (2 + c0 % 2) t b2 b3 b4 rfl (size_bound _ h2 t ht) ⟨G, H, rfl⟩ m1 m2 m3 rfl⟩
noncomputable def d1N (c3 : Nat) : Int := [1, -3].getD (c3 / 81 % 2) 0
noncomputable def d2N (c3 : Nat) : Int := [2, -1].getD (c3 / 162 % 2) 0
noncomputable def ρ20 (prog : Program) (w : World) (c0 c1 c2 c3 : Nat) : List (Str × Rel) := [("keys", RKeys (d1N c3) (d2N c3)), ("told", RL ((toldL c0 c1 c2 c3).map RTold))]
theorem law20 (c0 c1 c2 c3 : Nat) (b2 b3 b4 : Bool) :
    So prog w K (LF pm cd doc f A g s) ⟨ρ17 prog w c0 c1 c2 c3 b2 b3 b4, none⟩ (exec (lawSt 20) (LF pm cd doc f A g s).env) (Nx K (LF pm cd doc f A g s) ⟨ρ20 prog w c0 c1 c2 c3, none⟩) := by
  have e3 : ∀ {p1 p2 p3 : Pos} {k : Nat}, Ev prog w ((LF pm cd doc f A g s).ctx K ⟨ρ17 prog w c0 c1 c2 c3 b2 b3 b4, none⟩) (.Subscript (.Name "cells" p1) (.Constant (.int 3) k p2) p3) (RI (c3 : Int)) := Ev.itemL (Rs := [RI c0, RI c1, RI c2, RI c3]) (k := 3) (Ev.var (R := RCells c0 c1 c2 c3)) (Ev.int 3 _ _) (by decide) (by decide) rfl
  have m1 : c3 / 81 % 2 < 2 := Nat.mod_lt _ (by decide)
  have m2 : c3 / 162 % 2 < 2 := Nat.mod_lt _ (by decide)
  refine So.mono (s_assign (R := RKeys (d1N c3) (d2N c3)) (Ev.list (Evs.cons (Ev.tuple (Evs.cons (Ev.int 1 _ _) (Evs.cons (R := RI (d1N c3)) ?_ Evs.nil))) (Evs.cons (Ev.tuple (Evs.cons (Ev.int 0 _ _) (Evs.cons (R := RI (d2N c3)) ?_ Evs.nil))) Evs.nil))) (storesC rfl)) fun f s ⟨e, g, h⟩ => ⟨e, g, h.to ?_ rfl⟩
  · exact Ev.itemT (Rs := ([1, -3] : List Int).map RI) (k := ((c3 / 81 % 2 : Nat) : Int)) (Ev.tuple (Evs.cons (Ev.int 1 _ _) (Evs.cons (Ev.neg (Ev.int 3 _ _)) Evs.nil))) (Ev.bin (Ev.bin e3 (Ev.int 81 _ _) (op_ndiv c3 81 (by decide) (pylong_small (by decide)))) (Ev.int 2 _ _) (op_nmod _ 2 (by decide))) (by grind) (by grind) (idx_nat (map_getD (d := 0) RI m1))
  · exact Ev.itemT (Rs := ([2, -1] : List Int).map RI) (k := ((c3 / 162 % 2 : Nat) : Int)) (Ev.tuple (Evs.cons (Ev.int 2 _ _) (Evs.cons (Ev.neg (Ev.int 1 _ _)) Evs.nil))) (Ev.bin (Ev.bin e3 (Ev.int 162 _ _) (op_ndiv c3 162 (by decide) (pylong_small (by decide)))) (Ev.int 2 _ _) (op_nmod _ 2 (by decide))) (by grind) (by omega) (idx_nat (map_getD (d := 0) RI m2))
  · exact ⟨⟨_, rfl, Le.refl _⟩, ⟨_, rfl, Le.refl _⟩, trivial⟩
end
end Mine
end
section
open PySem PySem.W PyProof.Rows PySem.SeqAt
set_option maxRecDepth 100000
set_option linter.unusedVariables false
set_option maxHeartbeats 1000000
namespace Mine
section
variable {prog : Program} {w : World} {K : View} {pm cd doc : Value} {f : Addr} {A : Around} {g : View} {s : Shared} {P : Addr}
noncomputable def lamOf : Expr := match lawSt 21 with | .Assign _ (.Tuple [_, .Call _ _ [⟨_, e, _⟩] _] _ _) _ => e | _ => .Name "" ⟨0, 0, 0, 0⟩
noncomputable def lamArgs : Arguments := match lamOf with | .Lambda a _ _ _ => a | _ => ⟨[], [], none, [], [], none, []⟩
noncomputable def lamBody : Expr := match lamOf with | .Lambda _ b _ _ => b | _ => .Name "" ⟨0, 0, 0, 0⟩
noncomputable def lamScope : Scope := match lamOf with | .Lambda _ _ s _ => s | _ => default
noncomputable def rows6 (c0 c1 c2 c3 : Nat) : List (Int × Nat) := (lineL c1 c2).map fun (n : Int) => (n + ((c3 % 3 : Nat) : Int), (lettersL c0).getD (n - 1).toNat 0)
noncomputable def RRow (q : Int × Nat) : Rel := RT [RI q.1, LS [q.2]]
noncomputable def keyF (d1 d2 : Int) (q : Int × Nat) : Int × Int := ((q.2 : Int) * d1, q.1 * d2)
theorem told6 (c0 c1 c2 c3 : Nat) : ((toldL c0 c1 c2 c3).map RTold).take 6 = (rows6 c0 c1 c2 c3).map RRow := by
  unfold toldL rows6
  rw [List.map_append, List.take_append_of_le_length (by simp [lineL_len]), List.take_of_length_le (by simp [lineL_len]), List.map_map, List.map_map]
  rfl
theorem lam_key (L : LK prog w K) {A : Around} {f : Addr} {qual : Str} {cl : List (Str × Addr)} {g : View} {s : Shared} {d1 d2 : Int} {v : Value} {q : Int × Nat} {a : Addr} {kv : Value} (hh : A.handled = none) (hr : A.depth + 1 < recursionLimit) (hu : A.units + 100 + 4 < cLine) (hlim : s.heap.NoLimit) (hK : VLe K g) (hs : Sees g s.heap)
    (hlow : ∃ a o, 1 ≤ a ∧ s.heap.get? a = some o) (hf : LamAt g f qual lamArgs lamBody lamScope cl) (hv : (RRow q).r g v) (hcl : cl.lookup ("keys" : Str) = some a) (hc : s.heap.IsCell a (some kv)) (hkv : (RKeys d1 d2).r g kv) (h1 : Builtin.Int.intBits d1 ≤ 64) (h2 : Builtin.Int.intBits d2 ≤ 64) :
    wpAny (model prog w) A (call (.ref f) [v]) (Ends g s (RKp (keyF d1 d2 q)).r) NoE s := by
  refine lam_call (x := "row") (ρ := [("row", RRow q), ("keys", RKeys d1 d2)]) 0 hh hr hu hlim hK hs hlow hf (fun _ _ _ => rfl) rfl (by decide) rfl rfl rfl (fun y R e => ?_) (fun c' => ?_)
  · by_cases e1 : "row" = y
    · subst e1; rw [look_cons_self] at e; cases e; exact .inl ⟨rfl, hv⟩
    · rw [look_cons_ne _ _ e1] at e
      by_cases e2 : "keys" = y
      · subst e2; rw [look_cons_self] at e; cases e; exact .inr ⟨rfl, a, kv, hcl, hc, hkv⟩
      · rw [look_cons_ne _ _ e2] at e; cases e
  · refine Ev.tuple (Evs.cons (R := RI ((q.2 : Int) * d1)) ?_ (Evs.cons (R := RI (q.1 * d2)) ?_ Evs.nil))
    · exact Ev.bin (Ev.callb (Ev.glob L.bord) (Evs.cons (Ev.itemT (Rs := [RI q.1, LS [q.2]]) (k := 1) (Ev.var (R := RRow q)) (Ev.int 1 _ _) (by decide) (by decide) rfl) Evs.nil) (bf_ord q.2)) (Ev.itemT (Rs := [RI 1, RI d1]) (k := 1) (Ev.itemL (Rs := [RT [RI 1, RI d1], RT [RI 0, RI d2]]) (k := 0) (Ev.var (R := RKeys d1 d2)) (Ev.int 0 _ _) (by decide) (by decide) rfl) (Ev.int 1 _ _) (by decide) (by decide) rfl) (op_mul _ _ (IntMulOk.of_right h1))
    · exact Ev.bin (Ev.itemT (Rs := [RI q.1, LS [q.2]]) (k := 0) (Ev.var (R := RRow q)) (Ev.int 0 _ _) (by decide) (by decide) rfl) (Ev.itemT (Rs := [RI 0, RI d2]) (k := 1) (Ev.itemL (Rs := [RT [RI 1, RI d1], RT [RI 0, RI d2]]) (k := 1) (Ev.var (R := RKeys d1 d2)) (Ev.int 1 _ _) (by decide) (by decide) rfl) (Ev.int 1 _ _) (by decide) (by decide) rfl) (op_mul _ _ (IntMulOk.of_right h2))
theorem use_ev {F : Fr} {c : Cfg} {e : Expr} {R : Rel} {g : View} {s : Shared} {Q : Value → Shared → Prop} (h : Ev prog w (F.ctx K c) e R) (x : Fm K F c g s) (k : ∀ v g' s', Step g s g' s' → R.r g' v → Q v s') : wpAny (model prog w) F.A (eval e F.env) Q NoE s := by
  exact wp_of (h.run g s x trivial) fun v s' ⟨g', st, hr⟩ => k v g' s' st hr
noncomputable def ρ21 (prog : Program) (w : World) (C : Addr) (c0 c1 c2 c3 : Nat) (perm : Array Nat) : List (Str × Rel) :=
  [("comp", RCmp C (RKeys (d1N c3) (d2N c3))), ("plain", RL (perm.toList.map fun i => RRow ((rows6 c0 c1 c2 c3).getD i (0, 0)))), ("keys", RKeys (d1N c3) (d2N c3))]
theorem bits_d (c3 : Nat) : Builtin.Int.intBits (d1N c3) ≤ 64 ∧ Builtin.Int.intBits (d2N c3) ≤ 64 := by
  have h1 : c3 / 81 % 2 < 2 := Nat.mod_lt _ (by decide)
  have h2 : c3 / 162 % 2 < 2 := Nat.mod_lt _ (by decide)
  unfold d1N d2N
  constructor
  · match h : c3 / 81 % 2, h1 with
    | 0, _ => decide
    | 1, _ => decide
  · match h : c3 / 162 % 2, h2 with
    | 0, _ => decide
    | 1, _ => decide
theorem rows6_len (c0 c1 c2 c3 : Nat) : (rows6 c0 c1 c2 c3).length = 6 := by simp [rows6, lineL_len]
theorem law21 (L : LK prog w K) (T : LT K cd P) (c0 c1 c2 c3 : Nat) (perm : Array Nat)
    (hperm : evalT 6 (fun i j => lexlt (((rows6 c0 c1 c2 c3).map (keyF (d1N c3) (d2N c3))).getD i (0, 0)) (((rows6 c0 c1 c2 c3).map (keyF (d1N c3) (d2N c3))).getD j (0, 0))) (kas_sort 6) = some perm) (hin : ∀ i ∈ perm.toList, i < 6) (hsize : perm.size = 6)
    {g' : View} {s' : Shared} (x : Fm K ((LF pm cd doc f A g s).gh P) ⟨ρ20 prog w c0 c1 c2 c3, some (P, PvTab #[])⟩ g' s') (room : A.depth + 20 < recursionLimit) (units : A.units + 200 < cLine) :
    wpAny (model prog w) (LF pm cd doc f A g s).A (exec (lawSt 21) (LF pm cd doc f A g s).env) (fun fl s'' => fl = .next ∧ ∃ g'' ps', Fm K ((LF pm cd doc f A g s).gh P) ⟨ρ21 prog w L.C c0 c1 c2 c3 perm, some (P, PvTab ps')⟩ g'' s'') NoE s' := by
  have hl6 := rows6_len c0 c1 c2 c3
  have hA : (LF pm cd doc f A g s).A = ((LF pm cd doc f A g s).gh P).A := rfl
  refine Assign_Tuple_swapped (names := ["comp", "plain"]) (Tuple_ (args_cons (use_ev (F := (LF pm cd doc f A g s).gh P) (R := RCmp L.C (RKeys (d1N c3) (d2N c3))) ?comp x fun v1 g1 s1 st1 h1 => args_cons ?_ rfl) rfl)) rfl rfl
  case comp => exact ev_newcmp L.hC (Ev.glob L.gC) (Evs.cons (Ev.var (R := RKeys (d1N c3) (d2N c3))) Evs.nil) (by show 2 ≤ 5; decide)
  have x1 := x.up st1
  show wpAny _ _ (do callWith _ (← eval (.Name "sorted" _) (LF pm cd doc f A g s).env) [] (backTo _ (starEach _ (LF pm cd doc f A g s).env)) (backToKw _ (keywordEach _ (LF pm cd doc f A g s).env))) _ _ _
  refine wpAny_bind (use_ev (F := (LF pm cd doc f A g s).gh P) (R := RV (.builtin "sorted")) ?fn x1 fun fv g2 s2 st2 e2 => ?_)
  case fn => exact Ev.glob L.bsorted
  have e2 : fv = .builtin "sorted" := e2
  subst e2
  have x2 := x1.up st2
  refine callWith_kw (args_cons (use_ev (F := (LF pm cd doc f A g s).gh P) (R := RL ((rows6 c0 c1 c2 c3).map RRow)) ?sl x2 fun lv g3 s3 st3 h3 => args_nil ?_) rfl) rfl rfl rfl rfl
  case sl => exact Ev.as (Ev.upto (b := 6) (Ev.var (R := RL ((toldL c0 c1 c2 c3).map RTold))) (by simp [toldL, footL, lineL_len]) (Ev.int 6 _ _) rfl (by simp [toldL, footL, lineL_len])) (by rw [told6])
  obtain ⟨l, xs, e3, hl, hx⟩ := h3
  subst e3
  have x3 := x2.up st3
  refine kws_cons (wp_of (ev_lambda (F := (LF pm cd doc f A g s).gh P) (c := ⟨ρ20 prog w c0 c1 c2 c3, some (P, PvTab #[])⟩) (ps := #[]) (cd := cd) rfl T rfl rfl rfl trivial rfl x3) fun kv s4 ⟨lf, g4, ps', e4, x4, le4, hlam⟩ => kws_nil ?_)
  subst e4
  -- the cell of keys
  obtain ⟨m, hns, hvars⟩ := x4.vars
  obtain ⟨kv, hkv, hat⟩ := hvars "keys" (RKeys (d1N c3) (d2N c3)) rfl
  have hcell : ∃ a, ((LF pm cd doc f A g s).env.cells.lookup ("keys" : Str)) = some a ∧ s4.heap.IsCell a (some kv) := by
    rcases hat with ⟨k1, _⟩ | ⟨_, a, ha, _, hc⟩
    · have k2 : some NameKind.local = some NameKind.cell := k1.symm.trans (show (LF pm cd doc f A g s).env.kindOf ("keys" : Str) = some .cell from rfl)
      exact absurd k2 (by decide)
    · exact ⟨a, ha, hc⟩
  obtain ⟨a, ha, hc⟩ := hcell
  have hun : (LF pm cd doc f A g s).A.units ≤ A.units + 10 := by show A.units + 3 ≤ _; simp
  have hdp : (LF pm cd doc f A g s).A.depth ≤ A.depth + 2 := by show A.depth + 1 ≤ _; (exact Nat.le_succ _)
  show wpAny (model prog w) (LF pm cd doc f A g s).A (call (.builtin "sorted") [.ref l] [(Str.ofString "key", .ref lf)]) _ _ s4
  have sk := sorted_key (prog := prog) (w := w) (A := (LF pm cd doc f A g s).A) (Rf := RRow) (key := keyF (d1N c3) (d2N c3)) (ps := rows6 c0 c1 c2 c3) (d := (0, 0)) (f := lf) (perm := perm) x4.sees (hl.up le4) (hx.up le4) (by rw [hl6]; decide) (by rw [hl6]; decide)
    (fun g' s' v p hp st hv => lam_key L (a := a) (kv := kv) x4.fok.handled (by show (LF pm cd doc f A g s).A.depth + 1 < _; lia) (by show (LF pm cd doc f A g s).A.units + 1 + 1 + 100 + 4 < _; lia) ((x4.fok.lim.keeps x4.st.keep).keeps st.keep) (fun b o e => st.ext b o (x4.st.ext b o (x4.fok.base b o e))) st.sees
      (let ⟨b, o, h1, e⟩ := x4.fok.low; ⟨b, o, h1, st.keep _ _ (x4.st.keep _ _ e)⟩) (hlam.up st.ext) hv ha (hc.keeps st.keep) ((RKeys _ _).up st.ext hkv) (bits_d c3).1 (bits_d c3).2) (by rw [hl6]; exact hperm) (by rw [hl6]; exact hin) (by rw [hl6]; exact hsize)
  refine wp_of sk fun pv s5 hpat => ?_
  obtain ⟨g5, st5, h5⟩ := hpat
  have x5 := x4.up st5
  refine args_nil ?_
  have nt := newTuple_tr (prog := prog) (w := w) (X := ((LF pm cd doc f A g s).gh P).ctx K ⟨ρ20 prog w c0 c1 c2 c3, some (P, PvTab ps')⟩) (Rs := [RCmp L.C (RKeys (d1N c3) (d2N c3)), RL (perm.toList.map fun i => RRow ((rows6 c0 c1 c2 c3).getD i (0, 0)))]) (small_line (Nat.le_of_ble_eq_true rfl)) [v1, pv]
  refine wp_of (nt.run g5 s5 x5 ⟨Rel.up _ (((st2.ext.trans st3.ext).trans le4).trans st5.ext) h1, h5, trivial⟩) fun tv s6 hpat => ?_
  obtain ⟨g6, st6, ta, vs, e6, ht, hv⟩ := hpat
  subst e6
  obtain ⟨u1, u2, rfl, hu1, hu2⟩ := two_of hv
  have x6 := x5.up st6
  refine unpackItems_tuple (items := #[u1, u2]) x6.fok.handled (ht.isTup x6.sees) fun h' he => ?_
  have x7 := x6.up (Step.heap' x6.sees (kp_ext he))
  have run := AsR.run (prog := prog) (w := w) (F := (LF pm cd doc f A g s).gh P) (.cons _ "plain" (RL (perm.toList.map fun i => RRow ((rows6 c0 c1 c2 c3).getD i (0, 0)))) [("comp", RCmp L.C (RKeys (d1N c3) (d2N c3)))] _ (.inl rfl) (.cons _ "comp" _ [] _ (.inl rfl) (.nil _))) x7 (vs := [u2, u1]) ⟨hu2, hu1, trivial⟩
  refine wp_of run fun _ s8 x8 => ⟨rfl, g6, ps', x8.to ?_ rfl⟩
  exact ⟨⟨_, rfl, Le.refl _⟩, ⟨_, rfl, Le.refl _⟩, ⟨_, rfl, Le.refl _⟩, trivial⟩
end
end Mine
end
section
open PySem PySem.W PyProof.Rows PySem.SeqAt
set_option maxRecDepth 100000
set_option linter.unusedVariables false
set_option maxHeartbeats 1000000
namespace Mine
section
variable {prog : Program} {w : World} {K : View} {pm cd doc : Value} {f : Addr} {A : Around} {g : View} {s : Shared} {P : Addr}
noncomputable def absI (d : Int) : Int := if d < 0 then -d else d
/-- the size of the direction of the first place where two rows differ -/
noncomputable def apartV (d1 d2 : Int) (a b : Int × Nat) : Int := if a.2 = b.2 then (if a.1 = b.1 then 0 else absI d2) else absI d1
noncomputable def apartR (d1 d2 : Int) (a b : Int × Nat) : List (Option Rel) := [if a.2 = b.2 then none else some (RI (absI d1)), if a.1 = b.1 then none else some (RI (absI d2))]
theorem apart_head (d1 d2 : Int) (a b : Int × Nat) : ((apartR d1 d2 a b).filterMap id ++ [RI 0])[(0 : Int).toNat]? = some (RI (apartV d1 d2 a b)) := by
  unfold apartR apartV
  by_cases h1 : a.2 = b.2
  · by_cases h2 : a.1 = b.1
    · simp [h1, h2]
    · simp [h1, h2]
  · simp [h1]
noncomputable def ρ22 (C : Addr) (d1 d2 : Int) (pl : List (Int × Nat)) : List (Str × Rel) := [("comp", RCmp C (RKeys d1 d2)), ("plain", RL (pl.map RRow)), ("keys", RKeys d1 d2)]
noncomputable def ρ22i (C : Addr) (d1 d2 : Int) (pl : List (Int × Nat)) (i : Nat) : List (Str × Rel) := ("one", RRow (pl.getD i (0, 0))) :: ("place", RI (i : Int)) :: ρ22 C d1 d2 pl
noncomputable def ρ22j (C : Addr) (d1 d2 : Int) (pl : List (Int × Nat)) (i j : Nat) : List (Str × Rel) := ("two", RRow (pl.getD j (0, 0))) :: ("spot", RI (j : Int)) :: ρ22i C d1 d2 pl i
theorem beq_one (x y : Nat) : ((⟨#[x]⟩ : Str) != ⟨#[y]⟩) = !decide (x = y) := by
  by_cases h : x = y
  · subst h; simp
  · have : (⟨#[x]⟩ : Str) ≠ ⟨#[y]⟩ := fun e => by injection e with e; simp at e; exact h e
    rw [decide_eq_false h]
    exact bne_iff_ne.mpr this
theorem law22t (L : LK prog w K) (d1 d2 : Int) (pl : List (Int × Nat)) (i j : Nat) (pv : Option (Addr × Pv)) {F : Fr} (hF : ∃ G₁ H₁ G₂ H₂, F = (((LF pm cd doc f A g s).gh P).inner G₁ H₁).inner G₂ H₂)
    (hM : cmpV d1 d2 (pl.getD i (0, 0)).1 (pl.getD j (0, 0)).1 ⟨#[(pl.getD i (0, 0)).2]⟩ ⟨#[(pl.getD j (0, 0)).2]⟩ = if (i : Int) > (j : Int) then apartV d1 d2 (pl.getD i (0, 0)) (pl.getD j (0, 0)) else -apartV d1 d2 (pl.getD i (0, 0)) (pl.getD j (0, 0)))
    {body : List Stmt} (hb : body = match lawSt 22 with | .For _ _ [.For _ _ b _ _] _ _ => b | _ => []) :
    So prog w K F ⟨ρ22j L.C d1 d2 pl i j, pv⟩ (execs body F.env) (Nx K F ⟨ρ22i L.C d1 d2 pl i, pv⟩) := by
  obtain ⟨G₁, H₁, G₂, H₂, rfl⟩ := hF
  subst hb
  generalize ha : pl.getD i (0, 0) = a at *
  generalize hbb : pl.getD j (0, 0) = b at *
  have e1 : ρ22j L.C d1 d2 pl i j = (("two", RRow b) :: ("spot", RI (j : Int)) :: ("one", RRow a) :: ("place", RI (i : Int)) :: ρ22 L.C d1 d2 pl : List (Str × Rel)) := by unfold ρ22j ρ22i; rw [ha, hbb]
  have e2 : ρ22i L.C d1 d2 pl i = (("one", RRow a) :: ("place", RI (i : Int)) :: ρ22 L.C d1 d2 pl : List (Str × Rel)) := by unfold ρ22i; rw [ha]
  rw [e1, e2]
  let fr : List (Str × Rel) := [("one", RRow a), ("two", RRow b)]
  refine seq (s_assign (R := RL ((apartR d1 d2 a b).filterMap id ++ [RI 0])) (Ev.bin (Ev.listcomp fr (fun k => [("turn", RI (if k = 0 then d1 else d2)), ("key", RI (if k = 0 then 1 else 0)), ("one", RRow a), ("two", RRow b)]) (apartR d1 d2 a b)
    (iter_list (Ev.var (R := RKeys d1 d2))) rfl (by show 2 ≤ _; decide) ⟨rfl, by decide, rfl, by decide⟩ ?fr ?body) (Ev.list (Evs.cons (Ev.int 0 _ _) Evs.nil)) (op_list_add _ _ ?len)) (.inl rfl)) ?_
  case fr => exact ⟨⟨⟨_, rfl, Le.refl _⟩, .inl rfl, rfl, rfl⟩, ⟨⟨_, rfl, Le.refl _⟩, .inl rfl, rfl, rfl⟩, trivial⟩
  case len =>
    have := List.length_filterMap_le id (apartR d1 d2 a b)
    have h2 : (apartR d1 d2 a b).length = 2 := rfl
    simp only [List.length_cons, List.length_nil]
    lia
  case body =>
    intro C g' s' G H pv k jt hj
    have hk : k < 2 := (List.getElem?_eq_some_iff.mp hj).1
    match k, hk with
    | 0, _ =>
      have ej : jt = .one (RT [RI 1, RI d1]) := (Option.some.inj hj).symm
      subst ej
      refine ⟨AsI.one (As.tup (AsL.add (As.name (.inl rfl)) (AsL.add (As.name (.inl rfl)) (.nil _)))), ⟨⟨_, rfl, Le.refl _⟩, ⟨_, rfl, Le.refl _⟩, trivial⟩, Tst.one ((Te.cmp (Ev.itemT (Rs := [RI a.1, LS [a.2]]) (k := 1) (Ev.var (R := RRow a)) (Ev.var (R := RI 1)) (by decide) (by decide) rfl) (Ev.itemT (Rs := [RI b.1, LS [b.2]]) (k := 1) (Ev.var (R := RRow b)) (Ev.var (R := RI 1)) (by decide) (by decide) rfl) (op_ne_str ⟨#[a.2]⟩ ⟨#[b.2]⟩)).as ?_), fun _ R hR => ?_⟩
      · rw [beq_one]
        unfold kept apartR
        by_cases h : a.2 = b.2 <;> simp [h]
      · unfold apartR at hR
        by_cases h : a.2 = b.2
        · simp [h] at hR
        · simp [h] at hR
          subst hR
          exact Ev.callb (Ev.glob L.babs) (Evs.cons (Ev.var (R := RI d1)) Evs.nil) (bf_abs d1)
    | 1, _ =>
      have ej : jt = .one (RT [RI 0, RI d2]) := (Option.some.inj hj).symm
      subst ej
      refine ⟨AsI.one (As.tup (AsL.add (As.name (.inl rfl)) (AsL.add (As.name (.inl rfl)) (.nil _)))), ⟨⟨_, rfl, Le.refl _⟩, ⟨_, rfl, Le.refl _⟩, trivial⟩, Tst.one ((Te.cmp (Ev.itemT (Rs := [RI a.1, LS [a.2]]) (k := 0) (Ev.var (R := RRow a)) (Ev.var (R := RI 0)) (by decide) (by decide) rfl) (Ev.itemT (Rs := [RI b.1, LS [b.2]]) (k := 0) (Ev.var (R := RRow b)) (Ev.var (R := RI 0)) (by decide) (by decide) rfl) (op_ne a.1 b.1)).as ?_), fun _ R hR => ?_⟩
      · unfold kept apartR
        by_cases h : a.1 = b.1 <;> simp [h]
      · unfold apartR at hR
        by_cases h : a.1 = b.1
        · simp [h] at hR
        · simp [h] at hR
          subst hR
          exact Ev.callb (Ev.glob L.babs) (Evs.cons (Ev.var (R := RI d2)) Evs.nil) (bf_abs d2)
  obtain ⟨_, _, _, hcmp⟩ := L.hC.comp
  have hd := apart_head d1 d2 a b
  refine last (So.mono (s_skip (b := false) (Te.as (Te.cmp (ev_cmpcall L.hC (Ev.var (R := RCmp L.C (RKeys d1 d2))) (Evs.cons (Ev.var (R := RRow a)) (Evs.cons (Ev.var (R := RRow b)) Evs.nil)) (ct_cmp L.hC hcmp d1 d2 a.1 b.1 ⟨#[a.2]⟩ ⟨#[b.2]⟩) (by show 1 ≤ 5; decide))
    (Ev.ife (c := decide ((i : Int) > (j : Int))) (R := RI (if (i : Int) > (j : Int) then apartV d1 d2 a b else -apartV d1 d2 a b)) (Te.cmp (Ev.var (R := RI (i : Int))) (Ev.var (R := RI (j : Int))) (op_gt _ _)) (fun h => ?_) (fun h => ?_)) (op_ne _ _)) ?_) rfl) fun f s ⟨e, g, h⟩ => ⟨e, g, h.to ?_ rfl⟩)
  · rw [if_pos (of_decide_eq_true h)]
    exact Ev.itemL (k := 0) (Ev.var (R := RL ((apartR d1 d2 a b).filterMap id ++ [RI 0]))) (Ev.int 0 _ _) (by decide) (by decide) hd
  · rw [if_neg (of_decide_eq_false h)]
    exact Ev.neg (Ev.itemL (k := 0) (Ev.var (R := RL ((apartR d1 d2 a b).filterMap id ++ [RI 0]))) (Ev.int 0 _ _) (by decide) (by decide) hd)
  · rw [hM]; simp
  · exact ⟨⟨_, rfl, Le.refl _⟩, ⟨_, rfl, Le.refl _⟩, ⟨_, rfl, Le.refl _⟩, ⟨_, rfl, Le.refl _⟩, ⟨_, rfl, Le.refl _⟩, trivial⟩
theorem law22 (L : LK prog w K) (d1 d2 : Int) (pl : List (Int × Nat)) (hn : pl.length ≤ 1000) (pv : Option (Addr × Pv))
    (hM : ∀ i j, i < pl.length → j < pl.length → cmpV d1 d2 (pl.getD i (0, 0)).1 (pl.getD j (0, 0)).1 ⟨#[(pl.getD i (0, 0)).2]⟩ ⟨#[(pl.getD j (0, 0)).2]⟩ = if (i : Int) > (j : Int) then apartV d1 d2 (pl.getD i (0, 0)) (pl.getD j (0, 0)) else -apartV d1 d2 (pl.getD i (0, 0)) (pl.getD j (0, 0))) :
    So prog w K ((LF pm cd doc f A g s).gh P) ⟨ρ22 L.C d1 d2 pl, pv⟩ (exec (lawSt 22) (LF pm cd doc f A g s).env) (Nx K ((LF pm cd doc f A g s).gh P) ⟨ρ22 L.C d1 d2 pl, pv⟩) := by
  have hone : (LF pm cd doc f A g s).Stores "one" := storesC rfl
  have htwo : (LF pm cd doc f A g s).Stores "two" := storesC rfl
  refine s_forN (F := (LF pm cd doc f A g s).gh P) (items := enumItems (pl.map RRow)) (fun _ => ⟨ρ22 L.C d1 d2 pl, pv⟩) (fun i => ⟨ρ22i L.C d1 d2 pl i, pv⟩) (iter_enum (Rs := pl.map RRow) (Ev.glob L.tenum) (.inl (Ev.var (R := RL (pl.map RRow))))) ?_ rfl ?_
  · exact ⟨⟨_, rfl, Le.refl _⟩, ⟨_, rfl, Le.refl _⟩, ⟨_, rfl, Le.refl _⟩, trivial⟩
  intro G H i it hj
  have hi : i < pl.length := by have := (List.getElem?_eq_some_iff.mp hj).1; simpa [enumItems] using this
  obtain ⟨R, hR, rfl⟩ := enumItems_get' hj
  rw [map_getD (d := (0, 0)) RRow hi] at hR
  cases hR
  refine ⟨AsI.tup (AsL.add (As.name (.inl rfl)) (AsL.add (As.name hone) (.nil _))), ?_⟩
  refine last (So.mono (s_forN (F := ((LF pm cd doc f A g s).gh P).inner G H) (items := enumItems (pl.map RRow)) (fun _ => ⟨ρ22i L.C d1 d2 pl i, pv⟩) (fun j => ⟨ρ22j L.C d1 d2 pl i j, pv⟩) (iter_enum (Rs := pl.map RRow) (Ev.glob L.tenum) (.inl (Ev.var (R := RL (pl.map RRow))))) ?_ rfl ?_) fun f s ⟨e, g, h⟩ => ⟨e, g, h.to ?_ rfl⟩)
  · exact ⟨⟨_, rfl, Le.refl _⟩, ⟨_, rfl, Le.refl _⟩, ⟨_, rfl, Le.refl _⟩, ⟨_, rfl, Le.refl _⟩, ⟨_, rfl, Le.refl _⟩, trivial⟩
  · intro G₂ H₂ j it hj
    have hj' : j < pl.length := by have := (List.getElem?_eq_some_iff.mp hj).1; simpa [enumItems] using this
    obtain ⟨R, hR, rfl⟩ := enumItems_get' hj
    rw [map_getD (d := (0, 0)) RRow hj'] at hR
    cases hR
    exact ⟨AsI.tup (AsL.add (As.name (.inl rfl)) (AsL.add (As.name htwo) (.nil _))), law22t L d1 d2 pl i j pv ⟨G, H, G₂, H₂, rfl⟩ (hM i j hi hj') rfl⟩
  · exact ⟨⟨_, rfl, Le.refl _⟩, ⟨_, rfl, Le.refl _⟩, ⟨_, rfl, Le.refl _⟩, trivial⟩
end
end Mine
end
section
open PySem PySem.W PyProof.Rows PySem.SeqAt
set_option maxRecDepth 100000
set_option linter.unusedVariables false
set_option maxHeartbeats 1000000
namespace Mine
theorem sum_nonneg : ∀ (l : List Int), (∀ x ∈ l, 0 ≤ x) → 0 ≤ l.sum
  | [], _ => Int.le_refl _
  | a :: l, h => by
    have h1 := h a List.mem_cons_self
    have h2 := sum_nonneg l fun x hx => h x (List.mem_cons_of_mem _ hx)
    rw [List.sum_cons]; lia
theorem cell_nonneg (script : List Int) (p : Nat) (hp : p < 4) : 0 ≤ cellAt script p := by
  have h1 : 0 ≤ starts.getD p 0 := by
    match p, hp with
    | 0, _ => decide
    | 1, _ => decide
    | 2, _ => decide
    | 3, _ => decide
  have h2 := sum_nonneg ((List.range (spotN script.length p)).map fun i => (script.getD (p + i * 4) 0).fmod (10 ^ 9)) fun x hx => by
    obtain ⟨i, _, rfl⟩ := List.mem_map.mp hx
    rw [Int.fmod_eq_emod_of_nonneg _ (by decide)]
    exact Int.emod_nonneg _ (by decide)
  unfold cellAt
  omega
theorem cells_nat (script : List Int) : ∃ c0 c1 c2 c3 : Nat, cellsL script = [(c0 : Int), (c1 : Int), (c2 : Int), (c3 : Int)] := by
  obtain ⟨c0, e0⟩ := Int.eq_ofNat_of_zero_le (cell_nonneg script 0 (by decide))
  obtain ⟨c1, e1⟩ := Int.eq_ofNat_of_zero_le (cell_nonneg script 1 (by decide))
  obtain ⟨c2, e2⟩ := Int.eq_ofNat_of_zero_le (cell_nonneg script 2 (by decide))
  obtain ⟨c3, e3⟩ := Int.eq_ofNat_of_zero_le (cell_nonneg script 3 (by decide))
  refine ⟨c0, c1, c2, c3, ?_⟩
  show [cellAt script 0, cellAt script 1, cellAt script 2, cellAt script 3] = _
  rw [e0, e1, e2, e3]
/-- what plain mathematics must give -/
structure LawM (c0 c1 c2 c3 : Nat) where
  ms : Nat → List Nat
  rs : Nat → List Nat
  r : List Nat
  perm : Array Nat
  m4a : Txt.split (toS (textL c0)) (toS [13, 10]) = (rowsL c0).map toS
  m4b : (toS (textL c0)).length ≤ sizeLine
  m4c : (Builtin.Str.partsBetween (toS (textL c0)) (Builtin.Str.occurrences (toS (textL c0)) (toS [13, 10]) 0 (toS (textL c0)).length ((toS (textL c0)).length + 1)) 2).length ≤ sizeLine
  m5 : ∀ x ∈ (rowsL c0).map toS, PyData.strOk x = true
  m9a : Txt.join (toS [13, 10]) ((mailR c0 c1 c2).map toS) = toS (ms 0)
  m9b : JoinOk (toS [13, 10]) ((mailR c0 c1 c2).map toS) = true
  m10 : ∀ i < c3 % 3, Txt.replace (toS (ms i)) (toS [13, 10]) (toS (endW c3 (i + 1))) = toS (rs i) ∧ quoteL (rs i) = ms (i + 1) ∧ (ms i).length ≤ 100000 ∧ (rs i).length ≤ 1000000
  m11a : readR (toS (ms (c3 % 3))) = toldL c0 c1 c2 c3
  m11b : MailOk (toS (ms (c3 % 3)))
  m12 : ∀ p ∈ toldL c0 c1 c2 c3, PyData.strOk p.2 = true
  m13a : Txt.replace (toS (ms (c3 % 3))) (toS [13, 10]) (toS (endsL.getD (c3 / 27 % 3) [])) = toS r
  m13b : (ms (c3 % 3)).length ≤ 100000
  m13c : r.length ≤ 1000000
  m13d : MailOk (toS (quoteL r))
  m13e : (readR (toS (quoteL r))).take 6 = againL c0 c1 c2 c3
  m13f : 6 ≤ (readR (toS (quoteL r))).length ∧ (readR (toS (quoteL r))).length ≤ 1000
  m16 : ∀ k < 6, ∀ t < 6 / (k + 1), isum ((tabD (dotsL c1 c2 c3) (k + 1) t).map (·.2)) = (((k + 1) * (k + 1) : Nat) : Int) ∧ (tabD (dotsL c1 c2 c3) (k + 1) t).map (·.2) ≠ []
  m18a : sec0 (dotsL c1 c2 c3) 6 = firstB c1 c2
  m18b : thi0 (dotsL c1 c2 c3) 6 = firstB c1 c2
  m18c : fourB (dotsL c1 c2 c3) = firstB c1 c2
  m19 : ∀ t < 6 / (2 + c0 % 2), isum ((tabS (againL c0 c1 c2 c3) (2 + c0 % 2) t).map (·.2)) = ((2 + c0 % 2 : Nat) : Int) ∧ (firstB c1 c2 = true → ((tabS (againL c0 c1 c2 c3) (2 + c0 % 2) t).map (·.1)).Perm ((lettersL c0).take (2 + c0 % 2) |>.map fun ch => toS [ch])) ∧
      ∀ x ∈ (tabS (againL c0 c1 c2 c3) (2 + c0 % 2) t).map (·.1), PyData.strOk x = true
  m21a : evalT 6 (fun i j => lexlt (((rows6 c0 c1 c2 c3).map (keyF (d1N c3) (d2N c3))).getD i (0, 0)) (((rows6 c0 c1 c2 c3).map (keyF (d1N c3) (d2N c3))).getD j (0, 0))) (kas_sort 6) = some perm
  m21b : ∀ i ∈ perm.toList, i < 6
  m21c : perm.size = 6
  m22 : ∀ i j, i < 6 → j < 6 → cmpV (d1N c3) (d2N c3) ((perm.toList.map fun i => (rows6 c0 c1 c2 c3).getD i (0, 0)).getD i (0, 0)).1 ((perm.toList.map fun i => (rows6 c0 c1 c2 c3).getD i (0, 0)).getD j (0, 0)).1 ⟨#[((perm.toList.map fun i => (rows6 c0 c1 c2 c3).getD i (0, 0)).getD i (0, 0)).2]⟩ ⟨#[((perm.toList.map fun i => (rows6 c0 c1 c2 c3).getD i (0, 0)).getD j (0, 0)).2]⟩ =
      if (i : Int) > (j : Int) then apartV (d1N c3) (d2N c3) ((perm.toList.map fun i => (rows6 c0 c1 c2 c3).getD i (0, 0)).getD i (0, 0)) ((perm.toList.map fun i => (rows6 c0 c1 c2 c3).getD i (0, 0)).getD j (0, 0)) else -apartV (d1N c3) (d2N c3) ((perm.toList.map fun i => (rows6 c0 c1 c2 c3).getD i (0, 0)).getD i (0, 0)) ((perm.toList.map fun i => (rows6 c0 c1 c2 c3).getD i (0, 0)).getD j (0, 0))
section
variable {prog : Program} {w : World} {K : View} {F : Fr} {c c' : Cfg} {g : View} {s : Shared}
theorem goSo {st : Stmt} {rest : List Stmt} {q : Flow → Shared → Prop} (h : So prog w K F c (exec st F.env) (Nx K F c')) (x : Fm K F c g s) (k : ∀ g' s', Fm K F c' g' s' → wpAny (model prog w) F.A (execs rest F.env) q NoE s') : wpAny (model prog w) F.A (execs (st :: rest) F.env) q NoE s := by
  exact wpAny_execs_cons (wp_of (h.run g s x) fun f s' ⟨e, g', x'⟩ => by subst e; exact k g' s' x')
theorem So.t' {t : Sem Flow} {q : Flow → Shared → Prop} (h : So prog w K F c t q) : SoT prog w K F c t q := So.t h
end
section
variable {prog : Program} {w : World} {K : View} {pm cd doc : Value} {f : Addr} {A : Around} {g : View} {s : Shared} {P : Addr}
theorem body_is : bodyOf (stAt 21) = [lawSt 0, lawSt 1, lawSt 2, lawSt 3, lawSt 4, lawSt 5, lawSt 6, lawSt 7, lawSt 8, lawSt 9, lawSt 10, lawSt 11, lawSt 12, lawSt 13, lawSt 14, lawSt 15, lawSt 16, lawSt 17, lawSt 18, lawSt 19, lawSt 20, lawSt 21, lawSt 22, lawSt 23] := rfl
theorem use_evT {F : Fr} {c : Cfg} {e : Expr} {R : Rel} {g : View} {s : Shared} {Q : Value → Shared → Prop} (h : Ev prog w (F.ctx K c) e R) (x : Fm K F c g s) (k : ∀ v g' s', s.toks ≤ s'.toks → Step g s g' s' → R.r g' v → Q v s') : wpAny (model prog w) F.A (eval e F.env) Q NoE s := by
  exact wp_of (wp_toks1 (h.run g s x trivial)) fun v s' ⟨ht, g', st, hr⟩ => k v g' s' ht st hr
/-- law's first constant draws a token -/
theorem law1T (script : List Int) (c0 c1 c2 c3 : Nat) {g' : View} {s' : Shared} (x : Fm K (LF pm cd doc f A g s) ⟨ρ1 script c0 c1 c2 c3, none⟩ g' s') :
    wpAny (model prog w) (LF pm cd doc f A g s).A (exec (lawSt 1) (LF pm cd doc f A g s).env) (fun fl s'' => 1 ≤ s''.toks ∧ Nx K (LF pm cd doc f A g s) ⟨ρ2 script c0 c1 c2 c3, none⟩ fl s'') NoE s' := by
  refine Assign_Tuple (Tuple_ (args_cons (wpAny_BinOp (wpAny_Constant_int ?_)) rfl)) rfl rfl
  have x1 := x.up (Step.toks x.sees (s'.toks + 1))
  refine use_evT (F := LF pm cd doc f A g s) (c := ⟨ρ1 script c0 c1 c2 c3, none⟩) (R := RI ((c0 % 2 : Nat) : Int)) ?e1 x1 fun b g2 s2 t2 st2 hb => ?_
  case e1 => exact Ev.bin (Ev.itemL (Rs := [RI c0, RI c1, RI c2, RI c3]) (k := 0) (Ev.var (R := RCells c0 c1 c2 c3)) (Ev.int 0 _ _) (by decide) (by decide) rfl) (Ev.int 2 _ _) (op_nmod c0 2 (by decide))
  have x2 := x1.up st2
  have ha := op_add (prog := prog) (w := w) (X := (LF pm cd doc f A g s).ctx K ⟨ρ1 script c0 c1 c2 c3, none⟩) 2 ((c0 % 2 : Nat) : Int) (.int 2 s'.toks) b
  refine wp_of (wp_toks1 (ha.run g2 s2 x2 ⟨⟨_, rfl⟩, hb⟩)) fun v s3 hpat => ?_
  obtain ⟨t3, g3, st3, hv⟩ := hpat
  have x3 := x2.up st3
  refine args_cons (use_evT (F := LF pm cd doc f A g s) (c := ⟨ρ1 script c0 c1 c2 c3, none⟩) (R := RL (footL.map LS)) ?e2 x3 fun u g4 s4 t4 st4 hu => args_nil ?_) rfl
  case e2 => exact Ev.list (Evs.cons (Ev.str _ _ _) (Evs.cons (Ev.str _ _ _) (Evs.cons (Ev.str _ _ _) Evs.nil)))
  have x4 := x3.up st4
  have nt := newTuple_tr (prog := prog) (w := w) (X := (LF pm cd doc f A g s).ctx K ⟨ρ1 script c0 c1 c2 c3, none⟩) (Rs := [RI (2 + c0 % 2 : Nat), RL (footL.map LS)]) (small_line (Nat.le_of_ble_eq_true rfl)) [v, u]
  refine wp_of (wp_toks1 (nt.run g4 s4 x4 ⟨Rel.up _ st4.ext hv, hu, trivial⟩)) fun tv s5 hpat => ?_
  obtain ⟨t5, g5, st5, ht⟩ := hpat
  have x5 := x4.up st5
  have sz : (LF pm cd doc f A g s).Stores "size" := storesC rfl
  have as := As.tup (prog := prog) (w := w) (K := K) (F := LF pm cd doc f A g s) (Rs := [RI (2 + c0 % 2 : Nat), RL (footL.map LS)]) (c := ⟨ρ1 script c0 c1 c2 c3, none⟩) (c' := ⟨ρ2 script c0 c1 c2 c3, none⟩) (elts := [.Name "size" ⟨89, 4, 89, 8⟩, .Name "foot" ⟨89, 10, 89, 14⟩]) (k := 0) (pos := ⟨89, 4, 89, 14⟩) (AsL.add (c := ⟨ρ1 script c0 c1 c2 c3, none⟩) (As.name sz) (AsL.add (As.name (.inl rfl)) (.nil _)))
  refine wp_of (wp_toks1 (as tv g5 s5 x5 ht)) fun _ s6 ⟨t6, x6⟩ => ⟨?_, rfl, g5, x6⟩
  have t2 : s'.toks + 1 ≤ s2.toks := t2
  lia
theorem law_tail (L : LK prog w K) (T : LT K cd P) (c0 c1 c2 c3 : Nat) (m : LawM c0 c1 c2 c3) {g₁ : View} {s₁ : Shared} (y : Fm K ((LF pm cd doc f A g s).gh P) ⟨ρ20 prog w c0 c1 c2 c3, some (P, PvTab #[])⟩ g₁ s₁) (room : A.depth + 20 < recursionLimit) (units : A.units + 200 < cLine) {F : Fr} (hF : F = (LF pm cd doc f A g s).gh P) :
    wpAny (model prog w) F.A (execs [lawSt 21, lawSt 22, lawSt 23] F.env) (fun fl s' => ∃ g' ps, fl = .ret (.bool true) ∧ Step g { s with heap := s.heap.hide P } g' s' ∧ s'.heap.get? P = some (tabObj ps)) NoE s₁ := by
  have h21 : wpAny (model prog w) F.A (exec (lawSt 21) F.env) (fun fl s'' => fl = .next ∧ ∃ g'' ps', Fm K F ⟨ρ21 prog w L.C c0 c1 c2 c3 m.perm, some (P, PvTab ps')⟩ g'' s'') NoE s₁ := by
    rw [hF]; exact law21 L T c0 c1 c2 c3 m.perm m.m21a m.m21b m.m21c y room units
  refine wpAny_execs_cons (wp_of h21 fun fl s₂ hpat => ?_)
  obtain ⟨e, g₂, ps, y⟩ := hpat
  subst e
  have hpl : (m.perm.toList.map fun i => (rows6 c0 c1 c2 c3).getD i (0, 0)).length = 6 := by rw [List.length_map, Array.length_toList, m.m21c]
  have y : Fm K F ⟨ρ22 L.C (d1N c3) (d2N c3) (m.perm.toList.map fun i => (rows6 c0 c1 c2 c3).getD i (0, 0)), some (P, PvTab ps)⟩ g₂ s₂ := by
    unfold ρ22; rw [List.map_map]; exact y
  have h22 : So prog w K F ⟨ρ22 L.C (d1N c3) (d2N c3) (m.perm.toList.map fun i => (rows6 c0 c1 c2 c3).getD i (0, 0)), some (P, PvTab ps)⟩ (exec (lawSt 22) F.env) (Nx K F ⟨ρ22 L.C (d1N c3) (d2N c3) (m.perm.toList.map fun i => (rows6 c0 c1 c2 c3).getD i (0, 0)), some (P, PvTab ps)⟩) := by
    rw [hF]; exact law22 L (d1N c3) (d2N c3) (m.perm.toList.map fun i => (rows6 c0 c1 c2 c3).getD i (0, 0)) (by rw [hpl]; decide) (some (P, PvTab ps)) (by rw [hpl]; exact m.m22)
  refine goSo h22 y fun g₃ s₃ y => ?_
  refine wpAny_execs_cons (wpAny_Return_some (use_ev (R := RB true) (Ev.bool _ _ _) y fun v g₄ s₄ st₄ hv => ?_))
  have hv : v = .bool true := hv
  subst hv
  have y₄ := y.up st₄
  rw [hF] at y₄
  exact ⟨g₄, ps, rfl, y₄.st, (y₄.pv P _ rfl).1⟩
theorem law_mid (L : LK prog w K) (c0 c1 c2 c3 : Nat) (script : List Int) (m : LawM c0 c1 c2 c3) {q : Flow → Shared → Prop} (h : SoT prog w K (LF pm cd doc f A g s) ⟨ρ20 prog w c0 c1 c2 c3, none⟩ (execs [lawSt 21, lawSt 22, lawSt 23] (LF pm cd doc f A g s).env) q) :
    SoT prog w K (LF pm cd doc f A g s) ⟨ρ2 script c0 c1 c2 c3, none⟩ (execs [lawSt 2, lawSt 3, lawSt 4, lawSt 5, lawSt 6, lawSt 7, lawSt 8, lawSt 9, lawSt 10, lawSt 11, lawSt 12, lawSt 13, lawSt 14, lawSt 15, lawSt 16, lawSt 17, lawSt 18, lawSt 19, lawSt 20, lawSt 21, lawSt 22, lawSt 23] (LF pm cd doc f A g s).env) q := by
  refine seqT (law2 L script c0 c1 c2 c3).t' ?_
  refine seqT (law3 L script c0 c1 c2 c3).t' ?_
  refine seqT (law4 script c0 c1 c2 c3 m.m4a m.m4b m.m4c).t' ?_
  refine seqT (law5 L script c0 c1 c2 c3 m.m5).t' ?_
  refine seqT (law6 L script c0 c1 c2 c3).t' ?_
  refine seqT (law7 script c0 c1 c2 c3).t' ?_
  refine seqT (law8 L script c0 c1 c2 c3).t' ?_
  refine seqT (law9 script c0 c1 c2 c3 (m.ms 0) m.m9a m.m9b).t' ?_
  refine seqT (law10 L script c0 c1 c2 c3 m.ms m.rs m.m10) ?_
  refine seqT (law11 L script c0 c1 c2 c3 (m.ms (c3 % 3)) m.m11a m.m11b).t' ?_
  refine seqT (law12 L script c0 c1 c2 c3 (m.ms (c3 % 3)) m.m12).t' ?_
  refine seqT (law13 L script c0 c1 c2 c3 (m.ms (c3 % 3)) m.r m.m13a m.m13b m.m13c m.m13d m.m13e m.m13f) ?_
  refine seqT (law14 L script c0 c1 c2 c3 (m.ms (c3 % 3))).t' ?_
  refine seqT (law15 L c0 c1 c2 c3).t' ?_
  refine seqT (law16 L c0 c1 c2 c3 m.m16).t' ?_
  refine seqT (law17 L c0 c1 c2 c3 (sec0 (dotsL c1 c2 c3) 6) (thi0 (dotsL c1 c2 c3) 6)).t' ?_
  refine seqT (law18 L c0 c1 c2 c3 (sec0 (dotsL c1 c2 c3) 6) (thi0 (dotsL c1 c2 c3) 6) (fourB (dotsL c1 c2 c3)) m.m18a m.m18b m.m18c).t' ?_
  refine seqT (law19 L c0 c1 c2 c3 (sec0 (dotsL c1 c2 c3) 6) (thi0 (dotsL c1 c2 c3) 6) (fourB (dotsL c1 c2 c3)) m.m19).t' ?_
  exact seqT (law20 c0 c1 c2 c3 (sec0 (dotsL c1 c2 c3) 6) (thi0 (dotsL c1 c2 c3) 6) (fourB (dotsL c1 c2 c3))).t' h
theorem law_body (L : LK prog w K) (T : LT K cd P) (script : List Int) (hn : script.length ≤ 1000) (M : ∀ c0 c1 c2 c3 : Nat, LawM c0 c1 c2 c3) {g₁ : View} {s₁ : Shared} (x : Fm K (LF pm cd doc f A g s) ⟨[("script", RScript script)], none⟩ g₁ s₁) (hP : s.heap.get? P = some (tabObj #[])) (hgP : g P = none)
    (low : ∃ a o, 1 ≤ a ∧ a ≠ P ∧ s.heap.get? a = some o) (room : A.depth + 20 < recursionLimit) (units : A.units + 200 < cLine) :
    wpAny (model prog w) (LF pm cd doc f A g s).A (execs (bodyOf (stAt 21)) (LF pm cd doc f A g s).env) (fun fl s' => ∃ g' ps, fl = .ret (.bool true) ∧ Step g { s with heap := s.heap.hide P } g' s' ∧ s'.heap.get? P = some (tabObj ps)) NoE s₁ := by
  rw [body_is]
  obtain ⟨c0, c1, c2, c3, hc⟩ := cells_nat script
  have m := M c0 c1 c2 c3
  refine goSo (law0 L script hn) x fun g₁ s₁ x => ?_
  rw [hc] at x
  have x : Fm K (LF pm cd doc f A g s) ⟨ρ1 script c0 c1 c2 c3, none⟩ g₁ s₁ := x
  refine wpAny_execs_cons (wp_of (law1T script c0 c1 c2 c3 x) fun fl s₂ hpat => ?_)
  obtain ⟨ht, e, g₂, x⟩ := hpat
  subst e
  have hm := law_mid (pm := pm) (cd := cd) (doc := doc) (f := f) (A := A) (g := g) (s := s) L c0 c1 c2 c3 script m (q := fun fl s' => ∃ g' ps, fl = .ret (.bool true) ∧ Step g { s with heap := s.heap.hide P } g' s' ∧ s'.heap.get? P = some (tabObj ps)) (by
    refine .mk fun g₁ s₁ x ht => ?_
    have y := x.ghost (P := P) (ps := #[]) hP hgP rfl low
    exact law_tail (F := (LF pm cd doc f A g s).gh P) L T c0 c1 c2 c3 m y room units rfl)
  exact hm.run g₂ s₂ x ht
end
end Mine
end
section
open PySem PySem.W PyProof.Rows PySem.Calls
set_option maxRecDepth 100000
set_option linter.unusedVariables false
namespace Mine
/-! the top as far as the first eleven statements, by evaluation -/
noncomputable abbrev pw : Program := PySem.Challenge.pw_wz0020_01
noncomputable def recOf (st : Stmt) : DefRec := match st with
  | .FunctionDef n a b _ _ _ sc _ _ pos => { name := n, params := a, body := b, scope := sc, pos := pos }
  | _ => { name := "", params := default, body := [], scope := default, pos := default }
noncomputable def methOf (st : Stmt) : MethRec := match st with
  | .FunctionDef n a b _ _ _ sc _ _ pos => { name := n, params := a, body := b, scope := sc }
  | _ => { name := "", params := default, body := [], scope := default }
noncomputable def tcRec : ClsRec := { name := "TupleComp", base := none, body := [], statics := ["comp_select_list"], line := 0, meths := [methOf (clsSt 0), methOf (clsSt 1)] }
noncomputable def topEnv : Env := mainEnv pw 30 31
noncomputable def topCode : Code := .body (behindTheImports pw) topEnv
noncomputable def preSts : List Stmt := [stAt 1, stAt 2, stAt 3, stAt 4, stAt 5, stAt 6, stAt 7, stAt 8, stAt 9, stAt 10, stAt 11]
noncomputable def midSts : List Stmt := [stAt 12, stAt 13, stAt 14, stAt 15, stAt 16, stAt 17, stAt 18, stAt 19, stAt 20, stAt 21]
theorem behind_is : behindTheImports pw = preSts ++ midSts := by kernel_rfl
noncomputable abbrev p0 : Pos := ⟨0, 0, 0, 0⟩
noncomputable def annOf (s : Shared) : Option Value := s.heap.nsMap mainGlobals "__annotations__"
noncomputable def chainB (tb : String → Option Builtin) (w : World) (s0 : Shared) : Option (Shared × Thread × Flow × Shared × Code × Pos × Flow × Shared × Code × Pos) :=
  (topGo tb pw w s0.heap.objs.size (annOf s0) 12 s0 (topStub pw)).bind fun r1 =>
  (segRun tb pw w s0.heap.objs.size (annOf s0) 1 1 r1.1 (blockOf (behindTheImports pw) topEnv topCode p0 [topFrame p0])).bind fun r2 =>
  (segRun tb pw w s0.heap.objs.size (annOf s0) 1 562 r2.2.1 (piecesOf preSts topEnv topCode p0 [topFrame p0])).bind fun r3 =>
  some (r1.1, r1.2, r2.1, r2.2.1, r2.2.2.1, r2.2.2.2, r3.1, r3.2.1, r3.2.2.1, r3.2.2.2)
noncomputable def chain (tb : String → Option Builtin) (w : World) : Option (Shared × (Shared × Thread × Flow × Shared × Code × Pos × Flow × Shared × Code × Pos)) :=
  (fencedOpening tb pw w 3000).bind fun s0 => (chainB tb w s0).bind fun r => some (s0, r)
noncomputable def patOk (h : Heap) (name : Str) (code : Array Nat) : Bool := match h.nsMap mainGlobals name with
  | some (.ref p) => (match h.get? p with
    | some o => (match o.data with
      | .fields vs => o.cls == .type "re.Pattern" && o.dict.isNone && Builtin.Re.reRawNat (vs.getD 2 .none) == 0 && Builtin.Re.reRawNat (vs.getD 6 .none) == 0 && (match vs.getD 5 .none with
        | .ref cd => (match h.get? cd with
          | some co => (match co.data with
            | .seq items n => decide ((items.map Builtin.Re.reRawOf).map (·.toNat) = code)
            | _ => false)
          | none => false)
        | _ => false)
      | _ => false)
    | none => false)
  | _ => false
noncomputable def look1 (s0 s : Shared) : Bool := staticsOk (importedModules pw.main.body) s0.heap s.heap && namesBound pw s.heap && laidKept s0.heap s.heap && s.heap.accountedOkI (importedModules pw.main.body) && s.heap.isNs mainGlobals && s.heap.isNs builtinsNs && s.heap.isNs cStatics &&
  (s.heap.nsMap cStatics "sys.recursionlimit").isNone && (s.heap.nsMap cStatics sharingNotToldKey).isNone && patOk s.heap "_twin_re_1" code1 && patOk s.heap "_twin_re_2" code2 && s0.heap.isNs mainGlobals
noncomputable def look2 (s0 s : Shared) := (s0.heap.objs.size, s0.gens.size, s0.heap.nsMap mainGlobals "__annotations__", s.heap.objs.size, s.gens.size, s.heap.bltView)
noncomputable def look3 (s : Shared) := (s.heap.get? 4, s.heap.get? 29, s.heap.nsMap mainGlobals "__builtins__", s.heap.nsMap mainGlobals "CRLF", ([5, 6, 9, 10].map fun i => s.heap.shapeAt mainGlobals (recOf (stAt i)).name), s.heap.plainShapeAt tcRec)
noncomputable def val3 : Option Obj × Option Obj × Option Value × Option Value × List (Option FnShape) × Option PlainShape := (some { cls := .type "module", dict := some builtinsNs, data := .plain }, some { cls := .none, data := .fields #[.int 6 0, .int 0 0, .ref 47, .int 8 0, .int 0 0, .ref 54, .int 11 0, .int 0 0, .ref 61, .int 25 0, .int 0 0, .ref 89, .int 38 0, .int 0 0, .ref 96] },
  some (.ref 4), some (.str ⟨#[13, 10]⟩ 342), [5, 6, 9, 10].map fun i => some (recOf (stAt i)).shape, some tcRec.plainShape)
noncomputable def code30 (s : Shared) : Bool := match s.heap.get? 30 with
  | some o => (match o.data with
    | .fields vs => decide (vs.getD 11 .none = .ref 29) && (match vs.getD 18 .none, vs.getD 7 .none, vs.getD 9 .none, vs.getD 10 .none with
      | .str _ _, .int _ _, .bool _, .int _ _ => true
      | _, _, _, _ => false)
    | _ => false)
  | none => false
theorem chain_looks (w : World) : (chain treeTable w).map (fun r => (look1 r.1 r.2.2.2.2.2.2.2.2.1, code30 r.2.2.2.2.2.2.2.2.1, look2 r.1 r.2.2.2.2.2.2.2.2.1, look3 r.2.2.2.2.2.2.2.2.1, r.2.2.1, r.2.2.2.1, r.2.2.2.2.2.1, r.2.2.2.2.2.2.1, r.2.2.2.2.2.2.2.1, r.2.2.2.2.2.2.2.2.2)) =
    some (true, true, (28, 0, some (.ref 6), 98, 0, bltViewBooted), val3, ⟨denote treeTable topCode, topCode, p0, [topFrame p0]⟩, .next, topCode, p0, .next, topCode, ⟨43, 0, 43, 8⟩) := by
  kernel_rfl
end Mine
end
section
open PySem PySem.W PyProof.Rows PySem.Calls PySem.SeqAt
set_option maxRecDepth 100000
set_option linter.unusedVariables false
set_option maxHeartbeats 1000000
namespace Mine
section
variable {prog : Program} {w : World} {A : Around}
/-! long table displays of constants: int keys, str values -/
noncomputable def IntT (prog : Program) (w : World) (A : Around) (k : Sem Value) (i : Int) : Prop := ∀ (Q : Value → Shared → Prop) (E : Value → Shared → Prop) (s : Shared), Q (.int i s.toks) { s with toks := s.toks + 1 } → wpAny (model prog w) A k Q E s
noncomputable def StrT (prog : Program) (w : World) (A : Around) (k : Sem Value) (x : Str) : Prop := ∀ (Q : Value → Shared → Prop) (E : Value → Shared → Prop) (s : Shared), Q (.str x s.toks) { s with toks := s.toks + 1 } → wpAny (model prog w) A k Q E s
noncomputable def PairsOk (prog : Program) (w : World) (A : Around) : List (Sem Value × Sem Value) → List (Int × Str) → Prop
  | [], [] => True
  | (k, v) :: ps, (i, x) :: L => IntT prog w A k i ∧ StrT prog w A v x ∧ PairsOk prog w A ps L
  | _, _ => False
noncomputable def Vals : List (Int × Value) → List (Int × Str) → Prop
  | [], [] => True
  | (k, v) :: xs, (i, x) :: L => k = i ∧ (∃ t, v = .str x t) ∧ Vals xs L
  | _, _ => False
theorem Vals.keys : ∀ {xs : List (Int × Value)} {L : List (Int × Str)}, Vals xs L → xs.map (·.1) = L.map (·.1)
  | [], [], _ => rfl
  | (k, v) :: xs, (i, x) :: L, h => by rw [List.map_cons, List.map_cons, h.1, Vals.keys h.2.2]
  | [], _ :: _, h => h.elim
  | _ :: _, [], h => h.elim
theorem Vals.length {xs : List (Int × Value)} {L : List (Int × Str)} (h : Vals xs L) : xs.length = L.length := by have := congrArg List.length h.keys; simpa using this
theorem Vals.append : ∀ {xs ys : List (Int × Value)} {L M : List (Int × Str)}, Vals xs L → Vals ys M → Vals (xs ++ ys) (L ++ M)
  | [], _, [], _, _, h => h
  | (k, v) :: xs, _, (i, x) :: L, _, h, h' => ⟨h.1, h.2.1, Vals.append h.2.2 h'⟩
  | [], _, _ :: _, _, h, _ => h.elim
  | _ :: _, _, [], _, h, _ => h.elim
theorem PairsOk.length : ∀ {ps : List (Sem Value × Sem Value)} {L : List (Int × Str)}, PairsOk prog w A ps L → ps.length = L.length
  | [], [], _ => rfl
  | (k, v) :: ps, (i, x) :: L, h => by rw [List.length_cons, List.length_cons, PairsOk.length h.2.2]
  | [], _ :: _, h => h.elim
  | _ :: _, [], h => h.elim
theorem PairsOk.append : ∀ {xs ys : List (Sem Value × Sem Value)} {L M : List (Int × Str)}, PairsOk prog w A xs L → PairsOk prog w A ys M → PairsOk prog w A (xs ++ ys) (L ++ M)
  | [], _, [], _, _, h => h
  | (k, v) :: xs, _, (i, x) :: L, _, h, h' => ⟨h.1, h.2.1, PairsOk.append h.2.2 h'⟩
  | [], _, _ :: _, _, h, _ => h.elim
  | _ :: _, _, [], _, h, _ => h.elim
theorem stored_new {acc : List (Int × Value)} {k : Int} {v : Value} (h : k ∉ acc.map (·.1)) : stored acc k v = acc ++ [(k, v)] := by
  unfold stored
  rw [if_neg]
  rw [List.any_eq_true]
  rintro ⟨kv, hkv, he⟩
  exact h (List.mem_map.mpr ⟨kv, hkv, of_decide_eq_true he⟩)
theorem int_is (i : Int) (t : Tok) : (intKind prog w).is i (.int i t) = true := intKind_is prog w i t
theorem kp_same {d : Addr} {h h' : Heap} {s : Shared} (hs : Heap.SameBut d h h') (k : Kp s.heap h) (n : s.heap.get? d = none) : Kp s.heap h' := fun b o e => by
  have hb : b ≠ d := fun q => by subst q; rw [n] at e; cases e
  exact (hs.2 b hb).trans (k b o e)
theorem eval_pairs {E : Value → Shared → Prop} : ∀ {ps : List (Sem Value × Sem Value)} {L : List (Int × Str)} {s : Shared} {Q : List (Value × Value) → Shared → Prop}, PairsOk prog w A ps L →
    (∀ vs xs tk, Carries (intKind prog w) vs xs → Vals xs L → Q vs { s with toks := tk }) → wpAny (model prog w) A (evalPairs ps) Q E s
  | [], [], s, Q, _, h => evalPairs_nil (h [] [] s.toks trivial trivial)
  | (k, v) :: ps, (i, x) :: L, s, Q, ok, h => evalPairs_cons (ok.1 _ _ _ (ok.2.1 _ _ _ (eval_pairs ok.2.2 fun vs xs tk hc hv => h _ ((i, .str x (s.toks + 1)) :: xs) tk ⟨int_is i s.toks, rfl, hc⟩ ⟨rfl, ⟨_, rfl⟩, hv⟩)))
  | [], _ :: _, _, _, h, _ => h.elim
  | _ :: _, [], _, _, h, _ => h.elim
theorem subd_loop {E : Value → Shared → Prop} {d : Addr} : ∀ {ps : List (Sem Value × Sem Value)} {L : List (Int × Str)} {acc : List (Int × Value)} {s : Shared} {Q : PUnit → Shared → Prop}, PairsOk prog w A ps L → s.heap.DictOf (intKind prog w) d acc →
    (acc.map (·.1) ++ L.map (·.1)).Nodup → acc.length + L.length ≤ sizeLine →
    (∀ xs h' tk, Vals xs L → h'.DictOf (intKind prog w) d (acc ++ xs) → Heap.SameBut d s.heap h' → Q PUnit.unit { s with heap := h', toks := tk }) →
    wpAny (model prog w) A (forIn ps PUnit.unit fun (x : Sem Value × Sem Value) (_ : PUnit) => (do
        let kv ← x.1
        let vv ← holding [kv] x.2
        holding [kv, vv] (dictSet d kv vv)
        pure (ForInStep.yield PUnit.unit) : Sem (ForInStep PUnit))) Q E s
  | [], [], acc, s, Q, _, hd, _, _, h => by
    rw [List.forIn_nil]
    exact wpAny_pure (h [] s.heap s.toks trivial (by rw [List.append_nil]; exact hd) (Heap.SameBut.refl _ _))
  | (k, v) :: ps, (i, x) :: L, acc, s, Q, ok, hd, hn, hz, h => by
    rw [List.forIn_cons]
    rw [List.length_cons] at hz
    have hi : i ∉ acc.map (·.1) := fun q => (List.nodup_append.mp hn).2.2 i q i (by simp) rfl
    refine wpAny_bind (wpAny_bind (ok.1 _ _ _ (wpAny_bind (wpAny_holding (ok.2.1 _ _ _ (wpAny_bind (wpAny_holding (wpAny_dictSet_pairs (hsz := by (exact Nat.le_trans (Nat.le_add_right _ _) (by assumption))) (int_is i s.toks) hd fun h₁ hd₁ hs₁ => wpAny_pure ?_))))))))
    rw [stored_new hi] at hd₁
    refine subd_loop (acc := acc ++ [(i, .str x (s.toks + 1))]) ok.2.2 hd₁ (by simpa using hn) (by simp; lia) fun xs h' tk hv hd' hs' => ?_
    exact h ((i, .str x (s.toks + 1)) :: xs) h' tk ⟨rfl, ⟨_, rfl⟩, hv⟩ (by simpa using hd') (hs₁.trans hs')
  | [], _ :: _, _, _, _, h, _, _, _, _ => h.elim
  | _ :: _, [], _, _, _, h, _, _, _, _ => h.elim
theorem subd_any {E : Value → Shared → Prop} {ps : List (Sem Value × Sem Value)} {L : List (Int × Str)} {s : Shared} {Q : Addr → Shared → Prop} (ok : PairsOk prog w A ps L) (hn : (L.map (·.1)).Nodup) (hz : L.length ≤ 1000)
    (h : ∀ xs h' tk, Vals xs L → h'.DictOf (intKind prog w) s.heap.objs.size xs → Kp s.heap h' → Q s.heap.objs.size { s with heap := h', toks := tk }) : wpAny (model prog w) A (subDict ps) Q E s := by
  have hline : 1000 ≤ sizeLine := by rw [sizeLine_eq]; decide
  have n := get_size s.heap
  by_cases hl : ps.length ≤ 15
  · refine wpAny_subDict (knd := intKind prog w) hl (eval_pairs ok fun vs xs tk hc hv => ⟨xs, hc, Heap.DictOf.new _, fun h' hd hs => ?_⟩)
    have e : merged [] xs = xs := merged_nil_of_nodup xs (by rw [hv.keys]; exact hn)
    rw [e] at hd
    exact h xs h' _ hv hd (kp_same hs (kp_push _ _) n)
  · unfold subDict
    refine wpAny_bind (wpAny_alloc ?_)
    refine wpAny_bind (wpAny_holding ?_)
    rw [if_neg hl]
    refine wpAny_bind (wpAny_rule ?_)
    refine wpAny_bind ?_
    refine subd_loop (acc := []) ok (Heap.DictOf.new _) (by simpa using hn) (by simp; (exact Nat.le_trans (by assumption) (by assumption))) fun xs h' tk hv hd hs => wpAny_pure (wpAny_pure (h xs h' tk hv (by simpa using hd) (kp_same hs (kp_push _ _) n)))
theorem dictPut_pairs {E : Value → Shared → Prop} {s : Shared} {d : Addr} {kvs : List (Int × Value)} {k : Int} {key v : Value} {Q : Unit → Shared → Prop} (hkey : (intKind prog w).is k key = true) (hm : s.heap.DictOf (intKind prog w) d kvs)
    (hnot : k ∉ kvs.map (·.1)) (hQ : ∀ h', h'.DictOf (intKind prog w) d (kvs ++ [(k, v)]) → Heap.SameBut d s.heap h' → Q () { s with heap := h' }) (hsz : kvs.length ≤ sizeLine) :
    wpAny (model prog w) A (dictPut d ((intKind prog w).hash k) key v) Q E s := by
  obtain ⟨o, es, ep, ho, hc, hd, hk, hp, hn⟩ := hm
  have hes : es.size ≤ sizeLine := by have e1 := hp.length; have e2 : es.toList.length = es.size := by simp
                                      simp_all
  unfold dictPut
  refine wpAny_bind (wpAny_dictFind_of hkey ho hd hk ?_)
  have hidx : (es.findIdx? fun e => (intKind prog w).is k e.key) = kvs.findIdx? fun kv => decide (kv.1 = k) := by
    rw [← hp.findIdx k]; obtain ⟨l⟩ := es; simp
  have hi : (es.findIdx? fun e => (intKind prog w).is k e.key) = none := by
    rw [hidx, List.findIdx?_eq_none_iff]
    intro kv hkv
    exact decide_eq_false fun e => hnot (List.mem_map.mpr ⟨kv, hkv, e⟩)
  rw [hi]
  refine wpAny_updateDictKeys (hz := hes) ho hd (hQ _ ⟨_, _, ep + 1, Heap.get?_update_self _ ho (Obj.isFreed_of_dict (Obj.data_mapDictKeys hd _)),
      hc.mapDictKeys _, Obj.data_mapDictKeys hd _, hk.push hkey _, ?_, ?_⟩ (Heap.SameBut.update ..))
  · have := hp.append hkey ((intKind prog w).hash k) v
    obtain ⟨l⟩ := es
    simpa using this
  · rw [List.map_append, List.nodup_append]
    refine ⟨hn, by simp, ?_⟩
    intro a ha b hb
    simp only [List.map_cons, List.map_nil, List.mem_singleton] at hb
    subst hb
    exact fun e => hnot (e ▸ ha)
end
end Mine
end
section
open PySem PySem.W PyProof.Rows PySem.Calls PySem.SeqAt
set_option maxRecDepth 100000
set_option linter.unusedVariables false
set_option maxHeartbeats 1000000
namespace Mine
section
variable {prog : Program} {w : World} {A : Around}
theorem merge_into {E : Value → Shared → Prop} {s : Shared} {d o : Addr} {kvs more : List (Int × Value)} {Q : Unit → Shared → Prop} (hdo : d ≠ o) (hoS : (o == sysModules) = false) (h0 : kvs ≠ [])
    (hd : s.heap.DictOf (intKind prog w) d kvs) (ho : s.heap.DictOf (intKind prog w) o more) (hn : (kvs.map (·.1) ++ more.map (·.1)).Nodup)
    (hQ : ∀ h', h'.DictOf (intKind prog w) d (kvs ++ more) → Heap.SameBut d s.heap h' → Q () { s with heap := h' }) (hsz : kvs.length + more.length ≤ sizeLine) :
    wpAny (model prog w) A (mergeMapping d (.ref o) false) Q E s := by
  obtain ⟨od, esd, epd, hod, hcd, hdd, hkd, hpd, hnd⟩ := id hd
  obtain ⟨oo, eso, epo, hoo, hco, hdo', hko, hpo, hno⟩ := id ho
  have hlen : more.length = eso.size := by rw [← hpo.length]; simp
  unfold mergeMapping
  refine wpAny_bind (wpAny_isInstance ho.typeIs isSubtype_dict_dict ?_)
  rw [if_pos rfl]
  refine wpAny_bind (wpAny_specialOf ho.typeIs F.slot_dict_iter.lookup ?_)
  refine wpAny_bind (wpAny_pure ?_)
  rw [show ((some (Value.builtin "dict.__iter__") : Option Value) == some (Value.builtin "dict.__iter__")) = true by simp]
  dsimp only
  rw [if_neg (by rw [hoS]; exact Bool.false_ne_true)]
  refine wpAny_bind (wpAny_dictEntries hod hdd ?_)
  have hne : ¬ esd.isEmpty = true := by
    intro hemp
    have e0 : esd = #[] := Array.isEmpty_iff.mp hemp
    have := hpd.length; rw [e0] at this
    exact h0 (List.length_eq_zero_iff.mp (by simpa using this.symm))
  rw [if_neg hne]
  refine wpAny_bind (wpAny_dictEntries hoo hdo' ?_)
  refine wpAny_bind (wpAny_dictEpoch hoo hdo' ?_)
  refine wpAny_bind ?_
  refine wpAny_forIn_list _
      (fun rest _ s' => ∃ h' i, s' = { s with heap := h' } ∧ rest = List.range' i (eso.size - i) ∧ i ≤ eso.size ∧ h'.DictOf (intKind prog w) d (kvs ++ more.take i) ∧ h'.get? o = some oo ∧ Heap.SameBut d s.heap h')
      _ ?_ ?_ _ _ ⟨s.heap, 0, rfl, by rw [List.range_eq_range']; rfl, Nat.zero_le _, by simpa using hd, hoo, Heap.SameBut.refl _ _⟩
  · rintro x rest b s' ⟨h', i, rfl, hr, hi, hd', hoo', hs'⟩
    have hlt : i < eso.size := by
      rcases Nat.lt_or_ge i eso.size with h | h
      · exact h
      · rw [Nat.sub_eq_zero_of_le h] at hr; simp at hr
    obtain ⟨rfl, hrest⟩ : x = i ∧ rest = List.range' (i + 1) (eso.size - (i + 1)) := by
      have e : eso.size - i = (eso.size - (i + 1)) + 1 := by grind
      rw [e, List.range'_succ] at hr
      injection hr with h1 h2
      exact ⟨h1, h2⟩
    refine wpAny_bind (wpAny_dictEntries hoo' hdo' ?_)
    rw [Array.getElem?_eq_getElem hlt]
    obtain ⟨kv, hkv⟩ : ∃ kv, more[x]? = some kv := ⟨more[x]'(by rw [hlen]; exact hlt), List.getElem?_eq_getElem _⟩
    obtain ⟨k, v⟩ := kv
    obtain ⟨hkey, hval⟩ := hpo.get? (e := eso[x]) (by simp [hlt]) hkv
    obtain ⟨k', hkey', hhash⟩ := hko eso[x] (Array.getElem_mem hlt)
    obtain rfl : k' = k := (intKind prog w).inj _ _ _ hkey' hkey
    dsimp only
    rw [if_neg Bool.false_ne_true, hhash, hval]
    have htake : more.take (x + 1) = more.take x ++ [(k', v)] := by rw [List.take_add_one, hkv]; rfl
    have hfresh : k' ∉ (kvs ++ more.take x).map (·.1) := by
      intro hm
      have hsub : (kvs.map (·.1) ++ (more.take (x + 1)).map (·.1)).Nodup :=
        List.Sublist.nodup (List.Sublist.append (List.Sublist.refl _) (List.Sublist.map _ (List.take_sublist _ _))) hn
      rw [htake, List.map_append, ← List.append_assoc, ← List.map_append] at hsub
      exact (List.nodup_append.mp hsub).2.2 k' hm k' (by simp) rfl
    have hmx : (kvs ++ more.take x).length ≤ sizeLine := by
      have e2 : (more.take x).length ≤ more.length := by rw [List.length_take]; simp_all
      rw [List.length_append]; grind
    refine wpAny_bind (wpAny_holding (dictPut_pairs hkey hd' hfresh (fun h'' hd'' hs'' => ?_) hmx))
    have hoo'' : h''.get? o = some oo := (hs''.2 o (Ne.symm hdo)).trans hoo'
    refine wpAny_bind (wpAny_dictEpoch hoo'' hdo' ?_)
    rw [if_neg (by simp)]
    exact wpAny_pure ⟨h'', x + 1, rfl, hrest, hlt, by rw [htake, ← List.append_assoc]; exact hd'', hoo'', hs'.trans hs''⟩
  · rintro b s' ⟨h', i, rfl, hr, hi, hd', hoo', hs'⟩
    have hin : i = eso.size := by
      rcases Nat.lt_or_ge i eso.size with h | h
      · have e : eso.size - i = (eso.size - (i + 1)) + 1 := by omega
        rw [e, List.range'_succ] at hr; exact nomatch hr
      · exact Nat.le_antisymm hi h
    refine wpAny_pure (hQ h' ?_ hs')
    rw [hin, ← hlen, List.take_length] at hd'; exact hd'
theorem none_ge {h : Heap} {d : Addr} (e : h.objs.size ≤ d) : h.get? d = none := by
  cases q : h.get? d with
  | none => rfl
  | some o => exact absurd (Heap.lt_size q) (Nat.not_lt.mpr e)
/-- a flush of the gathered pairs -/
theorem flush_ok {E : Value → Shared → Prop} {s₀ s : Shared} {ps : List (Sem Value × Sem Value)} {D L : List (Int × Str)} {main : Option Addr} {Q : Option Addr → Shared → Prop} (ok : PairsOk prog w A ps L) (hL : L.length ≤ 1000) (hn : (D.map (·.1) ++ L.map (·.1)).Nodup) (hDz : D.length ≤ 10000)
    (low : sysModules < s₀.heap.objs.size) (hk : Kp s₀.heap s.heap) (hsz : s₀.heap.objs.size ≤ s.heap.objs.size)
    (hm : (main = none ∧ D = []) ∨ ∃ d xs, main = some d ∧ D ≠ [] ∧ s₀.heap.objs.size ≤ d ∧ Vals xs D ∧ s.heap.DictOf (intKind prog w) d xs)
    (h : ∀ m h' tk, Kp s₀.heap h' → s₀.heap.objs.size ≤ h'.objs.size → ((m = none ∧ D ++ L = []) ∨ ∃ d xs, m = some d ∧ D ++ L ≠ [] ∧ s₀.heap.objs.size ≤ d ∧ Vals xs (D ++ L) ∧ h'.DictOf (intKind prog w) d xs) → Q m { s with heap := h', toks := tk }) :
    wpAny (model prog w) A (if ps.isEmpty = true then pure main
                    else
                      match (generalizing := false) main with
                      | none => do
                        let r ← subDict ps
                        pure (some r)
                      | some d => do
                        let sub ← holding [Value.ref d] (subDict ps)
                        (holding [Value.ref d, Value.ref sub] (mergeMapping d (Value.ref sub) false)).onRaise fun x => do
                            let _ ← holding [Value.ref d, x] (runValue (Code.builtin "proto.let_go" { }))
                            pure ()
                        pure (some d)) Q E s := by
  have hnL : (L.map (·.1)).Nodup := (List.nodup_append.mp hn).2.1
  have hline : 11000 ≤ sizeLine := by rw [sizeLine_eq]; decide
  by_cases he : ps = []
  · subst he
    rw [if_pos (show ([] : List (Sem Value × Sem Value)).isEmpty = true from rfl)]
    have hL0 : L = [] := List.length_eq_zero_iff.mp (by have := ok.length; simpa using this.symm)
    subst hL0
    rw [List.append_nil] at h
    refine wpAny_pure (h main s.heap s.toks hk hsz ?_)
    rcases hm with hm | ⟨d, xs, a, b, c, e⟩
    · exact .inl hm
    · exact .inr ⟨d, xs, a, b, c, e⟩
  · rw [if_neg (by cases ps with | nil => exact absurd rfl he | cons _ _ => exact Bool.false_ne_true)]
    have hL0 : L ≠ [] := fun e => by
      subst e
      exact he (List.length_eq_zero_iff.mp ok.length)
    have fresh : s₀.heap.objs.size ≤ s.heap.objs.size := hsz
    rcases hm with ⟨rfl, rfl⟩ | ⟨d, xs, rfl, hD, hd0, hv, hd⟩
    · dsimp only
      refine wpAny_bind (subd_any ok hnL hL fun xs h' tk hv hd k => wpAny_pure ?_)
      have hlt : s.heap.objs.size < h'.objs.size := by obtain ⟨o, _, _, e, _⟩ := hd; exact Heap.lt_size e
      exact h (some s.heap.objs.size) h' tk (hk.trans k) (by lia) (.inr ⟨_, xs, rfl, by simpa using hL0, fresh, by simpa using hv, hd⟩)
    · dsimp only
      refine wpAny_bind (wpAny_holding (subd_any ok hnL hL fun ys h' tk hw hd' k => ?_))
      have hdl : d < s.heap.objs.size := by obtain ⟨o, _, _, e, _⟩ := hd; exact Heap.lt_size e
      have hlt : s.heap.objs.size < h'.objs.size := by obtain ⟨o, _, _, e, _⟩ := hd'; exact Heap.lt_size e
      have hdk : h'.DictOf (intKind prog w) d xs := by obtain ⟨o, es, ep, e, r⟩ := hd; exact ⟨o, es, ep, k _ _ e, r⟩
      have hlx := hv.length
      have hly := hw.length
      refine wpAny_bind (wpAny_onRaise (wpAny_holding (merge_into (Nat.ne_of_lt hdl) (beq_eq_false_iff_ne.mpr (Nat.ne_of_gt (Nat.lt_of_lt_of_le low hsz))) ?_ hdk hd' (by rw [hv.keys, hw.keys]; exact hn) (fun h'' hd'' hs => wpAny_pure ?_) (by lia))))
      · intro e
        subst e
        exact hD (List.length_eq_zero_iff.mp (by simpa using hlx.symm))
      · refine h (some d) h'' tk (kp_same (s := s₀) hs (hk.trans k) (none_ge hd0)) (by rw [hs.1]; show s₀.heap.objs.size ≤ h'.objs.size; lia) (.inr ⟨d, xs ++ ys, rfl, fun e => hD (List.append_eq_nil_iff.mp e).1, hd0, hv.append hw, hd''⟩)
/-- a whole display -/
theorem display_ok {E : Value → Shared → Prop} {s : Shared} {ps : List (Sem Value × Sem Value)} {L : List (Int × Str)} {Q : Value → Shared → Prop} (ok : PairsOk prog w A ps L) (h0 : L ≠ []) (hL : L.length ≤ 10000) (hn : (L.map (·.1)).Nodup) (low : sysModules < s.heap.objs.size)
    (h : ∀ d xs h' tk, Kp s.heap h' → s.heap.objs.size ≤ d → Vals xs L → h'.DictOf (intKind prog w) d xs → Q (.ref d) { s with heap := h', toks := tk }) :
    wpAny (model prog w) A (dictDisplay (ps.map fun p => (some p.1, p.2))) Q E s := by
  unfold dictDisplay
  dsimp only
  refine wpAny_bind (wpAny_forIn_list _ (fun rest st s' => ∃ h' tk D G R gs rs, s' = { s with heap := h', toks := tk } ∧ L = D ++ (G ++ R) ∧ PairsOk prog w A gs G ∧ PairsOk prog w A rs R ∧ st.2 = gs ∧ gs.length < 17 ∧ rest = rs.map (fun p => (some p.1, p.2)) ∧ Kp s.heap h' ∧ s.heap.objs.size ≤ h'.objs.size ∧
      ((st.1 = none ∧ D = []) ∨ ∃ d xs, st.1 = some d ∧ D ≠ [] ∧ s.heap.objs.size ≤ d ∧ Vals xs D ∧ h'.DictOf (intKind prog w) d xs)) _ ?_ ?_ _ _ ⟨s.heap, s.toks, [], [], L, [], ps, rfl, by simp, trivial, ok, rfl, by decide, rfl, Kp.refl _, Nat.le_refl _, .inl ⟨rfl, rfl⟩⟩)
  · rintro x rest ⟨main, run⟩ s' ⟨h', tk, D, G, R, gs, rs, rfl, eL, okG, okR, rfl, hg, hr, hk, hsz, hm⟩
    cases rs with
    | nil => simp at hr
    | cons p rs =>
      obtain ⟨k, v⟩ := p
      cases R with
      | nil => exact okR.elim
      | cons p' R =>
      obtain ⟨i, y⟩ := p'
      rw [List.map_cons] at hr
      injection hr with hx hr
      subst hx
      dsimp only
      have okG' : PairsOk prog w A (run ++ [(k, v)]) (G ++ [(i, y)]) := okG.append ⟨okR.1, okR.2.1, trivial⟩
      have eL' : L = D ++ ((G ++ [(i, y)]) ++ R) := by rw [eL]; simp
      by_cases h17 : ((run ++ [(k, v)]).length == 17) = true
      · rw [if_pos h17]
        have hlen : (G ++ [(i, y)]).length = 17 := by rw [← okG'.length]; exact beq_iff_eq.mp h17
        have hn' : (D.map (·.1) ++ (G ++ [(i, y)]).map (·.1)).Nodup := by
          have : List.Sublist (D.map (·.1) ++ (G ++ [(i, y)]).map (·.1)) (L.map (·.1)) := by
            have hs := (List.sublist_append_left (D ++ (G ++ [(i, y)])) R).map (·.1)
            rw [List.append_assoc, ← eL'] at hs
            rw [← List.map_append]
            exact hs
          exact this.nodup hn
        have hDz : D.length ≤ 10000 := by have := congrArg List.length eL; rw [List.length_append] at this; lia
        refine wpAny_bind (flush_ok (s₀ := s) okG' (by simp_all) hn' hDz low hk hsz hm fun m h'' tk' hk' hsz' hm' => wpAny_pure ?_)
        exact ⟨h'', tk', D ++ (G ++ [(i, y)]), [], R, [], rs, rfl, by rw [eL']; simp, trivial, okR.2.2, rfl, by decide, hr, hk', hsz', hm'⟩
      · rw [if_neg h17]
        have hlen : (run ++ [(k, v)]).length ≠ 17 := fun e => h17 (beq_iff_eq.mpr e)
        exact wpAny_pure ⟨h', tk, D, G ++ [(i, y)], R, run ++ [(k, v)], rs, rfl, eL', okG', okR.2.2, rfl, by have hg : run.length < 17 := hg; simp at hlen ⊢; lia, hr, hk, hsz, hm⟩
  · rintro ⟨main, run⟩ s' ⟨h', tk, D, G, R, gs, rs, rfl, eL, okG, okR, rfl, hg, hr, hk, hsz, hm⟩
    have hrs : rs = [] := by cases rs with | nil => rfl | cons _ _ => simp at hr
    subst hrs
    have hR : R = [] := List.length_eq_zero_iff.mp okR.length.symm
    subst hR
    rw [List.append_nil] at eL
    have hDz : D.length ≤ 10000 := by have := congrArg List.length eL; rw [List.length_append] at this; lia
    dsimp only
    refine wpAny_bind (flush_ok (s₀ := s) okG (by rw [← okG.length]; lia) (by rw [← List.map_append, ← eL]; exact hn) hDz low hk hsz hm fun m h'' tk' hk' hsz' hm' => ?_)
    rcases hm' with ⟨_, e⟩ | ⟨d, xs, rfl, _, hd0, hv, hd⟩
    · exact absurd (eL.trans e) h0
    · exact wpAny_pure (h d xs h'' tk' hk' hd0 (eL ▸ hv) hd)
end
end Mine
end
section
open PySem PySem.W PyProof.Rows PySem.Calls PySem.SeqAt
set_option maxRecDepth 100000
set_option linter.unusedVariables false
set_option maxHeartbeats 1000000
namespace Mine
/-! the rest of the top: how a statement of the module goes -/
structure TI (mb : Str → Option Value) (s0 : Shared) (mg : Str → Option Value) (ps : Array Value) (g : View) (s : Shared) : Prop where
  same : ∃ h tk, s = { s0 with heap := h, toks := tk }
  keep : ∀ b o, b ≠ mainGlobals → b ≠ 29 → s0.heap.get? b = some o → s.heap.get? b = some o
  main : s.heap.Main mg 30 29 ps
  blt : s.heap.Ns builtinsNs mb
  sees : Sees g s.heap
  o3 : g mainGlobals = none
  o29 : g 29 = none
section
variable {w : World} {A : Around} {mb : Str → Option Value} {s0 : Shared} {mg : Str → Option Value} {ps : Array Value} {g : View} {s : Shared}
noncomputable def topCtx (A : Around) (mb mg : Str → Option Value) (ps : Array Value) : Ctx where
  A := A
  env := topEnv
  ok := fun g s => Sees g s.heap ∧ s.heap.Main mg 30 29 ps ∧ s.heap.Ns builtinsNs mb
  up := fun ⟨_, b, c⟩ st => ⟨st.sees, b.keeps st.keep, c.keeps st.keep⟩
  sees := fun h => h.1
theorem TI.ok (x : TI mb s0 mg ps g s) : (topCtx A mb mg ps).ok g s := ⟨x.sees, x.main, x.blt⟩
theorem TI.get3 (x : TI mb s0 mg ps g s) : ∃ o, s.heap.get? mainGlobals = some o := let ⟨o, _, _, e, _⟩ := x.main.g; ⟨o, e⟩
theorem TI.get29 (x : TI mb s0 mg ps g s) : ∃ o, s.heap.get? 29 = some o := by
  obtain ⟨_, _, _, _, _, _, _, _, _, op, _, _, _, _, _, _, _, b, _⟩ := x.main.code
  exact ⟨op, b⟩
theorem TI.up {g' : View} {s' : Shared} (x : TI mb s0 mg ps g s) (st : Step g s g' s') : TI mb s0 mg ps g' s' where
  same := by obtain ⟨h, t, rfl⟩ := x.same; obtain ⟨h', t', e⟩ := st.same; exact ⟨h', t', e⟩
  keep := fun b o h1 h2 e => st.keep _ _ (x.keep b o h1 h2 e)
  main := x.main.keeps st.keep
  blt := x.blt.keeps st.keep
  sees := st.sees
  o3 := by
    cases q : g' mainGlobals with
    | none => rfl
    | some o =>
      rcases st.new _ _ q with e | e
      · rw [x.o3] at e; cases e
      · obtain ⟨o', h⟩ := x.get3; rw [h] at e; cases e
  o29 := by
    cases q : g' 29 with
    | none => rfl
    | some o =>
      rcases st.new _ _ q with e | e
      · rw [x.o29] at e; cases e
      · obtain ⟨o', h⟩ := x.get29; rw [h] at e; cases e
noncomputable def upd (mg : Str → Option Value) (x : Str) (v : Value) : Str → Option Value := fun y => if y = x then some v else mg y
theorem TI.store {h' : Heap} {t : Nat} {x : Str} {v : Value} (y : TI mb s0 mg ps g s) (hx : x ≠ "__builtins__") (hn : h'.Ns mainGlobals (upd mg x v)) (hs : Heap.SameBut mainGlobals s.heap h') : TI mb s0 (upd mg x v) ps g { s with heap := h', toks := t } where
  same := by obtain ⟨h, t', rfl⟩ := y.same; exact ⟨h', t, rfl⟩
  keep := fun b o h1 h2 e => (hs.2 b h1).trans (y.keep b o h1 h2 e)
  main := by
    obtain ⟨bm, o, hbm, hne0, hneG, hneP, hbo, hrest⟩ := y.main.bmod
    exact ⟨hn, y.main.code.sameBut hs (Nat.ne_of_gt y.main.low.1) (Nat.ne_of_gt y.main.low.2), y.main.low, ⟨bm, o, by unfold upd; rw [if_neg (Ne.symm hx)]; exact hbm, hne0, hneG, hneP, (hs.2 _ hneG).trans hbo, hrest⟩⟩
  blt := y.blt.sameBut hs (by decide)
  sees := fun a o e => (hs.2 a fun q => by subst q; rw [y.o3] at e; cases e).trans (y.sees a o e)
  o3 := y.o3
  o29 := y.o29
theorem top_assign {x : Str} {p : Pos} {value : Expr} {pos : Pos} {R : Rel} (hv : Ev pw w (topCtx A mb mg ps) value R) (hx : x ≠ "__builtins__") (hl : topEnv.kindOf x = some .local) (y : TI mb s0 mg ps g s)
    (hs : swapsWith value (some (.Name x p)) pos.line topEnv = pure false) (hp : (topEnv.scope.kind == .class || (topEnv.scope.kind == .module && topEnv.locals != topEnv.globals)) = false) :
    wpAny (model pw w) A (exec (.Assign [.Name x p] value pos) topEnv) (fun f s' => f = .next ∧ ∃ v g', R.r g' v ∧ VLe g g' ∧ TI mb s0 (upd mg x v) ps g' s') NoE s := by
  refine wpAny_Assign_Name (wp_of (hv.run g s y.ok trivial) fun v s₁ ⟨g₁, st, hr⟩ => ?_) hs
  have y₁ := y.up st
  refine wpAny_storeName_local hl y₁.main.g (fun h' hn hsb => ?_) hp
  exact ⟨rfl, v, g₁, hr, st.ext, y₁.store hx hn hsb⟩
end
end Mine
end
section
open PySem PySem.W PyProof.Rows PySem.Calls PySem.SeqAt
set_option maxRecDepth 100000
set_option linter.unusedVariables false
set_option maxHeartbeats 1000000
namespace Mine
section
variable {w : World} {A : Around} {mb : Str → Option Value} {s0 : Shared} {mg : Str → Option Value} {ps : Array Value} {g : View} {s : Shared}
theorem kindTop : topEnv.scope.kind = .module := by kernel_rfl
theorem Ev.topB {x : Str} {pos : Pos} {v : Value} (h0 : mg x = Option.none) (h : mb x = some v) (hd : (x == ("__debug__" : Str)) = false := by decide) : Ev pw w (topCtx A mb mg ps) (.Name x pos) (RV v) := .mk fun g s ok _ => by
  obtain ⟨h1, h2, h3⟩ := ok
  exact Calls.Name_module kindTop rfl (Calls.loadGlobal_builtin h2.g h0 h3 h (ends_here h1 rfl)) hd
theorem Ev.calltX {X : Ctx} {fn : Expr} {args : List Expr} {pos : Pos} {T : String} {Rs : List Rel} {R : Rel} (hf : Ev pw w X fn (RV (.type T))) (ha : Evs pw w X pos args Rs) (hc : Bf pw w X (.type T) Rs R)
    (he : eval (.Call fn args [] pos) X.env = (do callWith pos (← eval fn X.env) [] (backTo pos (starEach args X.env)) (backToKw pos (keywordEach [] X.env))))
    (hs : ∃ e es, args = e :: es ∧ starEach (e :: es) X.env = (false, eval e X.env) :: starEach es X.env ∧ (backTo pos (starEach es X.env)).any (·.1) = false) :
    Ev pw w X (.Call fn args [] pos) R := .mk fun g s ok _ => by
  refine Call_ (wp_of (hf.run g s ok trivial) fun v s₁ ⟨g₁, st₁, e⟩ => ?_) he
  have e : v = .type T := e
  subst e
  obtain ⟨e, es, rfl, hs, hp⟩ := hs
  refine callWith_type1 ?_ hs hp
  exact wp_of (ha.run g₁ s₁ (Ctx.up _ ok st₁) trivial) fun vs s₂ ⟨g₂, st₂, hv⟩ => wp_of ((hc vs).run g₂ s₂ (Ctx.up _ (Ctx.up _ ok st₁) st₂) hv) fun u s₃ => ends_step (st₁.trans st₂)
theorem bf_list_range (hh : A.handled = none) {a b : Int} {n : Nat} (hsmall : Builtin.Range.small a b 1 = true) (hn : Builtin.Range.rangeSize a b 1 = n) (hlen : n ≤ 2 ^ 24) :
    Bf pw w (topCtx A mb mg ps) (.type "list") [RG a b 1] (RL ((List.range n).map fun i => RI (a + (i : Nat)))) := fun vs => .mk fun g s ok h => by
  obtain ⟨v, rfl, ⟨r, t, u, x, e, hr⟩⟩ := one_of h
  subst e
  refine call_list_range hh (show IsRange s.heap r a b 1 t u x from ok.1 _ _ hr) hsmall hn hlen fun h' tk acc' c' hk hS hacc => ?_
  have hs : Sees g s.heap := ok.1
  refine ⟨_, Step.push hs hk (get_size s.heap) hS, s.heap.objs.size, acc'.toList, rfl, ⟨c', ?_⟩, ?_⟩
  · rw [Array.toArray_toList]; exact View.add_self _ _ _
  · refine all2_of ?_ fun j v R hv hR => ?_
    · rw [Array.length_toList, hacc.1, List.length_map, List.length_range]
    · have hj : j < n := by
        have := List.getElem?_eq_some_iff.mp hR
        obtain ⟨h1, _⟩ := this
        simpa using h1
      rw [List.getElem?_map, List.getElem?_range hj] at hR
      simp only [Option.map_some, Option.some.injEq] at hR
      subst hR
      have hv' : acc'[j]? = some v := by simpa using hv
      obtain ⟨t', e⟩ := hacc.2 j v hv'
      exact ⟨t', by rw [e, Int.mul_one]⟩
theorem intsAre_of {g : View} : ∀ {ns : List Int} {vs : List Value}, All2 g (ns.map RI) vs → IntsAre vs ns
  | [], [], _ => .nil
  | n :: ns, v :: vs, ⟨⟨t, e⟩, h⟩ => by subst e; exact .cons n t (intsAre_of h)
  | [], _ :: _, h => h.elim
  | _ :: _, [], h => h.elim
theorem bf_set_list (hh : A.handled = none) {ns : List Int} (hb : ns.length + 1 < scanBound) :
    Bf pw w (topCtx A mb mg ps) (.type "set") [RL (ns.map RI)] (RSet pw w fun k => ns.any (· == k)) := fun vs => .mk fun g s ok h => by
  obtain ⟨v, rfl, ⟨l, xs, e, hl, hx⟩⟩ := one_of h
  subst e
  have hs : Sees g s.heap := ok.1
  have hxl : xs.length = ns.length := by have := hx.length; simpa using this
  refine PySem.call_set_list (items := xs.toArray) (ns := ns) hh (hl.isList hs) (by simpa using intsAre_of hx) (by simpa [hxl] using hb) fun h' tk hS hk => ?_
  obtain ⟨o, ho, hso⟩ := hS.objOf
  have hk' : Kp s.heap h' := fun b o e => hk b o (Heap.lt_size e) e
  refine ⟨_, Step.push hs hk' (get_size s.heap) ho, s.heap.objs.size, o, (firstMet (fun i => ns.getD i 0) xs.toArray.size).length, rfl, ?_, View.add_self _ _ _, ?_⟩
  · have := firstMet_length_le (fun i => ns.getD i 0) xs.toArray.size
    simp at this ⊢; lia
  · have eS : (fun k' => (firstMet (fun i => ns.getD i 0) xs.toArray.size).any (· == k')) = fun k => ns.any (· == k) := by
      funext k
      rw [firstMet_any, List.size_toArray, hxl]
      congr 1
      refine List.ext_getElem (by simp) fun i h1 h2 => ?_
      simp [h2]
    rw [eS] at hso
    exact hso
/-- a display of constants -/
noncomputable def keyInt? (e : Option Expr) : Option Int := match e with | some (.Constant (.int i) _ _) => some i | _ => Option.none
noncomputable def valStr? (e : Expr) : Option Str := match e with | .Constant (.str x) _ _ => some x | _ => Option.none
theorem keyInt_of {e : Option Expr} {i : Int} (h : keyInt? e = some i) : ∃ k p, e = some (.Constant (.int i) k p) := by
  unfold keyInt? at h
  split at h
  · cases h; exact ⟨_, _, rfl⟩
  · cases h
theorem valStr_of {e : Expr} {x : Str} (h : valStr? e = some x) : ∃ k p, e = .Constant (.str x) k p := by
  unfold valStr? at h
  split at h
  · cases h; exact ⟨_, _, rfl⟩
  · cases h
noncomputable def constPairs : List (Option Expr) → List Expr → Option (List (Int × Str))
  | [], [] => some []
  | k :: ks, v :: vs => (keyInt? k).bind fun i => (valStr? v).bind fun x => (constPairs ks vs).map fun l => (i, x) :: l
  | _, _ => Option.none
theorem pairs_of {env : Env} {pos : Pos} : ∀ {ks : List (Option Expr)} {vs : List Expr} {L : List (Int × Str)}, constPairs ks vs = some L →
    ∃ ps, (evalEachOpt ks env).zip ((evalEach vs env).map fun v => do let x ← v; standAt pos; pure x) = ps.map (fun p => (some p.1, p.2)) ∧ PairsOk pw w A ps L := by
  intro ks
  induction ks with
  | nil =>
    intro vs L h
    cases vs with
    | nil =>
      simp only [constPairs, Option.some.injEq] at h
      subst h
      exact ⟨[], rfl, trivial⟩
    | cons v vs => simp [constPairs] at h
  | cons k ks ih =>
    intro vs L h
    cases vs with
    | nil => simp [constPairs] at h
    | cons v vs =>
      simp only [constPairs] at h
      obtain ⟨i, hk, h⟩ := Option.bind_eq_some_iff.mp h
      obtain ⟨x, hv, h⟩ := Option.bind_eq_some_iff.mp h
      obtain ⟨l, hl, rfl⟩ := Option.map_eq_some_iff.mp h
      obtain ⟨k1, p1, rfl⟩ := keyInt_of hk
      obtain ⟨k2, p2, rfl⟩ := valStr_of hv
      obtain ⟨ps, e, ok⟩ := ih hl
      refine ⟨(eval (.Constant (.int i) k1 p1) env, do let x ← eval (.Constant (.str x) k2 p2) env; standAt pos; pure x) :: ps, ?_, ?_, ?_, ok⟩
      · rw [List.map_cons, ← e]; rfl
      · exact fun Q E s h => wpAny_Constant_int h
      · exact fun Q E s h => wpAny_bind (Calls.Constant_str (wpAny_bind (wpAny_standAt (wpAny_pure h))))
theorem vals_holds {g : View} : ∀ {xs : List (Int × Value)} {L : List (Int × Str)}, Vals xs L → Holds (intKind pw w) (L.map fun p => (p.1, RS p.2)) g xs
  | [], [], _ => ⟨rfl, trivial⟩
  | (k, v) :: xs, (i, x) :: L, ⟨e, ⟨t, ev⟩, h⟩ => by
    subst e ev
    have ih := vals_holds (g := g) h
    exact ⟨by simp [ih.1], ⟨t, rfl⟩, ih.2⟩
  | [], _ :: _, h => h.elim
  | _ :: _, [], h => h.elim
theorem Ev.display {ks : List (Option Expr)} {vs : List Expr} {L : List (Int × Str)} {pos : Pos} (h : constPairs ks vs = some L) (h0 : L ≠ []) (hL : L.length ≤ 10000) (hn : (L.map (·.1)).Nodup) :
    Ev pw w (topCtx A mb mg ps) (.Dict ks vs pos) (RD (intKind pw w) (L.map fun p => (p.1, RS p.2))) := .mk fun g s ok _ => by
  obtain ⟨ok1, ok2, ok3⟩ := ok
  obtain ⟨qs, e, okp⟩ := pairs_of (w := w) (A := A) (env := topEnv) (pos := pos) h
  have h3 : mainGlobals < s.heap.objs.size := ok2.g.lt
  show wpAny _ A (eval (.Dict ks vs pos) topEnv) _ _ _
  rw [arm_eval_Dict, e]
  refine wpAny_bind (wpAny_standAt (display_ok okp h0 hL hn (Nat.lt_of_le_of_lt (by decide) h3) fun d xs h' tk hk hd0 hv hd => ?_))
  obtain ⟨o, hl, hi⟩ := Heap.dictOf_iff.mp hd
  have hd1 : (d == sysModules) = false := beq_eq_false_iff_ne.mpr (Nat.ne_of_gt (Nat.lt_of_lt_of_le (Nat.lt_of_le_of_lt (by decide) h3) hd0))
  exact ⟨_, Step.push ok1 hk (none_ge hd0) hl, d, o, xs, rfl, hd1, View.add_self _ _ _, hi, vals_holds hv⟩
end
end Mine
end
section
open PySem PySem.W PyProof.Rows PySem.Calls PySem.SeqAt
set_option maxRecDepth 100000
set_option linter.unusedVariables false
set_option maxHeartbeats 1000000
namespace Mine
section
variable {w : World} {A : Around} {mb : Str → Option Value} {s0 : Shared} {mg : Str → Option Value} {ps : Array Value} {g : View} {s : Shared}
noncomputable def nmOf (st : Stmt) : Str := match st with | .FunctionDef n .. => n | _ => ""
noncomputable def parOf (st : Stmt) : Arguments := match st with | .FunctionDef _ a .. => a | _ => default
noncomputable def scOf (st : Stmt) : Scope := match st with | .FunctionDef _ _ _ _ _ _ sc _ _ _ => sc | _ => default
noncomputable def posOf (st : Stmt) : Pos := match st with | .FunctionDef _ _ _ _ _ _ _ _ _ p => p | _ => default
structure DefOk (i : Nat) : Prop where
  is : stAt i = .FunctionDef (nmOf (stAt i)) (parOf (stAt i)) (bodyOf (stAt i)) [] none [] (scOf (stAt i)) none (nmOf (stAt i)) (posOf (stAt i))
  kw : (parOf (stAt i)).kwonlyargs = []
  kd : (parOf (stAt i)).kw_defaults = []
  df : (parOf (stAt i)).defaults = []
  ann : annTrees (parOf (stAt i)) none (mainEnv pw 30 31) = []
  free : (scOf (stAt i)).names.all (fun x => x.2 != .free) = true
  loc : pw.main.scope.names.lookup (nmOf (stAt i)) = some .local
  q : qualnameIn { scope := pw.main.scope, locals := mainGlobals, globals := mainGlobals, cells := [] } (nmOf (stAt i)) (nmOf (stAt i)) = nmOf (stAt i)
  nb : ((nmOf (stAt i)) == ("__builtins__" : Str)) = false
noncomputable def psAdd (ps : Array Value) (i : Nat) (c' : Addr) : Array Value := ps ++ #[rawInt (posOf (stAt i)).line, rawInt (posOf (stAt i)).col, .ref c']
theorem fdOf_is {st : Stmt} {n q : Str} {p : Arguments} {b : List Stmt} {sc : Scope} {pos : Pos} {pm cd doc : Value} (h : st = .FunctionDef n p b [] none [] sc none n pos) : fdOf st q pm cd doc = defFd n q p b sc mainGlobals .none .none none pm cd doc := by
  subst h; rfl
theorem top_def {i : Nat} (d : DefOk i) (y : TI mb s0 mg ps g s) (hnf : codeAmong (posOf (stAt i)) ps.toList = none) :
    wpAny (model pw w) A (exec (stAt i) topEnv) (fun f s' => f = .next ∧ ∃ a c' pm doc g' P, VLe g g' ∧ TI mb s0 (upd mg (nmOf (stAt i)) (.ref a)) (psAdd ps i c') g' s' ∧ FnAt g' a (stAt i) (nmOf (stAt i)) pm (.ref c') doc ∧
      (∃ o, g' a = some o ∧ o.cls = .type "function") ∧ (∀ b o, g b = some o → b < s.heap.objs.size) ∧ s.heap.objs.size ≤ P ∧ s'.heap.IsCode c' P #[] ∧ s'.heap.TableAt c' P #[] ∧ g' P = none) NoE s := by
  have hex : exec (stAt i) topEnv = exec (.FunctionDef (nmOf (stAt i)) (parOf (stAt i)) (bodyOf (stAt i)) [] none [] (scOf (stAt i)) none (nmOf (stAt i)) (posOf (stAt i))) topEnv := congrArg (exec · topEnv) d.is
  rw [hex]
  have hfree : ∀ x ∈ (scOf (stAt i)).names, x.2 ≠ .free := fun x hx => by
    have := List.all_eq_true.mp d.free x hx
    simpa using this
  have hnb : nmOf (stAt i) ≠ ("__builtins__" : Str) := fun e => by
    have := d.nb; rw [e] at this; simp at this
  refine wpAny_defStmt0N (prog := pw) (c := 30) (F := 31) (Pl := 29) d.kw d.kd (by rw [d.df]; intro e he; cases he) d.ann hfree d.loc d.q y.main (fun a c' doc dV vs h' tk ha hm hfn hvs hdv hc htb hk => ?_) hnb kindTop hnf
  obtain ⟨P, hP, hic, htab⟩ := htb
  obtain ⟨hc1, cc, oc, fs, t, e, hoc, hfs, hq⟩ := hc
  have e : cc = c' := by cases e; rfl
  subst e
  rw [d.df] at hvs
  have hvs0 : vs = [] := by cases vs with | nil => rfl | cons _ _ => exact hvs.elim
  subst hvs0
  have hdV : dV = .none := by
    rcases hdv with ⟨_, e⟩ | ⟨hne, _⟩
    · exact e
    · exact absurd rfl hne
  subst hdV
  have lt3 : mainGlobals < s.heap.objs.size := y.main.g.lt
  have lt29 : 29 < s.heap.objs.size := y.main.code.lt.2
  have old : ∀ b o, g b = some o → b < s.heap.objs.size := fun b o e => Heap.lt_size (y.sees b o e)
  have gnew : ∀ b, s.heap.objs.size ≤ b → g b = none := fun b hb => by
    cases q : g b with
    | none => rfl
    | some o => exact absurd (old _ _ q) (Nat.not_lt.mpr hb)
  have hac : a ≠ cc := fun e => by subst e; rw [hfn] at hoc; cases hoc; cases hfs
  obtain ⟨_, hPt⟩ := htab
  have hPa : P ≠ a := fun e => by subst e; rw [hfn] at hPt; cases hPt
  have hPc : P ≠ cc := by
    obtain ⟨_, _, _, _, _, _, _, _, _, _, _, _, _, _, _, _, _, _, _, _, h⟩ := hic
    exact Ne.symm h
  obtain ⟨fo, hfo⟩ : ∃ fo : Obj, fo = { cls := .type "function", data := .func (defFd (nmOf (stAt i)) (nmOf (stAt i)) (parOf (stAt i)) (bodyOf (stAt i)) (scOf (stAt i)) mainGlobals .none .none none ((mg "__name__").getD .none) (.ref cc) doc) } := ⟨_, rfl⟩
  rw [← hfo] at hfn
  have ga : ((g.add a fo).add cc oc) a = some fo := by
    unfold View.add
    rw [if_neg hac, if_pos rfl]
  have off : ∀ b, b < s.heap.objs.size → (g.add a fo).add cc oc b = g b := fun b hb => by
    unfold View.add
    rw [if_neg (Nat.ne_of_lt (Nat.lt_of_lt_of_le hb hc1)), if_neg (Nat.ne_of_lt (Nat.lt_of_lt_of_le hb ha))]
  have le : VLe g ((g.add a fo).add cc oc) := fun b o e => by
    rw [off b (old _ _ e)]; exact e
  refine ⟨rfl, a, cc, (mg "__name__").getD .none, doc, _, P, le, ⟨?_, ?_, hm, ?_, ?_, ?_, ?_⟩, ⟨⟨_, ga, ?_, ?_⟩, cc, oc, fs, t, rfl, View.add_self _ _ _, hfs, hq⟩, ⟨_, ga, by rw [hfo]⟩, old, hP, hic, ⟨by assumption, hPt⟩, ?_⟩
  · obtain ⟨h, t', rfl⟩ := y.same; exact ⟨_, _, rfl⟩
  · exact fun b o h1 h2 e => hk b o h2 h1 (y.keep b o h1 h2 e)
  · obtain ⟨o, es, ep, e, r⟩ := y.blt
    exact ⟨o, es, ep, hk _ _ (by decide) (by decide) e, r⟩
  · intro b o e
    by_cases h1 : b = cc
    · subst h1
      have : View.add (g.add a fo) b oc b = some oc := View.add_self _ _ _
      rw [this] at e; cases e; exact hoc
    · by_cases h2 : b = a
      · subst h2
        rw [ga] at e; cases e; exact hfn
      · have e' : g b = some o := by
          unfold View.add at e
          rw [if_neg h1, if_neg h2] at e
          exact e
        exact hk b o (fun q => by subst q; rw [y.o29] at e'; cases e') (fun q => by subst q; rw [y.o3] at e'; cases e') (y.sees b o e')
  · exact (off _ lt3).trans y.o3
  · exact (off _ lt29).trans y.o29
  · rw [hfo]
    rw [fdOf_is d.is]
  · exact Nat.le_trans (Nat.succ_le_of_lt (Nat.lt_of_le_of_lt (Nat.zero_le _) lt29)) ha
  · unfold View.add
    rw [if_neg hPc, if_neg hPa]
    exact gnew P hP
end
end Mine
end
section
open PySem PySem.W PyProof.Rows PySem.Calls PySem.SeqAt
set_option maxRecDepth 100000
set_option linter.unusedVariables false
set_option maxHeartbeats 1000000
namespace Mine
section
variable {w : World} {A : Around} {mb : Str → Option Value} {s0 : Shared} {mg : Str → Option Value} {ps : Array Value} {g : View} {s : Shared}
noncomputable def asVal (st : Stmt) : Expr := match st with | .Assign _ v _ => v | _ => .Constant .none 0 default
noncomputable def asNm (st : Stmt) : Str := match st with | .Assign [.Name x _] _ _ => x | _ => ""
noncomputable def asNp (st : Stmt) : Pos := match st with | .Assign [.Name _ p] _ _ => p | _ => default
noncomputable def asPos (st : Stmt) : Pos := match st with | .Assign _ _ p => p | _ => default
structure AsOk (i : Nat) : Prop where
  is : stAt i = .Assign [.Name (asNm (stAt i)) (asNp (stAt i))] (asVal (stAt i)) (asPos (stAt i))
  nb : (asNm (stAt i) == ("__builtins__" : Str)) = false
  loc : topEnv.kindOf (asNm (stAt i)) = some .local
  sw : swapsWith (asVal (stAt i)) (some (.Name (asNm (stAt i)) (asNp (stAt i)))) (asPos (stAt i)).line topEnv = pure false
theorem top_as {i : Nat} {R : Rel} (d : AsOk i) (hv : Ev pw w (topCtx A mb mg ps) (asVal (stAt i)) R) (y : TI mb s0 mg ps g s) :
    wpAny (model pw w) A (exec (stAt i) topEnv) (fun f s' => f = .next ∧ ∃ v g', R.r g' v ∧ VLe g g' ∧ TI mb s0 (upd mg (asNm (stAt i)) v) ps g' s') NoE s := by
  have hex : exec (stAt i) topEnv = exec (.Assign [.Name (asNm (stAt i)) (asNp (stAt i))] (asVal (stAt i)) (asPos (stAt i))) topEnv := congrArg (exec · topEnv) d.is
  rw [hex]
  exact top_assign hv (fun e => by have := d.nb; rw [e] at this; simp at this) d.loc y d.sw (by rw [kindTop]; rfl)
theorem as12 : AsOk 12 := ⟨by kernel_rfl, by kernel_rfl, by kernel_rfl, by kernel_rfl⟩
theorem as14 : AsOk 14 := ⟨by kernel_rfl, by kernel_rfl, by kernel_rfl, by kernel_rfl⟩
theorem as16 : AsOk 16 := ⟨by kernel_rfl, by kernel_rfl, by kernel_rfl, by kernel_rfl⟩
theorem df13 : DefOk 13 := ⟨by kernel_rfl, by kernel_rfl, by kernel_rfl, by kernel_rfl, by kernel_rfl, by kernel_rfl, by kernel_rfl, by kernel_rfl, by kernel_rfl⟩
theorem df15 : DefOk 15 := ⟨by kernel_rfl, by kernel_rfl, by kernel_rfl, by kernel_rfl, by kernel_rfl, by kernel_rfl, by kernel_rfl, by kernel_rfl, by kernel_rfl⟩
theorem df17 : DefOk 17 := ⟨by kernel_rfl, by kernel_rfl, by kernel_rfl, by kernel_rfl, by kernel_rfl, by kernel_rfl, by kernel_rfl, by kernel_rfl, by kernel_rfl⟩
theorem df18 : DefOk 18 := ⟨by kernel_rfl, by kernel_rfl, by kernel_rfl, by kernel_rfl, by kernel_rfl, by kernel_rfl, by kernel_rfl, by kernel_rfl, by kernel_rfl⟩
theorem df19 : DefOk 19 := ⟨by kernel_rfl, by kernel_rfl, by kernel_rfl, by kernel_rfl, by kernel_rfl, by kernel_rfl, by kernel_rfl, by kernel_rfl, by kernel_rfl⟩
theorem df20 : DefOk 20 := ⟨by kernel_rfl, by kernel_rfl, by kernel_rfl, by kernel_rfl, by kernel_rfl, by kernel_rfl, by kernel_rfl, by kernel_rfl, by kernel_rfl⟩
theorem df21 : DefOk 21 := ⟨by kernel_rfl, by kernel_rfl, by kernel_rfl, by kernel_rfl, by kernel_rfl, by kernel_rfl, by kernel_rfl, by kernel_rfl, by kernel_rfl⟩
noncomputable def incr : List Int → Bool
  | a :: b :: l => decide (a < b) && incr (b :: l)
  | _ => true
theorem incr_lt : ∀ {a : Int} {l : List Int}, incr (a :: l) = true → ∀ x ∈ l, a < x
  | a, [], _, x, h => by cases h
  | a, b :: l, h, x, hx => by
    obtain ⟨h1, h2⟩ := Bool.and_eq_true_iff.mp h
    have h1 := of_decide_eq_true h1
    rcases List.mem_cons.mp hx with e | hx
    · rw [e]; exact h1
    · exact Int.lt_trans h1 (incr_lt h2 x hx)
theorem incr_tail {a : Int} {l : List Int} (h : incr (a :: l) = true) : incr l = true := by
  cases l with
  | nil => rfl
  | cons b l => exact (Bool.and_eq_true_iff.mp h).2
theorem incr_nodup : ∀ {l : List Int}, incr l = true → l.Nodup
  | [], _ => List.nodup_nil
  | a :: l, h => List.nodup_cons.mpr ⟨fun hm => absurd (incr_lt h a hm) (Int.lt_irrefl _), incr_nodup (incr_tail h)⟩
noncomputable def dKeys (e : Expr) : List (Option Expr) := match e with | .Dict ks _ _ => ks | _ => []
noncomputable def dVals (e : Expr) : List Expr := match e with | .Dict _ vs _ => vs | _ => []
noncomputable def dPos (e : Expr) : Pos := match e with | .Dict _ _ p => p | _ => default
theorem is14 : asVal (stAt 14) = .Dict (dKeys (asVal (stAt 14))) (dVals (asVal (stAt 14))) (dPos (asVal (stAt 14))) := by kernel_rfl
theorem pairs14 : constPairs (dKeys (asVal (stAt 14))) (dVals (asVal (stAt 14))) = some b3L := by kernel_rfl
theorem b3_ne : (b3L == []) = false := by kernel_rfl
theorem b3_le : Nat.ble b3L.length 10000 = true := by kernel_rfl
theorem b3_incr : incr (b3L.map (·.1)) = true := by kernel_rfl
theorem ev14 : Ev pw w (topCtx A mb mg ps) (asVal (stAt 14)) (RD (intKind pw w) b3R) := by
  have h := Ev.display (w := w) (A := A) (mb := mb) (mg := mg) (ps := ps) (pos := dPos (asVal (stAt 14))) pairs14 (fun e => by have := b3_ne; rw [e] at this; cases this) (Nat.le_of_ble_eq_true b3_le) (incr_nodup b3_incr)
  rw [← is14] at h
  exact h
theorem ev16 : Ev pw w (topCtx A mb mg ps) (asVal (stAt 16)) (RS "law_wz0020_01") := Ev.str _ _ _
theorem call_set (e : Expr) (p10 p1 : Pos) (env : Env) : eval (.Call (.Name "set" p1) [e] [] p10) env = (do callWith p10 (← eval (.Name "set" p1) env) [] (backTo p10 (starEach [e] env)) (backToKw p10 (keywordEach [] env))) := rfl
theorem call_list (e : Expr) (p10 p1 : Pos) (env : Env) : eval (.Call (.Name "list" p1) [e] [] p10) env = (do callWith p10 (← eval (.Name "list" p1) env) [] (backTo p10 (starEach [e] env)) (backToKw p10 (keywordEach [] env))) := rfl
theorem call_range (e e' : Expr) (p10 p1 : Pos) (env : Env) : eval (.Call (.Name "range" p1) [e, e'] [] p10) env = (do callWith p10 (← eval (.Name "range" p1) env) [] (backTo p10 (starEach [e, e'] env)) (backToKw p10 (keywordEach [] env))) := rfl
theorem star_bin (l : Expr) (op : Operator) (r : Expr) (p : Pos) (es : List Expr) (env : Env) : starEach (.BinOp l op r p :: es) env = (false, eval (.BinOp l op r p) env) :: starEach es env := rfl
theorem star_call (f : Expr) (as : List Expr) (ks : List Keyword) (p : Pos) (es : List Expr) (env : Env) : starEach (.Call f as ks p :: es) env = (false, eval (.Call f as ks p) env) :: starEach es env := rfl
theorem star_const (v : Const) (k : Nat) (p : Pos) (es : List Expr) (env : Env) : starEach (.Constant v k p :: es) env = (false, eval (.Constant v k p) env) :: starEach es env := rfl
theorem ev_set (hh : A.handled = none) (h1 : mg "set" = none) (k1 : mb "set" = some (.type "set")) {ns : List Int} {e : Expr} {p1 p10 : Pos} (hb : ns.length + 1 < scanBound) (he : Ev pw w (topCtx A mb mg ps) e (RL (ns.map RI)))
    (hs : starEach [e] topEnv = (false, eval e topEnv) :: starEach [] topEnv) : Ev pw w (topCtx A mb mg ps) (.Call (.Name "set" p1) [e] [] p10) (RSet pw w fun k => ns.any (· == k)) :=
  Ev.calltX (Rs := [RL (ns.map RI)]) (Ev.topB h1 k1) (Evs.cons he Evs.nil hs) (bf_set_list hh hb) (call_set _ _ _ _) ⟨_, _, rfl, hs, rfl⟩
theorem ev_list (hh : A.handled = none) (h1 : mg "list" = none) (k1 : mb "list" = some (.type "list")) {e : Expr} {p1 p10 : Pos} {a b : Int} {n : Nat} (hsmall : Builtin.Range.small a b 1 = true) (hn : Builtin.Range.rangeSize a b 1 = n) (hlen : n ≤ 2 ^ 24) (he : Ev pw w (topCtx A mb mg ps) e (RG a b 1))
    (hs : starEach [e] topEnv = (false, eval e topEnv) :: starEach [] topEnv) : Ev pw w (topCtx A mb mg ps) (.Call (.Name "list" p1) [e] [] p10) (RL ((List.range n).map fun i => RI (a + (i : Nat)))) :=
  Ev.calltX (Rs := [RG a b 1]) (Ev.topB h1 k1) (Evs.cons he Evs.nil hs) (bf_list_range hh hsmall hn hlen) (call_list _ _ _ _) ⟨_, _, rfl, hs, rfl⟩
theorem ev_range (h1 : mg "range" = none) (k1 : mb "range" = some (.type "range")) {a b : Int} {k5 k6 : Nat} {p1 p5 p6 p10 : Pos} : Ev pw w (topCtx A mb mg ps) (.Call (.Name "range" p1) [.Constant (.int a) k5 p5, .Constant (.int b) k6 p6] [] p10) (RG a b 1) :=
  Ev.calltX (Rs := [RI a, RI b]) (Ev.topB h1 k1) (Evs.cons (Ev.int _ _ _) (Evs.cons (Ev.int _ _ _) Evs.nil (star_const _ _ _ _ _)) (star_const _ _ _ _ _)) (bf_range2 _ _) (call_range _ _ _ _ _) ⟨_, _, rfl, star_const _ _ _ _ _, rfl⟩
theorem ev12 (hh : A.handled = none) (h1 : mg "set" = none) (h2 : mg "list" = none) (h3 : mg "range" = none) (k1 : mb "set" = some (.type "set")) (k2 : mb "list" = some (.type "list")) (k3 : mb "range" = some (.type "range")) :
    Ev pw w (topCtx A mb mg ps) (asVal (stAt 12)) (RSet pw w fun k => b1S.any (· == k)) := by
  obtain ⟨es, p1, p2, p3, p4, p5, p6, p7, p8, p9, p10, k5, k6, e⟩ : ∃ es p1 p2 p3 p4 p5 p6 p7 p8 p9 p10 k5 k6, asVal (stAt 12) = .Call (.Name "set" p1) [.BinOp (.List es p2) .Add (.Call (.Name "list" p3) [.Call (.Name "range" p4) [.Constant (.int 65024) k5 p5, .Constant (.int 65040) k6 p6] [] p7] [] p8) p9] [] p10 ∧
    ∃ q1 q2 q3 q4 q5 q6 q7 q8 q9 q10 q11, es = [.Constant (.int 173) 0 q1, .Constant (.int 847) 0 q2, .Constant (.int 6150) 0 q3, .Constant (.int 6155) 0 q4, .Constant (.int 6156) 0 q5, .Constant (.int 6157) 0 q6, .Constant (.int 8203) 0 q7, .Constant (.int 8204) 0 q8, .Constant (.int 8205) 0 q9, .Constant (.int 8288) 0 q10, .Constant (.int 65279) 0 q11] :=
    ⟨_, _, _, _, _, _, _, _, _, _, _, _, _, rfl, _, _, _, _, _, _, _, _, _, _, _, rfl⟩
  obtain ⟨e, q1, q2, q3, q4, q5, q6, q7, q8, q9, q10, q11, rfl⟩ := e
  rw [e]
  refine ev_set hh h1 k1 (ns := b1S) (by decide) ?_ (star_bin _ _ _ _ _ _)
  refine Ev.as (R := RL ([RI 173, RI 847, RI 6150, RI 6155, RI 6156, RI 6157, RI 8203, RI 8204, RI 8205, RI 8288, RI 65279] ++ (List.range 16).map fun (i : Nat) => RI (65024 + (i : Nat)))) ?_ (by simp [b1S, Function.comp_def])
  refine Ev.bin (Ev.list ?_) (ev_list hh h2 k2 (a := 65024) (b := 65040) (n := 16) (by decide) (by decide) (by decide) (ev_range h3 k3) (star_call _ _ _ _ _ _)) (op_list_add _ _ (by simp))
  iterate 11 refine Evs.cons (Ev.int _ _ _) ?_ (star_const _ _ _ _ _)
  exact Evs.nil
end
end Mine
end
section
open PySem PySem.W PyProof.Rows PySem.Calls PySem.SeqAt
set_option maxRecDepth 100000
set_option linter.unusedVariables false
set_option maxHeartbeats 1000000
namespace Mine
noncomputable def ps0 : Array Value := #[.int 6 0, .int 0 0, .ref 47, .int 8 0, .int 0 0, .ref 54, .int 11 0, .int 0 0, .ref 61, .int 25 0, .int 0 0, .ref 89, .int 38 0, .int 0 0, .ref 96]
/-- what the rest of the top has bound -/
structure TopR where
  vs : Value
  vd : Value
  vn : Value
  a13 : Addr
  a15 : Addr
  a17 : Addr
  a18 : Addr
  a19 : Addr
  a20 : Addr
  a21 : Addr
  cL : Addr
  P : Addr
  ps : Array Value
  g : View
noncomputable def TopR.mg (r : TopR) (mg : Str → Option Value) : Str → Option Value :=
  upd (upd (upd (upd (upd (upd (upd (upd (upd (upd mg "b1_set" r.vs) "in_table_b1" (.ref r.a13)) "b3_exceptions" r.vd) "map_table_b3" (.ref r.a15)) "__name__" r.vn) "_law_pile" (.ref r.a17)) "_law_riffle" (.ref r.a18)) "_law_read" (.ref r.a19)) "_law_ways" (.ref r.a20)) "law" (.ref r.a21)
structure OutR (w : World) (mb : Str → Option Value) (s0 : Shared) (mg : Str → Option Value) (g₀ : View) (r : TopR) (s' : Shared) : Prop where
  ti : TI mb s0 (r.mg mg) r.ps r.g s'
  le : VLe g₀ r.g
  rset : (RSet pw w fun k => b1S.any (· == k)).r r.g r.vs
  rtab : (RD (intKind pw w) b3R).r r.g r.vd
  h13 : ∃ pm cd doc, FnAt r.g r.a13 (stAt 13) "in_table_b1" pm cd doc
  h15 : ∃ pm cd doc, FnAt r.g r.a15 (stAt 15) "map_table_b3" pm cd doc
  h17 : ∃ pm cd doc, FnAt r.g r.a17 (stAt 17) "_law_pile" pm cd doc
  h18 : ∃ pm cd doc, FnAt r.g r.a18 (stAt 18) "_law_riffle" pm cd doc
  h19 : ∃ pm cd doc, FnAt r.g r.a19 (stAt 19) "_law_read" pm cd doc
  h20 : ∃ pm cd doc, FnAt r.g r.a20 (stAt 20) "_law_ways" pm cd doc
  h21 : ∃ pm doc, FnAt r.g r.a21 (stAt 21) "law" pm (.ref r.cL) doc
  cls : ∃ o, r.g r.a21 = some o ∧ o.cls = .type "function"
  code : s'.heap.IsCode r.cL r.P #[]
  tab : s'.heap.TableAt r.cL r.P #[]
  out : r.g r.P = none
  high : ∀ a o, s0.heap.get? a = some o → a < r.P
theorem FnAt.up {g g' : View} {a : Addr} {st : Stmt} {q : Str} {pm cd doc : Value} (k : VLe g g') (h : FnAt g a st q pm cd doc) : FnAt g' a st q pm cd doc := by
  obtain ⟨⟨o, e, d, l⟩, c, oc, fs, t, e1, e2, e3, e4⟩ := h
  exact ⟨⟨o, k _ _ e, d, l⟩, c, oc, fs, t, e1, k _ _ e2, e3, e4⟩
section
variable {w : World} {A : Around} {mb : Str → Option Value} {s0 : Shared} {mg : Str → Option Value} {ps : Array Value} {g : View} {s : Shared}
theorem nm12 : asNm (stAt 12) = "b1_set" := by kernel_rfl
theorem nm14 : asNm (stAt 14) = "b3_exceptions" := by kernel_rfl
theorem nm16 : asNm (stAt 16) = "__name__" := by kernel_rfl
theorem nm13 : nmOf (stAt 13) = "in_table_b1" := by kernel_rfl
theorem nm15 : nmOf (stAt 15) = "map_table_b3" := by kernel_rfl
theorem nm17 : nmOf (stAt 17) = "_law_pile" := by kernel_rfl
theorem nm18 : nmOf (stAt 18) = "_law_riffle" := by kernel_rfl
theorem nm19 : nmOf (stAt 19) = "_law_read" := by kernel_rfl
theorem nm20 : nmOf (stAt 20) = "_law_ways" := by kernel_rfl
theorem nm21 : nmOf (stAt 21) = "law" := by kernel_rfl
structure StepOk (w : World) (A : Around) (st : Stmt) (s : Shared) (q : Shared → Prop) : Prop where
  run : wpAny (model pw w) A (exec st topEnv) (fun f s' => f = .next ∧ q s') NoE s
structure RunOk (w : World) (A : Around) (l : List Stmt) (s : Shared) (q : Shared → Prop) : Prop where
  run : wpAny (model pw w) A (execs l topEnv) (fun f s' => q s') NoE s
theorem run_cons {st : Stmt} {l : List Stmt} {s : Shared} {q' q : Shared → Prop} (h : StepOk w A st s q') (k : ∀ s', q' s' → RunOk w A l s' q) : RunOk w A (st :: l) s q :=
  ⟨wpAny_execs_cons (wp_of h.run fun f s' ⟨e, h'⟩ => by subst e; exact (k s' h').run)⟩
theorem run_nil {s : Shared} {q : Shared → Prop} (h : q s) : RunOk w A [] s q := ⟨wpAny_execs_nil h⟩
theorem step_as {i : Nat} {R : Rel} (d : AsOk i) (hv : Ev pw w (topCtx A mb mg ps) (asVal (stAt i)) R) (y : TI mb s0 mg ps g s) :
    StepOk w A (stAt i) s fun s' => ∃ v g', R.r g' v ∧ VLe g g' ∧ TI mb s0 (upd mg (asNm (stAt i)) v) ps g' s' := ⟨top_as d hv y⟩
theorem step_def {i : Nat} (d : DefOk i) (y : TI mb s0 mg ps g s) (hnf : codeAmong (posOf (stAt i)) ps.toList = none) :
    StepOk w A (stAt i) s fun s' => ∃ a c' pm doc g' P, VLe g g' ∧ TI mb s0 (upd mg (nmOf (stAt i)) (.ref a)) (psAdd ps i c') g' s' ∧ FnAt g' a (stAt i) (nmOf (stAt i)) pm (.ref c') doc ∧
      (∃ o, g' a = some o ∧ o.cls = .type "function") ∧ (∀ b o, g b = some o → b < s.heap.objs.size) ∧ s.heap.objs.size ≤ P ∧ s'.heap.IsCode c' P #[] ∧ s'.heap.TableAt c' P #[] ∧ g' P = none := ⟨top_def d y hnf⟩
theorem top_mid (hh : A.handled = none) (h1 : mg "set" = none) (h2 : mg "list" = none) (h3 : mg "range" = none) (k1 : mb "set" = some (.type "set")) (k2 : mb "list" = some (.type "list")) (k3 : mb "range" = some (.type "range"))
    (x : TI mb s0 mg ps0 g s) :
    RunOk w A midSts s (fun s' => ∃ r, OutR w mb s0 mg g r s') := by
  unfold midSts
  refine run_cons (step_as as12 (ev12 hh h1 h2 h3 k1 k2 k3) x) fun s₁ hpat => ?_
  obtain ⟨v12, g₁, r12, l1, x⟩ := hpat
  rw [nm12] at x
  refine run_cons (step_def df13 x (by kernel_rfl)) fun s₂ hpat => ?_
  obtain ⟨a13, c13, pm13, doc13, g₂, P13, l2, x, f13, _⟩ := hpat
  rw [nm13] at x f13
  refine run_cons (step_as as14 ev14 x) fun s₃ hpat => ?_
  obtain ⟨v14, g₃, r14, l3, x⟩ := hpat
  rw [nm14] at x
  refine run_cons (step_def df15 x (by kernel_rfl)) fun s₄ hpat => ?_
  obtain ⟨a15, c15, pm15, doc15, g₄, P15, l4, x, f15, _⟩ := hpat
  rw [nm15] at x f15
  refine run_cons (step_as as16 ev16 x) fun s₅ hpat => ?_
  obtain ⟨v16, g₅, r16, l5, x⟩ := hpat
  rw [nm16] at x
  refine run_cons (step_def df17 x (by kernel_rfl)) fun s₆ hpat => ?_
  obtain ⟨a17, c17, pm17, doc17, g₆, P17, l6, x, f17, _⟩ := hpat
  rw [nm17] at x f17
  refine run_cons (step_def df18 x (by kernel_rfl)) fun s₇ hpat => ?_
  obtain ⟨a18, c18, pm18, doc18, g₇, P18, l7, x, f18, _⟩ := hpat
  rw [nm18] at x f18
  refine run_cons (step_def df19 x (by kernel_rfl)) fun s₈ hpat => ?_
  obtain ⟨a19, c19, pm19, doc19, g₈, P19, l8, x, f19, _⟩ := hpat
  rw [nm19] at x f19
  refine run_cons (step_def df20 x (by kernel_rfl)) fun s₉ hpat => ?_
  obtain ⟨a20, c20, pm20, doc20, g₉, P20, l9, x, f20, _⟩ := hpat
  rw [nm20] at x f20
  have hs9 : ∀ a o, s0.heap.get? a = some o → a < s₉.heap.objs.size := fun a o e => by
    by_cases h3 : a = mainGlobals
    · subst h3; exact x.main.g.lt
    · by_cases h29 : a = 29
      · subst h29; exact x.main.code.lt.2
      · exact Heap.lt_size (x.keep _ _ h3 h29 e)
  refine run_cons (step_def df21 x (by kernel_rfl)) fun s₁₀ hpat => ?_
  obtain ⟨a21, c21, pm21, doc21, g₁₀, P21, l10, x, f21, fc, _, hP, hic, htab, hout⟩ := hpat
  rw [nm21] at x f21
  have L9 := l10
  have L8 := l9.trans L9
  have L7 := l8.trans L8
  have L6 := l7.trans L7
  have L5 := l6.trans L6
  have L4 := l5.trans L5
  have L3 := l4.trans L4
  have L2 := l3.trans L3
  have L1 := l2.trans L2
  exact run_nil ⟨⟨v12, v14, v16, a13, a15, a17, a18, a19, a20, a21, c21, P21, _, g₁₀⟩, x, l1.trans L1, Rel.up _ L1 r12, Rel.up _ L3 r14, ⟨_, _, _, f13.up L2⟩, ⟨_, _, _, f15.up L4⟩, ⟨_, _, _, f17.up L6⟩, ⟨_, _, _, f18.up L7⟩, ⟨_, _, _, f19.up L8⟩, ⟨_, _, _, f20.up L9⟩, ⟨_, _, f21⟩, fc, hic, htab, hout, fun a o e => Nat.lt_of_lt_of_le (hs9 a o e) hP⟩
end
end Mine
end
section
open PySem PySem.W PyProof.Rows PySem.Calls PySem.SeqAt
set_option maxRecDepth 100000
set_option linter.unusedVariables false
set_option maxHeartbeats 1000000
namespace Mine
theorem sched_add {p : Program} {w : World} : ∀ (n m : Nat) {c c' : Config} {r : SRun}, schedN (denote table) p w n c = .running c' → schedN (denote table) p w m c' = r → schedN (denote table) p w (n + m) c = r
  | 0, m, c, c', r, h, k => by
    have e : c = c' := by simpa [schedN] using h
    subst e
    rw [Nat.zero_add]; exact k
  | n + 1, m, c, c', r, h, k => by
    rw [show n + 1 + m = (n + m) + 1 by (simp +arith)]
    simp only [schedN] at h ⊢
    split at h
    · exact sched_add n m h k
    · cases h
structure PreR (w : World) (s0 s : Shared) : Prop where
  fence : ∃ s', fenceModules? pw s' = some s0
  run : ∃ n, schedN (denote table) pw w n (.single s0 (topStub pw)) = .running (.single s (restOf midSts topEnv topCode ⟨43, 0, 43, 8⟩ [topFrame p0]))
  life : s.heap.life = s0.heap.life
  os : s.os = s0.os
  kept : ∀ b o, b < 28 → b ≠ mainNs → b ≠ cStatics → some (.ref 6) ≠ some (Value.ref b) → s0.heap.get? b = some o → s.heap.get? b = some o
  l1 : look1 s0 s = true
  c30 : code30 s = true
  l2 : look2 s0 s = (28, 0, some (.ref 6), 98, 0, bltViewBooted)
  l3 : look3 s = val3
theorem pre_run (w : World) : ∃ s' s0 s, AfterRun (opening pw) w s' ∧ fenceModules? pw s' = some s0 ∧ s0.asleep ∧ PreR w s0 s := by
  have h := chain_looks w
  rw [← table_eq_tree] at h
  obtain ⟨⟨s0, sa, ta, f1, sb, c1, q1, f2, s, c2, q2⟩, hc, he⟩ := Option.map_eq_some_iff.mp h
  simp only [Prod.mk.injEq] at he
  obtain ⟨l1, l30, l2, l3, rfl, rfl, rfl, rfl, rfl, rfl, rfl⟩ := he
  unfold chain at hc
  obtain ⟨s0', h1, h2⟩ := Option.bind_eq_some_iff.mp hc
  obtain ⟨r, h3, h4⟩ := Option.bind_eq_some_iff.mp h2
  cases h4
  unfold chainB at h3
  obtain ⟨r1, k1, h5⟩ := Option.bind_eq_some_iff.mp h3
  obtain ⟨r2, k2, h6⟩ := Option.bind_eq_some_iff.mp h5
  obtain ⟨r3, k3, h7⟩ := Option.bind_eq_some_iff.mp h6
  obtain ⟨r1a, r1b⟩ := r1
  obtain ⟨r2a, r2b, r2c, r2d⟩ := r2
  obtain ⟨r3a, r3b, r3c, r3d⟩ := r3
  dsimp only at k2 k3 h7
  cases h7
  obtain ⟨s', h8, h9⟩ := Option.bind_eq_some_iff.mp h1
  have z : s0.asleep := Shared.asleep_of_life (fence_lifeW h9) (AfterImport.of_importEnds h8).life
  have e2 : s0.heap.objs.size = 28 ∧ annOf s0 = some (.ref 6) := by
    unfold look2 at l2
    simp only [Prod.mk.injEq] at l2
    exact ⟨l2.1, l2.2.2.1⟩
  have g1 := go_of_topGo k1
  have g2 := go_block (p := pw) (w := w) (n₀ := s0.heap.objs.size) (ann := annOf s0) (b := behindTheImports pw) k2
  rw [show restOf (behindTheImports pw) topEnv topCode p0 [topFrame p0] = restOf (preSts ++ midSts) topEnv topCode p0 [topFrame p0] by rw [behind_is]] at g2
  have g3 := go_app (p := pw) (w := w) (n₀ := s0.heap.objs.size) (ann := annOf s0) (rest := midSts) k3
  have g := (g1.trans g2).trans g3
  obtain ⟨a, b, c, d⟩ := g.sched z
  rw [e2.1, e2.2] at d
  exact ⟨s', s0, s, AfterImport.of_importEnds h8, h9, z, ⟨s', h9⟩, a, b, c, d, l1, l30, l2, l3⟩
end Mine
end
section
open PySem PySem.W PyProof.Rows PySem.Calls PySem.SeqAt
set_option maxRecDepth 100000
set_option linter.unusedVariables false
set_option maxHeartbeats 1000000
namespace Mine
noncomputable def newNames : List Str := ["b1_set", "in_table_b1", "b3_exceptions", "map_table_b3", "__name__", "_law_pile", "_law_riffle", "_law_read", "_law_ways", "law"]
theorem mg_old {r : TopR} {mg : Str → Option Value} {x : Str} (h : newNames.contains x = false) : r.mg mg x = mg x := by
  have h' : x ∉ newNames := fun hm => by
    have := List.contains_iff_mem.mpr hm; rw [h] at this; cases this
  simp only [newNames, List.mem_cons, List.not_mem_nil, or_false, not_or] at h'
  obtain ⟨n1, n2, n3, n4, n5, n6, n7, n8, n9, n10⟩ := h'
  unfold TopR.mg upd
  rw [if_neg n10, if_neg n9, if_neg n8, if_neg n7, if_neg n6, if_neg n5, if_neg n4, if_neg n3, if_neg n2, if_neg n1]
theorem mg_keys {r : TopR} {mg : Str → Option Value} {x : Str} {v : Value} (h : r.mg mg x = some v) : x ∈ newNames ∨ mg x = some v := by
  cases q : newNames.contains x with
  | true => exact .inl (List.contains_iff_mem.mp q)
  | false => rw [mg_old q] at h; exact .inr h
section
variable {w : World} {s0 s : Shared}
noncomputable def mg0 (s : Shared) : Str → Option Value := s.heap.nsMap mainGlobals
noncomputable def mb0 (s : Shared) : Str → Option Value := s.heap.nsMap builtinsNs
noncomputable def g0 (s : Shared) : View := fun a => if a = mainGlobals ∨ a = 29 then none else s.heap.get? a
structure PreF (s0 s : Shared) : Prop where
  st : staticsOk (importedModules pw.main.body) s0.heap s.heap = true
  nb : namesBound pw s.heap = true
  lk : laidKept s0.heap s.heap = true
  ac : s.heap.accountedOkI (importedModules pw.main.body) = true
  ng : s.heap.isNs mainGlobals = true
  nbl : s.heap.isNs builtinsNs = true
  ns : s.heap.isNs cStatics = true
  lim : s.heap.nsMap cStatics "sys.recursionlimit" = none
  shr : s.heap.nsMap cStatics sharingNotToldKey = none
  p1 : patOk s.heap "_twin_re_1" code1 = true
  p2 : patOk s.heap "_twin_re_2" code2 = true
  n0 : s0.heap.isNs mainGlobals = true
  sz0 : s0.heap.objs.size = 28
  gs0 : s0.gens = #[]
  an : s0.heap.nsMap mainGlobals "__annotations__" = some (.ref 6)
  sz : s.heap.objs.size = 98
  gs : s.gens = #[]
  bl : s.heap.bltView = bltViewBooted
  o4 : s.heap.get? 4 = some { cls := .type "module", dict := some builtinsNs, data := .plain }
  o29 : s.heap.get? 29 = some { cls := .none, data := .fields ps0 }
  bi : s.heap.nsMap mainGlobals "__builtins__" = some (.ref 4)
  crlf : s.heap.nsMap mainGlobals "CRLF" = some (.str ⟨#[13, 10]⟩ 342)
  sh : ∀ i ∈ [5, 6, 9, 10], s.heap.shapeAt mainGlobals (recOf (stAt i)).name = some (recOf (stAt i)).shape
  cl : s.heap.plainShapeAt tcRec = some tcRec.plainShape
theorem PreR.facts (x : PreR w s0 s) : PreF s0 s := by
  have h1 := x.l1
  have h2 := x.l2
  have h3 := x.l3
  unfold look1 at h1
  unfold look2 at h2
  unfold look3 val3 at h3
  simp only [Bool.and_eq_true, Option.isNone_iff_eq_none] at h1
  simp only [Prod.mk.injEq] at h2 h3
  obtain ⟨⟨⟨⟨⟨⟨⟨⟨⟨⟨⟨a1, a2⟩, a3⟩, a4⟩, a5⟩, a6⟩, a7⟩, a8⟩, a9⟩, a10⟩, a11⟩, a12⟩ := h1
  obtain ⟨b1, b2, b3, b4, b5, b6⟩ := h2
  obtain ⟨c1, c2, c3, c4, c5, c6⟩ := h3
  refine ⟨a1, a2, a3, a4, a5, a6, a7, a8, a9, a10, a11, a12, b1, Array.eq_empty_of_size_eq_zero b2, b3, b4, Array.eq_empty_of_size_eq_zero b5, b6, c1, c2, c3, c4, fun i hi => ?_, c6⟩
  simp only [List.map_cons, List.map_nil, List.cons.injEq, and_true] at c5
  simp only [List.mem_cons, List.not_mem_nil, or_false] at hi
  rcases hi with rfl | rfl | rfl | rfl
  · exact c5.1
  · exact c5.2.1
  · exact c5.2.2.1
  · exact c5.2.2.2
theorem triples0 : TriplesOk ps0.toList := by
  simp [ps0, TriplesOk]
theorem code_of (x : PreR w s0 s) (f : PreF s0 s) : s.heap.IsCode 30 29 ps0 := by
  have h := x.c30
  unfold code30 at h
  cases ho : s.heap.get? 30 with
  | none => rw [ho] at h; cases h
  | some o =>
    rw [ho] at h
    dsimp only at h
    cases hd : o.data with
    | fields vs =>
      rw [hd] at h
      dsimp only at h
      obtain ⟨h1, h2⟩ := Bool.and_eq_true_iff.mp h
      split at h2
      · rename_i a b c d e1 e2 e3 e4
        exact ⟨o, vs, _, _, _, _, _, _, _, _, ho, hd, of_decide_eq_true h1, by assumption, by assumption, by assumption, by assumption, f.o29, rfl, triples0, by decide⟩
      · cases h2
    | _ => rw [hd] at h; cases h
theorem ti0 (x : PreR w s0 s) : TI (mb0 s) s (mg0 s) ps0 (g0 s) s := by
  have f := x.facts
  refine ⟨⟨s.heap, s.toks, rfl⟩, fun _ _ _ _ e => e, ⟨.of_isNs f.ng, code_of x f, by decide, ⟨4, _, f.bi, by decide, by decide, by decide, f.o4, rfl, rfl, rfl⟩⟩, .of_isNs f.nbl, fun a o e => ?_, if_pos (.inl rfl), if_pos (.inr rfl)⟩
  unfold g0 at e
  split at e
  · cases e
  · exact e
theorem not_bound (f : PreF s0 s) {x : Str} (h : (startupNames.contains x || pw.boundNames.contains x) = false) : mg0 s x = none := by
  have hb := f.nb
  unfold namesBound at hb
  obtain ⟨_, hb⟩ := Bool.and_eq_true_iff.mp hb
  refine Heap.nsMap_none fun hk => ?_
  have := List.all_eq_true.mp hb x hk
  rw [h] at this; cases this
theorem boot_of (f : PreF s0 s) {x : Str} (hx : x ≠ "__name__") : mb0 s x = bootBuiltins x := Heap.of_bltView f.nbl f.bl x hx
end
end Mine
end
section
open PySem PySem.W PyProof.Rows PySem.Calls PySem.SeqAt
open Claim2Try (globalOf_of_ns)
set_option maxRecDepth 100000
set_option linter.unusedVariables false
set_option maxHeartbeats 1000000
namespace Mine
noncomputable def topA : Around := { depth := 10 + claimMargin, units := 20 }
theorem topA_in : (PySem.Ctx.of topCode [topFrame p0]).In topA :=
  ⟨rfl, by show frameCount _ + Code.weight _ ≤ _; decide +kernel, fun l hl => (nomatch hl), fun g hg => (nomatch hg), by show Code.cUnits _ + unitsOf _ ≤ _; decide +kernel⟩
structure TopOut (w : World) (s0 s₁ : Shared) : Prop where
  ran : TopRan pw w s0 s₁
  z : s₁.asleep
  gs : s₁.gens = #[]
  out : ∃ s r, PreR w s0 s ∧ OutR w (mb0 s) s (mg0 s) (g0 s) r s₁
theorem bound_new : ∀ x ∈ newNames, x ∈ startupNames ∨ x ∈ pw.boundNames := by
  intro x hx
  have h : newNames.all (fun x => startupNames.contains x || pw.boundNames.contains x) = true := by kernel_rfl
  have := List.all_eq_true.mp h x hx
  simpa only [Bool.or_eq_true, List.contains_iff_mem] using this
theorem laid_old : ∀ x ∈ laidNames, newNames.contains x = false := by
  intro x hx
  have h : laidNames.all (fun x => !newNames.contains x) = true := by kernel_rfl
  have := List.all_eq_true.mp h x hx
  simpa using this
theorem top_done (w : World) : ∃ s' s0 s₁, AfterRun (opening pw) w s' ∧ fenceModules? pw s' = some s0 ∧ s0.gens = #[] ∧ TopOut w s0 s₁ := by
  obtain ⟨s', s0, s, hA, hf, z, x⟩ := pre_run w
  have f := x.facts
  have zs : s.asleep := Shared.asleep_of_life x.life z
  have hk1 : mb0 s "set" = some (.type "set") := (boot_of f (by decide)).trans (by kernel_rfl)
  have hk2 : mb0 s "list" = some (.type "list") := (boot_of f (by decide)).trans (by kernel_rfl)
  have hk3 : mb0 s "range" = some (.type "range") := (boot_of f (by decide)).trans (by kernel_rfl)
  have R := top_mid (w := w) (A := topA) rfl (not_bound f (by kernel_rfl)) (not_bound f (by kernel_rfl)) (not_bound f (by kernel_rfl)) hk1 hk2 hk3 (ti0 x)
  have R' : wpAny (model pw w) topA (execs midSts topEnv) (fun f s' => (∃ r, OutR w (mb0 s) s (mg0 s) (g0 s) r s') ∧ s'.gens = #[]) (fun _ _ => False) s := by
    refine wpAny_mono R.run (fun _ s₁ ⟨r, o⟩ => ⟨⟨r, o⟩, ?_⟩) fun _ _ e => e
    obtain ⟨h, tk, e⟩ := o.ti.same
    rw [e]; exact f.gs
  obtain ⟨m, s₁, t₁, s₂, k1, k2, k3, k4, ⟨r, o⟩, kg⟩ := wp_rest (p := ⟨43, 0, 43, 8⟩) zs topA_in R'
  obtain rfl : s₁ = s₂ := Shared.eq_of_forget_eq k3 kg
  obtain ⟨n, hn⟩ := x.run
  have z₁ : s₁.asleep := Shared.asleep_of_life (k4.trans x.life) z
  obtain ⟨oS, eS, epS, hS, hSd, hSk, hSf⟩ := Heap.Ns.of_isNs f.ns
  have hS' : s₁.heap.get? cStatics = some oS := o.ti.keep _ _ (by decide) (by decide) hS
  have stat : ∀ k, staticOf s₁.heap k = staticOf s.heap k := fun k => by unfold staticOf; rw [hS, hS']
  obtain ⟨oB, eB, epB, hB, hBd, hBk, hBf⟩ := Heap.Ns.of_isNs f.nbl
  have hB' : s₁.heap.get? builtinsNs = some oB := o.ti.keep _ _ (by decide) (by decide) hB
  have blt : ∀ k, builtinOf s₁.heap k = builtinOf s.heap k := fun k => by unfold builtinOf; rw [hB, hB']
  have glb : ∀ k, globalOf s₁.heap k = r.mg (mg0 s) k := fun k => globalOf_of_ns o.ti.main.g k
  have glb0 : ∀ k, globalOf s.heap k = mg0 s k := fun k => Pin.globalOf_eq f.ng k
  refine ⟨s', s0, s₁, hA, hf, f.gs0, ⟨⟨⟨_, t₁, sched_add _ _ hn k1, k2⟩, k4.trans x.life, ?_, ?_, ?_, ?_, Pin.keysAreStrs_of_ns o.ti.main.g, ?_, ?_, ?_, ?_, ?_⟩, z₁, kg, s, r, x, o⟩⟩
  · obtain ⟨h, tk, e⟩ := o.ti.same
    refine Shared.rest_eq ?_
    rw [e]; exact x.os
  · intro b ob hb hn
    have hlt : b < 28 := by rw [← f.sz0]; exact Heap.lt_size hb
    have h1 : b ≠ mainNs := fun q => hn (.inl q)
    have h2 : b ≠ cStatics := fun q => hn (.inr (.inl q))
    have h3 : some (.ref 6) ≠ some (Value.ref b) := fun q => hn (.inr (.inr (((Pin.globalOf_eq f.n0 _).trans f.an).trans q)))
    exact o.ti.keep _ _ h1 (fun q => by subst q; exact absurd hlt (by decide)) (x.kept b ob hlt h1 h2 h3 hb)
  · have := Heap.accountedI_of_ok f.ac
    unfold staticsAccountedI at this ⊢
    simpa only [stat] using this
  · have := statics_of_ok f.st
    unfold staticsBehindTheTop at this ⊢
    simpa only [stat] using this
  · intro n hn
    rw [blt, Pin.builtinOf_eq f.nbl]
    exact Heap.of_bltView f.nbl f.bl n hn
  · obtain ⟨bm, ob, h1, _, _, _, h2, h3, h4, _⟩ := o.ti.main.bmod
    exact ⟨bm, ob, (glb _).trans h1, h2, h3, h4⟩
  · rw [kg]; intro g hg; simp at hg
  · intro k v hv
    rw [glb] at hv
    rcases mg_keys hv with q | q
    · exact bound_new k q
    · exact names_of_bound f.nb k v ((glb0 k).trans q)
  · intro k hk
    rw [glb, mg_old (laid_old k hk), ← glb0]
    exact laid_of_kept f.lk k hk
end Mine
end
section
open PySem PySem.W PyProof.Rows PySem.Calls PySem.SeqAt
set_option maxRecDepth 100000
set_option linter.unusedVariables false
set_option maxHeartbeats 1000000
namespace Mine
section
variable {w : World} {s0 s s₁ : Shared} {r : TopR}
/-- what stands for good: all that the top leaves but the table of law's code object -/
noncomputable def KV (P : Addr) (s : Shared) : View := fun a => if a = P then none else s.heap.get? a
theorem kv_sees (P : Addr) (s : Shared) : Sees (KV P s) s.heap := fun a o e => by
  unfold KV at e
  split at e
  · cases e
  · exact e
theorem kv_of {P a : Addr} {s : Shared} {o : Obj} (e : s.heap.get? a = some o) (h : a ≠ P) : KV P s a = some o := by
  unfold KV; rw [if_neg h]; exact e
variable (f : PreF s0 s) (O : OutR w (mb0 s) s (mg0 s) (g0 s) r s₁)
include f O
theorem kv_old {a : Addr} {o : Obj} (e : s.heap.get? a = some o) (h3 : a ≠ mainGlobals) (h29 : a ≠ 29) : KV r.P s₁ a = some o :=
  kv_of (O.ti.keep a o h3 h29 e) (Nat.ne_of_lt (O.high a o e))
theorem kv_g : VLe r.g (KV r.P s₁) := fun a o e => kv_of (O.ti.sees a o e) fun q => by subst q; rw [O.out] at e; cases e
theorem kv_main : KNs (KV r.P s₁) mainGlobals (r.mg (mg0 s)) := by
  obtain ⟨o, es, ep, e, h⟩ := O.ti.main.g
  obtain ⟨o', _, _, e', _⟩ := Heap.Ns.of_isNs f.ng
  exact ⟨o, es, ep, kv_of e (Nat.ne_of_lt (O.high _ _ e')), h⟩
theorem kv_blt : KNs (KV r.P s₁) builtinsNs (mb0 s) := by
  obtain ⟨o, es, ep, e, h⟩ := Heap.Ns.of_isNs f.nbl
  exact ⟨o, es, ep, kv_old f O e (by decide) (by decide), h⟩
theorem gl_new {x : Str} {v : Value} (h : r.mg (mg0 s) x = some v) : Gl (KV r.P s₁) x v := ⟨_, kv_main f O, .inl h⟩
theorem gl_old {x : Str} {v : Value} (hx : newNames.contains x = false) (h : mg0 s x = some v) : Gl (KV r.P s₁) x v := gl_new f O ((mg_old hx).trans h)
theorem gl_blt {x : Str} {v : Value} (h1 : (newNames.contains x || (startupNames.contains x || pw.boundNames.contains x)) = false) (hx : (x == ("__name__" : Str)) = false) (h2 : bootBuiltins x = some v) : Gl (KV r.P s₁) x v := by
  obtain ⟨a, b⟩ := Bool.or_eq_false_iff.mp h1
  refine ⟨_, kv_main f O, .inr ⟨(mg_old a).trans (not_bound f b), _, kv_blt f O, (boot_of f ?_).trans h2⟩⟩
  intro e; rw [e] at hx; simp at hx
theorem kv_shape {i : Nat} (hi : i ∈ [5, 6, 9, 10]) {q : Str} (hq : (recOf (stAt i)).name = q) (hd : ∀ pm cd doc, (recOf (stAt i)).data pm cd doc = fdOf (stAt i) q pm cd doc) (hnew : newNames.contains q = false) :
    ∃ a, Gl (KV r.P s₁) q (.ref a) ∧ ∃ pm cd doc, FnAt (KV r.P s₁) a (stAt i) q pm cd doc := by
  obtain ⟨a, o, pm, cd, doc, h1, h2, h3, h4⟩ := Heap.hasFn_of_shape (f.sh i hi)
  rw [hq] at h1 h4
  rw [hd] at h3
  have n3 : a ≠ mainGlobals := fun e => by
    subst e
    obtain ⟨o', es, ep, e', hd', _⟩ := Heap.Ns.of_isNs f.ng
    rw [h2] at e'; cases e'; rw [h3] at hd'; cases hd'
  have n29 : a ≠ 29 := fun e => by subst e; rw [f.o29] at h2; cases h2; cases h3
  have n0 : 1 ≤ a := by
    rcases Nat.eq_zero_or_pos a with e | e
    · subst e
      obtain ⟨o', es, ep, e', hd', _⟩ := Heap.Ns.of_isNs f.nbl
      have e'' : s.heap.get? 0 = some o' := e'
      rw [h2] at e''; cases e''; rw [h3] at hd'; cases hd'
    · exact e
  obtain ⟨c, oc, fs, t, e1, e2, e3, e4⟩ := h4
  have m3 : c ≠ mainGlobals := fun e => by
    subst e
    obtain ⟨o', es, ep, e', hd', _⟩ := Heap.Ns.of_isNs f.ng
    rw [e2] at e'; cases e'; rw [e3] at hd'; cases hd'
  have m29 : c ≠ 29 := fun e => by
    subst e; rw [f.o29] at e2; cases e2; cases e3
    simp [ps0] at e4
  exact ⟨a, gl_old f O hnew h1, pm, cd, doc, ⟨o, kv_old f O h2 n3 n29, h3, n0⟩, c, oc, fs, t, e1, kv_old f O e2 m3 m29, e3, e4⟩
theorem kv_pat {x : Str} {code : Array Nat} (h : patOk s.heap x code = true) (hnew : newNames.contains x = false) : ∃ v, Gl (KV r.P s₁) x v ∧ (RPat code).r (KV r.P s₁) v := by
  unfold patOk at h
  split at h
  · rename_i p hp
    split at h
    · rename_i o ho
      split at h
      · rename_i vs hd
        simp only [Bool.and_eq_true, beq_iff_eq, Option.isNone_iff_eq_none] at h
        obtain ⟨⟨⟨⟨h1, h2⟩, h3⟩, h4⟩, h5⟩ := h
        split at h5
        · rename_i cd hcd
          split at h5
          · rename_i co hco
            split at h5
            · rename_i items n hs
              have hc := of_decide_eq_true h5
              have p3 : p ≠ mainGlobals := fun e => by
                subst e
                obtain ⟨o', es, ep, e', hd', _⟩ := Heap.Ns.of_isNs f.ng
                rw [ho] at e'; cases e'; rw [hd] at hd'; cases hd'
              have p29 : p ≠ 29 := fun e => by
                subst e; rw [f.o29] at ho; cases ho; cases h1
              have c3 : cd ≠ mainGlobals := fun e => by
                subst e
                obtain ⟨o', es, ep, e', hd', _⟩ := Heap.Ns.of_isNs f.ng
                rw [hco] at e'; cases e'; rw [hs] at hd'; cases hd'
              have c29 : cd ≠ 29 := fun e => by
                subst e; rw [f.o29] at hco; cases hco; cases hs
              exact ⟨.ref p, gl_old f O hnew hp, p, o, vs, cd, co, items, n, rfl, kv_old f O ho p3 p29, kv_old f O hco c3 c29, ⟨h1, h2, hd, h3, h4, hcd, hs, hc⟩⟩
            · cases h5
          · cases h5
        · cases h5
      · cases h
    · cases h
  · cases h
end
end Mine
end
section
open PySem PySem.W PyProof.Rows PySem.Calls PySem.SeqAt
set_option maxRecDepth 100000
set_option linter.unusedVariables false
set_option linter.unusedSectionVars false
set_option maxHeartbeats 1000000
namespace Mine
section
variable {w : World} {s0 s s₁ : Shared} {r : TopR} (f : PreF s0 s) (O : OutR w (mb0 s) s (mg0 s) (g0 s) r s₁)
include f O
theorem kv_meth {m : Stmt} {q nm : Str} {fI : Addr} {o : Obj} {pm cd doc : Value} (h2 : s.heap.get? fI = some o) (h4 : o.data = .func (fdOf m q pm cd doc)) (h5 : s.heap.CodeRec cd q) :
    FnAt (KV r.P s₁) fI m q pm cd doc ∧ KV r.P s₁ fI = some o := by
  have n3 : fI ≠ mainGlobals := fun e => by
    subst e
    obtain ⟨o', es, ep, e', hd', _⟩ := Heap.Ns.of_isNs f.ng
    rw [h2] at e'; cases e'; rw [h4] at hd'; cases hd'
  have n29 : fI ≠ 29 := fun e => by subst e; rw [f.o29] at h2; cases h2; cases h4
  have n0 : 1 ≤ fI := by
    rcases Nat.eq_zero_or_pos fI with e | e
    · subst e
      obtain ⟨o', es, ep, e', hd', _⟩ := Heap.Ns.of_isNs f.nbl
      have e'' : s.heap.get? 0 = some o' := e'
      rw [h2] at e''; cases e''; rw [h4] at hd'; cases hd'
    · exact e
  obtain ⟨c, oc, fs, t, e1, e2, e3, e4⟩ := h5
  have m3 : c ≠ mainGlobals := fun e => by
    subst e
    obtain ⟨o', es, ep, e', hd', _⟩ := Heap.Ns.of_isNs f.ng
    rw [e2] at e'; cases e'; rw [e3] at hd'; cases hd'
  have m29 : c ≠ 29 := fun e => by
    subst e; rw [f.o29] at e2; cases e2; cases e3
    simp [ps0] at e4
  exact ⟨⟨⟨o, kv_old f O h2 n3 n29, h4, n0⟩, c, oc, fs, t, e1, kv_old f O e2 m3 m29, e3, e4⟩, kv_old f O h2 n3 n29⟩
theorem kv_cls : ∃ C fI fC, Gl (KV r.P s₁) "TupleComp" (.ref C) ∧ CmpK (KV r.P s₁) C fI fC := by
  obtain ⟨C, N, hC, X⟩ := plainAt_of_shape f.cl
  obtain ⟨fI, oI, pmI, cdI, docI, i1, i2, i3, i4, i5⟩ := X.meths (methOf (clsSt 0)) (by simp [tcRec])
  obtain ⟨fC, oC, pmC, cdC, docC, j1, j2, j3, j4, j5⟩ := X.meths (methOf (clsSt 1)) (by simp [tcRec])
  have eI : (methOf (clsSt 0)).name = "__init__" := by kernel_rfl
  have eC : (methOf (clsSt 1)).name = "compare" := by kernel_rfl
  have qI : tcRec.name ++ "." ++ (methOf (clsSt 0)).name = "TupleComp.__init__" := by kernel_rfl
  have qC : tcRec.name ++ "." ++ (methOf (clsSt 1)).name = "TupleComp.compare" := by kernel_rfl
  rw [eI] at i1
  rw [eC] at j1
  rw [qI] at i4 i5
  rw [qC] at j4 j5
  have dI : methDef (methOf (clsSt 0)).name "TupleComp.__init__" (methOf (clsSt 0)).params (methOf (clsSt 0)).body (methOf (clsSt 0)).scope pmI cdI docI = fdOf (clsSt 0) "TupleComp.__init__" pmI cdI docI := by kernel_rfl
  have dC : methDef (methOf (clsSt 1)).name "TupleComp.compare" (methOf (clsSt 1)).params (methOf (clsSt 1)).body (methOf (clsSt 1)).scope pmC cdC docC = fdOf (clsSt 1) "TupleComp.compare" pmC cdC docC := by kernel_rfl
  rw [dI] at i4
  rw [dC] at j4
  obtain ⟨kI, gI⟩ := kv_meth (nm := "") f O i2 i4 i5
  obtain ⟨kC, gC⟩ := kv_meth (nm := "") f O j2 j4 j5
  obtain ⟨nm, q, bs, sn, sub, col, dd, k0, k1, k2, k3, k5, hobj⟩ := X.cls.obj
  have n3 : C ≠ mainGlobals := fun e => by
    subst e
    obtain ⟨o', es, ep, e', hd', _⟩ := Heap.Ns.of_isNs f.ng
    rw [hobj] at e'; cases e'; cases hd'
  have n29 : C ≠ 29 := fun e => by subst e; rw [f.o29] at hobj; cases hobj
  have hCk := kv_old f O hobj n3 n29
  obtain ⟨oN, esN, epN, hN, hNd, hNk, hNf⟩ := X.cls.ns
  have N3 : N ≠ mainGlobals := fun e => by
    subst e
    have : mg0 s "__init__" = none := not_bound f (by kernel_rfl)
    have i1' : mg0 s "__init__" = some (.ref fI) := i1
    rw [this] at i1'; cases i1'
  have N29 : N ≠ 29 := fun e => by subst e; rw [f.o29] at hN; cases hN; cases hNd
  have hNk' := kv_old f O hN N3 N29
  refine ⟨C, fI, fC, gl_old f O (by kernel_rfl) hC, ⟨N, s.heap.nsMap N, fun h k => ⟨⟨nm, q, bs, sn, sub, col, dd, k0, k1, k2, k3, k5, k _ _ hCk⟩, ⟨oN, esN, epN, k _ _ hNk', hNd, hNk, hNf⟩⟩, i1, j1, X.quiet _ (by decide), X.quiet _ (by decide), X.quiet _ (by decide), X.quiet _ (by decide)⟩, ⟨_, hCk⟩, ⟨pmI, cdI, docI, kI⟩, ⟨pmC, cdC, docC, kC⟩, ⟨oI, gI, i3⟩, ⟨oC, gC, j3⟩⟩
theorem fn_up {a : Addr} {i : Nat} {q : Str} (h : ∃ pm cd doc, FnAt r.g a (stAt i) q pm cd doc) : ∃ pm cd doc, FnAt (KV r.P s₁) a (stAt i) q pm cd doc := by
  obtain ⟨pm, cd, doc, h⟩ := h
  exact ⟨pm, cd, doc, h.up (kv_g f O)⟩
theorem kv_stat {x : Str} (hx : s.heap.nsMap cStatics x = none) (h : Heap) (k : Sees (KV r.P s₁) h) : ∃ mc, h.Ns cStatics mc ∧ mc x = none := by
  obtain ⟨o, es, ep, e, r⟩ := Heap.Ns.of_isNs f.ns
  exact ⟨_, ⟨o, es, ep, k _ _ (kv_old f O e (by decide) (by decide)), r⟩, hx⟩
theorem kv_lk : Nonempty (LK pw w (KV r.P s₁)) := by
  obtain ⟨aq, gq, hq⟩ := kv_shape f O (i := 5) (q := "quotedata") (by decide) (by kernel_rfl) (fun _ _ _ => by kernel_rfl) (by kernel_rfl)
  obtain ⟨af, gf, hf⟩ := kv_shape f O (i := 6) (q := "_fix_eols") (by decide) (by kernel_rfl) (fun _ _ _ => by kernel_rfl) (by kernel_rfl)
  obtain ⟨aa, ga, ha⟩ := kv_shape f O (i := 9) (q := "add_callers") (by decide) (by kernel_rfl) (fun _ _ _ => by kernel_rfl) (by kernel_rfl)
  obtain ⟨ac, gc, hc⟩ := kv_shape f O (i := 10) (q := "count_calls") (by decide) (by kernel_rfl) (fun _ _ _ => by kernel_rfl) (by kernel_rfl)
  obtain ⟨v1, p1, r1⟩ := kv_pat f O f.p1 (by kernel_rfl)
  obtain ⟨v2, p2, r2⟩ := kv_pat f O f.p2 (by kernel_rfl)
  obtain ⟨C, fI, fC, gC, hC⟩ := kv_cls f O
  have rt := Rel.up _ (kv_g f O) O.rtab
  obtain ⟨D, oD, xD, eD, lD, _⟩ := id rt
  have hgt : r.mg (mg0 s) "b3_exceptions" = some r.vd := rfl
  rw [eD] at hgt rt
  exact ⟨{
    fq := aq, ff := af, fa := aa, fc := ac, fb1 := r.a13, fb3 := r.a15, fp := r.a17, fr := r.a18, frd := r.a19, fw := r.a20, C := C, fI := fI, fC := fC, D := D, v1 := v1, v2 := v2, vc := _, vs := r.vs, S := fun k => b1S.any (· == k)
    hq := hq, hf := hf, ha := ha, hc := hc, hb1 := fn_up f O O.h13, hb3 := fn_up f O O.h15, hp := fn_up f O O.h17, hr := fn_up f O O.h18, hrd := fn_up f O O.h19, hw := fn_up f O O.h20, hC := hC
    gq := gq, gf := gf, ga := ga, gc := gc, gb1 := gl_new f O rfl, gb3 := gl_new f O rfl, gp := gl_new f O rfl, gr := gl_new f O rfl, grd := gl_new f O rfl, gw := gl_new f O rfl, gC := gC
    tx := ⟨p1, r1, p2, r2, gl_old f O (by kernel_rfl) f.crlf, ⟨_, rfl⟩⟩
    gset := gl_new f O rfl, rset := Rel.up _ (kv_g f O) O.rset, bset := fun _ => rfl, gtab := gl_new f O hgt, rtab := rt, lo := beq_eq_false_iff_ne.mp lD
    bord := gl_blt f O (by kernel_rfl) (by kernel_rfl) (by kernel_rfl)
    blen := gl_blt f O (by kernel_rfl) (by kernel_rfl) (by kernel_rfl)
    bsum := gl_blt f O (by kernel_rfl) (by kernel_rfl) (by kernel_rfl)
    bmin := gl_blt f O (by kernel_rfl) (by kernel_rfl) (by kernel_rfl)
    bmax := gl_blt f O (by kernel_rfl) (by kernel_rfl) (by kernel_rfl)
    babs := gl_blt f O (by kernel_rfl) (by kernel_rfl) (by kernel_rfl)
    bchr := gl_blt f O (by kernel_rfl) (by kernel_rfl) (by kernel_rfl)
    bsorted := gl_blt f O (by kernel_rfl) (by kernel_rfl) (by kernel_rfl)
    bisi := gl_blt f O (by kernel_rfl) (by kernel_rfl) (by kernel_rfl)
    trange := gl_blt f O (by kernel_rfl) (by kernel_rfl) (by kernel_rfl)
    tenum := gl_blt f O (by kernel_rfl) (by kernel_rfl) (by kernel_rfl)
    tzip := gl_blt f O (by kernel_rfl) (by kernel_rfl) (by kernel_rfl)
    tlist := gl_blt f O (by kernel_rfl) (by kernel_rfl) (by kernel_rfl)
    ttuple := gl_blt f O (by kernel_rfl) (by kernel_rfl) (by kernel_rfl)
    tstr := gl_blt f O (by kernel_rfl) (by kernel_rfl) (by kernel_rfl)
    nb := fun h k => kv_stat f O f.shr h k }⟩
theorem kv_lt : LT (KV r.P s₁) (.ref r.cL) r.P := by
  refine ⟨⟨r.cL, rfl, fun h k => ?_⟩, ⟨_, kv_main f O, fun h k => ?_⟩, if_pos rfl⟩
  · obtain ⟨o, vs, file, tf, flags, tg, inF, text, tt, e, h1, h2, h3, h4, h5, h6, h7, h8, h9⟩ := CodeHd.of O.code O.tab
    exact ⟨o, vs, file, tf, flags, tg, inF, text, tt, k _ _ (kv_of e h9), h1, h2, h3, h4, h5, h6, h7, h8, h9⟩
  · obtain ⟨bm, o, h1, h2, h3, h4, h5, h6⟩ := O.ti.main.bmod
    have hbi : r.mg (mg0 s) "__builtins__" = some (.ref 4) := (mg_old (by kernel_rfl)).trans f.bi
    rw [hbi] at h1; cases h1
    have n3 : (4 : Nat) ≠ mainGlobals := by decide
    have hP : r.P ≠ 4 := fun e => by have := O.high _ _ f.o4; rw [e] at this; exact absurd this (Nat.lt_irrefl _)
    refine ⟨4, o, hbi, h2, h3, Ne.symm hP, k _ _ (kv_of h5 (Ne.symm hP)), h6⟩
end
end Mine
end
section
open PySem PySem.W PyProof.Rows PySem.Calls PySem.SeqAt
set_option maxRecDepth 100000
set_option linter.unusedVariables false
set_option linter.unusedSectionVars false
set_option maxHeartbeats 1000000
namespace Mine
section
variable {w : World} {K : View} {P a : Addr} {pm cd doc v : Value} {A : Around} {g : View} {s : Shared}
theorem law_call (L : LK pw w K) (T : LT K cd P) (hf : FnAt K a (stAt 21) "law" pm cd doc) (script : List Int) (hn : script.length ≤ 1000) (M : ∀ c0 c1 c2 c3 : Nat, LawM c0 c1 c2 c3) (hh : A.handled = none) (room : A.depth + 20 < recursionLimit) (units : A.units + 200 < cLine)
    (hlim : s.heap.NoLimit) (hK : VLe K g) (hs : Sees g s.heap) (hv : (RScript script).r g v) (hP : s.heap.get? P = some (tabObj #[])) (hgP : g P = none) (low : ∃ a o, 1 ≤ a ∧ a ≠ P ∧ s.heap.get? a = some o) :
    codeAny (model pw w) A (.call (.ref a) ⟨[v], []⟩) (fun r s' => ∃ g' ps, r = .ok (.ret (.bool true)) ∧ Step g { s with heap := s.heap.hide P } g' s' ∧ s'.heap.get? P = some (tabObj ps)) s := by
  obtain ⟨⟨o, hKf, hd, hf1⟩, ⟨c, oc, fs, t, e, hc, hcd, hq⟩⟩ := hf
  have hbody : (fdOf (stAt 21) "law" pm cd doc).body = .stmts (bodyOf (stAt 21)) := rfl
  have hbind : bindArgs (fdOf (stAt 21) "law" pm cd doc) ⟨[v], []⟩ = pure ((["script"] : List Str).zip [v]) := rfl
  refine codeAny_call_cells (by (exact Nat.lt_of_le_of_lt (Nat.le_add_right _ _) (by assumption))) (hs _ _ (hK _ _ hKf)) hd hlim ⟨c, oc, fs, t, e, hs _ _ (hK _ _ hc), hcd, hq⟩ hbody hbind rfl (fun x hx => ?_) (fun s₁ x => ?_) rfl rfl rfl
  · have hx' : x = ((("script" : Str)), v) := List.mem_singleton.mp hx
    subst hx'
    exact .inr ⟨rfl, rfl⟩
  · have low' : ∃ a o, 1 ≤ a ∧ s.heap.get? a = some o := let ⟨a, o, h1, _, h2⟩ := low; ⟨a, o, h1, h2⟩
    have fm := Fm.called (f := a) (fd := fdOf (stAt 21) "law" pm cd doc) (n := 5) (names := ["script"]) (Rs := [RScript script]) (vals := [v]) low' hh (by lia) (by lia) hlim hK hs ⟨hv, trivial⟩ rfl rfl rfl (by decide) (fun x hx => by rw [List.mem_singleton.mp hx]; exact .inr ⟨rfl, rfl⟩) x
    have fm : Fm K (LF pm cd doc a A g s) ⟨[("script", RScript script)], none⟩ g s₁ := fm
    refine wp_of (law_body L T script hn M fm hP hgP low room units) fun fl s' ⟨g', ps, e, st, hp⟩ => ?_
    subst e
    exact ⟨g', ps, rfl, st, hp⟩
end
end Mine
end
section
open PySem PySem.W PyProof.Rows PySem.Calls PySem.SeqAt
set_option maxRecDepth 100000
set_option linter.unusedVariables false
set_option linter.unusedSectionVars false
set_option maxHeartbeats 1000000
namespace Mine
noncomputable abbrev rw' : RowW := PySem.Challenge.rw_wz0020_01.row.toRowW
section
variable {R : WRecords} {cl : Str → Option Addr} {P : Params} {ord : List DictEntry → List DictEntry}
theorem ints_lay : ∀ (xs : List WData) (s : Shared) (r : List Value × Shared), (∀ x ∈ xs, ∃ i, x = WData.int i) → layAllW R cl P ord xs s = some r → r.2.heap = s.heap ∧ ∃ ns : List Int, ns.length = xs.length ∧ ∀ g, All2 g (ns.map RI) r.1
  | [], s, r, _, e => by
    have : layAllW R cl P ord [] s = some ([], s) := by simp [layAllW]
    rw [this] at e; cases e
    exact ⟨rfl, [], rfl, fun _ => trivial⟩
  | x :: xs, s, r, h, e => by
    obtain ⟨i, rfl⟩ := h x List.mem_cons_self
    simp only [layAllW, layW] at e
    cases q : layAllW R cl P ord xs { s with toks := s.toks + 1 } with
    | none => rw [q] at e; cases e
    | some r' =>
      rw [q] at e; cases e
      obtain ⟨h1, ns, h2, h3⟩ := ints_lay xs _ r' (fun y hy => h y (List.mem_cons_of_mem _ hy)) q
      exact ⟨h1, i :: ns, by rw [List.length_cons, h2, List.length_cons], fun g => ⟨⟨_, rfl⟩, h3 g⟩⟩
theorem items_int : ∀ (xs : List WData), WShape.hasItems R xs .int = true → ∀ x ∈ xs, ∃ i, x = WData.int i
  | [], _, x, hx => by cases hx
  | y :: xs, h, x, hx => by
    simp only [WShape.hasItems, Bool.and_eq_true] at h
    rcases List.mem_cons.mp hx with rfl | hx
    · exact hasW_int h.1
    · exact items_int xs h.2 x hx
end
theorem args_are {args : List WData} (hpre : rw'.claim.pre args = true) : ∃ xs, args = [.list xs] ∧ (∀ x ∈ xs, ∃ i, x = WData.int i) ∧ xs.length ≤ 63 := by
  obtain ⟨h1, h2⟩ := pre_splitW hpre
  obtain ⟨d, r, rfl, hd, hr⟩ := hasAllW_cons (e := .list .int) (es := []) h1
  have hr := hasAllW_nil hr
  subst hr
  obtain ⟨xs, rfl, hx⟩ := hasW_list hd
  refine ⟨xs, rfl, items_int xs hx, ?_⟩
  have h3 : (WTm.and (.not (.lt (.lit (.int 63)) (.len (.arg 0)))) (.lit (.bool true))).holds [] { args := [.list xs] } = true := h2
  by_cases hl : xs.length ≤ 63
  · exact hl
  · exfalso
    have : (63 : Int) < xs.length := by omega
    simp [WTm.holds, WTm.value, less?, Num.less?, this] at h3
theorem step_kept {g g' : View} {s s' : Shared} {P : Addr} (st : Step g { s with heap := s.heap.hide P } g' s') {b : Addr} {o : Obj} (h : s.heap.get? b = some o) (hb : b ≠ P) : s'.heap.get? b = some o :=
  st.keep b o (by show (s.heap.hide P).get? b = some o; rw [Heap.hide_ne _ hb]; exact h)
theorem row_holds (M : ∀ c0 c1 c2 c3 : Nat, LawM c0 c1 c2 c3) (said : PySem.Challenge.rw_wz0020_01.row.wellSaid = true) (hw : rw'.promised) (hb : pw.bare) (ho : opensWell pw = true) : PySem.Challenge.rw_wz0020_01.row.Holds := by
  refine ⟨said, hw, ⟨hb, ho, rfl⟩, hw.witness, fun w => ?_⟩
  obtain ⟨sA, s0, s, hA, hf, hg0, ⟨hT, hz, hgens, s11, r, x, O⟩⟩ := top_done w
  refine ⟨⟨sA, hA⟩, fun s' hs' => ?_⟩
  obtain rfl : s' = sA := AfterImport.unique hs' hA
  have f := x.facts
  obtain ⟨L⟩ := kv_lk f O
  have T := kv_lt f O
  obtain ⟨pm, doc, hlaw⟩ := O.h21
  have hlawK := hlaw.up (kv_g f O)
  have glb : ∀ k, globalOf s.heap k = r.mg (mg0 s11) k := fun k => Claim2Try.globalOf_of_ns O.ti.main.g k
  have hPt : s.heap.get? r.P = some (tabObj #[]) := O.tab.2
  refine ⟨s0, hf, hg0, s, hT, fun n hn => ?_, fun x hx => (nomatch hx), fun x hx => (nomatch hx), ?_⟩
  · have hn' : n = "law" := by
      have : n ∈ [("law" : Str)] := hn
      exact List.mem_singleton.mp this
    subst hn'
    obtain ⟨⟨o, h1, h2, h3⟩, _⟩ := hlaw
    refine ⟨r.a21, o, _, parOf (stAt 21), bodyOf (stAt 21), scOf (stAt 21), (glb _).trans rfl, O.ti.sees _ _ h1, h2, by kernel_rfl, rfl, rfl, rfl, rfl, rfl, rfl, rfl, rfl, .inl ⟨df21.df, rfl⟩, [], by kernel_rfl, .inl ⟨rfl, rfl⟩⟩
  refine ClaimW.callFrom_of_specG (c := rw'.claim) hz hgens fun args hpre hlay ord hord => ?_
  obtain ⟨xs, rfl, hxs, hlen⟩ := args_are hpre
  obtain ⟨⟨vs, s₁⟩, hlaid⟩ := Option.isSome_iff_exists.mp (layAllW_isSome (R := rw'.records) (cl := classAt s.heap) (P := w.params) (ord := ord) (fun c hc => (nomatch hc)) [.list xs] rw'.args s (pre_splitW hpre).1)
  have keeps := layAllW_keeps _ _ _ hlaid
  have hal := layAllW_rest _ _ _ hlaid
  obtain ⟨as, hrd, hin, hold⟩ := reads_layAllW hord _ _ _ hlaid hlay s₁.heap (fun _ _ e => e)
  have Ld : Laid rw'.records w s s₁ [.list xs] vs as := ⟨⟨ord, hord, hlaid⟩, hrd, hin, hold, keeps, hal.1.trans hgens, hal.2.2.1⟩
  refine ⟨vs, s₁, hlaid, ?_⟩
  obtain ⟨v, hvs, script, hsl, gA, hKA, hsA, hvA, hgP⟩ : ∃ v, vs = [v] ∧ ∃ script : List Int, script.length ≤ 1000 ∧ ∃ gA : View, VLe (KV r.P s) gA ∧ Sees gA s₁.heap ∧ (RScript script).r gA v ∧ gA r.P = none := by
    have e := hlaid
    simp only [layAllW, layW] at e
    cases q : layAllW rw'.records (classAt s.heap) w.params ord xs s with
    | none => rw [q] at e; cases e
    | some rr =>
      rw [q] at e
      obtain ⟨e1, ns, e2, e3⟩ := ints_lay xs s rr hxs q
      simp only [Option.some.injEq, Prod.mk.injEq] at e
      obtain ⟨ea, es⟩ := e
      have hnew : s₁.heap.get? s.heap.objs.size = some { cls := .type "list", data := .seq rr.1.toArray } := by
        rw [← es, e1]; exact Heap.get?_push_size _ rfl
      have hPlt : r.P < s.heap.objs.size := Heap.lt_size hPt
      refine ⟨.ref rr.2.heap.objs.size, ea.symm, ns, by lia, (KV r.P s).add s.heap.objs.size { cls := .type "list", data := .seq rr.1.toArray }, View.le_add ?_, fun a o h => ?_, ?_, ?_⟩
      · unfold KV; split
        · rfl
        · exact get_size _
      · unfold View.add at h
        split at h
        · rename_i q; subst q; cases h; exact hnew
        · exact keeps _ _ (kv_sees r.P s a o h)
      · rw [e1]
        exact ⟨s.heap.objs.size, rr.1, rfl, ⟨0, View.add_self _ _ _⟩, e3 _⟩
      · unfold View.add
        rw [if_neg (Nat.ne_of_lt hPlt)]
        exact if_pos rfl
  subst hvs
  have hmain : s₁.heap.Ns mainGlobals (r.mg (mg0 s11)) := O.ti.main.g.keeps keeps
  have hlim : s₁.heap.NoLimit := by
    obtain ⟨mc, a, b⟩ := kv_stat f O f.lim s₁.heap (fun a o e => keeps _ _ (kv_sees r.P s a o e))
    exact ⟨mc, a, b⟩
  have hPt₁ : s₁.heap.get? r.P = some (tabObj #[]) := keeps _ _ hPt
  have low : ∃ a o, 1 ≤ a ∧ a ≠ r.P ∧ s₁.heap.get? a = some o := by
    obtain ⟨o, es, ep, e, _⟩ := O.ti.main.g
    obtain ⟨o', _, _, e', _⟩ := Heap.Ns.of_isNs f.ng
    exact ⟨mainGlobals, o, by decide, Nat.ne_of_lt (O.high _ _ e'), keeps _ _ e⟩
  have hc := law_call (A := callerA) L T hlawK script hsl M rfl (by decide +kernel) (by decide +kernel) hlim hKA hsA hvA hPt₁ hgP low
  show wpAny (model pw w) callerA (do match ← nsGet mainNs "law" with
      | some f => do ret (← PySem.call f [v])
      | none => unsupported "claim.caller:no-such-global") _ _ s₁
  have hf : r.mg (mg0 s11) "law" = some (.ref r.a21) := rfl
  have h : wpAny (model pw w) callerA (PySem.call (.ref r.a21) [v]) (fun u s' => GoodWG rw'.claim (classAt s.heap) (ExcName.means s.heap) [.list xs] s₁ (.ok (.ret u)) s') (fun e s' => GoodWG rw'.claim (classAt s.heap) (ExcName.means s.heap) [.list xs] s₁ (.error e) s') s₁ := by
    refine wpAny_call (codeAny_mono hc fun r' s' ⟨g', ps, e, st, hp⟩ => ?_)
    subst e
    obtain ⟨h', t', es⟩ := st.same
    refine ⟨.inl ⟨.bool true, .bool true, [], rfl, fun _ => rfl, .bool true, by kernel_rfl, fun _ => ⟨List.nodup_nil, fun a ha => (nomatch ha)⟩⟩, ⟨fun b o hb => ?_, fun b o hb => ?_⟩, by rw [es], .of_eq (by rw [es]; exact Ld.gens)⟩
    · by_cases q : b = r.P
      · subst q
        rw [hPt₁] at hb; cases hb
        obtain ⟨⟨oc, vs, c1, c2, c3, c4⟩, _⟩ := O.tab
        exact .inr (.inl ⟨⟨r.cL, oc, vs, keeps _ _ c1, c2, c3, c4⟩, rfl, #[], ps, rfl, by rw [hp]; simp⟩)
      · exact .inl (step_kept st hb q)
    · by_cases q : b = r.P
      · subst q; exact ⟨_, hp⟩
      · exact ⟨o, step_kept st hb q⟩
  have hi := ident_freeW (r := rw') rfl rfl rfl
  refine wpAny_bind (wpAny_nsGet hmain ?_)
  rw [hf]
  refine wpAny_bind (wpAny_mono h (fun u s' g => wpAny_pure ⟨_, rfl, ?_⟩) fun e s' g => ?_)
  · have z := g.laid (c := rw'.claim) rfl rfl hi Ld
    exact ⟨z.1, z.2.1, z.2.2, fun q => (nomatch q)⟩
  · have z := g.laid (c := rw'.claim) rfl rfl hi Ld
    exact ⟨z.1, z.2.1, z.2.2, fun q => (nomatch q)⟩
end Mine
end
section
open PySem PySem.W PyProof.Rows PySem.Calls PySem.SeqAt
set_option maxRecDepth 100000
set_option maxHeartbeats 1000000
namespace Mine
theorem ws_ok : PySem.Challenge.rw_wz0020_01.wellSaid = true := by
  unfold OpenLaw.wellSaid
  repeat' with_reducible refine look_both ?_ ?_
  all_goals try unfold OpenRow.wellSaid
  repeat' with_reducible refine look_both ?_ ?_
  all_goals try unfold OpenRow.partSaid
  repeat' with_reducible refine look_both ?_ ?_
  all_goals try unfold looksOpen
  repeat' with_reducible refine look_both ?_ ?_
  all_goals decide +kernel
theorem rw_promised : rw'.promised := ⟨[.list []], by kernel_rfl, by kernel_rfl⟩
theorem pw_bare : pw.bare := ⟨by kernel_rfl, by kernel_rfl, by kernel_rfl, by kernel_rfl, by kernel_rfl, by kernel_rfl⟩
theorem pw_opens : opensWell pw = true := by kernel_rfl
theorem law_holds (M : ∀ c0 c1 c2 c3 : Nat, LawM c0 c1 c2 c3) : PySem.Challenge.rw_wz0020_01.Holds := ⟨ws_ok, row_holds M (row_said ws_ok) rw_promised pw_bare pw_opens⟩
end Mine
end
section
open PySem PySem.W PyProof.Rows
set_option maxRecDepth 100000
set_option linter.unusedVariables false
set_option maxHeartbeats 400000
namespace Mine
/-! tables of one weight -/
theorem foldl_add (l : List Int) : ∀ a : Int, l.foldl (· + ·) a = a + l.sum := by
  induction l with
  | nil => intro a; simp
  | cons x l ih => intro a; rw [List.foldl_cons, ih, List.sum_cons]; (simp +arith)
theorem isum_eq (l : List Int) : isum l = l.sum := by unfold isum; rw [foldl_add]; simp
section
variable {Kt : Type} [DecidableEq Kt]
theorem has_iff {l : List (Kt × Int)} {k : Kt} : has l k = true ↔ k ∈ l.map (·.1) := by
  unfold has
  rw [List.any_eq_true, List.mem_map]
  constructor
  · rintro ⟨p, hp, e⟩; exact ⟨p, hp, of_decide_eq_true e⟩
  · rintro ⟨p, hp, e⟩; exact ⟨p, hp, decide_eq_true e⟩
theorem put_new {l : List (Kt × Int)} {k : Kt} {v : Int} (h : k ∉ l.map (·.1)) : put l k v = l ++ [(k, v)] := by
  have : ¬ has l k = true := fun q => h (has_iff.mp q)
  unfold put
  unfold has at this
  rw [if_neg this]
theorem laid_id (l : List (Kt × Int)) : ∀ acc : List (Kt × Int), ((acc ++ l).map (·.1)).Nodup → l.foldl (fun acc p => put acc p.1 p.2) acc = acc ++ l := by
  induction l with
  | nil => intro acc _; simp
  | cons p l ih =>
    intro acc h
    rw [List.foldl_cons]
    have hn : p.1 ∉ acc.map (·.1) := fun q => by
      rw [List.map_append, List.map_cons, List.nodup_append] at h
      exact h.2.2 p.1 q p.1 List.mem_cons_self rfl
    rw [put_new hn, ih _ (by simpa using h)]
    simp
structure Inv (c : Int) (ks : List Kt) (T : List (Kt × Int)) : Prop where
  nd : (T.map (·.1)).Nodup
  keys : ∀ k, k ∈ T.map (·.1) ↔ k ∈ ks
  low : ∀ p ∈ T, c ≤ p.2
  same : ks.Nodup → T = ks.map fun k => (k, c)
  dup : ¬ ks.Nodup → ∃ p ∈ T, 2 * c ≤ p.2
  sum : (T.map (·.2)).sum = c * ks.length
theorem upd_keys (T : List (Kt × Int)) (k : Kt) (v : Int) : (T.map fun p => if p.1 = k then (p.1, v) else p).map (·.1) = T.map (·.1) := by
  rw [List.map_map]
  refine List.map_congr_left fun p _ => ?_
  show (if p.1 = k then (p.1, v) else p).1 = p.1
  split <;> rfl
theorem upd_sum : ∀ (T : List (Kt × Int)) (k : Kt) (c : Int), (T.map (·.1)).Nodup → k ∈ T.map (·.1) → ((T.map fun p => if p.1 = k then (p.1, getI T k + c) else p).map (·.2)).sum = (T.map (·.2)).sum + c
  | [], k, c, _, h => by simp at h
  | p :: T, k, c, hn, h => by
    rw [List.map_cons, List.nodup_cons] at hn
    by_cases e : p.1 = k
    · have hg : getI (p :: T) k = p.2 := by simp [getI, e]
      have hT : (T.map fun q => if q.1 = k then (q.1, p.2 + c) else q) = T := by
        have : ∀ q ∈ T, (if q.1 = k then (q.1, p.2 + c) else q) = q := fun q hq => by
          rw [if_neg]
          intro e'
          exact hn.1 (by rw [e, ← e']; exact List.mem_map.mpr ⟨q, hq, rfl⟩)
        exact (List.map_congr_left this).trans (List.map_id T)
      rw [hg, List.map_cons, if_pos e, hT]
      simp; (simp +arith)
    · have hk : k ∈ T.map (·.1) := by
        rw [List.map_cons] at h
        rcases List.mem_cons.mp h with h | h
        · exact absurd h.symm e
        · exact h
      have hg : getI (p :: T) k = getI T k := by simp [getI, e]
      have ih := upd_sum T k c hn.2 hk
      rw [hg, List.map_cons, if_neg e, List.map_cons, List.sum_cons, ih, List.map_cons, List.sum_cons]; (simp +arith)
theorem getI_mem : ∀ {T : List (Kt × Int)} {k : Kt}, k ∈ T.map (·.1) → (k, getI T k) ∈ T
  | [], k, h => by simp at h
  | p :: T, k, h => by
    by_cases e : p.1 = k
    · have hg : getI (p :: T) k = p.2 := by simp [getI, e]
      rw [hg, ← e]; exact List.mem_cons_self
    · have hg : getI (p :: T) k = getI T k := by simp [getI, e]
      rw [hg]
      rw [List.map_cons] at h
      rcases List.mem_cons.mp h with h | h
      · exact absurd h.symm e
      · exact List.mem_cons_of_mem _ (getI_mem h)
theorem Inv.step {c : Int} {ks : List Kt} {T : List (Kt × Int)} (hc : 0 ≤ c) (x : Inv c ks T) (k : Kt) : Inv c (ks ++ [k]) (addC T [(k, c)]) := by
  have hl : laid T = T := by
    have := laid_id T [] (by simpa using x.nd)
    simpa [laid] using this
  have e : addC T [(k, c)] = put T k (if has T k then getI T k + c else c) := by
    show addOne (laid T) (k, c) = _
    rw [hl]; rfl
  rw [e]
  by_cases h : k ∈ T.map (·.1)
  · have hh : has T k = true := has_iff.mpr h
    have hks := (x.keys k).mp h
    have hput : put T k (if has T k then getI T k + c else c) = T.map fun p => if p.1 = k then (p.1, getI T k + c) else p := by
      rw [if_pos hh]; unfold put; unfold has at hh; rw [if_pos hh]
    rw [hput]
    have hnn : ¬ (ks ++ [k]).Nodup := fun q => (List.nodup_append.mp q).2.2 k hks k (by simp) rfl
    have hg := getI_mem h
    refine ⟨by rw [upd_keys]; exact x.nd, fun y => ?_, fun p hp => ?_, fun q => absurd q hnn, fun _ => ⟨(k, getI T k + c), List.mem_map.mpr ⟨(k, getI T k), hg, if_pos rfl⟩, ?_⟩, ?_⟩
    · rw [upd_keys, x.keys, List.mem_append, List.mem_singleton]
      exact ⟨.inl, fun q => q.elim id fun q => q ▸ hks⟩
    · obtain ⟨q, hq, rfl⟩ := List.mem_map.mp hp
      have := x.low q hq
      have h2 := x.low _ hg
      split
      · show c ≤ getI T k + c; dsimp only at h2; lia
      · exact this
    · have := x.low _ hg; show 2 * c ≤ getI T k + c; dsimp only at this; omega
    · rw [upd_sum T k c x.nd h, x.sum, List.length_append, List.length_singleton]
      rw [Int.natCast_add, Int.mul_add]; simp
  · have hh : ¬ has T k = true := fun q => h (has_iff.mp q)
    rw [if_neg hh, put_new h]
    have hks : k ∉ ks := fun q => h ((x.keys k).mpr q)
    refine ⟨?_, fun y => ?_, fun p hp => ?_, fun q => ?_, fun q => ?_, ?_⟩
    · rw [List.map_append, List.nodup_append]
      refine ⟨x.nd, by simp, ?_⟩
      intro a ha b hb e'
      rw [List.map_cons, List.map_nil, List.mem_singleton] at hb
      exact h (by have hb' : b = k := hb; rw [← hb', ← e']; exact ha)
    · rw [List.map_append, List.mem_append, x.keys, List.mem_append]; rfl
    · rcases List.mem_append.mp hp with hp | hp
      · exact x.low p hp
      · rw [List.mem_singleton.mp hp]; exact Int.le_refl _
    · rw [x.same (List.nodup_append.mp q).1, List.map_append]; rfl
    · have hn : ¬ ks.Nodup := fun z => q (by
        rw [List.nodup_append]
        refine ⟨z, by simp, ?_⟩
        intro a ha b hb e'
        rw [List.mem_singleton] at hb
        exact hks (by rw [← hb, ← e']; exact ha))
      obtain ⟨p, hp, hv⟩ := x.dup hn
      exact ⟨p, List.mem_append.mpr (.inl hp), hv⟩
    · rw [List.map_append, List.sum_append, x.sum, List.length_append, List.length_singleton, Int.natCast_add, Int.mul_add]; simp
theorem tabOf_snoc (ps : List (Kt × Int)) (p : Kt × Int) : tabOf (ps ++ [p]) = addC (tabOf ps) [p] := by
  unfold tabOf; rw [List.foldl_append]; rfl
theorem inv_tab {c : Int} (hc : 0 ≤ c) (ks : List Kt) : Inv c ks (tabOf (ks.map fun k => (k, c))) := by
  have key : ∀ n, n ≤ ks.length → Inv c (ks.take n) (tabOf ((ks.take n).map fun k => (k, c))) := by
    intro n
    induction n with
    | zero => intro _; exact ⟨List.nodup_nil, fun _ => Iff.rfl, fun p hp => (nomatch hp), fun _ => rfl, fun h => absurd List.nodup_nil h, by simp [tabOf]⟩
    | succ n ih =>
      intro h
      have e : ks.take (n + 1) = ks.take n ++ [ks[n]] := by rw [List.take_add_one, List.getElem?_eq_getElem (by assumption)]; rfl
      rw [e, List.map_append, List.map_cons, List.map_nil, tabOf_snoc]
      exact (ih (by (exact Nat.le_of_lt (by assumption)))).step hc _
  have := key ks.length (Nat.le_refl _)
  rwa [List.take_length] at this
theorem max_one {c : Int} (hc : 0 < c) {ks : List Kt} (h0 : ks ≠ []) : (maxL ((tabOf (ks.map fun k => (k, c))).map (·.2)) == c) = decide ks.Nodup := by
  have x := inv_tab (Int.le_of_lt hc) ks
  by_cases h : ks.Nodup
  · rw [x.same h, decide_eq_true h, List.map_map]
    have hne : (ks.map ((fun p : Kt × Int => p.2) ∘ fun k => (k, c))) ≠ [] := by simpa using h0
    obtain ⟨k, _, e⟩ := List.mem_map.mp (maxL_ok hne).1
    rw [← e]; simp
  · rw [decide_eq_false h]
    obtain ⟨p, hp, hv⟩ := x.dup h
    have hm : p.2 ∈ (tabOf (ks.map fun k => (k, c))).map (·.2) := List.mem_map.mpr ⟨p, hp, rfl⟩
    have := (maxL_ok (List.ne_nil_of_mem hm)).2 _ hm
    rw [beq_eq_false_iff_ne]; lia
end
end Mine
end
section
open PySem PySem.W PyProof.Rows
set_option maxRecDepth 100000
set_option linter.unusedVariables false
set_option maxHeartbeats 400000
namespace Mine
/-! Gilbreath's facts: 32 riffles, 36 swaps -/
noncomputable def rifT : List (List Nat) := [[1, 2, 3, 4, 5, 6], [2, 1, 3, 4, 5, 6], [2, 3, 1, 4, 5, 6], [3, 2, 1, 4, 5, 6], [2, 3, 4, 1, 5, 6], [3, 2, 4, 1, 5, 6], [3, 4, 2, 1, 5, 6], [4, 3, 2, 1, 5, 6], [2, 3, 4, 5, 1, 6], [3, 2, 4, 5, 1, 6], [3, 4, 2, 5, 1, 6], [4, 3, 2, 5, 1, 6], [3, 4, 5, 2, 1, 6], [4, 3, 5, 2, 1, 6], [4, 5, 3, 2, 1, 6], [5, 4, 3, 2, 1, 6], [2, 3, 4, 5, 6, 1], [3, 2, 4, 5, 6, 1], [3, 4, 2, 5, 6, 1], [4, 3, 2, 5, 6, 1], [3, 4, 5, 2, 6, 1], [4, 3, 5, 2, 6, 1], [4, 5, 3, 2, 6, 1], [5, 4, 3, 2, 6, 1], [3, 4, 5, 6, 2, 1], [4, 3, 5, 6, 2, 1], [4, 5, 3, 6, 2, 1], [5, 4, 3, 6, 2, 1], [4, 5, 6, 3, 2, 1], [5, 4, 6, 3, 2, 1], [5, 6, 4, 3, 2, 1], [6, 5, 4, 3, 2, 1]]
noncomputable def numT : List Nat := [654321, 654312, 654132, 654123, 651432, 651423, 651243, 651234, 615432, 615423, 615243, 615234, 612543, 612534, 612354, 612345, 165432, 165423, 165243, 165234, 162543, 162534, 162354, 162345, 126543, 126534, 126354, 126345, 123654, 123645, 123465, 123456]
noncomputable def lineN (b one two : Nat) : List Nat := (List.range 6).map fun p => (rifT.getD b []).getD (if p = one then two else if p = two then one else p) 0
noncomputable def nodB : List Nat → Bool
  | [] => true
  | a :: l => !l.contains a && nodB l
noncomputable def uN (line : List Nat) (c t : Nat) : Bool := nodB (((line.drop (t * c)).take c).map (· % c))
noncomputable def sec1G (u : Nat → Nat → Bool) (c : Nat) (b : Bool) : Nat → Bool
  | 0 => b
  | t + 1 => sec1G u c b t && (u c t || decide ((t : Int) > 0))
noncomputable def thi1G (u : Nat → Nat → Bool) (c : Nat) (b : Bool) : Nat → Bool
  | 0 => b
  | t + 1 => thi1G u c b t && u c t
noncomputable def sec0G (u : Nat → Nat → Bool) : Nat → Bool
  | 0 => true
  | k + 1 => sec1G u (k + 1) (sec0G u k) (6 / (k + 1))
noncomputable def thi0G (u : Nat → Nat → Bool) : Nat → Bool
  | 0 => true
  | k + 1 => thi1G u (k + 1) (thi0G u k) (6 / (k + 1))
noncomputable def numN (l : List Nat) : Nat := (l.zipIdx.map fun p => 10 ^ p.2 * p.1).sum
noncomputable def maxN : List Nat → Nat
  | [] => 0
  | [a] => a
  | a :: l => let m := maxN l; if m < a then a else m
noncomputable def minN : List Nat → Nat
  | [] => 0
  | [a] => a
  | a :: l => let m := minN l; if a < m then a else m
noncomputable def gapN (line : List Nat) (k : Nat) : Bool := decide (k + 1 + minN (line.take (k + 1)) ≤ maxN (line.take (k + 1)))
noncomputable def permN (line : List Nat) (z : Nat) : Bool := (List.range (6 / z)).all fun t => (((line.drop (t * z)).take z).map fun n => (n - 1) % z).isPerm (List.range z)
noncomputable def chkN (line : List Nat) : Bool :=
  let f := numT.contains (numN line)
  (sec0G (uN line) 6 == f) && (thi0G (uN line) 6 == f) && ((List.range 6).all (fun k => !gapN line k) == f) && (!f || (permN line 2 && permN line 3))
theorem line_comm (b one two : Nat) : lineN b one two = lineN b two one := by
  unfold lineN
  refine List.map_congr_left fun p _ => ?_
  have : (if p = one then two else if p = two then one else p) = (if p = two then one else if p = one then two else p) := by
    by_cases h : p = one <;> by_cases k : p = two
    · rw [if_pos h, if_pos k, ← h, ← k]
    · rw [if_pos h, if_neg k, if_pos h]
    · rw [if_neg h, if_pos k, if_pos k]
    · rw [if_neg h, if_neg k, if_neg k, if_neg h]
  rw [this]
theorem line_same (b one : Nat) : lineN b one one = lineN b 0 0 := by
  unfold lineN
  refine List.map_congr_left fun p _ => ?_
  have h : ∀ a : Nat, (if p = a then a else if p = a then a else p) = p := fun a => by
    by_cases h : p = a
    · rw [if_pos h, h]
    · rw [if_neg h, if_neg h]
  rw [h, h]
noncomputable def chkB (b : Nat) : Bool := chkN (lineN b 0 0) && (List.range 6).all fun two => (List.range two).all fun one => chkN (lineN b one two)
theorem chkB0 : (List.range' 0 4).all chkB = true := by decide +kernel
theorem chkB1 : (List.range' 4 4).all chkB = true := by decide +kernel
theorem chkB2 : (List.range' 8 4).all chkB = true := by decide +kernel
theorem chkB3 : (List.range' 12 4).all chkB = true := by decide +kernel
theorem chkB4 : (List.range' 16 4).all chkB = true := by decide +kernel
theorem chkB5 : (List.range' 20 4).all chkB = true := by decide +kernel
theorem chkB6 : (List.range' 24 4).all chkB = true := by decide +kernel
theorem chkB7 : (List.range' 28 4).all chkB = true := by decide +kernel
theorem chkB_all (b : Nat) (hb : b < 32) : chkB b = true := by
  have f : ∀ {n : Nat}, (List.range' n 4).all chkB = true → n ≤ b → b < n + 4 → chkB b = true := fun h h1 h2 => List.all_eq_true.mp h b (List.mem_range'_1.mpr ⟨h1, h2⟩)
  rcases Nat.lt_or_ge b 16 with h | h
  · rcases Nat.lt_or_ge b 8 with k | k
    · rcases Nat.lt_or_ge b 4 with l | l
      · exact f chkB0 (Nat.zero_le _) l
      · exact f chkB1 l k
    · rcases Nat.lt_or_ge b 12 with l | l
      · exact f chkB2 k l
      · exact f chkB3 l h
  · rcases Nat.lt_or_ge b 24 with k | k
    · rcases Nat.lt_or_ge b 20 with l | l
      · exact f chkB4 h l
      · exact f chkB5 l k
    · rcases Nat.lt_or_ge b 28 with l | l
      · exact f chkB6 k l
      · exact f chkB7 l hb
theorem chk_lt {b one two : Nat} (hb : b < 32) (h2 : two < 6) (h : one < two) : chkN (lineN b one two) = true := by
  have k := (Bool.and_eq_true_iff.mp (chkB_all b hb)).2
  exact List.all_eq_true.mp (List.all_eq_true.mp k two (List.mem_range.mpr h2)) one (List.mem_range.mpr h)
theorem chk_all : ∀ b < 32, ∀ one < 6, ∀ two < 6, chkN (lineN b one two) = true := by
  intro b hb one h1 two h2
  rcases Nat.lt_trichotomy one two with h | h | h
  · exact chk_lt hb h2 h
  · rw [h, line_same]; exact (Bool.and_eq_true_iff.mp (chkB_all b hb)).1
  · rw [line_comm]; exact chk_lt hb h1 h
theorem rif_tab : ∀ b < 64, (rif ((b : Nat) : Int) 6).1 = (rifT.getD (b / 2) []).map fun (n : Nat) => (n : Int) := by decide +kernel
theorem ways_tab : waysL.map (·.1) = numT.map fun (n : Nat) => (n : Int) := by decide +kernel
end Mine
end
section
open PySem PySem.W PyProof.Rows
set_option maxRecDepth 100000
set_option linter.unusedVariables false
set_option maxHeartbeats 400000
namespace Mine
/-! from the law's own words to the facts about naturals -/
noncomputable abbrev lineM (c1 c2 : Nat) : List Nat := lineN (c1 % 64 / 2) (oneN c2) (twoN c2)
theorem map_getD0 {α β : Type} (l : List α) (f : α → β) (d : α) (i : Nat) : (l.map f).getD i (f d) = f (l.getD i d) := by
  rw [List.getD_eq_getElem?_getD, List.getElem?_map, List.getD_eq_getElem?_getD]
  cases l[i]? <;> rfl
theorem line_nat (c1 c2 : Nat) : lineL c1 c2 = (lineM c1 c2).map fun (n : Nat) => (n : Int) := by
  unfold lineL lineM lineN
  rw [List.map_map]
  refine List.map_congr_left fun p _ => ?_
  unfold lineA
  rw [rif_tab _ (Nat.mod_lt _ (by decide))]
  exact map_getD0 _ (fun (n : Nat) => (n : Int)) 0 _
theorem lineN_len (b one two : Nat) : (lineN b one two).length = 6 := by simp [lineN]
theorem chk_line (c1 c2 : Nat) : chkN (lineM c1 c2) = true := chk_all _ (by lia) _ (one_lt c2) _ (two_lt c2)
noncomputable def shiftN (c3 : Nat) : Nat := c3 % 3 + 1
theorem dots_nat (c1 c2 c3 : Nat) : dotsL c1 c2 c3 = (lineM c1 c2).map fun (n : Nat) => (n : Int) + (shiftN c3 : Int) := by
  unfold dotsL
  rw [line_nat, List.map_map]
  refine List.map_congr_left fun n _ => ?_
  show (n : Int) + ((c3 % 3 : Nat) : Int) + 1 = _
  unfold shiftN; (exact rfl)
theorem nodB_iff : ∀ (l : List Nat), nodB l = decide l.Nodup
  | [] => by simp [nodB]
  | a :: l => by
    unfold nodB
    rw [nodB_iff l]
    by_cases h : a ∈ l
    · have h1 : l.contains a = true := List.contains_iff_mem.mpr h
      rw [h1]; simp [h]
    · have h1 : l.contains a = false := by
        cases q : l.contains a with
        | false => rfl
        | true => exact absurd (List.contains_iff_mem.mp q) h
      rw [h1]; simp [h]
theorem nodup_like {α β γ : Type} {f : α → β} {g : α → γ} (h : ∀ a b, f a = f b ↔ g a = g b) : ∀ (l : List α), (l.map f).Nodup ↔ (l.map g).Nodup
  | [] => by simp
  | a :: l => by
    rw [List.map_cons, List.map_cons, List.nodup_cons, List.nodup_cons, nodup_like h l]
    refine and_congr_left fun _ => not_congr ?_
    rw [List.mem_map, List.mem_map]
    exact ⟨fun ⟨x, hx, e⟩ => ⟨x, hx, (h x a).mp e⟩, fun ⟨x, hx, e⟩ => ⟨x, hx, (h x a).mpr e⟩⟩
theorem mod_like (s c : Nat) (a b : Nat) : ((a : Int) + (s : Int)).fmod (c : Int) = ((b : Int) + (s : Int)).fmod (c : Int) ↔ a % c = b % c := by
  rw [Int.fmod_eq_emod_of_nonneg _ (by simp), Int.fmod_eq_emod_of_nonneg _ (by omega), Int.emod_add_cancel_right]
  constructor
  · intro h
    have h' : ((a % c : Nat) : Int) = ((b % c : Nat) : Int) := by rw [Int.natCast_emod, Int.natCast_emod]; exact h
    exact Int.ofNat.inj h'
  · intro h
    have h' : ((a % c : Nat) : Int) = ((b % c : Nat) : Int) := by rw [h]
    rw [Int.natCast_emod, Int.natCast_emod] at h'; exact h'
section
variable (line : List Nat) (s : Nat)
noncomputable def shL : List Int := line.map fun (n : Nat) => (n : Int) + (s : Int)
theorem slice_len {line : List Nat} (hl : line.length = 6) {c t : Nat} (ht : t < 6 / c) : ((line.drop (t * c)).take c).length = c := by
  rw [List.length_take, List.length_drop, hl]
  have h1 : (t + 1) * c ≤ 6 := Nat.le_trans (Nat.mul_le_mul_right c ht) (Nat.div_mul_le_self 6 c)
  rw [Nat.add_mul] at h1
  lia
theorem rem_is (c t : Nat) : remD c (sliceD (shL line s) c t) = (((line.drop (t * c)).take c).map fun (n : Nat) => ((n : Int) + (s : Int)).fmod (c : Int)).map fun k => (k, (c : Int)) := by
  unfold remD sliceD shL
  rw [← List.map_drop, ← List.map_take, List.map_map, List.map_map]; rfl
theorem unl_is {line : List Nat} (hl : line.length = 6) {c t : Nat} (hc : 0 < c) (ht : t < 6 / c) : unl (shL line s) c t = uN line c t := by
  unfold unl tabD uN
  rw [rem_is, max_one (by simp_all), nodB_iff]
  · exact decide_eq_decide.mpr (nodup_like (mod_like s c) _)
  · have := slice_len hl ht
    intro e
    have h0 : ((line.drop (t * c)).take c).length = 0 := by
      have := congrArg List.length e
      simpa using this
    simp_all
theorem sum_is {line : List Nat} (hl : line.length = 6) {c t : Nat} (hc : 0 < c) (ht : t < 6 / c) : isum ((tabD (shL line s) c t).map (·.2)) = ((c * c : Nat) : Int) ∧ (tabD (shL line s) c t).map (·.2) ≠ [] := by
  have h1 : isum ((tabD (shL line s) c t).map (·.2)) = ((c * c : Nat) : Int) := by
    unfold tabD
    rw [rem_is, isum_eq, (inv_tab (by simp) _).sum, List.length_map, slice_len hl ht]
    simp
  refine ⟨h1, fun e => ?_⟩
  rw [e] at h1
  have h2 : (0 : Int) = ((c * c : Nat) : Int) := h1
  have h3 : 0 < c * c := Nat.mul_pos hc hc
  lia
theorem sec1_is {ds : List Int} {u : Nat → Nat → Bool} {c : Nat} {b b' : Bool} (hb : b = b') : ∀ n, (∀ t < n, unl ds c t = u c t) → sec1 ds c b n = sec1G u c b' n
  | 0, _ => hb
  | n + 1, h => by
    show (sec1 ds c b n && _) = (sec1G u c b' n && _)
    rw [sec1_is hb n (fun t ht => h t (by (exact Nat.lt_succ_of_lt (by assumption)))), h n (by (exact Nat.lt_succ_self _))]
theorem thi1_is {ds : List Int} {u : Nat → Nat → Bool} {c : Nat} {b b' : Bool} (hb : b = b') : ∀ n, (∀ t < n, unl ds c t = u c t) → thi1 ds c b n = thi1G u c b' n
  | 0, _ => hb
  | n + 1, h => by
    show (thi1 ds c b n && _) = (thi1G u c b' n && _)
    rw [thi1_is hb n (fun t ht => h t (by (exact Nat.lt_succ_of_lt (by assumption)))), h n (by (exact Nat.lt_succ_self _))]
theorem sec0_is {ds : List Int} {u : Nat → Nat → Bool} (h : ∀ c t, 0 < c → t < 6 / c → unl ds c t = u c t) : ∀ k, sec0 ds k = sec0G u k
  | 0 => rfl
  | k + 1 => sec1_is (sec0_is h k) _ fun t ht => h (k + 1) t (by (exact Nat.succ_pos _)) ht
theorem thi0_is {ds : List Int} {u : Nat → Nat → Bool} (h : ∀ c t, 0 < c → t < 6 / c → unl ds c t = u c t) : ∀ k, thi0 ds k = thi0G u k
  | 0 => rfl
  | k + 1 => thi1_is (thi0_is h k) _ fun t ht => h (k + 1) t (by (exact Nat.succ_pos _)) ht
theorem max_is : ∀ {l : List Nat}, l ≠ [] → maxL (shL l s) = (maxN l : Int) + (s : Int)
  | [], h => absurd rfl h
  | [a], _ => rfl
  | a :: b :: l, _ => by
    have ih := max_is (l := b :: l) (by simp)
    show (if maxL (shL (b :: l) s) < (a : Int) + s then (a : Int) + s else maxL (shL (b :: l) s)) = ((if maxN (b :: l) < a then a else maxN (b :: l) : Nat) : Int) + s
    rw [ih]
    split <;> split <;> (first | exact rfl | (simp_all; done) | omega)
theorem min_is : ∀ {l : List Nat}, l ≠ [] → minL (shL l s) = (minN l : Int) + (s : Int)
  | [], h => absurd rfl h
  | [a], _ => rfl
  | a :: b :: l, _ => by
    have ih := min_is (l := b :: l) (by simp)
    show (if (a : Int) + s < minL (shL (b :: l) s) then (a : Int) + s else minL (shL (b :: l) s)) = ((if a < minN (b :: l) then a else minN (b :: l) : Nat) : Int) + s
    rw [ih]
    split <;> split <;> (first | exact rfl | (simp_all; done) | omega)
theorem gap_is {line : List Nat} (hl : line.length = 6) (k : Nat) : gapB (shL line s) k = gapN line k := by
  unfold gapB gapN
  have e : (shL line s).take (k + 1) = shL (line.take (k + 1)) s := by unfold shL; rw [List.map_take]
  have hne : line.take (k + 1) ≠ [] := fun q => by
    have := congrArg List.length q
    rw [List.length_take, hl] at this
    simp at this
  rw [e, max_is s hne, min_is s hne]
  exact decide_eq_decide.mpr (by grind)
theorem four_is {line : List Nat} (hl : line.length = 6) : fourB (shL line s) = (List.range 6).all fun k => !gapN line k := by
  unfold fourB gapL
  rw [Bool.eq_iff_iff, List.isEmpty_iff, List.map_eq_nil_iff, List.map_eq_nil_iff, List.filter_eq_nil_iff, List.all_eq_true]
  refine forall_congr' fun k => forall_congr' fun _ => ?_
  rw [gap_is s hl]; simp
end
theorem num_is (l : List Nat) : numOf (l.map fun (n : Nat) => (n : Int)) = (numN l : Int) := by
  unfold numOf numN
  have key : ∀ (l : List Nat) (i : Nat), (((l.map fun (n : Nat) => (n : Int)).zipIdx i).map fun p => (10 : Int) ^ p.2 * p.1).sum = (((l.zipIdx i).map fun p => 10 ^ p.2 * p.1).sum : Nat) := fun l => by
    induction l with
    | nil => intro i; rfl
    | cons a l ih =>
      intro i
      rw [List.map_cons, List.zipIdx_cons, List.zipIdx_cons, List.map_cons, List.map_cons, List.sum_cons, List.sum_cons, ih, Int.natCast_add, Int.natCast_mul, Int.natCast_pow]; rfl
  exact key l 0
theorem first_is (c1 c2 : Nat) : firstB c1 c2 = numT.contains (numN (lineM c1 c2)) := by
  unfold firstB
  rw [line_nat, num_is, Bool.eq_iff_iff, has_iff, ways_tab, List.contains_iff_mem, List.mem_map]
  constructor
  · rintro ⟨n, hn, e⟩
    have : n = numN (lineM c1 c2) := Int.ofNat.inj e
    rw [← this]; exact hn
  · exact fun h => ⟨_, h, rfl⟩
theorem facts (c1 c2 c3 : Nat) : sec0 (dotsL c1 c2 c3) 6 = firstB c1 c2 ∧ thi0 (dotsL c1 c2 c3) 6 = firstB c1 c2 ∧ fourB (dotsL c1 c2 c3) = firstB c1 c2 ∧ (firstB c1 c2 = true → permN (lineM c1 c2) 2 = true ∧ permN (lineM c1 c2) 3 = true) := by
  have h := chk_line c1 c2
  have hl : (lineM c1 c2).length = 6 := lineN_len _ _ _
  have e : dotsL c1 c2 c3 = shL (lineM c1 c2) (shiftN c3) := dots_nat c1 c2 c3
  unfold chkN at h
  rw [← first_is] at h
  simp only [Bool.and_eq_true, beq_iff_eq, Bool.or_eq_true, Bool.not_eq_true'] at h
  obtain ⟨⟨⟨h1, h2⟩, h3⟩, h4⟩ := h
  rw [e]
  refine ⟨(sec0_is (fun c t hc ht => unl_is _ hl hc ht) 6).trans h1, (thi0_is (fun c t hc ht => unl_is _ hl hc ht) 6).trans h2, (four_is _ hl).trans h3, fun hf => ?_⟩
  rcases h4 with h4 | h4
  · rw [hf] at h4; cases h4
  · exact h4
theorem m16_is (c1 c2 c3 : Nat) : ∀ k < 6, ∀ t < 6 / (k + 1), isum ((tabD (dotsL c1 c2 c3) (k + 1) t).map (·.2)) = (((k + 1) * (k + 1) : Nat) : Int) ∧ (tabD (dotsL c1 c2 c3) (k + 1) t).map (·.2) ≠ [] := by
  intro k hk t ht
  have e : dotsL c1 c2 c3 = shL (lineM c1 c2) (shiftN c3) := dots_nat c1 c2 c3
  rw [e]
  exact sum_is _ (lineN_len _ _ _) (by (exact Nat.succ_pos _)) ht
end Mine
end
section
open PySem PySem.W PyProof.Rows
set_option maxRecDepth 100000
set_option linter.unusedVariables false
set_option maxHeartbeats 400000
namespace Mine
/-! the letters' tables, the sort -/
theorem letter_at (c0 : Nat) {p : Nat} (hp : p < 6) : (lettersL c0).getD p 0 = [107, 109, 98].getD (p % (2 + c0 % 2)) 0 := by
  unfold lettersL
  rw [List.getD_eq_getElem?_getD, List.getElem?_map, List.getElem?_range hp]; rfl
theorem line_range (c1 c2 : Nat) : ∀ n ∈ lineM c1 c2, 1 ≤ n ∧ n ≤ 6 := by
  intro n hn
  have h : (n : Int) ∈ lineL c1 c2 := by rw [line_nat]; exact List.mem_map.mpr ⟨n, hn, rfl⟩
  have := line_ok c1 c2 _ h
  lia
theorem again_slice (c0 c1 c2 c3 z t : Nat) : (sliceD (againL c0 c1 c2 c3) z t).map (·.2) = (((lineM c1 c2).drop (t * z)).take z).map fun n => toS [(lettersL c0).getD (n - 1) 0] := by
  unfold sliceD againL
  rw [line_nat, List.map_map, ← List.map_drop, ← List.map_take, List.map_map]
  refine List.map_congr_left fun n _ => ?_
  show toS [(lettersL c0).getD ((n : Int) - 1).toNat 0] = _
  rw [show ((n : Int) - 1).toNat = n - 1 by simp]
theorem ok_letter (c0 n : Nat) (h : 1 ≤ n ∧ n ≤ 6) : PyData.strOk (toS [(lettersL c0).getD (n - 1) 0]) = true := by
  rw [letter_at c0 (by omega)]
  have h2 : (n - 1) % (2 + c0 % 2) < 3 := Nat.lt_of_lt_of_le (Nat.mod_lt _ (by (simp +arith))) (by grind)
  match (n - 1) % (2 + c0 % 2), h2 with
  | 0, _ => decide +kernel
  | 1, _ => decide +kernel
  | 2, _ => decide +kernel
noncomputable def letN (r : Nat) : Str := toS [[107, 109, 98].getD r 0]
theorem letN_nodup : ((List.range 2).map letN).Nodup ∧ ((List.range 3).map letN).Nodup := by decide
theorem m19_is (c0 c1 c2 c3 : Nat) : ∀ t < 6 / (2 + c0 % 2), isum ((tabS (againL c0 c1 c2 c3) (2 + c0 % 2) t).map (·.2)) = ((2 + c0 % 2 : Nat) : Int) ∧ (firstB c1 c2 = true → ((tabS (againL c0 c1 c2 c3) (2 + c0 % 2) t).map (·.1)).Perm ((lettersL c0).take (2 + c0 % 2) |>.map fun ch => toS [ch])) ∧
      ∀ x ∈ (tabS (againL c0 c1 c2 c3) (2 + c0 % 2) t).map (·.1), PyData.strOk x = true := by
  intro t ht
  have hl : (lineM c1 c2).length = 6 := lineN_len _ _ _
  have hsl := slice_len hl ht
  have e : tabS (againL c0 c1 c2 c3) (2 + c0 % 2) t = tabOf (((((lineM c1 c2).drop (t * (2 + c0 % 2))).take (2 + c0 % 2)).map fun n => toS [(lettersL c0).getD (n - 1) 0]).map fun k => (k, (1 : Int))) := by
    unfold tabS pairS
    rw [← again_slice c0 c1 c2 c3, List.map_map]; rfl
  have hmem : ∀ n ∈ ((lineM c1 c2).drop (t * (2 + c0 % 2))).take (2 + c0 % 2), 1 ≤ n ∧ n ≤ 6 := fun n hn => line_range c1 c2 n (List.mem_of_mem_drop (List.mem_of_mem_take hn))
  rw [e]
  have x := inv_tab (c := 1) (by decide) ((((lineM c1 c2).drop (t * (2 + c0 % 2))).take (2 + c0 % 2)).map fun n => toS [(lettersL c0).getD (n - 1) 0])
  refine ⟨?_, fun hf => ?_, fun k hk => ?_⟩
  · rw [isum_eq, x.sum, List.length_map, hsl]; simp
  · have hp := (facts c1 c2 c3).2.2.2 hf
    have hz : permN (lineM c1 c2) (2 + c0 % 2) = true := by
      have : c0 % 2 = 0 ∨ c0 % 2 = 1 := by lia
      rcases this with q | q
      · rw [q]; exact hp.1
      · rw [q]; exact hp.2
    have hperm := List.all_eq_true.mp hz t (List.mem_range.mpr ht)
    have hperm := List.isPerm_iff.mp hperm
    have ek : (((lineM c1 c2).drop (t * (2 + c0 % 2))).take (2 + c0 % 2)).map (fun n => toS [(lettersL c0).getD (n - 1) 0]) = ((((lineM c1 c2).drop (t * (2 + c0 % 2))).take (2 + c0 % 2)).map fun n => (n - 1) % (2 + c0 % 2)).map letN := by
      rw [List.map_map]
      refine List.map_congr_left fun n hn => ?_
      have := hmem n hn
      rw [letter_at c0 (by grind)]; rfl
    have hl2 : ((lettersL c0).take (2 + c0 % 2)).map (fun ch => toS [ch]) = (List.range (2 + c0 % 2)).map letN := by
      have : c0 % 2 = 0 ∨ c0 % 2 = 1 := by omega
      unfold lettersL
      rcases this with q | q <;> rw [q] <;> rfl
    have hpm := hperm.map letN
    rw [← ek] at hpm
    have hnd : ((List.range (2 + c0 % 2)).map letN).Nodup := by
      have : c0 % 2 = 0 ∨ c0 % 2 = 1 := by omega
      rcases this with q | q
      · rw [q]; exact letN_nodup.1
      · rw [q]; exact letN_nodup.2
    rw [x.same (hpm.nodup_iff.mpr hnd), List.map_map, hl2]
    have : ((fun p : Str × Int => p.1) ∘ fun k => (k, (1 : Int))) = id := rfl
    rw [this, List.map_id]
    exact hpm
  · have := (x.keys k).mp hk
    obtain ⟨n, hn, rfl⟩ := List.mem_map.mp this
    exact ok_letter c0 n (hmem n hn)
end Mine
end
section
open PySem PySem.W PyProof.Rows
set_option maxRecDepth 100000
set_option linter.unusedVariables false
set_option maxHeartbeats 400000
namespace Mine
/-! the sort of six different keys, by their ranks -/
noncomputable def okS (rs : List Nat) : Bool := match evalT 6 (fun i j => decide (rs.getD i 0 < rs.getD j 0)) (kas_sort 6) with
  | some a => a.size == 6 && ((List.range 6).all fun k => rs.getD (a.getD k 0) 7 == k) && a.toList.all fun i => decide (i < 6)
  | none => false
noncomputable def okA (a : Nat) : Bool := (List.range 6).all fun b => (b == a) || (List.range 6).all fun c => (c == a || c == b) || (List.range 6).all fun d => (d == a || d == b || d == c) || (List.range 6).all fun e => (e == a || e == b || e == c || e == d) ||
  (List.range 6).all fun f => (f == a || f == b || f == c || f == d || f == e) || okS [a, b, c, d, e, f]
theorem okA0 : okA 0 = true := by decide +kernel
theorem okA1 : okA 1 = true := by decide +kernel
theorem okA2 : okA 2 = true := by decide +kernel
theorem okA3 : okA 3 = true := by decide +kernel
theorem okA4 : okA 4 = true := by decide +kernel
theorem okA5 : okA 5 = true := by decide +kernel
theorem okA_all {a : Nat} (ha : a < 6) : okA a = true := by
  rcases Nat.lt_or_ge a 3 with h | h
  · rcases Nat.lt_or_ge a 1 with k | k
    · rw [Nat.le_antisymm (Nat.le_of_lt_succ k) (Nat.zero_le _)]; exact okA0
    · rcases Nat.lt_or_ge a 2 with l | l
      · rw [Nat.le_antisymm (Nat.le_of_lt_succ l) k]; exact okA1
      · rw [Nat.le_antisymm (Nat.le_of_lt_succ h) l]; exact okA2
  · rcases Nat.lt_or_ge a 4 with k | k
    · rw [Nat.le_antisymm (Nat.le_of_lt_succ k) h]; exact okA3
    · rcases Nat.lt_or_ge a 5 with l | l
      · rw [Nat.le_antisymm (Nat.le_of_lt_succ l) k]; exact okA4
      · rw [Nat.le_antisymm (Nat.le_of_lt_succ ha) l]; exact okA5
theorem ok_ranks {a b c d e f : Nat} (ha : a < 6) (hb : b < 6) (hc : c < 6) (hd : d < 6) (he : e < 6) (hf : f < 6) (hn : [a, b, c, d, e, f].Nodup) : okS [a, b, c, d, e, f] = true := by
  have h := okA_all ha
  unfold okA at h
  simp only [List.nodup_cons, List.mem_cons, List.not_mem_nil, or_false, not_or, List.nodup_nil, and_true, not_false_eq_true] at hn
  obtain ⟨⟨n1, n2, n3, n4, n5⟩, ⟨n6, n7, n8, n9⟩, ⟨n10, n11, n12⟩, ⟨n13, n14⟩, n15⟩ := hn
  have h := List.all_eq_true.mp h b (List.mem_range.mpr hb)
  have h := (Bool.or_eq_true_iff.mp h).resolve_left (by simp; exact fun q => n1 q.symm)
  have h := List.all_eq_true.mp h c (List.mem_range.mpr hc)
  have h := (Bool.or_eq_true_iff.mp h).resolve_left (by simp; exact ⟨fun q => n2 q.symm, fun q => n6 q.symm⟩)
  have h := List.all_eq_true.mp h d (List.mem_range.mpr hd)
  have h := (Bool.or_eq_true_iff.mp h).resolve_left (by simp; exact ⟨⟨fun q => n3 q.symm, fun q => n7 q.symm⟩, fun q => n10 q.symm⟩)
  have h := List.all_eq_true.mp h e (List.mem_range.mpr he)
  have h := (Bool.or_eq_true_iff.mp h).resolve_left (by simp; exact ⟨⟨⟨fun q => n4 q.symm, fun q => n8 q.symm⟩, fun q => n11 q.symm⟩, fun q => n13 q.symm⟩)
  have h := List.all_eq_true.mp h f (List.mem_range.mpr hf)
  exact (Bool.or_eq_true_iff.mp h).resolve_left (by simp; exact ⟨⟨⟨⟨fun q => n5 q.symm, fun q => n9 q.symm⟩, fun q => n12 q.symm⟩, fun q => n14 q.symm⟩, fun q => n15 q.symm⟩)
theorem evalT_congr {α : Type} {n : Nat} {lt lt' : Nat → Nat → Bool} (h : ∀ i j, i < n → j < n → lt i j = lt' i j) : ∀ (t : KasT α), evalT n lt t = evalT n lt' t
  | .ret a => rfl
  | .ask i j k => by
    unfold evalT
    split
    · rename_i q
      rw [h i j q.1 q.2, evalT_congr h (k (lt' i j))]
    · rfl
/-! ranks -/
theorem filter_lt {α : Type} {p q : α → Bool} : ∀ {l : List α}, (∀ x ∈ l, p x = true → q x = true) → (∃ x ∈ l, q x = true ∧ p x = false) → (l.filter p).length < (l.filter q).length
  | [], _, h => by obtain ⟨x, hx, _⟩ := h; cases hx
  | a :: l, hpq, h => by
    have hle : ∀ {l : List α}, (∀ x ∈ l, p x = true → q x = true) → (l.filter p).length ≤ (l.filter q).length := fun {l} => by
      induction l with
      | nil => intro _; exact Nat.le_refl _
      | cons b l ih =>
        intro hh
        have i := ih fun x hx => hh x (List.mem_cons_of_mem _ hx)
        by_cases hp : p b = true
        · rw [List.filter_cons_of_pos hp, List.filter_cons_of_pos (hh b List.mem_cons_self hp)]; simp; omega
        · rw [List.filter_cons_of_neg hp]
          by_cases hq : q b = true
          · rw [List.filter_cons_of_pos hq]; simp; (exact Nat.le_succ_of_le (by assumption))
          · rw [List.filter_cons_of_neg hq]; exact i
    obtain ⟨x, hx, h1, h2⟩ := h
    have ht := hle (l := l) fun y hy => hpq y (List.mem_cons_of_mem _ hy)
    rcases List.mem_cons.mp hx with rfl | hx
    · rw [List.filter_cons_of_neg (by rw [h2]; simp), List.filter_cons_of_pos h1]; simp; (exact Nat.lt_succ_of_le (by assumption))
    · have ih := filter_lt (l := l) (fun y hy => hpq y (List.mem_cons_of_mem _ hy)) ⟨x, hx, h1, h2⟩
      by_cases hp : p a = true
      · rw [List.filter_cons_of_pos hp, List.filter_cons_of_pos (hpq a List.mem_cons_self hp)]; simp; omega
      · rw [List.filter_cons_of_neg hp]
        by_cases hq : q a = true
        · rw [List.filter_cons_of_pos hq]; simp; (exact Nat.lt_succ_of_lt (by assumption))
        · rw [List.filter_cons_of_neg hq]; exact ih
theorem lex_iff {a b : Int × Int} : lexlt a b = true ↔ a.1 < b.1 ∨ (a.1 = b.1 ∧ a.2 < b.2) := by
  unfold lexlt
  split
  · split
    · simp; simp_all
    · simp; simp_all
  · simp; simp_all
noncomputable def rank (key : Nat → Int × Int) (i : Nat) : Nat := ((List.range 6).filter fun j => lexlt (key j) (key i)).length
theorem rank_lt {key : Nat → Int × Int} {i j : Nat} (hi : i < 6) (h : lexlt (key i) (key j) = true) : rank key i < rank key j := by
  refine filter_lt (fun x _ hx => ?_) ⟨i, List.mem_range.mpr hi, h, ?_⟩
  · rw [lex_iff] at h hx ⊢; grind
  · cases q : lexlt (key i) (key i) with
    | false => rfl
    | true => rw [lex_iff] at q; simp_all
theorem rank_six (key : Nat → Int × Int) {i : Nat} (hi : i < 6) : rank key i < 6 := by
  have h1 : rank key i < ((List.range 6).filter fun _ => true).length := by
    refine filter_lt (fun _ _ _ => rfl) ⟨i, List.mem_range.mpr hi, rfl, ?_⟩
    cases q : lexlt (key i) (key i) with
    | false => rfl
    | true => rw [lex_iff] at q; simp_all
  exact h1
theorem rank_is {key : Nat → Int × Int} (hd : ∀ i j, i < 6 → j < 6 → i ≠ j → key i ≠ key j) {i j : Nat} (hi : i < 6) (hj : j < 6) : lexlt (key i) (key j) = decide (rank key i < rank key j) := by
  by_cases e : i = j
  · subst e
    rw [decide_eq_false (Nat.lt_irrefl _)]
    cases q : lexlt (key i) (key i) with
    | false => rfl
    | true => rw [lex_iff] at q; simp_all
  · have hne := hd i j hi hj e
    cases q : lexlt (key i) (key j) with
    | true => exact (decide_eq_true (rank_lt hi q)).symm
    | false =>
      have q' : lexlt (key j) (key i) = true := by
        rw [lex_iff]
        have n1 : ¬ (lexlt (key i) (key j) = true) := by rw [q]; simp
        rw [lex_iff] at n1
        have : ¬ ((key i).1 = (key j).1 ∧ (key i).2 = (key j).2) := fun ⟨a, b⟩ => hne (Prod.ext a b)
        grind
      have := rank_lt hj q'
      exact (decide_eq_false (by lia)).symm
theorem rank_inj {key : Nat → Int × Int} (hd : ∀ i j, i < 6 → j < 6 → i ≠ j → key i ≠ key j) {i j : Nat} (hi : i < 6) (hj : j < 6) (e : i ≠ j) : rank key i ≠ rank key j := by
  intro q
  have h1 := rank_is hd hi hj
  have h2 := rank_is hd hj hi
  rw [q, decide_eq_false (Nat.lt_irrefl _)] at h1
  rw [q, decide_eq_false (Nat.lt_irrefl _)] at h2
  have hne := hd i j hi hj e
  have n1 : ¬ (lexlt (key i) (key j) = true) := by rw [h1]; simp
  have n2 : ¬ (lexlt (key j) (key i) = true) := by rw [h2]; simp
  rw [lex_iff] at n1 n2
  exact hne (Prod.ext (by lia) (by grind))
/-- the sort ends, in order -/
theorem sort_six {key : Nat → Int × Int} (hd : ∀ i j, i < 6 → j < 6 → i ≠ j → key i ≠ key j) : ∃ perm : Array Nat, evalT 6 (fun i j => lexlt (key i) (key j)) (kas_sort 6) = some perm ∧ (∀ i ∈ perm.toList, i < 6) ∧ perm.size = 6 ∧
    ∀ i j, i < j → j < 6 → lexlt (key (perm.getD i 0)) (key (perm.getD j 0)) = true := by
  have hr : okS [rank key 0, rank key 1, rank key 2, rank key 3, rank key 4, rank key 5] = true := by
    refine ok_ranks (rank_six _ (by decide)) (rank_six _ (by decide)) (rank_six _ (by decide)) (rank_six _ (by decide)) (rank_six _ (by decide)) (rank_six _ (by decide)) ?_
    simp only [List.nodup_cons, List.mem_cons, List.not_mem_nil, or_false, not_or, List.nodup_nil, and_true, not_false_eq_true]
    refine ⟨⟨?_, ?_, ?_, ?_, ?_⟩, ⟨?_, ?_, ?_, ?_⟩, ⟨?_, ?_, ?_⟩, ⟨?_, ?_⟩, ?_⟩ <;> exact rank_inj hd (by decide) (by decide) (by decide)
  have hg : ∀ i, i < 6 → [rank key 0, rank key 1, rank key 2, rank key 3, rank key 4, rank key 5].getD i 0 = rank key i := fun i hi => by
    match i, hi with
    | 0, _ => rfl
    | 1, _ => rfl
    | 2, _ => rfl
    | 3, _ => rfl
    | 4, _ => rfl
    | 5, _ => rfl
  have hg7 : ∀ i, i < 6 → [rank key 0, rank key 1, rank key 2, rank key 3, rank key 4, rank key 5].getD i 7 = rank key i := fun i hi => by
    match i, hi with
    | 0, _ => rfl
    | 1, _ => rfl
    | 2, _ => rfl
    | 3, _ => rfl
    | 4, _ => rfl
    | 5, _ => rfl
  have ec : evalT 6 (fun i j => lexlt (key i) (key j)) (kas_sort 6) = evalT 6 (fun i j => decide ([rank key 0, rank key 1, rank key 2, rank key 3, rank key 4, rank key 5].getD i 0 < [rank key 0, rank key 1, rank key 2, rank key 3, rank key 4, rank key 5].getD j 0)) (kas_sort 6) :=
    evalT_congr (fun i j hi hj => by rw [hg i hi, hg j hj]; exact rank_is hd hi hj) _
  unfold okS at hr
  rw [← ec] at hr
  cases q : evalT 6 (fun i j => lexlt (key i) (key j)) (kas_sort 6) with
  | none => rw [q] at hr; cases hr
  | some a =>
    rw [q] at hr
    simp only [Bool.and_eq_true, beq_iff_eq] at hr
    obtain ⟨⟨h1, h2⟩, h3⟩ := hr
    have hlt : ∀ i ∈ a.toList, i < 6 := fun i hi => of_decide_eq_true (List.all_eq_true.mp h3 i hi)
    have hat : ∀ k, k < 6 → a.getD k 0 < 6 := fun k hk => by
      have hk' : k < a.size := by simp_all
      have : a.getD k 0 = a[k] := by simp [Array.getD, hk']
      rw [this]
      exact hlt _ (by simp)
    have hrk : ∀ k, k < 6 → rank key (a.getD k 0) = k := fun k hk => by
      have := List.all_eq_true.mp h2 k (List.mem_range.mpr hk)
      rw [hg7 _ (hat k hk)] at this
      exact beq_iff_eq.mp this
    refine ⟨a, rfl, hlt, h1, fun i j hij hj => ?_⟩
    rw [rank_is hd (hat i (by (exact Nat.lt_trans (by assumption) (by assumption)))) (hat j hj), hrk i (by omega), hrk j hj]
    exact decide_eq_true hij
end Mine
end
section
open PySem PySem.W PyProof.Rows
set_option maxRecDepth 100000
set_option linter.unusedVariables false
namespace Mine
/-! plain mathematics: texts as rows -/
noncomputable def joinE (e : List Nat) : List (List Nat) → List Nat
  | [] => []
  | [r] => r
  | r :: q :: rs => r ++ e ++ joinE e (q :: rs)
noncomputable abbrev crlf : List Nat := [13, 10]
noncomputable def Plain (r : List Nat) : Prop := ∀ c ∈ r, c ≠ 10 ∧ c ≠ 13
noncomputable def dotR : List Nat → List Nat
  | 46 :: r => 46 :: 46 :: r
  | r => r
theorem Plain.tail {c : Nat} {r : List Nat} (h : Plain (c :: r)) : Plain r := fun x hx => h x (List.mem_cons_of_mem _ hx)
theorem eol_row : ∀ {r : List Nat} (t : List Nat), Plain r → eolL (r ++ t) = r ++ eolL t
  | [], t, _ => rfl
  | c :: r, t, h => by
    obtain ⟨h1, h2⟩ := h c List.mem_cons_self
    have hc : isEol c = false := by unfold isEol; simp [h1, h2]
    rw [List.cons_append, eolL_plain _ hc, eol_row t h.tail]; rfl
theorem eol_lf (t : List Nat) : eolL (10 :: t) = 13 :: 10 :: eolL t := by
  rw [eolL]
theorem eol_crlf (t : List Nat) : eolL (13 :: 10 :: t) = 13 :: 10 :: eolL t := by
  rw [eolL]
theorem eol_cr {t : List Nat} (h : t.head? ≠ some 10) : eolL (13 :: t) = 13 :: 10 :: eolL t := by
  match t, h with
  | [], _ => rfl
  | c :: t, h =>
    have hc : c ≠ 10 := fun e => h (by rw [e]; rfl)
    rw [eolL]
    intro r e
    exact hc (by injection e)
theorem eol_end {e t : List Nat} (he : e ∈ endsL) (h : t.head? ≠ some 10) : eolL (e ++ t) = crlf ++ eolL t := by
  have : e = [10] ∨ e = [13] ∨ e = [13, 10] := by simpa [endsL] using he
  rcases this with rfl | rfl | rfl
  · exact eol_lf t
  · exact eol_cr h
  · exact eol_crlf t
theorem head_row {r t : List Nat} (hr : Plain r) (ht : t.head? ≠ some 10) : (r ++ t).head? ≠ some 10 := by
  cases r with
  | nil => exact ht
  | cons c r => intro e; exact (hr c List.mem_cons_self).1 (by simpa using e)
theorem eol_join {e : List Nat} (he : e = [13] ∨ e = [13, 10] ∨ e = [10]) : ∀ {rows : List (List Nat)}, (∀ r ∈ rows, Plain r) → eolL (joinE e rows) = joinE crlf rows
  | [], _ => rfl
  | [r], h => by
    have := eol_row [] (h r List.mem_cons_self)
    simpa [joinE, eolL] using this
  | r :: q :: rs, h => by
    have ih := eol_join he (rows := q :: rs) fun x hx => h x (List.mem_cons_of_mem _ hx)
    show eolL (r ++ e ++ joinE e (q :: rs)) = r ++ crlf ++ joinE crlf (q :: rs)
    rw [List.append_assoc, eol_row _ (h r List.mem_cons_self), List.append_assoc, ← ih]
    congr 1
    rcases he with rfl | rfl | rfl
    · refine eol_cr ?_
      cases rs with
      | nil => have := head_row (t := []) (h q (by simp)) (by simp); simpa [joinE] using this
      | cons q' rs => exact head_row (t := [13] ++ joinE [13] (q' :: rs)) (h q (by simp)) (by simp) |> (by simpa [joinE] using ·)
    · exact eol_crlf _
    · exact eol_lf _
theorem dot_row : ∀ {r : List Nat} (t : List Nat), Plain r → dotL false (r ++ t) = r ++ dotL false t
  | [], t, _ => rfl
  | c :: r, t, h => by
    obtain ⟨h1, h2⟩ := h c List.mem_cons_self
    have hc : (c == 10) = false := by simpa using h1
    rw [List.cons_append, dotL, hc, dot_row t h.tail]; simp
theorem dot_join : ∀ {rows : List (List Nat)}, (∀ r ∈ rows, Plain r) → dotL true (joinE crlf rows) = joinE crlf (rows.map dotR)
  | [], _ => rfl
  | [r], h => by
    have hr := h r List.mem_cons_self
    show dotL true r = dotR r
    cases r with
    | nil => rfl
    | cons c r =>
      have h1 := (hr c List.mem_cons_self).1
      have hc : (c == 10) = false := by simpa using h1
      have ht := dot_row (r := r) [] hr.tail
      rw [List.append_nil] at ht
      rw [dotL, hc, ht]
      by_cases h46 : c = 46
      · subst h46; simp [dotR, dotL]
      · have : (c == 46) = false := by simpa using h46
        simp [this, dotL]
        unfold dotR
        split
        · rename_i q; injection q with q1 _; exact absurd q1 h46
        · rfl
  | r :: q :: rs, h => by
    have ih := dot_join (rows := q :: rs) fun x hx => h x (List.mem_cons_of_mem _ hx)
    have hr := h r List.mem_cons_self
    show dotL true (r ++ crlf ++ joinE crlf (q :: rs)) = dotR r ++ crlf ++ joinE crlf ((q :: rs).map dotR)
    rw [← ih, List.append_assoc]
    have hcr : ∀ b t, dotL b (crlf ++ t) = crlf ++ dotL true t := fun b t => by
      cases b <;> rfl
    cases r with
    | nil => exact hcr _ _
    | cons c r =>
      have h1 := (hr c List.mem_cons_self).1
      have hc : (c == 10) = false := by simpa using h1
      rw [List.cons_append, dotL, hc, dot_row _ hr.tail, hcr]
      by_cases h46 : c = 46
      · subst h46; simp [dotR]
      · have h46' : (c == 46) = false := by simpa using h46
        have e : dotR (c :: r) = c :: r := by
          unfold dotR
          split
          · rename_i q; injection q with q1 _; exact absurd q1 h46
          · rfl
        rw [e]
        simp [h46']
theorem quote_join {e : List Nat} (he : e = [13] ∨ e = [13, 10] ∨ e = [10]) {rows : List (List Nat)} (h : ∀ r ∈ rows, Plain r) : quoteL (joinE e rows) = joinE crlf (rows.map dotR) := by
  unfold quoteL
  rw [eol_join he h, dot_join h]
end Mine
end
section
open PySem PySem.W PyProof.Rows
open Builtin Builtin.Str StrLaws
set_option maxRecDepth 100000
set_option linter.unusedVariables false
set_option maxHeartbeats 400000
namespace Mine
/-! the texts' own methods on rows -/
noncomputable def cutsL : Nat → List Nat → List Nat
  | _, [] => []
  | i, 13 :: 10 :: r => i :: cutsL (i + 2) r
  | i, _ :: r => cutsL (i + 1) r
theorem toS_list (l : List Nat) : (toS l).cps.toList = l := by simp [toS]
theorem toS_len (l : List Nat) : (toS l).length = l.length := by simp [toS, Str.length]
theorem range_cons (i n : Nat) : List.range' i (n + 1) = i :: List.range' (i + 1) n := by rw [List.range'_succ]
theorem drop_succ {l : List Nat} {i c : Nat} {r : List Nat} (h : l.drop i = c :: r) : l.drop (i + 1) = r := by
  rw [← List.drop_drop, h]; rfl
theorem drop_len {l r : List Nat} {i : Nat} (h : l.drop i = r) (hi : i ≤ l.length) : l.length = i + r.length := by
  rw [← h, List.length_drop]; simp_all
theorem body_skip {s sub : Str} {hi limit i : Nat} {st : Array Nat × Nat} {l : List Nat} (h : ¬ (((st.fst.size < limit ∧ st.snd ≤ i) ∧ i + sub.length ≤ hi) ∧ subAt s sub i = true)) :
    (forIn (i :: l) st (occBody s sub hi limit)).run = (forIn l st (occBody s sub hi limit)).run := by
  rw [List.forIn_cons]
  unfold occBody
  rw [if_neg h]; rfl
theorem body_hit {s sub : Str} {hi limit i : Nat} {st : Array Nat × Nat} {l : List Nat} (h : ((st.fst.size < limit ∧ st.snd ≤ i) ∧ i + sub.length ≤ hi) ∧ subAt s sub i = true) :
    (forIn (i :: l) st (occBody s sub hi limit)).run = (forIn l (st.fst.push i, i + sub.length) (occBody s sub hi limit)).run := by
  rw [List.forIn_cons]
  unfold occBody
  rw [if_pos h]; rfl
theorem cuts_hit (i : Nat) (r : List Nat) : cutsL i (13 :: 10 :: r) = i :: cutsL (i + 2) r := by rw [cutsL]
theorem cuts_skip {i c : Nat} {r : List Nat} (h : ¬ (c = 13 ∧ ∃ q, r = 10 :: q)) : cutsL i (c :: r) = cutsL (i + 1) r := by
  rw [cutsL]
  intro q e1 e2
  exact h ⟨e1, q, e2⟩
theorem occ_run (l : List Nat) : ∀ (n : Nat) (r : List Nat) (i free : Nat) (found : Array Nat), r.length ≤ n → l.drop i = r → i ≤ l.length → free ≤ i → found.size ≤ i →
    (forIn (List.range' i (r.length + 1)) (found, free) (occBody (toS l) (toS crlf) l.length (l.length + 1))).run.fst.toList = found.toList ++ cutsL i r := by
  intro n
  induction n with
  | zero =>
    intro r i free found hn h hi hf hs
    have hr : r = [] := List.length_eq_zero_iff.mp (Nat.le_zero.mp hn)
    subst hr
    have hl := drop_len h hi
    rw [List.length_nil] at hl
    rw [show ([] : List Nat).length + 1 = 0 + 1 from rfl, range_cons]
    rw [body_skip (by rintro ⟨⟨_, h2⟩, _⟩; rw [toS_len] at h2; have : crlf.length = 2 := rfl; lia)]
    simp [cutsL]
  | succ n IH =>
    intro r i free found hn h hi hf hs
    cases r with
    | nil => exact IH [] i free found (Nat.zero_le _) h hi hf hs
    | cons c r =>
    have hl := drop_len h hi
    rw [List.length_cons] at hl hn
    have h1 := drop_succ h
    by_cases hc : c = 13 ∧ ∃ q, r = 10 :: q
    · obtain ⟨rfl, q, rfl⟩ := hc
      have h2 := drop_succ h1
      rw [List.length_cons] at hl hn
      rw [show (13 :: 10 :: q).length + 1 = q.length + 1 + 1 + 1 from rfl, range_cons, range_cons, cuts_hit]
      rw [body_hit ⟨⟨⟨by show found.size < _; grind, hf⟩, by rw [toS_len]; have : crlf.length = 2 := rfl; simp_all⟩, by rw [subAt_eq, toS_list, toS_list, toS_len, h]; rfl⟩]
      rw [body_skip (by rintro ⟨⟨⟨_, h2⟩, _⟩, _⟩; rw [toS_len] at h2; have : crlf.length = 2 := rfl; have h2 : i + crlf.length ≤ i + 1 := h2; (exact Nat.lt_irrefl _ (by assumption)))]
      have ih := IH q (i + 2) (i + (toS crlf).length) (found.push i) (by grind) h2 (by simp_all) (by rw [toS_len]; exact Nat.le_refl _) (by simp; (exact Nat.le_succ_of_le (by assumption)))
      rw [show i + 1 + 1 = i + 2 from rfl]
      rw [ih]; simp
    · rw [List.length_cons, range_cons, cuts_skip hc]
      rw [body_skip (by
        rintro ⟨_, h2⟩
        rw [subAt_eq, toS_list, toS_list, toS_len, h] at h2
        refine hc ?_
        have h3 := eq_of_beq h2
        cases r with
        | nil => simp at h3
        | cons d q => simp at h3; exact ⟨h3.1, q, by rw [h3.2]⟩)]
      exact IH r (i + 1) free found (by (exact Nat.le_of_lt_succ (by assumption))) h1 (by simp_all) (by (exact Nat.le_succ_of_le (by assumption))) (by omega)
theorem occ_cuts (l : List Nat) : occurrences (toS l) (toS crlf) 0 (toS l).length ((toS l).length + 1) = cutsL 0 l := by
  rw [occ_eq, toS_len, Nat.sub_zero]
  have := occ_run l l.length l 0 0 #[] (Nat.le_refl _) rfl (Nat.zero_le _) (Nat.le_refl _) (Nat.le_refl _)
  simpa using this
theorem cuts_row : ∀ {r : List Nat} (i : Nat) (t : List Nat), Plain r → cutsL i (r ++ t) = cutsL (i + r.length) t
  | [], i, t, _ => rfl
  | c :: r, i, t, h => by
    rw [List.cons_append, cuts_skip (fun q => (h c List.mem_cons_self).2 q.1), cuts_row (i + 1) t h.tail, List.length_cons]
    congr 1; (simp +arith)
theorem sub_is (l : List Nat) (a b : Nat) : strSub (toS l) a b = toS ((l.drop a).take (b - a)) := by
  rw [strSub_mk, toS_list]; rfl
theorem parts_join (l : List Nat) : ∀ {rows : List (List Nat)} (a : Nat), rows ≠ [] → (∀ r ∈ rows, Plain r) → l.drop a = joinE crlf rows → a ≤ l.length → partsFrom (toS l) 2 a (cutsL a (joinE crlf rows)) = rows.map toS
  | [], _, h, _, _, _ => absurd rfl h
  | [r], a, _, hp, h, ha => by
    have hr := cuts_row a [] (hp r List.mem_cons_self)
    rw [List.append_nil] at hr
    show partsFrom (toS l) 2 a (cutsL a r) = _
    rw [hr]
    have h' : l.drop a = r := h
    have hl := drop_len h' ha
    show [strSub (toS l) a (toS l).length] = [toS r]
    rw [sub_is, h', toS_len, List.take_of_length_le (by omega)]
  | r :: q :: rs, a, _, hp, h, ha => by
    have e : joinE crlf (r :: q :: rs) = r ++ (13 :: 10 :: joinE crlf (q :: rs)) := by show r ++ crlf ++ _ = _; simp
    rw [e] at h ⊢
    rw [cuts_row a _ (hp r List.mem_cons_self), cuts_hit]
    have hl := drop_len h ha
    have h2 : l.drop (a + r.length + 2) = joinE crlf (q :: rs) := by
      rw [Nat.add_assoc, ← List.drop_drop, h, ← List.drop_drop, List.drop_left]; rfl
    have ih := parts_join l (rows := q :: rs) (a + r.length + 2) (by simp) (fun x hx => hp x (List.mem_cons_of_mem _ hx)) h2 (by simp at hl; lia)
    show strSub (toS l) a (a + r.length) :: partsFrom (toS l) 2 (a + r.length + 2) _ = _
    rw [ih, sub_is, h, Nat.add_sub_cancel_left, List.take_left]; rfl
theorem kind_crlf (x : Str) : decide (strKind x < strKind (toS crlf)) = false := by
  have := strKind_pos x
  have h : strKind (toS crlf) = 1 := by decide +kernel
  rw [h]; simp; (exact Nat.ne_of_gt (by assumption))
theorem cuts_ne {r q : List Nat} {rs : List (List Nat)} (h : Plain r) : cutsL 0 (joinE crlf (r :: q :: rs)) ≠ [] := by
  have e : joinE crlf (r :: q :: rs) = r ++ (13 :: 10 :: joinE crlf (q :: rs)) := by show r ++ crlf ++ _ = _; simp
  rw [e, cuts_row 0 _ h, cuts_hit]; simp
theorem join_len2 {r q : List Nat} {rs : List (List Nat)} : 2 ≤ (joinE crlf (r :: q :: rs)).length := by
  show 2 ≤ (r ++ crlf ++ _).length
  simp; (exact Nat.le_add_left _ _)
theorem split_rows {r q : List Nat} {rs : List (List Nat)} (h : ∀ x ∈ r :: q :: rs, Plain x) : Txt.split (toS (joinE crlf (r :: q :: rs))) (toS crlf) = (r :: q :: rs).map toS := by
  unfold Txt.split
  have hl : decide ((toS (joinE crlf (r :: q :: rs))).length < (toS crlf).length) = false := by
    have := join_len2 (r := r) (q := q) (rs := rs)
    rw [toS_len, toS_len]
    exact decide_eq_false (Nat.not_lt.mpr this)
  rw [kind_crlf, hl, if_neg (show ¬ (false || false) = true from Bool.false_ne_true), occ_cuts]
  rw [if_neg (by rw [List.isEmpty_iff]; exact cuts_ne (h r List.mem_cons_self))]
  rw [partsBetween_eq]
  exact parts_join _ 0 (by simp) h rfl (Nat.zero_le _)
theorem strjoin_rows (e : List Nat) : ∀ (rows : List (List Nat)), Str.join (toS e) (rows.map toS) = toS (joinE e rows)
  | [] => rfl
  | [r] => rfl
  | r :: q :: rs => by
    have ih := strjoin_rows e (q :: rs)
    show toS r ++ toS e ++ Str.join (toS e) ((q :: rs).map toS) = _
    rw [ih]
    apply Str.ext'
    apply Array.toList_inj.mp
    simp [joinE, toS, Str.cps_append]
theorem join_rows (e : List Nat) (rows : List (List Nat)) : Txt.join (toS e) (rows.map toS) = toS (joinE e rows) := by
  unfold Txt.join
  rw [glued_eq_join, strjoin_rows]
theorem replace_rows (e : List Nat) {r q : List Nat} {rs : List (List Nat)} (h : ∀ x ∈ r :: q :: rs, Plain x) : Txt.replace (toS (joinE crlf (r :: q :: rs))) (toS crlf) (toS e) = toS (joinE e (r :: q :: rs)) := by
  unfold Txt.replace
  rw [occ_cuts]
  rw [if_neg (by
    simp only [Bool.or_eq_true, List.isEmpty_iff, Bool.and_eq_true]
    rintro (h1 | ⟨h1, _⟩)
    · exact cuts_ne (h r List.mem_cons_self) h1
    · rw [toS_len] at h1; simp at h1)]
  rw [glued_eq_join, partsBetween_eq, show (toS crlf).length = 2 from rfl, parts_join (joinE crlf (r :: q :: rs)) (rows := r :: q :: rs) 0 (by simp) h rfl (Nat.zero_le _), strjoin_rows]
theorem takeW (n : Nat) {w : List Nat} (h : w.head? ≠ some 46) : ((List.replicate n 46 ++ w).takeWhile (#[46] : Array Nat).contains).length = n := by
  induction n with
  | zero =>
    cases w with
    | nil => rfl
    | cons c w =>
      have hc : c ≠ 46 := fun e => h (by rw [e]; rfl)
      simp [List.takeWhile_cons, hc]
  | succ n ih =>
    rw [List.replicate_succ, List.cons_append, List.takeWhile_cons_of_pos (by simp), List.length_cons, ih]
theorem lstrip_dots (n : Nat) {w : List Nat} (h : w.head? ≠ some 46) : restR (toS (List.replicate n 46 ++ w)) = toS w := by
  unfold restR Txt.lstripChars
  rw [PyProof.Rows.stripBy_eq]
  have e1 : stripLo (#[46] : Array Nat).contains true (toS (List.replicate n 46 ++ w)) = n := by
    unfold stripLo
    rw [if_pos rfl, toS_list, takeW n h]
  have e2 : ∀ lo, stripHi (#[46] : Array Nat).contains false (toS (List.replicate n 46 ++ w)) lo = n + w.length := fun lo => by
    unfold stripHi
    rw [if_neg (by simp), toS_len]; simp
  rw [e1, e2, sub_is, Nat.add_sub_cancel_left]
  congr 1
  rw [List.drop_append_of_le_length (by simp), List.drop_of_length_le (by simp), List.nil_append, List.take_length]
end Mine
end
section
open PySem PySem.W PyProof.Rows
open Builtin Builtin.Str StrLaws
set_option maxRecDepth 100000
set_option linter.unusedVariables false
set_option maxHeartbeats 400000
namespace Mine
/-! the rows of the mails, what is read of them -/
structure WordOk (w : List Nat) (ch : Nat) : Prop where
  plain : Plain w
  dot : w.head? ≠ some 46
  len : w.length ≤ 2
  told : Txt.join ⟨#[]⟩ (lettersR (toS w)) = toS [ch]
  ok : JoinOk ⟨#[]⟩ (lettersR (toS w)) = true
noncomputable def wordOkB (w : List Nat) (ch : Nat) : Bool := w.all (fun c => c != 10 && c != 13) && w.head? != some 46 && decide (w.length ≤ 2) && Txt.join ⟨#[]⟩ (lettersR (toS w)) == toS [ch] && JoinOk ⟨#[]⟩ (lettersR (toS w))
theorem plain_of {w : List Nat} (h : w.all (fun c => c != 10 && c != 13) = true) : Plain w := fun c hc => by
  have := List.all_eq_true.mp h c hc
  simpa using this
theorem wordOk_of {w : List Nat} {ch : Nat} (h : wordOkB w ch = true) : WordOk w ch := by
  unfold wordOkB at h
  simp only [Bool.and_eq_true, decide_eq_true_eq, beq_iff_eq, bne_iff_ne] at h
  obtain ⟨⟨⟨⟨h1, h2⟩, h3⟩, h4⟩, h5⟩ := h
  exact ⟨plain_of h1, h2, h3, h4, h5⟩
noncomputable def kindK (ch v : Nat) : List (List Nat) :=
  if ch = 107 then [[107], [75], [8490], [173, 75]] else if ch = 109 then [[109], [119820], [77, 65024 + v], [8203, 109]] else [[66], [8492], [98, 8288], [65039, 119809]]
theorem words_ok : ∀ ch ∈ [107, 109, 98], ∀ v < 16, ∀ k < 4, wordOkB ((kindK ch v).getD k []) ch = true := by decide +kernel
noncomputable def wd (c0 p : Nat) : List Nat := (wordsL c0).getD p []
theorem letter_mem (c0 : Nat) {p : Nat} (hp : p < 6) : (lettersL c0).getD p 0 ∈ [107, 109, 98] := by
  have h2 : p % (2 + c0 % 2) < 3 := Nat.lt_of_lt_of_le (Nat.mod_lt _ (by (simp +arith))) (by grind)
  have e : (lettersL c0).getD p 0 = [107, 109, 98].getD (p % (2 + c0 % 2)) 0 := by
    unfold lettersL
    rw [List.getD_eq_getElem?_getD, List.getElem?_map, List.getElem?_range hp]; rfl
  rw [e]
  match h : p % (2 + c0 % 2), h2 with
  | 0, _ => decide
  | 1, _ => decide
  | 2, _ => decide
theorem wd_ok (c0 : Nat) {p : Nat} (hp : p < 6) : WordOk (wd c0 p) ((lettersL c0).getD p 0) := by
  have e : wd c0 p = (kindK ((lettersL c0).getD p 0) (c0 / 2 / 4096 % 16)).getD (c0 / 2 / 4 ^ p % 4) [] := by
    unfold wd wordsL
    rw [List.getD_eq_getElem?_getD, List.getElem?_map, List.getElem?_range hp]; rfl
  rw [e]
  exact wordOk_of (words_ok _ (letter_mem c0 hp) _ (Nat.mod_lt _ (by decide)) _ (Nat.mod_lt _ (by decide)))
theorem foot_ok : ∀ l ∈ footL, Plain l ∧ l.head? ≠ some 46 ∧ l.length ≤ 2 ∧ Txt.join ⟨#[]⟩ (lettersR (toS l)) = toS l ∧ JoinOk ⟨#[]⟩ (lettersR (toS l)) = true := by
  have h : footL.all (fun l => l.all (fun c => c != 10 && c != 13) && l.head? != some 46 && decide (l.length ≤ 2) && Txt.join ⟨#[]⟩ (lettersR (toS l)) == toS l && JoinOk ⟨#[]⟩ (lettersR (toS l))) = true := by decide +kernel
  intro l hl
  have := List.all_eq_true.mp h l hl
  simp only [Bool.and_eq_true, decide_eq_true_eq, beq_iff_eq, bne_iff_ne] at this
  obtain ⟨⟨⟨⟨h1, h2⟩, h3⟩, h4⟩, h5⟩ := this
  exact ⟨plain_of h1, h2, h3, h4, h5⟩
/-- the mail's rows after i sendings -/
noncomputable def rowI (c0 : Nat) (i : Nat) (n : Int) : List Nat := List.replicate (n.toNat + i) 46 ++ wd c0 (n - 1).toNat
noncomputable def mailI (c0 c1 c2 i : Nat) : List (List Nat) := (lineL c1 c2).map (rowI c0 i) ++ footL
theorem told_row (n : Nat) {w : List Nat} (h : w.head? ≠ some 46) : toldR (toS (List.replicate n 46 ++ w)) = ((n : Int), Txt.join ⟨#[]⟩ (lettersR (toS w))) := by
  unfold toldR
  rw [lstrip_dots n h, toS_len, toS_len, List.length_append, List.length_replicate]
  congr 1
  simp
theorem line_len (c1 c2 : Nat) : (lineL c1 c2).length = 6 := lineL_len c1 c2
theorem told_mail (c0 c1 c2 i : Nat) : ((mailI c0 c1 c2 i).map toS).map toldR = ((lineL c1 c2).map fun (n : Int) => (n + ((i : Nat) : Int), toS [(lettersL c0).getD (n - 1).toNat 0])) ++ footL.map fun l => ((0 : Int), toS l) := by
  unfold mailI
  rw [List.map_append, List.map_append, List.map_map, List.map_map, List.map_map]
  congr 1
  · refine List.map_congr_left fun n hn => ?_
    obtain ⟨h1, h2⟩ := line_ok c1 c2 n hn
    have w := wd_ok c0 (p := (n - 1).toNat) (by omega)
    show toldR (toS (rowI c0 i n)) = _
    unfold rowI
    rw [told_row _ w.dot, w.told]
    congr 1
    grind
  · refine List.map_congr_left fun l hl => ?_
    obtain ⟨_, h2, _, h4, _⟩ := foot_ok l hl
    show toldR (toS l) = _
    have := told_row 0 h2
    rw [List.replicate_zero, List.nil_append] at this
    rw [this, h4]; rfl
theorem plain_rep (n : Nat) {w : List Nat} (h : Plain w) : Plain (List.replicate n 46 ++ w) := fun c hc => by
  rcases List.mem_append.mp hc with hc | hc
  · rw [List.eq_of_mem_replicate hc]; decide
  · exact h c hc
theorem mail_plain (c0 c1 c2 i : Nat) : ∀ r ∈ mailI c0 c1 c2 i, Plain r := by
  intro r hr
  rcases List.mem_append.mp hr with hr | hr
  · obtain ⟨n, hn, rfl⟩ := List.mem_map.mp hr
    obtain ⟨h1, h2⟩ := line_ok c1 c2 n hn
    exact plain_rep _ (wd_ok c0 (p := (n - 1).toNat) (by omega)).plain
  · exact (foot_ok r hr).1
theorem mail_short (c0 c1 c2 i : Nat) (hi : i ≤ 3) : ∀ r ∈ mailI c0 c1 c2 i, r.length ≤ 11 := by
  intro r hr
  rcases List.mem_append.mp hr with hr | hr
  · obtain ⟨n, hn, rfl⟩ := List.mem_map.mp hr
    obtain ⟨h1, h2⟩ := line_ok c1 c2 n hn
    have := (wd_ok c0 (p := (n - 1).toNat) (by omega)).len
    unfold rowI
    rw [List.length_append, List.length_replicate]; lia
  · have := (foot_ok r hr).2.2.1; (exact Nat.le_trans (by assumption) (Nat.le_add_left _ _))
theorem mail_len (c0 c1 c2 i : Nat) : (mailI c0 c1 c2 i).length = 9 := by
  unfold mailI; rw [List.length_append, List.length_map, line_len]; rfl
theorem dot_rep (n : Nat) {w : List Nat} : dotR (List.replicate (n + 1) 46 ++ w) = List.replicate (n + 2) 46 ++ w := rfl
theorem mail_dot (c0 c1 c2 i : Nat) : (mailI c0 c1 c2 i).map dotR = mailI c0 c1 c2 (i + 1) := by
  unfold mailI
  rw [List.map_append, List.map_map]
  congr 1
  · refine List.map_congr_left fun n hn => ?_
    obtain ⟨h1, h2⟩ := line_ok c1 c2 n hn
    show dotR (rowI c0 i n) = rowI c0 (i + 1) n
    unfold rowI
    obtain ⟨k, hk⟩ : ∃ k, n.toNat + i = k + 1 := ⟨n.toNat + i - 1, by lia⟩
    rw [hk, dot_rep, show n.toNat + (i + 1) = k + 2 by lia]
theorem joinE_len (e : List Nat) {b : Nat} : ∀ {rows : List (List Nat)}, (∀ r ∈ rows, r.length ≤ b) → (joinE e rows).length ≤ rows.length * (b + e.length)
  | [], _ => Nat.zero_le _
  | [r], h => by
    have := h r List.mem_cons_self
    show r.length ≤ _
    simp; (exact Nat.le_trans (by assumption) (Nat.le_add_right _ _))
  | r :: q :: rs, h => by
    have ih := joinE_len e (rows := q :: rs) fun x hx => h x (List.mem_cons_of_mem _ hx)
    have := h r List.mem_cons_self
    show (r ++ e ++ joinE e (q :: rs)).length ≤ _
    rw [List.length_append, List.length_append, List.length_cons, Nat.add_mul]
    grind
end Mine
end
section
open PySem PySem.W PyProof.Rows
open Builtin Builtin.Str StrLaws
set_option maxRecDepth 100000
set_option linter.unusedVariables false
set_option maxHeartbeats 400000
namespace Mine
/-! the pile of quoted rows, and bounds -/
noncomputable def pRow (ls : List Nat) (V : Nat) : Nat → List (List Nat)
  | 0 => footL
  | i + 1 => (46 :: wordW ls V (5 - i)) :: (pRow ls V i).map dotR
theorem end_mem (k : Nat) (hk : k < 3) : endsL.getD k [] ∈ endsL := by
  match k, hk with
  | 0, _ => decide
  | 1, _ => decide
  | 2, _ => decide
theorem end_or {e : List Nat} (h : e ∈ endsL) : e = [13] ∨ e = [13, 10] ∨ e = [10] := by
  have : e = [10] ∨ e = [13] ∨ e = [13, 10] := by simpa [endsL] using h
  rcases this with h | h | h
  · exact .inr (.inr h)
  · exact .inl h
  · exact .inr (.inl h)
theorem dot_plain {r : List Nat} (h : Plain r) : Plain (dotR r) := by
  unfold dotR
  split
  · intro c hc
    rcases List.mem_cons.mp hc with rfl | hc
    · decide
    · exact h c hc
  · exact h
theorem pRow_ne (ls : List Nat) (V : Nat) : ∀ i, ∃ r rs, pRow ls V i = r :: rs ∧ r.head? ≠ none ∧ r.head? ≠ some 10
  | 0 => ⟨_, _, rfl, by decide, by decide⟩
  | i + 1 => ⟨_, _, rfl, by simp, by simp⟩
theorem pRow_plain (ls : List Nat) (V : Nat) (hw : ∀ p < 6, Plain (wordW ls V p)) : ∀ i ≤ 6, ∀ r ∈ pRow ls V i, Plain r
  | 0, _, r, hr => (foot_ok r hr).1
  | i + 1, hi, r, hr => by
    rcases List.mem_cons.mp hr with rfl | hr
    · intro c hc
      rcases List.mem_cons.mp hc with rfl | hc
      · decide
      · exact hw _ (by (simp +arith)) c hc
    · obtain ⟨q, hq, rfl⟩ := List.mem_map.mp hr
      exact dot_plain (pRow_plain ls V hw i (by (exact Nat.le_of_lt (by assumption))) q hq)
theorem join_head {r : List Nat} {rs : List (List Nat)} (h1 : r.head? ≠ none) (h2 : r.head? ≠ some 10) : (joinE crlf (r :: rs)).head? ≠ some 10 := by
  cases r with
  | nil => exact absurd rfl h1
  | cons c r =>
    cases rs with
    | nil => exact h2
    | cons q rs => exact h2
theorem dotR_head {r : List Nat} (h1 : r.head? ≠ none) (h2 : r.head? ≠ some 10) : (dotR r).head? ≠ none ∧ (dotR r).head? ≠ some 10 := by
  unfold dotR
  split
  · exact ⟨by simp, by simp⟩
  · exact ⟨h1, h2⟩
theorem pile_eol (ls : List Nat) (V : Nat) (hw : ∀ p < 6, Plain (wordW ls V p)) : ∀ i ≤ 6, eolL (pileT ls V i) = joinE crlf (pRow ls V i)
  | 0, _ => by
    unfold pileT pRow endW
    have h3 : V / 3 ^ 6 % 3 < 3 := Nat.mod_lt _ (by decide)
    match h : V / 3 ^ 6 % 3, h3 with
    | 0, _ => rfl
    | 1, _ => rfl
    | 2, _ => rfl
  | i + 1, hi => by
    have ih := pile_eol ls V hw i (by (exact Nat.le_of_lt (by assumption)))
    have hp := pRow_plain ls V hw i (by omega)
    obtain ⟨r, rs, e, h1, h2⟩ := pRow_ne ls V i
    have hq : quoteL (pileT ls V i) = joinE crlf ((pRow ls V i).map dotR) := by
      unfold quoteL; rw [ih, dot_join hp]
    have hdp : ∀ x ∈ (pRow ls V i).map dotR, Plain x := fun x hx => by
      obtain ⟨q, hq, rfl⟩ := List.mem_map.mp hx
      exact dot_plain (hp q hq)
    show eolL ([46] ++ wordW ls V (5 - i) ++ endW V (5 - i) ++ quoteL (pileT ls V i)) = joinE crlf ((46 :: wordW ls V (5 - i)) :: (pRow ls V i).map dotR)
    rw [hq, List.append_assoc]
    have hpl : Plain ([46] ++ wordW ls V (5 - i)) := fun c hc => by
      rcases List.mem_append.mp hc with hc | hc
      · rw [List.mem_singleton.mp hc]; decide
      · exact hw _ (by (simp +arith)) c hc
    have hd := dotR_head h1 h2
    rw [eol_row _ hpl, eol_end (e := endW V (5 - i)) (end_mem _ (Nat.mod_lt _ (by decide))) (by rw [e, List.map_cons]; exact join_head hd.1 hd.2), eol_join (.inr (.inl rfl)) hdp]
    rw [e, List.map_cons]
    show _ = (46 :: wordW ls V (5 - i)) ++ crlf ++ joinE crlf (dotR r :: rs.map dotR)
    simp
theorem wd_word (c0 : Nat) {p : Nat} (hp : p < 6) : wd c0 p = wordW (lettersL c0) (c0 / 2) p := by
  unfold wd wordsL
  rw [List.getD_eq_getElem?_getD, List.getElem?_map, List.getElem?_range hp]; rfl
theorem rows_are (c0 : Nat) : pRow (lettersL c0) (c0 / 2) 6 = rowsL c0 := rfl
theorem text_is (c0 : Nat) : textL c0 = joinE crlf (rowsL c0) := by
  unfold textL
  rw [pile_eol _ _ (fun p hp => by rw [← wd_word c0 hp]; exact (wd_ok c0 hp).plain) 6 (Nat.le_refl _), rows_are]
theorem rows_plain (c0 : Nat) : ∀ r ∈ rowsL c0, Plain r := by
  rw [← rows_are]
  exact pRow_plain _ _ (fun p hp => by rw [← wd_word c0 hp]; exact (wd_ok c0 hp).plain) 6 (Nat.le_refl _)
theorem rows_get (c0 : Nat) {k : Nat} (hk : k < 6) : (rowsL c0).getD k [] = List.replicate (k + 1) 46 ++ wd c0 k := by
  unfold rowsL
  rw [List.getD_eq_getElem?_getD, List.getElem?_append_left (by simpa using hk), List.getElem?_map, List.getElem?_range hk]; rfl
theorem mail_is (c0 c1 c2 : Nat) : mailR c0 c1 c2 = mailI c0 c1 c2 0 := by
  unfold mailR mailI
  congr 1
  refine List.map_congr_left fun n hn => ?_
  obtain ⟨h1, h2⟩ := line_ok c1 c2 n hn
  rw [rows_get c0 (by omega)]
  unfold rowI
  rw [show (n - 1).toNat + 1 = n.toNat + 0 by grind]
theorem rows_short (c0 : Nat) : ∀ r ∈ rowsL c0, r.length ≤ 11 := by
  intro r hr
  unfold rowsL at hr
  rcases List.mem_append.mp hr with hr | hr
  · obtain ⟨p, hp, rfl⟩ := List.mem_map.mp hr
    have hp' : p < 6 := List.mem_range.mp hp
    have := (wd_ok c0 hp').len
    unfold wd at this
    rw [List.length_append, List.length_replicate]; lia
  · have := (foot_ok r hr).2.2.1; (exact Nat.le_trans (by assumption) (Nat.le_add_left _ _))
theorem two_of_len {rows : List (List Nat)} (h : 2 ≤ rows.length) : ∃ r q rs, rows = r :: q :: rs := by
  match rows, h with
  | r :: q :: rs, _ => exact ⟨r, q, rs, rfl⟩
theorem split_of {rows : List (List Nat)} (h : 2 ≤ rows.length) (hp : ∀ r ∈ rows, Plain r) : Txt.split (toS (joinE crlf rows)) (toS crlf) = rows.map toS := by
  obtain ⟨r, q, rs, rfl⟩ := two_of_len h
  exact split_rows hp
theorem replace_of (e : List Nat) {rows : List (List Nat)} (h : 2 ≤ rows.length) (hp : ∀ r ∈ rows, Plain r) : Txt.replace (toS (joinE crlf rows)) (toS crlf) (toS e) = toS (joinE e rows) := by
  obtain ⟨r, q, rs, rfl⟩ := two_of_len h
  exact replace_rows e hp
theorem foldl_le (b k : Nat) : ∀ (l : List Str) (s : Nat), (∀ x ∈ l, x.length ≤ b) → l.foldl (fun a x => a + x.length + k) s ≤ s + l.length * (b + k)
  | [], s, _ => by simp
  | x :: l, s, h => by
    have h1 := h x List.mem_cons_self
    have ih := foldl_le b k l (s + x.length + k) fun y hy => h y (List.mem_cons_of_mem _ hy)
    rw [List.foldl_cons, List.length_cons, Nat.add_mul]
    omega
theorem joinOk_of {sep : Str} {l : List Str} {b : Nat} (h : ∀ x ∈ l, x.length ≤ b) (hb : l.length * (b + sep.length) ≤ 16777216) : JoinOk sep l = true := by
  unfold JoinOk
  have := foldl_le b sep.length l 0 h
  rw [List.foldl_toArray]
  have e : tooLong (l.foldl (fun x1 x2 => x1 + x2.length + sep.length) 0) = false := by
    unfold tooLong
    rw [sizeLine_eq]
    exact decide_eq_false (by omega)
  rw [e]; rfl
theorem parts_le (x : Str) (cuts : List Nat) (h : cuts.length ≤ 1000000) : (partsBetween x cuts 2).length ≤ sizeLine := by
  rw [length_partsBetween, sizeLine_eq]; (exact Nat.lt_of_le_of_lt (by assumption) (by decide))
theorem cuts_le {l : List Nat} (h : l.length ≤ 900000) : (partsBetween (toS l) (occurrences (toS l) (toS crlf) 0 (toS l).length ((toS l).length + 1)) 2).length ≤ sizeLine := by
  refine parts_le _ _ ?_
  have := occ_length_le (toS l) (toS crlf) 0 (toS l).length ((toS l).length + 1)
  have e : (toS l).length = l.length := toS_len l
  lia
theorem mail_bytes (c0 c1 c2 i : Nat) (hi : i ≤ 3) {e : List Nat} (he : e ∈ endsL) : (joinE e (mailI c0 c1 c2 i)).length ≤ 117 := by
  have h1 := joinE_len e (mail_short c0 c1 c2 i hi)
  rw [mail_len] at h1
  have h2 : e.length ≤ 2 := by rcases end_or he with rfl | rfl | rfl <;> decide
  have h3 : 9 * (11 + e.length) ≤ 117 := by lia
  (exact Nat.le_trans (by assumption) (by assumption))
theorem mailOk (c0 c1 c2 i : Nat) (hi : i ≤ 3) : MailOk (toS (joinE crlf (mailI c0 c1 c2 i))) := by
  have hl := mail_bytes c0 c1 c2 i hi (e := crlf) (by decide)
  have hr : rowsR (toS (joinE crlf (mailI c0 c1 c2 i))) = (mailI c0 c1 c2 i).map toS := split_of (by rw [mail_len]; decide) (mail_plain c0 c1 c2 i)
  refine ⟨by rw [toS_len]; (exact Nat.le_trans (by assumption) (Nat.le_add_left _ _)), cuts_le (by (exact Nat.le_trans (by assumption) (Nat.le_add_left _ _))), by rw [hr, List.length_map, mail_len]; decide, fun r h => ?_⟩
  rw [hr] at h
  obtain ⟨x, hx, rfl⟩ := List.mem_map.mp h
  have hs := mail_short c0 c1 c2 i hi x hx
  have key : JoinOk ⟨#[]⟩ (lettersR (restR (toS x))) = true ∧ (restR (toS x)).length ≤ 16777216 := by
    rcases List.mem_append.mp hx with hx | hx
    · obtain ⟨n, hn, rfl⟩ := List.mem_map.mp hx
      obtain ⟨h1, h2⟩ := line_ok c1 c2 n hn
      have w := wd_ok c0 (p := (n - 1).toNat) (by lia)
      unfold rowI
      rw [lstrip_dots _ w.dot, toS_len]
      exact ⟨w.ok, by have := w.len; (exact Nat.le_trans (by assumption) (Nat.le_add_left _ _))⟩
    · obtain ⟨_, h2, h3, _, h5⟩ := foot_ok x hx
      have e := lstrip_dots 0 h2
      rw [List.replicate_zero, List.nil_append] at e
      rw [e, toS_len]
      exact ⟨h5, by (exact Nat.le_trans (by assumption) (Nat.le_add_left _ _))⟩
  exact ⟨by rw [toS_len]; (exact Nat.le_trans (by assumption) (Nat.le_add_left _ _)), key.2, key.1⟩
theorem read_mail (c0 c1 c2 i : Nat) : readR (toS (joinE crlf (mailI c0 c1 c2 i))) = ((lineL c1 c2).map fun (n : Int) => (n + ((i : Nat) : Int), toS [(lettersL c0).getD (n - 1).toNat 0])) ++ footL.map fun l => ((0 : Int), toS l) := by
  have hr : rowsR (toS (joinE crlf (mailI c0 c1 c2 i))) = (mailI c0 c1 c2 i).map toS := split_of (by rw [mail_len]; decide) (mail_plain c0 c1 c2 i)
  unfold readR
  rw [hr, told_mail]
end Mine
end
section
open PySem PySem.W PyProof.Rows
set_option maxRecDepth 100000
set_option linter.unusedVariables false
set_option maxHeartbeats 400000
namespace Mine
theorem lines_nodup : ∀ b < 32, ∀ one < 6, ∀ two < 6, nodB (lineN b one two) = true := by decide +kernel
theorem line_nodup (c1 c2 : Nat) : (lineM c1 c2).Nodup := by
  have := lines_nodup (c1 % 64 / 2) (by lia) _ (one_lt c2) _ (two_lt c2)
  rw [nodB_iff] at this
  exact of_decide_eq_true this
theorem rows6_get (c0 c1 c2 c3 : Nat) {i : Nat} (hi : i < 6) : ((rows6 c0 c1 c2 c3).getD i (0, 0)).1 = (((lineM c1 c2).getD i 0 : Nat) : Int) + ((c3 % 3 : Nat) : Int) := by
  have hl : (lineM c1 c2).length = 6 := lineN_len _ _ _
  unfold rows6
  rw [line_nat, List.map_map, List.getD_eq_getElem?_getD, List.getElem?_map, List.getElem?_eq_getElem (by assumption), List.getD_eq_getElem?_getD, List.getElem?_eq_getElem (by omega)]
  rfl
theorem key_get (c0 c1 c2 c3 : Nat) (d1 d2 : Int) {i : Nat} (hi : i < 6) : ((rows6 c0 c1 c2 c3).map (keyF d1 d2)).getD i (0, 0) = keyF d1 d2 ((rows6 c0 c1 c2 c3).getD i (0, 0)) := by
  have hl := rows6_len c0 c1 c2 c3
  rw [List.getD_eq_getElem?_getD, List.getElem?_map, List.getElem?_eq_getElem (by assumption), List.getD_eq_getElem?_getD, List.getElem?_eq_getElem (by omega)]
  rfl
theorem d1_or (c3 : Nat) : d1N c3 = 1 ∨ d1N c3 = -3 := by
  unfold d1N
  have : c3 / 81 % 2 = 0 ∨ c3 / 81 % 2 = 1 := by lia
  rcases this with q | q <;> rw [q]
  · exact .inl rfl
  · exact .inr rfl
theorem d2_or (c3 : Nat) : d2N c3 = 2 ∨ d2N c3 = -1 := by
  unfold d2N
  have : c3 / 162 % 2 = 0 ∨ c3 / 162 % 2 = 1 := by lia
  rcases this with q | q <;> rw [q]
  · exact .inl rfl
  · exact .inr rfl
theorem keys_apart (c0 c1 c2 c3 : Nat) : ∀ i j, i < 6 → j < 6 → i ≠ j → ((rows6 c0 c1 c2 c3).map (keyF (d1N c3) (d2N c3))).getD i (0, 0) ≠ ((rows6 c0 c1 c2 c3).map (keyF (d1N c3) (d2N c3))).getD j (0, 0) := by
  intro i j hi hj hij e
  have hl : (lineM c1 c2).length = 6 := lineN_len _ _ _
  rw [key_get _ _ _ _ _ _ hi, key_get _ _ _ _ _ _ hj] at e
  have h2 : ((rows6 c0 c1 c2 c3).getD i (0, 0)).1 * d2N c3 = ((rows6 c0 c1 c2 c3).getD j (0, 0)).1 * d2N c3 := congrArg Prod.snd e
  rw [rows6_get _ _ _ _ hi, rows6_get _ _ _ _ hj] at h2
  have h3 : (lineM c1 c2).getD i 0 = (lineM c1 c2).getD j 0 := by
    rcases d2_or c3 with q | q <;> rw [q] at h2 <;> lia
  rw [List.getD_eq_getElem?_getD, List.getD_eq_getElem?_getD, List.getElem?_eq_getElem (by assumption), List.getElem?_eq_getElem (by assumption)] at h3
  have h4 : (lineM c1 c2)[i] = (lineM c1 c2)[j] := h3
  have hp := List.pairwise_iff_getElem.mp (line_nodup c1 c2)
  rcases Nat.lt_or_gt_of_ne hij with q | q
  · exact hp i j (by assumption) (by assumption) q h4
  · exact hp j i (by assumption) (by assumption) q h4.symm
theorem lt_one (x y : Nat) : ([x] : List Nat) < [y] ↔ x < y := by
  constructor
  · intro h
    cases h with
    | rel h => exact h
    | cons h => cases h
  · exact fun h => .rel h
theorem cmp_lt {d1 d2 : Int} (h1 : d1 = 1 ∨ d1 = -3) (h2 : d2 = 2 ∨ d2 = -1) {a b : Int × Nat} (h : lexlt (keyF d1 d2 a) (keyF d1 d2 b) = true) :
    cmpV d1 d2 a.1 b.1 ⟨#[a.2]⟩ ⟨#[b.2]⟩ = -apartV d1 d2 a b ∧ cmpV d1 d2 b.1 a.1 ⟨#[b.2]⟩ ⟨#[a.2]⟩ = apartV d1 d2 b a := by
  rw [lex_iff] at h
  unfold keyF at h
  dsimp only at h
  have a1 : absI 1 = 1 := rfl
  have a2 : absI (-3) = 3 := rfl
  have a3 : absI 2 = 2 := rfl
  have a4 : absI (-1) = 1 := rfl
  unfold cmpV apartV
  simp only [lt_one]
  rcases h1 with rfl | rfl <;> rcases h2 with rfl | rfl <;> simp only [a1, a2, a3, a4] <;> (constructor <;> (repeat' split) <;> (first | assumption | exact rfl | (simp_all; done) | lia | grind | omega))
theorem cmp_self (d1 d2 : Int) (a : Int × Nat) : cmpV d1 d2 a.1 a.1 ⟨#[a.2]⟩ ⟨#[a.2]⟩ = -apartV d1 d2 a a := by
  unfold cmpV apartV
  simp only [lt_one]
  simp
theorem perm_get {perm : Array Nat} (hs : perm.size = 6) (f : Nat → Int × Nat) {k : Nat} (hk : k < 6) : (perm.toList.map f).getD k (0, 0) = f (perm.getD k 0) := by
  have hk' : k < perm.size := by simp_all
  have e : perm.getD k 0 = perm[k] := by simp [Array.getD, hk']
  rw [e, List.getD_eq_getElem?_getD, List.getElem?_map, List.getElem?_eq_getElem (by simpa using hk')]
  simp
theorem perm_lt {perm : Array Nat} (hs : perm.size = 6) (hm : ∀ i ∈ perm.toList, i < 6) {k : Nat} (hk : k < 6) : perm.getD k 0 < 6 := by
  have hk' : k < perm.size := by simp_all
  have e : perm.getD k 0 = perm[k] := by simp [Array.getD, hk']
  rw [e]
  exact hm _ (by simp)
theorem words_low : ∀ ch ∈ [107, 109, 98], ∀ v < 16, ∀ k < 4, ((kindK ch v).getD k []).all (fun c => decide (c < 1114112)) = true := by decide +kernel
theorem wd_low (c0 : Nat) {p : Nat} (hp : p < 6) : (wd c0 p).all (fun c => decide (c < 1114112)) = true := by
  have e : wd c0 p = (kindK ((lettersL c0).getD p 0) (c0 / 2 / 4096 % 16)).getD (c0 / 2 / 4 ^ p % 4) [] := by
    unfold wd wordsL
    rw [List.getD_eq_getElem?_getD, List.getElem?_map, List.getElem?_range hp]; rfl
  rw [e]
  exact words_low _ (letter_mem c0 hp) _ (Nat.mod_lt _ (by decide)) _ (Nat.mod_lt _ (by decide))
theorem strOk_of {l : List Nat} (h : ∀ c ∈ l, c < 1114112) : PyData.strOk (toS l) = true := by
  unfold PyData.strOk toS
  rw [← Array.all_toList]
  exact List.all_eq_true.mpr fun c hc => decide_eq_true (h c (by simpa using hc))
theorem foot_low : ∀ l ∈ footL, ∀ c ∈ l, c < 1114112 := by decide
theorem rows_ok (c0 : Nat) : ∀ x ∈ (rowsL c0).map toS, PyData.strOk x = true := by
  intro x hx
  obtain ⟨r, hr, rfl⟩ := List.mem_map.mp hx
  refine strOk_of fun c hc => ?_
  unfold rowsL at hr
  rcases List.mem_append.mp hr with hr | hr
  · obtain ⟨p, hp, rfl⟩ := List.mem_map.mp hr
    rcases List.mem_append.mp hc with hc | hc
    · rw [List.eq_of_mem_replicate hc]; decide
    · exact of_decide_eq_true (List.all_eq_true.mp (wd_low c0 (List.mem_range.mp hp)) c hc)
  · exact foot_low r hr c hc
theorem told_ok (c0 c1 c2 c3 : Nat) : ∀ p ∈ toldL c0 c1 c2 c3, PyData.strOk p.2 = true := by
  intro p hp
  unfold toldL at hp
  rcases List.mem_append.mp hp with hp | hp
  · obtain ⟨n, hn, rfl⟩ := List.mem_map.mp hp
    obtain ⟨h1, h2⟩ := line_ok c1 c2 n hn
    have := ok_letter c0 n.toNat (by lia)
    rw [show n.toNat - 1 = (n - 1).toNat by omega] at this
    exact this
  · obtain ⟨l, hl, rfl⟩ := List.mem_map.mp hp
    exact strOk_of (foot_low l hl)
/-! all that plain mathematics must give -/
noncomputable abbrev msOf (c0 c1 c2 : Nat) (i : Nat) : List Nat := joinE crlf (mailI c0 c1 c2 i)
theorem end_in (V p : Nat) : endW V p ∈ endsL := end_mem _ (Nat.mod_lt _ (by decide))
theorem lawM (c0 c1 c2 c3 : Nat) : Nonempty (LawM c0 c1 c2 c3) := by
  obtain ⟨perm, p1, p2, p3, p4⟩ := sort_six (keys_apart c0 c1 c2 c3)
  have F := facts c1 c2 c3
  have hmod : c3 % 3 ≤ 2 := by grind
  have hrows : (rowsL c0).length = 9 := rows_len c0
  have htl : (textL c0).length ≤ 117 := by
    rw [text_is]
    have := joinE_len crlf (rows_short c0)
    rw [hrows] at this; exact this
  have r2 : 2 ≤ (rowsL c0).length := by simp_all
  have m2 : ∀ i, 2 ≤ (mailI c0 c1 c2 i).length := fun i => by rw [mail_len]; decide
  have hr13 : endsL.getD (c3 / 27 % 3) [] ∈ endsL := end_mem _ (Nat.mod_lt _ (by decide))
  have q13 : quoteL (joinE (endsL.getD (c3 / 27 % 3) []) (mailI c0 c1 c2 (c3 % 3))) = msOf c0 c1 c2 (c3 % 3 + 1) := by
    rw [quote_join (end_or hr13) (mail_plain c0 c1 c2 _), mail_dot]
  have hread : ∀ i, (readR (toS (msOf c0 c1 c2 i))).length = 9 := fun i => by
    rw [read_mail, List.length_append, List.length_map, List.length_map, lineL_len]; rfl
  refine ⟨{
    ms := msOf c0 c1 c2
    rs := fun i => joinE (endW c3 (i + 1)) (mailI c0 c1 c2 i)
    r := joinE (endsL.getD (c3 / 27 % 3) []) (mailI c0 c1 c2 (c3 % 3))
    perm := perm
    m4a := by rw [text_is]; exact split_of r2 (rows_plain c0)
    m4b := by rw [toS_len, sizeLine_eq]; (exact Nat.le_trans (by assumption) (Nat.le_add_left _ _))
    m4c := cuts_le (by (exact Nat.le_trans (by assumption) (Nat.le_add_left _ _)))
    m5 := ?m5
    m9a := by rw [mail_is]; exact join_rows crlf _
    m9b := ?m9b
    m10 := ?m10
    m11a := by rw [read_mail]; rfl
    m11b := mailOk c0 c1 c2 _ (by (exact Nat.le_succ_of_le (by assumption)))
    m12 := ?m12
    m13a := replace_of _ (m2 _) (mail_plain c0 c1 c2 _)
    m13b := Nat.le_trans (mail_bytes c0 c1 c2 (c3 % 3) (by omega) (e := crlf) (by decide)) (by decide)
    m13c := by have := mail_bytes c0 c1 c2 (c3 % 3) (by omega) hr13; (exact Nat.le_trans (by assumption) (Nat.le_add_left _ _))
    m13d := by rw [q13]; exact mailOk c0 c1 c2 _ (by (exact Nat.lt_succ_of_le (by assumption)))
    m13e := ?m13e
    m13f := by rw [q13, hread]; decide
    m16 := m16_is c1 c2 c3
    m18a := F.1
    m18b := F.2.1
    m18c := F.2.2.1
    m19 := m19_is c0 c1 c2 c3
    m21a := p1
    m21b := p2
    m21c := p3
    m22 := ?m22 }⟩
  case m5 => exact rows_ok c0
  case m9b =>
    rw [mail_is]
    refine joinOk_of (b := 11) (fun x hx => ?_) ?_
    · obtain ⟨r, hr, rfl⟩ := List.mem_map.mp hx
      rw [toS_len]; exact mail_short c0 c1 c2 0 (by decide) r hr
    · rw [List.length_map, mail_len]; decide
  case m10 =>
    intro i hi
    have hb := mail_bytes c0 c1 c2 i (by grind) (e := crlf) (by decide)
    have hb2 := mail_bytes c0 c1 c2 i (by grind) (end_in c3 (i + 1))
    refine ⟨replace_of _ (m2 i) (mail_plain c0 c1 c2 i), ?_, Nat.le_trans hb (by decide), Nat.le_trans hb2 (by decide)⟩
    rw [quote_join (end_or (end_in c3 (i + 1))) (mail_plain c0 c1 c2 i), mail_dot]
  case m12 => exact told_ok c0 c1 c2 c3
  case m13e =>
    rw [q13, read_mail]
    unfold againL
    rw [List.take_append_of_le_length (by rw [List.length_map, lineL_len]; decide), List.take_of_length_le (by rw [List.length_map, lineL_len]; decide)]
    refine List.map_congr_left fun n _ => ?_
    congr 1
    (simp +arith)
  case m22 =>
    intro i j hi hj
    rw [perm_get p3 _ hi, perm_get p3 _ hj]
    have key : ∀ {i j : Nat}, i < j → j < 6 → lexlt (keyF (d1N c3) (d2N c3) ((rows6 c0 c1 c2 c3).getD (perm.getD i 0) (0, 0))) (keyF (d1N c3) (d2N c3) ((rows6 c0 c1 c2 c3).getD (perm.getD j 0) (0, 0))) = true := fun {i j} hij hj => by
      have := p4 i j hij hj
      rw [key_get _ _ _ _ _ _ (perm_lt p3 p2 (by (exact Nat.lt_trans (by assumption) (by assumption)))), key_get _ _ _ _ _ _ (perm_lt p3 p2 hj)] at this
      exact this
    by_cases hij : i < j
    · rw [if_neg (by lia)]
      exact (cmp_lt (d1_or c3) (d2_or c3) (key hij hj)).1
    · by_cases hji : j < i
      · rw [if_pos (by simp_all)]
        exact (cmp_lt (d1_or c3) (d2_or c3) (key hji hi)).2
      · have : i = j := by lia
        subst this
        rw [if_neg (by simp)]
        exact cmp_self _ _ _
end Mine
end
set_option maxRecDepth 100000 in
theorem PySem.Challenge.cw_wz0020_01_holds : PySem.Challenge.rw_wz0020_01.Holds := by
  exact Mine.law_holds fun c0 c1 c2 c3 => Classical.choice (Mine.lawM c0 c1 c2 c3)
