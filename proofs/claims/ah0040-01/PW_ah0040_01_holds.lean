import PyProof.Rows.All
import Wide.All
import OpenK.AllK
import Wide.FinOn
import Open.Boot
import Open.Tops
import KE.LcTurns
import Lean
import PySem.Challenge.RW_ah0040_01
set_option compiler.extract_closed false
set_option linter.all false
section
set_option Elab.async false
namespace Lith
/-- how far two lists run alike -/
noncomputable def lcp : List Nat → List Nat → Nat
  | x :: xs, y :: ys => if x = y then lcp xs ys + 1 else 0
  | _, _ => 0
/-- the order of the tables (of the texts turned round): a shorter beginning comes first -/
noncomputable def less : List Nat → List Nat → Bool
  | _, [] => false
  | [], _ :: _ => true
  | x :: xs, y :: ys => if x = y then less xs ys else decide (x < y)

theorem lcp_comm : ∀ a b, lcp a b = lcp b a
  | [], [] => rfl
  | [], _ :: _ => rfl
  | _ :: _, [] => rfl
  | x :: xs, y :: ys => by
    unfold lcp
    by_cases h : x = y
    · subst h; simp [lcp_comm xs ys]
    · simp [h, Ne.symm h]
theorem lcp_tri : ∀ a b c, min (lcp a b) (lcp b c) ≤ lcp a c
  | [], _, _ => by simp [lcp]
  | _ :: _, [], _ => by simp [lcp]
  | _ :: _, _ :: _, [] => by simp [lcp]
  | x :: xs, y :: ys, z :: zs => by
    unfold lcp
    by_cases h : x = y
    · by_cases g : y = z
      · subst h; subst g
        have := lcp_tri xs ys zs
        simp only [if_true]; omega
      · simp [g]
    · simp [h]
theorem between : ∀ {a b c}, less a b = true → less b c = true → lcp a c ≤ lcp a b
  | [], _, _, _, _ => by simp [lcp]
  | _ :: _, [], _, h, _ => by simp [less] at h
  | _ :: _, _ :: _, [], _, g => by simp [less] at g
  | x :: xs, y :: ys, z :: zs, h, g => by
    unfold less at h g
    unfold lcp
    by_cases e : x = y
    · subst e
      by_cases f : x = z
      · subst f
        simp only [if_true] at h g ⊢
        exact Nat.succ_le_succ (between h g)
      · simp [f]
    · by_cases f : x = z
      · subst f
        have e' : ¬ y = x := Ne.symm e
        simp only [e, e', if_false, decide_eq_true_eq] at h g
        omega
      · simp [f]
theorem pre_le : ∀ {a t : List Nat}, a <+: t → less t a = false
  | [], t, _ => by cases t <;> rfl
  | x :: xs, [], h => by simp at h
  | x :: xs, y :: ys, h => by
    rw [List.cons_prefix_cons] at h
    obtain ⟨rfl, h⟩ := h
    unfold less
    simp [pre_le h]
theorem pre_between : ∀ {a b t : List Nat}, a <+: t → less t b = false → less b a = false → a <+: b
  | [], _, _, _, _, _ => List.nil_prefix
  | x :: xs, _, [], h, _, _ => by simp at h
  | x :: xs, [], y :: ys, _, _, g => by simp [less] at g
  | x :: xs, z :: zs, y :: ys, h, f, g => by
    rw [List.cons_prefix_cons] at h
    obtain ⟨rfl, h⟩ := h
    unfold less at f g
    by_cases e : x = z
    · subst e
      simp only [if_true] at f g
      rw [List.cons_prefix_cons]
      exact ⟨rfl, pre_between h f g⟩
    · have e' : ¬ z = x := Ne.symm e
      simp only [e, e', if_false, decide_eq_false_iff_not] at f g
      omega
theorem less_le : ∀ {t b a : List Nat}, less t b = true → less a b = false → less t a = true
  | _, [], _, h, _ => by simp [less] at h
  | _, _ :: _, [], _, g => by simp [less] at g
  | [], _ :: _, _ :: _, _, _ => rfl
  | x :: xs, y :: ys, z :: zs, h, g => by
    unfold less at h g ⊢
    by_cases e : x = y
    · subst e
      by_cases f : z = x
      · subst f
        simp only [if_true] at h g ⊢
        exact less_le h g
      · have f' : ¬ x = z := Ne.symm f
        simp only [f, f', if_false, decide_eq_false_iff_not, decide_eq_true_eq] at g ⊢
        omega
    · by_cases f : z = y
      · subst f
        simp only [e, if_false] at h ⊢
        exact h
      · by_cases g' : x = z
        · subst g'
          simp only [e, if_false, decide_eq_false_iff_not, decide_eq_true_eq] at h g
          omega
        · simp only [e, f, g', if_false, decide_eq_false_iff_not, decide_eq_true_eq] at h g ⊢
          omega
theorem pre_iff : ∀ {a b t : List Nat}, a <+: b → (a <+: t ↔ a.length ≤ lcp t b)
  | [], _, _, _ => by simp
  | x :: xs, [], _, h => by simp at h
  | x :: xs, y :: ys, [], h => by simp [lcp]
  | x :: xs, y :: ys, z :: zs, h => by
    rw [List.cons_prefix_cons] at h
    obtain ⟨rfl, h⟩ := h
    rw [List.cons_prefix_cons]
    unfold lcp
    by_cases e : z = x
    · subst e
      simp only [true_and, if_true, List.length_cons]
      rw [pre_iff h]; omega
    · simp [e, Ne.symm e]
/-- the beginning that the search has by then is common to the key that it takes next -/
theorem common_le {t a b c : List Nat} (h1 : less a b = true) (h2 : less b c = true) : min (lcp t a) (lcp t c) ≤ lcp t b := by
  have e1 := lcp_tri a t c
  rw [lcp_comm a t] at e1
  have e2 := between h1 h2
  have e3 := lcp_tri t a b
  omega
/-- one more sign alike -/
theorem lcp_step {t w : List Nat} : ∀ {k : Nat}, k ≤ lcp t w → k < t.length → k < w.length → t[k]? = w[k]? → k + 1 ≤ lcp t w := by
  induction t generalizing w with
  | nil => intro k h h2; simp at h2
  | cons x xs ih =>
    cases w with
    | nil => intro k h h2 h3; simp at h3
    | cons y ys =>
      intro k h h2 h3 e
      unfold lcp at h ⊢
      cases k with
      | zero =>
        simp at e
        subst e
        simp
      | succ k =>
        by_cases f : x = y
        · subst f
          simp only [if_true] at h ⊢
          have := ih (w := ys) (k := k) (by omega) (by simpa using h2) (by simpa using h3) (by simpa using e)
          omega
        · simp [f] at h
/-- the first sign that differs tells -/
theorem lcp_stop {t w : List Nat} : ∀ {k : Nat} {x y : Nat}, k ≤ lcp t w → t[k]? = some x → w[k]? = some y → x ≠ y → lcp t w = k ∧ less t w = decide (x < y) := by
  induction t generalizing w with
  | nil => intro k x y _ h; simp at h
  | cons a as ih =>
    cases w with
    | nil => intro k x y _ _ h; simp at h
    | cons b bs =>
      intro k x y h h1 h2 n
      unfold lcp at h ⊢
      unfold less
      cases k with
      | zero =>
        simp at h1 h2
        subst h1; subst h2
        simp [n]
      | succ k =>
        by_cases f : a = b
        · subst f
          simp only [if_true] at h ⊢
          have := ih (w := bs) (k := k) (by omega) (by simpa using h1) (by simpa using h2) n
          exact ⟨by omega, this.2⟩
        · simp [f] at h
theorem lcp_short {t w : List Nat} : t.length ≤ lcp t w → t.length < w.length → lcp t w = t.length ∧ less t w = true := by
  induction t generalizing w with
  | nil => intro _ h; cases w with
    | nil => simp at h
    | cons y ys => exact ⟨rfl, rfl⟩
  | cons a as ih =>
    cases w with
    | nil => intro _ h; simp at h
    | cons b bs =>
      intro h g
      unfold lcp at h ⊢
      unfold less
      by_cases f : a = b
      · subst f
        simp only [if_true, List.length_cons] at h g ⊢
        have := ih (w := bs) (by omega) (by omega)
        exact ⟨by omega, this.2⟩
      · simp [f] at h
theorem lcp_whole {t w : List Nat} : w.length ≤ lcp t w → lcp t w = w.length ∧ less t w = false := by
  induction t generalizing w with
  | nil => intro h; cases w with
    | nil => exact ⟨rfl, rfl⟩
    | cons y ys => simp [lcp] at h
  | cons a as ih =>
    cases w with
    | nil => intro _; exact ⟨rfl, rfl⟩
    | cons b bs =>
      intro h
      unfold lcp at h ⊢
      unfold less
      by_cases f : a = b
      · subst f
        simp only [if_true, List.length_cons] at h ⊢
        have := ih (w := bs) (by omega)
        exact ⟨by omega, this.2⟩
      · simp [f] at h
end Lith
end
section
open PySem PySem.W PyProof.Rows
set_option Elab.async false
set_option maxRecDepth 100000
namespace Lith

abbrev EvC := Ctx → Pos → SharedT → Option (Result × SharedT)
abbrev EvR (α : Type) := Option (Except Value α × Pos × SharedT)

/-- one tree, by the kernel, over a heap that is a tree of objects -/
noncomputable def ev {α : Type} (st : Setting) (call : EvC) (Γ : Ctx) (t : Sem α) : Pos → SharedT → EvR α :=
  @Sem.rec α (fun _ => Pos → SharedT → EvR α)
    (fun a p s => some (.ok a, p, s))
    (fun e p s => some (.error e, p, s))
    (fun _ _ _ => none)
    (fun _ _ _ => none)
    (fun _ _ ih p s => ih () p s)
    (fun p' _ ih _ s => ih () p' s)
    (fun a _ _ ih p s => match Nat.blt a s.n with
      | true => match s.tree.get a with
        | some o => match alive o with
          | some o' => ih o' p s
          | none => none
        | none => none
      | false => none)
    (fun a _ f _ ih p s => match Nat.blt a s.n with
      | true => match s.tree.get a with
        | some o => match alive o with
          | some _ => ih () p { s with tree := s.tree.set a f }
          | none => none
        | none => none
      | false => none)
    (fun o _ ih p s => match ((s.tree.ins s.n o).get s.n).isSome with
      | true => ih s.n p { s with tree := s.tree.ins s.n o, n := s.n + 1 }
      | false => none)
    (fun a _ ih p s => match Nat.blt a s.n with
      | true => match s.tree.get a with
        | some o => ih (alive o) p s
        | none => none
      | false => ih none p s)
    (fun _ _ ih p s => ih () p s)
    (fun _ _ _ _ _ => none)
    (fun _ ih p s => ih s.toks p { s with toks := s.toks + 1 })
    (fun _ ih p s => ih st p s)
    (fun _ _ _ _ _ _ => none)
    (fun _ _ _ _ _ _ => none)
    (fun c h _ _ _ ih p s => match call (Γ.enter c h p) p s with
      | some (r, s') => ih r p s'
      | none => none)
    (fun own _ ih p s => ih (match own with | true => Γ.own | false => Γ.handled) p s)
    (fun _ _ _ _ _ => none)
    (fun _ _ _ _ _ => none)
    (fun _ _ _ _ _ _ _ => none)
    (fun _ _ _ _ _ _ _ => none)
    (fun _ ih p s => ih ((Γ.code, p) :: Γ.below) p s)
    (fun _ _ _ _ _ => none)
    (fun _ ih p s => ih 0 p s)
    (fun _ _ _ _ _ _ _ _ => none) t

noncomputable def evStep (den : Code → Sem Fin) (st : Setting) (call : EvC) : EvC := fun Γ p s =>
  match ev st call Γ (den Γ.code) p s with
  | some (.ok (.done f), _, s') => some (.ok f, s')
  | some (.ok (.again c), p', s') => match c.quiet with
    | true => call (Γ.goto c) p' s'
    | false => none
  | some (.error e, _, s') => some (.error e, s')
  | none => none

noncomputable def evCode (den : Code → Sem Fin) (st : Setting) : Nat → EvC
  | 0 => fun _ _ _ => none
  | n + 1 => evStep den st (evCode den st n)

noncomputable def Good (M : Model) (call : EvC) : Prop := ∀ Γ p s r s', call Γ p s = some (r, s') → ∀ R : Result → Shared → Prop, R r s'.abs → wpCode M Γ R p s.abs

/-- what is wanted of an end -/
noncomputable def Ends {α : Type} (Q : α → Pos → Shared → Prop) (E : Value → Pos → Shared → Prop) (p : Pos) (s : Shared) : Except Value α → Prop
  | .ok a => Q a p s
  | .error e => E e p s

theorem abs_get?_of {s : SharedT} {a : Addr} {o o' : Obj} (h : Nat.blt a s.n = true) (g : s.tree.get a = some o) (al : alive o = some o') : s.abs.heap.get? a = some o' :=
  (abs_get (life := s.life) (Nat.le_of_ble_eq_true h) g).trans al

theorem ev_sound {α : Type} {M : Model} {call : EvC} (hc : Good M call) (Γ : Ctx) (Q : α → Pos → Shared → Prop) (E : Value → Pos → Shared → Prop) (t : Sem α) :
    ∀ (p : Pos) (s : SharedT) (x : Except Value α) (p' : Pos) (s' : SharedT), ev ⟨M.prog, M.w.params⟩ call Γ t p s = some (x, p', s') →
      Ends Q E p' s'.abs x → Sem.wp M Γ t Q E p s.abs := by
  induction t with
  | pure a => intro p s x p' s' h q; cases h; exact q
  | raise e => intro p s x p' s' h q; cases h; exact q
  | unsupported _ => intro p s x p' s' h q; cases h
  | finish _ => intro p s x p' s' h q; cases h
  | rule _ k ih => intro p s x p' s' h q; exact ih () p s x p' s' h q
  | «at» p₀ k ih => intro p s x p' s' h q; exact ih () p₀ s x p' s' h q
  | load a part k ih =>
    intro p s x p' s' h q
    change (match Nat.blt a s.n with
      | true => match s.tree.get a with
        | some o => match alive o with
          | some o' => ev ⟨M.prog, M.w.params⟩ call Γ (k o') p s
          | none => none
        | none => none
      | false => none) = some (x, p', s') at h
    cases hb : Nat.blt a s.n with
    | false => rw [hb] at h; cases h
    | true =>
      rw [hb] at h
      cases hg : s.tree.get a with
      | none => rw [hg] at h; cases h
      | some o =>
        rw [hg] at h
        dsimp only at h
        cases ha : alive o with
        | none => rw [ha] at h; cases h
        | some o' => rw [ha] at h; exact ⟨o', abs_get?_of hb hg ha, ih o' p s x p' s' h q⟩
  | update a part f k ih =>
    intro p s x p' s' h q
    change (match Nat.blt a s.n with
      | true => match s.tree.get a with
        | some o => match alive o with
          | some _ => ev ⟨M.prog, M.w.params⟩ call Γ (k ()) p { s with tree := s.tree.set a f }
          | none => none
        | none => none
      | false => none) = some (x, p', s') at h
    cases hb : Nat.blt a s.n with
    | false => rw [hb] at h; cases h
    | true =>
      rw [hb] at h
      cases hg : s.tree.get a with
      | none => rw [hg] at h; cases h
      | some o =>
        rw [hg] at h
        dsimp only at h
        cases ha : alive o with
        | none => rw [ha] at h; cases h
        | some o' =>
          rw [ha] at h
          refine ⟨by rw [abs_get?_of hb hg ha]; rfl, ?_⟩
          have z := ih () p { s with tree := s.tree.set a f } x p' s' h q
          have e : ({ s with tree := s.tree.set a f } : SharedT).abs = { s.abs with heap := s.abs.heap.update a f } := by
            show Shared.mk (absHeap (s.tree.set a f) s.n s.life) _ _ _ _ = _
            rw [absHeap_set hg]; rfl
          rw [← e]; exact z
  | alloc o k ih =>
    intro p s x p' s' h q
    change (match ((s.tree.ins s.n o).get s.n).isSome with
      | true => ev ⟨M.prog, M.w.params⟩ call Γ (k s.n) p { s with tree := s.tree.ins s.n o, n := s.n + 1 }
      | false => none) = some (x, p', s') at h
    cases hb : ((s.tree.ins s.n o).get s.n).isSome with
    | false => rw [hb] at h; cases h
    | true =>
      rw [hb] at h
      have z := ih s.n p { s with tree := s.tree.ins s.n o, n := s.n + 1 } x p' s' h q
      have e : ({ s with tree := s.tree.ins s.n o, n := s.n + 1 } : SharedT).abs = { s.abs with heap := s.abs.heap.push o } := by
        show Shared.mk (absHeap (s.tree.ins s.n o) (s.n + 1) s.life) _ _ _ _ = _
        rw [absHeap_ins hb]; rfl
      show Sem.wp M Γ (k s.abs.heap.objs.size) Q E p { s.abs with heap := s.abs.heap.push o }
      rw [← e, show s.abs.heap.objs.size = s.n from absHeap_size _ _ _]; exact z
  | loadIfAlive a k ih =>
    intro p s x p' s' h q
    change (match Nat.blt a s.n with
      | true => match s.tree.get a with
        | some o => ev ⟨M.prog, M.w.params⟩ call Γ (k (alive o)) p s
        | none => none
      | false => ev ⟨M.prog, M.w.params⟩ call Γ (k none) p s) = some (x, p', s') at h
    show Sem.wp M Γ (k (s.abs.heap.get? a)) Q E p s.abs
    cases hb : Nat.blt a s.n with
    | false =>
      rw [hb] at h
      rw [show s.abs.heap.get? a = none from abs_get_none (fun q => by rw [show Nat.blt a s.n = true from Nat.ble_eq_true_of_le q] at hb; cases hb)]
      exact ih none p s x p' s' h q
    | true =>
      rw [hb] at h
      cases hg : s.tree.get a with
      | none => rw [hg] at h; cases h
      | some o =>
        rw [hg] at h
        rw [show s.abs.heap.get? a = alive o from abs_get (Nat.le_of_ble_eq_true hb) hg]
        exact ih _ p s x p' s' h q
  | point l k ih => intro p s x p' s' h q; exact ih () p s x p' s' h q
  | register a k ih => intro p s x p' s' h q; cases h
  | fresh k ih => intro p s x p' s' h q; exact ih s.toks p { s with toks := s.toks + 1 } x p' s' h q
  | ask k ih => intro p s x p' s' h q; exact ih _ p s x p' s' h q
  | choose src n k ih => intro p s x p' s' h q; cases h
  | os q l k ih => intro p s x p' s' h q; cases h
  | call c hd g l k ih =>
    intro p s x p' s' h q
    change (match call (Γ.enter c hd p) p s with
      | some (r, s') => ev ⟨M.prog, M.w.params⟩ call Γ (k r) p s'
      | none => none) = some (x, p', s') at h
    cases hr : call (Γ.enter c hd p) p s with
    | none => rw [hr] at h; cases h
    | some y =>
      obtain ⟨r, s₁⟩ := y
      rw [hr] at h
      exact hc _ _ _ _ _ hr _ (ih r p s₁ x p' s' h q)
  | handled own k ih =>
    intro p s x p' s' h q
    cases own <;> exact ih _ p s x p' s' h q
  | newGen c k ih => intro p s x p' s' h q; cases h
  | genState g k ih => intro p s x p' s' h q; cases h
  | resume g r l k ih => intro p s x p' s' h q; cases h
  | «yield» v g l k ih => intro p s x p' s' h q; cases h
  | stack k ih => intro p s x p' s' h q; exact ih _ p s x p' s' h q
  | fork c k ih => intro p s x p' s' h q; cases h
  | thread k ih => intro p s x p' s' h q; exact ih _ p s x p' s' h q
  | await a f d l k ih => intro p s x p' s' h q; cases h

theorem evStep_good {M : Model} {call : EvC} (hc : Good M call) : Good M (evStep M.den ⟨M.prog, M.w.params⟩ call) := by
  intro Γ p s r s' h R hR
  rw [wpCode_iff_wp]
  unfold evStep at h
  cases hv : ev ⟨M.prog, M.w.params⟩ call Γ (M.den Γ.code) p s with
  | none => rw [hv] at h; cases h
  | some y =>
    obtain ⟨x, p₁, s₁⟩ := y
    rw [hv] at h
    refine ev_sound hc Γ _ _ _ p s x p₁ s₁ hv ?_
    cases x with
    | error e => cases h; exact hR
    | ok fin =>
      cases fin with
      | done f => cases h; exact hR
      | again c =>
        dsimp only at h ⊢
        cases hq : c.quiet with
        | false => rw [hq] at h; cases h
        | true => rw [hq] at h; exact ⟨hq, hc _ _ _ _ _ h R hR⟩

theorem evCode_good (M : Model) : ∀ n, Good M (evCode M.den ⟨M.prog, M.w.params⟩ n)
  | 0 => fun _ _ _ _ _ h => by cases h
  | n + 1 => evStep_good (evCode_good M n)

/-- the twin of denote, over the tree table -/
noncomputable def fden : Code → Sem Fin := PySem.W.Fast.tw11892475500146522536 treeTable
theorem fden_eq : denote table = fden := by
  unfold fden
  rw [← PySem.W.Fast.te11892475500146522536, table_eq_tree]

theorem wp_of_ev {α : Type} {prog : Program} {w : World} {n : Nat} {Γ : Ctx} {t : Sem α} {p : Pos} {s : SharedT} {x : Except Value α} {p' : Pos} {s' : SharedT} {Q : α → Pos → Shared → Prop} {E : Value → Pos → Shared → Prop}
    (h : ev ⟨prog, w.params⟩ (evCode fden ⟨prog, w.params⟩ n) Γ t p s = some (x, p', s'))
    (q : Ends Q E p' s'.abs x) : Sem.wp (model prog w) Γ t Q E p s.abs := by
  have g := evCode_good (model prog w) n
  rw [show (model prog w).den = fden from fden_eq] at g
  exact ev_sound (M := model prog w) g Γ Q E t p s x p' s' h q
end Lith
end
section
open PySem PySem.W PyProof.Rows
set_option Elab.async false
set_option maxRecDepth 100000
namespace Lith

/-- the same reading up to the first call (of this very tree) whose code is marked: what is asked there, and what comes behind it -/
noncomputable def evTo {α : Type} (stop : Code → Bool) (st : Setting) (call : EvC) (Γ : Ctx) (t : Sem α) : Pos → SharedT → Option (Ctx × Pos × SharedT × (Result → Sem α)) :=
  @Sem.rec α (fun _ => Pos → SharedT → Option (Ctx × Pos × SharedT × (Result → Sem α)))
    (fun _ _ _ => none)
    (fun _ _ _ => none)
    (fun _ _ _ => none)
    (fun _ _ _ => none)
    (fun _ _ ih p s => ih () p s)
    (fun p' _ ih _ s => ih () p' s)
    (fun a _ _ ih p s => match Nat.blt a s.n with
      | true => match s.tree.get a with
        | some o => match alive o with
          | some o' => ih o' p s
          | none => none
        | none => none
      | false => none)
    (fun a _ f _ ih p s => match Nat.blt a s.n with
      | true => match s.tree.get a with
        | some o => match alive o with
          | some _ => ih () p { s with tree := s.tree.set a f }
          | none => none
        | none => none
      | false => none)
    (fun o _ ih p s => match ((s.tree.ins s.n o).get s.n).isSome with
      | true => ih s.n p { s with tree := s.tree.ins s.n o, n := s.n + 1 }
      | false => none)
    (fun _ _ _ _ _ => none)
    (fun _ _ ih p s => ih () p s)
    (fun _ _ _ _ _ => none)
    (fun _ ih p s => ih s.toks p { s with toks := s.toks + 1 })
    (fun _ ih p s => ih st p s)
    (fun _ _ _ _ _ _ => none)
    (fun _ _ _ _ _ _ => none)
    (fun c h _ _ k ih p s => match stop c with
      | true => some (Γ.enter c h p, p, s, k)
      | false => match call (Γ.enter c h p) p s with
        | some (r, s') => ih r p s'
        | none => none)
    (fun own _ ih p s => ih (match own with | true => Γ.own | false => Γ.handled) p s)
    (fun _ _ _ _ _ => none)
    (fun _ _ _ _ _ => none)
    (fun _ _ _ _ _ _ _ => none)
    (fun _ _ _ _ _ _ _ => none)
    (fun _ ih p s => ih ((Γ.code, p) :: Γ.below) p s)
    (fun _ _ _ _ _ => none)
    (fun _ ih p s => ih 0 p s)
    (fun _ _ _ _ _ _ _ _ => none) t

theorem evTo_sound {α : Type} {M : Model} {stop : Code → Bool} {call : EvC} (hc : Good M call) (Γ : Ctx) (Q : α → Pos → Shared → Prop) (E : Value → Pos → Shared → Prop) (t : Sem α) :
    ∀ (p : Pos) (s : SharedT) (Γ' : Ctx) (p' : Pos) (s' : SharedT) (k : Result → Sem α), evTo stop ⟨M.prog, M.w.params⟩ call Γ t p s = some (Γ', p', s', k) →
      wpCode M Γ' (fun r s'' => Sem.wp M Γ (k r) Q E p' s'') p' s'.abs → Sem.wp M Γ t Q E p s.abs := by
  induction t with
  | pure a => intro p s Γ' p' s' k' h q; cases h
  | raise e => intro p s Γ' p' s' k' h q; cases h
  | unsupported _ => intro p s Γ' p' s' k' h q; cases h
  | finish _ => intro p s Γ' p' s' k' h q; cases h
  | rule _ k ih => intro p s Γ' p' s' k' h q; exact ih () p s _ _ _ _ h q
  | «at» p₀ k ih => intro p s Γ' p' s' k' h q; exact ih () p₀ s _ _ _ _ h q
  | load a part k ih =>
    intro p s Γ' p' s' k' h q
    change (match Nat.blt a s.n with
      | true => match s.tree.get a with
        | some o => match alive o with
          | some o' => evTo stop ⟨M.prog, M.w.params⟩ call Γ (k o') p s
          | none => none
        | none => none
      | false => none) = some (Γ', p', s', k') at h
    cases hb : Nat.blt a s.n with
    | false => rw [hb] at h; cases h
    | true =>
      rw [hb] at h
      cases hg : s.tree.get a with
      | none => rw [hg] at h; cases h
      | some o =>
        rw [hg] at h
        dsimp only at h
        cases ha : alive o with
        | none => rw [ha] at h; cases h
        | some o' => rw [ha] at h; exact ⟨o', abs_get?_of hb hg ha, ih o' p s _ _ _ _ h q⟩
  | update a part f k ih =>
    intro p s Γ' p' s' k' h q
    change (match Nat.blt a s.n with
      | true => match s.tree.get a with
        | some o => match alive o with
          | some _ => evTo stop ⟨M.prog, M.w.params⟩ call Γ (k ()) p { s with tree := s.tree.set a f }
          | none => none
        | none => none
      | false => none) = some (Γ', p', s', k') at h
    cases hb : Nat.blt a s.n with
    | false => rw [hb] at h; cases h
    | true =>
      rw [hb] at h
      cases hg : s.tree.get a with
      | none => rw [hg] at h; cases h
      | some o =>
        rw [hg] at h
        dsimp only at h
        cases ha : alive o with
        | none => rw [ha] at h; cases h
        | some o' =>
          rw [ha] at h
          refine ⟨by rw [abs_get?_of hb hg ha]; rfl, ?_⟩
          have z := ih () p { s with tree := s.tree.set a f } _ _ _ _ h q
          have e : ({ s with tree := s.tree.set a f } : SharedT).abs = { s.abs with heap := s.abs.heap.update a f } := by
            show Shared.mk (absHeap (s.tree.set a f) s.n s.life) _ _ _ _ = _
            rw [absHeap_set hg]; rfl
          rw [← e]; exact z
  | alloc o k ih =>
    intro p s Γ' p' s' k' h q
    change (match ((s.tree.ins s.n o).get s.n).isSome with
      | true => evTo stop ⟨M.prog, M.w.params⟩ call Γ (k s.n) p { s with tree := s.tree.ins s.n o, n := s.n + 1 }
      | false => none) = some (Γ', p', s', k') at h
    cases hb : ((s.tree.ins s.n o).get s.n).isSome with
    | false => rw [hb] at h; cases h
    | true =>
      rw [hb] at h
      have z := ih s.n p { s with tree := s.tree.ins s.n o, n := s.n + 1 } _ _ _ _ h q
      have e : ({ s with tree := s.tree.ins s.n o, n := s.n + 1 } : SharedT).abs = { s.abs with heap := s.abs.heap.push o } := by
        show Shared.mk (absHeap (s.tree.ins s.n o) (s.n + 1) s.life) _ _ _ _ = _
        rw [absHeap_ins hb]; rfl
      show Sem.wp M Γ (k s.abs.heap.objs.size) Q E p { s.abs with heap := s.abs.heap.push o }
      rw [← e, show s.abs.heap.objs.size = s.n from absHeap_size _ _ _]; exact z
  | loadIfAlive a k ih => intro p s Γ' p' s' k' h q; cases h
  | point l k ih => intro p s Γ' p' s' k' h q; exact ih () p s _ _ _ _ h q
  | register a k ih => intro p s Γ' p' s' k' h q; cases h
  | fresh k ih => intro p s Γ' p' s' k' h q; exact ih s.toks p { s with toks := s.toks + 1 } _ _ _ _ h q
  | ask k ih => intro p s Γ' p' s' k' h q; exact ih _ p s _ _ _ _ h q
  | choose src n k ih => intro p s Γ' p' s' k' h q; cases h
  | os q l k ih => intro p s Γ' p' s' k' h q; cases h
  | call c hd g l k ih =>
    intro p s Γ' p' s' k' h q
    change (match stop c with
      | true => some (Γ.enter c hd p, p, s, k)
      | false => match call (Γ.enter c hd p) p s with
        | some (r, s') => evTo stop ⟨M.prog, M.w.params⟩ call Γ (k r) p s'
        | none => none) = some (Γ', p', s', k') at h
    cases hs : stop c with
    | true => rw [hs] at h; cases h; exact q
    | false =>
      rw [hs] at h
      dsimp only at h
      cases hr : call (Γ.enter c hd p) p s with
      | none => rw [hr] at h; cases h
      | some y =>
        obtain ⟨r, s₁⟩ := y
        rw [hr] at h
        exact hc _ _ _ _ _ hr _ (ih r p s₁ _ _ _ _ h q)
  | handled own k ih =>
    intro p s Γ' p' s' k' h q
    cases own <;> exact ih _ p s _ _ _ _ h q
  | newGen c k ih => intro p s Γ' p' s' k' h q; cases h
  | genState g k ih => intro p s Γ' p' s' k' h q; cases h
  | resume g r l k ih => intro p s Γ' p' s' k' h q; cases h
  | «yield» v g l k ih => intro p s Γ' p' s' k' h q; cases h
  | stack k ih => intro p s Γ' p' s' k' h q; exact ih _ p s _ _ _ _ h q
  | fork c k ih => intro p s Γ' p' s' k' h q; cases h
  | thread k ih => intro p s Γ' p' s' k' h q; exact ih _ p s _ _ _ _ h q
  | await a f d l k ih => intro p s Γ' p' s' k' h q; cases h

/-! a reading against a written record of what the heap says and takes -/
inductive Tr where
  | ld (a : Addr) (o : Obj)
  | up (a : Addr) (o o' : Obj)
  | al (a : Addr) (o : Obj)

structure TrSt where
  todo : List Tr
  toks : Nat
  log : List Tr

abbrev EvLC := Ctx → Pos → TrSt → Option (Result × TrSt)

noncomputable def evL {α : Type} (st : Setting) (call : EvLC) (Γ : Ctx) (t : Sem α) : Pos → TrSt → Option (Except Value α × Pos × TrSt) :=
  @Sem.rec α (fun _ => Pos → TrSt → Option (Except Value α × Pos × TrSt))
    (fun a p s => some (.ok a, p, s))
    (fun e p s => some (.error e, p, s))
    (fun _ _ _ => none)
    (fun _ _ _ => none)
    (fun _ _ ih p s => ih () p s)
    (fun p' _ ih _ s => ih () p' s)
    (fun a _ _ ih p s => match s.todo with
      | .ld _ o :: r => ih o p ⟨r, s.toks, .ld a o :: s.log⟩
      | _ => none)
    (fun a _ f _ ih p s => match s.todo with
      | .up _ o _ :: r => ih () p ⟨r, s.toks, .up a o (f o) :: s.log⟩
      | _ => none)
    (fun o _ ih p s => match s.todo with
      | .al a _ :: r => ih a p ⟨r, s.toks, .al a o :: s.log⟩
      | _ => none)
    (fun _ _ _ _ _ => none)
    (fun _ _ ih p s => ih () p s)
    (fun _ _ _ _ _ => none)
    (fun _ ih p s => ih s.toks p ⟨s.todo, s.toks + 1, s.log⟩)
    (fun _ ih p s => ih st p s)
    (fun _ _ _ _ _ _ => none)
    (fun _ _ _ _ _ _ => none)
    (fun c h _ _ _ ih p s => match call (Γ.enter c h p) p s with
      | some (r, s') => ih r p s'
      | none => none)
    (fun own _ ih p s => ih (match own with | true => Γ.own | false => Γ.handled) p s)
    (fun _ _ _ _ _ => none)
    (fun _ _ _ _ _ => none)
    (fun _ _ _ _ _ _ _ => none)
    (fun _ _ _ _ _ _ _ => none)
    (fun _ ih p s => ih ((Γ.code, p) :: Γ.below) p s)
    (fun _ _ _ _ _ => none)
    (fun _ ih p s => ih 0 p s)
    (fun _ _ _ _ _ _ _ _ => none) t

noncomputable def evLStep (den : Code → Sem Fin) (st : Setting) (call : EvLC) : EvLC := fun Γ p s =>
  match evL st call Γ (den Γ.code) p s with
  | some (.ok (.done f), _, s') => some (.ok f, s')
  | some (.ok (.again c), p', s') => match c.quiet with
    | true => call (Γ.goto c) p' s'
    | false => none
  | some (.error e, _, s') => some (.error e, s')
  | none => none

noncomputable def evLCode (den : Code → Sem Fin) (st : Setting) : Nat → EvLC
  | 0 => fun _ _ _ => none
  | n + 1 => evLStep den st (evLCode den st n)

/-- one thing said of the heap, and the heap behind it -/
noncomputable def Valid1 (h : Heap) (h' : Heap) : Tr → Prop
  | .ld a o => h.get? a = some o ∧ h' = h
  | .up a o o' => h.get? a = some o ∧ h' = h.update a (fun _ => o')
  | .al a o => h.objs.size = a ∧ h' = h.push o
/-- the record holds from h to h' (the newest first) -/
noncomputable def Valid (h : Heap) : List Tr → Heap → Prop
  | [], h' => h' = h
  | e :: r, h' => ∃ h₁, Valid h r h₁ ∧ Valid1 h₁ h' e

theorem update_const {h : Heap} {a : Addr} {f : Obj → Obj} {o : Obj} (g : h.get? a = some o) : h.update a f = h.update a (fun _ => f o) := by
  obtain ⟨os, l⟩ := h
  unfold Heap.get? at g
  show Heap.mk _ _ = Heap.mk _ _
  have ho : os[a]? = some o := by
    revert g
    cases hx : os[a]? with
    | none => intro g; cases g
    | some ob =>
      intro g
      obtain ⟨c, d, dt, sl⟩ := ob
      cases dt <;> first | (cases g; rfl) | cases g
  congr 1
  apply Array.ext_getElem?
  intro i
  rw [Array.getElem?_modify, Array.getElem?_modify]
  by_cases e : a = i
  · subst e; rw [if_pos rfl, if_pos rfl, ho]; rfl
  · rw [if_neg e, if_neg e]

noncomputable def TrSt.at (s : TrSt) (b : Shared) (h : Heap) : Shared := { b with heap := h, toks := s.toks }

noncomputable def GoodL (M : Model) (call : EvLC) : Prop := ∀ (b : Shared) Γ p s r s', call Γ p s = some (r, s') → ∃ d, s'.log = d ++ s.log ∧ ∀ (h h' : Heap), Valid h d h' → ∀ R : Result → Shared → Prop, R r (s'.at b h') → wpCode M Γ R p (s.at b h)

theorem Valid.append {h h' : Heap} : ∀ {d e : List Tr}, Valid h (d ++ e) h' → ∃ h₁, Valid h e h₁ ∧ Valid h₁ d h'
  | [], e, v => ⟨h', v, rfl⟩
  | x :: d, e, v => by
    obtain ⟨h₁, v1, v2⟩ := v
    obtain ⟨h₂, a, b⟩ := Valid.append v1
    exact ⟨h₂, a, h₁, b, v2⟩
theorem Valid.single {h h' : Heap} {x : Tr} (v : Valid h [x] h') : Valid1 h h' x := by
  obtain ⟨h₁, e, v⟩ := v
  cases e
  exact v

theorem evL_sound {α : Type} {M : Model} {call : EvLC} (hc : GoodL M call) (b : Shared) (Γ : Ctx) (t : Sem α) :
    ∀ (p : Pos) (s : TrSt) (x : Except Value α) (p' : Pos) (s' : TrSt), evL ⟨M.prog, M.w.params⟩ call Γ t p s = some (x, p', s') →
      ∃ d, s'.log = d ++ s.log ∧ ∀ (h h' : Heap), Valid h d h' → ∀ (Q : α → Pos → Shared → Prop) (E : Value → Pos → Shared → Prop), Ends Q E p' (s'.at b h') x → Sem.wp M Γ t Q E p (s.at b h) := by
  induction t with
  | pure a => intro p s x p' s' e; cases e; exact ⟨[], rfl, fun h h' v Q E q => by cases v; exact q⟩
  | raise a => intro p s x p' s' e; cases e; exact ⟨[], rfl, fun h h' v Q E q => by cases v; exact q⟩
  | unsupported _ => intro p s x p' s' e; cases e
  | finish _ => intro p s x p' s' e; cases e
  | rule _ k ih => intro p s x p' s' e; exact ih () p s x p' s' e
  | «at» p₀ k ih => intro p s x p' s' e; exact ih () p₀ s x p' s' e
  | load a part k ih =>
    intro p s x p' s' e
    obtain ⟨td, tk, lg⟩ := s
    cases td with
    | nil => cases e
    | cons y r =>
      cases y with
      | ld a' o =>
        obtain ⟨d, e1, e2⟩ := ih o p ⟨r, tk, .ld a o :: lg⟩ x p' s' e
        refine ⟨d ++ [.ld a o], by rw [e1]; simp, fun h h' v Q E q => ?_⟩
        obtain ⟨h₁, v1, v2⟩ := Valid.append v
        obtain ⟨g, e⟩ := Valid.single v1
        subst e
        exact ⟨o, g, e2 _ _ v2 Q E q⟩
      | up => cases e
      | al => cases e
  | update a part f k ih =>
    intro p s x p' s' e
    obtain ⟨td, tk, lg⟩ := s
    cases td with
    | nil => cases e
    | cons y r =>
      cases y with
      | up a' o o' =>
        obtain ⟨d, e1, e2⟩ := ih () p ⟨r, tk, .up a o (f o) :: lg⟩ x p' s' e
        refine ⟨d ++ [.up a o (f o)], by rw [e1]; simp, fun h h' v Q E q => ?_⟩
        obtain ⟨h₁, v1, v2⟩ := Valid.append v
        obtain ⟨g, e⟩ := Valid.single v1
        subst e
        refine ⟨by show (h.get? a).isSome = true; rw [g]; rfl, ?_⟩
        have z := e2 _ _ v2 Q E q
        rw [← update_const g] at z
        exact z
      | ld => cases e
      | al => cases e
  | alloc o k ih =>
    intro p s x p' s' e
    obtain ⟨td, tk, lg⟩ := s
    cases td with
    | nil => cases e
    | cons y r =>
      cases y with
      | al a o' =>
        obtain ⟨d, e1, e2⟩ := ih a p ⟨r, tk, .al a o :: lg⟩ x p' s' e
        refine ⟨d ++ [.al a o], by rw [e1]; simp, fun h h' v Q E q => ?_⟩
        obtain ⟨h₁, v1, v2⟩ := Valid.append v
        obtain ⟨g, e⟩ := Valid.single v1
        subst e
        have z := e2 _ _ v2 Q E q
        show Sem.wp M Γ (k h.objs.size) Q E p _
        rw [g]
        exact z
      | ld => cases e
      | up => cases e
  | loadIfAlive a k ih => intro p s x p' s' e; cases e
  | point l k ih => intro p s x p' s' e; exact ih () p s x p' s' e
  | register a k ih => intro p s x p' s' e; cases e
  | fresh k ih =>
    intro p s x p' s' e
    obtain ⟨d, e1, e2⟩ := ih s.toks p ⟨s.todo, s.toks + 1, s.log⟩ x p' s' e
    exact ⟨d, e1, fun h h' v Q E q => e2 h h' v Q E q⟩
  | ask k ih => intro p s x p' s' e; exact ih _ p s x p' s' e
  | choose src n k ih => intro p s x p' s' e; cases e
  | os q l k ih => intro p s x p' s' e; cases e
  | call c hd g l k ih =>
    intro p s x p' s' e
    change (match call (Γ.enter c hd p) p s with
      | some (r, s') => evL ⟨M.prog, M.w.params⟩ call Γ (k r) p s'
      | none => none) = some (x, p', s') at e
    cases hr : call (Γ.enter c hd p) p s with
    | none => rw [hr] at e; cases e
    | some y =>
      obtain ⟨r, s₁⟩ := y
      rw [hr] at e
      obtain ⟨d1, e1, e2⟩ := hc b _ _ _ _ _ hr
      obtain ⟨d2, e3, e4⟩ := ih r p s₁ x p' s' e
      refine ⟨d2 ++ d1, by rw [e3, e1]; simp, fun h h' v Q E q => ?_⟩
      obtain ⟨h₁, v1, v2⟩ := Valid.append v
      exact e2 h h₁ v1 _ (e4 h₁ h' v2 Q E q)
  | handled own k ih =>
    intro p s x p' s' e
    cases own <;> exact ih _ p s x p' s' e
  | newGen c k ih => intro p s x p' s' e; cases e
  | genState g k ih => intro p s x p' s' e; cases e
  | resume g r l k ih => intro p s x p' s' e; cases e
  | «yield» v g l k ih => intro p s x p' s' e; cases e
  | stack k ih => intro p s x p' s' e; exact ih _ p s x p' s' e
  | fork c k ih => intro p s x p' s' e; cases e
  | thread k ih => intro p s x p' s' e; exact ih _ p s x p' s' e
  | await a f d l k ih => intro p s x p' s' e; cases e

theorem evLStep_good {M : Model} {call : EvLC} (hc : GoodL M call) : GoodL M (evLStep M.den ⟨M.prog, M.w.params⟩ call) := by
  intro b Γ p s r s' h
  unfold evLStep at h
  cases hv : evL ⟨M.prog, M.w.params⟩ call Γ (M.den Γ.code) p s with
  | none => rw [hv] at h; cases h
  | some y =>
    obtain ⟨x, p₁, s₁⟩ := y
    rw [hv] at h
    obtain ⟨d, e1, e2⟩ := evL_sound hc b Γ _ p s x p₁ s₁ hv
    cases x with
    | error e =>
      cases h
      refine ⟨d, e1, fun h h' v R q => ?_⟩
      rw [wpCode_iff_wp]
      exact e2 h h' v _ _ q
    | ok fin =>
      cases fin with
      | done f =>
        cases h
        refine ⟨d, e1, fun h h' v R q => ?_⟩
        rw [wpCode_iff_wp]
        exact e2 h h' v _ _ q
      | again c =>
        dsimp only at h
        cases hq : c.quiet with
        | false => rw [hq] at h; cases h
        | true =>
          rw [hq] at h
          obtain ⟨d', e3, e4⟩ := hc b _ _ _ _ _ h
          refine ⟨d' ++ d, by rw [e3, e1]; simp, fun h h' v R q => ?_⟩
          obtain ⟨h₁, v1, v2⟩ := Valid.append v
          rw [wpCode_iff_wp]
          exact e2 h h₁ v1 _ _ ⟨hq, e4 h₁ h' v2 R q⟩

theorem evLCode_good (M : Model) : ∀ n, GoodL M (evLCode M.den ⟨M.prog, M.w.params⟩ n)
  | 0 => fun _ _ _ _ _ _ h => by cases h
  | n + 1 => evLStep_good (evLCode_good M n)

theorem wp_of_evL {α : Type} {prog : Program} {w : World} {n : Nat} {Γ : Ctx} {t : Sem α} {p : Pos} {td : List Tr} {tk : Nat} {x : Except Value α} {p' : Pos} {tk' : Nat} {d : List Tr} {b : Shared} {h h' : Heap} {Q : α → Pos → Shared → Prop} {E : Value → Pos → Shared → Prop}
    (e : evL ⟨prog, w.params⟩ (evLCode fden ⟨prog, w.params⟩ n) Γ t p ⟨td, tk, []⟩ = some (x, p', ⟨[], tk', d⟩))
    (v : Valid h d h') (q : Ends Q E p' { b with heap := h', toks := tk' } x) : Sem.wp (model prog w) Γ t Q E p { b with heap := h, toks := tk } := by
  have g := evLCode_good (model prog w) n
  rw [show (model prog w).den = fden from fden_eq] at g
  obtain ⟨d', e1, e2⟩ := evL_sound (M := model prog w) g b Γ t p ⟨td, tk, []⟩ x p' ⟨[], tk', d⟩ e
  rw [List.append_nil] at e1
  dsimp only at e1
  subst e1
  exact e2 h h' v Q E q

theorem wp_of_evTo {α : Type} {prog : Program} {w : World} {n : Nat} {stop : Code → Bool} {Γ : Ctx} {t : Sem α} {p : Pos} {s : SharedT} {Γ' : Ctx} {p' : Pos} {s' : SharedT} {k : Result → Sem α} {Q : α → Pos → Shared → Prop} {E : Value → Pos → Shared → Prop}
    (h : evTo stop ⟨prog, w.params⟩ (evCode fden ⟨prog, w.params⟩ n) Γ t p s = some (Γ', p', s', k))
    (q : wpCode (model prog w) Γ' (fun r s'' => Sem.wp (model prog w) Γ (k r) Q E p' s'') p' s'.abs) : Sem.wp (model prog w) Γ t Q E p s.abs := by
  have g := evCode_good (model prog w) n
  rw [show (model prog w).den = fden from fden_eq] at g
  exact evTo_sound (M := model prog w) g Γ Q E t p s Γ' p' s' k h q
end Lith
end
section
open PySem PySem.W PyProof.Rows
set_option Elab.async false
set_option maxRecDepth 100000
namespace Lith

/-- what a record says, without the addresses: a known object, a new one, a new one changed, one more made -/
inductive Tag where
  | k (i : Nat)
  | nw (i : Nat)
  | up (i : Nat) (o : Obj)
  | al (o : Obj)

noncomputable def expand (K : List (Addr × Obj)) (n : Nat) : List Tag → List Obj → List Tr
  | [], _ => []
  | .k i :: r, N => .ld (K.getD i (0, default)).1 (K.getD i (0, default)).2 :: expand K n r N
  | .nw i :: r, N => .ld (n + i) (N.getD i default) :: expand K n r N
  | .up i o :: r, N => .up (n + i) (N.getD i default) o :: expand K n r (N.set i o)
  | .al o :: r, N => .al (n + N.length) o :: expand K n r (N ++ [o])
noncomputable def news : List Tag → List Obj → List Obj
  | [], N => N
  | .k _ :: r, N => news r N
  | .nw _ :: r, N => news r N
  | .up i o :: r, N => news r (N.set i o)
  | .al o :: r, N => news r (N ++ [o])
noncomputable def aliveB (o : Obj) : Bool := match o.data with
  | .freed => false
  | _ => true
/-- K's length and the news' length alone are asked -/
noncomputable def wfT (kl : Nat) : List Tag → Nat → Bool
  | [], _ => true
  | .k i :: r, m => Nat.blt i kl && wfT kl r m
  | .nw i :: r, m => Nat.blt i m && wfT kl r m
  | .up i o :: r, m => Nat.blt i m && aliveB o && wfT kl r m
  | .al o :: r, m => aliveB o && wfT kl r (m + 1)

noncomputable def pushes (h : Heap) (N : List Obj) : Heap := ⟨h.objs ++ N.toArray, h.life⟩

theorem Valid.join {h h₁ h₂ : Heap} : ∀ {d e : List Tr}, Valid h e h₁ → Valid h₁ d h₂ → Valid h (d ++ e) h₂
  | [], _, a, b => by cases b; exact a
  | _ :: _, _, a, ⟨_, b1, b2⟩ => ⟨_, Valid.join a b1, b2⟩
theorem Valid.one {h h' : Heap} {e : Tr} (v : Valid1 h h' e) : Valid h [e] h' := ⟨h, rfl, v⟩

theorem get?_alive {h : Heap} {a : Addr} {o : Obj} (e : h.objs[a]? = some o) (al : aliveB o = true) : h.get? a = some o := by
  unfold Heap.get?
  rw [e]
  obtain ⟨c, d, dt, sl⟩ := o
  cases dt <;> first | rfl | cases al
theorem get?_objs {h : Heap} {a : Addr} {o : Obj} (g : h.get? a = some o) : h.objs[a]? = some o ∧ aliveB o = true := by
  unfold Heap.get? at g
  revert g
  cases hx : h.objs[a]? with
  | none => intro g; cases g
  | some ob =>
    intro g
    obtain ⟨c, d, dt, sl⟩ := ob
    cases dt <;> first | (cases g; exact ⟨rfl, rfl⟩) | cases g

theorem pushes_old {h : Heap} {N : List Obj} {a : Addr} {o : Obj} (g : h.get? a = some o) : (pushes h N).get? a = some o := by
  obtain ⟨e, al⟩ := get?_objs g
  refine get?_alive ?_ al
  show (h.objs ++ N.toArray)[a]? = some o
  have lt : a < h.objs.size := by
    rcases Nat.lt_or_ge a h.objs.size with q | q
    · exact q
    · rw [Array.getElem?_eq_none q] at e; cases e
  rw [Array.getElem?_append_left lt]; exact e
theorem pushes_new {h : Heap} {N : List Obj} {i : Nat} (lt : i < N.length) (al : ∀ o ∈ N, aliveB o = true) : (pushes h N).get? (h.objs.size + i) = some (N.getD i default) := by
  have e : N.getD i default = N[i] := by rw [List.getD_eq_getElem?_getD, List.getElem?_eq_getElem lt]; rfl
  rw [e]
  refine get?_alive ?_ (al _ (List.getElem_mem lt))
  show (h.objs ++ N.toArray)[h.objs.size + i]? = _
  rw [Array.getElem?_append_right (Nat.le_add_right _ _), Nat.add_sub_cancel_left, List.getElem?_toArray, List.getElem?_eq_getElem lt]
theorem pushes_set {h : Heap} {N : List Obj} {i : Nat} (o : Obj) : (pushes h N).update (h.objs.size + i) (fun _ => o) = pushes h (N.set i o) := by
  show Heap.mk ((h.objs ++ N.toArray).modify (h.objs.size + i) fun _ => o) h.life = Heap.mk (h.objs ++ (N.set i o).toArray) h.life
  congr 1
  apply Array.ext_getElem?
  intro j
  rw [Array.getElem?_modify]
  by_cases q : j < h.objs.size
  · rw [if_neg (by omega), Array.getElem?_append_left q, Array.getElem?_append_left q]
  · have q' : h.objs.size ≤ j := Nat.le_of_not_lt q
    rw [Array.getElem?_append_right q', Array.getElem?_append_right q', List.getElem?_toArray, List.getElem?_toArray]
    by_cases e : h.objs.size + i = j
    · subst e
      rw [if_pos rfl, Nat.add_sub_cancel_left, List.getElem?_set]
      simp only [if_true]
      split
      · rename_i lt; rw [List.getElem?_eq_getElem lt]; rfl
      · rename_i lt; rw [List.getElem?_eq_none (Nat.le_of_not_lt lt)]; rfl
    · rw [if_neg e, List.getElem?_set, if_neg (by omega)]
theorem pushes_push (h : Heap) (N : List Obj) (o : Obj) : (pushes h N).push o = pushes h (N ++ [o]) := by
  show Heap.mk ((h.objs ++ N.toArray).push o) h.life = Heap.mk (h.objs ++ (N ++ [o]).toArray) h.life
  congr 1
  apply Array.toList_inj.mp
  simp
theorem pushes_nil (h : Heap) : pushes h [] = h := by
  show Heap.mk (h.objs ++ #[]) h.life = h
  rw [Array.append_empty]

theorem expand_valid {K : List (Addr × Obj)} {h : Heap} (hK : ∀ p ∈ K, h.get? p.1 = some p.2) : ∀ (T : List Tag) (N : List Obj), wfT K.length T N.length = true → (∀ o ∈ N, aliveB o = true) →
    Valid (pushes h N) (expand K h.objs.size T N).reverse (pushes h (news T N))
  | [], N, _, _ => rfl
  | .k i :: r, N, w, al => by
    simp only [wfT, Bool.and_eq_true] at w
    have lt : i < K.length := Nat.le_of_ble_eq_true w.1
    have m : K.getD i (0, default) ∈ K := by rw [List.getD_eq_getElem?_getD, List.getElem?_eq_getElem lt]; exact List.getElem_mem lt
    simp only [expand, List.reverse_cons]
    exact Valid.join (Valid.one ⟨pushes_old (hK _ m), rfl⟩) (expand_valid hK r N w.2 al)
  | .nw i :: r, N, w, al => by
    simp only [wfT, Bool.and_eq_true] at w
    have lt : i < N.length := Nat.le_of_ble_eq_true w.1
    simp only [expand, List.reverse_cons]
    exact Valid.join (Valid.one ⟨pushes_new lt al, rfl⟩) (expand_valid hK r N w.2 al)
  | .up i o :: r, N, w, al => by
    simp only [wfT, Bool.and_eq_true] at w
    have lt : i < N.length := Nat.le_of_ble_eq_true w.1.1
    simp only [expand, List.reverse_cons]
    refine Valid.join (Valid.one ⟨pushes_new lt al, ?_⟩) (expand_valid hK r (N.set i o) (by rw [List.length_set]; exact w.2) fun o' m => ?_)
    · rw [pushes_set]
    · rcases List.mem_or_eq_of_mem_set m with q | q
      · exact al _ q
      · rw [q]; exact w.1.2
  | .al o :: r, N, w, al => by
    simp only [wfT, Bool.and_eq_true] at w
    simp only [expand, List.reverse_cons]
    refine Valid.join (Valid.one ⟨?_, ?_⟩) (expand_valid hK r (N ++ [o]) (by rw [List.length_append]; exact w.2) fun o' m => ?_)
    · show (h.objs ++ N.toArray).size = h.objs.size + N.length
      simp
    · rw [pushes_push]
    · rcases List.mem_append.mp m with q | q
      · exact al _ q
      · rw [List.mem_singleton.mp q]; exact w.1

theorem wp_of_tags {α : Type} {prog : Program} {w : World} {m : Nat} {Γ : Ctx} {t : Sem α} {p : Pos} {K : List (Addr × Obj)} {T : List Tag} {n : Nat} {tk : Nat} {x : Except Value α} {p' : Pos} {tk' : Nat} {b : Shared} {h : Heap} {Q : α → Pos → Shared → Prop} {E : Value → Pos → Shared → Prop}
    (e : evL ⟨prog, w.params⟩ (evLCode fden ⟨prog, w.params⟩ m) Γ t p ⟨expand K n T [], tk, []⟩ = some (x, p', ⟨[], tk', (expand K n T []).reverse⟩))
    (wf : wfT K.length T 0 = true) (hn : h.objs.size = n) (hK : ∀ p ∈ K, h.get? p.1 = some p.2)
    (q : Ends Q E p' { b with heap := pushes h (news T []), toks := tk' } x) : Sem.wp (model prog w) Γ t Q E p { b with heap := h, toks := tk } := by
  subst hn
  have v := expand_valid hK T [] wf (fun o m => (nomatch m))
  rw [pushes_nil] at v
  exact wp_of_evL e v q
end Lith
end
section
open PySem PySem.W PyProof.Rows
set_option Elab.async false
set_option maxRecDepth 100000
set_option maxHeartbeats 0
namespace Lith

abbrev pg : Program := PySem.Challenge.pw_ah0040_01
noncomputable def top : List Stmt := pg.main.body
noncomputable def stAt (l : List Stmt) (i : Nat) : Stmt := l.getD i (.Pass ⟨0, 0, 0, 0⟩)
noncomputable def subs : Stmt → List Stmt
  | .ClassDef _ _ _ b _ _ _ _ _ _ _ => b
  | .FunctionDef _ _ b _ _ _ _ _ _ _ => b
  | _ => []
noncomputable def fnAt (st : Stmt) (qual : Str) (globals : Addr) (closure : List (Str × Addr)) (defaults kwdefaults doc pm : Value) (ann : Option Addr) (code ct : Value) (builtins : Addr) : FuncData := match st with
  | .FunctionDef n a b _ _ _ sc _ _ _ => { name := n, qualname := qual, params := a, body := .stmts b, scope := sc, globals, closure, defaults, kwdefaults, doc, pyModule := pm, annotations := ann, code, closureTuple := ct, builtins }
  | _ => default
noncomputable abbrev xs0 : Str := ⟨#[60, 109, 111, 100, 117, 108, 101, 62]⟩
noncomputable abbrev xs1 : Str := ⟨#[47, 99, 108, 97, 105, 109, 47, 99, 117, 116, 46, 112, 121]⟩
noncomputable abbrev xs2 : Str := ⟨#[95, 95, 109, 97, 105, 110, 95, 95]⟩
noncomputable abbrev xs3 : Str := ⟨#[95, 95, 110, 97, 109, 101, 95, 95]⟩
noncomputable abbrev xs4 : Str := ⟨#[115, 110, 111, 119, 98, 97, 108, 108, 115, 116, 101, 109, 109, 101, 114, 46, 108, 105, 116, 104, 117, 97, 110, 105, 97, 110, 95, 115, 116, 101, 109, 109, 101, 114]⟩
noncomputable abbrev xs5 : Str := ⟨#[95, 95, 100, 111, 99, 95, 95]⟩
noncomputable abbrev xs6 : Str := ⟨#[95, 95, 112, 97, 99, 107, 97, 103, 101, 95, 95]⟩
noncomputable abbrev xs7 : Str := ⟨#[95, 95, 108, 111, 97, 100, 101, 114, 95, 95]⟩
noncomputable abbrev xs8 : Str := ⟨#[95, 95, 115, 112, 101, 99, 95, 95]⟩
noncomputable abbrev xs9 : Str := ⟨#[95, 95, 97, 110, 110, 111, 116, 97, 116, 105, 111, 110, 115, 95, 95]⟩
noncomputable abbrev xs10 : Str := ⟨#[95, 95, 98, 117, 105, 108, 116, 105, 110, 115, 95, 95]⟩
noncomputable abbrev xs11 : Str := ⟨#[95, 95, 102, 105, 108, 101, 95, 95]⟩
noncomputable abbrev xs12 : Str := ⟨#[95, 95, 99, 97, 99, 104, 101, 100, 95, 95]⟩
noncomputable abbrev xs13 : Str := ⟨#[95, 119, 97, 108, 108]⟩
noncomputable abbrev xs14 : Str := ⟨#[66, 97, 115, 101, 83, 116, 101, 109, 109, 101, 114]⟩
noncomputable abbrev xs15 : Str := ⟨#[65, 109, 111, 110, 103]⟩
noncomputable abbrev xs16 : Str := ⟨#[95, 95, 109, 111, 100, 117, 108, 101, 95, 95]⟩
noncomputable abbrev xs17 : Str := ⟨#[115, 110, 111, 119, 98, 97, 108, 108, 115, 116, 101, 109, 109, 101, 114, 46, 98, 97, 115, 101, 115, 116, 101, 109, 109, 101, 114]⟩
noncomputable abbrev xs18 : Str := ⟨#[95, 95, 113, 117, 97, 108, 110, 97, 109, 101, 95, 95]⟩
noncomputable abbrev xs19 : Str := ⟨#[95, 95, 102, 105, 114, 115, 116, 108, 105, 110, 101, 110, 111, 95, 95]⟩
noncomputable abbrev xs20 : Str := ⟨#[95, 95, 105, 110, 105, 116, 95, 95]⟩
noncomputable abbrev xs21 : Str := ⟨#[115, 101, 116, 95, 99, 117, 114, 114, 101, 110, 116]⟩
noncomputable abbrev xs22 : Str := ⟨#[103, 101, 116, 95, 99, 117, 114, 114, 101, 110, 116]⟩
noncomputable abbrev xs23 : Str := ⟨#[99, 111, 112, 121, 95, 102, 114, 111, 109]⟩
noncomputable abbrev xs24 : Str := ⟨#[105, 110, 95, 103, 114, 111, 117, 112, 105, 110, 103]⟩
noncomputable abbrev xs25 : Str := ⟨#[103, 111, 95, 105, 110, 95, 103, 114, 111, 117, 112, 105, 110, 103]⟩
noncomputable abbrev xs26 : Str := ⟨#[105, 110, 95, 103, 114, 111, 117, 112, 105, 110, 103, 95, 98]⟩
noncomputable abbrev xs27 : Str := ⟨#[103, 111, 95, 105, 110, 95, 103, 114, 111, 117, 112, 105, 110, 103, 95, 98]⟩
noncomputable abbrev xs28 : Str := ⟨#[111, 117, 116, 95, 103, 114, 111, 117, 112, 105, 110, 103]⟩
noncomputable abbrev xs29 : Str := ⟨#[103, 111, 95, 111, 117, 116, 95, 103, 114, 111, 117, 112, 105, 110, 103]⟩
noncomputable abbrev xs30 : Str := ⟨#[111, 117, 116, 95, 103, 114, 111, 117, 112, 105, 110, 103, 95, 98]⟩
noncomputable abbrev xs31 : Str := ⟨#[103, 111, 95, 111, 117, 116, 95, 103, 114, 111, 117, 112, 105, 110, 103, 95, 98]⟩
noncomputable abbrev xs32 : Str := ⟨#[101, 113, 95, 115]⟩
noncomputable abbrev xs33 : Str := ⟨#[101, 113, 95, 115, 95, 98]⟩
noncomputable abbrev xs34 : Str := ⟨#[102, 105, 110, 100, 95, 97, 109, 111, 110, 103]⟩
noncomputable abbrev xs35 : Str := ⟨#[102, 105, 110, 100, 95, 97, 109, 111, 110, 103, 95, 98]⟩
noncomputable abbrev xs36 : Str := ⟨#[114, 101, 112, 108, 97, 99, 101, 95, 115]⟩
noncomputable abbrev xs37 : Str := ⟨#[115, 108, 105, 99, 101, 95, 102, 114, 111, 109]⟩
noncomputable abbrev xs38 : Str := ⟨#[115, 108, 105, 99, 101, 95, 100, 101, 108]⟩
noncomputable abbrev xs39 : Str := ⟨#[105, 110, 115, 101, 114, 116]⟩
noncomputable abbrev xs40 : Str := ⟨#[115, 108, 105, 99, 101, 95, 116, 111]⟩
noncomputable abbrev xs41 : Str := ⟨#[97, 115, 115, 105, 103, 110, 95, 116, 111]⟩
noncomputable abbrev xs42 : Str := ⟨#[115, 116, 101, 109, 87, 111, 114, 100]⟩
noncomputable abbrev xs43 : Str := ⟨#[115, 116, 101, 109, 87, 111, 114, 100, 115]⟩
noncomputable abbrev xs44 : Str := ⟨#[95, 95, 115, 116, 97, 116, 105, 99, 95, 97, 116, 116, 114, 105, 98, 117, 116, 101, 115, 95, 95]⟩
noncomputable abbrev xs45 : Str := ⟨#[115, 101, 108, 102]⟩
noncomputable abbrev xs46 : Str := ⟨#[66, 97, 115, 101, 83, 116, 101, 109, 109, 101, 114, 46, 95, 95, 105, 110, 105, 116, 95, 95]⟩
noncomputable abbrev xs47 : Str := ⟨#[66, 97, 115, 101, 83, 116, 101, 109, 109, 101, 114, 46, 115, 101, 116, 95, 99, 117, 114, 114, 101, 110, 116]⟩
noncomputable abbrev xs48 : Str := ⟨#[66, 97, 115, 101, 83, 116, 101, 109, 109, 101, 114, 46, 103, 101, 116, 95, 99, 117, 114, 114, 101, 110, 116]⟩
noncomputable abbrev xs49 : Str := ⟨#[66, 97, 115, 101, 83, 116, 101, 109, 109, 101, 114, 46, 99, 111, 112, 121, 95, 102, 114, 111, 109]⟩
noncomputable abbrev xs50 : Str := ⟨#[66, 97, 115, 101, 83, 116, 101, 109, 109, 101, 114, 46, 105, 110, 95, 103, 114, 111, 117, 112, 105, 110, 103]⟩
noncomputable abbrev xs51 : Str := ⟨#[66, 97, 115, 101, 83, 116, 101, 109, 109, 101, 114, 46, 103, 111, 95, 105, 110, 95, 103, 114, 111, 117, 112, 105, 110, 103]⟩
noncomputable abbrev xs52 : Str := ⟨#[66, 97, 115, 101, 83, 116, 101, 109, 109, 101, 114, 46, 105, 110, 95, 103, 114, 111, 117, 112, 105, 110, 103, 95, 98]⟩
noncomputable abbrev xs53 : Str := ⟨#[66, 97, 115, 101, 83, 116, 101, 109, 109, 101, 114, 46, 103, 111, 95, 105, 110, 95, 103, 114, 111, 117, 112, 105, 110, 103, 95, 98]⟩
noncomputable abbrev xs54 : Str := ⟨#[66, 97, 115, 101, 83, 116, 101, 109, 109, 101, 114, 46, 111, 117, 116, 95, 103, 114, 111, 117, 112, 105, 110, 103]⟩
noncomputable abbrev xs55 : Str := ⟨#[66, 97, 115, 101, 83, 116, 101, 109, 109, 101, 114, 46, 103, 111, 95, 111, 117, 116, 95, 103, 114, 111, 117, 112, 105, 110, 103]⟩
noncomputable abbrev xs56 : Str := ⟨#[66, 97, 115, 101, 83, 116, 101, 109, 109, 101, 114, 46, 111, 117, 116, 95, 103, 114, 111, 117, 112, 105, 110, 103, 95, 98]⟩
noncomputable abbrev xs57 : Str := ⟨#[66, 97, 115, 101, 83, 116, 101, 109, 109, 101, 114, 46, 103, 111, 95, 111, 117, 116, 95, 103, 114, 111, 117, 112, 105, 110, 103, 95, 98]⟩
noncomputable abbrev xs58 : Str := ⟨#[66, 97, 115, 101, 83, 116, 101, 109, 109, 101, 114, 46, 101, 113, 95, 115]⟩
noncomputable abbrev xs59 : Str := ⟨#[66, 97, 115, 101, 83, 116, 101, 109, 109, 101, 114, 46, 101, 113, 95, 115, 95, 98]⟩
noncomputable abbrev xs60 : Str := ⟨#[66, 97, 115, 101, 83, 116, 101, 109, 109, 101, 114, 46, 102, 105, 110, 100, 95, 97, 109, 111, 110, 103]⟩
noncomputable abbrev xs61 : Str := ⟨#[66, 97, 115, 101, 83, 116, 101, 109, 109, 101, 114, 46, 102, 105, 110, 100, 95, 97, 109, 111, 110, 103, 95, 98]⟩
noncomputable abbrev xs62 : Str := ⟨#[99, 95, 98, 114, 97]⟩
noncomputable abbrev xs63 : Str := ⟨#[99, 95, 107, 101, 116]⟩
noncomputable abbrev xs64 : Str := ⟨#[66, 97, 115, 101, 83, 116, 101, 109, 109, 101, 114, 46, 114, 101, 112, 108, 97, 99, 101, 95, 115]⟩
noncomputable abbrev xs65 : Str := ⟨#[66, 97, 115, 101, 83, 116, 101, 109, 109, 101, 114, 46, 115, 108, 105, 99, 101, 95, 102, 114, 111, 109]⟩
noncomputable abbrev xs66 : Str := ⟨#[66, 97, 115, 101, 83, 116, 101, 109, 109, 101, 114, 46, 115, 108, 105, 99, 101, 95, 100, 101, 108]⟩
noncomputable abbrev xs67 : Str := ⟨#[66, 97, 115, 101, 83, 116, 101, 109, 109, 101, 114, 46, 105, 110, 115, 101, 114, 116]⟩
noncomputable abbrev xs68 : Str := ⟨#[66, 97, 115, 101, 83, 116, 101, 109, 109, 101, 114, 46, 115, 108, 105, 99, 101, 95, 116, 111]⟩
noncomputable abbrev xs69 : Str := ⟨#[66, 97, 115, 101, 83, 116, 101, 109, 109, 101, 114, 46, 97, 115, 115, 105, 103, 110, 95, 116, 111]⟩
noncomputable abbrev xs70 : Str := ⟨#[119, 111, 114, 100]⟩
noncomputable abbrev xs71 : Str := ⟨#[66, 97, 115, 101, 83, 116, 101, 109, 109, 101, 114, 46, 115, 116, 101, 109, 87, 111, 114, 100]⟩
noncomputable abbrev xs72 : Str := ⟨#[66, 97, 115, 101, 83, 116, 101, 109, 109, 101, 114, 46, 115, 116, 101, 109, 87, 111, 114, 100, 115]⟩
noncomputable abbrev xs73 : Str := ⟨#[99, 117, 114, 115, 111, 114]⟩
noncomputable abbrev xs74 : Str := ⟨#[107, 101, 116]⟩
noncomputable abbrev xs75 : Str := ⟨#[108, 105, 109, 105, 116, 95, 98, 97, 99, 107, 119, 97, 114, 100]⟩
noncomputable abbrev xs76 : Str := ⟨#[95, 95, 100, 105, 99, 116, 95, 95]⟩
noncomputable abbrev xs77 : Str := ⟨#[95, 95, 119, 101, 97, 107, 114, 101, 102, 95, 95]⟩
noncomputable abbrev xs78 : Str := ⟨#[115, 110, 111, 119, 98, 97, 108, 108, 115, 116, 101, 109, 109, 101, 114, 46, 97, 109, 111, 110, 103]⟩
noncomputable abbrev xs79 : Str := ⟨#[115, 117, 98, 115, 116, 114, 105, 110, 103, 95, 105]⟩
noncomputable abbrev xs80 : Str := ⟨#[114, 101, 115, 117, 108, 116]⟩
noncomputable abbrev xs81 : Str := ⟨#[65, 109, 111, 110, 103, 46, 95, 95, 105, 110, 105, 116, 95, 95]⟩
noncomputable abbrev xs82 : Str := ⟨#[76, 105, 116, 104, 117, 97, 110, 105, 97, 110, 83, 116, 101, 109, 109, 101, 114]⟩
noncomputable abbrev xs83 : Str := ⟨#[103, 95, 118]⟩
noncomputable abbrev xs84 : Str := ⟨#[73, 95, 112, 49]⟩
noncomputable abbrev xs85 : Str := ⟨#[114, 95, 115, 116, 101, 112, 49]⟩
noncomputable abbrev xs86 : Str := ⟨#[114, 95, 115, 116, 101, 112, 50]⟩
noncomputable abbrev xs87 : Str := ⟨#[114, 95, 102, 105, 120, 95, 99, 111, 110, 102, 108, 105, 99, 116, 115]⟩
noncomputable abbrev xs88 : Str := ⟨#[114, 95, 102, 105, 120, 95, 99, 104, 100, 122]⟩
noncomputable abbrev xs89 : Str := ⟨#[114, 95, 102, 105, 120, 95, 103, 100]⟩
noncomputable abbrev xs90 : Str := ⟨#[95, 115, 116, 101, 109]⟩
noncomputable abbrev xs91 : Str := ⟨#[76, 105, 116, 104, 117, 97, 110, 105, 97, 110, 83, 116, 101, 109, 109, 101, 114, 46, 114, 95, 115, 116, 101, 112, 49]⟩
noncomputable abbrev xs92 : Str := ⟨#[76, 105, 116, 104, 117, 97, 110, 105, 97, 110, 83, 116, 101, 109, 109, 101, 114, 46, 114, 95, 115, 116, 101, 112, 50]⟩
noncomputable abbrev xs93 : Str := ⟨#[97, 109, 111, 110, 103, 95, 118, 97, 114]⟩
noncomputable abbrev xs94 : Str := ⟨#[76, 105, 116, 104, 117, 97, 110, 105, 97, 110, 83, 116, 101, 109, 109, 101, 114, 46, 114, 95, 102, 105, 120, 95, 99, 111, 110, 102, 108, 105, 99, 116, 115]⟩
noncomputable abbrev xs95 : Str := ⟨#[76, 105, 116, 104, 117, 97, 110, 105, 97, 110, 83, 116, 101, 109, 109, 101, 114, 46, 114, 95, 102, 105, 120, 95, 99, 104, 100, 122]⟩
noncomputable abbrev xs96 : Str := ⟨#[76, 105, 116, 104, 117, 97, 110, 105, 97, 110, 83, 116, 101, 109, 109, 101, 114, 46, 114, 95, 102, 105, 120, 95, 103, 100]⟩
noncomputable abbrev xs97 : Str := ⟨#[76, 105, 116, 104, 117, 97, 110, 105, 97, 110, 83, 116, 101, 109, 109, 101, 114, 46, 95, 115, 116, 101, 109]⟩
noncomputable abbrev xs98 : Str := ⟨#[97, 115, 95, 50]⟩
noncomputable abbrev xs99 : Str := ⟨#[97, 115, 95, 51]⟩
noncomputable abbrev xs100 : Str := ⟨#[116, 121, 112, 101, 46, 95, 95, 115, 117, 98, 99, 108, 97, 115, 115, 101, 115, 95, 95, 46, 69, 120, 99, 101, 112, 116, 105, 111, 110, 46, 48]⟩
noncomputable abbrev xs101 : Str := ⟨#[116, 121, 112, 101, 46, 95, 95, 115, 117, 98, 99, 108, 97, 115, 115, 101, 115, 95, 95, 46, 69, 120, 99, 101, 112, 116, 105, 111, 110, 46, 110]⟩
noncomputable abbrev xs102 : Str := ⟨#[116, 121, 112, 101, 46, 95, 95, 115, 117, 98, 99, 108, 97, 115, 115, 101, 115, 95, 95, 46, 69, 120, 99, 101, 112, 116, 105, 111, 110, 46, 49]⟩
noncomputable abbrev xs103 : Str := ⟨#[108, 97, 119, 95, 97, 104, 48, 48, 52, 48, 95, 48, 49]⟩
noncomputable abbrev xs104 : Str := ⟨#[108, 97, 98, 48]⟩
noncomputable abbrev xs105 : Str := ⟨#[108, 97, 98, 49]⟩
noncomputable abbrev xs106 : Str := ⟨#[95, 108, 97, 119, 95, 108, 101, 116, 116, 101, 114, 115]⟩
noncomputable abbrev xs107 : Str := ⟨#[95, 108, 97, 119, 95, 118, 111, 119, 101, 108, 115]⟩
noncomputable abbrev xs108 : Str := ⟨#[95, 108, 97, 119, 95, 99, 108, 111, 115, 101, 115]⟩
noncomputable abbrev xs109 : Str := ⟨#[95, 108, 97, 119, 95, 101, 110, 100, 115]⟩
noncomputable abbrev xs110 : Str := ⟨#[95, 108, 97, 119, 95, 109, 111, 114, 101, 95, 101, 110, 100, 115]⟩
noncomputable abbrev xs111 : Str := ⟨#[95, 108, 97, 119, 95, 106, 111, 105, 110, 105, 110, 103]⟩
noncomputable abbrev xs112 : Str := ⟨#[95, 108, 97, 119, 95, 105, 110, 110, 101, 114]⟩
noncomputable abbrev xs113 : Str := ⟨#[95, 108, 97, 119, 95, 119, 111, 109, 101, 110]⟩
noncomputable abbrev xs114 : Str := ⟨#[95, 108, 97, 119, 95, 100, 101, 101, 100, 115]⟩
noncomputable abbrev xs115 : Str := ⟨#[95, 108, 97, 119, 95, 112, 97, 105, 114, 115]⟩
noncomputable abbrev xs116 : Str := ⟨#[95, 108, 97, 119, 95, 115, 104, 111, 114, 116]⟩
noncomputable abbrev xs117 : Str := ⟨#[95, 108, 97, 119, 95, 97, 116]⟩
noncomputable abbrev xs118 : Str := ⟨#[95, 108, 97, 119, 95, 98, 111, 100, 121]⟩
noncomputable abbrev xs119 : Str := ⟨#[95, 108, 97, 119, 95, 101, 110, 100]⟩
noncomputable abbrev xs120 : Str := ⟨#[95, 108, 97, 119, 95, 119, 111, 114, 100]⟩
noncomputable abbrev xs121 : Str := ⟨#[108, 97, 119]⟩
noncomputable abbrev xs122 : Str := ⟨#[115, 99, 114, 105, 112, 116]⟩
noncomputable abbrev xs123 : Str := ⟨#[98, 111, 100, 121]⟩
/- printed by Gen: what stands in the heap behind each piece of the top -/
noncomputable def newsZ (P : Params) : List Obj := [
  ⟨(.type "tuple"), none, (.seq #[] 0), #[]⟩,
  ⟨.none, none, (.fields #[]), #[]⟩,
  ⟨(.type "code"), none, (.fields #[(.str xs0 (182)), (.str xs0 (183)), (.str xs1 (184)), (.int 1 0), (.int 0 0), (.int 0 0), (.int 0 0), (.int 0 0), (.ref (11)), (.bool false), (.int 181 0), (.ref (12)), .none, .none, .none, .none, (.int 185 0), (.int 1 0), (.str xs1 (186))]), #[]⟩,
  ⟨(.type "frame"), none, .plain, #[(some (.ref (13))), (some (.ref (3))), (some (.ref (3))), none, (some (.str xs2 (164))), none, (some (.ref (0)))]⟩]
noncomputable def modsK (P : Params) : List (Addr × Obj) := [(3, ⟨(.type "dict"), none, (.dict #[⟨PyData.keyHash P xs3, (.str xs3 (165)), (.str xs4 (459))⟩, ⟨PyData.keyHash P xs5, (.str xs5 (166)), .none⟩, ⟨PyData.keyHash P xs6, (.str xs6 (167)), .none⟩, ⟨PyData.keyHash P xs7, (.str xs7 (168)), (.builtin "__main__.__loader__#opaque")⟩, ⟨PyData.keyHash P xs8, (.str xs8 (169)), .none⟩, ⟨PyData.keyHash P xs9, (.str xs9 (170)), (.ref (6))⟩, ⟨PyData.keyHash P xs10, (.str xs10 (171)), (.ref (4))⟩, ⟨PyData.keyHash P xs11, (.str xs11 (173)), (.str xs1 (172))⟩, ⟨PyData.keyHash P xs12, (.str xs12 (174)), .none⟩, ⟨PyData.keyHash P xs13, (.str xs13 (193)), (.ref (21))⟩, ⟨PyData.keyHash P xs14, (.str xs14 (423)), (.ref (197))⟩, ⟨PyData.keyHash P xs15, (.str xs15 (458)), (.ref (218))⟩] 12), #[]⟩), (12, ⟨.none, none, (.fields #[(.int 1 0), (.int 0 0), (.ref (20)), (.int 5 0), (.int 0 0), (.ref (27)), (.int 151 0), (.int 0 0), (.ref (207))]), #[]⟩)]
noncomputable def newsK (P : Params) : List Obj := [
  ⟨(.type "tuple"), none, (.seq #[] 0), #[]⟩,
  ⟨.none, none, (.fields #[]), #[]⟩,
  ⟨(.type "tuple"), none, (.seq #[(.str (⟨#[107]⟩ : Str) (190))] 0), #[]⟩,
  ⟨(.type "tuple"), none, (.seq #[] 0), #[]⟩,
  ⟨.none, none, (.func (fnAt (stAt top 0) xs13 0 [] .none .none .none .none none .none .none 0)), #[]⟩,
  ⟨(.type "code"), none, (.fields #[(.str xs13 (187)), (.str xs13 (188)), (.str xs1 (189)), (.int 1 0), (.int 1 0), (.int 0 0), (.int 0 0), (.int 3 0), (.ref (15)), (.bool true), (.int 181 0), (.ref (16)), .none, (.ref (17)), (.ref (18)), (.ref (19)), (.int 191 0), (.int 1 0), (.str xs1 (192))]), #[]⟩,
  ⟨(.type "function"), none, (.func (fnAt (stAt top 0) xs13 3 [] .none .none .none (.str xs2 (164)) none (.ref (20)) .none 0)), #[]⟩,
  ⟨(.type "tuple"), none, (.seq #[] 0), #[]⟩,
  ⟨(.type "builtin_function_or_method"), none, (.fields #[(.builtin "type.__prepare__"), (.type "type")]), #[]⟩,
  ⟨(.type "dict"), none, (.dict #[⟨PyData.keyHash P xs16, (.str xs16 (203)), (.str xs17 (194))⟩, ⟨PyData.keyHash P xs18, (.str xs18 (205)), (.str xs14 (204))⟩, ⟨PyData.keyHash P xs19, (.str xs19 (207)), (.int 5 (206))⟩, ⟨PyData.keyHash P xs20, (.str xs20 (214)), (.ref (35))⟩, ⟨PyData.keyHash P xs21, (.str xs21 (222)), (.ref (42))⟩, ⟨PyData.keyHash P xs22, (.str xs22 (229)), (.ref (49))⟩, ⟨PyData.keyHash P xs23, (.str xs23 (237)), (.ref (56))⟩, ⟨PyData.keyHash P xs24, (.str xs24 (245)), (.ref (63))⟩, ⟨PyData.keyHash P xs25, (.str xs25 (253)), (.ref (70))⟩, ⟨PyData.keyHash P xs26, (.str xs26 (261)), (.ref (77))⟩, ⟨PyData.keyHash P xs27, (.str xs27 (269)), (.ref (84))⟩, ⟨PyData.keyHash P xs28, (.str xs28 (277)), (.ref (91))⟩, ⟨PyData.keyHash P xs29, (.str xs29 (285)), (.ref (98))⟩, ⟨PyData.keyHash P xs30, (.str xs30 (293)), (.ref (105))⟩, ⟨PyData.keyHash P xs31, (.str xs31 (301)), (.ref (112))⟩, ⟨PyData.keyHash P xs32, (.str xs32 (309)), (.ref (119))⟩, ⟨PyData.keyHash P xs33, (.str xs33 (317)), (.ref (126))⟩, ⟨PyData.keyHash P xs34, (.str xs34 (325)), (.ref (133))⟩, ⟨PyData.keyHash P xs35, (.str xs35 (345)), (.ref (140))⟩, ⟨PyData.keyHash P xs36, (.str xs36 (356)), (.ref (147))⟩, ⟨PyData.keyHash P xs37, (.str xs37 (364)), (.ref (154))⟩, ⟨PyData.keyHash P xs38, (.str xs38 (371)), (.ref (161))⟩, ⟨PyData.keyHash P xs39, (.str xs39 (381)), (.ref (168))⟩, ⟨PyData.keyHash P xs40, (.str xs40 (388)), (.ref (175))⟩, ⟨PyData.keyHash P xs41, (.str xs41 (395)), (.ref (182))⟩, ⟨PyData.keyHash P xs42, (.str xs42 (403)), (.ref (189))⟩, ⟨PyData.keyHash P xs43, (.str xs43 (409)), (.ref (194))⟩, ⟨PyData.keyHash P xs44, (.str xs44 (416)), (.ref (195))⟩] 28), #[]⟩,
  ⟨(.type "tuple"), none, (.seq #[] 0), #[]⟩,
  ⟨.none, none, (.fields #[(.int 7 0), (.int 4 0), (.ref (34)), (.int 10 0), (.int 4 0), (.ref (41)), (.int 18 0), (.int 4 0), (.ref (48)), (.int 21 0), (.int 4 0), (.ref (55)), (.int 24 0), (.int 4 0), (.ref (62)), (.int 27 0), (.int 4 0), (.ref (69)), (.int 34 0), (.int 4 0), (.ref (76)), (.int 37 0), (.int 4 0), (.ref (83)), (.int 40 0), (.int 4 0), (.ref (90)), (.int 43 0), (.int 4 0), (.ref (97)), (.int 50 0), (.int 4 0), (.ref (104)), (.int 53 0), (.int 4 0), (.ref (111)), (.int 56 0), (.int 4 0), (.ref (118)), (.int 59 0), (.int 4 0), (.ref (125)), (.int 65 0), (.int 4 0), (.ref (132)), (.int 68 0), (.int 4 0), (.ref (139)), (.int 113 0), (.int 4 0), (.ref (146)), (.int 123 0), (.int 4 0), (.ref (153)), (.int 131 0), (.int 4 0), (.ref (160)), (.int 134 0), (.int 4 0), (.ref (167)), (.int 137 0), (.int 4 0), (.ref (174)), (.int 140 0), (.int 4 0), (.ref (181)), (.int 143 0), (.int 4 0), (.ref (188)), (.int 148 0), (.int 4 0), (.ref (193))]), #[]⟩,
  ⟨(.type "code"), none, (.fields #[(.str xs14 (198)), (.str xs14 (199)), (.str xs1 (200)), (.int 5 0), (.int 0 0), (.int 0 0), (.int 0 0), (.int 0 0), (.ref (25)), (.bool false), (.int 181 0), (.ref (26)), .none, .none, .none, .none, (.int 201 0), (.int 5 0), (.str xs1 (202))]), #[]⟩,
  ⟨(.type "frame"), none, .plain, #[(some (.ref (27))), (some (.ref (3))), (some (.ref (24))), none, (some (.str xs17 (194))), none, (some (.ref (0)))]⟩,
  ⟨(.type "tuple"), none, (.seq #[] 0), #[]⟩,
  ⟨.none, none, (.fields #[]), #[]⟩,
  ⟨(.type "tuple"), none, (.seq #[(.str xs45 (211))] 0), #[]⟩,
  ⟨(.type "tuple"), none, (.seq #[] 0), #[]⟩,
  ⟨.none, none, (.func (fnAt (stAt (subs (stAt top 2)) 0) xs46 0 [] .none .none .none .none none .none .none 0)), #[]⟩,
  ⟨(.type "code"), none, (.fields #[(.str xs20 (208)), (.str xs46 (209)), (.str xs1 (210)), (.int 7 0), (.int 1 0), (.int 0 0), (.int 0 0), (.int 3 0), (.ref (29)), (.bool true), (.int 181 0), (.ref (30)), .none, (.ref (31)), (.ref (32)), (.ref (33)), (.int 212 0), (.int 7 0), (.str xs1 (213))]), #[]⟩,
  ⟨(.type "function"), none, (.func (fnAt (stAt (subs (stAt top 2)) 0) xs46 3 [] .none .none .none (.str xs17 (194)) none (.ref (34)) .none 0)), #[]⟩,
  ⟨(.type "tuple"), none, (.seq #[] 0), #[]⟩,
  ⟨.none, none, (.fields #[]), #[]⟩,
  ⟨(.type "tuple"), none, (.seq #[(.str xs45 (218)), (.str (⟨#[118, 97, 108, 117, 101]⟩ : Str) (219))] 0), #[]⟩,
  ⟨(.type "tuple"), none, (.seq #[] 0), #[]⟩,
  ⟨.none, none, (.func (fnAt (stAt (subs (stAt top 2)) 1) xs47 0 [] .none .none .none .none none .none .none 0)), #[]⟩,
  ⟨(.type "code"), none, (.fields #[(.str xs21 (215)), (.str xs47 (216)), (.str xs1 (217)), (.int 10 0), (.int 2 0), (.int 0 0), (.int 0 0), (.int 3 0), (.ref (36)), (.bool true), (.int 181 0), (.ref (37)), .none, (.ref (38)), (.ref (39)), (.ref (40)), (.int 220 0), (.int 10 0), (.str xs1 (221))]), #[]⟩,
  ⟨(.type "function"), none, (.func (fnAt (stAt (subs (stAt top 2)) 1) xs47 3 [] .none .none .none (.str xs17 (194)) none (.ref (41)) .none 0)), #[]⟩,
  ⟨(.type "tuple"), none, (.seq #[] 0), #[]⟩,
  ⟨.none, none, (.fields #[]), #[]⟩,
  ⟨(.type "tuple"), none, (.seq #[(.str xs45 (226))] 0), #[]⟩,
  ⟨(.type "tuple"), none, (.seq #[] 0), #[]⟩,
  ⟨.none, none, (.func (fnAt (stAt (subs (stAt top 2)) 2) xs48 0 [] .none .none .none .none none .none .none 0)), #[]⟩,
  ⟨(.type "code"), none, (.fields #[(.str xs22 (223)), (.str xs48 (224)), (.str xs1 (225)), (.int 18 0), (.int 1 0), (.int 0 0), (.int 0 0), (.int 3 0), (.ref (43)), (.bool true), (.int 181 0), (.ref (44)), .none, (.ref (45)), (.ref (46)), (.ref (47)), (.int 227 0), (.int 18 0), (.str xs1 (228))]), #[]⟩,
  ⟨(.type "function"), none, (.func (fnAt (stAt (subs (stAt top 2)) 2) xs48 3 [] .none .none .none (.str xs17 (194)) none (.ref (48)) .none 0)), #[]⟩,
  ⟨(.type "tuple"), none, (.seq #[] 0), #[]⟩,
  ⟨.none, none, (.fields #[]), #[]⟩,
  ⟨(.type "tuple"), none, (.seq #[(.str xs45 (233)), (.str (⟨#[111, 116, 104, 101, 114]⟩ : Str) (234))] 0), #[]⟩,
  ⟨(.type "tuple"), none, (.seq #[] 0), #[]⟩,
  ⟨.none, none, (.func (fnAt (stAt (subs (stAt top 2)) 3) xs49 0 [] .none .none .none .none none .none .none 0)), #[]⟩,
  ⟨(.type "code"), none, (.fields #[(.str xs23 (230)), (.str xs49 (231)), (.str xs1 (232)), (.int 21 0), (.int 2 0), (.int 0 0), (.int 0 0), (.int 3 0), (.ref (50)), (.bool true), (.int 181 0), (.ref (51)), .none, (.ref (52)), (.ref (53)), (.ref (54)), (.int 235 0), (.int 21 0), (.str xs1 (236))]), #[]⟩,
  ⟨(.type "function"), none, (.func (fnAt (stAt (subs (stAt top 2)) 3) xs49 3 [] .none .none .none (.str xs17 (194)) none (.ref (55)) .none 0)), #[]⟩,
  ⟨(.type "tuple"), none, (.seq #[] 0), #[]⟩,
  ⟨.none, none, (.fields #[]), #[]⟩,
  ⟨(.type "tuple"), none, (.seq #[(.str xs45 (241)), (.str (⟨#[115]⟩ : Str) (242))] 0), #[]⟩,
  ⟨(.type "tuple"), none, (.seq #[] 0), #[]⟩,
  ⟨.none, none, (.func (fnAt (stAt (subs (stAt top 2)) 4) xs50 0 [] .none .none .none .none none .none .none 0)), #[]⟩,
  ⟨(.type "code"), none, (.fields #[(.str xs24 (238)), (.str xs50 (239)), (.str xs1 (240)), (.int 24 0), (.int 2 0), (.int 0 0), (.int 0 0), (.int 3 0), (.ref (57)), (.bool true), (.int 181 0), (.ref (58)), .none, (.ref (59)), (.ref (60)), (.ref (61)), (.int 243 0), (.int 24 0), (.str xs1 (244))]), #[]⟩,
  ⟨(.type "function"), none, (.func (fnAt (stAt (subs (stAt top 2)) 4) xs50 3 [] .none .none .none (.str xs17 (194)) none (.ref (62)) .none 0)), #[]⟩,
  ⟨(.type "tuple"), none, (.seq #[] 0), #[]⟩,
  ⟨.none, none, (.fields #[]), #[]⟩,
  ⟨(.type "tuple"), none, (.seq #[(.str xs45 (249)), (.str (⟨#[115]⟩ : Str) (250))] 0), #[]⟩,
  ⟨(.type "tuple"), none, (.seq #[] 0), #[]⟩,
  ⟨.none, none, (.func (fnAt (stAt (subs (stAt top 2)) 5) xs51 0 [] .none .none .none .none none .none .none 0)), #[]⟩,
  ⟨(.type "code"), none, (.fields #[(.str xs25 (246)), (.str xs51 (247)), (.str xs1 (248)), (.int 27 0), (.int 2 0), (.int 0 0), (.int 0 0), (.int 3 0), (.ref (64)), (.bool true), (.int 181 0), (.ref (65)), .none, (.ref (66)), (.ref (67)), (.ref (68)), (.int 251 0), (.int 27 0), (.str xs1 (252))]), #[]⟩,
  ⟨(.type "function"), none, (.func (fnAt (stAt (subs (stAt top 2)) 5) xs51 3 [] .none .none .none (.str xs17 (194)) none (.ref (69)) .none 0)), #[]⟩,
  ⟨(.type "tuple"), none, (.seq #[] 0), #[]⟩,
  ⟨.none, none, (.fields #[]), #[]⟩,
  ⟨(.type "tuple"), none, (.seq #[(.str xs45 (257)), (.str (⟨#[115]⟩ : Str) (258))] 0), #[]⟩,
  ⟨(.type "tuple"), none, (.seq #[] 0), #[]⟩,
  ⟨.none, none, (.func (fnAt (stAt (subs (stAt top 2)) 6) xs52 0 [] .none .none .none .none none .none .none 0)), #[]⟩,
  ⟨(.type "code"), none, (.fields #[(.str xs26 (254)), (.str xs52 (255)), (.str xs1 (256)), (.int 34 0), (.int 2 0), (.int 0 0), (.int 0 0), (.int 3 0), (.ref (71)), (.bool true), (.int 181 0), (.ref (72)), .none, (.ref (73)), (.ref (74)), (.ref (75)), (.int 259 0), (.int 34 0), (.str xs1 (260))]), #[]⟩,
  ⟨(.type "function"), none, (.func (fnAt (stAt (subs (stAt top 2)) 6) xs52 3 [] .none .none .none (.str xs17 (194)) none (.ref (76)) .none 0)), #[]⟩,
  ⟨(.type "tuple"), none, (.seq #[] 0), #[]⟩,
  ⟨.none, none, (.fields #[]), #[]⟩,
  ⟨(.type "tuple"), none, (.seq #[(.str xs45 (265)), (.str (⟨#[115]⟩ : Str) (266))] 0), #[]⟩,
  ⟨(.type "tuple"), none, (.seq #[] 0), #[]⟩,
  ⟨.none, none, (.func (fnAt (stAt (subs (stAt top 2)) 7) xs53 0 [] .none .none .none .none none .none .none 0)), #[]⟩,
  ⟨(.type "code"), none, (.fields #[(.str xs27 (262)), (.str xs53 (263)), (.str xs1 (264)), (.int 37 0), (.int 2 0), (.int 0 0), (.int 0 0), (.int 3 0), (.ref (78)), (.bool true), (.int 181 0), (.ref (79)), .none, (.ref (80)), (.ref (81)), (.ref (82)), (.int 267 0), (.int 37 0), (.str xs1 (268))]), #[]⟩,
  ⟨(.type "function"), none, (.func (fnAt (stAt (subs (stAt top 2)) 7) xs53 3 [] .none .none .none (.str xs17 (194)) none (.ref (83)) .none 0)), #[]⟩,
  ⟨(.type "tuple"), none, (.seq #[] 0), #[]⟩,
  ⟨.none, none, (.fields #[]), #[]⟩,
  ⟨(.type "tuple"), none, (.seq #[(.str xs45 (273)), (.str (⟨#[115]⟩ : Str) (274))] 0), #[]⟩,
  ⟨(.type "tuple"), none, (.seq #[] 0), #[]⟩,
  ⟨.none, none, (.func (fnAt (stAt (subs (stAt top 2)) 8) xs54 0 [] .none .none .none .none none .none .none 0)), #[]⟩,
  ⟨(.type "code"), none, (.fields #[(.str xs28 (270)), (.str xs54 (271)), (.str xs1 (272)), (.int 40 0), (.int 2 0), (.int 0 0), (.int 0 0), (.int 3 0), (.ref (85)), (.bool true), (.int 181 0), (.ref (86)), .none, (.ref (87)), (.ref (88)), (.ref (89)), (.int 275 0), (.int 40 0), (.str xs1 (276))]), #[]⟩,
  ⟨(.type "function"), none, (.func (fnAt (stAt (subs (stAt top 2)) 8) xs54 3 [] .none .none .none (.str xs17 (194)) none (.ref (90)) .none 0)), #[]⟩,
  ⟨(.type "tuple"), none, (.seq #[] 0), #[]⟩,
  ⟨.none, none, (.fields #[]), #[]⟩,
  ⟨(.type "tuple"), none, (.seq #[(.str xs45 (281)), (.str (⟨#[115]⟩ : Str) (282))] 0), #[]⟩,
  ⟨(.type "tuple"), none, (.seq #[] 0), #[]⟩,
  ⟨.none, none, (.func (fnAt (stAt (subs (stAt top 2)) 9) xs55 0 [] .none .none .none .none none .none .none 0)), #[]⟩,
  ⟨(.type "code"), none, (.fields #[(.str xs29 (278)), (.str xs55 (279)), (.str xs1 (280)), (.int 43 0), (.int 2 0), (.int 0 0), (.int 0 0), (.int 3 0), (.ref (92)), (.bool true), (.int 181 0), (.ref (93)), .none, (.ref (94)), (.ref (95)), (.ref (96)), (.int 283 0), (.int 43 0), (.str xs1 (284))]), #[]⟩,
  ⟨(.type "function"), none, (.func (fnAt (stAt (subs (stAt top 2)) 9) xs55 3 [] .none .none .none (.str xs17 (194)) none (.ref (97)) .none 0)), #[]⟩,
  ⟨(.type "tuple"), none, (.seq #[] 0), #[]⟩,
  ⟨.none, none, (.fields #[]), #[]⟩,
  ⟨(.type "tuple"), none, (.seq #[(.str xs45 (289)), (.str (⟨#[115]⟩ : Str) (290))] 0), #[]⟩,
  ⟨(.type "tuple"), none, (.seq #[] 0), #[]⟩,
  ⟨.none, none, (.func (fnAt (stAt (subs (stAt top 2)) 10) xs56 0 [] .none .none .none .none none .none .none 0)), #[]⟩,
  ⟨(.type "code"), none, (.fields #[(.str xs30 (286)), (.str xs56 (287)), (.str xs1 (288)), (.int 50 0), (.int 2 0), (.int 0 0), (.int 0 0), (.int 3 0), (.ref (99)), (.bool true), (.int 181 0), (.ref (100)), .none, (.ref (101)), (.ref (102)), (.ref (103)), (.int 291 0), (.int 50 0), (.str xs1 (292))]), #[]⟩,
  ⟨(.type "function"), none, (.func (fnAt (stAt (subs (stAt top 2)) 10) xs56 3 [] .none .none .none (.str xs17 (194)) none (.ref (104)) .none 0)), #[]⟩,
  ⟨(.type "tuple"), none, (.seq #[] 0), #[]⟩,
  ⟨.none, none, (.fields #[]), #[]⟩,
  ⟨(.type "tuple"), none, (.seq #[(.str xs45 (297)), (.str (⟨#[115]⟩ : Str) (298))] 0), #[]⟩,
  ⟨(.type "tuple"), none, (.seq #[] 0), #[]⟩,
  ⟨.none, none, (.func (fnAt (stAt (subs (stAt top 2)) 11) xs57 0 [] .none .none .none .none none .none .none 0)), #[]⟩,
  ⟨(.type "code"), none, (.fields #[(.str xs31 (294)), (.str xs57 (295)), (.str xs1 (296)), (.int 53 0), (.int 2 0), (.int 0 0), (.int 0 0), (.int 3 0), (.ref (106)), (.bool true), (.int 181 0), (.ref (107)), .none, (.ref (108)), (.ref (109)), (.ref (110)), (.int 299 0), (.int 53 0), (.str xs1 (300))]), #[]⟩,
  ⟨(.type "function"), none, (.func (fnAt (stAt (subs (stAt top 2)) 11) xs57 3 [] .none .none .none (.str xs17 (194)) none (.ref (111)) .none 0)), #[]⟩,
  ⟨(.type "tuple"), none, (.seq #[] 0), #[]⟩,
  ⟨.none, none, (.fields #[]), #[]⟩,
  ⟨(.type "tuple"), none, (.seq #[(.str xs45 (305)), (.str (⟨#[115]⟩ : Str) (306))] 0), #[]⟩,
  ⟨(.type "tuple"), none, (.seq #[] 0), #[]⟩,
  ⟨.none, none, (.func (fnAt (stAt (subs (stAt top 2)) 12) xs58 0 [] .none .none .none .none none .none .none 0)), #[]⟩,
  ⟨(.type "code"), none, (.fields #[(.str xs32 (302)), (.str xs58 (303)), (.str xs1 (304)), (.int 56 0), (.int 2 0), (.int 0 0), (.int 0 0), (.int 3 0), (.ref (113)), (.bool true), (.int 181 0), (.ref (114)), .none, (.ref (115)), (.ref (116)), (.ref (117)), (.int 307 0), (.int 56 0), (.str xs1 (308))]), #[]⟩,
  ⟨(.type "function"), none, (.func (fnAt (stAt (subs (stAt top 2)) 12) xs58 3 [] .none .none .none (.str xs17 (194)) none (.ref (118)) .none 0)), #[]⟩,
  ⟨(.type "tuple"), none, (.seq #[] 0), #[]⟩,
  ⟨.none, none, (.fields #[]), #[]⟩,
  ⟨(.type "tuple"), none, (.seq #[(.str xs45 (313)), (.str (⟨#[115]⟩ : Str) (314))] 0), #[]⟩,
  ⟨(.type "tuple"), none, (.seq #[] 0), #[]⟩,
  ⟨.none, none, (.func (fnAt (stAt (subs (stAt top 2)) 13) xs59 0 [] .none .none .none .none none .none .none 0)), #[]⟩,
  ⟨(.type "code"), none, (.fields #[(.str xs33 (310)), (.str xs59 (311)), (.str xs1 (312)), (.int 59 0), (.int 2 0), (.int 0 0), (.int 0 0), (.int 3 0), (.ref (120)), (.bool true), (.int 181 0), (.ref (121)), .none, (.ref (122)), (.ref (123)), (.ref (124)), (.int 315 0), (.int 59 0), (.str xs1 (316))]), #[]⟩,
  ⟨(.type "function"), none, (.func (fnAt (stAt (subs (stAt top 2)) 13) xs59 3 [] .none .none .none (.str xs17 (194)) none (.ref (125)) .none 0)), #[]⟩,
  ⟨(.type "tuple"), none, (.seq #[] 0), #[]⟩,
  ⟨.none, none, (.fields #[]), #[]⟩,
  ⟨(.type "tuple"), none, (.seq #[(.str xs45 (321)), (.str (⟨#[118]⟩ : Str) (322))] 0), #[]⟩,
  ⟨(.type "tuple"), none, (.seq #[] 0), #[]⟩,
  ⟨.none, none, (.func (fnAt (stAt (subs (stAt top 2)) 14) xs60 0 [] .none .none .none .none none .none .none 0)), #[]⟩,
  ⟨(.type "code"), none, (.fields #[(.str xs34 (318)), (.str xs60 (319)), (.str xs1 (320)), (.int 65 0), (.int 2 0), (.int 0 0), (.int 0 0), (.int 3 0), (.ref (127)), (.bool true), (.int 181 0), (.ref (128)), .none, (.ref (129)), (.ref (130)), (.ref (131)), (.int 323 0), (.int 65 0), (.str xs1 (324))]), #[]⟩,
  ⟨(.type "function"), none, (.func (fnAt (stAt (subs (stAt top 2)) 14) xs60 3 [] .none .none .none (.str xs17 (194)) none (.ref (132)) .none 0)), #[]⟩,
  ⟨(.type "tuple"), none, (.seq #[] 0), #[]⟩,
  ⟨.none, none, (.fields #[]), #[]⟩,
  ⟨(.type "tuple"), none, (.seq #[(.str xs45 (329)), (.str (⟨#[118]⟩ : Str) (330)), (.str (⟨#[105]⟩ : Str) (331)), (.str (⟨#[106]⟩ : Str) (332)), (.str (⟨#[99]⟩ : Str) (333)), (.str (⟨#[108, 98]⟩ : Str) (334)), (.str (⟨#[99, 111, 109, 109, 111, 110, 95, 105]⟩ : Str) (335)), (.str (⟨#[99, 111, 109, 109, 111, 110, 95, 106]⟩ : Str) (336)), (.str (⟨#[102, 105, 114, 115, 116, 95, 107, 101, 121, 95, 105, 110, 115, 112, 101, 99, 116, 101, 100]⟩ : Str) (337)), (.str (⟨#[107]⟩ : Str) (338)), (.str (⟨#[100, 105, 102, 102]⟩ : Str) (339)), (.str (⟨#[99, 111, 109, 109, 111, 110]⟩ : Str) (340)), (.str (⟨#[119]⟩ : Str) (341)), (.str (⟨#[105, 50]⟩ : Str) (342))] 0), #[]⟩,
  ⟨(.type "tuple"), none, (.seq #[] 0), #[]⟩,
  ⟨.none, none, (.func (fnAt (stAt (subs (stAt top 2)) 15) xs61 0 [] .none .none .none .none none .none .none 0)), #[]⟩,
  ⟨(.type "code"), none, (.fields #[(.str xs35 (326)), (.str xs61 (327)), (.str xs1 (328)), (.int 68 0), (.int 2 0), (.int 0 0), (.int 0 0), (.int 3 0), (.ref (134)), (.bool true), (.int 181 0), (.ref (135)), .none, (.ref (136)), (.ref (137)), (.ref (138)), (.int 343 0), (.int 68 0), (.str xs1 (344))]), #[]⟩,
  ⟨(.type "function"), none, (.func (fnAt (stAt (subs (stAt top 2)) 15) xs61 3 [] .none .none .none (.str xs17 (194)) none (.ref (139)) .none 0)), #[]⟩,
  ⟨(.type "tuple"), none, (.seq #[] 0), #[]⟩,
  ⟨.none, none, (.fields #[]), #[]⟩,
  ⟨(.type "tuple"), none, (.seq #[(.str xs45 (349)), (.str xs62 (350)), (.str xs63 (351)), (.str (⟨#[115]⟩ : Str) (352)), (.str (⟨#[97, 100, 106, 117, 115, 116, 109, 101, 110, 116]⟩ : Str) (353))] 0), #[]⟩,
  ⟨(.type "tuple"), none, (.seq #[] 0), #[]⟩,
  ⟨.none, none, (.func (fnAt (stAt (subs (stAt top 2)) 16) xs64 0 [] .none .none .none .none none .none .none 0)), #[]⟩,
  ⟨(.type "code"), none, (.fields #[(.str xs36 (346)), (.str xs64 (347)), (.str xs1 (348)), (.int 113 0), (.int 4 0), (.int 0 0), (.int 0 0), (.int 3 0), (.ref (141)), (.bool true), (.int 181 0), (.ref (142)), .none, (.ref (143)), (.ref (144)), (.ref (145)), (.int 354 0), (.int 113 0), (.str xs1 (355))]), #[]⟩,
  ⟨(.type "function"), none, (.func (fnAt (stAt (subs (stAt top 2)) 16) xs64 3 [] .none .none .none (.str xs17 (194)) none (.ref (146)) .none 0)), #[]⟩,
  ⟨(.type "tuple"), none, (.seq #[] 0), #[]⟩,
  ⟨.none, none, (.fields #[]), #[]⟩,
  ⟨(.type "tuple"), none, (.seq #[(.str xs45 (360)), (.str (⟨#[115]⟩ : Str) (361))] 0), #[]⟩,
  ⟨(.type "tuple"), none, (.seq #[] 0), #[]⟩,
  ⟨.none, none, (.func (fnAt (stAt (subs (stAt top 2)) 17) xs65 0 [] .none .none .none .none none .none .none 0)), #[]⟩,
  ⟨(.type "code"), none, (.fields #[(.str xs37 (357)), (.str xs65 (358)), (.str xs1 (359)), (.int 123 0), (.int 2 0), (.int 0 0), (.int 0 0), (.int 3 0), (.ref (148)), (.bool true), (.int 181 0), (.ref (149)), .none, (.ref (150)), (.ref (151)), (.ref (152)), (.int 362 0), (.int 123 0), (.str xs1 (363))]), #[]⟩,
  ⟨(.type "function"), none, (.func (fnAt (stAt (subs (stAt top 2)) 17) xs65 3 [] .none .none .none (.str xs17 (194)) none (.ref (153)) .none 0)), #[]⟩,
  ⟨(.type "tuple"), none, (.seq #[] 0), #[]⟩,
  ⟨.none, none, (.fields #[]), #[]⟩,
  ⟨(.type "tuple"), none, (.seq #[(.str xs45 (368))] 0), #[]⟩,
  ⟨(.type "tuple"), none, (.seq #[] 0), #[]⟩,
  ⟨.none, none, (.func (fnAt (stAt (subs (stAt top 2)) 18) xs66 0 [] .none .none .none .none none .none .none 0)), #[]⟩,
  ⟨(.type "code"), none, (.fields #[(.str xs38 (365)), (.str xs66 (366)), (.str xs1 (367)), (.int 131 0), (.int 1 0), (.int 0 0), (.int 0 0), (.int 3 0), (.ref (155)), (.bool true), (.int 181 0), (.ref (156)), .none, (.ref (157)), (.ref (158)), (.ref (159)), (.int 369 0), (.int 131 0), (.str xs1 (370))]), #[]⟩,
  ⟨(.type "function"), none, (.func (fnAt (stAt (subs (stAt top 2)) 18) xs66 3 [] .none .none .none (.str xs17 (194)) none (.ref (160)) .none 0)), #[]⟩,
  ⟨(.type "tuple"), none, (.seq #[] 0), #[]⟩,
  ⟨.none, none, (.fields #[]), #[]⟩,
  ⟨(.type "tuple"), none, (.seq #[(.str xs45 (375)), (.str xs62 (376)), (.str xs63 (377)), (.str (⟨#[115]⟩ : Str) (378))] 0), #[]⟩,
  ⟨(.type "tuple"), none, (.seq #[] 0), #[]⟩,
  ⟨.none, none, (.func (fnAt (stAt (subs (stAt top 2)) 19) xs67 0 [] .none .none .none .none none .none .none 0)), #[]⟩,
  ⟨(.type "code"), none, (.fields #[(.str xs39 (372)), (.str xs67 (373)), (.str xs1 (374)), (.int 134 0), (.int 4 0), (.int 0 0), (.int 0 0), (.int 3 0), (.ref (162)), (.bool true), (.int 181 0), (.ref (163)), .none, (.ref (164)), (.ref (165)), (.ref (166)), (.int 379 0), (.int 134 0), (.str xs1 (380))]), #[]⟩,
  ⟨(.type "function"), none, (.func (fnAt (stAt (subs (stAt top 2)) 19) xs67 3 [] .none .none .none (.str xs17 (194)) none (.ref (167)) .none 0)), #[]⟩,
  ⟨(.type "tuple"), none, (.seq #[] 0), #[]⟩,
  ⟨.none, none, (.fields #[]), #[]⟩,
  ⟨(.type "tuple"), none, (.seq #[(.str xs45 (385))] 0), #[]⟩,
  ⟨(.type "tuple"), none, (.seq #[] 0), #[]⟩,
  ⟨.none, none, (.func (fnAt (stAt (subs (stAt top 2)) 20) xs68 0 [] .none .none .none .none none .none .none 0)), #[]⟩,
  ⟨(.type "code"), none, (.fields #[(.str xs40 (382)), (.str xs68 (383)), (.str xs1 (384)), (.int 137 0), (.int 1 0), (.int 0 0), (.int 0 0), (.int 3 0), (.ref (169)), (.bool true), (.int 181 0), (.ref (170)), .none, (.ref (171)), (.ref (172)), (.ref (173)), (.int 386 0), (.int 137 0), (.str xs1 (387))]), #[]⟩,
  ⟨(.type "function"), none, (.func (fnAt (stAt (subs (stAt top 2)) 20) xs68 3 [] .none .none .none (.str xs17 (194)) none (.ref (174)) .none 0)), #[]⟩,
  ⟨(.type "tuple"), none, (.seq #[] 0), #[]⟩,
  ⟨.none, none, (.fields #[]), #[]⟩,
  ⟨(.type "tuple"), none, (.seq #[(.str xs45 (392))] 0), #[]⟩,
  ⟨(.type "tuple"), none, (.seq #[] 0), #[]⟩,
  ⟨.none, none, (.func (fnAt (stAt (subs (stAt top 2)) 21) xs69 0 [] .none .none .none .none none .none .none 0)), #[]⟩,
  ⟨(.type "code"), none, (.fields #[(.str xs41 (389)), (.str xs69 (390)), (.str xs1 (391)), (.int 140 0), (.int 1 0), (.int 0 0), (.int 0 0), (.int 3 0), (.ref (176)), (.bool true), (.int 181 0), (.ref (177)), .none, (.ref (178)), (.ref (179)), (.ref (180)), (.int 393 0), (.int 140 0), (.str xs1 (394))]), #[]⟩,
  ⟨(.type "function"), none, (.func (fnAt (stAt (subs (stAt top 2)) 21) xs69 3 [] .none .none .none (.str xs17 (194)) none (.ref (181)) .none 0)), #[]⟩,
  ⟨(.type "tuple"), none, (.seq #[] 0), #[]⟩,
  ⟨.none, none, (.fields #[]), #[]⟩,
  ⟨(.type "tuple"), none, (.seq #[(.str xs45 (399)), (.str xs70 (400))] 0), #[]⟩,
  ⟨(.type "tuple"), none, (.seq #[] 0), #[]⟩,
  ⟨.none, none, (.func (fnAt (stAt (subs (stAt top 2)) 22) xs71 0 [] .none .none .none .none none .none .none 0)), #[]⟩,
  ⟨(.type "code"), none, (.fields #[(.str xs42 (396)), (.str xs71 (397)), (.str xs1 (398)), (.int 143 0), (.int 2 0), (.int 0 0), (.int 0 0), (.int 3 0), (.ref (183)), (.bool true), (.int 181 0), (.ref (184)), .none, (.ref (185)), (.ref (186)), (.ref (187)), (.int 401 0), (.int 143 0), (.str xs1 (402))]), #[]⟩,
  ⟨(.type "function"), none, (.func (fnAt (stAt (subs (stAt top 2)) 22) xs71 3 [] .none .none .none (.str xs17 (194)) none (.ref (188)) .none 0)), #[]⟩,
  ⟨(.type "tuple"), none, (.seq #[] 0), #[]⟩,
  ⟨.none, none, (.fields #[]), #[]⟩,
  ⟨.none, none, (.func (fnAt (stAt (subs (stAt top 2)) 23) xs72 0 [] .none .none .none .none none .none .none 0)), #[]⟩,
  ⟨(.type "code"), none, (.fields #[(.str xs43 (404)), (.str xs72 (405)), (.str xs1 (406)), (.int 148 0), (.int 2 0), (.int 0 0), (.int 0 0), (.int 3 0), (.ref (190)), (.bool true), (.int 181 0), (.ref (191)), .none, .none, .none, (.ref (192)), (.int 407 0), (.int 148 0), (.str xs1 (408))]), #[]⟩,
  ⟨(.type "function"), none, (.func (fnAt (stAt (subs (stAt top 2)) 23) xs72 3 [] .none .none .none (.str xs17 (194)) none (.ref (193)) .none 0)), #[]⟩,
  ⟨(.type "tuple"), none, (.seq #[(.str (⟨#[98, 114, 97]⟩ : Str) (410)), (.str (⟨#[99, 117, 114, 114, 101, 110, 116]⟩ : Str) (411)), (.str xs73 (412)), (.str xs74 (413)), (.str (⟨#[108, 105, 109, 105, 116]⟩ : Str) (414)), (.str xs75 (415))] 0), #[]⟩,
  ⟨(.type "dict"), none, (.dict #[⟨PyData.keyHash P xs16, (.str xs16 (203)), (.str xs17 (194))⟩, ⟨PyData.keyHash P xs19, (.str xs19 (207)), (.int 5 (206))⟩, ⟨PyData.keyHash P xs20, (.str xs20 (214)), (.ref (35))⟩, ⟨PyData.keyHash P xs21, (.str xs21 (222)), (.ref (42))⟩, ⟨PyData.keyHash P xs22, (.str xs22 (229)), (.ref (49))⟩, ⟨PyData.keyHash P xs23, (.str xs23 (237)), (.ref (56))⟩, ⟨PyData.keyHash P xs24, (.str xs24 (245)), (.ref (63))⟩, ⟨PyData.keyHash P xs25, (.str xs25 (253)), (.ref (70))⟩, ⟨PyData.keyHash P xs26, (.str xs26 (261)), (.ref (77))⟩, ⟨PyData.keyHash P xs27, (.str xs27 (269)), (.ref (84))⟩, ⟨PyData.keyHash P xs28, (.str xs28 (277)), (.ref (91))⟩, ⟨PyData.keyHash P xs29, (.str xs29 (285)), (.ref (98))⟩, ⟨PyData.keyHash P xs30, (.str xs30 (293)), (.ref (105))⟩, ⟨PyData.keyHash P xs31, (.str xs31 (301)), (.ref (112))⟩, ⟨PyData.keyHash P xs32, (.str xs32 (309)), (.ref (119))⟩, ⟨PyData.keyHash P xs33, (.str xs33 (317)), (.ref (126))⟩, ⟨PyData.keyHash P xs34, (.str xs34 (325)), (.ref (133))⟩, ⟨PyData.keyHash P xs35, (.str xs35 (345)), (.ref (140))⟩, ⟨PyData.keyHash P xs36, (.str xs36 (356)), (.ref (147))⟩, ⟨PyData.keyHash P xs37, (.str xs37 (364)), (.ref (154))⟩, ⟨PyData.keyHash P xs38, (.str xs38 (371)), (.ref (161))⟩, ⟨PyData.keyHash P xs39, (.str xs39 (381)), (.ref (168))⟩, ⟨PyData.keyHash P xs40, (.str xs40 (388)), (.ref (175))⟩, ⟨PyData.keyHash P xs41, (.str xs41 (395)), (.ref (182))⟩, ⟨PyData.keyHash P xs42, (.str xs42 (403)), (.ref (189))⟩, ⟨PyData.keyHash P xs43, (.str xs43 (409)), (.ref (194))⟩, ⟨PyData.keyHash P xs44, (.str xs44 (416)), (.ref (195))⟩, ⟨PyData.keyHash P xs76, (.str xs76 (418)), (.ref (198))⟩, ⟨PyData.keyHash P xs77, (.str xs77 (420)), (.ref (199))⟩, ⟨PyData.keyHash P xs5, (.str xs5 (421)), .none⟩] 4), #[]⟩,
  ⟨(.type "type"), none, (.cls { name := xs14, bases := [(.type "object")], mro := [(.ref (197)), (.type "object")], ns := 196, qualname := xs14, hasDict := true, slotNames := [], subclasses := [], abstract := false, collection := none, hasDel := false }), #[none, none, (some (.str xs14 (196))), (some (.str xs14 (204))), (some (.builtin "object.__new__")), (some (.bool true))]⟩,
  ⟨(.type "getset_descriptor"), none, (.fields #[(.str xs76 (417)), (.ref (197)), (.builtin "function.__dict__"), (.builtin "function.__dict__#set")]), #[]⟩,
  ⟨(.type "getset_descriptor"), none, (.fields #[(.str xs77 (419)), (.ref (197)), (.builtin "ExceptionGroup.__weakref__"), .none]), #[]⟩,
  ⟨(.type "super"), none, (.fields #[(.ref (197)), (.ref (197)), (.ref (197))]), #[]⟩,
  ⟨(.type "builtin_function_or_method"), none, (.fields #[(.builtin "object.__init_subclass__"), (.ref (197))]), #[]⟩,
  ⟨(.type "tuple"), none, (.seq #[] 0), #[]⟩,
  ⟨(.type "builtin_function_or_method"), none, (.fields #[(.builtin "type.__prepare__"), (.type "type")]), #[]⟩,
  ⟨(.type "dict"), none, (.dict #[⟨PyData.keyHash P xs16, (.str xs16 (433)), (.str xs78 (424))⟩, ⟨PyData.keyHash P xs18, (.str xs18 (435)), (.str xs15 (434))⟩, ⟨PyData.keyHash P xs19, (.str xs19 (437)), (.int 151 (436))⟩, ⟨PyData.keyHash P xs20, (.str xs20 (447)), (.ref (215))⟩, ⟨PyData.keyHash P xs44, (.str xs44 (451)), (.ref (216))⟩] 5), #[]⟩,
  ⟨(.type "tuple"), none, (.seq #[] 0), #[]⟩,
  ⟨.none, none, (.fields #[(.int 153 0), (.int 4 0), (.ref (214))]), #[]⟩,
  ⟨(.type "code"), none, (.fields #[(.str xs15 (428)), (.str xs15 (429)), (.str xs1 (430)), (.int 151 0), (.int 0 0), (.int 0 0), (.int 0 0), (.int 0 0), (.ref (205)), (.bool false), (.int 181 0), (.ref (206)), .none, .none, .none, .none, (.int 431 0), (.int 151 0), (.str xs1 (432))]), #[]⟩,
  ⟨(.type "frame"), none, .plain, #[(some (.ref (207))), (some (.ref (3))), (some (.ref (204))), none, (some (.str xs78 (424))), none, (some (.ref (0)))]⟩,
  ⟨(.type "tuple"), none, (.seq #[] 0), #[]⟩,
  ⟨.none, none, (.fields #[]), #[]⟩,
  ⟨(.type "tuple"), none, (.seq #[(.str xs45 (441)), (.str (⟨#[115]⟩ : Str) (442)), (.str xs79 (443)), (.str xs80 (444))] 0), #[]⟩,
  ⟨(.type "tuple"), none, (.seq #[] 0), #[]⟩,
  ⟨.none, none, (.func (fnAt (stAt (subs (stAt top 4)) 0) xs81 0 [] .none .none .none .none none .none .none 0)), #[]⟩,
  ⟨(.type "code"), none, (.fields #[(.str xs20 (438)), (.str xs81 (439)), (.str xs1 (440)), (.int 153 0), (.int 4 0), (.int 0 0), (.int 0 0), (.int 3 0), (.ref (209)), (.bool true), (.int 181 0), (.ref (210)), .none, (.ref (211)), (.ref (212)), (.ref (213)), (.int 445 0), (.int 153 0), (.str xs1 (446))]), #[]⟩,
  ⟨(.type "function"), none, (.func (fnAt (stAt (subs (stAt top 4)) 0) xs81 3 [] .none .none .none (.str xs78 (424)) none (.ref (214)) .none 0)), #[]⟩,
  ⟨(.type "tuple"), none, (.seq #[(.str xs80 (448)), (.str (⟨#[115]⟩ : Str) (449)), (.str xs79 (450))] 0), #[]⟩,
  ⟨(.type "dict"), none, (.dict #[⟨PyData.keyHash P xs16, (.str xs16 (433)), (.str xs78 (424))⟩, ⟨PyData.keyHash P xs19, (.str xs19 (437)), (.int 151 (436))⟩, ⟨PyData.keyHash P xs20, (.str xs20 (447)), (.ref (215))⟩, ⟨PyData.keyHash P xs44, (.str xs44 (451)), (.ref (216))⟩, ⟨PyData.keyHash P xs76, (.str xs76 (453)), (.ref (219))⟩, ⟨PyData.keyHash P xs77, (.str xs77 (455)), (.ref (220))⟩, ⟨PyData.keyHash P xs5, (.str xs5 (456)), .none⟩] 4), #[]⟩,
  ⟨(.type "type"), none, (.cls { name := xs15, bases := [(.type "object")], mro := [(.ref (218)), (.type "object")], ns := 217, qualname := xs15, hasDict := true, slotNames := [], subclasses := [], abstract := false, collection := none, hasDel := false }), #[none, none, (some (.str xs15 (426))), (some (.str xs15 (434))), (some (.builtin "object.__new__")), (some (.bool true))]⟩,
  ⟨(.type "getset_descriptor"), none, (.fields #[(.str xs76 (452)), (.ref (218)), (.builtin "function.__dict__"), (.builtin "function.__dict__#set")]), #[]⟩,
  ⟨(.type "getset_descriptor"), none, (.fields #[(.str xs77 (454)), (.ref (218)), (.builtin "ExceptionGroup.__weakref__"), .none]), #[]⟩,
  ⟨(.type "super"), none, (.fields #[(.ref (218)), (.ref (218)), (.ref (218))]), #[]⟩,
  ⟨(.type "builtin_function_or_method"), none, (.fields #[(.builtin "object.__init_subclass__"), (.ref (218))]), #[]⟩]
noncomputable def modsB (P : Params) : List (Addr × Obj) := [(12, ⟨.none, none, (.fields #[(.int 1 0), (.int 0 0), (.ref (20)), (.int 5 0), (.int 0 0), (.ref (27)), (.int 151 0), (.int 0 0), (.ref (207)), (.int 158 0), (.int 0 0), (.ref (228))]), #[]⟩)]
noncomputable def newsB (P : Params) : List Obj := [
  ⟨(.type "tuple"), none, (.seq #[(.ref (197))] 0), #[]⟩,
  ⟨(.type "builtin_function_or_method"), none, (.fields #[(.builtin "type.__prepare__"), (.type "type")]), #[]⟩,
  ⟨(.type "dict"), none, (.dict #[⟨PyData.keyHash P xs16, (.str xs16 (468)), (.str xs4 (459))⟩, ⟨PyData.keyHash P xs18, (.str xs18 (470)), (.str xs82 (469))⟩, ⟨PyData.keyHash P xs19, (.str xs19 (472)), (.int 158 (471))⟩] 3), #[]⟩,
  ⟨(.type "tuple"), none, (.seq #[] 0), #[]⟩,
  ⟨.none, none, (.fields #[]), #[]⟩,
  ⟨(.type "code"), none, (.fields #[(.str xs82 (463)), (.str xs82 (464)), (.str xs1 (465)), (.int 158 0), (.int 0 0), (.int 0 0), (.int 0 0), (.int 0 0), (.ref (226)), (.bool false), (.int 181 0), (.ref (227)), .none, .none, .none, .none, (.int 466 0), (.int 158 0), (.str xs1 (467))]), #[]⟩,
  ⟨(.type "frame"), none, .plain, #[(some (.ref (228))), (some (.ref (3))), (some (.ref (225))), none, (some (.str xs4 (459))), none, (some (.ref (0)))]⟩]
noncomputable def modsV (P : Params) : List (Addr × Obj) := [(225, ⟨(.type "dict"), none, (.dict #[⟨PyData.keyHash P xs16, (.str xs16 (468)), (.str xs4 (459))⟩, ⟨PyData.keyHash P xs18, (.str xs18 (470)), (.str xs82 (469))⟩, ⟨PyData.keyHash P xs19, (.str xs19 (472)), (.int 158 (471))⟩, ⟨PyData.keyHash P xs83, (.str xs83 (497)), (.ref (230))⟩] 4), #[]⟩)]
noncomputable def newsV (P : Params) : List Obj := [
]
noncomputable def modsD (P : Params) : List (Addr × Obj) := [(225, ⟨(.type "dict"), none, (.dict #[⟨PyData.keyHash P xs16, (.str xs16 (468)), (.str xs4 (459))⟩, ⟨PyData.keyHash P xs18, (.str xs18 (470)), (.str xs82 (469))⟩, ⟨PyData.keyHash P xs19, (.str xs19 (472)), (.int 158 (471))⟩, ⟨PyData.keyHash P xs83, (.str xs83 (497)), (.ref (230))⟩, ⟨PyData.keyHash P xs84, (.str xs84 (499)), (.int 0 (498))⟩, ⟨PyData.keyHash P xs85, (.str xs85 (507)), (.ref (237))⟩, ⟨PyData.keyHash P xs86, (.str xs86 (516)), (.ref (244))⟩, ⟨PyData.keyHash P xs87, (.str xs87 (524)), (.ref (251))⟩, ⟨PyData.keyHash P xs88, (.str xs88 (532)), (.ref (258))⟩, ⟨PyData.keyHash P xs89, (.str xs89 (539)), (.ref (265))⟩, ⟨PyData.keyHash P xs90, (.str xs90 (554)), (.ref (272))⟩] 11), #[]⟩), (227, ⟨.none, none, (.fields #[(.int 162 0), (.int 4 0), (.ref (236)), (.int 176 0), (.int 4 0), (.ref (243)), (.int 198 0), (.int 4 0), (.ref (250)), (.int 207 0), (.int 4 0), (.ref (257)), (.int 216 0), (.int 4 0), (.ref (264)), (.int 224 0), (.int 4 0), (.ref (271))]), #[]⟩)]
noncomputable def newsD (P : Params) : List Obj := [
  ⟨(.type "tuple"), none, (.seq #[] 0), #[]⟩,
  ⟨.none, none, (.fields #[]), #[]⟩,
  ⟨(.type "tuple"), none, (.seq #[(.str xs45 (503)), (.str (⟨#[118, 95, 50]⟩ : Str) (504))] 0), #[]⟩,
  ⟨(.type "tuple"), none, (.seq #[] 0), #[]⟩,
  ⟨.none, none, (.func (fnAt (stAt (subs (stAt top 6)) 2) xs91 0 [] .none .none .none .none none .none .none 0)), #[]⟩,
  ⟨(.type "code"), none, (.fields #[(.str xs85 (500)), (.str xs91 (501)), (.str xs1 (502)), (.int 162 0), (.int 1 0), (.int 0 0), (.int 0 0), (.int 3 0), (.ref (231)), (.bool true), (.int 181 0), (.ref (232)), .none, (.ref (233)), (.ref (234)), (.ref (235)), (.int 505 0), (.int 162 0), (.str xs1 (506))]), #[]⟩,
  ⟨(.type "function"), none, (.func (fnAt (stAt (subs (stAt top 6)) 2) xs91 3 [] .none .none .none (.str xs4 (459)) none (.ref (236)) .none 0)), #[]⟩,
  ⟨(.type "tuple"), none, (.seq #[] 0), #[]⟩,
  ⟨.none, none, (.fields #[]), #[]⟩,
  ⟨(.type "tuple"), none, (.seq #[(.str xs45 (511)), (.str (⟨#[118, 95, 49]⟩ : Str) (512)), (.str (⟨#[118, 95, 51]⟩ : Str) (513))] 0), #[]⟩,
  ⟨(.type "tuple"), none, (.seq #[] 0), #[]⟩,
  ⟨.none, none, (.func (fnAt (stAt (subs (stAt top 6)) 3) xs92 0 [] .none .none .none .none none .none .none 0)), #[]⟩,
  ⟨(.type "code"), none, (.fields #[(.str xs86 (508)), (.str xs92 (509)), (.str xs1 (510)), (.int 176 0), (.int 1 0), (.int 0 0), (.int 0 0), (.int 3 0), (.ref (238)), (.bool true), (.int 181 0), (.ref (239)), .none, (.ref (240)), (.ref (241)), (.ref (242)), (.int 514 0), (.int 176 0), (.str xs1 (515))]), #[]⟩,
  ⟨(.type "function"), none, (.func (fnAt (stAt (subs (stAt top 6)) 3) xs92 3 [] .none .none .none (.str xs4 (459)) none (.ref (243)) .none 0)), #[]⟩,
  ⟨(.type "tuple"), none, (.seq #[] 0), #[]⟩,
  ⟨.none, none, (.fields #[]), #[]⟩,
  ⟨(.type "tuple"), none, (.seq #[(.str xs45 (520)), (.str xs93 (521))] 0), #[]⟩,
  ⟨(.type "tuple"), none, (.seq #[] 0), #[]⟩,
  ⟨.none, none, (.func (fnAt (stAt (subs (stAt top 6)) 4) xs94 0 [] .none .none .none .none none .none .none 0)), #[]⟩,
  ⟨(.type "code"), none, (.fields #[(.str xs87 (517)), (.str xs94 (518)), (.str xs1 (519)), (.int 198 0), (.int 1 0), (.int 0 0), (.int 0 0), (.int 3 0), (.ref (245)), (.bool true), (.int 181 0), (.ref (246)), .none, (.ref (247)), (.ref (248)), (.ref (249)), (.int 522 0), (.int 198 0), (.str xs1 (523))]), #[]⟩,
  ⟨(.type "function"), none, (.func (fnAt (stAt (subs (stAt top 6)) 4) xs94 3 [] .none .none .none (.str xs4 (459)) none (.ref (250)) .none 0)), #[]⟩,
  ⟨(.type "tuple"), none, (.seq #[] 0), #[]⟩,
  ⟨.none, none, (.fields #[]), #[]⟩,
  ⟨(.type "tuple"), none, (.seq #[(.str xs45 (528)), (.str xs93 (529))] 0), #[]⟩,
  ⟨(.type "tuple"), none, (.seq #[] 0), #[]⟩,
  ⟨.none, none, (.func (fnAt (stAt (subs (stAt top 6)) 5) xs95 0 [] .none .none .none .none none .none .none 0)), #[]⟩,
  ⟨(.type "code"), none, (.fields #[(.str xs88 (525)), (.str xs95 (526)), (.str xs1 (527)), (.int 207 0), (.int 1 0), (.int 0 0), (.int 0 0), (.int 3 0), (.ref (252)), (.bool true), (.int 181 0), (.ref (253)), .none, (.ref (254)), (.ref (255)), (.ref (256)), (.int 530 0), (.int 207 0), (.str xs1 (531))]), #[]⟩,
  ⟨(.type "function"), none, (.func (fnAt (stAt (subs (stAt top 6)) 5) xs95 3 [] .none .none .none (.str xs4 (459)) none (.ref (257)) .none 0)), #[]⟩,
  ⟨(.type "tuple"), none, (.seq #[] 0), #[]⟩,
  ⟨.none, none, (.fields #[]), #[]⟩,
  ⟨(.type "tuple"), none, (.seq #[(.str xs45 (536))] 0), #[]⟩,
  ⟨(.type "tuple"), none, (.seq #[] 0), #[]⟩,
  ⟨.none, none, (.func (fnAt (stAt (subs (stAt top 6)) 6) xs96 0 [] .none .none .none .none none .none .none 0)), #[]⟩,
  ⟨(.type "code"), none, (.fields #[(.str xs89 (533)), (.str xs96 (534)), (.str xs1 (535)), (.int 216 0), (.int 1 0), (.int 0 0), (.int 0 0), (.int 3 0), (.ref (259)), (.bool true), (.int 181 0), (.ref (260)), .none, (.ref (261)), (.ref (262)), (.ref (263)), (.int 537 0), (.int 216 0), (.str xs1 (538))]), #[]⟩,
  ⟨(.type "function"), none, (.func (fnAt (stAt (subs (stAt top 6)) 6) xs96 3 [] .none .none .none (.str xs4 (459)) none (.ref (264)) .none 0)), #[]⟩,
  ⟨(.type "tuple"), none, (.seq #[] 0), #[]⟩,
  ⟨.none, none, (.fields #[]), #[]⟩,
  ⟨(.type "tuple"), none, (.seq #[(.str xs45 (543)), (.str (⟨#[118, 95, 49]⟩ : Str) (544)), (.str (⟨#[118, 95, 50]⟩ : Str) (545)), (.str (⟨#[118, 95, 51]⟩ : Str) (546)), (.str (⟨#[118, 95, 52]⟩ : Str) (547)), (.str (⟨#[118, 95, 53]⟩ : Str) (548)), (.str (⟨#[118, 95, 54]⟩ : Str) (549)), (.str (⟨#[118, 95, 55]⟩ : Str) (550)), (.str (⟨#[118, 95, 56]⟩ : Str) (551))] 0), #[]⟩,
  ⟨(.type "tuple"), none, (.seq #[] 0), #[]⟩,
  ⟨.none, none, (.func (fnAt (stAt (subs (stAt top 6)) 7) xs97 0 [] .none .none .none .none none .none .none 0)), #[]⟩,
  ⟨(.type "code"), none, (.fields #[(.str xs90 (540)), (.str xs97 (541)), (.str xs1 (542)), (.int 224 0), (.int 1 0), (.int 0 0), (.int 0 0), (.int 3 0), (.ref (266)), (.bool true), (.int 181 0), (.ref (267)), .none, (.ref (268)), (.ref (269)), (.ref (270)), (.int 552 0), (.int 224 0), (.str xs1 (553))]), #[]⟩,
  ⟨(.type "function"), none, (.func (fnAt (stAt (subs (stAt top 6)) 7) xs97 3 [] .none .none .none (.str xs4 (459)) none (.ref (271)) .none 0)), #[]⟩]
noncomputable def mods0 (P : Params) : List (Addr × Obj) := [(225, ⟨(.type "dict"), none, (.dict #[⟨PyData.keyHash P xs16, (.str xs16 (468)), (.str xs4 (459))⟩, ⟨PyData.keyHash P xs18, (.str xs18 (470)), (.str xs82 (469))⟩, ⟨PyData.keyHash P xs19, (.str xs19 (472)), (.int 158 (471))⟩, ⟨PyData.keyHash P xs83, (.str xs83 (497)), (.ref (230))⟩, ⟨PyData.keyHash P xs84, (.str xs84 (499)), (.int 0 (498))⟩, ⟨PyData.keyHash P xs85, (.str xs85 (507)), (.ref (237))⟩, ⟨PyData.keyHash P xs86, (.str xs86 (516)), (.ref (244))⟩, ⟨PyData.keyHash P xs87, (.str xs87 (524)), (.ref (251))⟩, ⟨PyData.keyHash P xs88, (.str xs88 (532)), (.ref (258))⟩, ⟨PyData.keyHash P xs89, (.str xs89 (539)), (.ref (265))⟩, ⟨PyData.keyHash P xs90, (.str xs90 (554)), (.ref (272))⟩, ⟨PyData.keyHash P (⟨#[97, 95, 48]⟩ : Str), (.str (⟨#[97, 95, 48]⟩ : Str) (3286)), (.ref (852))⟩] 12), #[]⟩)]
noncomputable def news0 (P : Params) : List Obj := [
]
noncomputable def mods1 (P : Params) : List (Addr × Obj) := [(225, ⟨(.type "dict"), none, (.dict #[⟨PyData.keyHash P xs16, (.str xs16 (468)), (.str xs4 (459))⟩, ⟨PyData.keyHash P xs18, (.str xs18 (470)), (.str xs82 (469))⟩, ⟨PyData.keyHash P xs19, (.str xs19 (472)), (.int 158 (471))⟩, ⟨PyData.keyHash P xs83, (.str xs83 (497)), (.ref (230))⟩, ⟨PyData.keyHash P xs84, (.str xs84 (499)), (.int 0 (498))⟩, ⟨PyData.keyHash P xs85, (.str xs85 (507)), (.ref (237))⟩, ⟨PyData.keyHash P xs86, (.str xs86 (516)), (.ref (244))⟩, ⟨PyData.keyHash P xs87, (.str xs87 (524)), (.ref (251))⟩, ⟨PyData.keyHash P xs88, (.str xs88 (532)), (.ref (258))⟩, ⟨PyData.keyHash P xs89, (.str xs89 (539)), (.ref (265))⟩, ⟨PyData.keyHash P xs90, (.str xs90 (554)), (.ref (272))⟩, ⟨PyData.keyHash P (⟨#[97, 95, 48]⟩ : Str), (.str (⟨#[97, 95, 48]⟩ : Str) (3286)), (.ref (852))⟩, ⟨PyData.keyHash P (⟨#[97, 95, 49]⟩ : Str), (.str (⟨#[97, 95, 49]⟩ : Str) (4194)), (.ref (1039))⟩] 13), #[]⟩)]
noncomputable def news1 (P : Params) : List Obj := [
]
noncomputable def mods2 (P : Params) : List (Addr × Obj) := [(225, ⟨(.type "dict"), none, (.dict #[⟨PyData.keyHash P xs16, (.str xs16 (468)), (.str xs4 (459))⟩, ⟨PyData.keyHash P xs18, (.str xs18 (470)), (.str xs82 (469))⟩, ⟨PyData.keyHash P xs19, (.str xs19 (472)), (.int 158 (471))⟩, ⟨PyData.keyHash P xs83, (.str xs83 (497)), (.ref (230))⟩, ⟨PyData.keyHash P xs84, (.str xs84 (499)), (.int 0 (498))⟩, ⟨PyData.keyHash P xs85, (.str xs85 (507)), (.ref (237))⟩, ⟨PyData.keyHash P xs86, (.str xs86 (516)), (.ref (244))⟩, ⟨PyData.keyHash P xs87, (.str xs87 (524)), (.ref (251))⟩, ⟨PyData.keyHash P xs88, (.str xs88 (532)), (.ref (258))⟩, ⟨PyData.keyHash P xs89, (.str xs89 (539)), (.ref (265))⟩, ⟨PyData.keyHash P xs90, (.str xs90 (554)), (.ref (272))⟩, ⟨PyData.keyHash P (⟨#[97, 95, 48]⟩ : Str), (.str (⟨#[97, 95, 48]⟩ : Str) (3286)), (.ref (852))⟩, ⟨PyData.keyHash P (⟨#[97, 95, 49]⟩ : Str), (.str (⟨#[97, 95, 49]⟩ : Str) (4194)), (.ref (1039))⟩, ⟨PyData.keyHash P (⟨#[97, 95, 50]⟩ : Str), (.str (⟨#[97, 95, 50]⟩ : Str) (4349)), (.ref (1073))⟩] 14), #[]⟩)]
noncomputable def news2 (P : Params) : List Obj := [
]
noncomputable def modsT (P : Params) : List (Addr × Obj) := [(225, ⟨(.type "dict"), none, (.dict #[⟨PyData.keyHash P xs16, (.str xs16 (468)), (.str xs4 (459))⟩, ⟨PyData.keyHash P xs18, (.str xs18 (470)), (.str xs82 (469))⟩, ⟨PyData.keyHash P xs19, (.str xs19 (472)), (.int 158 (471))⟩, ⟨PyData.keyHash P xs83, (.str xs83 (497)), (.ref (230))⟩, ⟨PyData.keyHash P xs84, (.str xs84 (499)), (.int 0 (498))⟩, ⟨PyData.keyHash P xs85, (.str xs85 (507)), (.ref (237))⟩, ⟨PyData.keyHash P xs86, (.str xs86 (516)), (.ref (244))⟩, ⟨PyData.keyHash P xs87, (.str xs87 (524)), (.ref (251))⟩, ⟨PyData.keyHash P xs88, (.str xs88 (532)), (.ref (258))⟩, ⟨PyData.keyHash P xs89, (.str xs89 (539)), (.ref (265))⟩, ⟨PyData.keyHash P xs90, (.str xs90 (554)), (.ref (272))⟩, ⟨PyData.keyHash P (⟨#[97, 95, 48]⟩ : Str), (.str (⟨#[97, 95, 48]⟩ : Str) (3286)), (.ref (852))⟩, ⟨PyData.keyHash P (⟨#[97, 95, 49]⟩ : Str), (.str (⟨#[97, 95, 49]⟩ : Str) (4194)), (.ref (1039))⟩, ⟨PyData.keyHash P (⟨#[97, 95, 50]⟩ : Str), (.str (⟨#[97, 95, 50]⟩ : Str) (4349)), (.ref (1073))⟩, ⟨PyData.keyHash P xs98, (.str xs98 (4358)), (.ref (1074))⟩] 15), #[]⟩)]
noncomputable def newsT (P : Params) : List Obj := [
  ⟨(.type "tuple"), none, (.seq #[(.str (⟨#[97, 105, 116, 279]⟩ : Str) (4350)), (.str (⟨#[117, 111, 116, 279]⟩ : Str) (4351)), (.str (⟨#[279, 106, 105, 109, 97, 115]⟩ : Str) (4352)), (.str (⟨#[101, 115, 121, 115]⟩ : Str) (4353)), (.str (⟨#[97, 115, 121, 115]⟩ : Str) (4354)), (.str (⟨#[97, 118, 105, 109, 97, 115]⟩ : Str) (4355)), (.str (⟨#[111, 106, 105, 109, 97, 115]⟩ : Str) (4356)), (.str (⟨#[111, 107, 97, 116, 279]⟩ : Str) (4357))] 0), #[]⟩]
noncomputable def mods3 (P : Params) : List (Addr × Obj) := [(225, ⟨(.type "dict"), none, (.dict #[⟨PyData.keyHash P xs16, (.str xs16 (468)), (.str xs4 (459))⟩, ⟨PyData.keyHash P xs18, (.str xs18 (470)), (.str xs82 (469))⟩, ⟨PyData.keyHash P xs19, (.str xs19 (472)), (.int 158 (471))⟩, ⟨PyData.keyHash P xs83, (.str xs83 (497)), (.ref (230))⟩, ⟨PyData.keyHash P xs84, (.str xs84 (499)), (.int 0 (498))⟩, ⟨PyData.keyHash P xs85, (.str xs85 (507)), (.ref (237))⟩, ⟨PyData.keyHash P xs86, (.str xs86 (516)), (.ref (244))⟩, ⟨PyData.keyHash P xs87, (.str xs87 (524)), (.ref (251))⟩, ⟨PyData.keyHash P xs88, (.str xs88 (532)), (.ref (258))⟩, ⟨PyData.keyHash P xs89, (.str xs89 (539)), (.ref (265))⟩, ⟨PyData.keyHash P xs90, (.str xs90 (554)), (.ref (272))⟩, ⟨PyData.keyHash P (⟨#[97, 95, 48]⟩ : Str), (.str (⟨#[97, 95, 48]⟩ : Str) (3286)), (.ref (852))⟩, ⟨PyData.keyHash P (⟨#[97, 95, 49]⟩ : Str), (.str (⟨#[97, 95, 49]⟩ : Str) (4194)), (.ref (1039))⟩, ⟨PyData.keyHash P (⟨#[97, 95, 50]⟩ : Str), (.str (⟨#[97, 95, 50]⟩ : Str) (4349)), (.ref (1073))⟩, ⟨PyData.keyHash P xs98, (.str xs98 (4358)), (.ref (1074))⟩, ⟨PyData.keyHash P (⟨#[97, 95, 51]⟩ : Str), (.str (⟨#[97, 95, 51]⟩ : Str) (4387)), (.ref (1081))⟩] 16), #[]⟩)]
noncomputable def news3 (P : Params) : List Obj := [
]
noncomputable def modsU (P : Params) : List (Addr × Obj) := [(225, ⟨(.type "dict"), none, (.dict #[⟨PyData.keyHash P xs16, (.str xs16 (468)), (.str xs4 (459))⟩, ⟨PyData.keyHash P xs18, (.str xs18 (470)), (.str xs82 (469))⟩, ⟨PyData.keyHash P xs19, (.str xs19 (472)), (.int 158 (471))⟩, ⟨PyData.keyHash P xs83, (.str xs83 (497)), (.ref (230))⟩, ⟨PyData.keyHash P xs84, (.str xs84 (499)), (.int 0 (498))⟩, ⟨PyData.keyHash P xs85, (.str xs85 (507)), (.ref (237))⟩, ⟨PyData.keyHash P xs86, (.str xs86 (516)), (.ref (244))⟩, ⟨PyData.keyHash P xs87, (.str xs87 (524)), (.ref (251))⟩, ⟨PyData.keyHash P xs88, (.str xs88 (532)), (.ref (258))⟩, ⟨PyData.keyHash P xs89, (.str xs89 (539)), (.ref (265))⟩, ⟨PyData.keyHash P xs90, (.str xs90 (554)), (.ref (272))⟩, ⟨PyData.keyHash P (⟨#[97, 95, 48]⟩ : Str), (.str (⟨#[97, 95, 48]⟩ : Str) (3286)), (.ref (852))⟩, ⟨PyData.keyHash P (⟨#[97, 95, 49]⟩ : Str), (.str (⟨#[97, 95, 49]⟩ : Str) (4194)), (.ref (1039))⟩, ⟨PyData.keyHash P (⟨#[97, 95, 50]⟩ : Str), (.str (⟨#[97, 95, 50]⟩ : Str) (4349)), (.ref (1073))⟩, ⟨PyData.keyHash P xs98, (.str xs98 (4358)), (.ref (1074))⟩, ⟨PyData.keyHash P (⟨#[97, 95, 51]⟩ : Str), (.str (⟨#[97, 95, 51]⟩ : Str) (4387)), (.ref (1081))⟩, ⟨PyData.keyHash P xs99, (.str xs99 (4390)), (.ref (1082))⟩] 17), #[]⟩)]
noncomputable def newsU (P : Params) : List Obj := [
  ⟨(.type "tuple"), none, (.seq #[(.str (⟨#[116]⟩ : Str) (4388)), (.str (⟨#[100]⟩ : Str) (4389))] 0), #[]⟩]
noncomputable def modsG (P : Params) : List (Addr × Obj) := [(3, ⟨(.type "dict"), none, (.dict #[⟨PyData.keyHash P xs3, (.str xs3 (165)), (.str xs4 (459))⟩, ⟨PyData.keyHash P xs5, (.str xs5 (166)), .none⟩, ⟨PyData.keyHash P xs6, (.str xs6 (167)), .none⟩, ⟨PyData.keyHash P xs7, (.str xs7 (168)), (.builtin "__main__.__loader__#opaque")⟩, ⟨PyData.keyHash P xs8, (.str xs8 (169)), .none⟩, ⟨PyData.keyHash P xs9, (.str xs9 (170)), (.ref (6))⟩, ⟨PyData.keyHash P xs10, (.str xs10 (171)), (.ref (4))⟩, ⟨PyData.keyHash P xs11, (.str xs11 (173)), (.str xs1 (172))⟩, ⟨PyData.keyHash P xs12, (.str xs12 (174)), .none⟩, ⟨PyData.keyHash P xs13, (.str xs13 (193)), (.ref (21))⟩, ⟨PyData.keyHash P xs14, (.str xs14 (423)), (.ref (197))⟩, ⟨PyData.keyHash P xs15, (.str xs15 (458)), (.ref (218))⟩, ⟨PyData.keyHash P xs82, (.str xs82 (4399)), (.ref (1085))⟩] 13), #[]⟩), (197, ⟨(.type "type"), none, (.cls { name := xs14, bases := [(.type "object")], mro := [(.ref (197)), (.type "object")], ns := 196, qualname := xs14, hasDict := true, slotNames := [], subclasses := [(.ref (1085))], abstract := false, collection := none, hasDel := false }), #[none, none, (some (.str xs14 (196))), (some (.str xs14 (204))), (some (.builtin "object.__new__")), (some (.bool true))]⟩), (225, ⟨(.type "dict"), none, (.dict #[⟨PyData.keyHash P xs16, (.str xs16 (468)), (.str xs4 (459))⟩, ⟨PyData.keyHash P xs18, (.str xs18 (470)), (.str xs82 (469))⟩, ⟨PyData.keyHash P xs19, (.str xs19 (472)), (.int 158 (471))⟩, ⟨PyData.keyHash P xs83, (.str xs83 (497)), (.ref (230))⟩, ⟨PyData.keyHash P xs84, (.str xs84 (499)), (.int 0 (498))⟩, ⟨PyData.keyHash P xs85, (.str xs85 (507)), (.ref (237))⟩, ⟨PyData.keyHash P xs86, (.str xs86 (516)), (.ref (244))⟩, ⟨PyData.keyHash P xs87, (.str xs87 (524)), (.ref (251))⟩, ⟨PyData.keyHash P xs88, (.str xs88 (532)), (.ref (258))⟩, ⟨PyData.keyHash P xs89, (.str xs89 (539)), (.ref (265))⟩, ⟨PyData.keyHash P xs90, (.str xs90 (554)), (.ref (272))⟩, ⟨PyData.keyHash P (⟨#[97, 95, 48]⟩ : Str), (.str (⟨#[97, 95, 48]⟩ : Str) (3286)), (.ref (852))⟩, ⟨PyData.keyHash P (⟨#[97, 95, 49]⟩ : Str), (.str (⟨#[97, 95, 49]⟩ : Str) (4194)), (.ref (1039))⟩, ⟨PyData.keyHash P (⟨#[97, 95, 50]⟩ : Str), (.str (⟨#[97, 95, 50]⟩ : Str) (4349)), (.ref (1073))⟩, ⟨PyData.keyHash P xs98, (.str xs98 (4358)), (.ref (1074))⟩, ⟨PyData.keyHash P (⟨#[97, 95, 51]⟩ : Str), (.str (⟨#[97, 95, 51]⟩ : Str) (4387)), (.ref (1081))⟩, ⟨PyData.keyHash P xs99, (.str xs99 (4390)), (.ref (1082))⟩, ⟨PyData.keyHash P xs44, (.str xs44 (4396)), (.ref (1083))⟩] 18), #[]⟩)]
noncomputable def newsG (P : Params) : List Obj := [
  ⟨(.type "tuple"), none, (.seq #[(.str xs84 (4391)), (.str (⟨#[98, 114, 97]⟩ : Str) (4392)), (.str xs73 (4393)), (.str xs74 (4394)), (.str xs75 (4395))] 0), #[]⟩,
  ⟨(.type "dict"), none, (.dict #[⟨PyData.keyHash P xs16, (.str xs16 (468)), (.str xs4 (459))⟩, ⟨PyData.keyHash P xs19, (.str xs19 (472)), (.int 158 (471))⟩, ⟨PyData.keyHash P xs83, (.str xs83 (497)), (.ref (230))⟩, ⟨PyData.keyHash P xs84, (.str xs84 (499)), (.int 0 (498))⟩, ⟨PyData.keyHash P xs85, (.str xs85 (507)), (.ref (237))⟩, ⟨PyData.keyHash P xs86, (.str xs86 (516)), (.ref (244))⟩, ⟨PyData.keyHash P xs87, (.str xs87 (524)), (.ref (251))⟩, ⟨PyData.keyHash P xs88, (.str xs88 (532)), (.ref (258))⟩, ⟨PyData.keyHash P xs89, (.str xs89 (539)), (.ref (265))⟩, ⟨PyData.keyHash P xs90, (.str xs90 (554)), (.ref (272))⟩, ⟨PyData.keyHash P (⟨#[97, 95, 48]⟩ : Str), (.str (⟨#[97, 95, 48]⟩ : Str) (3286)), (.ref (852))⟩, ⟨PyData.keyHash P (⟨#[97, 95, 49]⟩ : Str), (.str (⟨#[97, 95, 49]⟩ : Str) (4194)), (.ref (1039))⟩, ⟨PyData.keyHash P (⟨#[97, 95, 50]⟩ : Str), (.str (⟨#[97, 95, 50]⟩ : Str) (4349)), (.ref (1073))⟩, ⟨PyData.keyHash P xs98, (.str xs98 (4358)), (.ref (1074))⟩, ⟨PyData.keyHash P (⟨#[97, 95, 51]⟩ : Str), (.str (⟨#[97, 95, 51]⟩ : Str) (4387)), (.ref (1081))⟩, ⟨PyData.keyHash P xs99, (.str xs99 (4390)), (.ref (1082))⟩, ⟨PyData.keyHash P xs44, (.str xs44 (4396)), (.ref (1083))⟩, ⟨PyData.keyHash P xs5, (.str xs5 (4397)), .none⟩] 2), #[]⟩,
  ⟨(.type "type"), none, (.cls { name := xs82, bases := [(.ref (197))], mro := [(.ref (1085)), (.ref (197)), (.type "object")], ns := 1084, qualname := xs82, hasDict := true, slotNames := [], subclasses := [], abstract := false, collection := none, hasDel := false }), #[(some (.ref (223))), none, (some (.str xs82 (461))), (some (.str xs82 (469))), (some (.builtin "object.__new__")), (some (.bool true))]⟩,
  ⟨(.type "super"), none, (.fields #[(.ref (1085)), (.ref (1085)), (.ref (1085))]), #[]⟩,
  ⟨(.type "builtin_function_or_method"), none, (.fields #[(.builtin "object.__init_subclass__"), (.ref (1085))]), #[]⟩]
noncomputable def modsF (P : Params) : List (Addr × Obj) := [(2, ⟨.none, none, (.dict #[⟨PyData.keyHash P xs100, (.str xs100 (4416)), (.int 1097 0)⟩, ⟨PyData.keyHash P xs101, (.str xs101 (4417)), (.int 2 0)⟩, ⟨PyData.keyHash P xs102, (.str xs102 (4436)), (.int 1110 0)⟩] 3), #[]⟩), (3, ⟨(.type "dict"), none, (.dict #[⟨PyData.keyHash P xs3, (.str xs3 (165)), (.str xs103 (4440))⟩, ⟨PyData.keyHash P xs5, (.str xs5 (166)), .none⟩, ⟨PyData.keyHash P xs6, (.str xs6 (167)), .none⟩, ⟨PyData.keyHash P xs7, (.str xs7 (168)), (.builtin "__main__.__loader__#opaque")⟩, ⟨PyData.keyHash P xs8, (.str xs8 (169)), .none⟩, ⟨PyData.keyHash P xs9, (.str xs9 (170)), (.ref (6))⟩, ⟨PyData.keyHash P xs10, (.str xs10 (171)), (.ref (4))⟩, ⟨PyData.keyHash P xs11, (.str xs11 (173)), (.str xs1 (172))⟩, ⟨PyData.keyHash P xs12, (.str xs12 (174)), .none⟩, ⟨PyData.keyHash P xs13, (.str xs13 (193)), (.ref (21))⟩, ⟨PyData.keyHash P xs14, (.str xs14 (423)), (.ref (197))⟩, ⟨PyData.keyHash P xs15, (.str xs15 (458)), (.ref (218))⟩, ⟨PyData.keyHash P xs82, (.str xs82 (4399)), (.ref (1085))⟩, ⟨PyData.keyHash P xs104, (.str xs104 (4419)), (.ref (1097))⟩, ⟨PyData.keyHash P xs105, (.str xs105 (4439)), (.ref (1110))⟩, ⟨PyData.keyHash P xs106, (.str xs106 (4443)), (.str (⟨#[97, 261, 98, 99, 269, 100, 101, 281, 279, 102, 103, 104, 105, 303, 121, 106, 107, 108, 109, 110, 111, 112, 114, 115, 353, 116, 117, 371, 363, 118, 122, 382]⟩ : Str) (4442))⟩, ⟨PyData.keyHash P xs107, (.str xs107 (4445)), (.str (⟨#[97, 101, 105, 111, 117, 121, 261, 281, 279, 303, 363, 371]⟩ : Str) (4444))⟩, ⟨PyData.keyHash P xs108, (.str xs108 (4447)), (.str (⟨#[98, 99, 100, 102, 104, 122, 382, 353]⟩ : Str) (4446))⟩, ⟨PyData.keyHash P xs109, (.str xs109 (4453)), (.ref (1120))⟩, ⟨PyData.keyHash P xs110, (.str xs110 (4459)), (.ref (1127))⟩, ⟨PyData.keyHash P xs111, (.str xs111 (4465)), (.ref (1134))⟩, ⟨PyData.keyHash P xs112, (.str xs112 (4471)), (.ref (1141))⟩, ⟨PyData.keyHash P xs113, (.str xs113 (4477)), (.ref (1148))⟩, ⟨PyData.keyHash P xs114, (.str xs114 (4483)), (.ref (1155))⟩, ⟨PyData.keyHash P xs115, (.str xs115 (4489)), (.ref (1162))⟩, ⟨PyData.keyHash P xs116, (.str xs116 (4495)), (.ref (1169))⟩, ⟨PyData.keyHash P xs117, (.str xs117 (4503)), (.ref (1176))⟩, ⟨PyData.keyHash P xs118, (.str xs118 (4512)), (.ref (1183))⟩, ⟨PyData.keyHash P xs119, (.str xs119 (4519)), (.ref (1190))⟩, ⟨PyData.keyHash P xs120, (.str xs120 (4525)), (.ref (1195))⟩, ⟨PyData.keyHash P xs121, (.str xs121 (4540)), (.ref (1202))⟩] 31), #[]⟩), (12, ⟨.none, none, (.fields #[(.int 1 0), (.int 0 0), (.ref (20)), (.int 5 0), (.int 0 0), (.ref (27)), (.int 151 0), (.int 0 0), (.ref (207)), (.int 158 0), (.int 0 0), (.ref (228)), (.int 283 0), (.int 0 0), (.ref (1093)), (.int 285 0), (.int 0 0), (.ref (1106)), (.int 291 0), (.int 0 0), (.ref (1119)), (.int 293 0), (.int 0 0), (.ref (1126)), (.int 295 0), (.int 0 0), (.ref (1133)), (.int 297 0), (.int 0 0), (.ref (1140)), (.int 299 0), (.int 0 0), (.ref (1147)), (.int 301 0), (.int 0 0), (.ref (1154)), (.int 303 0), (.int 0 0), (.ref (1161)), (.int 305 0), (.int 0 0), (.ref (1168)), (.int 307 0), (.int 0 0), (.ref (1175)), (.int 311 0), (.int 0 0), (.ref (1182)), (.int 316 0), (.int 0 0), (.ref (1189)), (.int 320 0), (.int 0 0), (.ref (1194)), (.int 358 0), (.int 0 0), (.ref (1201))]), #[]⟩)]
noncomputable def newsF (P : Params) : List Obj := [
  ⟨(.type "tuple"), none, (.seq #[(.type "Exception")] 0), #[]⟩,
  ⟨(.type "builtin_function_or_method"), none, (.fields #[(.builtin "type.__prepare__"), (.type "type")]), #[]⟩,
  ⟨(.type "dict"), none, (.dict #[⟨PyData.keyHash P xs16, (.str xs16 (4407)), (.str xs4 (459))⟩, ⟨PyData.keyHash P xs18, (.str xs18 (4409)), (.str xs104 (4408))⟩, ⟨PyData.keyHash P xs19, (.str xs19 (4411)), (.int 283 (4410))⟩, ⟨PyData.keyHash P xs44, (.str xs44 (4412)), (.ref (1095))⟩] 4), #[]⟩,
  ⟨(.type "tuple"), none, (.seq #[] 0), #[]⟩,
  ⟨.none, none, (.fields #[]), #[]⟩,
  ⟨(.type "code"), none, (.fields #[(.str xs104 (4402)), (.str xs104 (4403)), (.str xs1 (4404)), (.int 283 0), (.int 0 0), (.int 0 0), (.int 0 0), (.int 0 0), (.ref (1091)), (.bool false), (.int 181 0), (.ref (1092)), .none, .none, .none, .none, (.int 4405 0), (.int 283 0), (.str xs1 (4406))]), #[]⟩,
  ⟨(.type "frame"), none, .plain, #[(some (.ref (1093))), (some (.ref (3))), (some (.ref (1090))), none, (some (.str xs4 (459))), none, (some (.ref (0)))]⟩,
  ⟨(.type "tuple"), none, (.seq #[] 0), #[]⟩,
  ⟨(.type "dict"), none, (.dict #[⟨PyData.keyHash P xs16, (.str xs16 (4407)), (.str xs4 (459))⟩, ⟨PyData.keyHash P xs19, (.str xs19 (4411)), (.int 283 (4410))⟩, ⟨PyData.keyHash P xs44, (.str xs44 (4412)), (.ref (1095))⟩, ⟨PyData.keyHash P xs77, (.str xs77 (4414)), (.ref (1098))⟩, ⟨PyData.keyHash P xs5, (.str xs5 (4415)), .none⟩] 3), #[]⟩,
  ⟨(.type "type"), none, (.cls { name := xs104, bases := [(.type "Exception")], mro := [(.ref (1097)), (.type "Exception"), (.type "BaseException"), (.type "object")], ns := 1096, qualname := xs104, hasDict := true, slotNames := [], subclasses := [], abstract := false, collection := none, hasDel := false }), #[(some (.ref (1088))), none, (some (.str xs104 (4400))), (some (.str xs104 (4408))), (some (.builtin "Exception.__new__")), (some (.bool true))]⟩,
  ⟨(.type "getset_descriptor"), none, (.fields #[(.str xs77 (4413)), (.ref (1097)), (.builtin "ExceptionGroup.__weakref__"), .none]), #[]⟩,
  ⟨(.type "super"), none, (.fields #[(.ref (1097)), (.ref (1097)), (.ref (1097))]), #[]⟩,
  ⟨(.type "builtin_function_or_method"), none, (.fields #[(.builtin "object.__init_subclass__"), (.ref (1097))]), #[]⟩,
  ⟨(.type "tuple"), none, (.seq #[(.type "Exception")] 0), #[]⟩,
  ⟨(.type "builtin_function_or_method"), none, (.fields #[(.builtin "type.__prepare__"), (.type "type")]), #[]⟩,
  ⟨(.type "dict"), none, (.dict #[⟨PyData.keyHash P xs16, (.str xs16 (4427)), (.str xs4 (459))⟩, ⟨PyData.keyHash P xs18, (.str xs18 (4429)), (.str xs105 (4428))⟩, ⟨PyData.keyHash P xs19, (.str xs19 (4431)), (.int 285 (4430))⟩, ⟨PyData.keyHash P xs44, (.str xs44 (4432)), (.ref (1108))⟩] 4), #[]⟩,
  ⟨(.type "tuple"), none, (.seq #[] 0), #[]⟩,
  ⟨.none, none, (.fields #[]), #[]⟩,
  ⟨(.type "code"), none, (.fields #[(.str xs105 (4422)), (.str xs105 (4423)), (.str xs1 (4424)), (.int 285 0), (.int 0 0), (.int 0 0), (.int 0 0), (.int 0 0), (.ref (1104)), (.bool false), (.int 181 0), (.ref (1105)), .none, .none, .none, .none, (.int 4425 0), (.int 285 0), (.str xs1 (4426))]), #[]⟩,
  ⟨(.type "frame"), none, .plain, #[(some (.ref (1106))), (some (.ref (3))), (some (.ref (1103))), none, (some (.str xs4 (459))), none, (some (.ref (0)))]⟩,
  ⟨(.type "tuple"), none, (.seq #[] 0), #[]⟩,
  ⟨(.type "dict"), none, (.dict #[⟨PyData.keyHash P xs16, (.str xs16 (4427)), (.str xs4 (459))⟩, ⟨PyData.keyHash P xs19, (.str xs19 (4431)), (.int 285 (4430))⟩, ⟨PyData.keyHash P xs44, (.str xs44 (4432)), (.ref (1108))⟩, ⟨PyData.keyHash P xs77, (.str xs77 (4434)), (.ref (1111))⟩, ⟨PyData.keyHash P xs5, (.str xs5 (4435)), .none⟩] 3), #[]⟩,
  ⟨(.type "type"), none, (.cls { name := xs105, bases := [(.type "Exception")], mro := [(.ref (1110)), (.type "Exception"), (.type "BaseException"), (.type "object")], ns := 1109, qualname := xs105, hasDict := true, slotNames := [], subclasses := [], abstract := false, collection := none, hasDel := false }), #[(some (.ref (1101))), none, (some (.str xs105 (4420))), (some (.str xs105 (4428))), (some (.builtin "Exception.__new__")), (some (.bool true))]⟩,
  ⟨(.type "getset_descriptor"), none, (.fields #[(.str xs77 (4433)), (.ref (1110)), (.builtin "ExceptionGroup.__weakref__"), .none]), #[]⟩,
  ⟨(.type "super"), none, (.fields #[(.ref (1110)), (.ref (1110)), (.ref (1110))]), #[]⟩,
  ⟨(.type "builtin_function_or_method"), none, (.fields #[(.builtin "object.__init_subclass__"), (.ref (1110))]), #[]⟩,
  ⟨(.type "tuple"), none, (.seq #[] 0), #[]⟩,
  ⟨.none, none, (.fields #[]), #[]⟩,
  ⟨(.type "tuple"), none, (.seq #[] 0), #[]⟩,
  ⟨(.type "tuple"), none, (.seq #[] 0), #[]⟩,
  ⟨.none, none, (.func (fnAt (stAt top 13) xs109 0 [] .none .none .none .none none .none .none 0)), #[]⟩,
  ⟨(.type "code"), none, (.fields #[(.str xs109 (4448)), (.str xs109 (4449)), (.str xs1 (4450)), (.int 291 0), (.int 0 0), (.int 0 0), (.int 0 0), (.int 3 0), (.ref (1114)), (.bool true), (.int 181 0), (.ref (1115)), .none, (.ref (1116)), (.ref (1117)), (.ref (1118)), (.int 4451 0), (.int 291 0), (.str xs1 (4452))]), #[]⟩,
  ⟨(.type "function"), none, (.func (fnAt (stAt top 13) xs109 3 [] .none .none .none (.str xs103 (4440)) none (.ref (1119)) .none 0)), #[]⟩,
  ⟨(.type "tuple"), none, (.seq #[] 0), #[]⟩,
  ⟨.none, none, (.fields #[]), #[]⟩,
  ⟨(.type "tuple"), none, (.seq #[] 0), #[]⟩,
  ⟨(.type "tuple"), none, (.seq #[] 0), #[]⟩,
  ⟨.none, none, (.func (fnAt (stAt top 14) xs110 0 [] .none .none .none .none none .none .none 0)), #[]⟩,
  ⟨(.type "code"), none, (.fields #[(.str xs110 (4454)), (.str xs110 (4455)), (.str xs1 (4456)), (.int 293 0), (.int 0 0), (.int 0 0), (.int 0 0), (.int 3 0), (.ref (1121)), (.bool true), (.int 181 0), (.ref (1122)), .none, (.ref (1123)), (.ref (1124)), (.ref (1125)), (.int 4457 0), (.int 293 0), (.str xs1 (4458))]), #[]⟩,
  ⟨(.type "function"), none, (.func (fnAt (stAt top 14) xs110 3 [] .none .none .none (.str xs103 (4440)) none (.ref (1126)) .none 0)), #[]⟩,
  ⟨(.type "tuple"), none, (.seq #[] 0), #[]⟩,
  ⟨.none, none, (.fields #[]), #[]⟩,
  ⟨(.type "tuple"), none, (.seq #[] 0), #[]⟩,
  ⟨(.type "tuple"), none, (.seq #[] 0), #[]⟩,
  ⟨.none, none, (.func (fnAt (stAt top 15) xs111 0 [] .none .none .none .none none .none .none 0)), #[]⟩,
  ⟨(.type "code"), none, (.fields #[(.str xs111 (4460)), (.str xs111 (4461)), (.str xs1 (4462)), (.int 295 0), (.int 0 0), (.int 0 0), (.int 0 0), (.int 3 0), (.ref (1128)), (.bool true), (.int 181 0), (.ref (1129)), .none, (.ref (1130)), (.ref (1131)), (.ref (1132)), (.int 4463 0), (.int 295 0), (.str xs1 (4464))]), #[]⟩,
  ⟨(.type "function"), none, (.func (fnAt (stAt top 15) xs111 3 [] .none .none .none (.str xs103 (4440)) none (.ref (1133)) .none 0)), #[]⟩,
  ⟨(.type "tuple"), none, (.seq #[] 0), #[]⟩,
  ⟨.none, none, (.fields #[]), #[]⟩,
  ⟨(.type "tuple"), none, (.seq #[] 0), #[]⟩,
  ⟨(.type "tuple"), none, (.seq #[] 0), #[]⟩,
  ⟨.none, none, (.func (fnAt (stAt top 16) xs112 0 [] .none .none .none .none none .none .none 0)), #[]⟩,
  ⟨(.type "code"), none, (.fields #[(.str xs112 (4466)), (.str xs112 (4467)), (.str xs1 (4468)), (.int 297 0), (.int 0 0), (.int 0 0), (.int 0 0), (.int 3 0), (.ref (1135)), (.bool true), (.int 181 0), (.ref (1136)), .none, (.ref (1137)), (.ref (1138)), (.ref (1139)), (.int 4469 0), (.int 297 0), (.str xs1 (4470))]), #[]⟩,
  ⟨(.type "function"), none, (.func (fnAt (stAt top 16) xs112 3 [] .none .none .none (.str xs103 (4440)) none (.ref (1140)) .none 0)), #[]⟩,
  ⟨(.type "tuple"), none, (.seq #[] 0), #[]⟩,
  ⟨.none, none, (.fields #[]), #[]⟩,
  ⟨(.type "tuple"), none, (.seq #[] 0), #[]⟩,
  ⟨(.type "tuple"), none, (.seq #[] 0), #[]⟩,
  ⟨.none, none, (.func (fnAt (stAt top 17) xs113 0 [] .none .none .none .none none .none .none 0)), #[]⟩,
  ⟨(.type "code"), none, (.fields #[(.str xs113 (4472)), (.str xs113 (4473)), (.str xs1 (4474)), (.int 299 0), (.int 0 0), (.int 0 0), (.int 0 0), (.int 3 0), (.ref (1142)), (.bool true), (.int 181 0), (.ref (1143)), .none, (.ref (1144)), (.ref (1145)), (.ref (1146)), (.int 4475 0), (.int 299 0), (.str xs1 (4476))]), #[]⟩,
  ⟨(.type "function"), none, (.func (fnAt (stAt top 17) xs113 3 [] .none .none .none (.str xs103 (4440)) none (.ref (1147)) .none 0)), #[]⟩,
  ⟨(.type "tuple"), none, (.seq #[] 0), #[]⟩,
  ⟨.none, none, (.fields #[]), #[]⟩,
  ⟨(.type "tuple"), none, (.seq #[] 0), #[]⟩,
  ⟨(.type "tuple"), none, (.seq #[] 0), #[]⟩,
  ⟨.none, none, (.func (fnAt (stAt top 18) xs114 0 [] .none .none .none .none none .none .none 0)), #[]⟩,
  ⟨(.type "code"), none, (.fields #[(.str xs114 (4478)), (.str xs114 (4479)), (.str xs1 (4480)), (.int 301 0), (.int 0 0), (.int 0 0), (.int 0 0), (.int 3 0), (.ref (1149)), (.bool true), (.int 181 0), (.ref (1150)), .none, (.ref (1151)), (.ref (1152)), (.ref (1153)), (.int 4481 0), (.int 301 0), (.str xs1 (4482))]), #[]⟩,
  ⟨(.type "function"), none, (.func (fnAt (stAt top 18) xs114 3 [] .none .none .none (.str xs103 (4440)) none (.ref (1154)) .none 0)), #[]⟩,
  ⟨(.type "tuple"), none, (.seq #[] 0), #[]⟩,
  ⟨.none, none, (.fields #[]), #[]⟩,
  ⟨(.type "tuple"), none, (.seq #[] 0), #[]⟩,
  ⟨(.type "tuple"), none, (.seq #[] 0), #[]⟩,
  ⟨.none, none, (.func (fnAt (stAt top 19) xs115 0 [] .none .none .none .none none .none .none 0)), #[]⟩,
  ⟨(.type "code"), none, (.fields #[(.str xs115 (4484)), (.str xs115 (4485)), (.str xs1 (4486)), (.int 303 0), (.int 0 0), (.int 0 0), (.int 0 0), (.int 3 0), (.ref (1156)), (.bool true), (.int 181 0), (.ref (1157)), .none, (.ref (1158)), (.ref (1159)), (.ref (1160)), (.int 4487 0), (.int 303 0), (.str xs1 (4488))]), #[]⟩,
  ⟨(.type "function"), none, (.func (fnAt (stAt top 19) xs115 3 [] .none .none .none (.str xs103 (4440)) none (.ref (1161)) .none 0)), #[]⟩,
  ⟨(.type "tuple"), none, (.seq #[] 0), #[]⟩,
  ⟨.none, none, (.fields #[]), #[]⟩,
  ⟨(.type "tuple"), none, (.seq #[] 0), #[]⟩,
  ⟨(.type "tuple"), none, (.seq #[] 0), #[]⟩,
  ⟨.none, none, (.func (fnAt (stAt top 20) xs116 0 [] .none .none .none .none none .none .none 0)), #[]⟩,
  ⟨(.type "code"), none, (.fields #[(.str xs116 (4490)), (.str xs116 (4491)), (.str xs1 (4492)), (.int 305 0), (.int 0 0), (.int 0 0), (.int 0 0), (.int 3 0), (.ref (1163)), (.bool true), (.int 181 0), (.ref (1164)), .none, (.ref (1165)), (.ref (1166)), (.ref (1167)), (.int 4493 0), (.int 305 0), (.str xs1 (4494))]), #[]⟩,
  ⟨(.type "function"), none, (.func (fnAt (stAt top 20) xs116 3 [] .none .none .none (.str xs103 (4440)) none (.ref (1168)) .none 0)), #[]⟩,
  ⟨(.type "tuple"), none, (.seq #[] 0), #[]⟩,
  ⟨.none, none, (.fields #[]), #[]⟩,
  ⟨(.type "tuple"), none, (.seq #[(.str xs122 (4499)), (.str (⟨#[105]⟩ : Str) (4500))] 0), #[]⟩,
  ⟨(.type "tuple"), none, (.seq #[] 0), #[]⟩,
  ⟨.none, none, (.func (fnAt (stAt top 21) xs117 0 [] .none .none .none .none none .none .none 0)), #[]⟩,
  ⟨(.type "code"), none, (.fields #[(.str xs117 (4496)), (.str xs117 (4497)), (.str xs1 (4498)), (.int 307 0), (.int 2 0), (.int 0 0), (.int 0 0), (.int 3 0), (.ref (1170)), (.bool true), (.int 181 0), (.ref (1171)), .none, (.ref (1172)), (.ref (1173)), (.ref (1174)), (.int 4501 0), (.int 307 0), (.str xs1 (4502))]), #[]⟩,
  ⟨(.type "function"), none, (.func (fnAt (stAt top 21) xs117 3 [] .none .none .none (.str xs103 (4440)) none (.ref (1175)) .none 0)), #[]⟩,
  ⟨(.type "tuple"), none, (.seq #[] 0), #[]⟩,
  ⟨.none, none, (.fields #[]), #[]⟩,
  ⟨(.type "tuple"), none, (.seq #[(.str xs122 (4507)), (.str xs123 (4508)), (.str (⟨#[105]⟩ : Str) (4509))] 0), #[]⟩,
  ⟨(.type "tuple"), none, (.seq #[] 0), #[]⟩,
  ⟨.none, none, (.func (fnAt (stAt top 22) xs118 0 [] .none .none .none .none none .none .none 0)), #[]⟩,
  ⟨(.type "code"), none, (.fields #[(.str xs118 (4504)), (.str xs118 (4505)), (.str xs1 (4506)), (.int 311 0), (.int 1 0), (.int 0 0), (.int 0 0), (.int 3 0), (.ref (1177)), (.bool true), (.int 181 0), (.ref (1178)), .none, (.ref (1179)), (.ref (1180)), (.ref (1181)), (.int 4510 0), (.int 311 0), (.str xs1 (4511))]), #[]⟩,
  ⟨(.type "function"), none, (.func (fnAt (stAt top 22) xs118 3 [] .none .none .none (.str xs103 (4440)) none (.ref (1182)) .none 0)), #[]⟩,
  ⟨(.type "tuple"), none, (.seq #[] 0), #[]⟩,
  ⟨.none, none, (.fields #[]), #[]⟩,
  ⟨(.type "tuple"), none, (.seq #[(.str (⟨#[121]⟩ : Str) (4516))] 0), #[]⟩,
  ⟨(.type "tuple"), none, (.seq #[] 0), #[]⟩,
  ⟨.none, none, (.func (fnAt (stAt top 23) xs119 0 [] .none .none .none .none none .none .none 0)), #[]⟩,
  ⟨(.type "code"), none, (.fields #[(.str xs119 (4513)), (.str xs119 (4514)), (.str xs1 (4515)), (.int 316 0), (.int 1 0), (.int 0 0), (.int 0 0), (.int 3 0), (.ref (1184)), (.bool true), (.int 181 0), (.ref (1185)), .none, (.ref (1186)), (.ref (1187)), (.ref (1188)), (.int 4517 0), (.int 316 0), (.str xs1 (4518))]), #[]⟩,
  ⟨(.type "function"), none, (.func (fnAt (stAt top 23) xs119 3 [] .none .none .none (.str xs103 (4440)) none (.ref (1189)) .none 0)), #[]⟩,
  ⟨(.type "tuple"), none, (.seq #[] 0), #[]⟩,
  ⟨.none, none, (.fields #[]), #[]⟩,
  ⟨.none, none, (.func (fnAt (stAt top 24) xs120 0 [] .none .none .none .none none .none .none 0)), #[]⟩,
  ⟨(.type "code"), none, (.fields #[(.str xs120 (4520)), (.str xs120 (4521)), (.str xs1 (4522)), (.int 320 0), (.int 4 0), (.int 0 0), (.int 0 0), (.int 3 0), (.ref (1191)), (.bool true), (.int 181 0), (.ref (1192)), .none, .none, .none, (.ref (1193)), (.int 4523 0), (.int 320 0), (.str xs1 (4524))]), #[]⟩,
  ⟨(.type "function"), none, (.func (fnAt (stAt top 24) xs120 3 [] .none .none .none (.str xs103 (4440)) none (.ref (1194)) .none 0)), #[]⟩,
  ⟨(.type "tuple"), none, (.seq #[] 0), #[]⟩,
  ⟨.none, none, (.fields #[]), #[]⟩,
  ⟨(.type "tuple"), none, (.seq #[(.str xs122 (4529)), (.str xs123 (4530)), (.str (⟨#[99, 108, 111, 115, 101]⟩ : Str) (4531)), (.str (⟨#[119, 111, 114, 100, 115]⟩ : Str) (4532)), (.str (⟨#[115, 116, 101, 109, 115]⟩ : Str) (4533)), (.str (⟨#[105]⟩ : Str) (4534)), (.str xs70 (4535)), (.str (⟨#[115, 116, 101, 109]⟩ : Str) (4536)), (.str (⟨#[115, 116, 101, 109, 109, 101, 114]⟩ : Str) (4537))] 0), #[]⟩,
  ⟨(.type "tuple"), none, (.seq #[] 0), #[]⟩,
  ⟨.none, none, (.func (fnAt (stAt top 25) xs121 0 [] .none .none .none .none none .none .none 0)), #[]⟩,
  ⟨(.type "code"), none, (.fields #[(.str xs121 (4526)), (.str xs121 (4527)), (.str xs1 (4528)), (.int 358 0), (.int 1 0), (.int 0 0), (.int 0 0), (.int 3 0), (.ref (1196)), (.bool true), (.int 181 0), (.ref (1197)), .none, (.ref (1198)), (.ref (1199)), (.ref (1200)), (.int 4538 0), (.int 358 0), (.str xs1 (4539))]), #[]⟩,
  ⟨(.type "function"), none, (.func (fnAt (stAt top 25) xs121 3 [] .none .none .none (.str xs103 (4440)) none (.ref (1201)) .none 0)), #[]⟩]

noncomputable def fexecs : List Stmt → Env → Sem Flow := PySem.W.Fast.tw12563942051412417395
theorem fexecs_eq : execs = fexecs := PySem.W.Fast.te12563942051412417395

noncomputable def grow : BT → Nat → List Obj → BT
  | t, _, [] => t
  | t, n, o :: r => grow (t.ins n o) (n + 1) r
noncomputable def patch : BT → List (Addr × Obj) → BT
  | t, [] => t
  | t, (a, o) :: r => patch (t.set a fun _ => o) r
abbrev OsL := OsState × Life
abbrev Sh (t : BT) (n toks : Nat) (os : OsL) : SharedT := { tree := t, n := n, life := os.2, gens := #[], drawn := { }, toks := toks, os := os.1 }
@[irreducible] noncomputable def tZ (P : Params) : BT := grow (grow .nil 0 [boot_o_0 P, boot_o_1 P, boot_o_2 P, boot_o_3 P, boot_o_4 P, boot_o_5 P, boot_o_6 P, boot_o_7 P, boot_o_8 P, boot_o_9 P, boot_o_10 P]) 11 (newsZ P)
@[irreducible] noncomputable def tK (P : Params) : BT := grow (patch (tZ P) (modsK P)) 15 (newsK P)
noncomputable def tB (P : Params) : BT := grow (patch (tK P) (modsB P)) 223 (newsB P)
noncomputable def tV (P : Params) (o : Obj) : BT := grow (patch (tB P) (modsV P)) 230 [o]
noncomputable def tD (P : Params) (o : Obj) : BT := grow (patch (tV P o) (modsD P)) 231 (newsD P)

noncomputable def bodyE : List Stmt := behindTheImports pg
noncomputable def envT : Env := { scope := pg.main.scope, locals := mainNs, globals := mainNs, cells := [], code := .ref 13, frame := some 14 }
noncomputable def G0 : Ctx := ⟨.body bodyE envT, none, none, [(.builtin "claim.caller" {}, default)], none⟩
noncomputable abbrev cl (w : World) : EvC := evCode fden ⟨pg, w.params⟩ 1000
noncomputable def isBody : Code → Bool
  | .body _ _ => true
  | _ => false
noncomputable def clsStmts : List Stmt := subs (stAt top 6)
noncomputable def toCls (w : World) (os : OsL) : Option (Ctx × Pos × SharedT × (Result → Sem Flow)) :=
  evTo isBody ⟨pg, w.params⟩ (cl w) G0 (fexecs [stAt top 6] envT) { line := 157, col := 0, endLine := 157, endCol := 8 } (Sh (tK w.params) 223 461 os)
noncomputable def kCls (w : World) (os : OsL) : Result → Sem Flow := match toCls w os with
  | some (_, _, _, k) => k
  | none => fun _ => .unsupported ""
noncomputable def clsScope : Scope := match stAt top 6 with
  | .ClassDef _ _ _ _ _ _ sc _ _ _ _ => sc
  | _ => default
noncomputable def envC : Env := { scope := clsScope, locals := 225, globals := 3, cells := [], qual := (⟨#[76, 105, 116, 104, 117, 97, 110, 105, 97, 110, 83, 116, 101, 109, 109, 101, 114, 46]⟩ : Str), func := none, code := .ref 228, frame := some 229, builtins := 0 }
noncomputable def posC : Pos := { line := 158, col := 0, endLine := 282, endCol := 21 }
noncomputable def GC : Ctx := G0.enter (.body clsStmts envC) none posC
theorem toCls_eq (w : World) (os : OsL) : toCls w os = some (GC, posC, Sh (tB w.params) 230 473 os, kCls w os) := by kernel_rfl
theorem evDp (w : World) (os : OsL) (o : Obj) (p : Pos) : ev ⟨pg, w.params⟩ (cl w) GC (fexecs ((clsStmts.drop 1).take 7) envC) p (Sh (tV w.params o) 231 498 os) =
    some (.ok .next, { line := 224, col := 4, endLine := 276, endCol := 19 }, Sh (tD w.params o) 273 555 os) := by kernel_rfl
end Lith
end
section
open PySem PySem.W PyProof.Rows
set_option Elab.async false
set_option maxRecDepth 100000
set_option maxHeartbeats 0
namespace Lith

noncomputable def keyE (P : Params) (x : Str) (t : Nat) (v : Value) : DictEntry := ⟨PyData.keyHash P x, .str x t, v⟩
noncomputable def sSelf : Str := ⟨#[115, 101, 108, 102]⟩
noncomputable def sS : Str := ⟨#[115]⟩
noncomputable def sSub : Str := ⟨#[115, 117, 98, 115, 116, 114, 105, 110, 103, 95, 105]⟩
noncomputable def sRes : Str := ⟨#[114, 101, 115, 117, 108, 116]⟩
section
variable (P : Params) (n t u : Nat) (vs vi vr : Value)
noncomputable def aD0 (_P : Params) (_n _t _u : Nat) (_vs _vi _vr : Value) : Obj := ⟨.type "dict", none, .dict #[] 0, #[]⟩
noncomputable def aI (_P : Params) (n _t _u : Nat) (_vs _vi _vr : Value) : Obj := ⟨.ref 218, some n, .plain, #[]⟩
noncomputable def aF0 (_P : Params) (_n _t _u : Nat) (_vs _vi _vr : Value) : Obj := ⟨.type "frame", none, .dict #[] 0, #[]⟩
noncomputable def aF1 (P : Params) (n t u : Nat) (_vs _vi _vr : Value) : Obj := ⟨.type "frame", none, .dict #[keyE P sSelf (t + u) (.ref (n + 1))] 1, #[]⟩
noncomputable def aF2 (P : Params) (n t u : Nat) (vs _vi _vr : Value) : Obj := ⟨.type "frame", none, .dict #[keyE P sSelf (t + u) (.ref (n + 1)), keyE P sS (t + u + 1) vs] 2, #[]⟩
noncomputable def aF3 (P : Params) (n t u : Nat) (vs vi _vr : Value) : Obj := ⟨.type "frame", none, .dict #[keyE P sSelf (t + u) (.ref (n + 1)), keyE P sS (t + u + 1) vs, keyE P sSub (t + u + 2) vi] 3, #[]⟩
noncomputable def aF4 (P : Params) (n t u : Nat) (vs vi vr : Value) : Obj := ⟨.type "frame", none, .dict #[keyE P sSelf (t + u) (.ref (n + 1)), keyE P sS (t + u + 1) vs, keyE P sSub (t + u + 2) vi, keyE P sRes (t + u + 3) vr] 4, #[]⟩
noncomputable def aD1 (P : Params) (_n t u : Nat) (vs _vi _vr : Value) : Obj := ⟨.type "dict", none, .dict #[keyE P sS (t + u + 5) vs] 1, #[]⟩
noncomputable def aD2 (P : Params) (_n t u : Nat) (vs vi _vr : Value) : Obj := ⟨.type "dict", none, .dict #[keyE P sS (t + u + 5) vs, keyE P sSub (t + u + 7) vi] 2, #[]⟩
noncomputable def aD3 (P : Params) (_n t u : Nat) (vs vi vr : Value) : Obj := ⟨.type "dict", none, .dict #[keyE P sS (t + u + 5) vs, keyE P sSub (t + u + 7) vi, keyE P sRes (t + u + 9) vr] 3, #[]⟩
noncomputable def amTags : List Tag := [.k 0, .k 0, .k 1, .k 2, .k 2, .k 2, .k 2, .k 2, .k 2, .k 2, .k 2, .k 2, .k 2, .k 2, .k 2, .k 2, .k 2, .k 2, .k 2, .k 2, .k 2, .k 2, .k 2, .k 2, .k 2, .k 2, .k 2, .k 2, .k 3, .k 2, .al (aD0 P n t u vs vi vr), .al (aI P n t u vs vi vr), .k 2, .nw 1, .k 2, .nw 1, .k 2, .k 2, .k 3, .k 4, .k 4, .k 5, .al (aF0 P n t u vs vi vr), .nw 2, .up 2 (aF1 P n t u vs vi vr), .nw 2, .up 2 (aF2 P n t u vs vi vr), .nw 2, .up 2 (aF3 P n t u vs vi vr), .nw 2, .up 2 (aF4 P n t u vs vi vr), .k 6, .nw 2, .nw 2, .nw 1, .k 2, .k 2, .k 3, .nw 1, .k 2, .nw 1, .k 2, .nw 1, .k 2, .k 2, .k 3, .nw 1, .k 2, .nw 0, .up 0 (aD1 P n t u vs vi vr), .nw 0, .nw 2, .nw 2, .nw 1, .k 2, .k 2, .k 3, .nw 1, .k 2, .nw 1, .k 2, .nw 1, .k 2, .k 2, .k 3, .nw 1, .k 2, .nw 0, .up 0 (aD2 P n t u vs vi vr), .nw 0, .nw 2, .nw 2, .nw 1, .k 2, .k 2, .k 3, .nw 1, .k 2, .nw 1, .k 2, .nw 1, .k 2, .k 2, .k 3, .nw 1, .k 2, .nw 0, .up 0 (aD3 P n t u vs vi vr), .nw 0]
end
noncomputable def feval : Expr → Env → Sem Value := PySem.W.Fast.tw14044960220447912780
theorem feval_eq : eval = feval := PySem.W.Fast.te14044960220447912780
noncomputable def ob (P : Params) (a : Nat) : Obj := ((tK P).get a).getD default
noncomputable def amK (ons : Params → Obj) (P : Params) : List (Addr × Obj) := [(225, ons P), (3, ob P 3), (218, ob P 218), (217, ob P 217), (215, ob P 215), (214, ob P 214), (2, ob P 2)]
noncomputable abbrev clL (w : World) : EvLC := evLCode fden ⟨pg, w.params⟩ 1000
/-- one call of the class, whatever stands ahead of it -/
noncomputable def AmNN (ons : Params → Obj) : Prop := ∀ (w : World) (x t : Nat) (s : Str) (pp p1 p2 p3 p4 p5 p6 p7 : Pos),
  evL ⟨pg, w.params⟩ (clL w) GC (feval (.Call (.Name "Among" p1) [.Constant (.str s) 0 p2, .UnaryOp .USub (.Constant (.int 1) 0 p3) p4, .UnaryOp .USub (.Constant (.int 1) 0 p5) p6] [] p7) envC) pp
    ⟨expand (amK ons w.params) (x + 273) (amTags w.params (x + 273) t 5 (.str s t) (.int (-1) (t + 2)) (.int (-1) (t + 4))) [], t, []⟩ =
  some (.ok (.ref (x + 273 + 1)), p7, ⟨[], t + 15, (expand (amK ons w.params) (x + 273) (amTags w.params (x + 273) t 5 (.str s t) (.int (-1) (t + 2)) (.int (-1) (t + 4))) []).reverse⟩)
noncomputable def AmPN (ons : Params → Obj) : Prop := ∀ (w : World) (x t : Nat) (s : Str) (i : Int) (pp p1 p2 p3 p5 p6 p7 : Pos),
  evL ⟨pg, w.params⟩ (clL w) GC (feval (.Call (.Name "Among" p1) [.Constant (.str s) 0 p2, .Constant (.int i) 0 p3, .UnaryOp .USub (.Constant (.int 1) 0 p5) p6] [] p7) envC) pp
    ⟨expand (amK ons w.params) (x + 273) (amTags w.params (x + 273) t 4 (.str s t) (.int i (t + 1)) (.int (-1) (t + 3))) [], t, []⟩ =
  some (.ok (.ref (x + 273 + 1)), p7, ⟨[], t + 14, (expand (amK ons w.params) (x + 273) (amTags w.params (x + 273) t 4 (.str s t) (.int i (t + 1)) (.int (-1) (t + 3))) []).reverse⟩)
noncomputable def AmNP (ons : Params → Obj) : Prop := ∀ (w : World) (x t : Nat) (s : Str) (i : Int) (pp p1 p2 p3 p4 p5 p7 : Pos),
  evL ⟨pg, w.params⟩ (clL w) GC (feval (.Call (.Name "Among" p1) [.Constant (.str s) 0 p2, .UnaryOp .USub (.Constant (.int 1) 0 p3) p4, .Constant (.int i) 0 p5] [] p7) envC) pp
    ⟨expand (amK ons w.params) (x + 273) (amTags w.params (x + 273) t 4 (.str s t) (.int (-1) (t + 2)) (.int i (t + 3))) [], t, []⟩ =
  some (.ok (.ref (x + 273 + 1)), p7, ⟨[], t + 14, (expand (amK ons w.params) (x + 273) (amTags w.params (x + 273) t 4 (.str s t) (.int (-1) (t + 2)) (.int i (t + 3))) []).reverse⟩)
/-- the class's namespace: as the defs leave it, and behind each table -/
noncomputable def nsD (P : Params) : Obj := (((modsD P).lookup 225).getD default)
noncomputable def ns0 (P : Params) : Obj := (((mods0 P).lookup 225).getD default)
noncomputable def ns1 (P : Params) : Obj := (((mods1 P).lookup 225).getD default)
noncomputable def nsT (P : Params) : Obj := (((modsT P).lookup 225).getD default)
theorem am0NN : AmNN nsD := by intro w x t s pp p1 p2 p3 p4 p5 p6 p7; kernel_rfl
theorem am0PN : AmPN nsD := by intro w x t s i pp p1 p2 p3 p5 p6 p7; kernel_rfl
theorem am1NN : AmNN ns0 := by intro w x t s pp p1 p2 p3 p4 p5 p6 p7; kernel_rfl
theorem am1PN : AmPN ns0 := by intro w x t s i pp p1 p2 p3 p5 p6 p7; kernel_rfl
theorem am2NP : AmNP ns1 := by intro w x t s i pp p1 p2 p3 p4 p5 p7; kernel_rfl
theorem am3NP : AmNP nsT := by intro w x t s i pp p1 p2 p3 p4 p5 p7; kernel_rfl
end Lith
end
section
open PySem PySem.W PyProof.Rows
set_option Elab.async false
set_option maxRecDepth 100000
set_option maxHeartbeats 0
namespace Lith

abbrev AmRow := Str × Int × Int
/-- an element of a table, as the text writes it -/
inductive AmE : Expr → AmRow → Prop
  | nn (s : Str) (p1 p2 p3 p4 p5 p6 p7 : Pos) : AmE (.Call (.Name "Among" p1) [.Constant (.str s) 0 p2, .UnaryOp .USub (.Constant (.int 1) 0 p3) p4, .UnaryOp .USub (.Constant (.int 1) 0 p5) p6] [] p7) (s, -1, -1)
  | pn (s : Str) (i : Nat) (p1 p2 p3 p5 p6 p7 : Pos) : AmE (.Call (.Name "Among" p1) [.Constant (.str s) 0 p2, .Constant (.int i) 0 p3, .UnaryOp .USub (.Constant (.int 1) 0 p5) p6] [] p7) (s, (i : Int), -1)
  | np (s : Str) (i : Nat) (p1 p2 p3 p4 p5 p7 : Pos) : AmE (.Call (.Name "Among" p1) [.Constant (.str s) 0 p2, .UnaryOp .USub (.Constant (.int 1) 0 p3) p4, .Constant (.int i) 0 p5] [] p7) (s, -1, (i : Int))

/-- how many of the tokens the arguments take -/
noncomputable def amU (e : AmRow) : Nat := match e.2.1, e.2.2 with
  | .negSucc _, .negSucc _ => 5
  | _, _ => 4
noncomputable def amI (e : AmRow) (t : Nat) : Value := match e.2.1 with
  | .negSucc k => .int (.negSucc k) (t + 2)
  | .ofNat k => .int (.ofNat k) (t + 1)
noncomputable def amR (e : AmRow) (t : Nat) : Value := match e.2.1, e.2.2 with
  | .negSucc _, .negSucc k => .int (.negSucc k) (t + 4)
  | .negSucc _, .ofNat k => .int (.ofNat k) (t + 3)
  | .ofNat _, r => .int r (t + 3)
noncomputable def amObj3 (P : Params) (n t : Nat) (e : AmRow) : List Obj :=
  [aD3 P n t (amU e) (.str e.1 t) (amI e t) (amR e t), aI P n t (amU e) (.str e.1 t) (amI e t) (amR e t), aF4 P n t (amU e) (.str e.1 t) (amI e t) (amR e t)]
noncomputable def amObjs (P : Params) : Nat → Nat → List AmRow → List Obj
  | _, _, [] => []
  | n, t, e :: r => amObj3 P n t e ++ amObjs P (n + 3) (t + (amU e + 10)) r
noncomputable def amToks : Nat → List AmRow → Nat
  | t, [] => t
  | t, e :: r => amToks (t + (amU e + 10)) r
noncomputable def amRefs : Nat → List AmRow → List Value
  | _, [] => []
  | n, _ :: r => .ref (n + 1) :: amRefs (n + 3) r

theorem pushes_pushes (h : Heap) (N M : List Obj) : pushes (pushes h N) M = pushes h (N ++ M) := by
  show Heap.mk (h.objs ++ N.toArray ++ M.toArray) h.life = Heap.mk (h.objs ++ (N ++ M).toArray) h.life
  congr 1
  apply Array.toList_inj.mp
  simp

theorem starE_call (f : Expr) (as : List Expr) (ks : List Keyword) (p pos : Pos) (rest : List Expr) (env : Env) :
    backTo pos (starEach (.Call f as ks p :: rest) env) = (false, eval (.Call f as ks p) env) :: backTo pos (starEach rest env) := rfl

theorem wp_spliced_cons {M : Model} {Γ : Ctx} {x : Sem Value} {rest : List (Bool × Sem Value)} {Q : List Value → Pos → Shared → Prop} {E : Value → Pos → Shared → Prop} {p : Pos} {s : Shared}
    (h : Sem.wp M Γ x (fun v p' s' => Sem.wp M Γ (spliced rest) (fun l => Q (v :: l)) E p' s') E p s) : Sem.wp M Γ (spliced ((false, x) :: rest)) Q E p s := by
  have e : spliced ((false, x) :: rest) = (do
    let v ← x
    let here ← (pure [v] : Sem (List Value))
    return here ++ (← holding here (spliced rest))) := rfl
  rw [e]
  simp only [Sem.wp_bind', Sem.wp_pure', Sem.wp_holding]
  exact h

structure AmOk (ons : Params → Obj) (w : World) (h : Heap) (x : Nat) : Prop where
  size : h.objs.size = x + 273
  facts : ∀ q ∈ amK ons w.params, h.get? q.1 = some q.2

theorem AmOk.next {ons : Params → Obj} {w : World} {h : Heap} {x : Nat} (a : AmOk ons w h x) (N : List Obj) (hl : N.length = 3) : AmOk ons w (pushes h N) (x + 3) :=
  ⟨by
    have e : (pushes h N).objs.size = h.objs.size + N.length := by show (h.objs ++ N.toArray).size = _; simp
    have q := a.size; omega, fun q hq => pushes_old (a.facts q hq)⟩

theorem am_one {ons : Params → Obj} {w : World} {e : Expr} {row : AmRow} (he : AmE e row) (hNN : row.2.1 = -1 → row.2.2 = -1 → AmNN ons) (hPN : row.2.1 ≠ -1 → AmPN ons) (hNP : row.2.2 ≠ -1 → AmNP ons) (b : Shared) {h : Heap} {x t : Nat} {p : Pos}
    {Q : Value → Pos → Shared → Prop} {E : Value → Pos → Shared → Prop} (a : AmOk ons w h x)
    (q : ∀ p', Q (.ref (x + 273 + 1)) p' { b with heap := pushes h (amObj3 w.params (x + 273) t row), toks := t + (amU row + 10) }) :
    Sem.wp (model pg w) GC (eval e envC) Q E p { b with heap := h, toks := t } := by
  rw [feval_eq]
  cases he with
  | nn s p1 p2 p3 p4 p5 p6 p7 => exact wp_of_tags (hNN rfl rfl w x t s p p1 p2 p3 p4 p5 p6 p7) (by rfl) a.size a.facts (q p7)
  | pn s i p1 p2 p3 p5 p6 p7 => exact wp_of_tags (hPN (by show ((i : Nat) : Int) ≠ -1; omega) w x t s i p p1 p2 p3 p5 p6 p7) (by rfl) a.size a.facts (q p7)
  | np s i p1 p2 p3 p4 p5 p7 => exact wp_of_tags (hNP (by show ((i : Nat) : Int) ≠ -1; omega) w x t s i p p1 p2 p3 p4 p5 p7) (by rfl) a.size a.facts (q p7)

inductive AmEs : List Expr → List AmRow → Prop
  | nil : AmEs [] []
  | cons {e : Expr} {r : AmRow} {es : List Expr} {rs : List AmRow} (h : AmE e r) (t : AmEs es rs) : AmEs (e :: es) (r :: rs)

theorem am_all {ons : Params → Obj} {w : World} {pl : Pos} {E : Value → Pos → Shared → Prop} : ∀ {es : List Expr} {rows : List AmRow}, AmEs es rows → ((∃ r ∈ rows, r.2.1 = -1 ∧ r.2.2 = -1) → AmNN ons) → ((∃ r ∈ rows, r.2.1 ≠ -1) → AmPN ons) → ((∃ r ∈ rows, r.2.2 ≠ -1) → AmNP ons) →
    ∀ (b : Shared) {h : Heap} {x t : Nat} {p : Pos} {Q : List Value → Pos → Shared → Prop}, AmOk ons w h x →
    (∀ p', Q (amRefs (x + 273) rows) p' { b with heap := pushes h (amObjs w.params (x + 273) t rows), toks := amToks t rows }) →
    Sem.wp (model pg w) GC (spliced (backTo pl (starEach es envC))) Q E p { b with heap := h, toks := t } := by
  intro es rows hes
  induction hes with
  | nil =>
    intro _ _ _ b h x t p Q a q
    have z := q p
    simp only [amObjs, pushes_nil, amRefs, amToks] at z
    exact z
  | @cons e r es rs he hr ih =>
    intro hNN hPN hNP b h x t p Q a q
    have hc : backTo pl (starEach (e :: es) envC) = (false, eval e envC) :: backTo pl (starEach es envC) := by cases he <;> rfl
    rw [hc]
    refine wp_spliced_cons (am_one he (fun h1 h2 => hNN ⟨r, .head _, h1, h2⟩) (fun h1 => hPN ⟨r, .head _, h1⟩) (fun h1 => hNP ⟨r, .head _, h1⟩) b a fun p' => ?_)
    have e3 : x + 273 + 3 = (x + 3) + 273 := by omega
    refine ih (fun ⟨y, m, z⟩ => hNN ⟨y, .tail _ m, z⟩) (fun ⟨y, m, z⟩ => hPN ⟨y, .tail _ m, z⟩) (fun ⟨y, m, z⟩ => hNP ⟨y, .tail _ m, z⟩) b (x := x + 3) (a.next _ rfl) fun p'' => ?_
    have z := q p''
    simp only [amObjs, amRefs, amToks] at z
    rw [← pushes_pushes, e3] at z
    exact z

/-! trees without holes -/
noncomputable def Full (t : BT) (n : Nat) : Prop := ∀ i, i < n → (t.get i).isSome = true
noncomputable def fullB (t : BT) (n : Nat) : Bool := (List.range n).all fun i => (t.get i).isSome
theorem full_of {t : BT} {n : Nat} (h : fullB t n = true) : Full t n := fun i hi => List.all_eq_true.mp h i (List.mem_range.mpr hi)
theorem ins_get {o : Obj} : ∀ {t : BT} {i : Nat}, (∀ j, j < i → (t.get j).isSome = true) → ((t.ins i o).get i).isSome = true
  | .nil, i, h => by
    cases i with
    | zero => rfl
    | succ k => exact absurd (h 0 (Nat.succ_pos k)) (by show ¬ ((BT.nil.get 0).isSome = true); exact Bool.false_ne_true)
  | .node v l r, i, h => by
    rw [BT.ins_node]
    by_cases h0 : i = 0
    · rw [if_pos h0, BT.get_node, if_pos h0]; rfl
    · rw [if_neg h0]
      by_cases h1 : i % 2 = 1
      · rw [if_pos h1, BT.get_node, if_neg h0, if_pos h1]
        refine ins_get fun j hj => ?_
        have z := h (2 * j + 1) (by omega)
        rw [BT.get_node, if_neg (by omega), if_pos (by omega), show (2 * j + 1) / 2 = j by omega] at z
        exact z
      · rw [if_neg h1, BT.get_node, if_neg h0, if_neg h1]
        refine ins_get fun j hj => ?_
        have z := h (2 * j + 2) (by omega)
        rw [BT.get_node, if_neg (by omega), if_neg (by omega), show (2 * j + 2) / 2 - 1 = j by omega] at z
        exact z
theorem Full.ins {t : BT} {n : Nat} (h : Full t n) (o : Obj) : Full (t.ins n o) (n + 1) := fun i hi => by
  rw [BT.get_ins o t n (ins_get h) i]
  by_cases e : i = n
  · rw [if_pos e]; rfl
  · rw [if_neg e]; exact h i (by omega)
theorem pushes_grow {life : Life} : ∀ {N : List Obj} {t : BT} {n : Nat}, Full t n → pushes (absHeap t n life) N = absHeap (grow t n N) (n + N.length) life
  | [], t, n, _ => pushes_nil _
  | o :: r, t, n, h => by
    have e : pushes (absHeap t n life) (o :: r) = pushes (pushes (absHeap t n life) [o]) r := by rw [pushes_pushes]; rfl
    rw [e, show pushes (absHeap t n life) [o] = (absHeap t n life).push o by rw [← pushes_nil ((absHeap t n life).push o)]; rw [← pushes_nil (absHeap t n life), pushes_push, pushes_nil]; rfl,
      ← absHeap_ins (ins_get h), pushes_grow (h.ins o)]
    show absHeap (grow (t.ins n o) (n + 1) r) (n + 1 + r.length) life = absHeap (grow (t.ins n o) (n + 1) r) (n + (r.length + 1)) life
    rw [show n + 1 + r.length = n + (r.length + 1) by omega]

/-- a table's statement: the elements, then what stands behind them -/
theorem wp_table {ons : Params → Obj} {w : World} {nm : Str} {pn pl pos : Pos} {es : List Expr} {rows : List AmRow} {E : Value → Pos → Shared → Prop} {Q : Flow → Pos → Shared → Prop} {T : BT} {x t : Nat} {os : OsL} {p : Pos}
    (hes : AmEs es rows) (hNN : (∃ r ∈ rows, r.2.1 = -1 ∧ r.2.2 = -1) → AmNN ons) (hPN : (∃ r ∈ rows, r.2.1 ≠ -1) → AmPN ons) (hNP : (∃ r ∈ rows, r.2.2 ≠ -1) → AmNP ons)
    (hT : Full T (x + 273)) (a : AmOk ons w (absHeap T (x + 273) os.2) x)
    (rest : ∀ p', Sem.wp (model pg w) GC (do let v ← newList (amRefs (x + 273) rows); assignStores envC v none ((assignEach [.Name nm pn] envC).map (·.2))) Q E p'
      (Sh (grow T (x + 273) (amObjs w.params (x + 273) t rows)) (x + 273 + (amObjs w.params (x + 273) t rows).length) (amToks t rows) os).abs) :
    Sem.wp (model pg w) GC (exec (.Assign [.Name nm pn] (.List es pl) pos) envC) Q E p (Sh T (x + 273) t os).abs := by
  have e : exec (.Assign [.Name nm pn] (.List es pl) pos) envC = (do
      standAt pos
      let v ← (do standAt pl; newList (← spliced (backTo pl (starEach es envC))) : Sem Value)
      assignStores envC v none ((assignEach [.Name nm pn] envC).map (·.2))) := rfl
  rw [e]
  simp only [Sem.wp_bind']
  show Sem.wp (model pg w) GC (spliced (backTo pl (starEach es envC))) _ E pl (Sh T (x + 273) t os).abs
  refine am_all hes hNN hPN hNP (Sh T (x + 273) t os).abs (h := absHeap T (x + 273) os.2) a fun p' => ?_
  have z := rest p'
  simp only [Sem.wp_bind'] at z
  rw [pushes_grow hT]
  exact z

theorem amObjs_length (P : Params) : ∀ (n t : Nat) (rows : List AmRow), (amObjs P n t rows).length = 3 * rows.length
  | _, _, [] => rfl
  | n, t, e :: r => by
    show (amObj3 P n t e ++ amObjs P (n + 3) (t + (amU e + 10)) r).length = 3 * (r.length + 1)
    rw [List.length_append, amObjs_length P (n + 3) _ r]
    show 3 + 3 * r.length = _
    omega

/-- the same with its numbers reckoned -/
theorem wp_tableN {ons : Params → Obj} {w : World} {nm : Str} {pn pl pos : Pos} {es : List Expr} {rows : List AmRow} {E : Value → Pos → Shared → Prop} {Q : Flow → Pos → Shared → Prop} {T : BT} {x n m t tk : Nat} {os : OsL} {p : Pos}
    (hx : x + 273 = n) (hm : n + 3 * rows.length = m) (htk : amToks t rows = tk)
    (hes : AmEs es rows) (hNN : (∃ r ∈ rows, r.2.1 = -1 ∧ r.2.2 = -1) → AmNN ons) (hPN : (∃ r ∈ rows, r.2.1 ≠ -1) → AmPN ons) (hNP : (∃ r ∈ rows, r.2.2 ≠ -1) → AmNP ons)
    (hT : fullB T n = true) (facts : ∀ q ∈ amK ons w.params, (absHeap T n os.2).get? q.1 = some q.2)
    (rest : ∀ p', Sem.wp (model pg w) GC (do let v ← newList (amRefs n rows); assignStores envC v none ((assignEach [.Name nm pn] envC).map (·.2))) Q E p'
      (Sh (grow T n (amObjs w.params n t rows)) m tk os).abs) :
    Sem.wp (model pg w) GC (exec (.Assign [.Name nm pn] (.List es pl) pos) envC) Q E p (Sh T n t os).abs := by
  subst hx hm htk
  refine wp_table hes hNN hPN hNP (full_of hT) ⟨absHeap_size _ _ _, facts⟩ fun p' => ?_
  rw [amObjs_length]
  exact rest p'

noncomputable def pA (ps : List Pos) (i : Nat) : Pos := ps.getD i default
noncomputable def mkE (r : AmRow) (ps : List Pos) : Expr :=
  if r.2.1 = -1 then
    (if r.2.2 = -1 then .Call (.Name "Among" (pA ps 0)) [.Constant (.str r.1) 0 (pA ps 1), .UnaryOp .USub (.Constant (.int 1) 0 (pA ps 2)) (pA ps 3), .UnaryOp .USub (.Constant (.int 1) 0 (pA ps 4)) (pA ps 5)] [] (pA ps 6)
    else .Call (.Name "Among" (pA ps 0)) [.Constant (.str r.1) 0 (pA ps 1), .UnaryOp .USub (.Constant (.int 1) 0 (pA ps 2)) (pA ps 3), .Constant (.int r.2.2) 0 (pA ps 4)] [] (pA ps 5))
  else .Call (.Name "Among" (pA ps 0)) [.Constant (.str r.1) 0 (pA ps 1), .Constant (.int r.2.1) 0 (pA ps 2), .UnaryOp .USub (.Constant (.int 1) 0 (pA ps 3)) (pA ps 4)] [] (pA ps 5)
noncomputable def rowOk (r : AmRow) (_ : List Pos) : Bool := (decide (r.2.1 = -1) && decide (r.2.2 = -1)) || ((decide (0 ≤ r.2.1) && decide (r.2.2 = -1)) || (decide (r.2.1 = -1) && decide (0 ≤ r.2.2)))
theorem mkE_ok {r : AmRow} {ps : List Pos} (h : rowOk r ps = true) : AmE (mkE r ps) r := by
  obtain ⟨s, a, b⟩ := r
  unfold rowOk at h
  simp only [Bool.or_eq_true, Bool.and_eq_true, decide_eq_true_eq] at h
  unfold mkE
  rcases h with ⟨h1, h2⟩ | ⟨h1, h2⟩ | ⟨h1, h2⟩
  · subst h1; subst h2
    exact .nn ..
  · subst h2
    obtain ⟨i, rfl⟩ : ∃ i : Nat, a = i := ⟨a.toNat, by omega⟩
    rw [if_neg (by show ¬ (i : Int) = -1; omega)]
    exact .pn ..
  · subst h1
    obtain ⟨i, rfl⟩ : ∃ i : Nat, b = i := ⟨b.toNat, by omega⟩
    rw [if_pos rfl, if_neg (by show ¬ (i : Int) = -1; omega)]
    exact .np ..
noncomputable def rowsOk : List AmRow → List (List Pos) → Bool
  | [], [] => true
  | r :: rs, p :: ps => rowOk r p && rowsOk rs ps
  | _, _ => false
noncomputable def mkEs : List AmRow → List (List Pos) → List Expr
  | r :: rs, p :: ps => mkE r p :: mkEs rs ps
  | _, _ => []
theorem mkEs_ok : ∀ {rs : List AmRow} {ps : List (List Pos)}, rowsOk rs ps = true → AmEs (mkEs rs ps) rs
  | [], [], _ => .nil
  | r :: rs, p :: ps, h => by
    obtain ⟨a, b⟩ := Bool.and_eq_true_iff.mp (show (rowOk r p && rowsOk rs ps) = true from h)
    exact .cons (mkE_ok a) (mkEs_ok b)
  | [], _ :: _, h => by cases h
  | _ :: _, [], h => by cases h
noncomputable def posCx : Expr → List Pos
  | .Constant _ _ p => [p]
  | .UnaryOp _ (.Constant _ _ p) q => [p, q]
  | _ => []
noncomputable def posOf : Expr → List Pos
  | .Call (.Name _ p1) as _ p7 => p1 :: (as.flatMap posCx ++ [p7])
  | _ => []
noncomputable def elts : Stmt → List Expr
  | .Assign _ (.List es _) _ => es
  | _ => []
end Lith
end
section
open PySem PySem.W PyProof.Rows
set_option Elab.async false
set_option maxRecDepth 100000
set_option maxHeartbeats 0
namespace Lith
abbrev am (s : Str) (i r : Int) : AmRow := (s, i, r)
noncomputable def tab0 : List AmRow := [am "a" (-1) (-1), am "ia" (0) (-1), am "osna" (0) (-1), am "iosna" (2) (-1), am "uosna" (2) (-1), am "iuosna" (4) (-1), am "ysna" (0) (-1), am "ėsna" (0) (-1), am "e" (-1) (-1), am "ie" (8) (-1), am "enie" (9) (-1), am "oje" (8) (-1), am "ioje" (11) (-1), am "uje" (8) (-1), am "iuje" (13) (-1), am "yje" (8) (-1), am "enyje" (15) (-1), am "ėje" (8) (-1), am "ame" (8) (-1), am "iame" (18) (-1), am "sime" (8) (-1), am "ome" (8) (-1), am "ėme" (8) (-1), am "tumėme" (22) (-1), am "ose" (8) (-1), am "iose" (24) (-1), am "uose" (24) (-1), am "iuose" (26) (-1), am "yse" (8) (-1), am "enyse" (28) (-1), am "ėse" (8) (-1), am "ate" (8) (-1), am "iate" (31) (-1), am "ite" (8) (-1), am "kite" (33) (-1), am "site" (33) (-1), am "ote" (8) (-1), am "tute" (8) (-1), am "ėte" (8) (-1), am "tumėte" (38) (-1), am "i" (-1) (-1), am "ai" (40) (-1), am "iai" (41) (-1), am "ei" (40) (-1), am "tumei" (43) (-1), am "ki" (40) (-1), am "imi" (40) (-1), am "umi" (40) (-1), am "iumi" (47) (-1), am "si" (40) (-1), am "asi" (49) (-1), am "iasi" (50) (-1), am "esi" (49) (-1), am "iesi" (52) (-1), am "siesi" (53) (-1), am "isi" (49) (-1), am "aisi" (55) (-1), am "eisi" (55) (-1), am "tumeisi" (57) (-1), am "uisi" (55) (-1), am "osi" (49) (-1), am "ėjosi" (60) (-1), am "uosi" (60) (-1), am "iuosi" (62) (-1), am "siuosi" (63) (-1), am "usi" (49) (-1), am "ausi" (65) (-1), am "čiausi" (66) (-1), am "ąsi" (49) (-1), am "ėsi" (49) (-1), am "ųsi" (49) (-1), am "tųsi" (70) (-1), am "ti" (40) (-1), am "enti" (72) (-1), am "inti" (72) (-1), am "oti" (72) (-1), am "ioti" (75) (-1), am "uoti" (75) (-1), am "iuoti" (77) (-1), am "auti" (72) (-1), am "iauti" (79) (-1), am "yti" (72) (-1), am "ėti" (72) (-1), am "telėti" (82) (-1), am "inėti" (82) (-1), am "terėti" (82) (-1), am "ui" (40) (-1), am "iui" (86) (-1), am "eniui" (87) (-1), am "oj" (-1) (-1), am "ėj" (-1) (-1), am "k" (-1) (-1), am "am" (-1) (-1), am "iam" (92) (-1), am "iem" (-1) (-1), am "im" (-1) (-1), am "sim" (95) (-1), am "om" (-1) (-1), am "tum" (-1) (-1), am "ėm" (-1) (-1), am "tumėm" (99) (-1), am "an" (-1) (-1), am "on" (-1) (-1), am "ion" (102) (-1), am "un" (-1) (-1), am "iun" (104) (-1), am "ėn" (-1) (-1), am "o" (-1) (-1), am "io" (107) (-1), am "enio" (108) (-1), am "ėjo" (107) (-1), am "uo" (107) (-1), am "s" (-1) (-1), am "as" (112) (-1), am "ias" (113) (-1), am "es" (112) (-1), am "ies" (115) (-1), am "is" (112) (-1), am "ais" (117) (-1), am "iais" (118) (-1), am "tumeis" (117) (-1), am "imis" (117) (-1), am "enimis" (121) (-1), am "omis" (117) (-1), am "iomis" (123) (-1), am "umis" (117) (-1), am "ėmis" (117) (-1), am "enis" (117) (-1), am "asis" (117) (-1), am "ysis" (117) (-1), am "ams" (112) (-1), am "iams" (130) (-1), am "iems" (112) (-1), am "ims" (112) (-1), am "enims" (133) (-1), am "oms" (112) (-1), am "ioms" (135) (-1), am "ums" (112) (-1), am "ėms" (112) (-1), am "ens" (112) (-1), am "os" (112) (-1), am "ios" (140) (-1), am "uos" (140) (-1), am "iuos" (142) (-1), am "us" (112) (-1), am "aus" (144) (-1), am "iaus" (145) (-1), am "ius" (144) (-1), am "ys" (112) (-1), am "enys" (148) (-1), am "ąs" (112) (-1), am "iąs" (150) (-1), am "ės" (112) (-1), am "amės" (152) (-1), am "iamės" (153) (-1), am "imės" (152) (-1), am "kimės" (155) (-1), am "simės" (155) (-1), am "omės" (152) (-1), am "ėmės" (152) (-1), am "tumėmės" (159) (-1), am "atės" (152) (-1), am "iatės" (161) (-1), am "sitės" (152) (-1), am "otės" (152) (-1), am "ėtės" (152) (-1), am "tumėtės" (165) (-1), am "įs" (112) (-1), am "ūs" (112) (-1), am "tųs" (112) (-1), am "at" (-1) (-1), am "iat" (170) (-1), am "it" (-1) (-1), am "sit" (172) (-1), am "ot" (-1) (-1), am "ėt" (-1) (-1), am "tumėt" (175) (-1), am "u" (-1) (-1), am "au" (177) (-1), am "iau" (178) (-1), am "čiau" (179) (-1), am "iu" (177) (-1), am "eniu" (181) (-1), am "siu" (181) (-1), am "y" (-1) (-1), am "ą" (-1) (-1), am "ią" (185) (-1), am "ė" (-1) (-1), am "ę" (-1) (-1), am "į" (-1) (-1), am "enį" (189) (-1), am "ų" (-1) (-1), am "ių" (191) (-1)]
noncomputable def tab1 : List AmRow := [am "ing" (-1) (-1), am "aj" (-1) (-1), am "iaj" (1) (-1), am "iej" (-1) (-1), am "oj" (-1) (-1), am "ioj" (4) (-1), am "uoj" (4) (-1), am "iuoj" (6) (-1), am "auj" (-1) (-1), am "ąj" (-1) (-1), am "iąj" (9) (-1), am "ėj" (-1) (-1), am "ųj" (-1) (-1), am "iųj" (12) (-1), am "ok" (-1) (-1), am "iok" (14) (-1), am "iuk" (-1) (-1), am "uliuk" (16) (-1), am "učiuk" (16) (-1), am "išk" (-1) (-1), am "iul" (-1) (-1), am "yl" (-1) (-1), am "ėl" (-1) (-1), am "am" (-1) (-1), am "dam" (23) (-1), am "jam" (23) (-1), am "zgan" (-1) (-1), am "ain" (-1) (-1), am "esn" (-1) (-1), am "op" (-1) (-1), am "iop" (29) (-1), am "ias" (-1) (-1), am "ies" (-1) (-1), am "ais" (-1) (-1), am "iais" (33) (-1), am "os" (-1) (-1), am "ios" (35) (-1), am "uos" (35) (-1), am "iuos" (37) (-1), am "aus" (-1) (-1), am "iaus" (39) (-1), am "ąs" (-1) (-1), am "iąs" (41) (-1), am "ęs" (-1) (-1), am "utėait" (-1) (-1), am "ant" (-1) (-1), am "iant" (45) (-1), am "siant" (46) (-1), am "int" (-1) (-1), am "ot" (-1) (-1), am "uot" (49) (-1), am "iuot" (50) (-1), am "yt" (-1) (-1), am "ėt" (-1) (-1), am "ykšt" (-1) (-1), am "iau" (-1) (-1), am "dav" (-1) (-1), am "sv" (-1) (-1), am "šv" (-1) (-1), am "ykšč" (-1) (-1), am "ę" (-1) (-1), am "ėję" (60) (-1)]
noncomputable def tab2 : List AmRow := [am "ojime" (-1) (7), am "ėjime" (-1) (3), am "avime" (-1) (6), am "okate" (-1) (8), am "aite" (-1) (1), am "uote" (-1) (2), am "asius" (-1) (5), am "okatės" (-1) (8), am "aitės" (-1) (1), am "uotės" (-1) (2), am "esiu" (-1) (4)]
noncomputable def tab3 : List AmRow := [am "č" (-1) (1), am "dž" (-1) (2)]
noncomputable def elts0 : List Expr := elts (stAt clsStmts 8)
theorem ames0 : AmEs elts0 tab0 := by
  have e : elts0 = mkEs tab0 (elts0.map posOf) := by kernel_rfl
  rw [e]
  exact mkEs_ok (by kernel_rfl)
noncomputable def elts1 : List Expr := elts (stAt clsStmts 9)
theorem ames1 : AmEs elts1 tab1 := by
  have e : elts1 = mkEs tab1 (elts1.map posOf) := by kernel_rfl
  rw [e]
  exact mkEs_ok (by kernel_rfl)
noncomputable def elts2 : List Expr := elts (stAt clsStmts 10)
theorem ames2 : AmEs elts2 tab2 := by
  have e : elts2 = mkEs tab2 (elts2.map posOf) := by kernel_rfl
  rw [e]
  exact mkEs_ok (by kernel_rfl)
noncomputable def elts3 : List Expr := elts (stAt clsStmts 12)
theorem ames3 : AmEs elts3 tab3 := by
  have e : elts3 = mkEs tab3 (elts3.map posOf) := by kernel_rfl
  rw [e]
  exact mkEs_ok (by kernel_rfl)

noncomputable def lstObj (n : Nat) (rows : List AmRow) : Obj := ⟨.type "list", none, .seq (amRefs n rows).toArray 0, #[]⟩
noncomputable def t0 (P : Params) (o : Obj) : BT := patch (grow (tD P o) 273 (amObjs P 273 555 tab0 ++ [lstObj 273 tab0])) (mods0 P)
noncomputable def t1 (P : Params) (o : Obj) : BT := patch (grow (t0 P o) 853 (amObjs P 853 3287 tab1 ++ [lstObj 853 tab1])) (mods1 P)
noncomputable def t2 (P : Params) (o : Obj) : BT := patch (grow (t1 P o) 1040 (amObjs P 1040 4195 tab2 ++ [lstObj 1040 tab2])) (mods2 P)
noncomputable def tT (P : Params) (o : Obj) : BT := patch (grow (t2 P o) 1074 (newsT P)) (modsT P)
noncomputable def t3 (P : Params) (o : Obj) : BT := patch (grow (tT P o) 1075 (amObjs P 1075 4359 tab3 ++ [lstObj 1075 tab3])) (mods3 P)
noncomputable def tU (P : Params) (o : Obj) : BT := patch (grow (t3 P o) 1082 (newsU P)) (modsU P)
noncomputable def tG (P : Params) (o : Obj) : BT := patch (grow (tU P o) 1083 (newsG P)) (modsG P)
noncomputable def tF (P : Params) (o : Obj) : BT := patch (grow (tG P o) 1088 (newsF P)) (modsF P)
theorem tok0 : amToks 555 tab0 = 3286 := by kernel_rfl
theorem tok1 : amToks 3287 tab1 = 4194 := by kernel_rfl
theorem tok2 : amToks 4195 tab2 = 4349 := by kernel_rfl
theorem tok3 : amToks 4359 tab3 = 4387 := by kernel_rfl
theorem tail0 (w : World) (os : OsL) (o : Obj) (p : Pos) (pn : Pos) : ev ⟨pg, w.params⟩ (cl w) GC (do let v ← newList (amRefs 273 tab0); assignStores envC v none ((assignEach [.Name "a_0" pn] envC).map (·.2))) p
    (Sh (grow (tD w.params o) 273 (amObjs w.params 273 555 tab0)) 852 3286 os) = some (.ok .next, pn, Sh (t0 w.params o) 853 3287 os) := by kernel_rfl
theorem tail1 (w : World) (os : OsL) (o : Obj) (p : Pos) (pn : Pos) : ev ⟨pg, w.params⟩ (cl w) GC (do let v ← newList (amRefs 853 tab1); assignStores envC v none ((assignEach [.Name "a_1" pn] envC).map (·.2))) p
    (Sh (grow (t0 w.params o) 853 (amObjs w.params 853 3287 tab1)) 1039 4194 os) = some (.ok .next, pn, Sh (t1 w.params o) 1040 4195 os) := by kernel_rfl
theorem tail2 (w : World) (os : OsL) (o : Obj) (p : Pos) (pn : Pos) : ev ⟨pg, w.params⟩ (cl w) GC (do let v ← newList (amRefs 1040 tab2); assignStores envC v none ((assignEach [.Name "a_2" pn] envC).map (·.2))) p
    (Sh (grow (t1 w.params o) 1040 (amObjs w.params 1040 4195 tab2)) 1073 4349 os) = some (.ok .next, pn, Sh (t2 w.params o) 1074 4350 os) := by kernel_rfl
theorem tail3 (w : World) (os : OsL) (o : Obj) (p : Pos) (pn : Pos) : ev ⟨pg, w.params⟩ (cl w) GC (do let v ← newList (amRefs 1075 tab3); assignStores envC v none ((assignEach [.Name "a_3" pn] envC).map (·.2))) p
    (Sh (grow (tT w.params o) 1075 (amObjs w.params 1075 4359 tab3)) 1081 4387 os) = some (.ok .next, pn, Sh (t3 w.params o) 1082 4388 os) := by kernel_rfl
theorem evT (w : World) (os : OsL) (o : Obj) (p : Pos) : ev ⟨pg, w.params⟩ (cl w) GC (fexecs [stAt clsStmts 11] envC) p (Sh (t2 w.params o) 1074 4350 os) =
    some (.ok .next, { line := 280, col := 4, endLine := 280, endCol := 8 }, Sh (tT w.params o) 1075 4359 os) := by kernel_rfl
theorem evU (w : World) (os : OsL) (o : Obj) (p : Pos) : ev ⟨pg, w.params⟩ (cl w) GC (fexecs [stAt clsStmts 13] envC) p (Sh (t3 w.params o) 1082 4388 os) =
    some (.ok .next, { line := 282, col := 4, endLine := 282, endCol := 8 }, Sh (tU w.params o) 1083 4391 os) := by kernel_rfl

noncomputable def so (es : Array (Int × Value)) (ep : Nat) (tb : SetTable) : Obj := ⟨.type "set", none, .set es ep tb, #[]⟩
theorem evG (w : World) : ∀ (r os : OsL) (es : Array (Int × Value)) (ep : Nat) (tb : SetTable), ev ⟨pg, w.params⟩ (cl w) G0 (kCls w r (.ok .next)) posC (Sh (tU w.params (so es ep tb)) 1083 4391 os) =
    some (.ok .next, posC, Sh (tG w.params (so es ep tb)) 1088 4400 os) :=
  byRow2 "special-get-raises" (P := fun w => ∀ (r os : OsL) (es : Array (Int × Value)) (ep : Nat) (tb : SetTable), ev ⟨pg, w.params⟩ (cl w) G0 (kCls w r (.ok .next)) posC (Sh (tU w.params (so es ep tb)) 1083 4391 os) =
    some (.ok .next, posC, Sh (tG w.params (so es ep tb)) 1088 4400 os)) (fun w r os es ep tb => by kernel_rfl) (fun w r os es ep tb => by kernel_rfl) w
theorem evF (w : World) (os : OsL) (o : Obj) : ev ⟨pg, w.params⟩ (cl w) G0 (fexecs (top.drop 7) envT) posC (Sh (tG w.params o) 1088 4400 os) =
    some (.ok .next, { line := 358, col := 0, endLine := 368, endCol := 87 }, Sh (tF w.params o) 1203 4541 os) := by kernel_rfl
end Lith
end
section
open PySem PySem.W PyProof.Rows
set_option Elab.async false
set_option maxRecDepth 100000
set_option maxHeartbeats 400000
namespace Lith

/-- room for any frame: the readings of the library ask it -/
noncomputable def A0 : Around := { handled := none, depth := 1000000, frames := none, guards := none, units := 1000000 }
theorem gcIn : GC.In A0 := ⟨rfl, Nat.le_of_ble_eq_true (by kernel_rfl), fun _ h => (nomatch h), fun _ h => (nomatch h), Nat.le_of_ble_eq_true (by kernel_rfl)⟩

section
variable {prog : Program} {w : World} {A : Around} {E : Value → Shared → Prop} {s : Shared} {d : Addr}

theorem add1 {S : Str → Bool} {n : Nat} {k : Str} {x : Value} {Q : Shared → Prop} (hkey : (PySem.strKind prog w).is k x = true) (hsc : x.scannable = true) (hS : s.heap.SetOf (PySem.strKind prog w) d S n) (hroom : n + 1 < scanBound)
    (h : ∀ h', Heap.SameBut d s.heap h' → h'.SetOf (PySem.strKind prog w) d (fun k' => S k' || decide (k' = k)) (if S k then n else n + 1) → Q { s with heap := h', toks := s.toks + 1 }) :
    wpAny (model prog w) A (setAdd d x) (fun _ s' => Q s') E s := by
  unfold setAdd
  refine wpAny_holding (wpAny_bind ((PySem.strKind prog w).pyHash hkey ?_))
  exact wpAny_setAddHashed_of (s := { s with toks := s.toks + 1 }) hkey hsc hS hroom h

theorem fillAll {Q : Value → Shared → Prop} : ∀ (xs : List (Str × Nat)) (s : Shared) (S : Str → Bool) (n : Nat), s.heap.SetOf (PySem.strKind prog w) d S n → n + xs.length < scanBound →
    (∀ h' S' n', Heap.SameBut d s.heap h' → h'.SetOf (PySem.strKind prog w) d S' n' → (∀ k, S' k = true ↔ S k = true ∨ k ∈ xs.map (·.1)) → n' ≤ n + xs.length → Q (.ref d) { s with heap := h', toks := s.toks + xs.length }) →
    W.KdsFill (model prog w) A E true d Q (xs.map fun x => .str x.1 x.2) s
  | [], s, S, n, hS, hb, h => by
    refine W.kds_fill_unled rfl ?_
    obtain ⟨o, es, ep, t, ho, hex, hd, hel, hmem, hb', hf, hn⟩ := hS
    have hf' : ({ t with led := false } : SetTable).fits es.size = true := by cases t; exact hf
    unfold setUnled
    refine wpAny_bind (wpAny_setState_of ho hd hf ?_)
    dsimp only
    refine wpAny_storeSet_of ho hd ?_ (fits_of_scanBound hb')
    obtain ⟨_, hS⟩ := SetOf_store (knd := PySem.strKind prog w) ho hex hd hel hmem hb' hf'
    have z := h _ S es.size (Heap.SameBut.update s.heap d (Obj.putSet es { t with led := false })) hS (fun k => by simp) (by rw [hn]; exact Nat.le_refl _)
    exact z
  | x :: xs, s, S, n, hS, hb, h => by
    refine W.kds_fill_cons (add1 (k := x.1) (strKind_is prog w x.1 x.2) rfl hS (by simp only [List.length_cons] at hb; omega) fun h1 hs1 hS1 => ?_)
    have hn1 : (if S x.1 = true then n else n + 1) ≤ n + 1 := by split <;> omega
    refine fillAll xs _ _ _ hS1 (by simp only [List.length_cons] at hb; omega) fun h' S' n' hs' hS' hk hn' => ?_
    have z := h h' S' n' (hs1.trans hs') hS' (fun k => by
      rw [hk k, Bool.or_eq_true, decide_eq_true_eq, List.map_cons, List.mem_cons, or_assoc]) (by simp only [List.length_cons]; omega)
    have e : ({ s with heap := h', toks := s.toks + (x :: xs).length } : Shared) = { ({ s with heap := h1, toks := s.toks + 1 } : Shared) with heap := h', toks := s.toks + 1 + xs.length } := by
      simp only [List.length_cons]; rw [show s.toks + (xs.length + 1) = s.toks + 1 + xs.length by omega]
    rw [e] at z
    exact z
end

/-- the text's twelve letters -/
noncomputable def gv : List Str := ["a", "e", "i", "o", "u", "y", "ą", "ė", "ę", "į", "ū", "ų"]
noncomputable def gvE : List Expr := match stAt clsStmts 0 with
  | .Assign _ (.Set es _ _) _ => es
  | _ => []
structure GoodSet (w : World) (es : Array (Int × Value)) (tb : SetTable) : Prop where
  elems : ElemsOf (PySem.strKind pg w) es.toList
  mem : ∀ k : Str, k ∈ gv ↔ ∃ e ∈ es.toList, (PySem.strKind pg w).is k e.2 = true
  small : es.size < scanBound
  fits : tb.fits es.size = true

inductive StrE : List Expr → List Str → Prop
  | nil : StrE [] []
  | cons {x : Str} {p : Pos} {es : List Expr} {xs : List Str} (t : StrE es xs) : StrE (.Constant (.str x) 0 p :: es) (x :: xs)
noncomputable def strsOf : List Expr → List Str
  | .Constant (.str x) 0 _ :: r => x :: strsOf r
  | _ => []
noncomputable def posesOf : List Expr → List Pos
  | .Constant (.str _) 0 p :: r => p :: posesOf r
  | _ => []
noncomputable def mkStrs : List Str → List Pos → List Expr
  | x :: xs, p :: ps => .Constant (.str x) 0 p :: mkStrs xs ps
  | _, _ => []
theorem mkStrs_ok : ∀ {xs : List Str} {ps : List Pos}, xs.length = ps.length → StrE (mkStrs xs ps) xs
  | [], [], _ => .nil
  | x :: xs, p :: ps, h => .cons (mkStrs_ok (by simpa using h))
  | [], _ :: _, h => by simp at h
  | _ :: _, [], h => by simp at h
theorem gvE_ok : StrE gvE gv := by
  have e : gvE = mkStrs gv (posesOf gvE) := by kernel_rfl
  rw [e]
  exact mkStrs_ok (by kernel_rfl)

noncomputable def numbered : Nat → List Str → List (Str × Nat)
  | _, [] => []
  | t, x :: r => (x, t) :: numbered (t + 1) r
theorem numbered_fst : ∀ (t : Nat) (xs : List Str), (numbered t xs).map (·.1) = xs
  | _, [] => rfl
  | t, x :: r => by simp [numbered, numbered_fst (t + 1) r]
theorem numbered_len : ∀ (t : Nat) (xs : List Str), (numbered t xs).length = xs.length
  | _, [] => rfl
  | t, x :: r => by simp [numbered, numbered_len (t + 1) r]

theorem kdsAll_strs {M : Model} {A : Around} {E : Value → Shared → Prop} {env : Env} : ∀ {es : List Expr} {xs : List Str}, StrE es xs → ∀ (s : Shared) (Q : List Value → Shared → Prop),
    Q ((numbered s.toks xs).map fun x => .str x.1 x.2) { s with toks := s.toks + xs.length } → W.KdsAll M A E env es Q s
  | _, _, .nil, s, Q, h => h
  | _, _, .cons (x := x) (p := p) (es := es) (xs := xs) t, s, Q, h => by
    show wpAny M A (eval (.Constant (.str x) 0 p) env) (fun v s' => W.KdsAll M A E env es (fun vs => Q (v :: vs)) s') E s
    rw [arm_eval_Constant]
    show wpAny M A (mkText x) _ E s
    refine wpAny_mkText (kdsAll_strs t { s with toks := s.toks + 1 } _ ?_)
    have e : s.toks + (x :: xs).length = s.toks + 1 + xs.length := by simp only [List.length_cons]; omega
    rw [e] at h
    exact h

/-- what stands where, from what is read there -/
theorem heap_of {T : BT} {n : Nat} {L L' : Life} {o0 o : Obj} {h' : Heap} (full : Full T n) (al : ∀ i, i < n → ∀ x, T.get i = some x → aliveB x = true)
    (sb : Heap.SameBut n ((absHeap T n L).push o0) h') (g : h'.get? n = some o) (hl : h'.life = L') : h' = absHeap (T.ins n o) (n + 1) L' := by
  have hs : h'.objs.size = n + 1 := by
    rw [sb.1]
    show ((absHeap T n L).objs.push o0).size = n + 1
    rw [Array.size_push, absHeap_size]
  have he : h'.objs = (absHeap (T.ins n o) (n + 1) L').objs := by
    apply Array.ext_getElem?
    intro i
    rw [absHeap_at]
    by_cases h1 : i < n
    · rw [if_pos (by omega), BT.get_ins o T n (ins_get full) i, if_neg (by omega)]
      obtain ⟨x, hx⟩ := Option.isSome_iff_exists.mp (full i h1)
      have a1 := al i h1 x hx
      have hg : ((absHeap T n L).push o0).get? i = some x := by
        rw [Heap.get?_push_ne _ _ _ (by rw [absHeap_size]; exact Nat.ne_of_lt h1)]
        refine get?_alive ?_ a1
        rw [absHeap_at, if_pos h1, hx]; rfl
      rw [hx]
      exact (get?_objs ((sb.2 i (Nat.ne_of_lt h1)).trans hg)).1
    · by_cases h2 : i = n
      · subst h2
        rw [if_pos (by omega), BT.get_ins o T i (ins_get full) i, if_pos rfl]
        exact (get?_objs g).1
      · rw [if_neg (by omega), Array.getElem?_eq_none (by omega)]
  obtain ⟨os, l⟩ := h'
  dsimp only at he hl
  subst hl
  show Heap.mk os l = Heap.mk _ l
  rw [he]; rfl

noncomputable def allAlive (t : BT) (n : Nat) : Bool := (List.range n).all fun i => match t.get i with
  | some x => aliveB x
  | none => false
theorem full_alive {t : BT} {n : Nat} (h : allAlive t n = true) : Full t n ∧ ∀ i, i < n → ∀ x, t.get i = some x → aliveB x = true := by
  have z : ∀ i, i < n → (match t.get i with | some x => aliveB x | none => false) = true := fun i hi => List.all_eq_true.mp h i (List.mem_range.mpr hi)
  refine ⟨fun i hi => ?_, fun i hi x hx => ?_⟩
  · have := z i hi
    cases hg : t.get i with
    | none => rw [hg] at this; cases this
    | some x => rfl
  · have := z i hi
    rw [hx] at this
    exact this
theorem tB_alive (P : Params) : allAlive (tB P) 230 = true := by kernel_rfl

theorem evMain (w : World) (r : OsL) (p : Pos) : ev ⟨pg, w.params⟩ (cl w) GC (inMainModule envC) p (Sh (tB w.params) 230 473 r) = some (.ok true, p, Sh (tB w.params) 230 473 r) := by kernel_rfl
theorem evStoreV (w : World) (r : OsL) (p pn : Pos) (o : Obj) : ev ⟨pg, w.params⟩ (cl w) GC (assignStores envC (.ref 230) none ((assignEach [.Name "g_v" pn] envC).map (·.2))) p (Sh ((tB w.params).ins 230 o) 231 497 r) =
    some (.ok .next, pn, Sh (tV w.params o) 231 498 r) := by kernel_rfl

theorem StrE.plain : ∀ {es : List Expr} {xs : List Str}, StrE es xs → es.all W.kdsPlain = true ∧ es.length = xs.length
  | _, _, .nil => ⟨rfl, rfl⟩
  | _, _, .cons t => ⟨by rw [List.all_cons, t.plain.1]; rfl, by rw [List.length_cons, List.length_cons, t.plain.2]⟩

abbrev setElts (es : List Expr) (env : Env) (ps : Pos) : List (Bool × Sem Value) := (starEach es env).map fun (star, t) => (star, do let v ← t; standAt ps; pure v)

theorem set_gen {prog : Program} {w : World} {A : Around} {env : Env} {es : List Expr} {xs : List Str} (hes : StrE es xs) {s : Shared} {n : Nat} (hsz : s.heap.objs.size = n) (hl : xs.length ≤ 30) {road : DisplayRoad} (b : Bool) (ps : Pos)
    (hroad : (road == .constants) = false) (hu : (road == .unsure) = true) :
    wpAny (model prog w) A (setDisplay road b (setElts es env ps))
      (fun v s' => v = .ref n ∧ ∃ led h' S' n', Heap.SameBut n (s.heap.push { cls := .type "set", dict := none, data := .set #[] 0 (.fresh 0 0 led) }) h' ∧ h'.SetOf (PySem.strKind prog w) n S' n' ∧ (∀ k, S' k = true ↔ k ∈ xs) ∧
        s' = { s with heap := h', toks := s.toks + xs.length + xs.length }) (fun _ _ => False) s := by
  obtain ⟨hp, hlen⟩ := hes.plain
  have hst : starEach es env = (evalEach es env).map fun t => (false, t) := W.kds_star es hp
  have hm : (setElts es env ps).map (·.2) = (evalEach es env).map fun t => (do let v ← t; standAt ps; pure v : Sem Value) := by
    unfold setElts
    rw [hst, List.map_map, List.map_map]; rfl
  have hlen' : (setElts es env ps).length = xs.length := by
    unfold setElts
    rw [hst, List.length_map, List.length_map, W.kds_len, hlen]
  refine W.kds_core (ts := (evalEach es env).map fun t => (do let v ← t; standAt ps; pure v : Sem Value)) hroad ?_ (by rw [hlen']; omega) hm fun led => ?_
  · unfold setElts
    rw [hst, List.map_map, List.findIdx?_eq_none_iff]
    intro x hx
    obtain ⟨y, _, rfl⟩ := List.mem_map.mp hx
    rfl
  · rw [hu]
    refine W.kds_all ps es _ _ (kdsAll_strs hes _ _ ?_)
    have hS0 : (s.heap.push { cls := .type "set", dict := none, data := .set #[] 0 (.fresh 0 0 led) }).SetOf (PySem.strKind prog w) n (fun _ => false) 0 := by
      have hg : (s.heap.push { cls := .type "set", dict := none, data := .set #[] 0 (.fresh 0 0 led) }).get? n = some { cls := .type "set", dict := none, data := .set #[] 0 (.fresh 0 0 led) } := by
        rw [← hsz]
        exact Heap.get?_push_size _ rfl
      exact ⟨_, #[], 0, _, hg, ⟨rfl, rfl, rfl⟩, rfl, fun e he => by simp at he, fun k => by simp, by decide, by rfl, rfl⟩
    rw [hsz]
    refine fillAll (numbered _ xs) _ _ _ hS0 ?_ fun h' S' n' hsb hS' hk hn' => ?_
    · rw [numbered_len]
      have : scanBound = 4096 := rfl
      omega
    · refine ⟨rfl, led, h', S', n', hsb, hS', fun k => by rw [hk k, numbered_fst]; simp, ?_⟩
      rw [numbered_len]

theorem exec_set_assign (nm : Str) (pn : Pos) (es : List Expr) (ps pos : Pos) (env : Env) : exec (.Assign [.Name nm pn] (.Set es 0 ps) pos) env = (do
      standAt pos
      let v ← (do standAt ps; setDisplay (displayRoad 0 es) (← inMainModule env) (setElts es env ps) : Sem Value)
      assignStores env v none ((assignEach [.Name nm pn] env).map (·.2))) := rfl

theorem wp_set_gen {prog : Program} {w : World} {Γ : Ctx} (hΓ : Γ.In A0) {nm : Str} {pn ps pos : Pos} {env : Env} {es : List Expr} {xs : List Str} (hes : StrE es xs) (hl : xs.length ≤ 30) {T : BT} {n tk m : Nat} {r : OsL}
    (htk : tk + xs.length + xs.length = m) (hroad : (displayRoad 0 es == .constants) = false) (hu : (displayRoad 0 es == .unsure) = true) (al : allAlive T n = true) {E : Value → Pos → Shared → Prop} {Q : Flow → Pos → Shared → Prop} (p : Pos)
    (hmain : ∀ p', ev ⟨prog, w.params⟩ (evCode fden ⟨prog, w.params⟩ 1000) Γ (inMainModule env) p' (Sh T n tk r) = some (.ok true, p', Sh T n tk r))
    (h : ∀ (o : Obj) (es' : Array (Int × Value)) (ep : Nat) (tb : SetTable) (S' : Str → Bool) (L : Life) (p' : Pos), o = so es' ep tb → ElemsOf (PySem.strKind prog w) es'.toList → (∀ k, S' k = true ↔ ∃ e ∈ es'.toList, (PySem.strKind prog w).is k e.2 = true) → es'.size < scanBound → tb.fits es'.size = true → (∀ k, S' k = true ↔ k ∈ xs) →
      Sem.wp (model prog w) Γ (assignStores env (.ref n) none ((assignEach [.Name nm pn] env).map (·.2))) Q E p' (Sh (T.ins n o) (n + 1) m (r.1, L)).abs) :
    Sem.wp (model prog w) Γ (exec (.Assign [.Name nm pn] (.Set es 0 ps) pos) env) Q E p (Sh T n tk r).abs := by
  subst htk
  rw [exec_set_assign]
  simp only [Sem.wp_bind']
  show Sem.wp (model prog w) Γ (inMainModule env) _ E ps (Sh T n tk r).abs
  refine wp_of_ev (hmain ps) ?_
  have hsz : (Sh T n tk r).abs.heap.objs.size = n := absHeap_size _ _ _
  have z := set_gen (prog := prog) (w := w) (A := A0) (env := env) hes hsz hl true ps hroad hu Γ ps hΓ
  refine Sem.wp_mono _ _ _ (fun v p' s' hq => ?_) (fun _ _ _ f => f.elim) _ _ z
  obtain ⟨e1, led, h', S', n', hsb, ⟨o, es', ep, tb, ho, hex, hd, hel, hmem, hb', hf, hn⟩, hk, e2⟩ := hq
  subst e1
  have eo : o = so es' ep tb := by
    obtain ⟨c, dd, dt, sl⟩ := o
    obtain ⟨e1, e2, e3⟩ := hex
    dsimp only at e1 e2 e3 hd
    subst e1 e2 e3 hd
    rfl
  obtain ⟨full, al⟩ := full_alive al
  have eh := heap_of full al hsb ho rfl
  have zz := h o es' ep tb S' h'.life p' eo hel hmem hb' hf hk
  have es : s' = (Sh (T.ins n o) (n + 1) (tk + xs.length + xs.length) (r.1, h'.life)).abs := by
    rw [e2]
    show Shared.mk h' _ _ _ _ = Shared.mk (absHeap _ _ _) _ _ _ _
    rw [eh]
    rfl
  rw [es]
  exact zz

theorem stmt0 : stAt clsStmts 0 = .Assign [.Name "g_v" ⟨159, 4, 159, 7⟩] (.Set gvE 0 ⟨159, 10, 159, 76⟩) ⟨159, 4, 159, 76⟩ := by kernel_rfl
theorem road0 : (displayRoad 0 gvE == .constants) = false := by kernel_rfl
theorem road1 : (displayRoad 0 gvE == .unsure) = true := by kernel_rfl

theorem wp_setStmt (w : World) (r : OsL) (p : Pos) (E : Value → Pos → Shared → Prop) (Q : Flow → Pos → Shared → Prop)
    (h : ∀ es ep tb L p', GoodSet w es tb → Q .next p' (Sh (tV w.params (so es ep tb)) 231 498 (r.1, L)).abs) :
    Sem.wp (model pg w) GC (exec (stAt clsStmts 0) envC) Q E p (Sh (tB w.params) 230 473 r).abs := by
  rw [stmt0]
  refine wp_set_gen gcIn gvE_ok (by decide) (m := 497) (by decide) road0 road1 (tB_alive w.params) p (fun p' => evMain w r p') fun o es' ep tb S' L p' eo hel hmem hb hf hk => ?_
  refine wp_of_ev (evStoreV w (r.1, L) p' _ o) ?_
  have z := h es' ep tb L ⟨159, 4, 159, 7⟩ ⟨hel, fun k => (hk k).symm.trans (hmem k), hb, hf⟩
  rw [← eo] at z
  exact z
end Lith
end
section
open PySem PySem.W PyProof.Rows
set_option Elab.async false
set_option maxRecDepth 100000
set_option maxHeartbeats 1000000
namespace Lith

theorem execs_cons (s : Stmt) (r : List Stmt) (env : Env) : execs (s :: r) env = (exec s env >>= fun f => match f with | .next => execs r env | f => pure f) := by
  show (exec s env).bind _ = (exec s env).bind _
  congr 1
theorem wp_cons {M : Model} {Γ : Ctx} {s : Stmt} {r : List Stmt} {env : Env} {Q : Flow → Pos → Shared → Prop} {E : Value → Pos → Shared → Prop} {p : Pos} {st : Shared}
    (h : Sem.wp M Γ (exec s env) (fun f p' s' => f = .next ∧ Sem.wp M Γ (execs r env) Q E p' s') E p st) : Sem.wp M Γ (execs (s :: r) env) Q E p st := by
  rw [execs_cons, Sem.wp_bind']
  refine Sem.wp_mono _ _ _ (fun f p' s' hq => ?_) (fun _ _ _ x => x) _ _ h
  obtain ⟨rfl, z⟩ := hq
  exact z
theorem wp_app {M : Model} {Γ : Ctx} {env : Env} {Q : Flow → Pos → Shared → Prop} {E : Value → Pos → Shared → Prop} {r : List Stmt} : ∀ {l : List Stmt} {p : Pos} {st : Shared},
    Sem.wp M Γ (execs l env) (fun f p' s' => f = .next ∧ Sem.wp M Γ (execs r env) Q E p' s') E p st → Sem.wp M Γ (execs (l ++ r) env) Q E p st
  | [], p, st, h => by
    have e : execs [] env = (pure .next : Sem Flow) := rfl
    rw [e, Sem.wp_pure'] at h
    exact h.2
  | s :: l, p, st, h => by
    rw [List.cons_append, execs_cons, Sem.wp_bind']
    rw [execs_cons, Sem.wp_bind'] at h
    refine Sem.wp_mono _ _ _ (fun f p' s' hq => ?_) (fun _ _ _ x => x) _ _ h
    cases f with
    | next => exact wp_app hq
    | brk => rw [Sem.wp_pure'] at hq; cases hq.1
    | cont => rw [Sem.wp_pure'] at hq; cases hq.1
    | ret v => rw [Sem.wp_pure'] at hq; cases hq.1

theorem den_body (b : List Stmt) (env : Env) : denote table (.body b env) = (do
    blockStart b env
    return .done (← (execs b env).onRaise (PySem.leaving env))) := rfl
theorem wpCode_body {prog : Program} {w : World} {Γ : Ctx} {b : List Stmt} {env : Env} (hc : Γ.code = .body b env) {R : Result → Shared → Prop} {p : Pos} {s : SharedT}
    (hb : ev ⟨prog, w.params⟩ (evCode fden ⟨prog, w.params⟩ 1000) Γ (blockStart b env) p s = some (.ok (), p, s))
    (h : Sem.wp (model prog w) Γ (execs b env) (fun f _ s' => R (.ok f) s') (fun _ _ _ => False) p s.abs) : wpCode (model prog w) Γ R p s.abs := by
  rw [wpCode_iff_wp, hc]
  show Sem.wp (model prog w) Γ (denote table (.body b env)) _ _ p s.abs
  rw [den_body]
  simp only [Sem.wp_bind']
  refine wp_of_ev hb ?_
  show Sem.wp (model prog w) Γ ((execs b env).onRaise (PySem.leaving env)) _ _ p s.abs
  rw [Sem.wp_onRaise]
  exact Sem.wp_mono _ _ _ (fun f p' s' q => q) (fun _ _ _ q => q.elim) _ _ h

theorem facts_of {K : List (Addr × Obj)} {T : BT} {n : Nat} {L : Life} (h1 : K.map (fun q => T.get q.1) = K.map fun q => some q.2) (h2 : (K.all fun q => Nat.blt q.1 n && aliveB q.2) = true) :
    ∀ q ∈ K, (absHeap T n L).get? q.1 = some q.2 := by
  intro q hq
  obtain ⟨a, b⟩ := Bool.and_eq_true_iff.mp (List.all_eq_true.mp h2 q hq)
  refine get?_alive ?_ b
  have lt : q.1 < n := Nat.le_of_ble_eq_true a
  rw [absHeap_at, if_pos lt]
  have e : T.get q.1 = some q.2 := (List.map_inj_left.mp h1) q hq
  rw [e]; rfl

theorem stmt8 : stAt clsStmts 8 = .Assign [.Name "a_0" ⟨277, 4, 277, 7⟩] (.List elts0 ⟨277, 10, 277, 4436⟩) ⟨277, 4, 277, 4436⟩ := by kernel_rfl
theorem stmt9 : stAt clsStmts 9 = .Assign [.Name "a_1" ⟨278, 4, 278, 7⟩] (.List elts1 ⟨278, 10, 278, 1387⟩) ⟨278, 4, 278, 1387⟩ := by kernel_rfl
theorem stmt10 : stAt clsStmts 10 = .Assign [.Name "a_2" ⟨279, 4, 279, 7⟩] (.List elts2 ⟨279, 10, 279, 265⟩) ⟨279, 4, 279, 265⟩ := by kernel_rfl
theorem stmt12 : stAt clsStmts 12 = .Assign [.Name "a_3" ⟨281, 4, 281, 7⟩] (.List elts3 ⟨281, 10, 281, 51⟩) ⟨281, 4, 281, 51⟩ := by kernel_rfl
theorem cls_eq : clsStmts = stAt clsStmts 0 :: ((clsStmts.drop 1).take 7 ++ (stAt clsStmts 8 :: stAt clsStmts 9 :: stAt clsStmts 10 :: ([stAt clsStmts 11] ++ (stAt clsStmts 12 :: ([stAt clsStmts 13] ++ []))))) := by kernel_rfl
theorem f0 (P : Params) (o : Obj) (L : Life) : ∀ q ∈ amK nsD P, (absHeap (tD P o) 273 L).get? q.1 = some q.2 := facts_of (by kernel_rfl) (by kernel_rfl)
theorem f1 (P : Params) (o : Obj) (L : Life) : ∀ q ∈ amK ns0 P, (absHeap (t0 P o) 853 L).get? q.1 = some q.2 := facts_of (by kernel_rfl) (by kernel_rfl)
theorem f2 (P : Params) (o : Obj) (L : Life) : ∀ q ∈ amK ns1 P, (absHeap (t1 P o) 1040 L).get? q.1 = some q.2 := facts_of (by kernel_rfl) (by kernel_rfl)
theorem f3 (P : Params) (o : Obj) (L : Life) : ∀ q ∈ amK nsT P, (absHeap (tT P o) 1075 L).get? q.1 = some q.2 := facts_of (by kernel_rfl) (by kernel_rfl)
theorem full0 (P : Params) (o : Obj) : fullB (tD P o) 273 = true := by kernel_rfl
theorem full1 (P : Params) (o : Obj) : fullB (t0 P o) 853 = true := by kernel_rfl
theorem full2 (P : Params) (o : Obj) : fullB (t1 P o) 1040 = true := by kernel_rfl
theorem full3 (P : Params) (o : Obj) : fullB (tT P o) 1075 = true := by kernel_rfl
theorem len0 : 273 + 3 * tab0.length = 852 := by decide +kernel
theorem len1 : 853 + 3 * tab1.length = 1039 := by decide +kernel
theorem len2 : 1040 + 3 * tab2.length = 1073 := by decide +kernel
theorem len3 : 1075 + 3 * tab3.length = 1081 := by decide +kernel
theorem noNP0 : ¬ ∃ r ∈ tab0, r.2.2 ≠ -1 := by decide +kernel
theorem noNP1 : ¬ ∃ r ∈ tab1, r.2.2 ≠ -1 := by decide +kernel
theorem noNN2 : ¬ ∃ r ∈ tab2, r.2.1 = -1 ∧ r.2.2 = -1 := by decide +kernel
theorem noPN2 : ¬ ∃ r ∈ tab2, r.2.1 ≠ -1 := by decide +kernel
theorem noNN3 : ¬ ∃ r ∈ tab3, r.2.1 = -1 ∧ r.2.2 = -1 := by decide +kernel
theorem noPN3 : ¬ ∃ r ∈ tab3, r.2.1 ≠ -1 := by decide +kernel
theorem bsC (w : World) (r : OsL) : ev ⟨pg, w.params⟩ (cl w) GC (blockStart clsStmts envC) posC (Sh (tB w.params) 230 473 r) = some (.ok (), posC, Sh (tB w.params) 230 473 r) := by kernel_rfl

abbrev NextTo (Q : Pos → Shared → Prop) : Flow → Pos → Shared → Prop := fun f p s => f = .next ∧ Q p s
theorem gcCode : GC.code = .body clsStmts envC := rfl

theorem cls_body (w : World) (r : OsL) (R : Result → Shared → Prop)
    (h : ∀ es ep tb L, GoodSet w es tb → R (.ok .next) (Sh (tU w.params (so es ep tb)) 1083 4391 (r.1, L)).abs) : wpCode (model pg w) GC R posC (Sh (tB w.params) 230 473 r).abs := by
  refine wpCode_body gcCode (bsC w r) ?_
  rw [cls_eq]
  refine wp_cons (wp_setStmt w r _ _ _ fun es ep tb L p' g => ⟨rfl, ?_⟩)
  generalize hr : (r.1, L) = r'
  refine wp_app ?_
  rw [fexecs_eq]
  have eD : ∀ p, ev ⟨pg, w.params⟩ (cl w) GC (fexecs ((clsStmts.drop 1).take 7) envC) p (Sh (tV w.params (so es ep tb)) 231 498 r') = some (.ok .next, { line := 224, col := 4, endLine := 276, endCol := 19 }, Sh (tD w.params (so es ep tb)) 273 555 r') := fun p => evDp w r' _ p
  refine wp_of_ev (eD _) ⟨rfl, ?_⟩
  rw [← fexecs_eq]
  refine wp_cons ?_
  rw [stmt8]
  refine wp_tableN (x := 0) rfl len0 tok0 ames0 (fun _ => am0NN) (fun _ => am0PN) (fun z => absurd z noNP0) (full0 _ _) (f0 _ _ _) fun p1 => ?_
  refine wp_of_ev (tail0 w r' _ p1 _) ⟨rfl, ?_⟩
  refine wp_cons ?_
  rw [stmt9]
  refine wp_tableN (x := 580) rfl len1 tok1 ames1 (fun _ => am1NN) (fun _ => am1PN) (fun z => absurd z noNP1) (full1 _ _) (f1 _ _ _) fun p2 => ?_
  refine wp_of_ev (tail1 w r' _ p2 _) ⟨rfl, ?_⟩
  refine wp_cons ?_
  rw [stmt10]
  refine wp_tableN (x := 767) rfl len2 tok2 ames2 (fun z => absurd z noNN2) (fun z => absurd z noPN2) (fun _ => am2NP) (full2 _ _) (f2 _ _ _) fun p3 => ?_
  refine wp_of_ev (tail2 w r' _ p3 _) ⟨rfl, ?_⟩
  refine wp_app ?_
  rw [fexecs_eq]
  refine wp_of_ev (evT w r' _ _) ⟨rfl, ?_⟩
  rw [← fexecs_eq]
  refine wp_cons ?_
  rw [stmt12]
  refine wp_tableN (x := 802) rfl len3 tok3 ames3 (fun z => absurd z noNN3) (fun z => absurd z noPN3) (fun _ => am3NP) (full3 _ _) (f3 _ _ _) fun p4 => ?_
  refine wp_of_ev (tail3 w r' _ p4 _) ⟨rfl, ?_⟩
  refine wp_app ?_
  rw [fexecs_eq]
  refine wp_of_ev (evU w r' _ _) ⟨rfl, ?_⟩
  have e : fexecs [] envC = (pure .next : Sem Flow) := by rw [← fexecs_eq]; rfl
  rw [e, Sem.wp_pure', ← hr]
  exact h es ep tb L g
end Lith
end
section
open PySem PySem.W PyProof.Rows
set_option Elab.async false
set_option maxRecDepth 100000
set_option maxHeartbeats 1000000
namespace Lith

theorem top_split : bodyE = top.take 6 ++ ([stAt top 6] ++ top.drop 7) := by kernel_rfl

theorem ev6 (w : World) (os : OsL) (p : Pos) : ev ⟨pg, w.params⟩ (cl w) G0 (fexecs (top.take 6) envT) p (Sh (tZ w.params) 15 187 os) =
    some (.ok .next, { line := 157, col := 0, endLine := 157, endCol := 8 }, Sh (tK w.params) 223 461 os) := by kernel_rfl

theorem wp_top (w : World) (r : OsL) (p : Pos) (Q : Flow → Pos → Shared → Prop) (E : Value → Pos → Shared → Prop)
    (h : ∀ es ep tb L p', GoodSet w es tb → Q .next p' (Sh (tF w.params (so es ep tb)) 1203 4541 (r.1, L)).abs) :
    Sem.wp (model pg w) G0 (execs bodyE envT) Q E p (Sh (tZ w.params) 15 187 r).abs := by
  rw [top_split]
  refine wp_app ?_
  rw [fexecs_eq]
  refine wp_of_ev (ev6 w r p) ⟨rfl, ?_⟩
  rw [← fexecs_eq]
  refine wp_app ?_
  rw [fexecs_eq]
  refine wp_of_evTo (toCls_eq w r) ?_
  refine cls_body w r _ fun es ep tb L g => ?_
  refine wp_of_ev (evG w r (r.1, L) es ep tb) ⟨rfl, ?_⟩
  exact wp_of_ev (evF w (r.1, L) (so es ep tb)) (h es ep tb L _ g)

noncomputable def tBoot (P : Params) : BT := grow .nil 0 [boot_o_0 P, boot_o_1 P, boot_o_2 P, boot_o_3 P, boot_o_4 P, boot_o_5 P, boot_o_6 P, boot_o_7 P, boot_o_8 P, boot_o_9 P, boot_o_10 P]
theorem boot_abs (P : Params) : absHeap (tBoot P) 11 {} = boot_heap P := by kernel_rfl
noncomputable def ΓS : Ctx := ⟨.builtin "claim.caller" {}, none, none, [], none⟩
noncomputable def toBody (w : World) (os : OsL) : Option (Ctx × Pos × SharedT × (Result → Sem Fin)) :=
  evTo isBody ⟨pg, w.params⟩ (cl w) ΓS (topStub pg).cur default (Sh (tBoot w.params) 11 boot_toks os)
noncomputable def kBody (w : World) (os : OsL) : Result → Sem Fin := match toBody w os with
  | some (_, _, _, k) => k
  | none => fun _ => .unsupported ""
theorem toBody_eq (w : World) (os : OsL) : toBody w os = some (G0, default, Sh (tZ w.params) 15 187 os, kBody w os) := by kernel_rfl
theorem bs0 (w : World) (r : OsL) : ev ⟨pg, w.params⟩ (cl w) G0 (blockStart bodyE envT) default (Sh (tZ w.params) 15 187 r) = some (.ok (), default, Sh (tZ w.params) 15 187 r) := by kernel_rfl
theorem kBody_eq (w : World) (r : OsL) : kBody w r (.ok .next) = .pure (.done (.ret .none)) := by kernel_rfl

theorem wp_stub (w : World) (os : OsState) (Q : Fin → Pos → Shared → Prop) (E : Value → Pos → Shared → Prop)
    (h : ∀ es ep tb L, GoodSet w es tb → Q (.done (.ret .none)) default (Sh (tF w.params (so es ep tb)) 1203 4541 (os, L)).abs) :
    Sem.wp (model pg w) ΓS (topStub pg).cur Q E default (Sh (tBoot w.params) 11 boot_toks (os, {})).abs := by
  refine wp_of_evTo (toBody_eq w (os, {})) ?_
  refine wpCode_body rfl (bs0 w _) ?_
  refine wp_top w _ _ _ _ fun es ep tb L p' g => ?_
  rw [kBody_eq]
  exact h es ep tb L g
end Lith
end
section
open PySem PySem.W PyProof.Rows
set_option Elab.async false
set_option maxRecDepth 100000
set_option maxHeartbeats 1000000
namespace Lith
theorem runN_running_life {den : Code → Sem Fin} {prog : Program} {w : World} : ∀ (n : Nat) {s s' : Shared} {t t' : Thread}, runN den prog w n s t = .running s' t' → s'.heap.life = s.heap.life
  | 0, s, s', t, t', h => by
    have e : Run.running s t = .running s' t' := h
    injection e with e1 _
    rw [e1]
  | n + 1, s, s', t, t', h => by
    simp only [runN] at h
    cases hs : step den prog w s t with
    | go s₂ t₂ =>
      rw [hs] at h
      exact (runN_running_life n h).trans (step_life den prog w s s₂ t t₂ hs)
    | halt o s₂ => rw [hs] at h; cases h
theorem ran_of_wp {M : Model} {c : Code} {t : Sem Fin} {p : Pos} {s : Shared} {P : Shared → Prop} (hreg : s.asleep) (hP : ∀ s', P s' → s'.gens = #[])
    (h : Sem.wp M ⟨c, none, none, [], none⟩ t (fun f _ s' => f = .done (.ret .none) ∧ P s') (fun _ _ _ => False) p s) :
    ∃ n t₁ s₁, schedN M.den M.prog M.w n (.single s ⟨t, c, p, []⟩) = .running (.single s₁ t₁) ∧ through t₁ = true ∧ P s₁ ∧ s₁.heap.life = s.heap.life := by
  have nol : ∀ s' : Shared, s'.gens = #[] → leftWithCleanup s'.gens = false := fun s' e => by rw [e]; simp [leftWithCleanup]
  have h2 : Sem.wp M ⟨c, none, none, [], none⟩ t (Sem.finPost M ⟨c, none, none, [], none⟩ fun r s' => P s' ∧ leftWithCleanup s'.gens = false)
        (fun e _ s' => P s' ∧ leftWithCleanup s'.gens = false) p s := by
    refine Sem.wp_mono _ _ _ (fun f p' s' q => ?_) (fun _ _ _ q => q.elim) _ _ h
    obtain ⟨rfl, q⟩ := q
    exact ⟨q, nol _ (hP _ q)⟩
  obtain ⟨n, r, s', hn, hR⟩ := (wp_iff_halts t (fun _ s' => P s') p s).mp h2
  obtain ⟨s'', hr, hf, hc⟩ := runNI_real M.den M.prog M.w hn (outcomeOf_ends r)
  have hne : ∀ k s₂, runN M.den M.prog M.w k s ⟨t, c, p, []⟩ ≠ .halted (.unsupported "lifetime:generator-with-cleanup-left-suspended") s₂ := by
    intro k s₂ hk
    have a := runN_mono M.den M.prog M.w n k s _ _ s'' hr
    have b := runN_mono M.den M.prog M.w k n s _ _ s₂ hk
    rw [Nat.add_comm, b] at a
    injection a with a1 _
    have := outcomeOf_ends r
    rw [← a1] at this
    exact absurd this (by simp [Outcome.ends])
  obtain ⟨m, s₃, σ, p', leaf, e1, e2, e3⟩ := wp_reaches (c := c) h
  rcases e3 with ⟨f, rfl, rfl, q⟩ | ⟨e, _, q⟩
  · have e := Shared.eq_of_forget_eq e2 (hP _ q)
    subst e
    refine ⟨m, ⟨.pure (.done (.ret .none)), c, p', []⟩, σ, ?_, rfl, q, runN_running_life m e1⟩
    rw [schedN_eq_runN M.den M.prog M.w s _ hreg ⟨hc, hne⟩ m, e1]
    rfl
  · exact q.elim
end Lith
end
section
open PySem PySem.W PyProof.Rows
set_option Elab.async false
set_option maxRecDepth 100000
set_option maxHeartbeats 1000000
namespace Lith

noncomputable def theMods : List Str := importedModules pg.main.body
noncomputable def fin (w : World) (o : Obj) (os : OsState) : SharedT := Sh (tF w.params o) 1203 4541 (os, {})
theorem oks (w : World) (es : Array (Int × Value)) (ep : Nat) (tb : SetTable) (os : OsState) :
    (staticsOk theMods (boot_heap w.params) (fin w (so es ep tb) os).abs.heap && namesBound pg (fin w (so es ep tb) os).abs.heap && gensDone (fin w (so es ep tb) os).abs && laidKept (boot_heap w.params) (fin w (so es ep tb) os).abs.heap) = true := by kernel_rfl
theorem old0 (P : Params) (o : Obj) : [0,1,4,5,6,7,8,9,10].map (fun i => (tBoot P).get i) = [0,1,4,5,6,7,8,9,10].map (fun i => (tF P o).get i) := by kernel_rfl
theorem opensPlain : opening pg = plainProg pg.main.scope.names := by kernel_rfl
theorem noFence (s : Shared) : fenceModules? pg s = some s := by kernel_rfl
theorem boot_left : ∀ w : World, (fencedOpening treeTable pg w 600).map (fun s => (s.heap, s.gens, s.drawn, s.toks)) = some (boot_heap w.params, Array.mk [], boot_drawn, boot_toks) := boot_open opensPlain rfl noFence
theorem boot_rest : boot_drawn = {} := by kernel_rfl

theorem old_kept (P : Params) (o : Obj) (b : Addr) (x : Obj) (L : Life) (h1 : b < 11) (h2 : b ≠ mainNs) (h3 : b ≠ cStatics) (h : (boot_heap P).get? b = some x) : (absHeap (tF P o) 1203 L).get? b = some x := by
  rw [← boot_abs P] at h
  obtain ⟨g1, g2⟩ := get?_objs h
  refine get?_alive ?_ g2
  rw [absHeap_at, if_pos h1] at g1
  rw [absHeap_at, if_pos (Nat.lt_of_lt_of_le h1 (Nat.le_of_ble_eq_true rfl)), ← g1]
  have e : ∀ i ∈ [0,1,4,5,6,7,8,9,10], (tBoot P).get i = (tF P o).get i := List.map_inj_left.mp (old0 P o)
  have m : ∀ b : Nat, b < 11 → b ≠ 3 → b ≠ 2 → b ∈ [0,1,4,5,6,7,8,9,10] := by decide
  rw [e b (m b h1 h2 h3)]

theorem asleep0 (w : World) (os : OsState) : (Sh (tBoot w.params) 11 boot_toks (os, {})).abs.asleep := ⟨rfl, rfl⟩

theorem ran (w : World) (os : OsState) : ∃ n t₁ es ep tb, GoodSet w es tb ∧ schedN (denote table) pg w n (.single (Sh (tBoot w.params) 11 boot_toks (os, {})).abs (topStub pg)) = .running (.single (fin w (so es ep tb) os).abs t₁) ∧ through t₁ = true := by
  obtain ⟨n, t₁, s₁, h1, h2, ⟨es, ep, tb, L, g, rfl⟩, h4⟩ := ran_of_wp (M := model pg w) (P := fun s' => ∃ es ep tb L, GoodSet w es tb ∧ s' = (Sh (tF w.params (so es ep tb)) 1203 4541 (os, L)).abs) (asleep0 w os)
    (fun s' ⟨es, ep, tb, L, g, e⟩ => by rw [e]; rfl) (wp_stub w os _ _ fun es ep tb L g => ⟨rfl, es, ep, tb, L, g, rfl⟩)
  have e : L = {} := h4
  subst e
  exact ⟨n, t₁, es, ep, tb, g, h1, h2⟩
end Lith
end
section
open PySem PySem.W PyProof.Rows
set_option Elab.async false
set_option maxRecDepth 100000
set_option maxHeartbeats 1000000
namespace Lith

noncomputable def keepIx : List Nat := [0,2,4,6,7,8,10,11,12,13,14,15,16,17,18,19,20,21,22,23,24,25]
noncomputable def qv : Program := { pg with main := { pg.main with body := keepIx.map (stAt top) } }
noncomputable def loose : List Str := [Str.ofString "LithuanianStemmer"]
noncomputable def Xt : Shared → Bool := fun s => xlAt qv [] s && recOk [] s
theorem seenF (w : World) (es : Array (Int × Value)) (ep : Nat) (tb : SetTable) (os : OsState) : openSeen qv loose theMods Xt true (fin w (so es ep tb) os).abs = openGood qv loose := by kernel_rfl
end Lith
end
section
open PySem PySem.W PyProof.Rows
set_option Elab.async false
set_option maxRecDepth 100000
set_option maxHeartbeats 1000000
namespace Lith

/-- what the walk knows of the heap: every object that the top left, with a set object that answers for `g_v` -/
noncomputable def YP (w : World) (h : Heap) : Prop := ∃ es ep tb, GoodSet w es tb ∧ ∀ b o, (absHeap (tF w.params (so es ep tb)) 1203 {}).get? b = some o → h.get? b = some o
theorem YP.keeps {w : World} {h h' : Heap} (y : YP w h) (k : ∀ b o, h.get? b = some o → h'.get? b = some o) : YP w h' := by
  obtain ⟨es, ep, tb, g, x⟩ := y
  exact ⟨es, ep, tb, g, fun b o e => k b o (x b o e)⟩

theorem chains : chainsOk qv = true := by kernel_rfl
abbrev XPL := XL qv []
theorem absHeap_life (t : BT) (n : Nat) (L : Life) : (absHeap t n L).life = L := by kernel_rfl
theorem fin_heap (w : World) (o : Obj) (os : OsState) : (fin w o os).abs.heap = absHeap (tF w.params o) 1203 {} := by kernel_rfl
theorem fin_gens (w : World) (o : Obj) (os : OsState) : (fin w o os).abs.gens = #[] := by kernel_rfl
theorem fin_os (w : World) (o : Obj) (os : OsState) : (fin w o os).abs.os = os := by kernel_rfl
theorem old_kept' (P : Params) (o : Obj) (b : Addr) (x : Obj) (L : Life) (h2 : b ≠ mainNs) (h3 : b ≠ cStatics) (h : (boot_heap P).get? b = some x) : (absHeap (tF P o) 1203 L).get? b = some x := by
  have lt : b < 11 := by
    have z := h
    rw [← boot_abs] at z
    have := (get?_objs z).1
    rw [absHeap_at] at this
    by_cases q : b < 11
    · exact q
    · rw [if_neg q] at this; cases this
  exact old_kept P o b x L lt h2 h3 h
theorem behindL (w : World) : (∃ s, AfterRun (opening pg) w s) ∧ ∀ s, AfterRun (opening pg) w s → ∃ s₀, fenceModules? pg s = some s₀ ∧ s₀.gens = #[] ∧ ∃ s₁, TopRan pg w s₀ s₁ ∧ s₁.asleep ∧ s₁.gens = #[] ∧
    s₁.heap.isNs mainGlobals = true ∧ Ground qv loose [] XPL w s₁ (s₁.heap.nsMap mainGlobals) (s₁.heap.nsMap builtinsNs) s₁.heap ∧ YP w s₁.heap := by
  have h := boot_left w
  rw [← table_eq_tree] at h
  obtain ⟨s₀, h2, hv⟩ := Option.map_eq_some_iff.mp h
  obtain ⟨s, h4, h5⟩ := Option.bind_eq_some_iff.mp h2
  have A := AfterImport.of_importEnds h4
  refine ⟨⟨s, A⟩, fun s' hs' => ?_⟩
  obtain rfl : s' = s := AfterImport.unique hs' A
  obtain ⟨e1, hv⟩ := Prod.mk.inj hv
  obtain ⟨e2, hv⟩ := Prod.mk.inj hv
  obtain ⟨e3, e4⟩ := Prod.mk.inj hv
  obtain ⟨heap, gens, drawn, toks, os⟩ := s₀
  simp only at e1 e2 e3 e4
  subst e1 e2 e3 e4
  obtain ⟨n, t₁, es, ep, tb, g, r1, r2⟩ := ran w os
  have st : (Sh (tBoot w.params) 11 boot_toks (os, {})).abs = ⟨boot_heap w.params, Array.mk [], boot_drawn, boot_toks, os⟩ := by
    show (⟨absHeap (tBoot w.params) 11 {}, #[], {}, boot_toks, os⟩ : Shared) = _
    rw [boot_abs, boot_rest]
  rw [st] at r1
  generalize hf : (fin w (so es ep tb) os).abs = s₁ at r1
  have seen := seenF w es ep tb os
  rw [hf] at seen
  have xt : ∀ s, Xt s = true → XPL (s.heap.nsMap mainGlobals) s.heap := fun s e => xl_of s (Bool.and_eq_true_iff.mp e).1
  obtain ⟨G, g0, g1, g2, g3, g4, g5⟩ := ground_of_open (w := w) (XP := XPL) xt chains seen
  have ok := oks w es ep tb os
  rw [hf] at ok
  obtain ⟨hs, hlk⟩ := Bool.and_eq_true_iff.mp ok
  obtain ⟨hs, hgd⟩ := Bool.and_eq_true_iff.mp hs
  obtain ⟨hs, hnb⟩ := Bool.and_eq_true_iff.mp hs
  have eh : s₁.heap = absHeap (tF w.params (so es ep tb)) 1203 {} := hf ▸ fin_heap w _ os
  have el : s₁.heap.life = (boot_heap w.params).life := by rw [eh, ← boot_abs, absHeap_life, absHeap_life]
  have eg : s₁.gens = #[] := hf ▸ fin_gens w _ os
  have eo : s₁.os = os := hf ▸ fin_os w _ os
  have ea : s₁.asleep := by unfold Shared.asleep; rw [eh, absHeap_life]; exact ⟨rfl, rfl⟩
  have er : s₁.rest = (⟨boot_heap w.params, Array.mk [], boot_drawn, boot_toks, os⟩ : Shared).rest := Shared.rest_eq eo
  have y : YP w s₁.heap := ⟨es, ep, tb, g, fun b o e => by rw [eh]; exact e⟩
  refine ⟨_, h5, rfl, s₁, ⟨⟨n, t₁, r1, r2⟩, el, er, fun b o hb hn => ?_, g2, statics_of_ok hs, g3, g4, g5, gens_of_done hgd, names_of_bound hnb, laid_of_kept hlk⟩, ea, eg, g1, G, y⟩
  rw [eh]
  exact old_kept' w.params (so es ep tb) b o {} (fun q => hn (.inl q)) (fun q => hn (.inr (.inl q))) hb
end Lith
end
section
open PySem PySem.W PyProof.Rows
set_option Elab.async false
set_option maxRecDepth 100000
set_option maxHeartbeats 1000000
namespace Lith
abbrev rl : OpenRow := PySem.Challenge.rw_ah0040_01.row
theorem rl_ok : (chainsOk qv && opensWell rl.prog && (frees rl.toRowW && rl.within.isEmpty)) = true := by kernel_rfl

theorem holdsL {d : DefRec} {kwd : List (Str × Expr)} (hdef : defOf qv rl.name = some (d, kwd)) (hp : rl.prog.theDef rl.name = some (d.params, d.body, d.scope)) (hk : kwWritten? d.params.kwonlyargs d.params.kw_defaults = some kwd)
    (k1 : rl.wellSaid = true) (hb : rl.prog.bare) (hw : rl.toRowW.promised) (call : WalkO qv loose XPL YP rl.toRowW d kwd fun f vs => PySem.call f vs) : rl.Holds := by
  refine ⟨k1, hw, ?_⟩
  obtain ⟨ok, k5⟩ := Bool.and_eq_true_iff.mp rl_ok
  obtain ⟨hch, o1⟩ := Bool.and_eq_true_iff.mp ok
  obtain ⟨k5, k6⟩ := Bool.and_eq_true_iff.mp k5
  obtain ⟨hsame, hu, ha, hap, hm⟩ := frees_parts k5
  refine ⟨⟨hb, o1, List.map_eq_nil_iff.mpr hm⟩, hw.witness, fun w => ⟨(behindL w).1, fun s' hs' => ?_⟩⟩
  obtain ⟨s₀, hf, hg0, s, hT, hz, hgens, hg, G0, y⟩ := (behindL w).2 s' hs'
  have RF : RecFacts [] s.heap := recFacts_nil rfl
  have hpin : ∀ n ∈ (if rl.pinned then [rl.name] else []), isTheDefsW rl.prog s.heap n := fun n hn => by
    obtain rfl : n = rl.name := by split at hn <;> simp_all
    exact pinned_of_view hg G0 hdef hp hk
  refine ⟨s₀, hf, hg0, s, hT, hpin, RF.1, RF.2.1, ?_⟩
  have G : Ground qv loose rl.toRowW.records XPL w s _ _ s.heap := RF.ground G0
  refine ClaimW.callFrom_of_specG (c := rl.toRowW.claim) hz hgens fun args hpre hlay ord hord => ?_
  obtain ⟨⟨vs, s₁⟩, hlaid⟩ := Option.isSome_iff_exists.mp (layAllW_isSome (P := w.params) (ord := ord) G.has args rl.toRowW.args s (pre_splitW hpre).1)
  have keeps := layAllW_keeps _ _ _ hlaid
  have hal := layAllW_rest _ _ _ hlaid
  obtain ⟨as, hrd, hin, hold⟩ := reads_layAllW hord _ _ _ hlaid hlay s₁.heap (fun _ _ e => e)
  have L : Laid rl.toRowW.records w s s₁ args vs as := ⟨⟨ord, hord, hlaid⟩, hrd, hin, hold, keeps, hal.1.trans hgens, hal.2.2.1⟩
  have G₁ := G.keeps XL.keeps keeps
  obtain ⟨a, o, pm, cd, doc, dV, kV, h1, h2, h3, h4, h5⟩ := G₁.fn hdef
  have h := call w s s₁ _ _ G₁ (y.keeps keeps) a o pm cd doc dV kV h2 h3 h4 h5 (defOf_name hdef ▸ h1) L.gens args vs as hpre hlay L.reads L.well (L.low G.low)
  have fin : ∀ {r s'}, GoodWG rl.toRowW.claim (classAt s.heap) (ExcName.means s.heap) args s₁ r s' → rl.toRowW.claim.Ends s args vs s₁ r s' ∧ s'.os = s.os ∧ AllBare s'.gens ∧ (rl.writes = true → namesKept rl.prog rl.keeps s.heap s'.heap ∧ ∀ x ∈ rl.toRowW.records, ∀ a, classAt s.heap x.1 = some a → recordClass s'.heap a x.1 (x.2.map (·.1)) = true) := fun {r s'} g => by
    have z := g.laid (c := rl.toRowW.claim) hsame (List.isEmpty_iff.mp k6) (ident_freeW hu ha hap) L
    exact ⟨z.1, z.2.1, z.2.2, fun q => ⟨namesKept_of hT hg _ keeps g.2.1.old, noTable rfl q⟩⟩
  refine ⟨vs, s₁, hlaid, ?_⟩
  refine wpAny_bind (wpAny_nsGet G₁.T.g ?_)
  rw [h1]
  refine wpAny_bind (wpAny_mono h (fun v s' g => wpAny_pure ⟨_, rfl, fin g⟩) fun e s' g => fin g)
end Lith
end
section
open PySem PySem.W PyProof.Rows
set_option Elab.async false
set_option maxRecDepth 100000
set_option maxHeartbeats 0
namespace Lith
/- printed by mkK.py: the objects that the walk knows whole -/
noncomputable def kL (P : Params) : Frag :=
  ((nat_lit 2, ⟨.none, none, (.dict #[⟨PyData.keyHash P (⟨#[116, 121, 112, 101, 46, 95, 95, 115, 117, 98, 99, 108, 97, 115, 115, 101, 115, 95, 95, 46, 69, 120, 99, 101, 112, 116, 105, 111, 110, 46, 48]⟩ : Str), (.str (⟨#[116, 121, 112, 101, 46, 95, 95, 115, 117, 98, 99, 108, 97, 115, 115, 101, 115, 95, 95, 46, 69, 120, 99, 101, 112, 116, 105, 111, 110, 46, 48]⟩ : Str) (4416)), (.int 1097 0)⟩, ⟨PyData.keyHash P (⟨#[116, 121, 112, 101, 46, 95, 95, 115, 117, 98, 99, 108, 97, 115, 115, 101, 115, 95, 95, 46, 69, 120, 99, 101, 112, 116, 105, 111, 110, 46, 110]⟩ : Str), (.str (⟨#[116, 121, 112, 101, 46, 95, 95, 115, 117, 98, 99, 108, 97, 115, 115, 101, 115, 95, 95, 46, 69, 120, 99, 101, 112, 116, 105, 111, 110, 46, 110]⟩ : Str) (4417)), (.int 2 0)⟩, ⟨PyData.keyHash P (⟨#[116, 121, 112, 101, 46, 95, 95, 115, 117, 98, 99, 108, 97, 115, 115, 101, 115, 95, 95, 46, 69, 120, 99, 101, 112, 116, 105, 111, 110, 46, 49]⟩ : Str), (.str (⟨#[116, 121, 112, 101, 46, 95, 95, 115, 117, 98, 99, 108, 97, 115, 115, 101, 115, 95, 95, 46, 69, 120, 99, 101, 112, 116, 105, 111, 110, 46, 49]⟩ : Str) (4436)), (.int 1110 0)⟩] 3), #[]⟩) : Nat × Obj) ::
  ((nat_lit 3, ⟨(.type "dict"), none, (.dict #[⟨PyData.keyHash P (⟨#[95, 95, 110, 97, 109, 101, 95, 95]⟩ : Str), (.str (⟨#[95, 95, 110, 97, 109, 101, 95, 95]⟩ : Str) (165)), (.str (⟨#[108, 97, 119, 95, 97, 104, 48, 48, 52, 48, 95, 48, 49]⟩ : Str) (4440))⟩, ⟨PyData.keyHash P (⟨#[95, 95, 100, 111, 99, 95, 95]⟩ : Str), (.str (⟨#[95, 95, 100, 111, 99, 95, 95]⟩ : Str) (166)), .none⟩, ⟨PyData.keyHash P (⟨#[95, 95, 112, 97, 99, 107, 97, 103, 101, 95, 95]⟩ : Str), (.str (⟨#[95, 95, 112, 97, 99, 107, 97, 103, 101, 95, 95]⟩ : Str) (167)), .none⟩, ⟨PyData.keyHash P (⟨#[95, 95, 108, 111, 97, 100, 101, 114, 95, 95]⟩ : Str), (.str (⟨#[95, 95, 108, 111, 97, 100, 101, 114, 95, 95]⟩ : Str) (168)), (.builtin "__main__.__loader__#opaque")⟩, ⟨PyData.keyHash P (⟨#[95, 95, 115, 112, 101, 99, 95, 95]⟩ : Str), (.str (⟨#[95, 95, 115, 112, 101, 99, 95, 95]⟩ : Str) (169)), .none⟩, ⟨PyData.keyHash P (⟨#[95, 95, 97, 110, 110, 111, 116, 97, 116, 105, 111, 110, 115, 95, 95]⟩ : Str), (.str (⟨#[95, 95, 97, 110, 110, 111, 116, 97, 116, 105, 111, 110, 115, 95, 95]⟩ : Str) (170)), (.ref (6))⟩, ⟨PyData.keyHash P (⟨#[95, 95, 98, 117, 105, 108, 116, 105, 110, 115, 95, 95]⟩ : Str), (.str (⟨#[95, 95, 98, 117, 105, 108, 116, 105, 110, 115, 95, 95]⟩ : Str) (171)), (.ref (4))⟩, ⟨PyData.keyHash P (⟨#[95, 95, 102, 105, 108, 101, 95, 95]⟩ : Str), (.str (⟨#[95, 95, 102, 105, 108, 101, 95, 95]⟩ : Str) (173)), (.str (⟨#[47, 99, 108, 97, 105, 109, 47, 99, 117, 116, 46, 112, 121]⟩ : Str) (172))⟩, ⟨PyData.keyHash P (⟨#[95, 95, 99, 97, 99, 104, 101, 100, 95, 95]⟩ : Str), (.str (⟨#[95, 95, 99, 97, 99, 104, 101, 100, 95, 95]⟩ : Str) (174)), .none⟩, ⟨PyData.keyHash P (⟨#[95, 119, 97, 108, 108]⟩ : Str), (.str (⟨#[95, 119, 97, 108, 108]⟩ : Str) (193)), (.ref (21))⟩, ⟨PyData.keyHash P (⟨#[66, 97, 115, 101, 83, 116, 101, 109, 109, 101, 114]⟩ : Str), (.str (⟨#[66, 97, 115, 101, 83, 116, 101, 109, 109, 101, 114]⟩ : Str) (423)), (.ref (197))⟩, ⟨PyData.keyHash P (⟨#[65, 109, 111, 110, 103]⟩ : Str), (.str (⟨#[65, 109, 111, 110, 103]⟩ : Str) (458)), (.ref (218))⟩, ⟨PyData.keyHash P (⟨#[76, 105, 116, 104, 117, 97, 110, 105, 97, 110, 83, 116, 101, 109, 109, 101, 114]⟩ : Str), (.str (⟨#[76, 105, 116, 104, 117, 97, 110, 105, 97, 110, 83, 116, 101, 109, 109, 101, 114]⟩ : Str) (4399)), (.ref (1085))⟩, ⟨PyData.keyHash P (⟨#[108, 97, 98, 48]⟩ : Str), (.str (⟨#[108, 97, 98, 48]⟩ : Str) (4419)), (.ref (1097))⟩, ⟨PyData.keyHash P (⟨#[108, 97, 98, 49]⟩ : Str), (.str (⟨#[108, 97, 98, 49]⟩ : Str) (4439)), (.ref (1110))⟩, ⟨PyData.keyHash P (⟨#[95, 108, 97, 119, 95, 108, 101, 116, 116, 101, 114, 115]⟩ : Str), (.str (⟨#[95, 108, 97, 119, 95, 108, 101, 116, 116, 101, 114, 115]⟩ : Str) (4443)), (.str (⟨#[97, 261, 98, 99, 269, 100, 101, 281, 279, 102, 103, 104, 105, 303, 121, 106, 107, 108, 109, 110, 111, 112, 114, 115, 353, 116, 117, 371, 363, 118, 122, 382]⟩ : Str) (4442))⟩, ⟨PyData.keyHash P (⟨#[95, 108, 97, 119, 95, 118, 111, 119, 101, 108, 115]⟩ : Str), (.str (⟨#[95, 108, 97, 119, 95, 118, 111, 119, 101, 108, 115]⟩ : Str) (4445)), (.str (⟨#[97, 101, 105, 111, 117, 121, 261, 281, 279, 303, 363, 371]⟩ : Str) (4444))⟩, ⟨PyData.keyHash P (⟨#[95, 108, 97, 119, 95, 99, 108, 111, 115, 101, 115]⟩ : Str), (.str (⟨#[95, 108, 97, 119, 95, 99, 108, 111, 115, 101, 115]⟩ : Str) (4447)), (.str (⟨#[98, 99, 100, 102, 104, 122, 382, 353]⟩ : Str) (4446))⟩, ⟨PyData.keyHash P (⟨#[95, 108, 97, 119, 95, 101, 110, 100, 115]⟩ : Str), (.str (⟨#[95, 108, 97, 119, 95, 101, 110, 100, 115]⟩ : Str) (4453)), (.ref (1120))⟩, ⟨PyData.keyHash P (⟨#[95, 108, 97, 119, 95, 109, 111, 114, 101, 95, 101, 110, 100, 115]⟩ : Str), (.str (⟨#[95, 108, 97, 119, 95, 109, 111, 114, 101, 95, 101, 110, 100, 115]⟩ : Str) (4459)), (.ref (1127))⟩, ⟨PyData.keyHash P (⟨#[95, 108, 97, 119, 95, 106, 111, 105, 110, 105, 110, 103]⟩ : Str), (.str (⟨#[95, 108, 97, 119, 95, 106, 111, 105, 110, 105, 110, 103]⟩ : Str) (4465)), (.ref (1134))⟩, ⟨PyData.keyHash P (⟨#[95, 108, 97, 119, 95, 105, 110, 110, 101, 114]⟩ : Str), (.str (⟨#[95, 108, 97, 119, 95, 105, 110, 110, 101, 114]⟩ : Str) (4471)), (.ref (1141))⟩, ⟨PyData.keyHash P (⟨#[95, 108, 97, 119, 95, 119, 111, 109, 101, 110]⟩ : Str), (.str (⟨#[95, 108, 97, 119, 95, 119, 111, 109, 101, 110]⟩ : Str) (4477)), (.ref (1148))⟩, ⟨PyData.keyHash P (⟨#[95, 108, 97, 119, 95, 100, 101, 101, 100, 115]⟩ : Str), (.str (⟨#[95, 108, 97, 119, 95, 100, 101, 101, 100, 115]⟩ : Str) (4483)), (.ref (1155))⟩, ⟨PyData.keyHash P (⟨#[95, 108, 97, 119, 95, 112, 97, 105, 114, 115]⟩ : Str), (.str (⟨#[95, 108, 97, 119, 95, 112, 97, 105, 114, 115]⟩ : Str) (4489)), (.ref (1162))⟩, ⟨PyData.keyHash P (⟨#[95, 108, 97, 119, 95, 115, 104, 111, 114, 116]⟩ : Str), (.str (⟨#[95, 108, 97, 119, 95, 115, 104, 111, 114, 116]⟩ : Str) (4495)), (.ref (1169))⟩, ⟨PyData.keyHash P (⟨#[95, 108, 97, 119, 95, 97, 116]⟩ : Str), (.str (⟨#[95, 108, 97, 119, 95, 97, 116]⟩ : Str) (4503)), (.ref (1176))⟩, ⟨PyData.keyHash P (⟨#[95, 108, 97, 119, 95, 98, 111, 100, 121]⟩ : Str), (.str (⟨#[95, 108, 97, 119, 95, 98, 111, 100, 121]⟩ : Str) (4512)), (.ref (1183))⟩, ⟨PyData.keyHash P (⟨#[95, 108, 97, 119, 95, 101, 110, 100]⟩ : Str), (.str (⟨#[95, 108, 97, 119, 95, 101, 110, 100]⟩ : Str) (4519)), (.ref (1190))⟩, ⟨PyData.keyHash P (⟨#[95, 108, 97, 119, 95, 119, 111, 114, 100]⟩ : Str), (.str (⟨#[95, 108, 97, 119, 95, 119, 111, 114, 100]⟩ : Str) (4525)), (.ref (1195))⟩, ⟨PyData.keyHash P (⟨#[108, 97, 119]⟩ : Str), (.str (⟨#[108, 97, 119]⟩ : Str) (4540)), (.ref (1202))⟩] 31), #[]⟩) : Nat × Obj) ::
  ((nat_lit 15, ⟨(.type "tuple"), none, (.seq #[] 0), #[]⟩) : Nat × Obj) ::
  ((nat_lit 17, ⟨(.type "tuple"), none, (.seq #[(.str (⟨#[107]⟩ : Str) (190))] 0), #[]⟩) : Nat × Obj) ::
  ((nat_lit 18, ⟨(.type "tuple"), none, (.seq #[] 0), #[]⟩) : Nat × Obj) ::
  ((nat_lit 20, ⟨(.type "code"), none, (.fields #[(.str (⟨#[95, 119, 97, 108, 108]⟩ : Str) (187)), (.str (⟨#[95, 119, 97, 108, 108]⟩ : Str) (188)), (.str (⟨#[47, 99, 108, 97, 105, 109, 47, 99, 117, 116, 46, 112, 121]⟩ : Str) (189)), (.int 1 0), (.int 1 0), (.int 0 0), (.int 0 0), (.int 3 0), (.ref (15)), (.bool true), (.int 181 0), (.ref (16)), .none, (.ref (17)), (.ref (18)), (.ref (19)), (.int 191 0), (.int 1 0), (.str (⟨#[47, 99, 108, 97, 105, 109, 47, 99, 117, 116, 46, 112, 121]⟩ : Str) (192))]), #[]⟩) : Nat × Obj) ::
  ((nat_lit 21, ⟨(.type "function"), none, (.func (fnAt (stAt top 0) (⟨#[95, 119, 97, 108, 108]⟩ : Str) 3 [] .none .none .none (.str (⟨#[95, 95, 109, 97, 105, 110, 95, 95]⟩ : Str) (164)) none (.ref (20)) .none 0)), #[]⟩) : Nat × Obj) ::
  ((nat_lit 29, ⟨(.type "tuple"), none, (.seq #[] 0), #[]⟩) : Nat × Obj) ::
  ((nat_lit 31, ⟨(.type "tuple"), none, (.seq #[(.str (⟨#[115, 101, 108, 102]⟩ : Str) (211))] 0), #[]⟩) : Nat × Obj) ::
  ((nat_lit 32, ⟨(.type "tuple"), none, (.seq #[] 0), #[]⟩) : Nat × Obj) ::
  ((nat_lit 34, ⟨(.type "code"), none, (.fields #[(.str (⟨#[95, 95, 105, 110, 105, 116, 95, 95]⟩ : Str) (208)), (.str (⟨#[66, 97, 115, 101, 83, 116, 101, 109, 109, 101, 114, 46, 95, 95, 105, 110, 105, 116, 95, 95]⟩ : Str) (209)), (.str (⟨#[47, 99, 108, 97, 105, 109, 47, 99, 117, 116, 46, 112, 121]⟩ : Str) (210)), (.int 7 0), (.int 1 0), (.int 0 0), (.int 0 0), (.int 3 0), (.ref (29)), (.bool true), (.int 181 0), (.ref (30)), .none, (.ref (31)), (.ref (32)), (.ref (33)), (.int 212 0), (.int 7 0), (.str (⟨#[47, 99, 108, 97, 105, 109, 47, 99, 117, 116, 46, 112, 121]⟩ : Str) (213))]), #[]⟩) : Nat × Obj) ::
  ((nat_lit 35, ⟨(.type "function"), none, (.func (fnAt (stAt (subs (stAt top 2)) 0) (⟨#[66, 97, 115, 101, 83, 116, 101, 109, 109, 101, 114, 46, 95, 95, 105, 110, 105, 116, 95, 95]⟩ : Str) 3 [] .none .none .none (.str (⟨#[115, 110, 111, 119, 98, 97, 108, 108, 115, 116, 101, 109, 109, 101, 114, 46, 98, 97, 115, 101, 115, 116, 101, 109, 109, 101, 114]⟩ : Str) (194)) none (.ref (34)) .none 0)), #[]⟩) : Nat × Obj) ::
  ((nat_lit 36, ⟨(.type "tuple"), none, (.seq #[] 0), #[]⟩) : Nat × Obj) ::
  ((nat_lit 38, ⟨(.type "tuple"), none, (.seq #[(.str (⟨#[115, 101, 108, 102]⟩ : Str) (218)), (.str (⟨#[118, 97, 108, 117, 101]⟩ : Str) (219))] 0), #[]⟩) : Nat × Obj) ::
  ((nat_lit 39, ⟨(.type "tuple"), none, (.seq #[] 0), #[]⟩) : Nat × Obj) ::
  ((nat_lit 41, ⟨(.type "code"), none, (.fields #[(.str (⟨#[115, 101, 116, 95, 99, 117, 114, 114, 101, 110, 116]⟩ : Str) (215)), (.str (⟨#[66, 97, 115, 101, 83, 116, 101, 109, 109, 101, 114, 46, 115, 101, 116, 95, 99, 117, 114, 114, 101, 110, 116]⟩ : Str) (216)), (.str (⟨#[47, 99, 108, 97, 105, 109, 47, 99, 117, 116, 46, 112, 121]⟩ : Str) (217)), (.int 10 0), (.int 2 0), (.int 0 0), (.int 0 0), (.int 3 0), (.ref (36)), (.bool true), (.int 181 0), (.ref (37)), .none, (.ref (38)), (.ref (39)), (.ref (40)), (.int 220 0), (.int 10 0), (.str (⟨#[47, 99, 108, 97, 105, 109, 47, 99, 117, 116, 46, 112, 121]⟩ : Str) (221))]), #[]⟩) : Nat × Obj) ::
  ((nat_lit 42, ⟨(.type "function"), none, (.func (fnAt (stAt (subs (stAt top 2)) 1) (⟨#[66, 97, 115, 101, 83, 116, 101, 109, 109, 101, 114, 46, 115, 101, 116, 95, 99, 117, 114, 114, 101, 110, 116]⟩ : Str) 3 [] .none .none .none (.str (⟨#[115, 110, 111, 119, 98, 97, 108, 108, 115, 116, 101, 109, 109, 101, 114, 46, 98, 97, 115, 101, 115, 116, 101, 109, 109, 101, 114]⟩ : Str) (194)) none (.ref (41)) .none 0)), #[]⟩) : Nat × Obj) ::
  ((nat_lit 43, ⟨(.type "tuple"), none, (.seq #[] 0), #[]⟩) : Nat × Obj) ::
  ((nat_lit 45, ⟨(.type "tuple"), none, (.seq #[(.str (⟨#[115, 101, 108, 102]⟩ : Str) (226))] 0), #[]⟩) : Nat × Obj) ::
  ((nat_lit 46, ⟨(.type "tuple"), none, (.seq #[] 0), #[]⟩) : Nat × Obj) ::
  ((nat_lit 48, ⟨(.type "code"), none, (.fields #[(.str (⟨#[103, 101, 116, 95, 99, 117, 114, 114, 101, 110, 116]⟩ : Str) (223)), (.str (⟨#[66, 97, 115, 101, 83, 116, 101, 109, 109, 101, 114, 46, 103, 101, 116, 95, 99, 117, 114, 114, 101, 110, 116]⟩ : Str) (224)), (.str (⟨#[47, 99, 108, 97, 105, 109, 47, 99, 117, 116, 46, 112, 121]⟩ : Str) (225)), (.int 18 0), (.int 1 0), (.int 0 0), (.int 0 0), (.int 3 0), (.ref (43)), (.bool true), (.int 181 0), (.ref (44)), .none, (.ref (45)), (.ref (46)), (.ref (47)), (.int 227 0), (.int 18 0), (.str (⟨#[47, 99, 108, 97, 105, 109, 47, 99, 117, 116, 46, 112, 121]⟩ : Str) (228))]), #[]⟩) : Nat × Obj) ::
  ((nat_lit 49, ⟨(.type "function"), none, (.func (fnAt (stAt (subs (stAt top 2)) 2) (⟨#[66, 97, 115, 101, 83, 116, 101, 109, 109, 101, 114, 46, 103, 101, 116, 95, 99, 117, 114, 114, 101, 110, 116]⟩ : Str) 3 [] .none .none .none (.str (⟨#[115, 110, 111, 119, 98, 97, 108, 108, 115, 116, 101, 109, 109, 101, 114, 46, 98, 97, 115, 101, 115, 116, 101, 109, 109, 101, 114]⟩ : Str) (194)) none (.ref (48)) .none 0)), #[]⟩) : Nat × Obj) ::
  ((nat_lit 50, ⟨(.type "tuple"), none, (.seq #[] 0), #[]⟩) : Nat × Obj) ::
  ((nat_lit 52, ⟨(.type "tuple"), none, (.seq #[(.str (⟨#[115, 101, 108, 102]⟩ : Str) (233)), (.str (⟨#[111, 116, 104, 101, 114]⟩ : Str) (234))] 0), #[]⟩) : Nat × Obj) ::
  ((nat_lit 53, ⟨(.type "tuple"), none, (.seq #[] 0), #[]⟩) : Nat × Obj) ::
  ((nat_lit 55, ⟨(.type "code"), none, (.fields #[(.str (⟨#[99, 111, 112, 121, 95, 102, 114, 111, 109]⟩ : Str) (230)), (.str (⟨#[66, 97, 115, 101, 83, 116, 101, 109, 109, 101, 114, 46, 99, 111, 112, 121, 95, 102, 114, 111, 109]⟩ : Str) (231)), (.str (⟨#[47, 99, 108, 97, 105, 109, 47, 99, 117, 116, 46, 112, 121]⟩ : Str) (232)), (.int 21 0), (.int 2 0), (.int 0 0), (.int 0 0), (.int 3 0), (.ref (50)), (.bool true), (.int 181 0), (.ref (51)), .none, (.ref (52)), (.ref (53)), (.ref (54)), (.int 235 0), (.int 21 0), (.str (⟨#[47, 99, 108, 97, 105, 109, 47, 99, 117, 116, 46, 112, 121]⟩ : Str) (236))]), #[]⟩) : Nat × Obj) ::
  ((nat_lit 56, ⟨(.type "function"), none, (.func (fnAt (stAt (subs (stAt top 2)) 3) (⟨#[66, 97, 115, 101, 83, 116, 101, 109, 109, 101, 114, 46, 99, 111, 112, 121, 95, 102, 114, 111, 109]⟩ : Str) 3 [] .none .none .none (.str (⟨#[115, 110, 111, 119, 98, 97, 108, 108, 115, 116, 101, 109, 109, 101, 114, 46, 98, 97, 115, 101, 115, 116, 101, 109, 109, 101, 114]⟩ : Str) (194)) none (.ref (55)) .none 0)), #[]⟩) : Nat × Obj) ::
  ((nat_lit 57, ⟨(.type "tuple"), none, (.seq #[] 0), #[]⟩) : Nat × Obj) ::
  ((nat_lit 59, ⟨(.type "tuple"), none, (.seq #[(.str (⟨#[115, 101, 108, 102]⟩ : Str) (241)), (.str (⟨#[115]⟩ : Str) (242))] 0), #[]⟩) : Nat × Obj) ::
  ((nat_lit 60, ⟨(.type "tuple"), none, (.seq #[] 0), #[]⟩) : Nat × Obj) ::
  ((nat_lit 62, ⟨(.type "code"), none, (.fields #[(.str (⟨#[105, 110, 95, 103, 114, 111, 117, 112, 105, 110, 103]⟩ : Str) (238)), (.str (⟨#[66, 97, 115, 101, 83, 116, 101, 109, 109, 101, 114, 46, 105, 110, 95, 103, 114, 111, 117, 112, 105, 110, 103]⟩ : Str) (239)), (.str (⟨#[47, 99, 108, 97, 105, 109, 47, 99, 117, 116, 46, 112, 121]⟩ : Str) (240)), (.int 24 0), (.int 2 0), (.int 0 0), (.int 0 0), (.int 3 0), (.ref (57)), (.bool true), (.int 181 0), (.ref (58)), .none, (.ref (59)), (.ref (60)), (.ref (61)), (.int 243 0), (.int 24 0), (.str (⟨#[47, 99, 108, 97, 105, 109, 47, 99, 117, 116, 46, 112, 121]⟩ : Str) (244))]), #[]⟩) : Nat × Obj) ::
  ((nat_lit 63, ⟨(.type "function"), none, (.func (fnAt (stAt (subs (stAt top 2)) 4) (⟨#[66, 97, 115, 101, 83, 116, 101, 109, 109, 101, 114, 46, 105, 110, 95, 103, 114, 111, 117, 112, 105, 110, 103]⟩ : Str) 3 [] .none .none .none (.str (⟨#[115, 110, 111, 119, 98, 97, 108, 108, 115, 116, 101, 109, 109, 101, 114, 46, 98, 97, 115, 101, 115, 116, 101, 109, 109, 101, 114]⟩ : Str) (194)) none (.ref (62)) .none 0)), #[]⟩) : Nat × Obj) ::
  ((nat_lit 64, ⟨(.type "tuple"), none, (.seq #[] 0), #[]⟩) : Nat × Obj) ::
  ((nat_lit 66, ⟨(.type "tuple"), none, (.seq #[(.str (⟨#[115, 101, 108, 102]⟩ : Str) (249)), (.str (⟨#[115]⟩ : Str) (250))] 0), #[]⟩) : Nat × Obj) ::
  ((nat_lit 67, ⟨(.type "tuple"), none, (.seq #[] 0), #[]⟩) : Nat × Obj) ::
  ((nat_lit 69, ⟨(.type "code"), none, (.fields #[(.str (⟨#[103, 111, 95, 105, 110, 95, 103, 114, 111, 117, 112, 105, 110, 103]⟩ : Str) (246)), (.str (⟨#[66, 97, 115, 101, 83, 116, 101, 109, 109, 101, 114, 46, 103, 111, 95, 105, 110, 95, 103, 114, 111, 117, 112, 105, 110, 103]⟩ : Str) (247)), (.str (⟨#[47, 99, 108, 97, 105, 109, 47, 99, 117, 116, 46, 112, 121]⟩ : Str) (248)), (.int 27 0), (.int 2 0), (.int 0 0), (.int 0 0), (.int 3 0), (.ref (64)), (.bool true), (.int 181 0), (.ref (65)), .none, (.ref (66)), (.ref (67)), (.ref (68)), (.int 251 0), (.int 27 0), (.str (⟨#[47, 99, 108, 97, 105, 109, 47, 99, 117, 116, 46, 112, 121]⟩ : Str) (252))]), #[]⟩) : Nat × Obj) ::
  ((nat_lit 70, ⟨(.type "function"), none, (.func (fnAt (stAt (subs (stAt top 2)) 5) (⟨#[66, 97, 115, 101, 83, 116, 101, 109, 109, 101, 114, 46, 103, 111, 95, 105, 110, 95, 103, 114, 111, 117, 112, 105, 110, 103]⟩ : Str) 3 [] .none .none .none (.str (⟨#[115, 110, 111, 119, 98, 97, 108, 108, 115, 116, 101, 109, 109, 101, 114, 46, 98, 97, 115, 101, 115, 116, 101, 109, 109, 101, 114]⟩ : Str) (194)) none (.ref (69)) .none 0)), #[]⟩) : Nat × Obj) ::
  ((nat_lit 71, ⟨(.type "tuple"), none, (.seq #[] 0), #[]⟩) : Nat × Obj) ::
  ((nat_lit 73, ⟨(.type "tuple"), none, (.seq #[(.str (⟨#[115, 101, 108, 102]⟩ : Str) (257)), (.str (⟨#[115]⟩ : Str) (258))] 0), #[]⟩) : Nat × Obj) ::
  ((nat_lit 74, ⟨(.type "tuple"), none, (.seq #[] 0), #[]⟩) : Nat × Obj) ::
  ((nat_lit 76, ⟨(.type "code"), none, (.fields #[(.str (⟨#[105, 110, 95, 103, 114, 111, 117, 112, 105, 110, 103, 95, 98]⟩ : Str) (254)), (.str (⟨#[66, 97, 115, 101, 83, 116, 101, 109, 109, 101, 114, 46, 105, 110, 95, 103, 114, 111, 117, 112, 105, 110, 103, 95, 98]⟩ : Str) (255)), (.str (⟨#[47, 99, 108, 97, 105, 109, 47, 99, 117, 116, 46, 112, 121]⟩ : Str) (256)), (.int 34 0), (.int 2 0), (.int 0 0), (.int 0 0), (.int 3 0), (.ref (71)), (.bool true), (.int 181 0), (.ref (72)), .none, (.ref (73)), (.ref (74)), (.ref (75)), (.int 259 0), (.int 34 0), (.str (⟨#[47, 99, 108, 97, 105, 109, 47, 99, 117, 116, 46, 112, 121]⟩ : Str) (260))]), #[]⟩) : Nat × Obj) ::
  ((nat_lit 77, ⟨(.type "function"), none, (.func (fnAt (stAt (subs (stAt top 2)) 6) (⟨#[66, 97, 115, 101, 83, 116, 101, 109, 109, 101, 114, 46, 105, 110, 95, 103, 114, 111, 117, 112, 105, 110, 103, 95, 98]⟩ : Str) 3 [] .none .none .none (.str (⟨#[115, 110, 111, 119, 98, 97, 108, 108, 115, 116, 101, 109, 109, 101, 114, 46, 98, 97, 115, 101, 115, 116, 101, 109, 109, 101, 114]⟩ : Str) (194)) none (.ref (76)) .none 0)), #[]⟩) : Nat × Obj) ::
  ((nat_lit 78, ⟨(.type "tuple"), none, (.seq #[] 0), #[]⟩) : Nat × Obj) ::
  ((nat_lit 80, ⟨(.type "tuple"), none, (.seq #[(.str (⟨#[115, 101, 108, 102]⟩ : Str) (265)), (.str (⟨#[115]⟩ : Str) (266))] 0), #[]⟩) : Nat × Obj) ::
  ((nat_lit 81, ⟨(.type "tuple"), none, (.seq #[] 0), #[]⟩) : Nat × Obj) ::
  ((nat_lit 83, ⟨(.type "code"), none, (.fields #[(.str (⟨#[103, 111, 95, 105, 110, 95, 103, 114, 111, 117, 112, 105, 110, 103, 95, 98]⟩ : Str) (262)), (.str (⟨#[66, 97, 115, 101, 83, 116, 101, 109, 109, 101, 114, 46, 103, 111, 95, 105, 110, 95, 103, 114, 111, 117, 112, 105, 110, 103, 95, 98]⟩ : Str) (263)), (.str (⟨#[47, 99, 108, 97, 105, 109, 47, 99, 117, 116, 46, 112, 121]⟩ : Str) (264)), (.int 37 0), (.int 2 0), (.int 0 0), (.int 0 0), (.int 3 0), (.ref (78)), (.bool true), (.int 181 0), (.ref (79)), .none, (.ref (80)), (.ref (81)), (.ref (82)), (.int 267 0), (.int 37 0), (.str (⟨#[47, 99, 108, 97, 105, 109, 47, 99, 117, 116, 46, 112, 121]⟩ : Str) (268))]), #[]⟩) : Nat × Obj) ::
  ((nat_lit 84, ⟨(.type "function"), none, (.func (fnAt (stAt (subs (stAt top 2)) 7) (⟨#[66, 97, 115, 101, 83, 116, 101, 109, 109, 101, 114, 46, 103, 111, 95, 105, 110, 95, 103, 114, 111, 117, 112, 105, 110, 103, 95, 98]⟩ : Str) 3 [] .none .none .none (.str (⟨#[115, 110, 111, 119, 98, 97, 108, 108, 115, 116, 101, 109, 109, 101, 114, 46, 98, 97, 115, 101, 115, 116, 101, 109, 109, 101, 114]⟩ : Str) (194)) none (.ref (83)) .none 0)), #[]⟩) : Nat × Obj) ::
  ((nat_lit 85, ⟨(.type "tuple"), none, (.seq #[] 0), #[]⟩) : Nat × Obj) ::
  ((nat_lit 87, ⟨(.type "tuple"), none, (.seq #[(.str (⟨#[115, 101, 108, 102]⟩ : Str) (273)), (.str (⟨#[115]⟩ : Str) (274))] 0), #[]⟩) : Nat × Obj) ::
  ((nat_lit 88, ⟨(.type "tuple"), none, (.seq #[] 0), #[]⟩) : Nat × Obj) ::
  ((nat_lit 90, ⟨(.type "code"), none, (.fields #[(.str (⟨#[111, 117, 116, 95, 103, 114, 111, 117, 112, 105, 110, 103]⟩ : Str) (270)), (.str (⟨#[66, 97, 115, 101, 83, 116, 101, 109, 109, 101, 114, 46, 111, 117, 116, 95, 103, 114, 111, 117, 112, 105, 110, 103]⟩ : Str) (271)), (.str (⟨#[47, 99, 108, 97, 105, 109, 47, 99, 117, 116, 46, 112, 121]⟩ : Str) (272)), (.int 40 0), (.int 2 0), (.int 0 0), (.int 0 0), (.int 3 0), (.ref (85)), (.bool true), (.int 181 0), (.ref (86)), .none, (.ref (87)), (.ref (88)), (.ref (89)), (.int 275 0), (.int 40 0), (.str (⟨#[47, 99, 108, 97, 105, 109, 47, 99, 117, 116, 46, 112, 121]⟩ : Str) (276))]), #[]⟩) : Nat × Obj) ::
  ((nat_lit 91, ⟨(.type "function"), none, (.func (fnAt (stAt (subs (stAt top 2)) 8) (⟨#[66, 97, 115, 101, 83, 116, 101, 109, 109, 101, 114, 46, 111, 117, 116, 95, 103, 114, 111, 117, 112, 105, 110, 103]⟩ : Str) 3 [] .none .none .none (.str (⟨#[115, 110, 111, 119, 98, 97, 108, 108, 115, 116, 101, 109, 109, 101, 114, 46, 98, 97, 115, 101, 115, 116, 101, 109, 109, 101, 114]⟩ : Str) (194)) none (.ref (90)) .none 0)), #[]⟩) : Nat × Obj) ::
  ((nat_lit 92, ⟨(.type "tuple"), none, (.seq #[] 0), #[]⟩) : Nat × Obj) ::
  ((nat_lit 94, ⟨(.type "tuple"), none, (.seq #[(.str (⟨#[115, 101, 108, 102]⟩ : Str) (281)), (.str (⟨#[115]⟩ : Str) (282))] 0), #[]⟩) : Nat × Obj) ::
  ((nat_lit 95, ⟨(.type "tuple"), none, (.seq #[] 0), #[]⟩) : Nat × Obj) ::
  ((nat_lit 97, ⟨(.type "code"), none, (.fields #[(.str (⟨#[103, 111, 95, 111, 117, 116, 95, 103, 114, 111, 117, 112, 105, 110, 103]⟩ : Str) (278)), (.str (⟨#[66, 97, 115, 101, 83, 116, 101, 109, 109, 101, 114, 46, 103, 111, 95, 111, 117, 116, 95, 103, 114, 111, 117, 112, 105, 110, 103]⟩ : Str) (279)), (.str (⟨#[47, 99, 108, 97, 105, 109, 47, 99, 117, 116, 46, 112, 121]⟩ : Str) (280)), (.int 43 0), (.int 2 0), (.int 0 0), (.int 0 0), (.int 3 0), (.ref (92)), (.bool true), (.int 181 0), (.ref (93)), .none, (.ref (94)), (.ref (95)), (.ref (96)), (.int 283 0), (.int 43 0), (.str (⟨#[47, 99, 108, 97, 105, 109, 47, 99, 117, 116, 46, 112, 121]⟩ : Str) (284))]), #[]⟩) : Nat × Obj) ::
  ((nat_lit 98, ⟨(.type "function"), none, (.func (fnAt (stAt (subs (stAt top 2)) 9) (⟨#[66, 97, 115, 101, 83, 116, 101, 109, 109, 101, 114, 46, 103, 111, 95, 111, 117, 116, 95, 103, 114, 111, 117, 112, 105, 110, 103]⟩ : Str) 3 [] .none .none .none (.str (⟨#[115, 110, 111, 119, 98, 97, 108, 108, 115, 116, 101, 109, 109, 101, 114, 46, 98, 97, 115, 101, 115, 116, 101, 109, 109, 101, 114]⟩ : Str) (194)) none (.ref (97)) .none 0)), #[]⟩) : Nat × Obj) ::
  ((nat_lit 99, ⟨(.type "tuple"), none, (.seq #[] 0), #[]⟩) : Nat × Obj) ::
  ((nat_lit 101, ⟨(.type "tuple"), none, (.seq #[(.str (⟨#[115, 101, 108, 102]⟩ : Str) (289)), (.str (⟨#[115]⟩ : Str) (290))] 0), #[]⟩) : Nat × Obj) ::
  ((nat_lit 102, ⟨(.type "tuple"), none, (.seq #[] 0), #[]⟩) : Nat × Obj) ::
  ((nat_lit 104, ⟨(.type "code"), none, (.fields #[(.str (⟨#[111, 117, 116, 95, 103, 114, 111, 117, 112, 105, 110, 103, 95, 98]⟩ : Str) (286)), (.str (⟨#[66, 97, 115, 101, 83, 116, 101, 109, 109, 101, 114, 46, 111, 117, 116, 95, 103, 114, 111, 117, 112, 105, 110, 103, 95, 98]⟩ : Str) (287)), (.str (⟨#[47, 99, 108, 97, 105, 109, 47, 99, 117, 116, 46, 112, 121]⟩ : Str) (288)), (.int 50 0), (.int 2 0), (.int 0 0), (.int 0 0), (.int 3 0), (.ref (99)), (.bool true), (.int 181 0), (.ref (100)), .none, (.ref (101)), (.ref (102)), (.ref (103)), (.int 291 0), (.int 50 0), (.str (⟨#[47, 99, 108, 97, 105, 109, 47, 99, 117, 116, 46, 112, 121]⟩ : Str) (292))]), #[]⟩) : Nat × Obj) ::
  ((nat_lit 105, ⟨(.type "function"), none, (.func (fnAt (stAt (subs (stAt top 2)) 10) (⟨#[66, 97, 115, 101, 83, 116, 101, 109, 109, 101, 114, 46, 111, 117, 116, 95, 103, 114, 111, 117, 112, 105, 110, 103, 95, 98]⟩ : Str) 3 [] .none .none .none (.str (⟨#[115, 110, 111, 119, 98, 97, 108, 108, 115, 116, 101, 109, 109, 101, 114, 46, 98, 97, 115, 101, 115, 116, 101, 109, 109, 101, 114]⟩ : Str) (194)) none (.ref (104)) .none 0)), #[]⟩) : Nat × Obj) ::
  ((nat_lit 106, ⟨(.type "tuple"), none, (.seq #[] 0), #[]⟩) : Nat × Obj) ::
  ((nat_lit 108, ⟨(.type "tuple"), none, (.seq #[(.str (⟨#[115, 101, 108, 102]⟩ : Str) (297)), (.str (⟨#[115]⟩ : Str) (298))] 0), #[]⟩) : Nat × Obj) ::
  ((nat_lit 109, ⟨(.type "tuple"), none, (.seq #[] 0), #[]⟩) : Nat × Obj) ::
  ((nat_lit 111, ⟨(.type "code"), none, (.fields #[(.str (⟨#[103, 111, 95, 111, 117, 116, 95, 103, 114, 111, 117, 112, 105, 110, 103, 95, 98]⟩ : Str) (294)), (.str (⟨#[66, 97, 115, 101, 83, 116, 101, 109, 109, 101, 114, 46, 103, 111, 95, 111, 117, 116, 95, 103, 114, 111, 117, 112, 105, 110, 103, 95, 98]⟩ : Str) (295)), (.str (⟨#[47, 99, 108, 97, 105, 109, 47, 99, 117, 116, 46, 112, 121]⟩ : Str) (296)), (.int 53 0), (.int 2 0), (.int 0 0), (.int 0 0), (.int 3 0), (.ref (106)), (.bool true), (.int 181 0), (.ref (107)), .none, (.ref (108)), (.ref (109)), (.ref (110)), (.int 299 0), (.int 53 0), (.str (⟨#[47, 99, 108, 97, 105, 109, 47, 99, 117, 116, 46, 112, 121]⟩ : Str) (300))]), #[]⟩) : Nat × Obj) ::
  ((nat_lit 112, ⟨(.type "function"), none, (.func (fnAt (stAt (subs (stAt top 2)) 11) (⟨#[66, 97, 115, 101, 83, 116, 101, 109, 109, 101, 114, 46, 103, 111, 95, 111, 117, 116, 95, 103, 114, 111, 117, 112, 105, 110, 103, 95, 98]⟩ : Str) 3 [] .none .none .none (.str (⟨#[115, 110, 111, 119, 98, 97, 108, 108, 115, 116, 101, 109, 109, 101, 114, 46, 98, 97, 115, 101, 115, 116, 101, 109, 109, 101, 114]⟩ : Str) (194)) none (.ref (111)) .none 0)), #[]⟩) : Nat × Obj) ::
  ((nat_lit 113, ⟨(.type "tuple"), none, (.seq #[] 0), #[]⟩) : Nat × Obj) ::
  ((nat_lit 115, ⟨(.type "tuple"), none, (.seq #[(.str (⟨#[115, 101, 108, 102]⟩ : Str) (305)), (.str (⟨#[115]⟩ : Str) (306))] 0), #[]⟩) : Nat × Obj) ::
  ((nat_lit 116, ⟨(.type "tuple"), none, (.seq #[] 0), #[]⟩) : Nat × Obj) ::
  ((nat_lit 118, ⟨(.type "code"), none, (.fields #[(.str (⟨#[101, 113, 95, 115]⟩ : Str) (302)), (.str (⟨#[66, 97, 115, 101, 83, 116, 101, 109, 109, 101, 114, 46, 101, 113, 95, 115]⟩ : Str) (303)), (.str (⟨#[47, 99, 108, 97, 105, 109, 47, 99, 117, 116, 46, 112, 121]⟩ : Str) (304)), (.int 56 0), (.int 2 0), (.int 0 0), (.int 0 0), (.int 3 0), (.ref (113)), (.bool true), (.int 181 0), (.ref (114)), .none, (.ref (115)), (.ref (116)), (.ref (117)), (.int 307 0), (.int 56 0), (.str (⟨#[47, 99, 108, 97, 105, 109, 47, 99, 117, 116, 46, 112, 121]⟩ : Str) (308))]), #[]⟩) : Nat × Obj) ::
  ((nat_lit 119, ⟨(.type "function"), none, (.func (fnAt (stAt (subs (stAt top 2)) 12) (⟨#[66, 97, 115, 101, 83, 116, 101, 109, 109, 101, 114, 46, 101, 113, 95, 115]⟩ : Str) 3 [] .none .none .none (.str (⟨#[115, 110, 111, 119, 98, 97, 108, 108, 115, 116, 101, 109, 109, 101, 114, 46, 98, 97, 115, 101, 115, 116, 101, 109, 109, 101, 114]⟩ : Str) (194)) none (.ref (118)) .none 0)), #[]⟩) : Nat × Obj) ::
  ((nat_lit 120, ⟨(.type "tuple"), none, (.seq #[] 0), #[]⟩) : Nat × Obj) ::
  ((nat_lit 122, ⟨(.type "tuple"), none, (.seq #[(.str (⟨#[115, 101, 108, 102]⟩ : Str) (313)), (.str (⟨#[115]⟩ : Str) (314))] 0), #[]⟩) : Nat × Obj) ::
  ((nat_lit 123, ⟨(.type "tuple"), none, (.seq #[] 0), #[]⟩) : Nat × Obj) ::
  ((nat_lit 125, ⟨(.type "code"), none, (.fields #[(.str (⟨#[101, 113, 95, 115, 95, 98]⟩ : Str) (310)), (.str (⟨#[66, 97, 115, 101, 83, 116, 101, 109, 109, 101, 114, 46, 101, 113, 95, 115, 95, 98]⟩ : Str) (311)), (.str (⟨#[47, 99, 108, 97, 105, 109, 47, 99, 117, 116, 46, 112, 121]⟩ : Str) (312)), (.int 59 0), (.int 2 0), (.int 0 0), (.int 0 0), (.int 3 0), (.ref (120)), (.bool true), (.int 181 0), (.ref (121)), .none, (.ref (122)), (.ref (123)), (.ref (124)), (.int 315 0), (.int 59 0), (.str (⟨#[47, 99, 108, 97, 105, 109, 47, 99, 117, 116, 46, 112, 121]⟩ : Str) (316))]), #[]⟩) : Nat × Obj) ::
  ((nat_lit 126, ⟨(.type "function"), none, (.func (fnAt (stAt (subs (stAt top 2)) 13) (⟨#[66, 97, 115, 101, 83, 116, 101, 109, 109, 101, 114, 46, 101, 113, 95, 115, 95, 98]⟩ : Str) 3 [] .none .none .none (.str (⟨#[115, 110, 111, 119, 98, 97, 108, 108, 115, 116, 101, 109, 109, 101, 114, 46, 98, 97, 115, 101, 115, 116, 101, 109, 109, 101, 114]⟩ : Str) (194)) none (.ref (125)) .none 0)), #[]⟩) : Nat × Obj) ::
  ((nat_lit 127, ⟨(.type "tuple"), none, (.seq #[] 0), #[]⟩) : Nat × Obj) ::
  ((nat_lit 129, ⟨(.type "tuple"), none, (.seq #[(.str (⟨#[115, 101, 108, 102]⟩ : Str) (321)), (.str (⟨#[118]⟩ : Str) (322))] 0), #[]⟩) : Nat × Obj) ::
  ((nat_lit 130, ⟨(.type "tuple"), none, (.seq #[] 0), #[]⟩) : Nat × Obj) ::
  ((nat_lit 132, ⟨(.type "code"), none, (.fields #[(.str (⟨#[102, 105, 110, 100, 95, 97, 109, 111, 110, 103]⟩ : Str) (318)), (.str (⟨#[66, 97, 115, 101, 83, 116, 101, 109, 109, 101, 114, 46, 102, 105, 110, 100, 95, 97, 109, 111, 110, 103]⟩ : Str) (319)), (.str (⟨#[47, 99, 108, 97, 105, 109, 47, 99, 117, 116, 46, 112, 121]⟩ : Str) (320)), (.int 65 0), (.int 2 0), (.int 0 0), (.int 0 0), (.int 3 0), (.ref (127)), (.bool true), (.int 181 0), (.ref (128)), .none, (.ref (129)), (.ref (130)), (.ref (131)), (.int 323 0), (.int 65 0), (.str (⟨#[47, 99, 108, 97, 105, 109, 47, 99, 117, 116, 46, 112, 121]⟩ : Str) (324))]), #[]⟩) : Nat × Obj) ::
  ((nat_lit 133, ⟨(.type "function"), none, (.func (fnAt (stAt (subs (stAt top 2)) 14) (⟨#[66, 97, 115, 101, 83, 116, 101, 109, 109, 101, 114, 46, 102, 105, 110, 100, 95, 97, 109, 111, 110, 103]⟩ : Str) 3 [] .none .none .none (.str (⟨#[115, 110, 111, 119, 98, 97, 108, 108, 115, 116, 101, 109, 109, 101, 114, 46, 98, 97, 115, 101, 115, 116, 101, 109, 109, 101, 114]⟩ : Str) (194)) none (.ref (132)) .none 0)), #[]⟩) : Nat × Obj) ::
  ((nat_lit 134, ⟨(.type "tuple"), none, (.seq #[] 0), #[]⟩) : Nat × Obj) ::
  ((nat_lit 136, ⟨(.type "tuple"), none, (.seq #[(.str (⟨#[115, 101, 108, 102]⟩ : Str) (329)), (.str (⟨#[118]⟩ : Str) (330)), (.str (⟨#[105]⟩ : Str) (331)), (.str (⟨#[106]⟩ : Str) (332)), (.str (⟨#[99]⟩ : Str) (333)), (.str (⟨#[108, 98]⟩ : Str) (334)), (.str (⟨#[99, 111, 109, 109, 111, 110, 95, 105]⟩ : Str) (335)), (.str (⟨#[99, 111, 109, 109, 111, 110, 95, 106]⟩ : Str) (336)), (.str (⟨#[102, 105, 114, 115, 116, 95, 107, 101, 121, 95, 105, 110, 115, 112, 101, 99, 116, 101, 100]⟩ : Str) (337)), (.str (⟨#[107]⟩ : Str) (338)), (.str (⟨#[100, 105, 102, 102]⟩ : Str) (339)), (.str (⟨#[99, 111, 109, 109, 111, 110]⟩ : Str) (340)), (.str (⟨#[119]⟩ : Str) (341)), (.str (⟨#[105, 50]⟩ : Str) (342))] 0), #[]⟩) : Nat × Obj) ::
  ((nat_lit 137, ⟨(.type "tuple"), none, (.seq #[] 0), #[]⟩) : Nat × Obj) ::
  ((nat_lit 139, ⟨(.type "code"), none, (.fields #[(.str (⟨#[102, 105, 110, 100, 95, 97, 109, 111, 110, 103, 95, 98]⟩ : Str) (326)), (.str (⟨#[66, 97, 115, 101, 83, 116, 101, 109, 109, 101, 114, 46, 102, 105, 110, 100, 95, 97, 109, 111, 110, 103, 95, 98]⟩ : Str) (327)), (.str (⟨#[47, 99, 108, 97, 105, 109, 47, 99, 117, 116, 46, 112, 121]⟩ : Str) (328)), (.int 68 0), (.int 2 0), (.int 0 0), (.int 0 0), (.int 3 0), (.ref (134)), (.bool true), (.int 181 0), (.ref (135)), .none, (.ref (136)), (.ref (137)), (.ref (138)), (.int 343 0), (.int 68 0), (.str (⟨#[47, 99, 108, 97, 105, 109, 47, 99, 117, 116, 46, 112, 121]⟩ : Str) (344))]), #[]⟩) : Nat × Obj) ::
  ((nat_lit 140, ⟨(.type "function"), none, (.func (fnAt (stAt (subs (stAt top 2)) 15) (⟨#[66, 97, 115, 101, 83, 116, 101, 109, 109, 101, 114, 46, 102, 105, 110, 100, 95, 97, 109, 111, 110, 103, 95, 98]⟩ : Str) 3 [] .none .none .none (.str (⟨#[115, 110, 111, 119, 98, 97, 108, 108, 115, 116, 101, 109, 109, 101, 114, 46, 98, 97, 115, 101, 115, 116, 101, 109, 109, 101, 114]⟩ : Str) (194)) none (.ref (139)) .none 0)), #[]⟩) : Nat × Obj) ::
  ((nat_lit 141, ⟨(.type "tuple"), none, (.seq #[] 0), #[]⟩) : Nat × Obj) ::
  ((nat_lit 143, ⟨(.type "tuple"), none, (.seq #[(.str (⟨#[115, 101, 108, 102]⟩ : Str) (349)), (.str (⟨#[99, 95, 98, 114, 97]⟩ : Str) (350)), (.str (⟨#[99, 95, 107, 101, 116]⟩ : Str) (351)), (.str (⟨#[115]⟩ : Str) (352)), (.str (⟨#[97, 100, 106, 117, 115, 116, 109, 101, 110, 116]⟩ : Str) (353))] 0), #[]⟩) : Nat × Obj) ::
  ((nat_lit 144, ⟨(.type "tuple"), none, (.seq #[] 0), #[]⟩) : Nat × Obj) ::
  ((nat_lit 146, ⟨(.type "code"), none, (.fields #[(.str (⟨#[114, 101, 112, 108, 97, 99, 101, 95, 115]⟩ : Str) (346)), (.str (⟨#[66, 97, 115, 101, 83, 116, 101, 109, 109, 101, 114, 46, 114, 101, 112, 108, 97, 99, 101, 95, 115]⟩ : Str) (347)), (.str (⟨#[47, 99, 108, 97, 105, 109, 47, 99, 117, 116, 46, 112, 121]⟩ : Str) (348)), (.int 113 0), (.int 4 0), (.int 0 0), (.int 0 0), (.int 3 0), (.ref (141)), (.bool true), (.int 181 0), (.ref (142)), .none, (.ref (143)), (.ref (144)), (.ref (145)), (.int 354 0), (.int 113 0), (.str (⟨#[47, 99, 108, 97, 105, 109, 47, 99, 117, 116, 46, 112, 121]⟩ : Str) (355))]), #[]⟩) : Nat × Obj) ::
  ((nat_lit 147, ⟨(.type "function"), none, (.func (fnAt (stAt (subs (stAt top 2)) 16) (⟨#[66, 97, 115, 101, 83, 116, 101, 109, 109, 101, 114, 46, 114, 101, 112, 108, 97, 99, 101, 95, 115]⟩ : Str) 3 [] .none .none .none (.str (⟨#[115, 110, 111, 119, 98, 97, 108, 108, 115, 116, 101, 109, 109, 101, 114, 46, 98, 97, 115, 101, 115, 116, 101, 109, 109, 101, 114]⟩ : Str) (194)) none (.ref (146)) .none 0)), #[]⟩) : Nat × Obj) ::
  ((nat_lit 148, ⟨(.type "tuple"), none, (.seq #[] 0), #[]⟩) : Nat × Obj) ::
  ((nat_lit 150, ⟨(.type "tuple"), none, (.seq #[(.str (⟨#[115, 101, 108, 102]⟩ : Str) (360)), (.str (⟨#[115]⟩ : Str) (361))] 0), #[]⟩) : Nat × Obj) ::
  ((nat_lit 151, ⟨(.type "tuple"), none, (.seq #[] 0), #[]⟩) : Nat × Obj) ::
  ((nat_lit 153, ⟨(.type "code"), none, (.fields #[(.str (⟨#[115, 108, 105, 99, 101, 95, 102, 114, 111, 109]⟩ : Str) (357)), (.str (⟨#[66, 97, 115, 101, 83, 116, 101, 109, 109, 101, 114, 46, 115, 108, 105, 99, 101, 95, 102, 114, 111, 109]⟩ : Str) (358)), (.str (⟨#[47, 99, 108, 97, 105, 109, 47, 99, 117, 116, 46, 112, 121]⟩ : Str) (359)), (.int 123 0), (.int 2 0), (.int 0 0), (.int 0 0), (.int 3 0), (.ref (148)), (.bool true), (.int 181 0), (.ref (149)), .none, (.ref (150)), (.ref (151)), (.ref (152)), (.int 362 0), (.int 123 0), (.str (⟨#[47, 99, 108, 97, 105, 109, 47, 99, 117, 116, 46, 112, 121]⟩ : Str) (363))]), #[]⟩) : Nat × Obj) ::
  ((nat_lit 154, ⟨(.type "function"), none, (.func (fnAt (stAt (subs (stAt top 2)) 17) (⟨#[66, 97, 115, 101, 83, 116, 101, 109, 109, 101, 114, 46, 115, 108, 105, 99, 101, 95, 102, 114, 111, 109]⟩ : Str) 3 [] .none .none .none (.str (⟨#[115, 110, 111, 119, 98, 97, 108, 108, 115, 116, 101, 109, 109, 101, 114, 46, 98, 97, 115, 101, 115, 116, 101, 109, 109, 101, 114]⟩ : Str) (194)) none (.ref (153)) .none 0)), #[]⟩) : Nat × Obj) ::
  ((nat_lit 155, ⟨(.type "tuple"), none, (.seq #[] 0), #[]⟩) : Nat × Obj) ::
  ((nat_lit 157, ⟨(.type "tuple"), none, (.seq #[(.str (⟨#[115, 101, 108, 102]⟩ : Str) (368))] 0), #[]⟩) : Nat × Obj) ::
  ((nat_lit 158, ⟨(.type "tuple"), none, (.seq #[] 0), #[]⟩) : Nat × Obj) ::
  ((nat_lit 160, ⟨(.type "code"), none, (.fields #[(.str (⟨#[115, 108, 105, 99, 101, 95, 100, 101, 108]⟩ : Str) (365)), (.str (⟨#[66, 97, 115, 101, 83, 116, 101, 109, 109, 101, 114, 46, 115, 108, 105, 99, 101, 95, 100, 101, 108]⟩ : Str) (366)), (.str (⟨#[47, 99, 108, 97, 105, 109, 47, 99, 117, 116, 46, 112, 121]⟩ : Str) (367)), (.int 131 0), (.int 1 0), (.int 0 0), (.int 0 0), (.int 3 0), (.ref (155)), (.bool true), (.int 181 0), (.ref (156)), .none, (.ref (157)), (.ref (158)), (.ref (159)), (.int 369 0), (.int 131 0), (.str (⟨#[47, 99, 108, 97, 105, 109, 47, 99, 117, 116, 46, 112, 121]⟩ : Str) (370))]), #[]⟩) : Nat × Obj) ::
  ((nat_lit 161, ⟨(.type "function"), none, (.func (fnAt (stAt (subs (stAt top 2)) 18) (⟨#[66, 97, 115, 101, 83, 116, 101, 109, 109, 101, 114, 46, 115, 108, 105, 99, 101, 95, 100, 101, 108]⟩ : Str) 3 [] .none .none .none (.str (⟨#[115, 110, 111, 119, 98, 97, 108, 108, 115, 116, 101, 109, 109, 101, 114, 46, 98, 97, 115, 101, 115, 116, 101, 109, 109, 101, 114]⟩ : Str) (194)) none (.ref (160)) .none 0)), #[]⟩) : Nat × Obj) ::
  ((nat_lit 162, ⟨(.type "tuple"), none, (.seq #[] 0), #[]⟩) : Nat × Obj) ::
  ((nat_lit 164, ⟨(.type "tuple"), none, (.seq #[(.str (⟨#[115, 101, 108, 102]⟩ : Str) (375)), (.str (⟨#[99, 95, 98, 114, 97]⟩ : Str) (376)), (.str (⟨#[99, 95, 107, 101, 116]⟩ : Str) (377)), (.str (⟨#[115]⟩ : Str) (378))] 0), #[]⟩) : Nat × Obj) ::
  ((nat_lit 165, ⟨(.type "tuple"), none, (.seq #[] 0), #[]⟩) : Nat × Obj) ::
  ((nat_lit 167, ⟨(.type "code"), none, (.fields #[(.str (⟨#[105, 110, 115, 101, 114, 116]⟩ : Str) (372)), (.str (⟨#[66, 97, 115, 101, 83, 116, 101, 109, 109, 101, 114, 46, 105, 110, 115, 101, 114, 116]⟩ : Str) (373)), (.str (⟨#[47, 99, 108, 97, 105, 109, 47, 99, 117, 116, 46, 112, 121]⟩ : Str) (374)), (.int 134 0), (.int 4 0), (.int 0 0), (.int 0 0), (.int 3 0), (.ref (162)), (.bool true), (.int 181 0), (.ref (163)), .none, (.ref (164)), (.ref (165)), (.ref (166)), (.int 379 0), (.int 134 0), (.str (⟨#[47, 99, 108, 97, 105, 109, 47, 99, 117, 116, 46, 112, 121]⟩ : Str) (380))]), #[]⟩) : Nat × Obj) ::
  ((nat_lit 168, ⟨(.type "function"), none, (.func (fnAt (stAt (subs (stAt top 2)) 19) (⟨#[66, 97, 115, 101, 83, 116, 101, 109, 109, 101, 114, 46, 105, 110, 115, 101, 114, 116]⟩ : Str) 3 [] .none .none .none (.str (⟨#[115, 110, 111, 119, 98, 97, 108, 108, 115, 116, 101, 109, 109, 101, 114, 46, 98, 97, 115, 101, 115, 116, 101, 109, 109, 101, 114]⟩ : Str) (194)) none (.ref (167)) .none 0)), #[]⟩) : Nat × Obj) ::
  ((nat_lit 169, ⟨(.type "tuple"), none, (.seq #[] 0), #[]⟩) : Nat × Obj) ::
  ((nat_lit 171, ⟨(.type "tuple"), none, (.seq #[(.str (⟨#[115, 101, 108, 102]⟩ : Str) (385))] 0), #[]⟩) : Nat × Obj) ::
  ((nat_lit 172, ⟨(.type "tuple"), none, (.seq #[] 0), #[]⟩) : Nat × Obj) ::
  ((nat_lit 174, ⟨(.type "code"), none, (.fields #[(.str (⟨#[115, 108, 105, 99, 101, 95, 116, 111]⟩ : Str) (382)), (.str (⟨#[66, 97, 115, 101, 83, 116, 101, 109, 109, 101, 114, 46, 115, 108, 105, 99, 101, 95, 116, 111]⟩ : Str) (383)), (.str (⟨#[47, 99, 108, 97, 105, 109, 47, 99, 117, 116, 46, 112, 121]⟩ : Str) (384)), (.int 137 0), (.int 1 0), (.int 0 0), (.int 0 0), (.int 3 0), (.ref (169)), (.bool true), (.int 181 0), (.ref (170)), .none, (.ref (171)), (.ref (172)), (.ref (173)), (.int 386 0), (.int 137 0), (.str (⟨#[47, 99, 108, 97, 105, 109, 47, 99, 117, 116, 46, 112, 121]⟩ : Str) (387))]), #[]⟩) : Nat × Obj) ::
  ((nat_lit 175, ⟨(.type "function"), none, (.func (fnAt (stAt (subs (stAt top 2)) 20) (⟨#[66, 97, 115, 101, 83, 116, 101, 109, 109, 101, 114, 46, 115, 108, 105, 99, 101, 95, 116, 111]⟩ : Str) 3 [] .none .none .none (.str (⟨#[115, 110, 111, 119, 98, 97, 108, 108, 115, 116, 101, 109, 109, 101, 114, 46, 98, 97, 115, 101, 115, 116, 101, 109, 109, 101, 114]⟩ : Str) (194)) none (.ref (174)) .none 0)), #[]⟩) : Nat × Obj) ::
  ((nat_lit 176, ⟨(.type "tuple"), none, (.seq #[] 0), #[]⟩) : Nat × Obj) ::
  ((nat_lit 178, ⟨(.type "tuple"), none, (.seq #[(.str (⟨#[115, 101, 108, 102]⟩ : Str) (392))] 0), #[]⟩) : Nat × Obj) ::
  ((nat_lit 179, ⟨(.type "tuple"), none, (.seq #[] 0), #[]⟩) : Nat × Obj) ::
  ((nat_lit 181, ⟨(.type "code"), none, (.fields #[(.str (⟨#[97, 115, 115, 105, 103, 110, 95, 116, 111]⟩ : Str) (389)), (.str (⟨#[66, 97, 115, 101, 83, 116, 101, 109, 109, 101, 114, 46, 97, 115, 115, 105, 103, 110, 95, 116, 111]⟩ : Str) (390)), (.str (⟨#[47, 99, 108, 97, 105, 109, 47, 99, 117, 116, 46, 112, 121]⟩ : Str) (391)), (.int 140 0), (.int 1 0), (.int 0 0), (.int 0 0), (.int 3 0), (.ref (176)), (.bool true), (.int 181 0), (.ref (177)), .none, (.ref (178)), (.ref (179)), (.ref (180)), (.int 393 0), (.int 140 0), (.str (⟨#[47, 99, 108, 97, 105, 109, 47, 99, 117, 116, 46, 112, 121]⟩ : Str) (394))]), #[]⟩) : Nat × Obj) ::
  ((nat_lit 182, ⟨(.type "function"), none, (.func (fnAt (stAt (subs (stAt top 2)) 21) (⟨#[66, 97, 115, 101, 83, 116, 101, 109, 109, 101, 114, 46, 97, 115, 115, 105, 103, 110, 95, 116, 111]⟩ : Str) 3 [] .none .none .none (.str (⟨#[115, 110, 111, 119, 98, 97, 108, 108, 115, 116, 101, 109, 109, 101, 114, 46, 98, 97, 115, 101, 115, 116, 101, 109, 109, 101, 114]⟩ : Str) (194)) none (.ref (181)) .none 0)), #[]⟩) : Nat × Obj) ::
  ((nat_lit 183, ⟨(.type "tuple"), none, (.seq #[] 0), #[]⟩) : Nat × Obj) ::
  ((nat_lit 185, ⟨(.type "tuple"), none, (.seq #[(.str (⟨#[115, 101, 108, 102]⟩ : Str) (399)), (.str (⟨#[119, 111, 114, 100]⟩ : Str) (400))] 0), #[]⟩) : Nat × Obj) ::
  ((nat_lit 186, ⟨(.type "tuple"), none, (.seq #[] 0), #[]⟩) : Nat × Obj) ::
  ((nat_lit 188, ⟨(.type "code"), none, (.fields #[(.str (⟨#[115, 116, 101, 109, 87, 111, 114, 100]⟩ : Str) (396)), (.str (⟨#[66, 97, 115, 101, 83, 116, 101, 109, 109, 101, 114, 46, 115, 116, 101, 109, 87, 111, 114, 100]⟩ : Str) (397)), (.str (⟨#[47, 99, 108, 97, 105, 109, 47, 99, 117, 116, 46, 112, 121]⟩ : Str) (398)), (.int 143 0), (.int 2 0), (.int 0 0), (.int 0 0), (.int 3 0), (.ref (183)), (.bool true), (.int 181 0), (.ref (184)), .none, (.ref (185)), (.ref (186)), (.ref (187)), (.int 401 0), (.int 143 0), (.str (⟨#[47, 99, 108, 97, 105, 109, 47, 99, 117, 116, 46, 112, 121]⟩ : Str) (402))]), #[]⟩) : Nat × Obj) ::
  ((nat_lit 189, ⟨(.type "function"), none, (.func (fnAt (stAt (subs (stAt top 2)) 22) (⟨#[66, 97, 115, 101, 83, 116, 101, 109, 109, 101, 114, 46, 115, 116, 101, 109, 87, 111, 114, 100]⟩ : Str) 3 [] .none .none .none (.str (⟨#[115, 110, 111, 119, 98, 97, 108, 108, 115, 116, 101, 109, 109, 101, 114, 46, 98, 97, 115, 101, 115, 116, 101, 109, 109, 101, 114]⟩ : Str) (194)) none (.ref (188)) .none 0)), #[]⟩) : Nat × Obj) ::
  ((nat_lit 190, ⟨(.type "tuple"), none, (.seq #[] 0), #[]⟩) : Nat × Obj) ::
  ((nat_lit 193, ⟨(.type "code"), none, (.fields #[(.str (⟨#[115, 116, 101, 109, 87, 111, 114, 100, 115]⟩ : Str) (404)), (.str (⟨#[66, 97, 115, 101, 83, 116, 101, 109, 109, 101, 114, 46, 115, 116, 101, 109, 87, 111, 114, 100, 115]⟩ : Str) (405)), (.str (⟨#[47, 99, 108, 97, 105, 109, 47, 99, 117, 116, 46, 112, 121]⟩ : Str) (406)), (.int 148 0), (.int 2 0), (.int 0 0), (.int 0 0), (.int 3 0), (.ref (190)), (.bool true), (.int 181 0), (.ref (191)), .none, .none, .none, (.ref (192)), (.int 407 0), (.int 148 0), (.str (⟨#[47, 99, 108, 97, 105, 109, 47, 99, 117, 116, 46, 112, 121]⟩ : Str) (408))]), #[]⟩) : Nat × Obj) ::
  ((nat_lit 194, ⟨(.type "function"), none, (.func (fnAt (stAt (subs (stAt top 2)) 23) (⟨#[66, 97, 115, 101, 83, 116, 101, 109, 109, 101, 114, 46, 115, 116, 101, 109, 87, 111, 114, 100, 115]⟩ : Str) 3 [] .none .none .none (.str (⟨#[115, 110, 111, 119, 98, 97, 108, 108, 115, 116, 101, 109, 109, 101, 114, 46, 98, 97, 115, 101, 115, 116, 101, 109, 109, 101, 114]⟩ : Str) (194)) none (.ref (193)) .none 0)), #[]⟩) : Nat × Obj) ::
  ((nat_lit 195, ⟨(.type "tuple"), none, (.seq #[(.str (⟨#[98, 114, 97]⟩ : Str) (410)), (.str (⟨#[99, 117, 114, 114, 101, 110, 116]⟩ : Str) (411)), (.str (⟨#[99, 117, 114, 115, 111, 114]⟩ : Str) (412)), (.str (⟨#[107, 101, 116]⟩ : Str) (413)), (.str (⟨#[108, 105, 109, 105, 116]⟩ : Str) (414)), (.str (⟨#[108, 105, 109, 105, 116, 95, 98, 97, 99, 107, 119, 97, 114, 100]⟩ : Str) (415))] 0), #[]⟩) : Nat × Obj) ::
  ((nat_lit 196, ⟨(.type "dict"), none, (.dict #[⟨PyData.keyHash P (⟨#[95, 95, 109, 111, 100, 117, 108, 101, 95, 95]⟩ : Str), (.str (⟨#[95, 95, 109, 111, 100, 117, 108, 101, 95, 95]⟩ : Str) (203)), (.str (⟨#[115, 110, 111, 119, 98, 97, 108, 108, 115, 116, 101, 109, 109, 101, 114, 46, 98, 97, 115, 101, 115, 116, 101, 109, 109, 101, 114]⟩ : Str) (194))⟩, ⟨PyData.keyHash P (⟨#[95, 95, 102, 105, 114, 115, 116, 108, 105, 110, 101, 110, 111, 95, 95]⟩ : Str), (.str (⟨#[95, 95, 102, 105, 114, 115, 116, 108, 105, 110, 101, 110, 111, 95, 95]⟩ : Str) (207)), (.int 5 (206))⟩, ⟨PyData.keyHash P (⟨#[95, 95, 105, 110, 105, 116, 95, 95]⟩ : Str), (.str (⟨#[95, 95, 105, 110, 105, 116, 95, 95]⟩ : Str) (214)), (.ref (35))⟩, ⟨PyData.keyHash P (⟨#[115, 101, 116, 95, 99, 117, 114, 114, 101, 110, 116]⟩ : Str), (.str (⟨#[115, 101, 116, 95, 99, 117, 114, 114, 101, 110, 116]⟩ : Str) (222)), (.ref (42))⟩, ⟨PyData.keyHash P (⟨#[103, 101, 116, 95, 99, 117, 114, 114, 101, 110, 116]⟩ : Str), (.str (⟨#[103, 101, 116, 95, 99, 117, 114, 114, 101, 110, 116]⟩ : Str) (229)), (.ref (49))⟩, ⟨PyData.keyHash P (⟨#[99, 111, 112, 121, 95, 102, 114, 111, 109]⟩ : Str), (.str (⟨#[99, 111, 112, 121, 95, 102, 114, 111, 109]⟩ : Str) (237)), (.ref (56))⟩, ⟨PyData.keyHash P (⟨#[105, 110, 95, 103, 114, 111, 117, 112, 105, 110, 103]⟩ : Str), (.str (⟨#[105, 110, 95, 103, 114, 111, 117, 112, 105, 110, 103]⟩ : Str) (245)), (.ref (63))⟩, ⟨PyData.keyHash P (⟨#[103, 111, 95, 105, 110, 95, 103, 114, 111, 117, 112, 105, 110, 103]⟩ : Str), (.str (⟨#[103, 111, 95, 105, 110, 95, 103, 114, 111, 117, 112, 105, 110, 103]⟩ : Str) (253)), (.ref (70))⟩, ⟨PyData.keyHash P (⟨#[105, 110, 95, 103, 114, 111, 117, 112, 105, 110, 103, 95, 98]⟩ : Str), (.str (⟨#[105, 110, 95, 103, 114, 111, 117, 112, 105, 110, 103, 95, 98]⟩ : Str) (261)), (.ref (77))⟩, ⟨PyData.keyHash P (⟨#[103, 111, 95, 105, 110, 95, 103, 114, 111, 117, 112, 105, 110, 103, 95, 98]⟩ : Str), (.str (⟨#[103, 111, 95, 105, 110, 95, 103, 114, 111, 117, 112, 105, 110, 103, 95, 98]⟩ : Str) (269)), (.ref (84))⟩, ⟨PyData.keyHash P (⟨#[111, 117, 116, 95, 103, 114, 111, 117, 112, 105, 110, 103]⟩ : Str), (.str (⟨#[111, 117, 116, 95, 103, 114, 111, 117, 112, 105, 110, 103]⟩ : Str) (277)), (.ref (91))⟩, ⟨PyData.keyHash P (⟨#[103, 111, 95, 111, 117, 116, 95, 103, 114, 111, 117, 112, 105, 110, 103]⟩ : Str), (.str (⟨#[103, 111, 95, 111, 117, 116, 95, 103, 114, 111, 117, 112, 105, 110, 103]⟩ : Str) (285)), (.ref (98))⟩, ⟨PyData.keyHash P (⟨#[111, 117, 116, 95, 103, 114, 111, 117, 112, 105, 110, 103, 95, 98]⟩ : Str), (.str (⟨#[111, 117, 116, 95, 103, 114, 111, 117, 112, 105, 110, 103, 95, 98]⟩ : Str) (293)), (.ref (105))⟩, ⟨PyData.keyHash P (⟨#[103, 111, 95, 111, 117, 116, 95, 103, 114, 111, 117, 112, 105, 110, 103, 95, 98]⟩ : Str), (.str (⟨#[103, 111, 95, 111, 117, 116, 95, 103, 114, 111, 117, 112, 105, 110, 103, 95, 98]⟩ : Str) (301)), (.ref (112))⟩, ⟨PyData.keyHash P (⟨#[101, 113, 95, 115]⟩ : Str), (.str (⟨#[101, 113, 95, 115]⟩ : Str) (309)), (.ref (119))⟩, ⟨PyData.keyHash P (⟨#[101, 113, 95, 115, 95, 98]⟩ : Str), (.str (⟨#[101, 113, 95, 115, 95, 98]⟩ : Str) (317)), (.ref (126))⟩, ⟨PyData.keyHash P (⟨#[102, 105, 110, 100, 95, 97, 109, 111, 110, 103]⟩ : Str), (.str (⟨#[102, 105, 110, 100, 95, 97, 109, 111, 110, 103]⟩ : Str) (325)), (.ref (133))⟩, ⟨PyData.keyHash P (⟨#[102, 105, 110, 100, 95, 97, 109, 111, 110, 103, 95, 98]⟩ : Str), (.str (⟨#[102, 105, 110, 100, 95, 97, 109, 111, 110, 103, 95, 98]⟩ : Str) (345)), (.ref (140))⟩, ⟨PyData.keyHash P (⟨#[114, 101, 112, 108, 97, 99, 101, 95, 115]⟩ : Str), (.str (⟨#[114, 101, 112, 108, 97, 99, 101, 95, 115]⟩ : Str) (356)), (.ref (147))⟩, ⟨PyData.keyHash P (⟨#[115, 108, 105, 99, 101, 95, 102, 114, 111, 109]⟩ : Str), (.str (⟨#[115, 108, 105, 99, 101, 95, 102, 114, 111, 109]⟩ : Str) (364)), (.ref (154))⟩, ⟨PyData.keyHash P (⟨#[115, 108, 105, 99, 101, 95, 100, 101, 108]⟩ : Str), (.str (⟨#[115, 108, 105, 99, 101, 95, 100, 101, 108]⟩ : Str) (371)), (.ref (161))⟩, ⟨PyData.keyHash P (⟨#[105, 110, 115, 101, 114, 116]⟩ : Str), (.str (⟨#[105, 110, 115, 101, 114, 116]⟩ : Str) (381)), (.ref (168))⟩, ⟨PyData.keyHash P (⟨#[115, 108, 105, 99, 101, 95, 116, 111]⟩ : Str), (.str (⟨#[115, 108, 105, 99, 101, 95, 116, 111]⟩ : Str) (388)), (.ref (175))⟩, ⟨PyData.keyHash P (⟨#[97, 115, 115, 105, 103, 110, 95, 116, 111]⟩ : Str), (.str (⟨#[97, 115, 115, 105, 103, 110, 95, 116, 111]⟩ : Str) (395)), (.ref (182))⟩, ⟨PyData.keyHash P (⟨#[115, 116, 101, 109, 87, 111, 114, 100]⟩ : Str), (.str (⟨#[115, 116, 101, 109, 87, 111, 114, 100]⟩ : Str) (403)), (.ref (189))⟩, ⟨PyData.keyHash P (⟨#[115, 116, 101, 109, 87, 111, 114, 100, 115]⟩ : Str), (.str (⟨#[115, 116, 101, 109, 87, 111, 114, 100, 115]⟩ : Str) (409)), (.ref (194))⟩, ⟨PyData.keyHash P (⟨#[95, 95, 115, 116, 97, 116, 105, 99, 95, 97, 116, 116, 114, 105, 98, 117, 116, 101, 115, 95, 95]⟩ : Str), (.str (⟨#[95, 95, 115, 116, 97, 116, 105, 99, 95, 97, 116, 116, 114, 105, 98, 117, 116, 101, 115, 95, 95]⟩ : Str) (416)), (.ref (195))⟩, ⟨PyData.keyHash P (⟨#[95, 95, 100, 105, 99, 116, 95, 95]⟩ : Str), (.str (⟨#[95, 95, 100, 105, 99, 116, 95, 95]⟩ : Str) (418)), (.ref (198))⟩, ⟨PyData.keyHash P (⟨#[95, 95, 119, 101, 97, 107, 114, 101, 102, 95, 95]⟩ : Str), (.str (⟨#[95, 95, 119, 101, 97, 107, 114, 101, 102, 95, 95]⟩ : Str) (420)), (.ref (199))⟩, ⟨PyData.keyHash P (⟨#[95, 95, 100, 111, 99, 95, 95]⟩ : Str), (.str (⟨#[95, 95, 100, 111, 99, 95, 95]⟩ : Str) (421)), .none⟩] 4), #[]⟩) : Nat × Obj) ::
  ((nat_lit 197, ⟨(.type "type"), none, (.cls { name := (⟨#[66, 97, 115, 101, 83, 116, 101, 109, 109, 101, 114]⟩ : Str), bases := [(.type "object")], mro := [(.ref (197)), (.type "object")], ns := 196, qualname := (⟨#[66, 97, 115, 101, 83, 116, 101, 109, 109, 101, 114]⟩ : Str), hasDict := true, slotNames := [], subclasses := [(.ref (1085))], abstract := false, collection := none, hasDel := false }), #[none, none, (some (.str (⟨#[66, 97, 115, 101, 83, 116, 101, 109, 109, 101, 114]⟩ : Str) (196))), (some (.str (⟨#[66, 97, 115, 101, 83, 116, 101, 109, 109, 101, 114]⟩ : Str) (204))), (some (.builtin "object.__new__")), (some (.bool true))]⟩) : Nat × Obj) ::
  ((nat_lit 198, ⟨(.type "getset_descriptor"), none, (.fields #[(.str (⟨#[95, 95, 100, 105, 99, 116, 95, 95]⟩ : Str) (417)), (.ref (197)), (.builtin "function.__dict__"), (.builtin "function.__dict__#set")]), #[]⟩) : Nat × Obj) ::
  ((nat_lit 199, ⟨(.type "getset_descriptor"), none, (.fields #[(.str (⟨#[95, 95, 119, 101, 97, 107, 114, 101, 102, 95, 95]⟩ : Str) (419)), (.ref (197)), (.builtin "ExceptionGroup.__weakref__"), .none]), #[]⟩) : Nat × Obj) ::
  ((nat_lit 209, ⟨(.type "tuple"), none, (.seq #[] 0), #[]⟩) : Nat × Obj) ::
  ((nat_lit 211, ⟨(.type "tuple"), none, (.seq #[(.str (⟨#[115, 101, 108, 102]⟩ : Str) (441)), (.str (⟨#[115]⟩ : Str) (442)), (.str (⟨#[115, 117, 98, 115, 116, 114, 105, 110, 103, 95, 105]⟩ : Str) (443)), (.str (⟨#[114, 101, 115, 117, 108, 116]⟩ : Str) (444))] 0), #[]⟩) : Nat × Obj) ::
  ((nat_lit 212, ⟨(.type "tuple"), none, (.seq #[] 0), #[]⟩) : Nat × Obj) ::
  ((nat_lit 214, ⟨(.type "code"), none, (.fields #[(.str (⟨#[95, 95, 105, 110, 105, 116, 95, 95]⟩ : Str) (438)), (.str (⟨#[65, 109, 111, 110, 103, 46, 95, 95, 105, 110, 105, 116, 95, 95]⟩ : Str) (439)), (.str (⟨#[47, 99, 108, 97, 105, 109, 47, 99, 117, 116, 46, 112, 121]⟩ : Str) (440)), (.int 153 0), (.int 4 0), (.int 0 0), (.int 0 0), (.int 3 0), (.ref (209)), (.bool true), (.int 181 0), (.ref (210)), .none, (.ref (211)), (.ref (212)), (.ref (213)), (.int 445 0), (.int 153 0), (.str (⟨#[47, 99, 108, 97, 105, 109, 47, 99, 117, 116, 46, 112, 121]⟩ : Str) (446))]), #[]⟩) : Nat × Obj) ::
  ((nat_lit 215, ⟨(.type "function"), none, (.func (fnAt (stAt (subs (stAt top 4)) 0) (⟨#[65, 109, 111, 110, 103, 46, 95, 95, 105, 110, 105, 116, 95, 95]⟩ : Str) 3 [] .none .none .none (.str (⟨#[115, 110, 111, 119, 98, 97, 108, 108, 115, 116, 101, 109, 109, 101, 114, 46, 97, 109, 111, 110, 103]⟩ : Str) (424)) none (.ref (214)) .none 0)), #[]⟩) : Nat × Obj) ::
  ((nat_lit 216, ⟨(.type "tuple"), none, (.seq #[(.str (⟨#[114, 101, 115, 117, 108, 116]⟩ : Str) (448)), (.str (⟨#[115]⟩ : Str) (449)), (.str (⟨#[115, 117, 98, 115, 116, 114, 105, 110, 103, 95, 105]⟩ : Str) (450))] 0), #[]⟩) : Nat × Obj) ::
  ((nat_lit 217, ⟨(.type "dict"), none, (.dict #[⟨PyData.keyHash P (⟨#[95, 95, 109, 111, 100, 117, 108, 101, 95, 95]⟩ : Str), (.str (⟨#[95, 95, 109, 111, 100, 117, 108, 101, 95, 95]⟩ : Str) (433)), (.str (⟨#[115, 110, 111, 119, 98, 97, 108, 108, 115, 116, 101, 109, 109, 101, 114, 46, 97, 109, 111, 110, 103]⟩ : Str) (424))⟩, ⟨PyData.keyHash P (⟨#[95, 95, 102, 105, 114, 115, 116, 108, 105, 110, 101, 110, 111, 95, 95]⟩ : Str), (.str (⟨#[95, 95, 102, 105, 114, 115, 116, 108, 105, 110, 101, 110, 111, 95, 95]⟩ : Str) (437)), (.int 151 (436))⟩, ⟨PyData.keyHash P (⟨#[95, 95, 105, 110, 105, 116, 95, 95]⟩ : Str), (.str (⟨#[95, 95, 105, 110, 105, 116, 95, 95]⟩ : Str) (447)), (.ref (215))⟩, ⟨PyData.keyHash P (⟨#[95, 95, 115, 116, 97, 116, 105, 99, 95, 97, 116, 116, 114, 105, 98, 117, 116, 101, 115, 95, 95]⟩ : Str), (.str (⟨#[95, 95, 115, 116, 97, 116, 105, 99, 95, 97, 116, 116, 114, 105, 98, 117, 116, 101, 115, 95, 95]⟩ : Str) (451)), (.ref (216))⟩, ⟨PyData.keyHash P (⟨#[95, 95, 100, 105, 99, 116, 95, 95]⟩ : Str), (.str (⟨#[95, 95, 100, 105, 99, 116, 95, 95]⟩ : Str) (453)), (.ref (219))⟩, ⟨PyData.keyHash P (⟨#[95, 95, 119, 101, 97, 107, 114, 101, 102, 95, 95]⟩ : Str), (.str (⟨#[95, 95, 119, 101, 97, 107, 114, 101, 102, 95, 95]⟩ : Str) (455)), (.ref (220))⟩, ⟨PyData.keyHash P (⟨#[95, 95, 100, 111, 99, 95, 95]⟩ : Str), (.str (⟨#[95, 95, 100, 111, 99, 95, 95]⟩ : Str) (456)), .none⟩] 4), #[]⟩) : Nat × Obj) ::
  ((nat_lit 218, ⟨(.type "type"), none, (.cls { name := (⟨#[65, 109, 111, 110, 103]⟩ : Str), bases := [(.type "object")], mro := [(.ref (218)), (.type "object")], ns := 217, qualname := (⟨#[65, 109, 111, 110, 103]⟩ : Str), hasDict := true, slotNames := [], subclasses := [], abstract := false, collection := none, hasDel := false }), #[none, none, (some (.str (⟨#[65, 109, 111, 110, 103]⟩ : Str) (426))), (some (.str (⟨#[65, 109, 111, 110, 103]⟩ : Str) (434))), (some (.builtin "object.__new__")), (some (.bool true))]⟩) : Nat × Obj) ::
  ((nat_lit 219, ⟨(.type "getset_descriptor"), none, (.fields #[(.str (⟨#[95, 95, 100, 105, 99, 116, 95, 95]⟩ : Str) (452)), (.ref (218)), (.builtin "function.__dict__"), (.builtin "function.__dict__#set")]), #[]⟩) : Nat × Obj) ::
  ((nat_lit 220, ⟨(.type "getset_descriptor"), none, (.fields #[(.str (⟨#[95, 95, 119, 101, 97, 107, 114, 101, 102, 95, 95]⟩ : Str) (454)), (.ref (218)), (.builtin "ExceptionGroup.__weakref__"), .none]), #[]⟩) : Nat × Obj) ::
  ((nat_lit 223, ⟨(.type "tuple"), none, (.seq #[(.ref (197))] 0), #[]⟩) : Nat × Obj) ::
  ((nat_lit 231, ⟨(.type "tuple"), none, (.seq #[] 0), #[]⟩) : Nat × Obj) ::
  ((nat_lit 233, ⟨(.type "tuple"), none, (.seq #[(.str (⟨#[115, 101, 108, 102]⟩ : Str) (503)), (.str (⟨#[118, 95, 50]⟩ : Str) (504))] 0), #[]⟩) : Nat × Obj) ::
  ((nat_lit 234, ⟨(.type "tuple"), none, (.seq #[] 0), #[]⟩) : Nat × Obj) ::
  ((nat_lit 236, ⟨(.type "code"), none, (.fields #[(.str (⟨#[114, 95, 115, 116, 101, 112, 49]⟩ : Str) (500)), (.str (⟨#[76, 105, 116, 104, 117, 97, 110, 105, 97, 110, 83, 116, 101, 109, 109, 101, 114, 46, 114, 95, 115, 116, 101, 112, 49]⟩ : Str) (501)), (.str (⟨#[47, 99, 108, 97, 105, 109, 47, 99, 117, 116, 46, 112, 121]⟩ : Str) (502)), (.int 162 0), (.int 1 0), (.int 0 0), (.int 0 0), (.int 3 0), (.ref (231)), (.bool true), (.int 181 0), (.ref (232)), .none, (.ref (233)), (.ref (234)), (.ref (235)), (.int 505 0), (.int 162 0), (.str (⟨#[47, 99, 108, 97, 105, 109, 47, 99, 117, 116, 46, 112, 121]⟩ : Str) (506))]), #[]⟩) : Nat × Obj) ::
  ((nat_lit 237, ⟨(.type "function"), none, (.func (fnAt (stAt (subs (stAt top 6)) 2) (⟨#[76, 105, 116, 104, 117, 97, 110, 105, 97, 110, 83, 116, 101, 109, 109, 101, 114, 46, 114, 95, 115, 116, 101, 112, 49]⟩ : Str) 3 [] .none .none .none (.str (⟨#[115, 110, 111, 119, 98, 97, 108, 108, 115, 116, 101, 109, 109, 101, 114, 46, 108, 105, 116, 104, 117, 97, 110, 105, 97, 110, 95, 115, 116, 101, 109, 109, 101, 114]⟩ : Str) (459)) none (.ref (236)) .none 0)), #[]⟩) : Nat × Obj) ::
  ((nat_lit 238, ⟨(.type "tuple"), none, (.seq #[] 0), #[]⟩) : Nat × Obj) ::
  ((nat_lit 240, ⟨(.type "tuple"), none, (.seq #[(.str (⟨#[115, 101, 108, 102]⟩ : Str) (511)), (.str (⟨#[118, 95, 49]⟩ : Str) (512)), (.str (⟨#[118, 95, 51]⟩ : Str) (513))] 0), #[]⟩) : Nat × Obj) ::
  ((nat_lit 241, ⟨(.type "tuple"), none, (.seq #[] 0), #[]⟩) : Nat × Obj) ::
  ((nat_lit 243, ⟨(.type "code"), none, (.fields #[(.str (⟨#[114, 95, 115, 116, 101, 112, 50]⟩ : Str) (508)), (.str (⟨#[76, 105, 116, 104, 117, 97, 110, 105, 97, 110, 83, 116, 101, 109, 109, 101, 114, 46, 114, 95, 115, 116, 101, 112, 50]⟩ : Str) (509)), (.str (⟨#[47, 99, 108, 97, 105, 109, 47, 99, 117, 116, 46, 112, 121]⟩ : Str) (510)), (.int 176 0), (.int 1 0), (.int 0 0), (.int 0 0), (.int 3 0), (.ref (238)), (.bool true), (.int 181 0), (.ref (239)), .none, (.ref (240)), (.ref (241)), (.ref (242)), (.int 514 0), (.int 176 0), (.str (⟨#[47, 99, 108, 97, 105, 109, 47, 99, 117, 116, 46, 112, 121]⟩ : Str) (515))]), #[]⟩) : Nat × Obj) ::
  ((nat_lit 244, ⟨(.type "function"), none, (.func (fnAt (stAt (subs (stAt top 6)) 3) (⟨#[76, 105, 116, 104, 117, 97, 110, 105, 97, 110, 83, 116, 101, 109, 109, 101, 114, 46, 114, 95, 115, 116, 101, 112, 50]⟩ : Str) 3 [] .none .none .none (.str (⟨#[115, 110, 111, 119, 98, 97, 108, 108, 115, 116, 101, 109, 109, 101, 114, 46, 108, 105, 116, 104, 117, 97, 110, 105, 97, 110, 95, 115, 116, 101, 109, 109, 101, 114]⟩ : Str) (459)) none (.ref (243)) .none 0)), #[]⟩) : Nat × Obj) ::
  ((nat_lit 245, ⟨(.type "tuple"), none, (.seq #[] 0), #[]⟩) : Nat × Obj) ::
  ((nat_lit 247, ⟨(.type "tuple"), none, (.seq #[(.str (⟨#[115, 101, 108, 102]⟩ : Str) (520)), (.str (⟨#[97, 109, 111, 110, 103, 95, 118, 97, 114]⟩ : Str) (521))] 0), #[]⟩) : Nat × Obj) ::
  ((nat_lit 248, ⟨(.type "tuple"), none, (.seq #[] 0), #[]⟩) : Nat × Obj) ::
  ((nat_lit 250, ⟨(.type "code"), none, (.fields #[(.str (⟨#[114, 95, 102, 105, 120, 95, 99, 111, 110, 102, 108, 105, 99, 116, 115]⟩ : Str) (517)), (.str (⟨#[76, 105, 116, 104, 117, 97, 110, 105, 97, 110, 83, 116, 101, 109, 109, 101, 114, 46, 114, 95, 102, 105, 120, 95, 99, 111, 110, 102, 108, 105, 99, 116, 115]⟩ : Str) (518)), (.str (⟨#[47, 99, 108, 97, 105, 109, 47, 99, 117, 116, 46, 112, 121]⟩ : Str) (519)), (.int 198 0), (.int 1 0), (.int 0 0), (.int 0 0), (.int 3 0), (.ref (245)), (.bool true), (.int 181 0), (.ref (246)), .none, (.ref (247)), (.ref (248)), (.ref (249)), (.int 522 0), (.int 198 0), (.str (⟨#[47, 99, 108, 97, 105, 109, 47, 99, 117, 116, 46, 112, 121]⟩ : Str) (523))]), #[]⟩) : Nat × Obj) ::
  ((nat_lit 251, ⟨(.type "function"), none, (.func (fnAt (stAt (subs (stAt top 6)) 4) (⟨#[76, 105, 116, 104, 117, 97, 110, 105, 97, 110, 83, 116, 101, 109, 109, 101, 114, 46, 114, 95, 102, 105, 120, 95, 99, 111, 110, 102, 108, 105, 99, 116, 115]⟩ : Str) 3 [] .none .none .none (.str (⟨#[115, 110, 111, 119, 98, 97, 108, 108, 115, 116, 101, 109, 109, 101, 114, 46, 108, 105, 116, 104, 117, 97, 110, 105, 97, 110, 95, 115, 116, 101, 109, 109, 101, 114]⟩ : Str) (459)) none (.ref (250)) .none 0)), #[]⟩) : Nat × Obj) ::
  ((nat_lit 252, ⟨(.type "tuple"), none, (.seq #[] 0), #[]⟩) : Nat × Obj) ::
  ((nat_lit 254, ⟨(.type "tuple"), none, (.seq #[(.str (⟨#[115, 101, 108, 102]⟩ : Str) (528)), (.str (⟨#[97, 109, 111, 110, 103, 95, 118, 97, 114]⟩ : Str) (529))] 0), #[]⟩) : Nat × Obj) ::
  ((nat_lit 255, ⟨(.type "tuple"), none, (.seq #[] 0), #[]⟩) : Nat × Obj) ::
  ((nat_lit 257, ⟨(.type "code"), none, (.fields #[(.str (⟨#[114, 95, 102, 105, 120, 95, 99, 104, 100, 122]⟩ : Str) (525)), (.str (⟨#[76, 105, 116, 104, 117, 97, 110, 105, 97, 110, 83, 116, 101, 109, 109, 101, 114, 46, 114, 95, 102, 105, 120, 95, 99, 104, 100, 122]⟩ : Str) (526)), (.str (⟨#[47, 99, 108, 97, 105, 109, 47, 99, 117, 116, 46, 112, 121]⟩ : Str) (527)), (.int 207 0), (.int 1 0), (.int 0 0), (.int 0 0), (.int 3 0), (.ref (252)), (.bool true), (.int 181 0), (.ref (253)), .none, (.ref (254)), (.ref (255)), (.ref (256)), (.int 530 0), (.int 207 0), (.str (⟨#[47, 99, 108, 97, 105, 109, 47, 99, 117, 116, 46, 112, 121]⟩ : Str) (531))]), #[]⟩) : Nat × Obj) ::
  ((nat_lit 258, ⟨(.type "function"), none, (.func (fnAt (stAt (subs (stAt top 6)) 5) (⟨#[76, 105, 116, 104, 117, 97, 110, 105, 97, 110, 83, 116, 101, 109, 109, 101, 114, 46, 114, 95, 102, 105, 120, 95, 99, 104, 100, 122]⟩ : Str) 3 [] .none .none .none (.str (⟨#[115, 110, 111, 119, 98, 97, 108, 108, 115, 116, 101, 109, 109, 101, 114, 46, 108, 105, 116, 104, 117, 97, 110, 105, 97, 110, 95, 115, 116, 101, 109, 109, 101, 114]⟩ : Str) (459)) none (.ref (257)) .none 0)), #[]⟩) : Nat × Obj) ::
  ((nat_lit 259, ⟨(.type "tuple"), none, (.seq #[] 0), #[]⟩) : Nat × Obj) ::
  ((nat_lit 261, ⟨(.type "tuple"), none, (.seq #[(.str (⟨#[115, 101, 108, 102]⟩ : Str) (536))] 0), #[]⟩) : Nat × Obj) ::
  ((nat_lit 262, ⟨(.type "tuple"), none, (.seq #[] 0), #[]⟩) : Nat × Obj) ::
  ((nat_lit 264, ⟨(.type "code"), none, (.fields #[(.str (⟨#[114, 95, 102, 105, 120, 95, 103, 100]⟩ : Str) (533)), (.str (⟨#[76, 105, 116, 104, 117, 97, 110, 105, 97, 110, 83, 116, 101, 109, 109, 101, 114, 46, 114, 95, 102, 105, 120, 95, 103, 100]⟩ : Str) (534)), (.str (⟨#[47, 99, 108, 97, 105, 109, 47, 99, 117, 116, 46, 112, 121]⟩ : Str) (535)), (.int 216 0), (.int 1 0), (.int 0 0), (.int 0 0), (.int 3 0), (.ref (259)), (.bool true), (.int 181 0), (.ref (260)), .none, (.ref (261)), (.ref (262)), (.ref (263)), (.int 537 0), (.int 216 0), (.str (⟨#[47, 99, 108, 97, 105, 109, 47, 99, 117, 116, 46, 112, 121]⟩ : Str) (538))]), #[]⟩) : Nat × Obj) ::
  ((nat_lit 265, ⟨(.type "function"), none, (.func (fnAt (stAt (subs (stAt top 6)) 6) (⟨#[76, 105, 116, 104, 117, 97, 110, 105, 97, 110, 83, 116, 101, 109, 109, 101, 114, 46, 114, 95, 102, 105, 120, 95, 103, 100]⟩ : Str) 3 [] .none .none .none (.str (⟨#[115, 110, 111, 119, 98, 97, 108, 108, 115, 116, 101, 109, 109, 101, 114, 46, 108, 105, 116, 104, 117, 97, 110, 105, 97, 110, 95, 115, 116, 101, 109, 109, 101, 114]⟩ : Str) (459)) none (.ref (264)) .none 0)), #[]⟩) : Nat × Obj) ::
  ((nat_lit 266, ⟨(.type "tuple"), none, (.seq #[] 0), #[]⟩) : Nat × Obj) ::
  ((nat_lit 268, ⟨(.type "tuple"), none, (.seq #[(.str (⟨#[115, 101, 108, 102]⟩ : Str) (543)), (.str (⟨#[118, 95, 49]⟩ : Str) (544)), (.str (⟨#[118, 95, 50]⟩ : Str) (545)), (.str (⟨#[118, 95, 51]⟩ : Str) (546)), (.str (⟨#[118, 95, 52]⟩ : Str) (547)), (.str (⟨#[118, 95, 53]⟩ : Str) (548)), (.str (⟨#[118, 95, 54]⟩ : Str) (549)), (.str (⟨#[118, 95, 55]⟩ : Str) (550)), (.str (⟨#[118, 95, 56]⟩ : Str) (551))] 0), #[]⟩) : Nat × Obj) ::
  ((nat_lit 269, ⟨(.type "tuple"), none, (.seq #[] 0), #[]⟩) : Nat × Obj) ::
  ((nat_lit 271, ⟨(.type "code"), none, (.fields #[(.str (⟨#[95, 115, 116, 101, 109]⟩ : Str) (540)), (.str (⟨#[76, 105, 116, 104, 117, 97, 110, 105, 97, 110, 83, 116, 101, 109, 109, 101, 114, 46, 95, 115, 116, 101, 109]⟩ : Str) (541)), (.str (⟨#[47, 99, 108, 97, 105, 109, 47, 99, 117, 116, 46, 112, 121]⟩ : Str) (542)), (.int 224 0), (.int 1 0), (.int 0 0), (.int 0 0), (.int 3 0), (.ref (266)), (.bool true), (.int 181 0), (.ref (267)), .none, (.ref (268)), (.ref (269)), (.ref (270)), (.int 552 0), (.int 224 0), (.str (⟨#[47, 99, 108, 97, 105, 109, 47, 99, 117, 116, 46, 112, 121]⟩ : Str) (553))]), #[]⟩) : Nat × Obj) ::
  ((nat_lit 272, ⟨(.type "function"), none, (.func (fnAt (stAt (subs (stAt top 6)) 7) (⟨#[76, 105, 116, 104, 117, 97, 110, 105, 97, 110, 83, 116, 101, 109, 109, 101, 114, 46, 95, 115, 116, 101, 109]⟩ : Str) 3 [] .none .none .none (.str (⟨#[115, 110, 111, 119, 98, 97, 108, 108, 115, 116, 101, 109, 109, 101, 114, 46, 108, 105, 116, 104, 117, 97, 110, 105, 97, 110, 95, 115, 116, 101, 109, 109, 101, 114]⟩ : Str) (459)) none (.ref (271)) .none 0)), #[]⟩) : Nat × Obj) ::
  ((nat_lit 852, ⟨(.type "list"), none, (.seq #[(.ref (274)), (.ref (277)), (.ref (280)), (.ref (283)), (.ref (286)), (.ref (289)), (.ref (292)), (.ref (295)), (.ref (298)), (.ref (301)), (.ref (304)), (.ref (307)), (.ref (310)), (.ref (313)), (.ref (316)), (.ref (319)), (.ref (322)), (.ref (325)), (.ref (328)), (.ref (331)), (.ref (334)), (.ref (337)), (.ref (340)), (.ref (343)), (.ref (346)), (.ref (349)), (.ref (352)), (.ref (355)), (.ref (358)), (.ref (361)), (.ref (364)), (.ref (367)), (.ref (370)), (.ref (373)), (.ref (376)), (.ref (379)), (.ref (382)), (.ref (385)), (.ref (388)), (.ref (391)), (.ref (394)), (.ref (397)), (.ref (400)), (.ref (403)), (.ref (406)), (.ref (409)), (.ref (412)), (.ref (415)), (.ref (418)), (.ref (421)), (.ref (424)), (.ref (427)), (.ref (430)), (.ref (433)), (.ref (436)), (.ref (439)), (.ref (442)), (.ref (445)), (.ref (448)), (.ref (451)), (.ref (454)), (.ref (457)), (.ref (460)), (.ref (463)), (.ref (466)), (.ref (469)), (.ref (472)), (.ref (475)), (.ref (478)), (.ref (481)), (.ref (484)), (.ref (487)), (.ref (490)), (.ref (493)), (.ref (496)), (.ref (499)), (.ref (502)), (.ref (505)), (.ref (508)), (.ref (511)), (.ref (514)), (.ref (517)), (.ref (520)), (.ref (523)), (.ref (526)), (.ref (529)), (.ref (532)), (.ref (535)), (.ref (538)), (.ref (541)), (.ref (544)), (.ref (547)), (.ref (550)), (.ref (553)), (.ref (556)), (.ref (559)), (.ref (562)), (.ref (565)), (.ref (568)), (.ref (571)), (.ref (574)), (.ref (577)), (.ref (580)), (.ref (583)), (.ref (586)), (.ref (589)), (.ref (592)), (.ref (595)), (.ref (598)), (.ref (601)), (.ref (604)), (.ref (607)), (.ref (610)), (.ref (613)), (.ref (616)), (.ref (619)), (.ref (622)), (.ref (625)), (.ref (628)), (.ref (631)), (.ref (634)), (.ref (637)), (.ref (640)), (.ref (643)), (.ref (646)), (.ref (649)), (.ref (652)), (.ref (655)), (.ref (658)), (.ref (661)), (.ref (664)), (.ref (667)), (.ref (670)), (.ref (673)), (.ref (676)), (.ref (679)), (.ref (682)), (.ref (685)), (.ref (688)), (.ref (691)), (.ref (694)), (.ref (697)), (.ref (700)), (.ref (703)), (.ref (706)), (.ref (709)), (.ref (712)), (.ref (715)), (.ref (718)), (.ref (721)), (.ref (724)), (.ref (727)), (.ref (730)), (.ref (733)), (.ref (736)), (.ref (739)), (.ref (742)), (.ref (745)), (.ref (748)), (.ref (751)), (.ref (754)), (.ref (757)), (.ref (760)), (.ref (763)), (.ref (766)), (.ref (769)), (.ref (772)), (.ref (775)), (.ref (778)), (.ref (781)), (.ref (784)), (.ref (787)), (.ref (790)), (.ref (793)), (.ref (796)), (.ref (799)), (.ref (802)), (.ref (805)), (.ref (808)), (.ref (811)), (.ref (814)), (.ref (817)), (.ref (820)), (.ref (823)), (.ref (826)), (.ref (829)), (.ref (832)), (.ref (835)), (.ref (838)), (.ref (841)), (.ref (844)), (.ref (847)), (.ref (850))] 0), #[]⟩) : Nat × Obj) ::
  ((nat_lit 1039, ⟨(.type "list"), none, (.seq #[(.ref (854)), (.ref (857)), (.ref (860)), (.ref (863)), (.ref (866)), (.ref (869)), (.ref (872)), (.ref (875)), (.ref (878)), (.ref (881)), (.ref (884)), (.ref (887)), (.ref (890)), (.ref (893)), (.ref (896)), (.ref (899)), (.ref (902)), (.ref (905)), (.ref (908)), (.ref (911)), (.ref (914)), (.ref (917)), (.ref (920)), (.ref (923)), (.ref (926)), (.ref (929)), (.ref (932)), (.ref (935)), (.ref (938)), (.ref (941)), (.ref (944)), (.ref (947)), (.ref (950)), (.ref (953)), (.ref (956)), (.ref (959)), (.ref (962)), (.ref (965)), (.ref (968)), (.ref (971)), (.ref (974)), (.ref (977)), (.ref (980)), (.ref (983)), (.ref (986)), (.ref (989)), (.ref (992)), (.ref (995)), (.ref (998)), (.ref (1001)), (.ref (1004)), (.ref (1007)), (.ref (1010)), (.ref (1013)), (.ref (1016)), (.ref (1019)), (.ref (1022)), (.ref (1025)), (.ref (1028)), (.ref (1031)), (.ref (1034)), (.ref (1037))] 0), #[]⟩) : Nat × Obj) ::
  ((nat_lit 1073, ⟨(.type "list"), none, (.seq #[(.ref (1041)), (.ref (1044)), (.ref (1047)), (.ref (1050)), (.ref (1053)), (.ref (1056)), (.ref (1059)), (.ref (1062)), (.ref (1065)), (.ref (1068)), (.ref (1071))] 0), #[]⟩) : Nat × Obj) ::
  ((nat_lit 1074, ⟨(.type "tuple"), none, (.seq #[(.str (⟨#[97, 105, 116, 279]⟩ : Str) (4350)), (.str (⟨#[117, 111, 116, 279]⟩ : Str) (4351)), (.str (⟨#[279, 106, 105, 109, 97, 115]⟩ : Str) (4352)), (.str (⟨#[101, 115, 121, 115]⟩ : Str) (4353)), (.str (⟨#[97, 115, 121, 115]⟩ : Str) (4354)), (.str (⟨#[97, 118, 105, 109, 97, 115]⟩ : Str) (4355)), (.str (⟨#[111, 106, 105, 109, 97, 115]⟩ : Str) (4356)), (.str (⟨#[111, 107, 97, 116, 279]⟩ : Str) (4357))] 0), #[]⟩) : Nat × Obj) ::
  ((nat_lit 1081, ⟨(.type "list"), none, (.seq #[(.ref (1076)), (.ref (1079))] 0), #[]⟩) : Nat × Obj) ::
  ((nat_lit 1082, ⟨(.type "tuple"), none, (.seq #[(.str (⟨#[116]⟩ : Str) (4388)), (.str (⟨#[100]⟩ : Str) (4389))] 0), #[]⟩) : Nat × Obj) ::
  ((nat_lit 1083, ⟨(.type "tuple"), none, (.seq #[(.str (⟨#[73, 95, 112, 49]⟩ : Str) (4391)), (.str (⟨#[98, 114, 97]⟩ : Str) (4392)), (.str (⟨#[99, 117, 114, 115, 111, 114]⟩ : Str) (4393)), (.str (⟨#[107, 101, 116]⟩ : Str) (4394)), (.str (⟨#[108, 105, 109, 105, 116, 95, 98, 97, 99, 107, 119, 97, 114, 100]⟩ : Str) (4395))] 0), #[]⟩) : Nat × Obj) ::
  ((nat_lit 1084, ⟨(.type "dict"), none, (.dict #[⟨PyData.keyHash P (⟨#[95, 95, 109, 111, 100, 117, 108, 101, 95, 95]⟩ : Str), (.str (⟨#[95, 95, 109, 111, 100, 117, 108, 101, 95, 95]⟩ : Str) (468)), (.str (⟨#[115, 110, 111, 119, 98, 97, 108, 108, 115, 116, 101, 109, 109, 101, 114, 46, 108, 105, 116, 104, 117, 97, 110, 105, 97, 110, 95, 115, 116, 101, 109, 109, 101, 114]⟩ : Str) (459))⟩, ⟨PyData.keyHash P (⟨#[95, 95, 102, 105, 114, 115, 116, 108, 105, 110, 101, 110, 111, 95, 95]⟩ : Str), (.str (⟨#[95, 95, 102, 105, 114, 115, 116, 108, 105, 110, 101, 110, 111, 95, 95]⟩ : Str) (472)), (.int 158 (471))⟩, ⟨PyData.keyHash P (⟨#[103, 95, 118]⟩ : Str), (.str (⟨#[103, 95, 118]⟩ : Str) (497)), (.ref (230))⟩, ⟨PyData.keyHash P (⟨#[73, 95, 112, 49]⟩ : Str), (.str (⟨#[73, 95, 112, 49]⟩ : Str) (499)), (.int 0 (498))⟩, ⟨PyData.keyHash P (⟨#[114, 95, 115, 116, 101, 112, 49]⟩ : Str), (.str (⟨#[114, 95, 115, 116, 101, 112, 49]⟩ : Str) (507)), (.ref (237))⟩, ⟨PyData.keyHash P (⟨#[114, 95, 115, 116, 101, 112, 50]⟩ : Str), (.str (⟨#[114, 95, 115, 116, 101, 112, 50]⟩ : Str) (516)), (.ref (244))⟩, ⟨PyData.keyHash P (⟨#[114, 95, 102, 105, 120, 95, 99, 111, 110, 102, 108, 105, 99, 116, 115]⟩ : Str), (.str (⟨#[114, 95, 102, 105, 120, 95, 99, 111, 110, 102, 108, 105, 99, 116, 115]⟩ : Str) (524)), (.ref (251))⟩, ⟨PyData.keyHash P (⟨#[114, 95, 102, 105, 120, 95, 99, 104, 100, 122]⟩ : Str), (.str (⟨#[114, 95, 102, 105, 120, 95, 99, 104, 100, 122]⟩ : Str) (532)), (.ref (258))⟩, ⟨PyData.keyHash P (⟨#[114, 95, 102, 105, 120, 95, 103, 100]⟩ : Str), (.str (⟨#[114, 95, 102, 105, 120, 95, 103, 100]⟩ : Str) (539)), (.ref (265))⟩, ⟨PyData.keyHash P (⟨#[95, 115, 116, 101, 109]⟩ : Str), (.str (⟨#[95, 115, 116, 101, 109]⟩ : Str) (554)), (.ref (272))⟩, ⟨PyData.keyHash P (⟨#[97, 95, 48]⟩ : Str), (.str (⟨#[97, 95, 48]⟩ : Str) (3286)), (.ref (852))⟩, ⟨PyData.keyHash P (⟨#[97, 95, 49]⟩ : Str), (.str (⟨#[97, 95, 49]⟩ : Str) (4194)), (.ref (1039))⟩, ⟨PyData.keyHash P (⟨#[97, 95, 50]⟩ : Str), (.str (⟨#[97, 95, 50]⟩ : Str) (4349)), (.ref (1073))⟩, ⟨PyData.keyHash P (⟨#[97, 115, 95, 50]⟩ : Str), (.str (⟨#[97, 115, 95, 50]⟩ : Str) (4358)), (.ref (1074))⟩, ⟨PyData.keyHash P (⟨#[97, 95, 51]⟩ : Str), (.str (⟨#[97, 95, 51]⟩ : Str) (4387)), (.ref (1081))⟩, ⟨PyData.keyHash P (⟨#[97, 115, 95, 51]⟩ : Str), (.str (⟨#[97, 115, 95, 51]⟩ : Str) (4390)), (.ref (1082))⟩, ⟨PyData.keyHash P (⟨#[95, 95, 115, 116, 97, 116, 105, 99, 95, 97, 116, 116, 114, 105, 98, 117, 116, 101, 115, 95, 95]⟩ : Str), (.str (⟨#[95, 95, 115, 116, 97, 116, 105, 99, 95, 97, 116, 116, 114, 105, 98, 117, 116, 101, 115, 95, 95]⟩ : Str) (4396)), (.ref (1083))⟩, ⟨PyData.keyHash P (⟨#[95, 95, 100, 111, 99, 95, 95]⟩ : Str), (.str (⟨#[95, 95, 100, 111, 99, 95, 95]⟩ : Str) (4397)), .none⟩] 2), #[]⟩) : Nat × Obj) ::
  ((nat_lit 1085, ⟨(.type "type"), none, (.cls { name := (⟨#[76, 105, 116, 104, 117, 97, 110, 105, 97, 110, 83, 116, 101, 109, 109, 101, 114]⟩ : Str), bases := [(.ref (197))], mro := [(.ref (1085)), (.ref (197)), (.type "object")], ns := 1084, qualname := (⟨#[76, 105, 116, 104, 117, 97, 110, 105, 97, 110, 83, 116, 101, 109, 109, 101, 114]⟩ : Str), hasDict := true, slotNames := [], subclasses := [], abstract := false, collection := none, hasDel := false }), #[(some (.ref (223))), none, (some (.str (⟨#[76, 105, 116, 104, 117, 97, 110, 105, 97, 110, 83, 116, 101, 109, 109, 101, 114]⟩ : Str) (461))), (some (.str (⟨#[76, 105, 116, 104, 117, 97, 110, 105, 97, 110, 83, 116, 101, 109, 109, 101, 114]⟩ : Str) (469))), (some (.builtin "object.__new__")), (some (.bool true))]⟩) : Nat × Obj) ::
  ((nat_lit 1088, ⟨(.type "tuple"), none, (.seq #[(.type "Exception")] 0), #[]⟩) : Nat × Obj) ::
  ((nat_lit 1095, ⟨(.type "tuple"), none, (.seq #[] 0), #[]⟩) : Nat × Obj) ::
  ((nat_lit 1096, ⟨(.type "dict"), none, (.dict #[⟨PyData.keyHash P (⟨#[95, 95, 109, 111, 100, 117, 108, 101, 95, 95]⟩ : Str), (.str (⟨#[95, 95, 109, 111, 100, 117, 108, 101, 95, 95]⟩ : Str) (4407)), (.str (⟨#[115, 110, 111, 119, 98, 97, 108, 108, 115, 116, 101, 109, 109, 101, 114, 46, 108, 105, 116, 104, 117, 97, 110, 105, 97, 110, 95, 115, 116, 101, 109, 109, 101, 114]⟩ : Str) (459))⟩, ⟨PyData.keyHash P (⟨#[95, 95, 102, 105, 114, 115, 116, 108, 105, 110, 101, 110, 111, 95, 95]⟩ : Str), (.str (⟨#[95, 95, 102, 105, 114, 115, 116, 108, 105, 110, 101, 110, 111, 95, 95]⟩ : Str) (4411)), (.int 283 (4410))⟩, ⟨PyData.keyHash P (⟨#[95, 95, 115, 116, 97, 116, 105, 99, 95, 97, 116, 116, 114, 105, 98, 117, 116, 101, 115, 95, 95]⟩ : Str), (.str (⟨#[95, 95, 115, 116, 97, 116, 105, 99, 95, 97, 116, 116, 114, 105, 98, 117, 116, 101, 115, 95, 95]⟩ : Str) (4412)), (.ref (1095))⟩, ⟨PyData.keyHash P (⟨#[95, 95, 119, 101, 97, 107, 114, 101, 102, 95, 95]⟩ : Str), (.str (⟨#[95, 95, 119, 101, 97, 107, 114, 101, 102, 95, 95]⟩ : Str) (4414)), (.ref (1098))⟩, ⟨PyData.keyHash P (⟨#[95, 95, 100, 111, 99, 95, 95]⟩ : Str), (.str (⟨#[95, 95, 100, 111, 99, 95, 95]⟩ : Str) (4415)), .none⟩] 3), #[]⟩) : Nat × Obj) ::
  ((nat_lit 1097, ⟨(.type "type"), none, (.cls { name := (⟨#[108, 97, 98, 48]⟩ : Str), bases := [(.type "Exception")], mro := [(.ref (1097)), (.type "Exception"), (.type "BaseException"), (.type "object")], ns := 1096, qualname := (⟨#[108, 97, 98, 48]⟩ : Str), hasDict := true, slotNames := [], subclasses := [], abstract := false, collection := none, hasDel := false }), #[(some (.ref (1088))), none, (some (.str (⟨#[108, 97, 98, 48]⟩ : Str) (4400))), (some (.str (⟨#[108, 97, 98, 48]⟩ : Str) (4408))), (some (.builtin "Exception.__new__")), (some (.bool true))]⟩) : Nat × Obj) ::
  ((nat_lit 1098, ⟨(.type "getset_descriptor"), none, (.fields #[(.str (⟨#[95, 95, 119, 101, 97, 107, 114, 101, 102, 95, 95]⟩ : Str) (4413)), (.ref (1097)), (.builtin "ExceptionGroup.__weakref__"), .none]), #[]⟩) : Nat × Obj) ::
  ((nat_lit 1101, ⟨(.type "tuple"), none, (.seq #[(.type "Exception")] 0), #[]⟩) : Nat × Obj) ::
  ((nat_lit 1108, ⟨(.type "tuple"), none, (.seq #[] 0), #[]⟩) : Nat × Obj) ::
  ((nat_lit 1109, ⟨(.type "dict"), none, (.dict #[⟨PyData.keyHash P (⟨#[95, 95, 109, 111, 100, 117, 108, 101, 95, 95]⟩ : Str), (.str (⟨#[95, 95, 109, 111, 100, 117, 108, 101, 95, 95]⟩ : Str) (4427)), (.str (⟨#[115, 110, 111, 119, 98, 97, 108, 108, 115, 116, 101, 109, 109, 101, 114, 46, 108, 105, 116, 104, 117, 97, 110, 105, 97, 110, 95, 115, 116, 101, 109, 109, 101, 114]⟩ : Str) (459))⟩, ⟨PyData.keyHash P (⟨#[95, 95, 102, 105, 114, 115, 116, 108, 105, 110, 101, 110, 111, 95, 95]⟩ : Str), (.str (⟨#[95, 95, 102, 105, 114, 115, 116, 108, 105, 110, 101, 110, 111, 95, 95]⟩ : Str) (4431)), (.int 285 (4430))⟩, ⟨PyData.keyHash P (⟨#[95, 95, 115, 116, 97, 116, 105, 99, 95, 97, 116, 116, 114, 105, 98, 117, 116, 101, 115, 95, 95]⟩ : Str), (.str (⟨#[95, 95, 115, 116, 97, 116, 105, 99, 95, 97, 116, 116, 114, 105, 98, 117, 116, 101, 115, 95, 95]⟩ : Str) (4432)), (.ref (1108))⟩, ⟨PyData.keyHash P (⟨#[95, 95, 119, 101, 97, 107, 114, 101, 102, 95, 95]⟩ : Str), (.str (⟨#[95, 95, 119, 101, 97, 107, 114, 101, 102, 95, 95]⟩ : Str) (4434)), (.ref (1111))⟩, ⟨PyData.keyHash P (⟨#[95, 95, 100, 111, 99, 95, 95]⟩ : Str), (.str (⟨#[95, 95, 100, 111, 99, 95, 95]⟩ : Str) (4435)), .none⟩] 3), #[]⟩) : Nat × Obj) ::
  ((nat_lit 1110, ⟨(.type "type"), none, (.cls { name := (⟨#[108, 97, 98, 49]⟩ : Str), bases := [(.type "Exception")], mro := [(.ref (1110)), (.type "Exception"), (.type "BaseException"), (.type "object")], ns := 1109, qualname := (⟨#[108, 97, 98, 49]⟩ : Str), hasDict := true, slotNames := [], subclasses := [], abstract := false, collection := none, hasDel := false }), #[(some (.ref (1101))), none, (some (.str (⟨#[108, 97, 98, 49]⟩ : Str) (4420))), (some (.str (⟨#[108, 97, 98, 49]⟩ : Str) (4428))), (some (.builtin "Exception.__new__")), (some (.bool true))]⟩) : Nat × Obj) ::
  ((nat_lit 1111, ⟨(.type "getset_descriptor"), none, (.fields #[(.str (⟨#[95, 95, 119, 101, 97, 107, 114, 101, 102, 95, 95]⟩ : Str) (4433)), (.ref (1110)), (.builtin "ExceptionGroup.__weakref__"), .none]), #[]⟩) : Nat × Obj) ::
  ((nat_lit 1114, ⟨(.type "tuple"), none, (.seq #[] 0), #[]⟩) : Nat × Obj) ::
  ((nat_lit 1116, ⟨(.type "tuple"), none, (.seq #[] 0), #[]⟩) : Nat × Obj) ::
  ((nat_lit 1117, ⟨(.type "tuple"), none, (.seq #[] 0), #[]⟩) : Nat × Obj) ::
  ((nat_lit 1119, ⟨(.type "code"), none, (.fields #[(.str (⟨#[95, 108, 97, 119, 95, 101, 110, 100, 115]⟩ : Str) (4448)), (.str (⟨#[95, 108, 97, 119, 95, 101, 110, 100, 115]⟩ : Str) (4449)), (.str (⟨#[47, 99, 108, 97, 105, 109, 47, 99, 117, 116, 46, 112, 121]⟩ : Str) (4450)), (.int 291 0), (.int 0 0), (.int 0 0), (.int 0 0), (.int 3 0), (.ref (1114)), (.bool true), (.int 181 0), (.ref (1115)), .none, (.ref (1116)), (.ref (1117)), (.ref (1118)), (.int 4451 0), (.int 291 0), (.str (⟨#[47, 99, 108, 97, 105, 109, 47, 99, 117, 116, 46, 112, 121]⟩ : Str) (4452))]), #[]⟩) : Nat × Obj) ::
  ((nat_lit 1120, ⟨(.type "function"), none, (.func (fnAt (stAt top 13) (⟨#[95, 108, 97, 119, 95, 101, 110, 100, 115]⟩ : Str) 3 [] .none .none .none (.str (⟨#[108, 97, 119, 95, 97, 104, 48, 48, 52, 48, 95, 48, 49]⟩ : Str) (4440)) none (.ref (1119)) .none 0)), #[]⟩) : Nat × Obj) ::
  ((nat_lit 1121, ⟨(.type "tuple"), none, (.seq #[] 0), #[]⟩) : Nat × Obj) ::
  ((nat_lit 1123, ⟨(.type "tuple"), none, (.seq #[] 0), #[]⟩) : Nat × Obj) ::
  ((nat_lit 1124, ⟨(.type "tuple"), none, (.seq #[] 0), #[]⟩) : Nat × Obj) ::
  ((nat_lit 1126, ⟨(.type "code"), none, (.fields #[(.str (⟨#[95, 108, 97, 119, 95, 109, 111, 114, 101, 95, 101, 110, 100, 115]⟩ : Str) (4454)), (.str (⟨#[95, 108, 97, 119, 95, 109, 111, 114, 101, 95, 101, 110, 100, 115]⟩ : Str) (4455)), (.str (⟨#[47, 99, 108, 97, 105, 109, 47, 99, 117, 116, 46, 112, 121]⟩ : Str) (4456)), (.int 293 0), (.int 0 0), (.int 0 0), (.int 0 0), (.int 3 0), (.ref (1121)), (.bool true), (.int 181 0), (.ref (1122)), .none, (.ref (1123)), (.ref (1124)), (.ref (1125)), (.int 4457 0), (.int 293 0), (.str (⟨#[47, 99, 108, 97, 105, 109, 47, 99, 117, 116, 46, 112, 121]⟩ : Str) (4458))]), #[]⟩) : Nat × Obj) ::
  ((nat_lit 1127, ⟨(.type "function"), none, (.func (fnAt (stAt top 14) (⟨#[95, 108, 97, 119, 95, 109, 111, 114, 101, 95, 101, 110, 100, 115]⟩ : Str) 3 [] .none .none .none (.str (⟨#[108, 97, 119, 95, 97, 104, 48, 48, 52, 48, 95, 48, 49]⟩ : Str) (4440)) none (.ref (1126)) .none 0)), #[]⟩) : Nat × Obj) ::
  ((nat_lit 1128, ⟨(.type "tuple"), none, (.seq #[] 0), #[]⟩) : Nat × Obj) ::
  ((nat_lit 1130, ⟨(.type "tuple"), none, (.seq #[] 0), #[]⟩) : Nat × Obj) ::
  ((nat_lit 1131, ⟨(.type "tuple"), none, (.seq #[] 0), #[]⟩) : Nat × Obj) ::
  ((nat_lit 1133, ⟨(.type "code"), none, (.fields #[(.str (⟨#[95, 108, 97, 119, 95, 106, 111, 105, 110, 105, 110, 103]⟩ : Str) (4460)), (.str (⟨#[95, 108, 97, 119, 95, 106, 111, 105, 110, 105, 110, 103]⟩ : Str) (4461)), (.str (⟨#[47, 99, 108, 97, 105, 109, 47, 99, 117, 116, 46, 112, 121]⟩ : Str) (4462)), (.int 295 0), (.int 0 0), (.int 0 0), (.int 0 0), (.int 3 0), (.ref (1128)), (.bool true), (.int 181 0), (.ref (1129)), .none, (.ref (1130)), (.ref (1131)), (.ref (1132)), (.int 4463 0), (.int 295 0), (.str (⟨#[47, 99, 108, 97, 105, 109, 47, 99, 117, 116, 46, 112, 121]⟩ : Str) (4464))]), #[]⟩) : Nat × Obj) ::
  ((nat_lit 1134, ⟨(.type "function"), none, (.func (fnAt (stAt top 15) (⟨#[95, 108, 97, 119, 95, 106, 111, 105, 110, 105, 110, 103]⟩ : Str) 3 [] .none .none .none (.str (⟨#[108, 97, 119, 95, 97, 104, 48, 48, 52, 48, 95, 48, 49]⟩ : Str) (4440)) none (.ref (1133)) .none 0)), #[]⟩) : Nat × Obj) ::
  ((nat_lit 1135, ⟨(.type "tuple"), none, (.seq #[] 0), #[]⟩) : Nat × Obj) ::
  ((nat_lit 1137, ⟨(.type "tuple"), none, (.seq #[] 0), #[]⟩) : Nat × Obj) ::
  ((nat_lit 1138, ⟨(.type "tuple"), none, (.seq #[] 0), #[]⟩) : Nat × Obj) ::
  ((nat_lit 1140, ⟨(.type "code"), none, (.fields #[(.str (⟨#[95, 108, 97, 119, 95, 105, 110, 110, 101, 114]⟩ : Str) (4466)), (.str (⟨#[95, 108, 97, 119, 95, 105, 110, 110, 101, 114]⟩ : Str) (4467)), (.str (⟨#[47, 99, 108, 97, 105, 109, 47, 99, 117, 116, 46, 112, 121]⟩ : Str) (4468)), (.int 297 0), (.int 0 0), (.int 0 0), (.int 0 0), (.int 3 0), (.ref (1135)), (.bool true), (.int 181 0), (.ref (1136)), .none, (.ref (1137)), (.ref (1138)), (.ref (1139)), (.int 4469 0), (.int 297 0), (.str (⟨#[47, 99, 108, 97, 105, 109, 47, 99, 117, 116, 46, 112, 121]⟩ : Str) (4470))]), #[]⟩) : Nat × Obj) ::
  ((nat_lit 1141, ⟨(.type "function"), none, (.func (fnAt (stAt top 16) (⟨#[95, 108, 97, 119, 95, 105, 110, 110, 101, 114]⟩ : Str) 3 [] .none .none .none (.str (⟨#[108, 97, 119, 95, 97, 104, 48, 48, 52, 48, 95, 48, 49]⟩ : Str) (4440)) none (.ref (1140)) .none 0)), #[]⟩) : Nat × Obj) ::
  ((nat_lit 1142, ⟨(.type "tuple"), none, (.seq #[] 0), #[]⟩) : Nat × Obj) ::
  ((nat_lit 1144, ⟨(.type "tuple"), none, (.seq #[] 0), #[]⟩) : Nat × Obj) ::
  ((nat_lit 1145, ⟨(.type "tuple"), none, (.seq #[] 0), #[]⟩) : Nat × Obj) ::
  ((nat_lit 1147, ⟨(.type "code"), none, (.fields #[(.str (⟨#[95, 108, 97, 119, 95, 119, 111, 109, 101, 110]⟩ : Str) (4472)), (.str (⟨#[95, 108, 97, 119, 95, 119, 111, 109, 101, 110]⟩ : Str) (4473)), (.str (⟨#[47, 99, 108, 97, 105, 109, 47, 99, 117, 116, 46, 112, 121]⟩ : Str) (4474)), (.int 299 0), (.int 0 0), (.int 0 0), (.int 0 0), (.int 3 0), (.ref (1142)), (.bool true), (.int 181 0), (.ref (1143)), .none, (.ref (1144)), (.ref (1145)), (.ref (1146)), (.int 4475 0), (.int 299 0), (.str (⟨#[47, 99, 108, 97, 105, 109, 47, 99, 117, 116, 46, 112, 121]⟩ : Str) (4476))]), #[]⟩) : Nat × Obj) ::
  ((nat_lit 1148, ⟨(.type "function"), none, (.func (fnAt (stAt top 17) (⟨#[95, 108, 97, 119, 95, 119, 111, 109, 101, 110]⟩ : Str) 3 [] .none .none .none (.str (⟨#[108, 97, 119, 95, 97, 104, 48, 48, 52, 48, 95, 48, 49]⟩ : Str) (4440)) none (.ref (1147)) .none 0)), #[]⟩) : Nat × Obj) ::
  ((nat_lit 1149, ⟨(.type "tuple"), none, (.seq #[] 0), #[]⟩) : Nat × Obj) ::
  ((nat_lit 1151, ⟨(.type "tuple"), none, (.seq #[] 0), #[]⟩) : Nat × Obj) ::
  ((nat_lit 1152, ⟨(.type "tuple"), none, (.seq #[] 0), #[]⟩) : Nat × Obj) ::
  ((nat_lit 1154, ⟨(.type "code"), none, (.fields #[(.str (⟨#[95, 108, 97, 119, 95, 100, 101, 101, 100, 115]⟩ : Str) (4478)), (.str (⟨#[95, 108, 97, 119, 95, 100, 101, 101, 100, 115]⟩ : Str) (4479)), (.str (⟨#[47, 99, 108, 97, 105, 109, 47, 99, 117, 116, 46, 112, 121]⟩ : Str) (4480)), (.int 301 0), (.int 0 0), (.int 0 0), (.int 0 0), (.int 3 0), (.ref (1149)), (.bool true), (.int 181 0), (.ref (1150)), .none, (.ref (1151)), (.ref (1152)), (.ref (1153)), (.int 4481 0), (.int 301 0), (.str (⟨#[47, 99, 108, 97, 105, 109, 47, 99, 117, 116, 46, 112, 121]⟩ : Str) (4482))]), #[]⟩) : Nat × Obj) ::
  ((nat_lit 1155, ⟨(.type "function"), none, (.func (fnAt (stAt top 18) (⟨#[95, 108, 97, 119, 95, 100, 101, 101, 100, 115]⟩ : Str) 3 [] .none .none .none (.str (⟨#[108, 97, 119, 95, 97, 104, 48, 48, 52, 48, 95, 48, 49]⟩ : Str) (4440)) none (.ref (1154)) .none 0)), #[]⟩) : Nat × Obj) ::
  ((nat_lit 1156, ⟨(.type "tuple"), none, (.seq #[] 0), #[]⟩) : Nat × Obj) ::
  ((nat_lit 1158, ⟨(.type "tuple"), none, (.seq #[] 0), #[]⟩) : Nat × Obj) ::
  ((nat_lit 1159, ⟨(.type "tuple"), none, (.seq #[] 0), #[]⟩) : Nat × Obj) ::
  ((nat_lit 1161, ⟨(.type "code"), none, (.fields #[(.str (⟨#[95, 108, 97, 119, 95, 112, 97, 105, 114, 115]⟩ : Str) (4484)), (.str (⟨#[95, 108, 97, 119, 95, 112, 97, 105, 114, 115]⟩ : Str) (4485)), (.str (⟨#[47, 99, 108, 97, 105, 109, 47, 99, 117, 116, 46, 112, 121]⟩ : Str) (4486)), (.int 303 0), (.int 0 0), (.int 0 0), (.int 0 0), (.int 3 0), (.ref (1156)), (.bool true), (.int 181 0), (.ref (1157)), .none, (.ref (1158)), (.ref (1159)), (.ref (1160)), (.int 4487 0), (.int 303 0), (.str (⟨#[47, 99, 108, 97, 105, 109, 47, 99, 117, 116, 46, 112, 121]⟩ : Str) (4488))]), #[]⟩) : Nat × Obj) ::
  ((nat_lit 1162, ⟨(.type "function"), none, (.func (fnAt (stAt top 19) (⟨#[95, 108, 97, 119, 95, 112, 97, 105, 114, 115]⟩ : Str) 3 [] .none .none .none (.str (⟨#[108, 97, 119, 95, 97, 104, 48, 48, 52, 48, 95, 48, 49]⟩ : Str) (4440)) none (.ref (1161)) .none 0)), #[]⟩) : Nat × Obj) ::
  ((nat_lit 1163, ⟨(.type "tuple"), none, (.seq #[] 0), #[]⟩) : Nat × Obj) ::
  ((nat_lit 1165, ⟨(.type "tuple"), none, (.seq #[] 0), #[]⟩) : Nat × Obj) ::
  ((nat_lit 1166, ⟨(.type "tuple"), none, (.seq #[] 0), #[]⟩) : Nat × Obj) ::
  ((nat_lit 1168, ⟨(.type "code"), none, (.fields #[(.str (⟨#[95, 108, 97, 119, 95, 115, 104, 111, 114, 116]⟩ : Str) (4490)), (.str (⟨#[95, 108, 97, 119, 95, 115, 104, 111, 114, 116]⟩ : Str) (4491)), (.str (⟨#[47, 99, 108, 97, 105, 109, 47, 99, 117, 116, 46, 112, 121]⟩ : Str) (4492)), (.int 305 0), (.int 0 0), (.int 0 0), (.int 0 0), (.int 3 0), (.ref (1163)), (.bool true), (.int 181 0), (.ref (1164)), .none, (.ref (1165)), (.ref (1166)), (.ref (1167)), (.int 4493 0), (.int 305 0), (.str (⟨#[47, 99, 108, 97, 105, 109, 47, 99, 117, 116, 46, 112, 121]⟩ : Str) (4494))]), #[]⟩) : Nat × Obj) ::
  ((nat_lit 1169, ⟨(.type "function"), none, (.func (fnAt (stAt top 20) (⟨#[95, 108, 97, 119, 95, 115, 104, 111, 114, 116]⟩ : Str) 3 [] .none .none .none (.str (⟨#[108, 97, 119, 95, 97, 104, 48, 48, 52, 48, 95, 48, 49]⟩ : Str) (4440)) none (.ref (1168)) .none 0)), #[]⟩) : Nat × Obj) ::
  ((nat_lit 1170, ⟨(.type "tuple"), none, (.seq #[] 0), #[]⟩) : Nat × Obj) ::
  ((nat_lit 1172, ⟨(.type "tuple"), none, (.seq #[(.str (⟨#[115, 99, 114, 105, 112, 116]⟩ : Str) (4499)), (.str (⟨#[105]⟩ : Str) (4500))] 0), #[]⟩) : Nat × Obj) ::
  ((nat_lit 1173, ⟨(.type "tuple"), none, (.seq #[] 0), #[]⟩) : Nat × Obj) ::
  ((nat_lit 1175, ⟨(.type "code"), none, (.fields #[(.str (⟨#[95, 108, 97, 119, 95, 97, 116]⟩ : Str) (4496)), (.str (⟨#[95, 108, 97, 119, 95, 97, 116]⟩ : Str) (4497)), (.str (⟨#[47, 99, 108, 97, 105, 109, 47, 99, 117, 116, 46, 112, 121]⟩ : Str) (4498)), (.int 307 0), (.int 2 0), (.int 0 0), (.int 0 0), (.int 3 0), (.ref (1170)), (.bool true), (.int 181 0), (.ref (1171)), .none, (.ref (1172)), (.ref (1173)), (.ref (1174)), (.int 4501 0), (.int 307 0), (.str (⟨#[47, 99, 108, 97, 105, 109, 47, 99, 117, 116, 46, 112, 121]⟩ : Str) (4502))]), #[]⟩) : Nat × Obj) ::
  ((nat_lit 1176, ⟨(.type "function"), none, (.func (fnAt (stAt top 21) (⟨#[95, 108, 97, 119, 95, 97, 116]⟩ : Str) 3 [] .none .none .none (.str (⟨#[108, 97, 119, 95, 97, 104, 48, 48, 52, 48, 95, 48, 49]⟩ : Str) (4440)) none (.ref (1175)) .none 0)), #[]⟩) : Nat × Obj) ::
  ((nat_lit 1177, ⟨(.type "tuple"), none, (.seq #[] 0), #[]⟩) : Nat × Obj) ::
  ((nat_lit 1179, ⟨(.type "tuple"), none, (.seq #[(.str (⟨#[115, 99, 114, 105, 112, 116]⟩ : Str) (4507)), (.str (⟨#[98, 111, 100, 121]⟩ : Str) (4508)), (.str (⟨#[105]⟩ : Str) (4509))] 0), #[]⟩) : Nat × Obj) ::
  ((nat_lit 1180, ⟨(.type "tuple"), none, (.seq #[] 0), #[]⟩) : Nat × Obj) ::
  ((nat_lit 1182, ⟨(.type "code"), none, (.fields #[(.str (⟨#[95, 108, 97, 119, 95, 98, 111, 100, 121]⟩ : Str) (4504)), (.str (⟨#[95, 108, 97, 119, 95, 98, 111, 100, 121]⟩ : Str) (4505)), (.str (⟨#[47, 99, 108, 97, 105, 109, 47, 99, 117, 116, 46, 112, 121]⟩ : Str) (4506)), (.int 311 0), (.int 1 0), (.int 0 0), (.int 0 0), (.int 3 0), (.ref (1177)), (.bool true), (.int 181 0), (.ref (1178)), .none, (.ref (1179)), (.ref (1180)), (.ref (1181)), (.int 4510 0), (.int 311 0), (.str (⟨#[47, 99, 108, 97, 105, 109, 47, 99, 117, 116, 46, 112, 121]⟩ : Str) (4511))]), #[]⟩) : Nat × Obj) ::
  ((nat_lit 1183, ⟨(.type "function"), none, (.func (fnAt (stAt top 22) (⟨#[95, 108, 97, 119, 95, 98, 111, 100, 121]⟩ : Str) 3 [] .none .none .none (.str (⟨#[108, 97, 119, 95, 97, 104, 48, 48, 52, 48, 95, 48, 49]⟩ : Str) (4440)) none (.ref (1182)) .none 0)), #[]⟩) : Nat × Obj) ::
  ((nat_lit 1184, ⟨(.type "tuple"), none, (.seq #[] 0), #[]⟩) : Nat × Obj) ::
  ((nat_lit 1186, ⟨(.type "tuple"), none, (.seq #[(.str (⟨#[121]⟩ : Str) (4516))] 0), #[]⟩) : Nat × Obj) ::
  ((nat_lit 1187, ⟨(.type "tuple"), none, (.seq #[] 0), #[]⟩) : Nat × Obj) ::
  ((nat_lit 1189, ⟨(.type "code"), none, (.fields #[(.str (⟨#[95, 108, 97, 119, 95, 101, 110, 100]⟩ : Str) (4513)), (.str (⟨#[95, 108, 97, 119, 95, 101, 110, 100]⟩ : Str) (4514)), (.str (⟨#[47, 99, 108, 97, 105, 109, 47, 99, 117, 116, 46, 112, 121]⟩ : Str) (4515)), (.int 316 0), (.int 1 0), (.int 0 0), (.int 0 0), (.int 3 0), (.ref (1184)), (.bool true), (.int 181 0), (.ref (1185)), .none, (.ref (1186)), (.ref (1187)), (.ref (1188)), (.int 4517 0), (.int 316 0), (.str (⟨#[47, 99, 108, 97, 105, 109, 47, 99, 117, 116, 46, 112, 121]⟩ : Str) (4518))]), #[]⟩) : Nat × Obj) ::
  ((nat_lit 1190, ⟨(.type "function"), none, (.func (fnAt (stAt top 23) (⟨#[95, 108, 97, 119, 95, 101, 110, 100]⟩ : Str) 3 [] .none .none .none (.str (⟨#[108, 97, 119, 95, 97, 104, 48, 48, 52, 48, 95, 48, 49]⟩ : Str) (4440)) none (.ref (1189)) .none 0)), #[]⟩) : Nat × Obj) ::
  ((nat_lit 1191, ⟨(.type "tuple"), none, (.seq #[] 0), #[]⟩) : Nat × Obj) ::
  ((nat_lit 1194, ⟨(.type "code"), none, (.fields #[(.str (⟨#[95, 108, 97, 119, 95, 119, 111, 114, 100]⟩ : Str) (4520)), (.str (⟨#[95, 108, 97, 119, 95, 119, 111, 114, 100]⟩ : Str) (4521)), (.str (⟨#[47, 99, 108, 97, 105, 109, 47, 99, 117, 116, 46, 112, 121]⟩ : Str) (4522)), (.int 320 0), (.int 4 0), (.int 0 0), (.int 0 0), (.int 3 0), (.ref (1191)), (.bool true), (.int 181 0), (.ref (1192)), .none, .none, .none, (.ref (1193)), (.int 4523 0), (.int 320 0), (.str (⟨#[47, 99, 108, 97, 105, 109, 47, 99, 117, 116, 46, 112, 121]⟩ : Str) (4524))]), #[]⟩) : Nat × Obj) ::
  ((nat_lit 1195, ⟨(.type "function"), none, (.func (fnAt (stAt top 24) (⟨#[95, 108, 97, 119, 95, 119, 111, 114, 100]⟩ : Str) 3 [] .none .none .none (.str (⟨#[108, 97, 119, 95, 97, 104, 48, 48, 52, 48, 95, 48, 49]⟩ : Str) (4440)) none (.ref (1194)) .none 0)), #[]⟩) : Nat × Obj) ::
  ((nat_lit 1196, ⟨(.type "tuple"), none, (.seq #[] 0), #[]⟩) : Nat × Obj) ::
  ((nat_lit 1198, ⟨(.type "tuple"), none, (.seq #[(.str (⟨#[115, 99, 114, 105, 112, 116]⟩ : Str) (4529)), (.str (⟨#[98, 111, 100, 121]⟩ : Str) (4530)), (.str (⟨#[99, 108, 111, 115, 101]⟩ : Str) (4531)), (.str (⟨#[119, 111, 114, 100, 115]⟩ : Str) (4532)), (.str (⟨#[115, 116, 101, 109, 115]⟩ : Str) (4533)), (.str (⟨#[105]⟩ : Str) (4534)), (.str (⟨#[119, 111, 114, 100]⟩ : Str) (4535)), (.str (⟨#[115, 116, 101, 109]⟩ : Str) (4536)), (.str (⟨#[115, 116, 101, 109, 109, 101, 114]⟩ : Str) (4537))] 0), #[]⟩) : Nat × Obj) ::
  ((nat_lit 1199, ⟨(.type "tuple"), none, (.seq #[] 0), #[]⟩) : Nat × Obj) ::
  ((nat_lit 1201, ⟨(.type "code"), none, (.fields #[(.str (⟨#[108, 97, 119]⟩ : Str) (4526)), (.str (⟨#[108, 97, 119]⟩ : Str) (4527)), (.str (⟨#[47, 99, 108, 97, 105, 109, 47, 99, 117, 116, 46, 112, 121]⟩ : Str) (4528)), (.int 358 0), (.int 1 0), (.int 0 0), (.int 0 0), (.int 3 0), (.ref (1196)), (.bool true), (.int 181 0), (.ref (1197)), .none, (.ref (1198)), (.ref (1199)), (.ref (1200)), (.int 4538 0), (.int 358 0), (.str (⟨#[47, 99, 108, 97, 105, 109, 47, 99, 117, 116, 46, 112, 121]⟩ : Str) (4539))]), #[]⟩) : Nat × Obj) ::
  ((nat_lit 1202, ⟨(.type "function"), none, (.func (fnAt (stAt top 25) (⟨#[108, 97, 119]⟩ : Str) 3 [] .none .none .none (.str (⟨#[108, 97, 119, 95, 97, 104, 48, 48, 52, 48, 95, 48, 49]⟩ : Str) (4440)) none (.ref (1201)) .none 0)), #[]⟩) : Nat × Obj) :: []
noncomputable def kAs : List Addr := [nat_lit 2, nat_lit 3, nat_lit 15, nat_lit 17, nat_lit 18, nat_lit 20, nat_lit 21, nat_lit 29, nat_lit 31, nat_lit 32, nat_lit 34, nat_lit 35, nat_lit 36, nat_lit 38, nat_lit 39, nat_lit 41, nat_lit 42, nat_lit 43, nat_lit 45, nat_lit 46, nat_lit 48, nat_lit 49, nat_lit 50, nat_lit 52, nat_lit 53, nat_lit 55, nat_lit 56, nat_lit 57, nat_lit 59, nat_lit 60, nat_lit 62, nat_lit 63, nat_lit 64, nat_lit 66, nat_lit 67, nat_lit 69, nat_lit 70, nat_lit 71, nat_lit 73, nat_lit 74, nat_lit 76, nat_lit 77, nat_lit 78, nat_lit 80, nat_lit 81, nat_lit 83, nat_lit 84, nat_lit 85, nat_lit 87, nat_lit 88, nat_lit 90, nat_lit 91, nat_lit 92, nat_lit 94, nat_lit 95, nat_lit 97, nat_lit 98, nat_lit 99, nat_lit 101, nat_lit 102, nat_lit 104, nat_lit 105, nat_lit 106, nat_lit 108, nat_lit 109, nat_lit 111, nat_lit 112, nat_lit 113, nat_lit 115, nat_lit 116, nat_lit 118, nat_lit 119, nat_lit 120, nat_lit 122, nat_lit 123, nat_lit 125, nat_lit 126, nat_lit 127, nat_lit 129, nat_lit 130, nat_lit 132, nat_lit 133, nat_lit 134, nat_lit 136, nat_lit 137, nat_lit 139, nat_lit 140, nat_lit 141, nat_lit 143, nat_lit 144, nat_lit 146, nat_lit 147, nat_lit 148, nat_lit 150, nat_lit 151, nat_lit 153, nat_lit 154, nat_lit 155, nat_lit 157, nat_lit 158, nat_lit 160, nat_lit 161, nat_lit 162, nat_lit 164, nat_lit 165, nat_lit 167, nat_lit 168, nat_lit 169, nat_lit 171, nat_lit 172, nat_lit 174, nat_lit 175, nat_lit 176, nat_lit 178, nat_lit 179, nat_lit 181, nat_lit 182, nat_lit 183, nat_lit 185, nat_lit 186, nat_lit 188, nat_lit 189, nat_lit 190, nat_lit 193, nat_lit 194, nat_lit 195, nat_lit 196, nat_lit 197, nat_lit 198, nat_lit 199, nat_lit 209, nat_lit 211, nat_lit 212, nat_lit 214, nat_lit 215, nat_lit 216, nat_lit 217, nat_lit 218, nat_lit 219, nat_lit 220, nat_lit 223, nat_lit 231, nat_lit 233, nat_lit 234, nat_lit 236, nat_lit 237, nat_lit 238, nat_lit 240, nat_lit 241, nat_lit 243, nat_lit 244, nat_lit 245, nat_lit 247, nat_lit 248, nat_lit 250, nat_lit 251, nat_lit 252, nat_lit 254, nat_lit 255, nat_lit 257, nat_lit 258, nat_lit 259, nat_lit 261, nat_lit 262, nat_lit 264, nat_lit 265, nat_lit 266, nat_lit 268, nat_lit 269, nat_lit 271, nat_lit 272, nat_lit 852, nat_lit 1039, nat_lit 1073, nat_lit 1074, nat_lit 1081, nat_lit 1082, nat_lit 1083, nat_lit 1084, nat_lit 1085, nat_lit 1088, nat_lit 1095, nat_lit 1096, nat_lit 1097, nat_lit 1098, nat_lit 1101, nat_lit 1108, nat_lit 1109, nat_lit 1110, nat_lit 1111, nat_lit 1114, nat_lit 1116, nat_lit 1117, nat_lit 1119, nat_lit 1120, nat_lit 1121, nat_lit 1123, nat_lit 1124, nat_lit 1126, nat_lit 1127, nat_lit 1128, nat_lit 1130, nat_lit 1131, nat_lit 1133, nat_lit 1134, nat_lit 1135, nat_lit 1137, nat_lit 1138, nat_lit 1140, nat_lit 1141, nat_lit 1142, nat_lit 1144, nat_lit 1145, nat_lit 1147, nat_lit 1148, nat_lit 1149, nat_lit 1151, nat_lit 1152, nat_lit 1154, nat_lit 1155, nat_lit 1156, nat_lit 1158, nat_lit 1159, nat_lit 1161, nat_lit 1162, nat_lit 1163, nat_lit 1165, nat_lit 1166, nat_lit 1168, nat_lit 1169, nat_lit 1170, nat_lit 1172, nat_lit 1173, nat_lit 1175, nat_lit 1176, nat_lit 1177, nat_lit 1179, nat_lit 1180, nat_lit 1182, nat_lit 1183, nat_lit 1184, nat_lit 1186, nat_lit 1187, nat_lit 1189, nat_lit 1190, nat_lit 1191, nat_lit 1194, nat_lit 1195, nat_lit 1196, nat_lit 1198, nat_lit 1199, nat_lit 1201, nat_lit 1202]
theorem kL_in (w : World) (es : Array (Int × Value)) (ep : Nat) (tb : SetTable) : InK kL w (absHeap (tF w.params (so es ep tb)) 1203 {}) := by
  have e : kAs = (kL w.params).map (·.1) := by kernel_rfl
  refine Frag.in_of e ?_
  kernel_rfl
end Lith
end
section
open PySem PySem.W PyProof.Rows
set_option Elab.async false
set_option maxRecDepth 100000
set_option maxHeartbeats 8000000
namespace Lith
noncomputable def GV (w : World) (h : Heap) : Prop := ∃ es ep tb, GoodSet w es tb ∧ h.get? 230 = some (so es ep tb)
theorem yk_of {w : World} {h : Heap} (y : YP w h) : InK kL w h ∧ GV w h := by
  obtain ⟨es, ep, tb, g, k⟩ := y
  refine ⟨InK.keeps w _ h (kL_in w es ep tb) k, es, ep, tb, g, k 230 _ ?_⟩
  refine get?_alive ?_ rfl
  rw [absHeap_at, if_pos (show (230:Nat) < 1203 by decide)]
  have e : (tF w.params (so es ep tb)).get 230 = some (so es ep tb) := by kernel_rfl
  rw [e]; rfl
theorem holdsK {d : DefRec} {kwd : List (Str × Expr)} (hdef : defOf qv rl.name = some (d, kwd)) (hp : rl.prog.theDef rl.name = some (d.params, d.body, d.scope)) (hk : kwWritten? d.params.kwonlyargs d.params.kw_defaults = some kwd)
    (k1 : rl.wellSaid = true) (hb : rl.prog.bare) (hw : rl.toRowW.promised) (call : WalkO qv loose XPL (fun w h => InK kL w h ∧ GV w h) rl.toRowW d kwd fun f vs => PySem.call f vs) : rl.Holds :=
  holdsL hdef hp hk k1 hb hw fun w s₀ s₁ mg mb G y => call w s₀ s₁ mg mb G (yk_of y)
end Lith
end
section
open PySem PySem.W PyProof.Rows PySem.Calls
set_option Elab.async false
set_option maxRecDepth 100000
set_option maxHeartbeats 1000000
namespace Lith
abbrev NeN (a b : Nat) : Prop := a ≠ b
/-- the code at a place -/
noncomputable def chr (S : Str) (i : Int) : Nat := S.cps.toList.getD i.toNat 0
noncomputable def vow (S : Str) (i : Int) : Prop := (⟨#[chr S i]⟩ : Str) ∈ gv
theorem GV.up {w : World} {h₀ g : Heap} {L : Addr} {m : Str → Option Value} (G : GV w h₀) (F : Fr h₀ L g m) : GV w g := by
  obtain ⟨es, ep, tb, g', e⟩ := G
  exact ⟨es, ep, tb, g', F.keep _ _ e⟩
theorem vow_step {S : Str} {c c9 : Int} (h : ∀ i, c ≤ i → i < c9 → ¬ vow S i) (n : ¬ (⟨#[chr S c9]⟩ : Str) ∈ gv) : ∀ i, c ≤ i → i < c9 + 1 → ¬ vow S i := fun i h1 h2 => by
  by_cases q : i = c9
  · subst q; exact n
  · exact h i h1 (by omega)
theorem con_step {S : Str} {c c9 : Int} (h : ∀ i, c ≤ i → i < c9 → vow S i) (n : (⟨#[chr S c9]⟩ : Str) ∈ gv) : ∀ i, c ≤ i → i < c9 + 1 → vow S i := fun i h1 h2 => by
  by_cases q : i = c9
  · subst q; exact n
  · exact h i h1 (by omega)
theorem gv_start {P : Int → Prop} {c : Int} : ∀ i, c ≤ i → i < c → P i := fun i h1 h2 => absurd h1 (by omega)
theorem gv_end {P : Int → Prop} {c c9 l : Int} (h : ∀ i, c ≤ i → i < c9 → P i) (a : c9 ≤ l) (b : ¬ c9 < l) : ∀ i, c ≤ i → i < l → P i := fun i h1 h2 => h i h1 (by omega)
section
variable {w : World} {A : Around} {E : Value → Shared → Prop} {s : Shared} {h₀ : Heap} {L : Addr} {m : Str → Option Value} {Q : Value → Shared → Prop} {S : Str} {t u : Tok} {i : Int} {value slice : Expr}
theorem getItem_chr (h0 : 0 ≤ i) (h1 : i < (S.length : Int)) (hS : S.length ≤ 1000) (h : Q (.str ⟨#[chr S i]⟩ s.toks) { s with toks := s.toks + 1 }) : wpAny (model pg w) A (PySem.getItem (.str S t) (.int i u)) Q E s := by
  obtain ⟨n, rfl⟩ : ∃ n : Nat, i = n := ⟨i.toNat, by omega⟩
  have hn : n < S.cps.size := by have : S.length = S.cps.size := rfl; omega
  refine P.getItem_str (c := chr S n) ?_ ?_ h
  · rw [Bool.or_eq_false_iff]; constructor <;> (rw [decide_eq_false_iff_not]; omega)
  · have e1 : seqIndex? (n : Int) S.length = some n := by
      unfold seqIndex?
      have hn' : (n : Int) < (S.length : Int) := h1
      simp <;> omega
    rw [e1]
    show S.cps[n]? = some _
    unfold chr
    rw [Array.getElem?_eq_getElem hn]
    simp [hn]
theorem item_chr (h0 : 0 ≤ i) (h1 : i < (S.length : Int)) (hS : S.length ≤ 1000) (h : Q (.str ⟨#[chr S i]⟩ s.toks) { s with toks := s.toks + 1 })
    (hs : subscripted slice false (.str S t) (.int i u) = operate [.int i u, .str S t] (PySem.getItem (.str S t) (.int i u)) := by with_unfolding_all rfl)
    (hg : ∀ r, letTemporaryGo value (.str S t) r = pure () := by intro _; with_unfolding_all rfl) :
    wpAny (model pg w) A (subscriptTail value slice (.str S t) (.int i u)) Q E s :=
  subscriptTail_builtin (typeIs_str s S t) F.slot_str_getitem.lookup (getItem_chr h0 h1 hS h) hs hg
theorem set_gv (F : Fr h₀ L s.heap m) (G : GV w h₀) : ∃ n, s.heap.SetOf (PySem.strKind pg w) 230 (fun x => decide (x ∈ gv)) n := by
  obtain ⟨es, ep, tb, g, e⟩ := G
  exact ⟨es.size, so es ep tb, es, ep, tb, F.keep _ _ e, ⟨rfl, rfl, rfl⟩, rfl, g.elems, fun k => by rw [decide_eq_true_eq]; exact g.mem k, g.small, g.fits, rfl⟩
theorem in_gv (F : Fr h₀ L s.heap m) (G : GV w h₀) (h : Q (.bool (decide (S ∈ gv))) { s with toks := s.toks + 1 }) : wpAny (model pg w) A (compareOp .In (.str S t) (.ref 230)) Q E s := by
  obtain ⟨n, z⟩ := set_gv F G
  exact wpAny_inSet_of (strKind_is _ _ _ _) rfl z h
theorem notIn_gv (F : Fr h₀ L s.heap m) (G : GV w h₀) (h : Q (.bool (!decide (S ∈ gv))) { s with toks := s.toks + 1 }) : wpAny (model pg w) A (compareOp .NotIn (.str S t) (.ref 230)) Q E s := by
  obtain ⟨n, z⟩ := set_gv F G
  exact wpAny_notInSet_of (strKind_is _ _ _ _) rfl z h
end
end Lith
end
section
open PySem PySem.W PyProof.Rows PySem.Calls
set_option Elab.async false
set_option maxRecDepth 100000
set_option maxHeartbeats 1000000
namespace Lith
theorem mid_eq (a : Int) : a.fdiv (2 ^ Int.toNat 1) = a / 2 := Int.fdiv_eq_ediv_of_nonneg a (by decide)
abbrev rowOf (rows : List AmRow) (k : Nat) : AmRow := rows.getD k (Str.ofString "", 0, 0)
noncomputable def amA (b : Nat) (k : Int) : Nat := b + 3 * k.toNat + 1
abbrev amDict (P : Params) (r : AmRow) (k0 k1 k2 u0 u1 u2 : Tok) : Obj := dictOf [⟨PyData.keyHash P (Str.ofString "s"), .str (Str.ofString "s") k0, .str r.1 u0⟩, ⟨PyData.keyHash P (Str.ofString "substring_i"), .str (Str.ofString "substring_i") k1, .int r.2.1 u1⟩,
  ⟨PyData.keyHash P (Str.ofString "result"), .str (Str.ofString "result") k2, .int r.2.2 u2⟩] 3
structure AmTab (w : World) (h : Heap) (T b : Nat) (rows : List AmRow) : Prop where
  list : h.IsList T (amRefs b rows).toArray
  fits : rows.length ≤ 1000
  small : ∀ k, (rowOf rows k).1.length ≤ 1000
  at_ : ∀ k, k < rows.length → ∃ k0 k1 k2 u0 u1 u2, h.get? (b + 3 * k) = some (amDict w.params (rowOf rows k) k0 k1 k2 u0 u1 u2) ∧ h.get? (b + 3 * k + 1) = some (instObj 218 (b + 3 * k))
theorem AmTab.up {w : World} {h₀ g : Heap} {L : Addr} {m : Str → Option Value} {T b : Nat} {rows : List AmRow} (G : AmTab w h₀ T b rows) (F : Fr h₀ L g m) : AmTab w g T b rows := by
  refine ⟨?_, G.fits, G.small, fun k hk => ?_⟩
  · obtain ⟨o, e, r⟩ := G.list
    exact ⟨o, F.keep _ _ e, r⟩
  · obtain ⟨k0, k1, k2, u0, u1, u2, a, b⟩ := G.at_ k hk
    exact ⟨k0, k1, k2, u0, u1, u2, F.keep _ _ a, F.keep _ _ b⟩
theorem amRefs_at : ∀ (rows : List AmRow) (b k : Nat), k < rows.length → (amRefs b rows)[k]? = some (.ref (b + 3 * k + 1))
  | [], _, k, h => absurd h (Nat.not_lt_zero k)
  | r :: rs, b, 0, _ => rfl
  | r :: rs, b, k + 1, h => by
    show (amRefs (b + 3) rs)[k]? = _
    rw [amRefs_at rs (b + 3) k (Nat.lt_of_succ_lt_succ h)]
    rw [show b + 3 + 3 * k + 1 = b + 3 * (k + 1) + 1 by omega]
theorem amRefs_len : ∀ (rows : List AmRow) (b : Nat), (amRefs b rows).length = rows.length
  | [], _ => rfl
  | r :: rs, b => by show (amRefs (b + 3) rs).length + 1 = rs.length + 1; rw [amRefs_len rs]
section
variable {w : World} {A : Around} {E : Value → Shared → Prop} {s : Shared} {h₀ : Heap} {L : Addr} {m : Str → Option Value} {Q : Value → Shared → Prop} {t u : Tok} {i : Int} {value slice : Expr} {T b : Nat} {rows : List AmRow}
theorem am_inst (F : Fr h₀ L s.heap m) (G : AmTab w h₀ T b rows) (h0 : 0 ≤ i) (h1 : i < (rows.length : Int)) : ∃ k0 k1 k2 u0 u1 u2, InstAt s.heap (amA b i) (instObj 218 (b + 3 * i.toNat)) 218 (some (amDict w.params (rowOf rows i.toNat) k0 k1 k2 u0 u1 u2)) := by
  obtain ⟨k0, k1, k2, u0, u1, u2, x, y⟩ := G.at_ i.toNat (by omega)
  exact ⟨k0, k1, k2, u0, u1, u2, F.keep _ _ y, rfl, rfl, F.keep _ _ x⟩
theorem am_s {ex : Bool} (F : Fr h₀ L s.heap m) (X : (kL w.params).In h₀) (G : AmTab w h₀ T b rows) (h0 : 0 ≤ i) (h1 : i < (rows.length : Int)) (h : ∀ t, (rowOf rows i.toNat).1.length ≤ 1000 → Q (.str (rowOf rows i.toNat).1 t) { s with toks := s.toks + 1 }) :
    wpAny (model pg w) A (getAttr (.ref (amA b i)) (Str.ofString "s") ex) Q E s := by
  obtain ⟨k0, k1, k2, u0, u1, u2, I⟩ := am_inst F G h0 h1
  exact get_own (attr := none) F X I (by kernel_rfl) (by kernel_rfl) (by kernel_rfl) (by kernel_rfl) (by kernel_rfl) rfl (h u0 (G.small _))
theorem am_i {ex : Bool} (F : Fr h₀ L s.heap m) (X : (kL w.params).In h₀) (G : AmTab w h₀ T b rows) (h0 : 0 ≤ i) (h1 : i < (rows.length : Int)) (h : ∀ t, (rowOf rows i.toNat).1.length ≤ 1000 → Q (.int (rowOf rows i.toNat).2.1 t) { s with toks := s.toks + 1 }) :
    wpAny (model pg w) A (getAttr (.ref (amA b i)) (Str.ofString "substring_i") ex) Q E s := by
  obtain ⟨k0, k1, k2, u0, u1, u2, I⟩ := am_inst F G h0 h1
  exact get_own (attr := none) F X I (by kernel_rfl) (by kernel_rfl) (by kernel_rfl) (by kernel_rfl) (by kernel_rfl) rfl (h u1 (G.small _))
theorem am_r {ex : Bool} (F : Fr h₀ L s.heap m) (X : (kL w.params).In h₀) (G : AmTab w h₀ T b rows) (h0 : 0 ≤ i) (h1 : i < (rows.length : Int)) (h : ∀ t, (rowOf rows i.toNat).1.length ≤ 1000 → Q (.int (rowOf rows i.toNat).2.2 t) { s with toks := s.toks + 1 }) :
    wpAny (model pg w) A (getAttr (.ref (amA b i)) (Str.ofString "result") ex) Q E s := by
  obtain ⟨k0, k1, k2, u0, u1, u2, I⟩ := am_inst F G h0 h1
  exact get_own (attr := none) F X I (by kernel_rfl) (by kernel_rfl) (by kernel_rfl) (by kernel_rfl) (by kernel_rfl) rfl (h u2 (G.small _))
theorem item_am (F : Fr h₀ L s.heap m) (G : AmTab w h₀ T b rows) (h0 : 0 ≤ i) (h1 : i < (rows.length : Int)) (h : Q (.ref (amA b i)) s)
    (hs : subscripted slice false (.ref T) (.int i u) = operate [.ref T, .int i u] (PySem.getItem (.ref T) (.int i u)) := by with_unfolding_all rfl) (hg : ∀ r, letTemporaryGo value (.ref T) r = pure () := by intro _; with_unfolding_all rfl) :
    wpAny (model pg w) A (subscriptTail value slice (.ref T) (.int i u)) Q E s := by
  have f := G.fits
  exact item_listL (G.up F).list h0 (by omega) (amRefs_at rows b i.toNat (by omega)) h hs hg
theorem len_am (F : Fr h₀ L s.heap m) (G : AmTab w h₀ T b rows) (h : ∀ k, Q (.int (rows.length : Int) (s.toks + 1)) { s with toks := k }) : wpAny (model pg w) A (call (.builtin "len") [.ref T]) Q E s := by
  have e : (amRefs b rows).toArray.size = rows.length := by rw [List.size_toArray, amRefs_len]
  have f := G.fits
  refine len_list (G.up F).list (by rw [e]; omega) ?_
  rw [e]
  exact h _
end
end Lith
end
section
open PySem PySem.W PyProof.Rows PySem.Calls
set_option Elab.async false
namespace Lith
/-- the signs between lb and c, the last first -/
noncomputable def tl (S : Str) (lb c : Int) : List Nat := ((S.cps.toList.drop lb.toNat).take (c - lb).toNat).reverse
/-- a row's signs, the last first -/
noncomputable def key (rows : List AmRow) (k : Int) : List Nat := (rowOf rows k.toNat).1.cps.toList.reverse
theorem cps_len (S : Str) : S.cps.toList.length = S.length := by rw [Array.length_toList]; rfl
theorem key_len (rows : List AmRow) (k : Int) : (key rows k).length = (rowOf rows k.toNat).1.length := by
  unfold key; rw [List.length_reverse, cps_len]
theorem tl_len {S : Str} {lb c : Int} (h0 : 0 ≤ lb) (h1 : lb ≤ c) (h2 : c ≤ (S.length : Int)) : ((tl S lb c).length : Int) = c - lb := by
  obtain ⟨n, rfl⟩ := Int.eq_ofNat_of_zero_le h0
  obtain ⟨m, hm⟩ := Int.eq_ofNat_of_zero_le (a := c - (n : Int)) (Int.sub_nonneg_of_le h1)
  unfold tl
  rw [List.length_reverse, List.length_take, List.length_drop, cps_len, hm, Int.toNat_natCast, Int.toNat_natCast, Nat.min_eq_left (Nat.le_sub_of_add_le (Int.ofNat_le.mp (by rw [Int.natCast_add, ← hm, Int.sub_add_cancel]; exact h2)))]
theorem chr_get {S : Str} {i : Int} (h0 : 0 ≤ i) (h1 : i < (S.length : Int)) : S.cps.toList[i.toNat]? = some (chr S i) := by
  unfold chr
  have : i.toNat < S.cps.toList.length := by rw [cps_len]; omega
  rw [List.getD_eq_getElem?_getD, List.getElem?_eq_getElem this]; rfl
theorem tl_get {S : Str} {lb c x : Int} (h0 : 0 ≤ lb) (h2 : c ≤ (S.length : Int)) (hx : 0 ≤ x) (hx2 : x < c - lb) : (tl S lb c)[x.toNat]? = some (chr S (c - 1 - x)) := by
  obtain ⟨n, rfl⟩ := Int.eq_ofNat_of_zero_le h0
  obtain ⟨y, rfl⟩ := Int.eq_ofNat_of_zero_le hx
  obtain ⟨m, hm⟩ := Int.eq_ofNat_of_zero_le (a := c - (n : Int)) (by omega)
  have hc : c = ((n + m : Nat) : Int) := by omega
  subst hc
  have hym : y < m := by clear h2; omega
  have hnm : n + m ≤ S.length := Int.ofNat_le.mp h2
  clear hx2 h2 h0 hx
  unfold tl
  rw [hm, Int.toNat_natCast, Int.toNat_natCast, Int.toNat_natCast]
  have hl : ((S.cps.toList.drop n).take m).length = m := by
    rw [List.length_take, List.length_drop, cps_len]; exact Nat.min_eq_left (Nat.le_sub_of_add_le (by rw [Nat.add_comm]; exact hnm))
  rw [List.getElem?_reverse (by rw [hl]; exact hym), hl, List.getElem?_take_of_lt (Nat.lt_of_le_of_lt (Nat.sub_le _ _) (Nat.sub_lt (Nat.zero_lt_of_lt hym) Nat.one_pos)), List.getElem?_drop]
  have e : (((n + m : Nat) : Int) - 1 - (y : Int)) = ((n + (m - 1 - y) : Nat) : Int) := by clear hnm hm hl; omega
  rw [e]
  exact chr_get (i := ((n + (m - 1 - y) : Nat) : Int)) (Int.natCast_nonneg _) (Int.ofNat_lt.mpr (by clear hm hl e; omega))
theorem key_get {rows : List AmRow} {k x : Int} (hx : 0 ≤ x) (hx2 : x < ((rowOf rows k.toNat).1.length : Int)) : (key rows k)[x.toNat]? = some (chr (rowOf rows k.toNat).1 (((rowOf rows k.toNat).1.length : Int) - 1 - x)) := by
  obtain ⟨y, rfl⟩ := Int.eq_ofNat_of_zero_le hx
  have hy : y < (rowOf rows k.toNat).1.length := Int.ofNat_lt.mp hx2
  clear hx hx2
  unfold key
  rw [Int.toNat_natCast, List.getElem?_reverse (by rw [cps_len]; exact hy), cps_len]
  generalize (rowOf rows k.toNat).1 = Z at *
  have e : ((Z.length : Int) - 1 - (y : Int)) = ((Z.length - 1 - y : Nat) : Int) := by omega
  rw [e]
  exact chr_get (i := ((Z.length - 1 - y : Nat) : Int)) (Int.natCast_nonneg _) (Int.ofNat_lt.mpr (Nat.lt_of_le_of_lt (Nat.sub_le _ _) (Nat.sub_lt (Nat.zero_lt_of_lt hy) Nat.one_pos)))

theorem lcp_le_right : ∀ a b, lcp a b ≤ b.length
  | [], b => by cases b <;> simp [lcp]
  | _ :: _, [] => by simp [lcp]
  | x :: xs, y :: ys => by
    unfold lcp
    split
    · have := lcp_le_right xs ys
      simp only [List.length_cons]; omega
    · omega
theorem less_irr : ∀ a, less a a = false
  | [] => rfl
  | x :: xs => by unfold less; simp [less_irr xs]
theorem less_asym {a b : List Nat} (h : less a b = true) : less b a = false := by
  cases e : less b a with
  | false => rfl
  | true =>
    have := less_le (t := a) (b := b) (a := a) h (by
      cases e2 : less a b with
      | false => rfl
      | true =>
        exact absurd (less_trans_false h e) (by simp))
    rw [less_irr] at this; exact absurd this (by simp)
where
  less_trans_false {a b : List Nat} (h : less a b = true) (e : less b a = true) : False := by
    induction a generalizing b with
    | nil => cases b <;> simp [less] at e
    | cons x xs ih =>
      cases b with
      | nil => simp [less] at h
      | cons y ys =>
        unfold less at h e
        by_cases q : x = y
        · subst q; simp only [if_true] at h e; exact ih h e
        · simp only [q, Ne.symm q, if_false, decide_eq_true_eq] at h e; omega

structure TabOk (rows : List AmRow) : Prop where
  two : 2 ≤ rows.length
  sorted : ∀ a b : Int, 0 ≤ a → a < b → b < (rows.length : Int) → less (key rows a) (key rows b) = true
  full : ∀ a : Int, 0 ≤ a → a < (rows.length : Int) → 1 ≤ (rowOf rows a.toNat).1.length
  sub_lt : ∀ a : Int, 0 ≤ a → a < (rows.length : Int) → (rowOf rows a.toNat).2.1 < a
  sub_pre : ∀ a : Int, 0 ≤ a → a < (rows.length : Int) → 0 ≤ (rowOf rows a.toNat).2.1 → key rows (rowOf rows a.toNat).2.1 <+: key rows a
  sub_max : ∀ a r : Int, 0 ≤ a → a < (rows.length : Int) → 0 ≤ r → r < (rows.length : Int) → r ≠ a → key rows r <+: key rows a → 0 ≤ (rowOf rows a.toNat).2.1 ∧ key rows r <+: key rows (rowOf rows a.toNat).2.1

/-- the search's state between two turns -/
structure Srch (t : List Nat) (rows : List AmRow) (i j ci cj : Int) : Prop where
  ci_le : ci ≤ (lcp t (key rows i) : Int)
  cj_le : j < (rows.length : Int) → cj ≤ (lcp t (key rows j) : Int)
  cj0 : (rows.length : Int) ≤ j → cj = 0
  lo : 0 < i → less t (key rows i) = false ∧ ci = (lcp t (key rows i) : Int)
  lo0 : i = 0 → ci = 0
  hi : j < (rows.length : Int) → less t (key rows j) = true
theorem srch_start {t : List Nat} {rows : List AmRow} {j : Int} (e : j = (rows.length : Int)) : Srch t rows 0 j 0 0 :=
  ⟨by omega, fun h => absurd h (by omega), fun _ => rfl, fun h => absurd h (by omega), fun _ => rfl, fun h => absurd h (by omega)⟩
theorem srch_mid {t : List Nat} {rows : List AmRow} {i j ci cj k : Int} (T : TabOk rows) (H : Srch t rows i j ci cj) (h0 : 0 ≤ i) (h1 : i ≤ k) (h2 : k < j) (h3 : j ≤ (rows.length : Int)) (hci : 0 ≤ ci) (hcj : 0 ≤ cj) : min ci cj ≤ (lcp t (key rows k) : Int) := by
  by_cases e : k = i
  · subst e; have := H.ci_le; omega
  · by_cases f : j < (rows.length : Int)
    · have a := T.sorted i k h0 (by omega) (by omega)
      have b := T.sorted k j (by omega) h2 f
      have c := common_le (t := t) a b
      have d := H.ci_le
      have g := H.cj_le f
      omega
    · have := H.cj0 (by omega); omega
theorem srch_lt {t : List Nat} {rows : List AmRow} {i j ci cj k cm d : Int} (H : Srch t rows i j ci cj) (hk : k < (rows.length : Int)) (e : cm = (lcp t (key rows k) : Int)) (f : d < 0 ↔ less t (key rows k) = true) (hd : d < 0) : Srch t rows i k ci cm :=
  ⟨H.ci_le, fun _ => by omega, fun h => absurd h (by omega), H.lo, H.lo0, fun _ => f.mp hd⟩
theorem srch_ge {t : List Nat} {rows : List AmRow} {i j ci cj k cm d : Int} (H : Srch t rows i j ci cj) (h0 : 0 < k) (e : cm = (lcp t (key rows k) : Int)) (f : d < 0 ↔ less t (key rows k) = true) (hd : ¬ d < 0) : Srch t rows k j cm cj :=
  ⟨by omega, H.cj_le, H.cj0, fun _ => ⟨by cases q : less t (key rows k) with | false => rfl | true => exact absurd (f.mpr q) hd, e⟩, fun h => absurd h (by omega), H.hi⟩
/-- where the search ends -/
structure Found (t : List Nat) (rows : List AmRow) (i ci : Int) : Prop where
  i0 : 0 ≤ i
  i1 : i < (rows.length : Int)
  w : (less t (key rows i) = false ∧ ci = (lcp t (key rows i) : Int) ∧ ∀ r, i < r → r < (rows.length : Int) → less t (key rows r) = true) ∨ (i = 0 ∧ ci = 0 ∧ less t (key rows 0) = true)
theorem less_up {t : List Nat} {rows : List AmRow} (T : TabOk rows) {j r : Int} (h0 : 0 ≤ j) (h1 : j ≤ r) (h2 : r < (rows.length : Int)) (h : less t (key rows j) = true) : less t (key rows r) = true := by
  by_cases e : r = j
  · rw [e]; exact h
  · exact less_le h (less_asym (T.sorted j r h0 (by omega) h2))
theorem found_of {t : List Nat} {rows : List AmRow} {i j ci cj : Int} (T : TabOk rows) (H : Srch t rows i j ci cj) (h0 : 0 < i) (h1 : i < j) (h2 : j ≤ i + 1) (h3 : j ≤ (rows.length : Int)) : Found t rows i ci :=
  ⟨by omega, by omega, .inl ⟨(H.lo h0).1, (H.lo h0).2, fun r ha hb => less_up T (j := j) (by omega) (by omega) hb (H.hi (by omega))⟩⟩
/-- the first key looked at: below it -/
theorem found_lt {t : List Nat} {rows : List AmRow} {i j ci cj d k : Int} (T : TabOk rows) (H : Srch t rows i j ci cj) (e0 : i = 0) (ek : k = 0) (f : d < 0 ↔ less t (key rows k) = true) (hd : d < 0) : Found t rows i ci := by
  have := T.two
  subst e0; subst ek
  exact ⟨by omega, by omega, .inr ⟨rfl, H.lo0 rfl, f.mp hd⟩⟩
theorem found_ge {t : List Nat} {rows : List AmRow} {i j ci cj d k cm : Int} (T : TabOk rows) (H : Srch t rows i j ci cj) (ek : k = 0) (ej : j = 1) (e : cm = (lcp t (key rows k) : Int)) (f : d < 0 ↔ less t (key rows k) = true) (hd : ¬ d < 0) : Found t rows k cm := by
  have h2 := T.two
  subst ek; subst ej
  refine ⟨by omega, by omega, .inl ⟨by cases q : less t (key rows 0) with | false => rfl | true => exact absurd (f.mpr q) hd, e, fun r ha hb => less_up T (j := 1) (by omega) (by omega) hb (H.hi (by omega))⟩⟩

/-- what the second loop keeps -/
structure Chn (t : List Nat) (rows : List AmRow) (i ci : Int) : Prop where
  i0 : 0 ≤ i
  i1 : i < (rows.length : Int)
  all : ∀ r, 0 ≤ r → r < (rows.length : Int) → key rows r <+: t → key rows r <+: key rows i
  w : (∃ b, key rows i <+: b ∧ ci = (lcp t b : Int)) ∨ (i = 0 ∧ ci = 0 ∧ less t (key rows 0) = true)
theorem chn_of {t : List Nat} {rows : List AmRow} {i ci : Int} (T : TabOk rows) (H : Found t rows i ci) : Chn t rows i ci := by
  refine ⟨H.i0, H.i1, fun r h0 h1 hp => ?_, ?_⟩
  · have pl := pre_le hp
    rcases H.w with ⟨a, b, c⟩ | ⟨a, b, c⟩
    · by_cases q : r ≤ i
      · by_cases e : r = i
        · rw [e]; exact List.prefix_rfl
        · exact pre_between hp a (less_asym (T.sorted r i h0 (by omega) H.i1))
      · rw [c r (by omega) h1] at pl; exact absurd pl (by simp)
    · have := less_up T (j := 0) (by omega) h0 h1 c
      rw [this] at pl; exact absurd pl (by simp)
  · rcases H.w with ⟨a, b, c⟩ | h
    · exact .inl ⟨_, List.prefix_rfl, b⟩
    · exact .inr h
theorem chn_hit {t : List Nat} {rows : List AmRow} {i ci : Int} (T : TabOk rows) (H : Chn t rows i ci) : key rows i <+: t ↔ ((rowOf rows i.toNat).1.length : Int) ≤ ci := by
  rcases H.w with ⟨b, p, e⟩ | ⟨a, b, c⟩
  · rw [pre_iff p, key_len, e]; omega
  · have f := T.full i H.i0 H.i1
    subst a
    constructor
    · intro h; rw [pre_le h] at c; exact absurd c (by simp)
    · intro h; omega
theorem chn_step {t : List Nat} {rows : List AmRow} {i ci : Int} (T : TabOk rows) (H : Chn t rows i ci) (hm : ¬ ((rowOf rows i.toNat).1.length : Int) ≤ ci) (hs : ¬ (rowOf rows i.toNat).2.1 < 0) : Chn t rows (rowOf rows i.toNat).2.1 ci := by
  have hp := T.sub_pre i H.i0 H.i1 (by omega)
  have hl := T.sub_lt i H.i0 H.i1
  refine ⟨by omega, by have := H.i1; omega, fun r h0 h1 h => ?_, ?_⟩
  · have h' := H.all r h0 h1 h
    have ne : r ≠ i := fun e => hm ((chn_hit T H).mp (e ▸ h))
    exact (T.sub_max i r H.i0 H.i1 h0 h1 ne h').2
  · rcases H.w with ⟨b, p, e⟩ | ⟨a, b, c⟩
    · exact .inl ⟨b, hp.trans p, e⟩
    · omega
theorem chn_none {t : List Nat} {rows : List AmRow} {i ci : Int} (T : TabOk rows) (H : Chn t rows i ci) (hm : ¬ ((rowOf rows i.toNat).1.length : Int) ≤ ci) (hs : (rowOf rows i.toNat).2.1 < 0) : ∀ r, 0 ≤ r → r < (rows.length : Int) → ¬ key rows r <+: t := by
  intro r h0 h1 h
  have h' := H.all r h0 h1 h
  have ne : r ≠ i := fun e => hm ((chn_hit T H).mp (e ▸ h))
  have := (T.sub_max i r H.i0 H.i1 h0 h1 ne h').1
  omega
/-- what the search answers -/
noncomputable def FindR (t : List Nat) (rows : List AmRow) (c c' : Int) (v : Value) : Prop :=
  (∃ k tk, 0 ≤ k ∧ k < (rows.length : Int) ∧ key rows k <+: t ∧ (∀ r, 0 ≤ r → r < (rows.length : Int) → key rows r <+: t → key rows r <+: key rows k) ∧ c' = c - ((rowOf rows k.toNat).1.length : Int) ∧ v = .int (rowOf rows k.toNat).2.2 tk) ∨
  (∃ tk, (∀ r, 0 ≤ r → r < (rows.length : Int) → ¬ key rows r <+: t) ∧ c' = c ∧ v = .int 0 tk)
/-- what the inner loop keeps -/
structure Inn (t : List Nat) (rows : List AmRow) (k cm d : Int) : Prop where
  z : d = 0
  le : cm ≤ (lcp t (key rows k) : Int)
/-- and what it leaves -/
structure InnE (t : List Nat) (rows : List AmRow) (k cm d : Int) : Prop where
  e : cm = (lcp t (key rows k) : Int)
  f : d < 0 ↔ less t (key rows k) = true
theorem inn_short {S : Str} {lb c k cm d : Int} {rows : List AmRow} (h0 : 0 ≤ lb) (h1 : lb ≤ c) (h2 : c ≤ (S.length : Int)) (H : Inn (tl S lb c) rows k cm d) (hc : c - cm = lb) (hl : cm < ((rowOf rows k.toNat).1.length : Int)) : InnE (tl S lb c) rows k cm (-1) := by
  have L := tl_len h0 h1 h2
  have K := key_len rows k
  have le := H.le
  have := lcp_short (t := tl S lb c) (w := key rows k) (by omega) (by omega)
  exact ⟨by omega, by simp [this.2]⟩
theorem inn_stop {S : Str} {lb c k cm d x y : Int} {rows : List AmRow} (h0 : 0 ≤ lb) (h2 : c ≤ (S.length : Int)) (H : Inn (tl S lb c) rows k cm d) (hc0 : 0 ≤ cm) (hc : cm < c - lb) (hl : cm < ((rowOf rows k.toNat).1.length : Int)) (ex : x = c - 1 - cm) (ey : y = ((rowOf rows k.toNat).1.length : Int) - 1 - cm)
    (hd : ¬ (chr S x : Int) - (chr (rowOf rows k.toNat).1 y : Int) = 0) : InnE (tl S lb c) rows k cm ((chr S x : Int) - (chr (rowOf rows k.toNat).1 y : Int)) := by
  subst ex; subst ey
  have le := H.le
  have := lcp_stop (t := tl S lb c) (w := key rows k) (k := cm.toNat) (by omega) (tl_get h0 h2 hc0 hc) (key_get hc0 hl) (by omega)
  refine ⟨by omega, ?_⟩
  rw [this.2, decide_eq_true_eq]; omega
theorem inn_step {S : Str} {lb c k cm d x y : Int} {rows : List AmRow} (h0 : 0 ≤ lb) (h1 : lb ≤ c) (h2 : c ≤ (S.length : Int)) (H : Inn (tl S lb c) rows k cm d) (hc0 : 0 ≤ cm) (hc : cm < c - lb) (hl : cm < ((rowOf rows k.toNat).1.length : Int)) (ex : x = c - 1 - cm) (ey : y = ((rowOf rows k.toNat).1.length : Int) - 1 - cm)
    (hd : (chr S x : Int) - (chr (rowOf rows k.toNat).1 y : Int) = 0) : Inn (tl S lb c) rows k (cm + 1) ((chr S x : Int) - (chr (rowOf rows k.toNat).1 y : Int)) := by
  subst ex; subst ey
  have le := H.le
  have L := tl_len h0 h1 h2
  have K := key_len rows k
  refine ⟨hd, ?_⟩
  have := lcp_step (t := tl S lb c) (w := key rows k) (k := cm.toNat) (by omega) (by omega) (by omega) (by
    rw [tl_get h0 h2 hc0 hc, key_get hc0 hl]
    congr 1; omega)
  omega
theorem inn_end {t : List Nat} {rows : List AmRow} {k cm d : Int} (H : Inn t rows k cm d) (e : cm = ((rowOf rows k.toNat).1.length : Int)) : InnE t rows k cm d := by
  have le := H.le
  have K := key_len rows k
  have := lcp_whole (t := t) (w := key rows k) (by omega)
  refine ⟨by omega, ?_⟩
  rw [H.z, this.2]; simp
/-- the first loop's word -/
structure SrchW (t : List Nat) (rows : List AmRow) (B i j ci cj : Int) (fk : Bool) : Prop where
  i0 : 0 ≤ i
  jn : j ≤ (rows.length : Int)
  gap : (i + 2 ≤ j ∧ fk = false) ∨ (fk = true ∧ i = 0 ∧ j = 1)
  ci0 : 0 ≤ ci
  ciB : ci ≤ B
  cj0 : 0 ≤ cj
  cjB : cj ≤ B
  s : Srch t rows i j ci cj
/-- behind the inner loop -/
structure SrchM (t : List Nat) (rows : List AmRow) (B i j k cm d : Int) : Prop where
  k0 : i ≤ k
  kj : k < j
  kn : k < (rows.length : Int)
  mid : k = i + (j - i) / 2
  c0 : 0 ≤ cm
  cB : cm ≤ B
  e : InnE t rows k cm d
section
variable {t : List Nat} {rows : List AmRow} {B i j k ci cj cm d : Int} {fk : Bool}
theorem sw_e1 (T : TabOk rows) (W : SrchW t rows B i j ci cj fk) (M : SrchM t rows B i j k cm d) (h1 : d < 0) (h2 : k - i ≤ 1) (h3 : 0 < i) : Found t rows i ci := by
  obtain ⟨a0, a1, a2, a3, a4, a5, a6, a7⟩ := W
  obtain ⟨b0, b1, b2, b3, b4, b5, b6⟩ := M
  exact found_of T (srch_lt a7 b2 b6.e b6.f h1) h3 (by omega) (by omega) (by omega)
theorem sw_e2 (T : TabOk rows) (W : SrchW t rows B i j ci cj fk) (M : SrchM t rows B i j k cm d) (h1 : d < 0) (h3 : ¬ 0 < i) (h4 : k = i) : Found t rows i ci := by
  obtain ⟨a0, a1, a2, a3, a4, a5, a6, a7⟩ := W
  obtain ⟨b0, b1, b2, b3, b4, b5, b6⟩ := M
  exact found_lt T a7 (by omega) (by omega) b6.f h1
theorem sw_e3 {P : Prop} (W : SrchW t rows B i j ci cj fk) (M : SrchM t rows B i j k cm d) (h3 : ¬ 0 < i) (h4 : ¬ k = i) (h5 : fk = true) : P := by
  obtain ⟨a0, a1, a2, a3, a4, a5, a6, a7⟩ := W
  obtain ⟨b0, b1, b2, b3, b4, b5, b6⟩ := M
  rcases a2 with ⟨a2, q⟩ | ⟨q, a2, a8⟩
  · rw [q] at h5; exact absurd h5 (by decide)
  · omega
theorem sw_e4 (T : TabOk rows) (W : SrchW t rows B i j ci cj fk) (M : SrchM t rows B i j k cm d) (h1 : ¬ d < 0) (h2 : j - k ≤ 1) (h3 : 0 < k) : Found t rows k cm := by
  obtain ⟨a0, a1, a2, a3, a4, a5, a6, a7⟩ := W
  obtain ⟨b0, b1, b2, b3, b4, b5, b6⟩ := M
  exact found_of T (srch_ge a7 h3 b6.e b6.f h1) h3 (by omega) (by omega) (by omega)
theorem sw_e5 {P : Prop} (M : SrchM t rows B i j k cm d) (h4 : j = k) : P := by
  obtain ⟨b0, b1, b2, b3, b4, b5, b6⟩ := M
  omega
theorem sw_e6 (T : TabOk rows) (W : SrchW t rows B i j ci cj fk) (M : SrchM t rows B i j k cm d) (h1 : ¬ d < 0) (h3 : ¬ 0 < k) (h5 : fk = true) : Found t rows k cm := by
  obtain ⟨a0, a1, a2, a3, a4, a5, a6, a7⟩ := W
  obtain ⟨b0, b1, b2, b3, b4, b5, b6⟩ := M
  rcases a2 with ⟨a2, q⟩ | ⟨q, a2, a8⟩
  · rw [q] at h5; exact absurd h5 (by decide)
  · exact found_ge T a7 (by omega) (by omega) b6.e b6.f h1
theorem sw_e7 (W : SrchW t rows B i j ci cj fk) (M : SrchM t rows B i j k cm d) (h1 : d < 0) (h2 : k - i ≤ 1) (h3 : ¬ 0 < i) (h4 : ¬ k = i) : SrchW t rows B i k ci cm true := by
  obtain ⟨a0, a1, a2, a3, a4, a5, a6, a7⟩ := W
  obtain ⟨b0, b1, b2, b3, b4, b5, b6⟩ := M
  exact ⟨a0, by omega, .inr ⟨rfl, by omega, by omega⟩, a3, a4, b4, b5, srch_lt a7 b2 b6.e b6.f h1⟩
theorem sw_e8 (W : SrchW t rows B i j ci cj fk) (M : SrchM t rows B i j k cm d) (h1 : d < 0) (h2 : ¬ k - i ≤ 1) : SrchW t rows B i k ci cm fk := by
  obtain ⟨a0, a1, a2, a3, a4, a5, a6, a7⟩ := W
  obtain ⟨b0, b1, b2, b3, b4, b5, b6⟩ := M
  exact ⟨a0, by omega, by rcases a2 with ⟨a2, q⟩ | ⟨q, a2, a8⟩ <;> first | exact .inl ⟨by omega, q⟩ | (exfalso; omega), a3, a4, b4, b5, srch_lt a7 b2 b6.e b6.f h1⟩
theorem sw_e9 {P : Prop} (W : SrchW t rows B i j ci cj fk) (M : SrchM t rows B i j k cm d) (h3 : ¬ 0 < k) (h5 : fk = false) : P := by
  obtain ⟨a0, a1, a2, a3, a4, a5, a6, a7⟩ := W
  obtain ⟨b0, b1, b2, b3, b4, b5, b6⟩ := M
  rcases a2 with ⟨a2, q⟩ | ⟨q, a2, a8⟩
  · omega
  · rw [q] at h5; exact absurd h5 (by decide)
theorem sw_e10 (W : SrchW t rows B i j ci cj fk) (M : SrchM t rows B i j k cm d) (h1 : ¬ d < 0) (h2 : ¬ j - k ≤ 1) : SrchW t rows B k j cm cj fk := by
  obtain ⟨a0, a1, a2, a3, a4, a5, a6, a7⟩ := W
  obtain ⟨b0, b1, b2, b3, b4, b5, b6⟩ := M
  exact ⟨by omega, a1, by rcases a2 with ⟨a2, q⟩ | ⟨q, a2, a8⟩ <;> first | exact .inl ⟨by omega, q⟩ | (exfalso; omega), b4, b5, a5, a6, srch_ge a7 (by rcases a2 with ⟨a2, q⟩ | ⟨q, a2, a8⟩ <;> omega) b6.e b6.f h1⟩
theorem sw_m1 {x y : Bool} (M : SrchM t rows B i j k cm d) : 2 * (k - i).toNat + (if x = true then 0 else 1) < 2 * (j - i).toNat + (if y = true then 0 else 1) := by
  have hk : (k - i).toNat + 1 ≤ (j - i).toNat := by have b0 := M.k0; have b1 := M.kj; clear M; omega
  have ha : (if x = true then 0 else 1) ≤ 1 := by cases x <;> decide
  exact Nat.lt_of_le_of_lt (Nat.add_le_add_left ha _) (Nat.lt_of_lt_of_le (Nat.lt_of_succ_le (by show 2 * (k - i).toNat + 1 + 1 ≤ _; exact Nat.mul_le_mul_left 2 hk)) (Nat.le_add_right _ _))
theorem sw_m2 (M : SrchM t rows B i j k cm d) (W : SrchW t rows B i j ci cj fk) (h2 : ¬ j - k ≤ 1) : 2 * (j - k).toNat + (if fk = true then 0 else 1) < 2 * (j - i).toNat + (if fk = true then 0 else 1) := by
  obtain ⟨b0, b1, b2, b3, b4, b5, b6⟩ := M
  obtain ⟨a0, a1, a2, a3, a4, a5, a6, a7⟩ := W
  rcases a2 with ⟨a2, q⟩ | ⟨q, a2, a8⟩ <;> omega
end
end Lith
end
section
open PySem PySem.W PyProof.Rows PySem.Calls
set_option Elab.async false
namespace Lith
theorem fr_loc {n : Str} {sc : Scope} {L f : Addr} {c : Value} {h g : Heap} {m : Str → Option Value} (F : Fr h (envOf n sc L f c).locals g m) : Fr h L g m := F
theorem news_loc {n : Str} {sc : Scope} {L f : Addr} {c : Value} {h g : Heap} {l : List (Addr × Obj)} (F : News h (envOf n sc L f c).locals g l) : News h L g l := F
noncomputable def Halt (P : Prop) : Prop := P
theorem halt_of {P : Prop} (h : Halt P) : P := h
theorem of_halt {P : Prop} (h : P) : Halt P := h
/-- where several ways meet: the letters c, the frame, the ledger, a word -/
noncomputable def Join {σ : Type} (h₀ : Heap) (L : Addr) (s : Shared) (led : List (Addr × Obj)) (ps : σ → List (Str × Value)) (stored : List Str) (m₀ : Str → Option Value) (P : σ → Prop) (f : Flow) (s₂ : Shared) : Prop :=
  f = .next ∧ ∃ (c : σ) (h' : Heap) (tk : Nat) (m' : Str → Option Value), s₂ = { s with heap := h', toks := tk } ∧ Fr h₀ L h' m' ∧ News h₀ L h' led ∧ (∀ p ∈ ps c, m' p.1 = some p.2) ∧ (∀ z, (∀ p ∈ ps c, z ≠ p.1) → stored.contains z = false → m' z = m₀ z) ∧ P c
theorem join_end {σ : Type} {h₀ : Heap} {L : Addr} {s : Shared} {led news' : List (Addr × Obj)} {ps : σ → List (Str × Value)} {stored : List Str} {m₀ m' : Str → Option Value} {P : σ → Prop} {h' : Heap} {tk : Nat} (c : σ)
    (F : Fr h₀ L h' m') (N : News h₀ L h' news') (hn : ∀ p ∈ led, p ∈ news') (hk : ∀ p ∈ ps c, m' p.1 = some p.2) (hr : ∀ z, (∀ p ∈ ps c, z ≠ p.1) → stored.contains z = false → m' z = m₀ z) (hp : P c) :
    Join h₀ L s led ps stored m₀ P .next { s with heap := h', toks := tk } :=
  ⟨rfl, c, h', tk, m', rfl, F, fun p q => N p (hn p q), hk, hr, hp⟩
section
variable {prog : Program} {w : World} {A : Around} {E : Value → Shared → Prop} {Q : Flow → Shared → Prop} {s : Shared} {env : Env} {h₀ : Heap} {L : Addr}
theorem join_cut {σ : Type} {x : Stmt} {m₀ : Str → Option Value} {led : List (Addr × Obj)} (ps : σ → List (Str × Value)) (stored : List Str) (P : σ → Prop)
    (_F : Fr h₀ L s.heap m₀) (_N : News h₀ L s.heap led) (h1 : wpAny (model prog w) A (exec x env) (Join h₀ L s led ps stored m₀ P) E s)
    (h2 : ∀ (c : σ) (u : Str → Option Value) (h' : Heap) (tk : Nat), P c → Fr h₀ L h' (kstB (fun z => if stored.contains z then u z else m₀ z) (ps c)) → News h₀ L h' led → Q .next { s with heap := h', toks := tk }) :
    wpAny (model prog w) A (exec x env) Q E s := by
  refine wpAny_mono h1 (fun f s₂ j => ?_) fun _ _ x => x
  obtain ⟨rfl, c, h', tk, m', rfl, F', N', hk, hr, hp⟩ := j
  exact h2 c m' h' tk hp (ksw_fr hk hr F') N'
end
end Lith
end
section
open PySem PySem.W PyProof.Rows PySem.Calls
set_option Elab.async false
namespace Lith
theorem lt0 {d a b R : Nat} (h : d + b < R) (q : Nat.ble a b = true) : d + a < R := Nat.lt_of_le_of_lt (Nat.add_le_add_left (Nat.le_of_ble_eq_true q) d) h
theorem lt00 {d b R : Nat} (h : d + b < R) : d < R := Nat.lt_of_le_of_lt (Nat.le_add_right d b) h
theorem lt1 {d e a b R : Nat} (h : d + b < R) (e1 : e = d + 1) (q : Nat.ble (1 + a) b = true) : e + a < R := e1 ▸ (Nat.add_assoc d 1 a ▸ lt0 h q : d + 1 + a < R)
theorem lt3 {d e a b R : Nat} (h : d + b < R) (e1 : e = d + 3) (q : Nat.ble (3 + a) b = true) : e + a < R := e1 ▸ (Nat.add_assoc d 3 a ▸ lt0 h q : d + 3 + a < R)
theorem ltb {a b : Nat} (q : Nat.blt a b = true) : a < b := Nat.le_of_ble_eq_true q
theorem cj1 {g r : Prop} (h : g ∧ r) : g := h.1
theorem cj1e {p g : Prop} (h : p ∧ g) : g := h.2
theorem cj2 {p g r : Prop} (h : p ∧ g ∧ r) : g := h.2.1
theorem cj2e {p q g : Prop} (h : p ∧ q ∧ g) : g := h.2.2
theorem cj3 {p q g r : Prop} (h : p ∧ q ∧ g ∧ r) : g := h.2.2.1
theorem cj3e {p q u g : Prop} (h : p ∧ q ∧ u ∧ g) : g := h.2.2.2
theorem cj4 {p q u g r : Prop} (h : p ∧ q ∧ u ∧ g ∧ r) : g := h.2.2.2.1
theorem cj4e {p q u v g : Prop} (h : p ∧ q ∧ u ∧ v ∧ g) : g := h.2.2.2.2
theorem cj5 {p q u v g r : Prop} (h : p ∧ q ∧ u ∧ v ∧ g ∧ r) : g := h.2.2.2.2.1
theorem cj5e {p q u v x g : Prop} (h : p ∧ q ∧ u ∧ v ∧ x ∧ g) : g := h.2.2.2.2.2
theorem cj6 {p q u v x g r : Prop} (h : p ∧ q ∧ u ∧ v ∧ x ∧ g ∧ r) : g := h.2.2.2.2.2.1
theorem cj6e {p q u v x y g : Prop} (h : p ∧ q ∧ u ∧ v ∧ x ∧ y ∧ g) : g := h.2.2.2.2.2.2
/-- the numbers' order, told by a fact at hand -/
theorem ne_gt {a b : Nat} (h : b < a) : a ≠ b := Nat.ne_of_gt h
theorem ne_lt {a b : Nat} (h : a < b) : a ≠ b := Nat.ne_of_lt h
theorem ne_sy {a b : Nat} (h : b ≠ a) : a ≠ b := Ne.symm h
theorem ne_gt1 {a b c : Nat} (h : b < c) (k : c < a) : a ≠ b := Nat.ne_of_gt (Nat.lt_trans h k)
theorem ne_lt1 {a b c : Nat} (h : a < c) (k : c < b) : a ≠ b := Nat.ne_of_lt (Nat.lt_trans h k)
theorem al2 {A B : Type} {P : A × B → Prop} (h : ∀ x0 x1, P (x0, x1)) : ∀ x, P x := fun ⟨x0, x1⟩ => h x0 x1
theorem al4 {A B C D : Type} {P : A × B × C × D → Prop} (h : ∀ x0 x1 x2 x3, P (x0, x1, x2, x3)) : ∀ x, P x := fun ⟨x0, x1, x2, x3⟩ => h x0 x1 x2 x3
theorem al9 {A B C D E F G H I : Type} {P : A × B × C × D × E × F × G × H × I → Prop} (h : ∀ x0 x1 x2 x3 x4 x5 x6 x7 x8, P (x0, x1, x2, x3, x4, x5, x6, x7, x8)) : ∀ x, P x := fun ⟨x0, x1, x2, x3, x4, x5, x6, x7, x8⟩ => h x0 x1 x2 x3 x4 x5 x6 x7 x8
theorem al13 {A B C D E F G H I J K L M : Type} {P : A × B × C × D × E × F × G × H × I × J × K × L × M → Prop} (h : ∀ x0 x1 x2 x3 x4 x5 x6 x7 x8 x9 x10 x11 x12, P (x0, x1, x2, x3, x4, x5, x6, x7, x8, x9, x10, x11, x12)) : ∀ x, P x := fun ⟨x0, x1, x2, x3, x4, x5, x6, x7, x8, x9, x10, x11, x12⟩ => h x0 x1 x2 x3 x4 x5 x6 x7 x8 x9 x10 x11 x12
theorem la {x y : Str} {n m : Nat} (hx : x.length ≤ n) (hy : y.length ≤ m) : (x ++ y).length ≤ n + m := by
  have e : (x ++ y).length = x.length + y.length := Str.length_append ..
  rw [e]; exact Nat.add_le_add hx hy
theorem ladd {a b n m R : Nat} (hx : a ≤ n) (hy : b ≤ m) (q : Nat.ble (n + m) R = true) : a + b ≤ R := Nat.le_trans (Nat.add_le_add hx hy) (Nat.le_of_ble_eq_true q)
theorem lle {a n R : Nat} (h : a ≤ n) (q : Nat.ble n R = true) : a ≤ R := Nat.le_trans h (Nat.le_of_ble_eq_true q)
theorem lit8 {s : String} (q : Nat.ble (Str.ofString s).length 8 = true) : (Str.ofString s).length ≤ 8 := Nat.le_of_ble_eq_true q
theorem lar {x y : Str} {R : Nat} (hx : x.length ≤ R - 8) (hy : y.length ≤ 8) (q : Nat.ble 8 R = true) : (x ++ y).length ≤ R :=
  Nat.le_trans (la hx hy) (Nat.le_of_eq (Nat.sub_add_cancel (Nat.le_of_ble_eq_true q)))
theorem lar24 {x y : Str} {R : Nat} (hx : x.length ≤ R - 24) (hy : y.length ≤ 24) (q : Nat.ble 24 R = true) : (x ++ y).length ≤ R :=
  Nat.le_trans (la hx hy) (Nat.le_of_eq (Nat.sub_add_cancel (Nat.le_of_ble_eq_true q)))
theorem ladd5 {a b : Nat} (hx : a ≤ 500) (hy : b ≤ 500) : a + b ≤ 1000 := Nat.add_le_add hx hy
/-- a text's length, told in Int -/
theorem ilen {l : Int} {z : Str} {n R : Nat} (e : l = (z.length : Int)) (h : l ≤ (n : Int)) (q : Nat.ble n R = true) : z.length ≤ R := Nat.le_trans (Int.ofNat_le.mp (e ▸ h)) (Nat.le_of_ble_eq_true q)
theorem iup {l' l : Int} {n : Nat} (h : l' ≤ l + 6) (k : l ≤ (n : Int)) : l' ≤ ((n + 6 : Nat) : Int) := by omega
theorem fm {α : Type} {P : α → Prop} {a : α} {l : List α} (h : P a) (k : ∀ x ∈ l, P x) : ∀ x ∈ a :: l, P x := List.forall_mem_cons.mpr ⟨h, k⟩
theorem nst {stored : List Str} {z n : Str} (h : stored.contains z = false) (q : stored.contains n = true) : ¬ z = n := fun e => Bool.noConfusion ((e ▸ h : stored.contains n = false).symm.trans q)
theorem cnf {b : Bool} (h : b = false) : ¬ b = true := fun e => Bool.noConfusion (h.symm.trans e)
theorem ifn {α : Type} {p : Prop} [d : Decidable p] {a b c : α} (h : ¬ p) (k : b = c) : ite p a b = c := (if_neg h).trans k
theorem len24 {n k : Nat} (h : n ≤ 8 * k) (q : k ≤ 3) : n ≤ 24 := Nat.le_trans h (Nat.mul_le_mul_left 8 q)
end Lith
end
section
open PySem PySem.W PyProof.Rows PySem.Calls
set_option Elab.async false
namespace Lith
theorem hlt_af6f1b {M A Q E s x1 x2 x3 x4 x5 x6} (h : Halt (wpAny M A (subscriptTail x1 x2 (Value.str x3 x4) (Value.int x5 x6)) Q E s)) : wpAny M A (subscriptTail x1 x2 (Value.str x3 x4) (Value.int x5 x6)) Q E s := h
theorem hlt_01cfe0 {M A Q E s x1 x2 x3 x4 x5} (h : Halt (wpAny M A (subscriptTail x1 x2 (Value.ref x3) (Value.int x4 x5)) Q E s)) : wpAny M A (subscriptTail x1 x2 (Value.ref x3) (Value.int x4 x5)) Q E s := h
theorem hlt_f7389c {M A Q E s x1} (h : Halt (wpAny M A (call (Value.builtin "len") [Value.ref x1]) Q E s)) : wpAny M A (call (Value.builtin "len") [Value.ref x1]) Q E s := h
theorem hlt_7d0f42 {M A Q E s x1 x2 x3} (h : Halt (wpAny M A (getAttr (Value.ref (amA x1 x2)) (PySem.Str.ofString "s") x3) Q E s)) : wpAny M A (getAttr (Value.ref (amA x1 x2)) (PySem.Str.ofString "s") x3) Q E s := h
theorem hlt_335d70 {M A Q E s x1 x2 x3} (h : Halt (wpAny M A (getAttr (Value.ref (amA x1 x2)) (PySem.Str.ofString "substring_i") x3) Q E s)) : wpAny M A (getAttr (Value.ref (amA x1 x2)) (PySem.Str.ofString "substring_i") x3) Q E s := h
theorem hlt_d4abdc {M A Q E s x1 x2 x3} (h : Halt (wpAny M A (getAttr (Value.ref (amA x1 x2)) (PySem.Str.ofString "result") x3) Q E s)) : wpAny M A (getAttr (Value.ref (amA x1 x2)) (PySem.Str.ofString "result") x3) Q E s := h
theorem hlt_67b07b {M A Q E s x1 x2 x3 x4} (h : Halt (wpAny M A (subscriptTail x1 x2 (Value.ref 1074) (Value.int x3 x4)) Q E s)) : wpAny M A (subscriptTail x1 x2 (Value.ref 1074) (Value.int x3 x4)) Q E s := h
theorem hlt_5865bf {M A Q E s x1 x2 x3 x4} (h : Halt (wpAny M A (subscriptTail x1 x2 (Value.ref 1082) (Value.int x3 x4)) Q E s)) : wpAny M A (subscriptTail x1 x2 (Value.ref 1082) (Value.int x3 x4)) Q E s := h
theorem hlt_1e0326 {M A Q E s x1 x2} (h : Halt (wpAny M A (compareOp CmpOp.In (Value.str x1 x2) (Value.ref 230)) Q E s)) : wpAny M A (compareOp CmpOp.In (Value.str x1 x2) (Value.ref 230)) Q E s := h
theorem hlt_9609a0 {M A Q E s x1 x2} (h : Halt (wpAny M A (compareOp CmpOp.NotIn (Value.str x1 x2) (Value.ref 230)) Q E s)) : wpAny M A (compareOp CmpOp.NotIn (Value.str x1 x2) (Value.ref 230)) Q E s := h
theorem hlt_409968 {M A Q E s x1} (h : Halt (wpAny M A (getAttr (Value.ref 1085) (PySem.Str.ofString "g_v") x1) Q E s)) : wpAny M A (getAttr (Value.ref 1085) (PySem.Str.ofString "g_v") x1) Q E s := h
theorem hlt_c6d1d4 {M A Q E s x1 x2 x3 x4} (h : Halt (wpAny M A (binaryOp Operator.Add (Value.str x1 x2) (Value.str x3 x4)) Q E s)) : wpAny M A (binaryOp Operator.Add (Value.str x1 x2) (Value.str x3 x4)) Q E s := h
theorem hlt_7b72ec {M A Q E s x1 x2 x3 x4 x5} (h : Halt (wpAny M A (subscriptTail x1 x2 (Value.ref x3) (Value.int x4 x5)) Q E s)) : wpAny M A (subscriptTail x1 x2 (Value.ref x3) (Value.int x4 x5)) Q E s := h
theorem hlt_990c4e {M A Q E s x1 x2 x3 x4} (h : Halt (wpAny M A (subscriptTail x1 x2 (Value.ref x3) (Value.int 0 x4)) Q E s)) : wpAny M A (subscriptTail x1 x2 (Value.ref x3) (Value.int 0 x4)) Q E s := h
theorem hlt_a1438e {M A Q E s x1 x2 x3 x4} (h : Halt (wpAny M A (subscriptTail x1 x2 (Value.ref x3) (Value.int 1 x4)) Q E s)) : wpAny M A (subscriptTail x1 x2 (Value.ref x3) (Value.int 1 x4)) Q E s := h
theorem hlt_127ea8 {M A Q E s x1 x2 x3} (h : Halt (wpAny M A (call (Value.builtin "str.join") [Value.str x1 x2, Value.ref x3]) Q E s)) : wpAny M A (call (Value.builtin "str.join") [Value.str x1 x2, Value.ref x3]) Q E s := h
theorem hlt_7e3cf5 {M A Q E s x1 x2 x3} (h : Halt (wpAny M A (call (Value.builtin x1) [Value.ref x2, x3]) Q E s)) : wpAny M A (call (Value.builtin x1) [Value.ref x2, x3]) Q E s := h
theorem hlt_call {n : Nat} {M A Q E s vs kw} (q : [70, 98, 126, 140, 147, 154, 161, 189, 194, 237, 244, 251, 258, 265, 272, 1120, 1127, 1134, 1141, 1148, 1155, 1162, 1169, 1176, 1183, 1190, 1195].contains n = true) (h : Halt (wpAny M A (call (Value.ref n) vs kw) Q E s)) : wpAny M A (call (Value.ref n) vs kw) Q E s := h
end Lith
end
section
open PySem PySem.W PyProof.Rows PySem.Calls
set_option Elab.async false
set_option maxRecDepth 100000
set_option maxHeartbeats 1000000
namespace Lith
/-- the tokens that stand in an Among's dict -/
noncomputable def tokOf : Value → Nat
  | .str _ t => t
  | .int _ t => t
  | _ => 0
noncomputable def tks (o : Option Obj) : Nat → Nat × Nat := fun i => match o with
  | some ⟨_, _, .dict es _, _⟩ => match es.toList[i]? with
    | some e => (tokOf e.key, tokOf e.val)
    | none => (0, 0)
  | _ => (0, 0)
noncomputable def wantD (P : Params) (o : Obj) (b : Nat) (rows : List AmRow) (k : Nat) : Obj :=
  let d := tks ((tF P o).get (b + 3 * k))
  amDict P (rowOf rows k) (d 0).1 (d 1).1 (d 2).1 (d 0).2 (d 1).2 (d 2).2
theorem tabD3 (P : Params) (o : Obj) : (List.range 2).map (fun k => (tF P o).get (1075 + 3 * k)) = (List.range 2).map (fun k => some (wantD P o 1075 tab3 k)) := by kernel_rfl
theorem tabI3 (P : Params) (o : Obj) : (List.range 2).map (fun k => (tF P o).get (1075 + 3 * k + 1)) = (List.range 2).map (fun k => some (instObj 218 (1075 + 3 * k))) := by kernel_rfl
theorem tabD0 (P : Params) (o : Obj) : (List.range 193).map (fun k => (tF P o).get (273 + 3 * k)) = (List.range 193).map (fun k => some (wantD P o 273 tab0 k)) := by kernel_rfl
theorem tabI0 (P : Params) (o : Obj) : (List.range 193).map (fun k => (tF P o).get (273 + 3 * k + 1)) = (List.range 193).map (fun k => some (instObj 218 (273 + 3 * k))) := by kernel_rfl
theorem tabD1 (P : Params) (o : Obj) : (List.range 62).map (fun k => (tF P o).get (853 + 3 * k)) = (List.range 62).map (fun k => some (wantD P o 853 tab1 k)) := by kernel_rfl
theorem tabI1 (P : Params) (o : Obj) : (List.range 62).map (fun k => (tF P o).get (853 + 3 * k + 1)) = (List.range 62).map (fun k => some (instObj 218 (853 + 3 * k))) := by kernel_rfl
theorem tabD2 (P : Params) (o : Obj) : (List.range 11).map (fun k => (tF P o).get (1040 + 3 * k)) = (List.range 11).map (fun k => some (wantD P o 1040 tab2 k)) := by kernel_rfl
theorem tabI2 (P : Params) (o : Obj) : (List.range 11).map (fun k => (tF P o).get (1040 + 3 * k + 1)) = (List.range 11).map (fun k => some (instObj 218 (1040 + 3 * k))) := by kernel_rfl
theorem tabL (P : Params) (o : Obj) : [852, 1039, 1073, 1081].map (fun k => (tF P o).get k) = [some (lstObj 273 tab0), some (lstObj 853 tab1), some (lstObj 1040 tab2), some (lstObj 1075 tab3)] := by kernel_rfl
theorem tab_get {P : Params} {o : Obj} {h : Heap} (hk : ∀ b x, (absHeap (tF P o) 1203 {}).get? b = some x → h.get? b = some x) {a : Nat} {x : Obj} (lt : a < 1203) (al : aliveB x = true) (e : (tF P o).get a = some x) : h.get? a = some x := by
  refine hk a x (get?_alive ?_ al)
  rw [absHeap_at, if_pos lt, e]; rfl
theorem amTab_of {w : World} {o : Obj} {h : Heap} (hk : ∀ b x, (absHeap (tF w.params o) 1203 {}).get? b = some x → h.get? b = some x) {T b n : Nat} {rows : List AmRow} (hn : rows.length = n) (fits : n ≤ 1000) (hT : T < 1203) (hb : b + 3 * n ≤ 1203)
    (hL : (tF w.params o).get T = some (lstObj b rows)) (hD : (List.range n).map (fun k => (tF w.params o).get (b + 3 * k)) = (List.range n).map (fun k => some (wantD w.params o b rows k)))
    (hI : (List.range n).map (fun k => (tF w.params o).get (b + 3 * k + 1)) = (List.range n).map (fun k => some (instObj 218 (b + 3 * k)))) (sm : ∀ k, (rowOf rows k).1.length ≤ 1000) : AmTab w h T b rows := by
  refine ⟨⟨lstObj b rows, tab_get hk hT rfl hL, ?_⟩, by omega, sm, fun k lt => ?_⟩
  · exact ⟨rfl, 0, rfl⟩
  · rw [hn] at lt
    have d := List.map_inj_left.mp hD k (List.mem_range.mpr lt)
    have i := List.map_inj_left.mp hI k (List.mem_range.mpr lt)
    exact ⟨_, _, _, _, _, _, tab_get hk (by omega) rfl d, tab_get hk (by omega) rfl i⟩
theorem small_of {rows : List AmRow} (h : rows.all (fun r => Nat.ble r.1.length 1000) = true) (k : Nat) : (rowOf rows k).1.length ≤ 1000 := by
  show (rows.getD k (Str.ofString "", 0, 0)).1.length ≤ 1000
  rw [List.getD_eq_getElem?_getD]
  cases e : rows[k]? with
  | none => exact Nat.le_of_ble_eq_true rfl
  | some r => exact Nat.le_of_ble_eq_true (List.all_eq_true.mp h r (List.mem_of_getElem? e))
theorem tabs_of {w : World} {h : Heap} (y : YP w h) : AmTab w h 852 273 tab0 ∧ AmTab w h 1039 853 tab1 ∧ AmTab w h 1073 1040 tab2 ∧ AmTab w h 1081 1075 tab3 := by
  obtain ⟨es, ep, tb, g, k⟩ := y
  have L := tabL w.params (so es ep tb)
  simp only [List.map_cons, List.map_nil, List.cons.injEq, and_true] at L
  obtain ⟨l0, l1, l2, l3⟩ := L
  exact ⟨amTab_of k (n := 193) (by decide +kernel) (by omega) (by omega) (by omega) l0 (tabD0 _ _) (tabI0 _ _) (small_of (by decide +kernel)),
    amTab_of k (n := 62) (by decide +kernel) (by omega) (by omega) (by omega) l1 (tabD1 _ _) (tabI1 _ _) (small_of (by decide +kernel)),
    amTab_of k (n := 11) (by decide +kernel) (by omega) (by omega) (by omega) l2 (tabD2 _ _) (tabI2 _ _) (small_of (by decide +kernel)),
    amTab_of k (n := 2) (by decide +kernel) (by omega) (by omega) (by omega) l3 (tabD3 _ _) (tabI3 _ _) (small_of (by decide +kernel))⟩
end Lith
end
section
open PySem PySem.W PyProof.Rows
set_option Elab.async false
set_option maxRecDepth 100000
set_option maxHeartbeats 8000000
namespace Lith
noncomputable def Tabs4 (w : World) (h : Heap) : Prop := AmTab w h 852 273 tab0 ∧ AmTab w h 1039 853 tab1 ∧ AmTab w h 1073 1040 tab2 ∧ AmTab w h 1081 1075 tab3
theorem holdsK2 {d : DefRec} {kwd : List (Str × Expr)} (hdef : defOf qv rl.name = some (d, kwd)) (hp : rl.prog.theDef rl.name = some (d.params, d.body, d.scope)) (hk : kwWritten? d.params.kwonlyargs d.params.kw_defaults = some kwd)
    (k1 : rl.wellSaid = true) (hb : rl.prog.bare) (hw : rl.toRowW.promised) (call : WalkO qv loose XPL (fun w h => InK kL w h ∧ (GV w h ∧ Tabs4 w h)) rl.toRowW d kwd fun f vs => PySem.call f vs) : rl.Holds :=
  holdsL hdef hp hk k1 hb hw fun w s₀ s₁ mg mb G y => call w s₀ s₁ mg mb G ⟨(yk_of y).1, (yk_of y).2, tabs_of y⟩
end Lith
end
section
open PySem PySem.W PyProof.Rows PySem.Calls Lith
local macro_rules | `(tactic| ktr_room) => `(tactic| k_dflt (first | exact lt1 (by with_reducible assumption) (by rfl) (by rfl) | exact lt0 (by with_reducible assumption) (by rfl) | exact lt00 (by with_reducible assumption) | exact ltb (by rfl)))
local macro_rules | `(tactic| ktr_units) => `(tactic| k_dflt (first | exact lt3 (by with_reducible assumption) (by rfl) (by rfl) | exact lt0 (by with_reducible assumption) (by rfl) | exact lt00 (by with_reducible assumption) | exact ltb (by rfl)))
local macro_rules | `(tactic| ktn_lt) => `(tactic| with_reducible (first | assumption | exact cj1 (by assumption) | exact cj1e (by assumption) | exact cj2 (by assumption) | exact cj2e (by assumption) | exact cj3 (by assumption) | exact cj3e (by assumption) | exact cj4 (by assumption) | exact cj4e (by assumption) | exact cj5 (by assumption) | exact cj5e (by assumption) | exact cj6 (by assumption) | exact cj6e (by assumption)))
local macro_rules | `(tactic| k_ne) => `(tactic| (refine neN ?_; (try dsimp only); first | with_reducible assumption | (with_reducible refine ne_sy ?_; assumption) | (with_reducible refine ne_gt ?_; ktn_lt) | (with_reducible refine ne_lt ?_; ktn_lt)))
local macro_rules | `(tactic| walk_at "call ref") => `(tactic| (k_dflt (refine hlt_call rfl ?_)))
section
open PySem PySem.W PyProof.Rows PySem.Calls Lith
set_option Elab.async false
set_option maxRecDepth 100000
set_option maxHeartbeats 8000000
namespace Lith
local macro_rules | `(tactic| walk_at "subscriptTail") => `(tactic| (first | with_reducible refine hlt_af6f1b ?_ | with_reducible refine hlt_01cfe0 ?_))
local macro_rules | `(tactic| walk_at "call builtin:len") => `(tactic| (with_reducible refine hlt_f7389c ?_))
local macro_rules | `(tactic| walk_at "getAttr ref") => `(tactic| (first | with_reducible refine hlt_7d0f42 ?_ | with_reducible refine hlt_335d70 ?_ | with_reducible refine hlt_d4abdc ?_))
local macro_rules | `(tactic| walk_at "Join") => `(tactic| (refine halt_of ?_))
local macro_rules | `(tactic| walk_at "InvEndN") => `(tactic| (refine halt_of ?_))
local macro_rules | `(tactic| walk_at "KswEnd") => `(tactic| (refine halt_of ?_))

local macro_rules | `(tactic| walk_at "exec While Constant cons nil") => `(tactic| refine halt_of ?_)
local macro_rules | `(tactic| walk_at "exec For") => `(tactic| refine halt_of ?_)
local macro_rules | `(tactic| walk_at "exec For Name Call cons nil") => `(tactic| refine halt_of ?_)
local macro_rules | `(tactic| walk_at "pyIter ref") => `(tactic| refine halt_of ?_)

theorem c_find {w : World} {lo : List Str} {mean : ExcName → Option Value} {mg mb : Str → Option Value} {dp un : Nat} {gd : Option (List Code)} {cn : Str} {cs : Scope} {a : Addr} {ccd : Value} {cl : List (Str × Addr)} {outer : List Env} {A₀ : Around} {base h₀ : Heap} {L : Addr} {m : Str → Option Value} {s : Shared} {Q E : Value → Shared → Prop}
    {D I : Addr} {oth : List (Addr × Obj)} {k0 k1 k2 k3 k4 k5 k6 t0 t1 t2 t3 t4 t5 t6 : Tok} {S : Str} {c l lb br ke p1 : Int} {Tt bs : Nat} {rows : List AmRow}
    (B : Below A₀ base outer h₀) (F : Fr h₀ L s.heap m) (X : (kL w.params).In h₀) (N : News h₀ L s.heap ((D, dictOf [⟨PyData.keyHash w.params (Str.ofString "current"), .str (Str.ofString "current") k0, .str S t0⟩, ⟨PyData.keyHash w.params (Str.ofString "cursor"), .str (Str.ofString "cursor") k1, .int c t1⟩, ⟨PyData.keyHash w.params (Str.ofString "limit"), .str (Str.ofString "limit") k2, .int l t2⟩, ⟨PyData.keyHash w.params (Str.ofString "limit_backward"), .str (Str.ofString "limit_backward") k3, .int lb t3⟩, ⟨PyData.keyHash w.params (Str.ofString "bra"), .str (Str.ofString "bra") k4, .int br t4⟩, ⟨PyData.keyHash w.params (Str.ofString "ket"), .str (Str.ofString "ket") k5, .int ke t5⟩, ⟨PyData.keyHash w.params (Str.ofString "I_p1"), .str (Str.ofString "I_p1") k6, .int p1 t6⟩] 7) :: (I, instObj 1085 D) :: oth)) (TT : Top qv lo mean mg mb h₀)
    (hk : cs.kind = .function) (d0 : NeN D I) (hO : OwnOff oth [D, I]) (hS : S.length ≤ 1000) (hd : dp + 14 < recursionLimit) (hu : un + 120 < cLine) (AT : AmTab w h₀ Tt bs rows) (TO : TabOk rows) (g0 : 0 ≤ lb) (g3 : lb ≤ c) (g4 : c ≤ (S.length : Int))
    (ret : ∀ (S' : Str) (c' l' lb' br' ke' p1' : Int) (t0' t1' t2' t3' t4' t5' t6' : Tok) (v : Value) (h' : Heap) (tk' : Nat), Fr h₀ L h' m → News h₀ L h' ((D, dictOf [⟨PyData.keyHash w.params (Str.ofString "current"), .str (Str.ofString "current") k0, .str S' t0'⟩, ⟨PyData.keyHash w.params (Str.ofString "cursor"), .str (Str.ofString "cursor") k1, .int c' t1'⟩, ⟨PyData.keyHash w.params (Str.ofString "limit"), .str (Str.ofString "limit") k2, .int l' t2'⟩, ⟨PyData.keyHash w.params (Str.ofString "limit_backward"), .str (Str.ofString "limit_backward") k3, .int lb' t3'⟩, ⟨PyData.keyHash w.params (Str.ofString "bra"), .str (Str.ofString "bra") k4, .int br' t4'⟩, ⟨PyData.keyHash w.params (Str.ofString "ket"), .str (Str.ofString "ket") k5, .int ke' t5'⟩, ⟨PyData.keyHash w.params (Str.ofString "I_p1"), .str (Str.ofString "I_p1") k6, .int p1' t6'⟩] 7) :: (I, instObj 1085 D) :: oth) → (S' = S ∧ l' = l ∧ lb' = lb ∧ br' = br ∧ ke' = ke ∧ p1' = p1 ∧ FindR (tl S lb c) rows c c' v) → Q v { s with heap := h', toks := tk' }) :
    wpAny (model pg w) (ktrTop dp un gd cn cs L a ccd cl outer) (call (.ref 140) [.ref I, .ref Tt]) Q E s := by
  have key : rl = rl := rfl
  have n2 := TO.two
  have e0 : (D : Nat) ≠ I := d0
  revert X key
  k_fill
  intro X _
  refine wpAny_call ?_
  k_dflt cell_enter
  (repeat' (first | ((with_reducible refine of_halt ?_); first | (k_end; goal_has PySem.W.KswEnd; (rename News _ _ _ _ => nE'); (try simp only [List.push_toArray] at nE'); (first | refine ksw_end ⟨_, _, _, _, _, _, _, _, _⟩ (by assumption) nE' (by first | exact fun _ hp => hp | kst_in) (by kst_facts) (by first | ((try dsimp only); (repeat (first | exact List.forall_mem_nil _ | refine fm (by with_unfolding_all exact @rfl _ (some _)) ?_)); done) | kst_all) (by first | ((intro z h2 h3); (try dsimp only at h2); (repeat (refine ifn ?_ ?_; first | with_reducible exact h2 (_, _) (by (repeat (first | exact List.mem_cons_self | refine List.mem_cons_of_mem _ ?_))) | exact cnf h3 | exact nst h3 (by decide +kernel))); rfl) | ksw_same) (halt_of ?_) (halt_of ?_) | refine ksw_end ⟨_, _⟩ (by assumption) nE' (by first | exact fun _ hp => hp | kst_in) (by kst_facts) (by first | ((try dsimp only); (repeat (first | exact List.forall_mem_nil _ | refine fm (by with_unfolding_all exact @rfl _ (some _)) ?_)); done) | kst_all) (by first | ((intro z h2 h3); (try dsimp only at h2); (repeat (refine ifn ?_ ?_; first | with_reducible exact h2 (_, _) (by (repeat (first | exact List.mem_cons_self | refine List.mem_cons_of_mem _ ?_))) | exact cnf h3 | exact nst h3 (by decide +kernel))); rfl) | ksw_same) (halt_of ?_) (halt_of ?_))) | (k_end; goal_has PySem.W.InvEndN; (rename News _ _ _ _ => nE'); (try simp only [List.push_toArray] at nE'); (refine kst_end ⟨_, _, _, _⟩ (by assumption) nE' (by first | kst_in | kst_inAny) (by first | (intro p hp; kst_mem) | kst_anyIn) (by rfl) (by kst_facts) (by first | ((try dsimp only); (repeat (first | exact List.forall_mem_nil _ | refine fm (by with_unfolding_all exact @rfl _ (some _)) ?_)); done) | kst_all) (by first | ((intro z h1 h2 h3); (try dsimp only at h2); (repeat (refine ifn ?_ ?_; first | with_reducible exact h1 | with_reducible exact h2 (_, _) (by (repeat (first | exact List.mem_cons_self | refine List.mem_cons_of_mem _ ?_))) | exact cnf h3 | exact nst h3 (by decide +kernel))); rfl) | kst_same) (halt_of ?_))) | (k_end; goal_has Lith.Join; (rename Fr _ _ _ _ => jF); (rename News _ _ _ _ => jN); (try simp only [List.push_toArray] at jN); (refine join_end ⟨_, _, _, _⟩ jF jN (by first | exact fun _ hp => hp | kst_in) (by first | ((try dsimp only); (repeat (first | exact List.forall_mem_nil _ | refine fm (by with_unfolding_all exact @rfl _ (some _)) ?_)); done) | kst_all) (by first | ((intro z h2 h3); (try dsimp only at h2); (repeat (refine ifn ?_ ?_; first | with_reducible exact h2 (_, _) (by (repeat (first | exact List.mem_cons_self | refine List.mem_cons_of_mem _ ?_))) | exact cnf h3 | exact nst h3 (by decide +kernel))); rfl) | ksw_same) (halt_of ?_))) | ((with_reducible show wpAny _ _ (getAttr (Value.ref (amA _ _)) (PySem.Str.ofString "result") _) _ _ _); k_dflt (refine' am_r ?k1 ?k4 ?k2 ?h0 ?h1 ?_; (case k1 | k4 => k_asm); (case k2 => first | assumption | exact AmTab.up (by assumption) (by assumption)); (case h0 | h1 => first | omega | ((try simp only [decide_eq_true_eq, decide_eq_false_iff_not, Bool.not_eq_true] at *); (try simp only [mid_eq]); omega)); k_whole); intro u8 sm8) | ((with_reducible show wpAny _ _ (getAttr (Value.ref (amA _ _)) (PySem.Str.ofString "substring_i") _) _ _ _); k_dflt (refine' am_i ?k1 ?k4 ?k2 ?h0 ?h1 ?_; (case k1 | k4 => k_asm); (case k2 => first | assumption | exact AmTab.up (by assumption) (by assumption)); (case h0 | h1 => first | omega | ((try simp only [decide_eq_true_eq, decide_eq_false_iff_not, Bool.not_eq_true] at *); (try simp only [mid_eq]); omega)); k_whole); intro u8 sm8) | ((with_reducible show wpAny _ _ (getAttr (Value.ref (amA _ _)) (PySem.Str.ofString "s") _) _ _ _); k_dflt (refine' am_s ?k1 ?k4 ?k2 ?h0 ?h1 ?_; (case k1 | k4 => k_asm); (case k2 => first | assumption | exact AmTab.up (by assumption) (by assumption)); (case h0 | h1 => first | omega | ((try simp only [decide_eq_true_eq, decide_eq_false_iff_not, Bool.not_eq_true] at *); (try simp only [mid_eq]); omega)); k_whole); intro u8 sm8) | ((with_reducible show wpAny _ _ (call (Value.builtin "len") [Value.ref _]) _ _ _); k_dflt (refine' len_am ?k1 ?k2 ?_; (case k1 => k_asm); (case k2 => first | assumption | exact AmTab.up (by assumption) (by assumption)); k_whole); intro tk8) | ((with_reducible show wpAny _ _ (subscriptTail _ _ (Value.ref _) (Value.int _ _)) _ _ _); k_dflt (refine' item_am ?k1 ?k2 ?h0 ?h1 ?_; (case k1 => k_asm); (case k2 => first | assumption | exact AmTab.up (by assumption) (by assumption)); (case h0 | h1 => first | omega | ((try simp only [decide_eq_true_eq, decide_eq_false_iff_not, Bool.not_eq_true] at *); (try simp only [mid_eq]); omega)); k_whole)) | ((with_reducible show wpAny _ _ (subscriptTail _ _ (Value.str _ _) (Value.int _ _)) _ _ _); k_dflt (refine' item_chr ?g0 ?g1 ?gS ?_; (case g0 | g1 => ((try simp only [decide_eq_true_eq, decide_eq_false_iff_not, Bool.not_eq_true] at *); omega)); (case gS => assumption); k_whole))) | (k_unfold; (try dsimp only)) | (k_end; kc_close) | walk1 | (dsimp only; walk1)))
  refine of_halt ?_
  rename Fr _ _ _ _ => F1
  rename News _ _ _ _ => N1
  refine join_cut (σ := Int × Nat × Int × Nat) (fun c9 => [(Str.ofString "i", .int c9.1 c9.2.1), (Str.ofString "common_i", .int c9.2.2.1 c9.2.2.2)]) [Str.ofString "j", Str.ofString "k", Str.ofString "diff", Str.ofString "common", Str.ofString "w", Str.ofString "i2", Str.ofString "common_j", Str.ofString "first_key_inspected"] (fun c9 => Found (tl S lb c) rows c9.1 c9.2.2.1) F1 N1 ?_ ?_
  · refine ksw_while (σ := Int × Nat × Int × Nat × Int × Nat × Int × Nat × Bool) (fun _ => _) (fun c9 => [(Str.ofString "i", .int c9.1 c9.2.1), (Str.ofString "j", .int c9.2.2.1 c9.2.2.2.1), (Str.ofString "common_i", .int c9.2.2.2.2.1 c9.2.2.2.2.2.1), (Str.ofString "common_j", .int c9.2.2.2.2.2.2.1 c9.2.2.2.2.2.2.2.1), (Str.ofString "first_key_inspected", .bool c9.2.2.2.2.2.2.2.2)])
      (fun _ => True) [Str.ofString "k", Str.ofString "diff", Str.ofString "common", Str.ofString "w", Str.ofString "i2"] (fun c9 => SrchW (tl S lb c) rows (c - lb) c9.1 c9.2.2.1 c9.2.2.2.2.1 c9.2.2.2.2.2.2.1 c9.2.2.2.2.2.2.2.2)
      (fun c9 => 2 * (c9.2.2.1 - c9.1).toNat + (if c9.2.2.2.2.2.2.2.2 = true then 0 else 1)) ⟨_, _, _, _, _, _, _, _, _⟩ F1 N1 True.intro (by first | ((try dsimp only); (repeat (first | exact List.forall_mem_nil _ | refine fm (by with_unfolding_all exact @rfl _ (some _)) ?_)); done) | kst_all) ?hp ?_
    case hp => (dsimp only; exact ⟨by omega, by omega, .inl ⟨by omega, rfl⟩, by omega, by omega, by omega, by omega, srch_start rfl⟩)
    refine al9 ?_; intro i9 ti9 j9 tj9 ci9 tci9 cj9 tcj9 fk9; rintro u9 h9 tk9 _ sw9 F2 N2
    (try dsimp only [kstB] at F2); (try dsimp only at sw9); (obtain ⟨a0, a1, a2, a3, a4, a5, a6, a7⟩ := id sw9)
    (try dsimp only at N2)
    clear F1 N1
    have kM := kstMark
    (repeat' (first | ((with_reducible refine of_halt ?_); first | (k_end; goal_has PySem.W.KswEnd; (rename News _ _ _ _ => nE'); (try simp only [List.push_toArray] at nE'); (first | refine ksw_end ⟨_, _, _, _, _, _, _, _, _⟩ (by assumption) nE' (by first | exact fun _ hp => hp | kst_in) (by kst_facts) (by first | ((try dsimp only); (repeat (first | exact List.forall_mem_nil _ | refine fm (by with_unfolding_all exact @rfl _ (some _)) ?_)); done) | kst_all) (by first | ((intro z h2 h3); (try dsimp only at h2); (repeat (refine ifn ?_ ?_; first | with_reducible exact h2 (_, _) (by (repeat (first | exact List.mem_cons_self | refine List.mem_cons_of_mem _ ?_))) | exact cnf h3 | exact nst h3 (by decide +kernel))); rfl) | ksw_same) (halt_of ?_) (halt_of ?_) | refine ksw_end ⟨_, _⟩ (by assumption) nE' (by first | exact fun _ hp => hp | kst_in) (by kst_facts) (by first | ((try dsimp only); (repeat (first | exact List.forall_mem_nil _ | refine fm (by with_unfolding_all exact @rfl _ (some _)) ?_)); done) | kst_all) (by first | ((intro z h2 h3); (try dsimp only at h2); (repeat (refine ifn ?_ ?_; first | with_reducible exact h2 (_, _) (by (repeat (first | exact List.mem_cons_self | refine List.mem_cons_of_mem _ ?_))) | exact cnf h3 | exact nst h3 (by decide +kernel))); rfl) | ksw_same) (halt_of ?_) (halt_of ?_))) | (k_end; goal_has PySem.W.InvEndN; (rename News _ _ _ _ => nE'); (try simp only [List.push_toArray] at nE'); (refine kst_end ⟨_, _, _, _⟩ (by assumption) nE' (by first | kst_in | kst_inAny) (by first | (intro p hp; kst_mem) | kst_anyIn) (by rfl) (by kst_facts) (by first | ((try dsimp only); (repeat (first | exact List.forall_mem_nil _ | refine fm (by with_unfolding_all exact @rfl _ (some _)) ?_)); done) | kst_all) (by first | ((intro z h1 h2 h3); (try dsimp only at h2); (repeat (refine ifn ?_ ?_; first | with_reducible exact h1 | with_reducible exact h2 (_, _) (by (repeat (first | exact List.mem_cons_self | refine List.mem_cons_of_mem _ ?_))) | exact cnf h3 | exact nst h3 (by decide +kernel))); rfl) | kst_same) (halt_of ?_))) | (k_end; goal_has Lith.Join; (rename Fr _ _ _ _ => jF); (rename News _ _ _ _ => jN); (try simp only [List.push_toArray] at jN); (refine join_end ⟨_, _, _, _⟩ jF jN (by first | exact fun _ hp => hp | kst_in) (by first | ((try dsimp only); (repeat (first | exact List.forall_mem_nil _ | refine fm (by with_unfolding_all exact @rfl _ (some _)) ?_)); done) | kst_all) (by first | ((intro z h2 h3); (try dsimp only at h2); (repeat (refine ifn ?_ ?_; first | with_reducible exact h2 (_, _) (by (repeat (first | exact List.mem_cons_self | refine List.mem_cons_of_mem _ ?_))) | exact cnf h3 | exact nst h3 (by decide +kernel))); rfl) | ksw_same) (halt_of ?_))) | ((with_reducible show wpAny _ _ (getAttr (Value.ref (amA _ _)) (PySem.Str.ofString "result") _) _ _ _); k_dflt (refine' am_r ?k1 ?k4 ?k2 ?h0 ?h1 ?_; (case k1 | k4 => k_asm); (case k2 => first | assumption | exact AmTab.up (by assumption) (by assumption)); (case h0 | h1 => first | omega | ((try simp only [decide_eq_true_eq, decide_eq_false_iff_not, Bool.not_eq_true] at *); (try simp only [mid_eq]); omega)); k_whole); intro u8 sm8) | ((with_reducible show wpAny _ _ (getAttr (Value.ref (amA _ _)) (PySem.Str.ofString "substring_i") _) _ _ _); k_dflt (refine' am_i ?k1 ?k4 ?k2 ?h0 ?h1 ?_; (case k1 | k4 => k_asm); (case k2 => first | assumption | exact AmTab.up (by assumption) (by assumption)); (case h0 | h1 => first | omega | ((try simp only [decide_eq_true_eq, decide_eq_false_iff_not, Bool.not_eq_true] at *); (try simp only [mid_eq]); omega)); k_whole); intro u8 sm8) | ((with_reducible show wpAny _ _ (getAttr (Value.ref (amA _ _)) (PySem.Str.ofString "s") _) _ _ _); k_dflt (refine' am_s ?k1 ?k4 ?k2 ?h0 ?h1 ?_; (case k1 | k4 => k_asm); (case k2 => first | assumption | exact AmTab.up (by assumption) (by assumption)); (case h0 | h1 => first | omega | ((try simp only [decide_eq_true_eq, decide_eq_false_iff_not, Bool.not_eq_true] at *); (try simp only [mid_eq]); omega)); k_whole); intro u8 sm8) | ((with_reducible show wpAny _ _ (call (Value.builtin "len") [Value.ref _]) _ _ _); k_dflt (refine' len_am ?k1 ?k2 ?_; (case k1 => k_asm); (case k2 => first | assumption | exact AmTab.up (by assumption) (by assumption)); k_whole); intro tk8) | ((with_reducible show wpAny _ _ (subscriptTail _ _ (Value.ref _) (Value.int _ _)) _ _ _); k_dflt (refine' item_am ?k1 ?k2 ?h0 ?h1 ?_; (case k1 => k_asm); (case k2 => first | assumption | exact AmTab.up (by assumption) (by assumption)); (case h0 | h1 => first | omega | ((try simp only [decide_eq_true_eq, decide_eq_false_iff_not, Bool.not_eq_true] at *); (try simp only [mid_eq]); omega)); k_whole)) | ((with_reducible show wpAny _ _ (subscriptTail _ _ (Value.str _ _) (Value.int _ _)) _ _ _); k_dflt (refine' item_chr ?g0 ?g1 ?gS ?_; (case g0 | g1 => ((try simp only [decide_eq_true_eq, decide_eq_false_iff_not, Bool.not_eq_true] at *); omega)); (case gS => assumption); k_whole))) | (k_unfold; (try dsimp only)) | (k_end; kc_close) | walk1 | (dsimp only; walk1)))
    refine of_halt ?_
    rename Fr _ _ _ _ => F3
    rename News _ _ _ _ => N3
    (try dsimp only at F3)
    have hk9 : i9 + (j9 - i9).fdiv (2 ^ Int.toNat 1) = i9 + (j9 - i9) / 2 := by rw [mid_eq]
    have hm9 : (if cj9 < ci9 then cj9 else ci9) = min ci9 cj9 := by omega
    generalize i9 + (j9 - i9).fdiv (2 ^ Int.toNat 1) = k9 at F3 hk9
    generalize (if cj9 < ci9 then cj9 else ci9) = m9 at F3 hm9
    have b0 : i9 ≤ k9 := by omega
    have b1 : k9 < j9 := by omega
    have b2 : m9 ≤ (lcp (tl S lb c) (key rows k9) : Int) := by rw [hm9]; exact srch_mid TO a7 a0 b0 b1 a1 a3 a5
    have b3 : 0 ≤ m9 := by omega
    have b7 : m9 ≤ ((rowOf rows k9.toNat).1.length : Int) := by have := lcp_le_right (tl S lb c) (key rows k9); rw [key_len] at this; omega
    have b4 : m9 ≤ c - lb := by omega
    have b5 : k9 < (rows.length : Int) := by omega
    have b6 : 0 ≤ k9 := by omega
    refine join_cut (σ := Int × Nat × Int × Nat) (fun c9 => [(Str.ofString "diff", .int c9.1 c9.2.1), (Str.ofString "common", .int c9.2.2.1 c9.2.2.2)]) [Str.ofString "i2"] (fun c9 => 0 ≤ c9.2.2.1 ∧ c9.2.2.1 ≤ c - lb ∧ InnE (tl S lb c) rows k9 c9.2.2.1 c9.1) F3 N3 ?_ ?_
    · refine For_invVF F3 rfl rfl ?_
      (repeat' (first | ((with_reducible refine of_halt ?_); first | (k_end; goal_has PySem.W.KswEnd; (rename News _ _ _ _ => nE'); (try simp only [List.push_toArray] at nE'); (first | refine ksw_end ⟨_, _, _, _, _, _, _, _, _⟩ (by assumption) nE' (by first | exact fun _ hp => hp | kst_in) (by kst_facts) (by first | ((try dsimp only); (repeat (first | exact List.forall_mem_nil _ | refine fm (by with_unfolding_all exact @rfl _ (some _)) ?_)); done) | kst_all) (by first | ((intro z h2 h3); (try dsimp only at h2); (repeat (refine ifn ?_ ?_; first | with_reducible exact h2 (_, _) (by (repeat (first | exact List.mem_cons_self | refine List.mem_cons_of_mem _ ?_))) | exact cnf h3 | exact nst h3 (by decide +kernel))); rfl) | ksw_same) (halt_of ?_) (halt_of ?_) | refine ksw_end ⟨_, _⟩ (by assumption) nE' (by first | exact fun _ hp => hp | kst_in) (by kst_facts) (by first | ((try dsimp only); (repeat (first | exact List.forall_mem_nil _ | refine fm (by with_unfolding_all exact @rfl _ (some _)) ?_)); done) | kst_all) (by first | ((intro z h2 h3); (try dsimp only at h2); (repeat (refine ifn ?_ ?_; first | with_reducible exact h2 (_, _) (by (repeat (first | exact List.mem_cons_self | refine List.mem_cons_of_mem _ ?_))) | exact cnf h3 | exact nst h3 (by decide +kernel))); rfl) | ksw_same) (halt_of ?_) (halt_of ?_))) | (k_end; goal_has PySem.W.InvEndN; (rename News _ _ _ _ => nE'); (try simp only [List.push_toArray] at nE'); (refine kst_end ⟨_, _, _, _⟩ (by assumption) nE' (by first | kst_in | kst_inAny) (by first | (intro p hp; kst_mem) | kst_anyIn) (by rfl) (by kst_facts) (by first | ((try dsimp only); (repeat (first | exact List.forall_mem_nil _ | refine fm (by with_unfolding_all exact @rfl _ (some _)) ?_)); done) | kst_all) (by first | ((intro z h1 h2 h3); (try dsimp only at h2); (repeat (refine ifn ?_ ?_; first | with_reducible exact h1 | with_reducible exact h2 (_, _) (by (repeat (first | exact List.mem_cons_self | refine List.mem_cons_of_mem _ ?_))) | exact cnf h3 | exact nst h3 (by decide +kernel))); rfl) | kst_same) (halt_of ?_))) | (k_end; goal_has Lith.Join; (rename Fr _ _ _ _ => jF); (rename News _ _ _ _ => jN); (try simp only [List.push_toArray] at jN); (refine join_end ⟨_, _, _, _⟩ jF jN (by first | exact fun _ hp => hp | kst_in) (by first | ((try dsimp only); (repeat (first | exact List.forall_mem_nil _ | refine fm (by with_unfolding_all exact @rfl _ (some _)) ?_)); done) | kst_all) (by first | ((intro z h2 h3); (try dsimp only at h2); (repeat (refine ifn ?_ ?_; first | with_reducible exact h2 (_, _) (by (repeat (first | exact List.mem_cons_self | refine List.mem_cons_of_mem _ ?_))) | exact cnf h3 | exact nst h3 (by decide +kernel))); rfl) | ksw_same) (halt_of ?_))) | ((with_reducible show wpAny _ _ (getAttr (Value.ref (amA _ _)) (PySem.Str.ofString "result") _) _ _ _); k_dflt (refine' am_r ?k1 ?k4 ?k2 ?h0 ?h1 ?_; (case k1 | k4 => k_asm); (case k2 => first | assumption | exact AmTab.up (by assumption) (by assumption)); (case h0 | h1 => first | omega | ((try simp only [decide_eq_true_eq, decide_eq_false_iff_not, Bool.not_eq_true] at *); (try simp only [mid_eq]); omega)); k_whole); intro u8 sm8) | ((with_reducible show wpAny _ _ (getAttr (Value.ref (amA _ _)) (PySem.Str.ofString "substring_i") _) _ _ _); k_dflt (refine' am_i ?k1 ?k4 ?k2 ?h0 ?h1 ?_; (case k1 | k4 => k_asm); (case k2 => first | assumption | exact AmTab.up (by assumption) (by assumption)); (case h0 | h1 => first | omega | ((try simp only [decide_eq_true_eq, decide_eq_false_iff_not, Bool.not_eq_true] at *); (try simp only [mid_eq]); omega)); k_whole); intro u8 sm8) | ((with_reducible show wpAny _ _ (getAttr (Value.ref (amA _ _)) (PySem.Str.ofString "s") _) _ _ _); k_dflt (refine' am_s ?k1 ?k4 ?k2 ?h0 ?h1 ?_; (case k1 | k4 => k_asm); (case k2 => first | assumption | exact AmTab.up (by assumption) (by assumption)); (case h0 | h1 => first | omega | ((try simp only [decide_eq_true_eq, decide_eq_false_iff_not, Bool.not_eq_true] at *); (try simp only [mid_eq]); omega)); k_whole); intro u8 sm8) | ((with_reducible show wpAny _ _ (call (Value.builtin "len") [Value.ref _]) _ _ _); k_dflt (refine' len_am ?k1 ?k2 ?_; (case k1 => k_asm); (case k2 => first | assumption | exact AmTab.up (by assumption) (by assumption)); k_whole); intro tk8) | ((with_reducible show wpAny _ _ (subscriptTail _ _ (Value.ref _) (Value.int _ _)) _ _ _); k_dflt (refine' item_am ?k1 ?k2 ?h0 ?h1 ?_; (case k1 => k_asm); (case k2 => first | assumption | exact AmTab.up (by assumption) (by assumption)); (case h0 | h1 => first | omega | ((try simp only [decide_eq_true_eq, decide_eq_false_iff_not, Bool.not_eq_true] at *); (try simp only [mid_eq]); omega)); k_whole)) | ((with_reducible show wpAny _ _ (subscriptTail _ _ (Value.str _ _) (Value.int _ _)) _ _ _); k_dflt (refine' item_chr ?g0 ?g1 ?gS ?_; (case g0 | g1 => ((try simp only [decide_eq_true_eq, decide_eq_false_iff_not, Bool.not_eq_true] at *); omega)); (case gS => assumption); k_whole))) | (k_unfold; (try dsimp only)) | (k_end; kc_close) | walk1 | (dsimp only; walk1)))
      refine of_halt ?_
      rename IsRange _ _ _ _ _ _ _ _ => R4
      rename Fr _ _ _ _ => F4
      rename News _ _ _ _ => N4
      have sm9 := AT.small k9.toNat
      refine kst_rangeD (σ := Int × Nat × Int × Nat) (fun _ => _) (fun c9 => [(Str.ofString "diff", .int c9.1 c9.2.1), (Str.ofString "common", .int c9.2.2.1 c9.2.2.2)]) (fun _ => True) [] (fun pre c9 => c9.2.2.1 = m9 + (pre.length : Int) ∧ c9.2.2.1 ≤ c - lb ∧ Inn (tl S lb c) rows k9 c9.2.2.1 c9.1) ⟨_, _, _, _⟩ (by rfl) R4 (small_down (by omega) (by omega) (by omega) (by omega)) (rangeSize_downNat _ _) F4 N4 True.intro (by first | ((try dsimp only); (repeat (first | exact List.forall_mem_nil _ | refine fm (by with_unfolding_all exact @rfl _ (some _)) ?_)); done) | kst_all) ?hp ?_ ?_
      case hp => (dsimp only; exact ⟨by simp, by omega, ⟨rfl, b2⟩⟩)
      · refine al4 ?_; intro d9 td9 cm9 tcm9; rintro pre9 i29 ti29 u8 h8 tk8 own9 hi29 hlt9 hoff9 _ pp1 F5 N5; have p0 := pp1.1; have p1' := pp1.2.1; have p2 := pp1.2.2; clear pp1
        (try dsimp only [kstB] at F5); (try dsimp only at p0 p1' p2); (try simp only [List.nil_append, List.cons_append, List.append_nil] at N5); (try dsimp only at hoff9); (try simp only [List.map_cons, List.map_nil] at hoff9)
        clear F4 N4
        replace F5 := fr_loc F5
        replace N5 := news_loc N5
        have q0 : i29 = ((rowOf rows k9.toNat).1.length : Int) - 1 - cm9 := by omega
        have q1 : 0 ≤ i29 := by omega
        have q2 : cm9 < ((rowOf rows k9.toNat).1.length : Int) := by omega
        have q3 : 0 ≤ cm9 := by omega
        (repeat' (first | ((with_reducible refine of_halt ?_); first | (k_end; goal_has PySem.W.KswEnd; (rename News _ _ _ _ => nE'); (try simp only [List.push_toArray] at nE'); (first | refine ksw_end ⟨_, _, _, _, _, _, _, _, _⟩ (by assumption) nE' (by first | exact fun _ hp => hp | kst_in) (by kst_facts) (by first | ((try dsimp only); (repeat (first | exact List.forall_mem_nil _ | refine fm (by with_unfolding_all exact @rfl _ (some _)) ?_)); done) | kst_all) (by first | ((intro z h2 h3); (try dsimp only at h2); (repeat (refine ifn ?_ ?_; first | with_reducible exact h2 (_, _) (by (repeat (first | exact List.mem_cons_self | refine List.mem_cons_of_mem _ ?_))) | exact cnf h3 | exact nst h3 (by decide +kernel))); rfl) | ksw_same) (halt_of ?_) (halt_of ?_) | refine ksw_end ⟨_, _⟩ (by assumption) nE' (by first | exact fun _ hp => hp | kst_in) (by kst_facts) (by first | ((try dsimp only); (repeat (first | exact List.forall_mem_nil _ | refine fm (by with_unfolding_all exact @rfl _ (some _)) ?_)); done) | kst_all) (by first | ((intro z h2 h3); (try dsimp only at h2); (repeat (refine ifn ?_ ?_; first | with_reducible exact h2 (_, _) (by (repeat (first | exact List.mem_cons_self | refine List.mem_cons_of_mem _ ?_))) | exact cnf h3 | exact nst h3 (by decide +kernel))); rfl) | ksw_same) (halt_of ?_) (halt_of ?_))) | (k_end; goal_has PySem.W.InvEndN; (rename News _ _ _ _ => nE'); (try simp only [List.push_toArray] at nE'); (refine kst_end ⟨_, _, _, _⟩ (by assumption) nE' (by first | kst_in | kst_inAny) (by first | (intro p hp; kst_mem) | kst_anyIn) (by rfl) (by kst_facts) (by first | ((try dsimp only); (repeat (first | exact List.forall_mem_nil _ | refine fm (by with_unfolding_all exact @rfl _ (some _)) ?_)); done) | kst_all) (by first | ((intro z h1 h2 h3); (try dsimp only at h2); (repeat (refine ifn ?_ ?_; first | with_reducible exact h1 | with_reducible exact h2 (_, _) (by (repeat (first | exact List.mem_cons_self | refine List.mem_cons_of_mem _ ?_))) | exact cnf h3 | exact nst h3 (by decide +kernel))); rfl) | kst_same) (halt_of ?_))) | (k_end; goal_has Lith.Join; (rename Fr _ _ _ _ => jF); (rename News _ _ _ _ => jN); (try simp only [List.push_toArray] at jN); (refine join_end ⟨_, _, _, _⟩ jF jN (by first | exact fun _ hp => hp | kst_in) (by first | ((try dsimp only); (repeat (first | exact List.forall_mem_nil _ | refine fm (by with_unfolding_all exact @rfl _ (some _)) ?_)); done) | kst_all) (by first | ((intro z h2 h3); (try dsimp only at h2); (repeat (refine ifn ?_ ?_; first | with_reducible exact h2 (_, _) (by (repeat (first | exact List.mem_cons_self | refine List.mem_cons_of_mem _ ?_))) | exact cnf h3 | exact nst h3 (by decide +kernel))); rfl) | ksw_same) (halt_of ?_))) | ((with_reducible show wpAny _ _ (getAttr (Value.ref (amA _ _)) (PySem.Str.ofString "result") _) _ _ _); k_dflt (refine' am_r ?k1 ?k4 ?k2 ?h0 ?h1 ?_; (case k1 | k4 => k_asm); (case k2 => first | assumption | exact AmTab.up (by assumption) (by assumption)); (case h0 | h1 => first | omega | ((try simp only [decide_eq_true_eq, decide_eq_false_iff_not, Bool.not_eq_true] at *); (try simp only [mid_eq]); omega)); k_whole); intro u8 sm8) | ((with_reducible show wpAny _ _ (getAttr (Value.ref (amA _ _)) (PySem.Str.ofString "substring_i") _) _ _ _); k_dflt (refine' am_i ?k1 ?k4 ?k2 ?h0 ?h1 ?_; (case k1 | k4 => k_asm); (case k2 => first | assumption | exact AmTab.up (by assumption) (by assumption)); (case h0 | h1 => first | omega | ((try simp only [decide_eq_true_eq, decide_eq_false_iff_not, Bool.not_eq_true] at *); (try simp only [mid_eq]); omega)); k_whole); intro u8 sm8) | ((with_reducible show wpAny _ _ (getAttr (Value.ref (amA _ _)) (PySem.Str.ofString "s") _) _ _ _); k_dflt (refine' am_s ?k1 ?k4 ?k2 ?h0 ?h1 ?_; (case k1 | k4 => k_asm); (case k2 => first | assumption | exact AmTab.up (by assumption) (by assumption)); (case h0 | h1 => first | omega | ((try simp only [decide_eq_true_eq, decide_eq_false_iff_not, Bool.not_eq_true] at *); (try simp only [mid_eq]); omega)); k_whole); intro u8 sm8) | ((with_reducible show wpAny _ _ (call (Value.builtin "len") [Value.ref _]) _ _ _); k_dflt (refine' len_am ?k1 ?k2 ?_; (case k1 => k_asm); (case k2 => first | assumption | exact AmTab.up (by assumption) (by assumption)); k_whole); intro tk8) | ((with_reducible show wpAny _ _ (subscriptTail _ _ (Value.ref _) (Value.int _ _)) _ _ _); k_dflt (refine' item_am ?k1 ?k2 ?h0 ?h1 ?_; (case k1 => k_asm); (case k2 => first | assumption | exact AmTab.up (by assumption) (by assumption)); (case h0 | h1 => first | omega | ((try simp only [decide_eq_true_eq, decide_eq_false_iff_not, Bool.not_eq_true] at *); (try simp only [mid_eq]); omega)); k_whole)) | ((with_reducible show wpAny _ _ (subscriptTail _ _ (Value.str _ _) (Value.int _ _)) _ _ _); k_dflt (refine' item_chr ?g0 ?g1 ?gS ?_; (case g0 | g1 => ((try simp only [decide_eq_true_eq, decide_eq_false_iff_not, Bool.not_eq_true] at *); omega)); (case gS => assumption); k_whole))) | (k_unfold; (try dsimp only)) | (k_end; kc_close) | walk1 | (dsimp only; walk1)))
        all_goals (refine of_halt ?_; (try dsimp only))
        · exact ⟨q3, by omega, inn_short g0 g3 g4 p2 (by omega) q2⟩
        · exact ⟨q3, by omega, inn_stop g0 g4 p2 q3 (by omega) q2 rfl q0 (by assumption)⟩
        · exact ⟨by (simp only [List.length_append, List.length_cons, List.length_nil]); omega, by omega, inn_step g0 g3 g4 p2 q3 (by omega) q2 rfl q0 (by assumption)⟩
      · refine al4 ?_; intro d9 td9 cm9 tcm9; rintro u8 h8 tk8 _ pp1 F5 N5; have p0 := pp1.1; have p1' := pp1.2.1; have p2 := pp1.2.2; clear pp1
        (try dsimp only [kstB] at F5); (try dsimp only at p0 p1' p2); (try dsimp only at N5)
        clear F4 N4
        replace F5 := fr_loc F5
        replace N5 := news_loc N5
        rw [downKs_length] at p0
        (repeat' (first | ((with_reducible refine of_halt ?_); first | (k_end; goal_has PySem.W.KswEnd; (rename News _ _ _ _ => nE'); (try simp only [List.push_toArray] at nE'); (first | refine ksw_end ⟨_, _, _, _, _, _, _, _, _⟩ (by assumption) nE' (by first | exact fun _ hp => hp | kst_in) (by kst_facts) (by first | ((try dsimp only); (repeat (first | exact List.forall_mem_nil _ | refine fm (by with_unfolding_all exact @rfl _ (some _)) ?_)); done) | kst_all) (by first | ((intro z h2 h3); (try dsimp only at h2); (repeat (refine ifn ?_ ?_; first | with_reducible exact h2 (_, _) (by (repeat (first | exact List.mem_cons_self | refine List.mem_cons_of_mem _ ?_))) | exact cnf h3 | exact nst h3 (by decide +kernel))); rfl) | ksw_same) (halt_of ?_) (halt_of ?_) | refine ksw_end ⟨_, _⟩ (by assumption) nE' (by first | exact fun _ hp => hp | kst_in) (by kst_facts) (by first | ((try dsimp only); (repeat (first | exact List.forall_mem_nil _ | refine fm (by with_unfolding_all exact @rfl _ (some _)) ?_)); done) | kst_all) (by first | ((intro z h2 h3); (try dsimp only at h2); (repeat (refine ifn ?_ ?_; first | with_reducible exact h2 (_, _) (by (repeat (first | exact List.mem_cons_self | refine List.mem_cons_of_mem _ ?_))) | exact cnf h3 | exact nst h3 (by decide +kernel))); rfl) | ksw_same) (halt_of ?_) (halt_of ?_))) | (k_end; goal_has PySem.W.InvEndN; (rename News _ _ _ _ => nE'); (try simp only [List.push_toArray] at nE'); (refine kst_end ⟨_, _, _, _⟩ (by assumption) nE' (by first | kst_in | kst_inAny) (by first | (intro p hp; kst_mem) | kst_anyIn) (by rfl) (by kst_facts) (by first | ((try dsimp only); (repeat (first | exact List.forall_mem_nil _ | refine fm (by with_unfolding_all exact @rfl _ (some _)) ?_)); done) | kst_all) (by first | ((intro z h1 h2 h3); (try dsimp only at h2); (repeat (refine ifn ?_ ?_; first | with_reducible exact h1 | with_reducible exact h2 (_, _) (by (repeat (first | exact List.mem_cons_self | refine List.mem_cons_of_mem _ ?_))) | exact cnf h3 | exact nst h3 (by decide +kernel))); rfl) | kst_same) (halt_of ?_))) | (k_end; goal_has Lith.Join; (rename Fr _ _ _ _ => jF); (rename News _ _ _ _ => jN); (try simp only [List.push_toArray] at jN); (refine join_end ⟨_, _, _, _⟩ jF jN (by first | exact fun _ hp => hp | kst_in) (by first | ((try dsimp only); (repeat (first | exact List.forall_mem_nil _ | refine fm (by with_unfolding_all exact @rfl _ (some _)) ?_)); done) | kst_all) (by first | ((intro z h2 h3); (try dsimp only at h2); (repeat (refine ifn ?_ ?_; first | with_reducible exact h2 (_, _) (by (repeat (first | exact List.mem_cons_self | refine List.mem_cons_of_mem _ ?_))) | exact cnf h3 | exact nst h3 (by decide +kernel))); rfl) | ksw_same) (halt_of ?_))) | ((with_reducible show wpAny _ _ (getAttr (Value.ref (amA _ _)) (PySem.Str.ofString "result") _) _ _ _); k_dflt (refine' am_r ?k1 ?k4 ?k2 ?h0 ?h1 ?_; (case k1 | k4 => k_asm); (case k2 => first | assumption | exact AmTab.up (by assumption) (by assumption)); (case h0 | h1 => first | omega | ((try simp only [decide_eq_true_eq, decide_eq_false_iff_not, Bool.not_eq_true] at *); (try simp only [mid_eq]); omega)); k_whole); intro u8 sm8) | ((with_reducible show wpAny _ _ (getAttr (Value.ref (amA _ _)) (PySem.Str.ofString "substring_i") _) _ _ _); k_dflt (refine' am_i ?k1 ?k4 ?k2 ?h0 ?h1 ?_; (case k1 | k4 => k_asm); (case k2 => first | assumption | exact AmTab.up (by assumption) (by assumption)); (case h0 | h1 => first | omega | ((try simp only [decide_eq_true_eq, decide_eq_false_iff_not, Bool.not_eq_true] at *); (try simp only [mid_eq]); omega)); k_whole); intro u8 sm8) | ((with_reducible show wpAny _ _ (getAttr (Value.ref (amA _ _)) (PySem.Str.ofString "s") _) _ _ _); k_dflt (refine' am_s ?k1 ?k4 ?k2 ?h0 ?h1 ?_; (case k1 | k4 => k_asm); (case k2 => first | assumption | exact AmTab.up (by assumption) (by assumption)); (case h0 | h1 => first | omega | ((try simp only [decide_eq_true_eq, decide_eq_false_iff_not, Bool.not_eq_true] at *); (try simp only [mid_eq]); omega)); k_whole); intro u8 sm8) | ((with_reducible show wpAny _ _ (call (Value.builtin "len") [Value.ref _]) _ _ _); k_dflt (refine' len_am ?k1 ?k2 ?_; (case k1 => k_asm); (case k2 => first | assumption | exact AmTab.up (by assumption) (by assumption)); k_whole); intro tk8) | ((with_reducible show wpAny _ _ (subscriptTail _ _ (Value.ref _) (Value.int _ _)) _ _ _); k_dflt (refine' item_am ?k1 ?k2 ?h0 ?h1 ?_; (case k1 => k_asm); (case k2 => first | assumption | exact AmTab.up (by assumption) (by assumption)); (case h0 | h1 => first | omega | ((try simp only [decide_eq_true_eq, decide_eq_false_iff_not, Bool.not_eq_true] at *); (try simp only [mid_eq]); omega)); k_whole)) | ((with_reducible show wpAny _ _ (subscriptTail _ _ (Value.str _ _) (Value.int _ _)) _ _ _); k_dflt (refine' item_chr ?g0 ?g1 ?gS ?_; (case g0 | g1 => ((try simp only [decide_eq_true_eq, decide_eq_false_iff_not, Bool.not_eq_true] at *); omega)); (case gS => assumption); k_whole))) | (k_unfold; (try dsimp only)) | (k_end; kc_close) | walk1 | (dsimp only; walk1)))
        all_goals (refine of_halt ?_; (try dsimp only))
        exact ⟨by omega, by omega, inn_end p2 (by omega)⟩
    · refine al4 ?_; intro d9 td9 cm9 tcm9; rintro u8 h8 tk8 pp1 F5 N5; have p0 := pp1.1; have p1' := pp1.2.1; have p2 := pp1.2.2; clear pp1
      (try dsimp only [kstB] at F5); (try dsimp only at p0 p1' p2); (try dsimp only at N5)
      have sm9 : SrchM (tl S lb c) rows (c - lb) i9 j9 k9 cm9 d9 := ⟨b0, b1, b5, hk9, p0, p1', p2⟩
      (repeat' (first | ((with_reducible refine of_halt ?_); first | (k_end; goal_has PySem.W.KswEnd; (rename News _ _ _ _ => nE'); (try simp only [List.push_toArray] at nE'); (first | refine ksw_end ⟨_, _, _, _, _, _, _, _, _⟩ (by assumption) nE' (by first | exact fun _ hp => hp | kst_in) (by kst_facts) (by first | ((try dsimp only); (repeat (first | exact List.forall_mem_nil _ | refine fm (by with_unfolding_all exact @rfl _ (some _)) ?_)); done) | kst_all) (by first | ((intro z h2 h3); (try dsimp only at h2); (repeat (refine ifn ?_ ?_; first | with_reducible exact h2 (_, _) (by (repeat (first | exact List.mem_cons_self | refine List.mem_cons_of_mem _ ?_))) | exact cnf h3 | exact nst h3 (by decide +kernel))); rfl) | ksw_same) (halt_of ?_) (halt_of ?_) | refine ksw_end ⟨_, _⟩ (by assumption) nE' (by first | exact fun _ hp => hp | kst_in) (by kst_facts) (by first | ((try dsimp only); (repeat (first | exact List.forall_mem_nil _ | refine fm (by with_unfolding_all exact @rfl _ (some _)) ?_)); done) | kst_all) (by first | ((intro z h2 h3); (try dsimp only at h2); (repeat (refine ifn ?_ ?_; first | with_reducible exact h2 (_, _) (by (repeat (first | exact List.mem_cons_self | refine List.mem_cons_of_mem _ ?_))) | exact cnf h3 | exact nst h3 (by decide +kernel))); rfl) | ksw_same) (halt_of ?_) (halt_of ?_))) | (k_end; goal_has PySem.W.InvEndN; (rename News _ _ _ _ => nE'); (try simp only [List.push_toArray] at nE'); (refine kst_end ⟨_, _, _, _⟩ (by assumption) nE' (by first | kst_in | kst_inAny) (by first | (intro p hp; kst_mem) | kst_anyIn) (by rfl) (by kst_facts) (by first | ((try dsimp only); (repeat (first | exact List.forall_mem_nil _ | refine fm (by with_unfolding_all exact @rfl _ (some _)) ?_)); done) | kst_all) (by first | ((intro z h1 h2 h3); (try dsimp only at h2); (repeat (refine ifn ?_ ?_; first | with_reducible exact h1 | with_reducible exact h2 (_, _) (by (repeat (first | exact List.mem_cons_self | refine List.mem_cons_of_mem _ ?_))) | exact cnf h3 | exact nst h3 (by decide +kernel))); rfl) | kst_same) (halt_of ?_))) | (k_end; goal_has Lith.Join; (rename Fr _ _ _ _ => jF); (rename News _ _ _ _ => jN); (try simp only [List.push_toArray] at jN); (refine join_end ⟨_, _, _, _⟩ jF jN (by first | exact fun _ hp => hp | kst_in) (by first | ((try dsimp only); (repeat (first | exact List.forall_mem_nil _ | refine fm (by with_unfolding_all exact @rfl _ (some _)) ?_)); done) | kst_all) (by first | ((intro z h2 h3); (try dsimp only at h2); (repeat (refine ifn ?_ ?_; first | with_reducible exact h2 (_, _) (by (repeat (first | exact List.mem_cons_self | refine List.mem_cons_of_mem _ ?_))) | exact cnf h3 | exact nst h3 (by decide +kernel))); rfl) | ksw_same) (halt_of ?_))) | ((with_reducible show wpAny _ _ (getAttr (Value.ref (amA _ _)) (PySem.Str.ofString "result") _) _ _ _); k_dflt (refine' am_r ?k1 ?k4 ?k2 ?h0 ?h1 ?_; (case k1 | k4 => k_asm); (case k2 => first | assumption | exact AmTab.up (by assumption) (by assumption)); (case h0 | h1 => first | omega | ((try simp only [decide_eq_true_eq, decide_eq_false_iff_not, Bool.not_eq_true] at *); (try simp only [mid_eq]); omega)); k_whole); intro u8 sm8) | ((with_reducible show wpAny _ _ (getAttr (Value.ref (amA _ _)) (PySem.Str.ofString "substring_i") _) _ _ _); k_dflt (refine' am_i ?k1 ?k4 ?k2 ?h0 ?h1 ?_; (case k1 | k4 => k_asm); (case k2 => first | assumption | exact AmTab.up (by assumption) (by assumption)); (case h0 | h1 => first | omega | ((try simp only [decide_eq_true_eq, decide_eq_false_iff_not, Bool.not_eq_true] at *); (try simp only [mid_eq]); omega)); k_whole); intro u8 sm8) | ((with_reducible show wpAny _ _ (getAttr (Value.ref (amA _ _)) (PySem.Str.ofString "s") _) _ _ _); k_dflt (refine' am_s ?k1 ?k4 ?k2 ?h0 ?h1 ?_; (case k1 | k4 => k_asm); (case k2 => first | assumption | exact AmTab.up (by assumption) (by assumption)); (case h0 | h1 => first | omega | ((try simp only [decide_eq_true_eq, decide_eq_false_iff_not, Bool.not_eq_true] at *); (try simp only [mid_eq]); omega)); k_whole); intro u8 sm8) | ((with_reducible show wpAny _ _ (call (Value.builtin "len") [Value.ref _]) _ _ _); k_dflt (refine' len_am ?k1 ?k2 ?_; (case k1 => k_asm); (case k2 => first | assumption | exact AmTab.up (by assumption) (by assumption)); k_whole); intro tk8) | ((with_reducible show wpAny _ _ (subscriptTail _ _ (Value.ref _) (Value.int _ _)) _ _ _); k_dflt (refine' item_am ?k1 ?k2 ?h0 ?h1 ?_; (case k1 => k_asm); (case k2 => first | assumption | exact AmTab.up (by assumption) (by assumption)); (case h0 | h1 => first | omega | ((try simp only [decide_eq_true_eq, decide_eq_false_iff_not, Bool.not_eq_true] at *); (try simp only [mid_eq]); omega)); k_whole)) | ((with_reducible show wpAny _ _ (subscriptTail _ _ (Value.str _ _) (Value.int _ _)) _ _ _); k_dflt (refine' item_chr ?g0 ?g1 ?gS ?_; (case g0 | g1 => ((try simp only [decide_eq_true_eq, decide_eq_false_iff_not, Bool.not_eq_true] at *); omega)); (case gS => assumption); k_whole))) | (k_unfold; (try dsimp only)) | (k_end; kc_close) | walk1 | (dsimp only; walk1)))
      all_goals (refine of_halt ?_; (try dsimp only))
      all_goals first
        | exact sw_e1 TO sw9 sm9 (by assumption) (by assumption) (by assumption)
        | exact sw_e2 TO sw9 sm9 (by assumption) (by assumption) (by assumption)
        | exact sw_e3 sw9 sm9 (by assumption) (by assumption) (by assumption)
        | exact sw_e4 TO sw9 sm9 (by assumption) (by assumption) (by assumption)
        | exact sw_e5 sm9 (by assumption)
        | exact sw_e6 TO sw9 sm9 (by assumption) (by assumption) (by assumption)
        | exact sw_e7 sw9 sm9 (by assumption) (by assumption) (by assumption) (by assumption)
        | exact sw_e8 sw9 sm9 (by assumption) (by assumption)
        | exact sw_e9 sw9 sm9 (by assumption) (by assumption)
        | exact sw_e10 sw9 sm9 (by assumption) (by assumption)
        | exact sw_m1 sm9
        | exact sw_m2 sm9 sw9 (by assumption)
  · refine al4 ?_; intro i9 ti9 ci9 tci9; rintro u8 h8 tk8 p0 F5 N5
    (try dsimp only [kstB] at F5); (try dsimp only at p0); (try dsimp only at N5)
    clear F1 N1
    (repeat' (first | ((with_reducible refine of_halt ?_); first | (k_end; goal_has PySem.W.KswEnd; (rename News _ _ _ _ => nE'); (try simp only [List.push_toArray] at nE'); (first | refine ksw_end ⟨_, _, _, _, _, _, _, _, _⟩ (by assumption) nE' (by first | exact fun _ hp => hp | kst_in) (by kst_facts) (by first | ((try dsimp only); (repeat (first | exact List.forall_mem_nil _ | refine fm (by with_unfolding_all exact @rfl _ (some _)) ?_)); done) | kst_all) (by first | ((intro z h2 h3); (try dsimp only at h2); (repeat (refine ifn ?_ ?_; first | with_reducible exact h2 (_, _) (by (repeat (first | exact List.mem_cons_self | refine List.mem_cons_of_mem _ ?_))) | exact cnf h3 | exact nst h3 (by decide +kernel))); rfl) | ksw_same) (halt_of ?_) (halt_of ?_) | refine ksw_end ⟨_, _⟩ (by assumption) nE' (by first | exact fun _ hp => hp | kst_in) (by kst_facts) (by first | ((try dsimp only); (repeat (first | exact List.forall_mem_nil _ | refine fm (by with_unfolding_all exact @rfl _ (some _)) ?_)); done) | kst_all) (by first | ((intro z h2 h3); (try dsimp only at h2); (repeat (refine ifn ?_ ?_; first | with_reducible exact h2 (_, _) (by (repeat (first | exact List.mem_cons_self | refine List.mem_cons_of_mem _ ?_))) | exact cnf h3 | exact nst h3 (by decide +kernel))); rfl) | ksw_same) (halt_of ?_) (halt_of ?_))) | (k_end; goal_has PySem.W.InvEndN; (rename News _ _ _ _ => nE'); (try simp only [List.push_toArray] at nE'); (refine kst_end ⟨_, _, _, _⟩ (by assumption) nE' (by first | kst_in | kst_inAny) (by first | (intro p hp; kst_mem) | kst_anyIn) (by rfl) (by kst_facts) (by first | ((try dsimp only); (repeat (first | exact List.forall_mem_nil _ | refine fm (by with_unfolding_all exact @rfl _ (some _)) ?_)); done) | kst_all) (by first | ((intro z h1 h2 h3); (try dsimp only at h2); (repeat (refine ifn ?_ ?_; first | with_reducible exact h1 | with_reducible exact h2 (_, _) (by (repeat (first | exact List.mem_cons_self | refine List.mem_cons_of_mem _ ?_))) | exact cnf h3 | exact nst h3 (by decide +kernel))); rfl) | kst_same) (halt_of ?_))) | (k_end; goal_has Lith.Join; (rename Fr _ _ _ _ => jF); (rename News _ _ _ _ => jN); (try simp only [List.push_toArray] at jN); (refine join_end ⟨_, _, _, _⟩ jF jN (by first | exact fun _ hp => hp | kst_in) (by first | ((try dsimp only); (repeat (first | exact List.forall_mem_nil _ | refine fm (by with_unfolding_all exact @rfl _ (some _)) ?_)); done) | kst_all) (by first | ((intro z h2 h3); (try dsimp only at h2); (repeat (refine ifn ?_ ?_; first | with_reducible exact h2 (_, _) (by (repeat (first | exact List.mem_cons_self | refine List.mem_cons_of_mem _ ?_))) | exact cnf h3 | exact nst h3 (by decide +kernel))); rfl) | ksw_same) (halt_of ?_))) | ((with_reducible show wpAny _ _ (getAttr (Value.ref (amA _ _)) (PySem.Str.ofString "result") _) _ _ _); k_dflt (refine' am_r ?k1 ?k4 ?k2 ?h0 ?h1 ?_; (case k1 | k4 => k_asm); (case k2 => first | assumption | exact AmTab.up (by assumption) (by assumption)); (case h0 | h1 => first | omega | ((try simp only [decide_eq_true_eq, decide_eq_false_iff_not, Bool.not_eq_true] at *); (try simp only [mid_eq]); omega)); k_whole); intro u8 sm8) | ((with_reducible show wpAny _ _ (getAttr (Value.ref (amA _ _)) (PySem.Str.ofString "substring_i") _) _ _ _); k_dflt (refine' am_i ?k1 ?k4 ?k2 ?h0 ?h1 ?_; (case k1 | k4 => k_asm); (case k2 => first | assumption | exact AmTab.up (by assumption) (by assumption)); (case h0 | h1 => first | omega | ((try simp only [decide_eq_true_eq, decide_eq_false_iff_not, Bool.not_eq_true] at *); (try simp only [mid_eq]); omega)); k_whole); intro u8 sm8) | ((with_reducible show wpAny _ _ (getAttr (Value.ref (amA _ _)) (PySem.Str.ofString "s") _) _ _ _); k_dflt (refine' am_s ?k1 ?k4 ?k2 ?h0 ?h1 ?_; (case k1 | k4 => k_asm); (case k2 => first | assumption | exact AmTab.up (by assumption) (by assumption)); (case h0 | h1 => first | omega | ((try simp only [decide_eq_true_eq, decide_eq_false_iff_not, Bool.not_eq_true] at *); (try simp only [mid_eq]); omega)); k_whole); intro u8 sm8) | ((with_reducible show wpAny _ _ (call (Value.builtin "len") [Value.ref _]) _ _ _); k_dflt (refine' len_am ?k1 ?k2 ?_; (case k1 => k_asm); (case k2 => first | assumption | exact AmTab.up (by assumption) (by assumption)); k_whole); intro tk8) | ((with_reducible show wpAny _ _ (subscriptTail _ _ (Value.ref _) (Value.int _ _)) _ _ _); k_dflt (refine' item_am ?k1 ?k2 ?h0 ?h1 ?_; (case k1 => k_asm); (case k2 => first | assumption | exact AmTab.up (by assumption) (by assumption)); (case h0 | h1 => first | omega | ((try simp only [decide_eq_true_eq, decide_eq_false_iff_not, Bool.not_eq_true] at *); (try simp only [mid_eq]); omega)); k_whole)) | ((with_reducible show wpAny _ _ (subscriptTail _ _ (Value.str _ _) (Value.int _ _)) _ _ _); k_dflt (refine' item_chr ?g0 ?g1 ?gS ?_; (case g0 | g1 => ((try simp only [decide_eq_true_eq, decide_eq_false_iff_not, Bool.not_eq_true] at *); omega)); (case gS => assumption); k_whole))) | (k_unfold; (try dsimp only)) | (k_end; kc_close) | walk1 | (dsimp only; walk1)))
    refine of_halt ?_
    rename Fr _ _ _ _ => F6
    rename News _ _ _ _ => N6
    (try dsimp only at F6)
    have ch := chn_of TO p0
    refine ksw_while (σ := Int × Nat) (fun _ => _) (fun c9 => [(Str.ofString "i", .int c9.1 c9.2)]) (fun _ => True) [Str.ofString "w"] (fun c9 => Chn (tl S lb c) rows c9.1 ci9) (fun c9 => c9.1.toNat) ⟨_, _⟩ F6 N6 True.intro (by first | ((try dsimp only); (repeat (first | exact List.forall_mem_nil _ | refine fm (by with_unfolding_all exact @rfl _ (some _)) ?_)); done) | kst_all) ch ?_
    refine al2 ?_; intro i8 ti8; rintro u9 h9 tk9 _ a0 F2 N2
    (try dsimp only [kstB] at F2); (try dsimp only at N2); (try dsimp only at a0)
    clear F6 N6 ch p0
    have z0 := a0.i0
    have z1 := a0.i1
    (repeat' (first | ((with_reducible refine of_halt ?_); first | (k_end; goal_has PySem.W.KswEnd; (rename News _ _ _ _ => nE'); (try simp only [List.push_toArray] at nE'); (first | refine ksw_end ⟨_, _, _, _, _, _, _, _, _⟩ (by assumption) nE' (by first | exact fun _ hp => hp | kst_in) (by kst_facts) (by first | ((try dsimp only); (repeat (first | exact List.forall_mem_nil _ | refine fm (by with_unfolding_all exact @rfl _ (some _)) ?_)); done) | kst_all) (by first | ((intro z h2 h3); (try dsimp only at h2); (repeat (refine ifn ?_ ?_; first | with_reducible exact h2 (_, _) (by (repeat (first | exact List.mem_cons_self | refine List.mem_cons_of_mem _ ?_))) | exact cnf h3 | exact nst h3 (by decide +kernel))); rfl) | ksw_same) (halt_of ?_) (halt_of ?_) | refine ksw_end ⟨_, _⟩ (by assumption) nE' (by first | exact fun _ hp => hp | kst_in) (by kst_facts) (by first | ((try dsimp only); (repeat (first | exact List.forall_mem_nil _ | refine fm (by with_unfolding_all exact @rfl _ (some _)) ?_)); done) | kst_all) (by first | ((intro z h2 h3); (try dsimp only at h2); (repeat (refine ifn ?_ ?_; first | with_reducible exact h2 (_, _) (by (repeat (first | exact List.mem_cons_self | refine List.mem_cons_of_mem _ ?_))) | exact cnf h3 | exact nst h3 (by decide +kernel))); rfl) | ksw_same) (halt_of ?_) (halt_of ?_))) | (k_end; goal_has PySem.W.InvEndN; (rename News _ _ _ _ => nE'); (try simp only [List.push_toArray] at nE'); (refine kst_end ⟨_, _, _, _⟩ (by assumption) nE' (by first | kst_in | kst_inAny) (by first | (intro p hp; kst_mem) | kst_anyIn) (by rfl) (by kst_facts) (by first | ((try dsimp only); (repeat (first | exact List.forall_mem_nil _ | refine fm (by with_unfolding_all exact @rfl _ (some _)) ?_)); done) | kst_all) (by first | ((intro z h1 h2 h3); (try dsimp only at h2); (repeat (refine ifn ?_ ?_; first | with_reducible exact h1 | with_reducible exact h2 (_, _) (by (repeat (first | exact List.mem_cons_self | refine List.mem_cons_of_mem _ ?_))) | exact cnf h3 | exact nst h3 (by decide +kernel))); rfl) | kst_same) (halt_of ?_))) | (k_end; goal_has Lith.Join; (rename Fr _ _ _ _ => jF); (rename News _ _ _ _ => jN); (try simp only [List.push_toArray] at jN); (refine join_end ⟨_, _, _, _⟩ jF jN (by first | exact fun _ hp => hp | kst_in) (by first | ((try dsimp only); (repeat (first | exact List.forall_mem_nil _ | refine fm (by with_unfolding_all exact @rfl _ (some _)) ?_)); done) | kst_all) (by first | ((intro z h2 h3); (try dsimp only at h2); (repeat (refine ifn ?_ ?_; first | with_reducible exact h2 (_, _) (by (repeat (first | exact List.mem_cons_self | refine List.mem_cons_of_mem _ ?_))) | exact cnf h3 | exact nst h3 (by decide +kernel))); rfl) | ksw_same) (halt_of ?_))) | ((with_reducible show wpAny _ _ (getAttr (Value.ref (amA _ _)) (PySem.Str.ofString "result") _) _ _ _); k_dflt (refine' am_r ?k1 ?k4 ?k2 ?h0 ?h1 ?_; (case k1 | k4 => k_asm); (case k2 => first | assumption | exact AmTab.up (by assumption) (by assumption)); (case h0 | h1 => first | omega | ((try simp only [decide_eq_true_eq, decide_eq_false_iff_not, Bool.not_eq_true] at *); (try simp only [mid_eq]); omega)); k_whole); intro u8 sm8) | ((with_reducible show wpAny _ _ (getAttr (Value.ref (amA _ _)) (PySem.Str.ofString "substring_i") _) _ _ _); k_dflt (refine' am_i ?k1 ?k4 ?k2 ?h0 ?h1 ?_; (case k1 | k4 => k_asm); (case k2 => first | assumption | exact AmTab.up (by assumption) (by assumption)); (case h0 | h1 => first | omega | ((try simp only [decide_eq_true_eq, decide_eq_false_iff_not, Bool.not_eq_true] at *); (try simp only [mid_eq]); omega)); k_whole); intro u8 sm8) | ((with_reducible show wpAny _ _ (getAttr (Value.ref (amA _ _)) (PySem.Str.ofString "s") _) _ _ _); k_dflt (refine' am_s ?k1 ?k4 ?k2 ?h0 ?h1 ?_; (case k1 | k4 => k_asm); (case k2 => first | assumption | exact AmTab.up (by assumption) (by assumption)); (case h0 | h1 => first | omega | ((try simp only [decide_eq_true_eq, decide_eq_false_iff_not, Bool.not_eq_true] at *); (try simp only [mid_eq]); omega)); k_whole); intro u8 sm8) | ((with_reducible show wpAny _ _ (call (Value.builtin "len") [Value.ref _]) _ _ _); k_dflt (refine' len_am ?k1 ?k2 ?_; (case k1 => k_asm); (case k2 => first | assumption | exact AmTab.up (by assumption) (by assumption)); k_whole); intro tk8) | ((with_reducible show wpAny _ _ (subscriptTail _ _ (Value.ref _) (Value.int _ _)) _ _ _); k_dflt (refine' item_am ?k1 ?k2 ?h0 ?h1 ?_; (case k1 => k_asm); (case k2 => first | assumption | exact AmTab.up (by assumption) (by assumption)); (case h0 | h1 => first | omega | ((try simp only [decide_eq_true_eq, decide_eq_false_iff_not, Bool.not_eq_true] at *); (try simp only [mid_eq]); omega)); k_whole)) | ((with_reducible show wpAny _ _ (subscriptTail _ _ (Value.str _ _) (Value.int _ _)) _ _ _); k_dflt (refine' item_chr ?g0 ?g1 ?gS ?_; (case g0 | g1 => ((try simp only [decide_eq_true_eq, decide_eq_false_iff_not, Bool.not_eq_true] at *); omega)); (case gS => assumption); k_whole))) | (k_unfold; (try dsimp only)) | (k_end; kc_close) | walk1 | (dsimp only; walk1)))
    all_goals (first | (refine of_halt ?_; (try dsimp only)) | skip)
    · refine' ret _ _ _ _ _ _ _ _ _ _ _ _ _ _ _ _ _ ?cF ?cN ?cR; (case cF | cN => k_asm); (case cR => exact ⟨rfl, rfl, rfl, rfl, rfl, rfl, .inl ⟨i8, _, z0, z1, (chn_hit TO a0).mpr (by assumption), a0.all, rfl, rfl⟩⟩)
    · refine' ret _ _ _ _ _ _ _ _ _ _ _ _ _ _ _ _ _ ?cF ?cN ?cR; (case cF | cN => k_asm); (case cR => exact ⟨rfl, rfl, rfl, rfl, rfl, rfl, .inr ⟨_, chn_none TO a0 (by assumption) (by assumption), rfl, rfl⟩⟩)
    · exact chn_step TO a0 (by assumption) (by assumption)
    · have := TO.sub_lt i8 z0 z1; omega
  
end Lith
end
section
open PySem PySem.W PyProof.Rows PySem.Calls
set_option Elab.async false
set_option maxRecDepth 100000
namespace Lith
/-- a text's signs, the last first -/
noncomputable def rv (S : Str) : List Nat := S.cps.toList.reverse
abbrev Keys := List (List Nat × Int)
noncomputable def keysOf (rows : List AmRow) : Keys := rows.map (fun r => (rv r.1, r.2.2))
/-- the longest key that t begins with: its length, its result -/
noncomputable def bestF (t : List Nat) (b : Nat × Int) (k : List Nat × Int) : Nat × Int := if k.1.isPrefixOf t && Nat.blt b.1 k.1.length then (k.1.length, k.2) else b
noncomputable def bestK (ks : Keys) (t : List Nat) : Nat × Int := ks.foldl (bestF t) (0, 0)

theorem isPre {a t : List Nat} : a.isPrefixOf t = true ↔ a <+: t := List.isPrefixOf_iff_prefix
theorem best_inv {t : List Nat} : ∀ (ks : Keys) (b : Nat × Int), (bestF t b) = (bestF t b) → b.1 ≤ (ks.foldl (bestF t) b).1 ∧ (∀ k ∈ ks, k.1 <+: t → k.1.length ≤ (ks.foldl (bestF t) b).1) ∧ (ks.foldl (bestF t) b = b ∨ ∃ k ∈ ks, k.1 <+: t ∧ ks.foldl (bestF t) b = (k.1.length, k.2))
  | [], b, _ => ⟨Nat.le_refl _, (fun k h => nomatch h), .inl rfl⟩
  | k :: ks, b, _ => by
    rw [List.foldl_cons]
    obtain ⟨h1, h2, h3⟩ := best_inv (t := t) ks (bestF t b k) rfl
    have hb : b.1 ≤ (bestF t b k).1 ∧ (k.1 <+: t → k.1.length ≤ (bestF t b k).1) ∧ (bestF t b k = b ∨ (k.1 <+: t ∧ bestF t b k = (k.1.length, k.2))) := by
      unfold bestF
      split
      · rename_i q
        rw [Bool.and_eq_true, isPre, Nat.blt_eq] at q
        exact ⟨by dsimp only; omega, fun _ => Nat.le_refl _, .inr ⟨q.1, rfl⟩⟩
      · rename_i q
        refine ⟨Nat.le_refl _, fun p => ?_, .inl rfl⟩
        rw [Bool.and_eq_true, isPre, Nat.blt_eq] at q
        exact Nat.le_of_not_lt fun x => q ⟨p, x⟩
    refine ⟨Nat.le_trans hb.1 h1, ?_, ?_⟩
    · intro x hx p
      rcases List.mem_cons.mp hx with rfl | hx
      · exact Nat.le_trans (hb.2.1 p) h1
      · exact h2 x hx p
    · rcases h3 with h3 | ⟨x, hx, p, e⟩
      · rcases hb.2.2 with e | ⟨p, e⟩
        · exact .inl (h3.trans e)
        · exact .inr ⟨k, .head _, p, h3.trans e⟩
      · exact .inr ⟨x, .tail _ hx, p, e⟩
theorem best_spec (ks : Keys) (t : List Nat) : (∀ k ∈ ks, k.1 <+: t → k.1.length ≤ (bestK ks t).1) ∧ (bestK ks t = (0, 0) ∨ ∃ k ∈ ks, k.1 <+: t ∧ bestK ks t = (k.1.length, k.2)) :=
  let ⟨_, b, c⟩ := best_inv (t := t) ks (0, 0) rfl
  ⟨b, c⟩
theorem pre_same {a b t : List Nat} (h1 : a <+: t) (h2 : b <+: t) (e : a.length = b.length) : a = b := by
  obtain ⟨x, rfl⟩ := h1
  obtain ⟨y, hy⟩ := h2
  exact (List.append_inj hy.symm e).1
theorem mem_keys {rows : List AmRow} {k : List Nat × Int} (h : k ∈ keysOf rows) : ∃ i : Int, 0 ≤ i ∧ i < (rows.length : Int) ∧ k = (key rows i, (rowOf rows i.toNat).2.2) := by
  obtain ⟨r, hr, rfl⟩ := List.mem_map.mp h
  obtain ⟨n, hn, rfl⟩ := List.mem_iff_getElem.mp hr
  refine ⟨n, by omega, by omega, ?_⟩
  have e : rowOf rows ((n : Int)).toNat = rows[n] := by
    show rows.getD n _ = _
    rw [List.getD_eq_getElem?_getD, List.getElem?_eq_getElem hn]; rfl
  unfold key rv
  rw [e]
theorem keys_mem {rows : List AmRow} {i : Int} (h0 : 0 ≤ i) (h1 : i < (rows.length : Int)) : (key rows i, (rowOf rows i.toNat).2.2) ∈ keysOf rows := by
  have hn : i.toNat < rows.length := by omega
  have e : rowOf rows i.toNat = rows[i.toNat] := by
    show rows.getD i.toNat _ = _
    rw [List.getD_eq_getElem?_getD, List.getElem?_eq_getElem hn]; rfl
  refine List.mem_map.mpr ⟨rows[i.toNat], List.getElem_mem hn, ?_⟩
  unfold key rv
  rw [e]
theorem find_best {t : List Nat} {rows : List AmRow} {c c' : Int} {v : Value} (T : TabOk rows) (H : FindR t rows c c' v) : c' = c - ((bestK (keysOf rows) t).1 : Int) ∧ ∃ tk, v = .int (bestK (keysOf rows) t).2 tk := by
  obtain ⟨b1, b2⟩ := best_spec (keysOf rows) t
  rcases H with ⟨k, tk, k0, k1, hp, mx, rfl, rfl⟩ | ⟨tk, hn, rfl, rfl⟩
  · have m := keys_mem (rows := rows) k0 k1
    have le := b1 _ m hp
    dsimp only at le
    have f := T.full k k0 k1
    rw [← key_len] at f
    rcases b2 with e | ⟨x, hx, px, e⟩
    · rw [e] at le; dsimp only at le; omega
    · obtain ⟨i, i0, i1, rfl⟩ := mem_keys hx
      have le2 := (mx i i0 i1 px).length_le
      rw [e] at le; dsimp only at le
      have same : key rows i = key rows k := pre_same px hp (by omega)
      have ik : i = k := by
        rcases Int.lt_trichotomy i k with h | h | h
        · have := T.sorted i k i0 h k1; rw [same, less_irr] at this; exact absurd this (by decide)
        · exact h
        · have := T.sorted k i k0 h i1; rw [same, less_irr] at this; exact absurd this (by decide)
      subst ik
      rw [e, key_len]
      exact ⟨rfl, tk, rfl⟩
  · rcases b2 with e | ⟨x, hx, px, e⟩
    · rw [e]; exact ⟨by simp, tk, rfl⟩
    · obtain ⟨i, i0, i1, rfl⟩ := mem_keys hx
      exact absurd px (hn i i0 i1)

-- the tables
theorem less_trans {a b c : List Nat} (h1 : less a b = true) (h2 : less b c = true) : less a c = true := less_le h1 (less_asym h2)
noncomputable def chk : List (List Nat) → Bool
  | a :: b :: r => less a b && chk (b :: r)
  | _ => true
theorem chk_lt : ∀ {l : List (List Nat)}, chk l = true → ∀ {i j : Nat} {a b : List Nat}, i < j → l[i]? = some a → l[j]? = some b → less a b = true
  | [], _, i, j, a, b, _, h, _ => by simp at h
  | [x], _, i, j, a, b, hij, h, g => by
    cases j with
    | zero => omega
    | succ j => simp at g
  | x :: y :: r, hc, i, j, a, b, hij, h, g => by
    unfold chk at hc
    rw [Bool.and_eq_true] at hc
    cases j with
    | zero => omega
    | succ j =>
      rw [List.getElem?_cons_succ] at g
      cases i with
      | zero =>
        simp at h
        subst h
        cases j with
        | zero => simp at g; subst g; exact hc.1
        | succ j => exact less_trans hc.1 (chk_lt hc.2 (i := 0) (j := j + 1) (by omega) (by simp) g)
      | succ i =>
        rw [List.getElem?_cons_succ] at h
        exact chk_lt hc.2 (by omega) h g
/-- the rows: key, place of the longest key within -/
abbrev Rw := List (List Nat × Int)
noncomputable def subRow (l : Rw) (k : Nat) (e : List Nat × Int) : Bool :=
  match e.2 with
  | .ofNat x => Nat.blt x k && (match l[x]? with
    | some q => q.1.isPrefixOf e.1 && ((l.drop (x + 1)).take (k - x - 1)).all (fun r => !r.1.isPrefixOf e.1)
    | none => false)
  | .negSucc _ => (l.take k).all (fun r => !r.1.isPrefixOf e.1)
noncomputable def subAll (l : Rw) : Nat → Rw → Bool
  | _, [] => true
  | k, e :: r => subRow l k e && (e.1.length.ble 0 == false) && subAll l (k + 1) r
theorem subAll_at {l : Rw} : ∀ {r : Rw} {k : Nat}, subAll l k r = true → ∀ {i : Nat} {e : List Nat × Int}, r[i]? = some e → subRow l (k + i) e = true ∧ 1 ≤ e.1.length
  | [], _, _, i, e, h => by simp at h
  | x :: r, k, hc, i, e, h => by
    unfold subAll at hc
    rw [Bool.and_eq_true, Bool.and_eq_true] at hc
    cases i with
    | zero =>
      simp at h; subst h
      refine ⟨hc.1.1, ?_⟩
      have := hc.1.2
      cases q : x.1.length with
      | zero => rw [q] at this; simp at this
      | succ n => omega
    | succ i =>
      rw [List.getElem?_cons_succ] at h
      have := subAll_at hc.2 h
      rw [show k + 1 + i = k + (i + 1) by omega] at this
      exact this
noncomputable def rwOf (rows : List AmRow) : Rw := rows.map (fun r => (rv r.1, r.2.1))
theorem rw_at {rows : List AmRow} {a : Int} (h0 : 0 ≤ a) (h1 : a < (rows.length : Int)) : (rwOf rows)[a.toNat]? = some (key rows a, (rowOf rows a.toNat).2.1) := by
  have hn : a.toNat < rows.length := by omega
  have e : rowOf rows a.toNat = rows[a.toNat] := by
    show rows.getD a.toNat _ = _
    rw [List.getD_eq_getElem?_getD, List.getElem?_eq_getElem hn]; rfl
  unfold rwOf key rv
  rw [List.getElem?_map, List.getElem?_eq_getElem hn, e]
  rfl
theorem tabOk_of {rows : List AmRow} (two : Nat.ble 2 rows.length = true) (hs : chk ((rwOf rows).map (·.1)) = true) (hx : subAll (rwOf rows) 0 (rwOf rows) = true) : TabOk rows := by
  have so : ∀ a b : Int, 0 ≤ a → a < b → b < (rows.length : Int) → less (key rows a) (key rows b) = true := by
    intro a b h0 h1 h2
    refine chk_lt hs (i := a.toNat) (j := b.toNat) (by omega) ?_ ?_
    · rw [List.getElem?_map, rw_at h0 (by omega)]; rfl
    · rw [List.getElem?_map, rw_at (by omega) h2]; rfl
  have sb : ∀ a : Int, 0 ≤ a → a < (rows.length : Int) → subRow (rwOf rows) a.toNat (key rows a, (rowOf rows a.toNat).2.1) = true ∧ 1 ≤ (key rows a).length := by
    intro a h0 h1
    have := subAll_at hx (rw_at h0 h1)
    rw [Nat.zero_add] at this
    exact this
  have pl : ∀ a r : Int, 0 ≤ a → a < (rows.length : Int) → 0 ≤ r → r < (rows.length : Int) → r ≠ a → key rows r <+: key rows a → r < a := by
    intro a r h0 h1 g0 g1 ne p
    rcases Int.lt_trichotomy r a with h | h | h
    · exact h
    · exact absurd h ne
    · have := pre_le p
      rw [so a r h0 h g1] at this
      exact absurd this (by decide)
  refine ⟨Nat.le_of_ble_eq_true two, so, ?_, ?_, ?_, ?_⟩
  · intro a h0 h1
    rw [← key_len]; exact (sb a h0 h1).2
  · intro a h0 h1
    have h := (sb a h0 h1).1
    unfold subRow at h
    dsimp only at h
    split at h
    · rename_i x q
      rw [Bool.and_eq_true, Nat.blt_eq] at h
      have := h.1
      rw [q]
      show (x : Int) < a
      omega
    · rename_i x q
      rw [q]
      have : (Int.negSucc x : Int) < 0 := Int.negSucc_lt_zero x
      omega
  · intro a h0 h1 hn
    have h := (sb a h0 h1).1
    unfold subRow at h
    dsimp only at h
    split at h
    · rename_i x q
      rw [Bool.and_eq_true, Nat.blt_eq] at h
      have hx' : (x : Int) < (rows.length : Int) := by have := h.1; omega
      have e := rw_at (rows := rows) (a := (x : Int)) (by omega) hx'
      rw [Int.toNat_natCast] at e
      rw [e] at h
      rw [Bool.and_eq_true, isPre] at h
      rw [q]
      exact h.2.1
    · rename_i x q
      rw [q] at hn
      have : (Int.negSucc x : Int) < 0 := Int.negSucc_lt_zero x
      omega
  · intro a r h0 h1 g0 g1 ne p
    have lt := pl a r h0 h1 g0 g1 ne p
    have h := (sb a h0 h1).1
    unfold subRow at h
    dsimp only at h
    split at h
    · rename_i x q
      rw [Bool.and_eq_true, Nat.blt_eq] at h
      have hx' : (x : Int) < (rows.length : Int) := by have := h.1; omega
      have e := rw_at (rows := rows) (a := (x : Int)) (by omega) hx'
      rw [Int.toNat_natCast] at e
      rw [e] at h
      rw [Bool.and_eq_true, isPre, List.all_eq_true] at h
      rw [q]
      refine ⟨Int.natCast_nonneg x, ?_⟩
      show key rows r <+: key rows (x : Int)
      by_cases le : r ≤ (x : Int)
      · by_cases eq : r = (x : Int)
        · rw [eq]; exact List.prefix_rfl
        · have a1 := pre_le h.2.1
          have a2 := so r x g0 (by omega) hx'
          exact pre_between p a1 (less_asym a2)
      · exfalso
        have hm : (key rows r, (rowOf rows r.toNat).2.1) ∈ ((rwOf rows).drop (x + 1)).take (a.toNat - x - 1) := by
          refine List.mem_of_getElem? (i := r.toNat - (x + 1)) ?_
          rw [List.getElem?_take_of_lt (by omega), List.getElem?_drop, show x + 1 + (r.toNat - (x + 1)) = r.toNat by omega]
          exact rw_at g0 g1
        have := h.2.2 _ hm
        rw [Bool.not_eq_true'] at this
        dsimp only at this
        rw [isPre.mpr p] at this
        exact absurd this (by decide)
    · rename_i x q
      exfalso
      rw [List.all_eq_true] at h
      have hm : (key rows r, (rowOf rows r.toNat).2.1) ∈ (rwOf rows).take a.toNat := by
        refine List.mem_of_getElem? (i := r.toNat) ?_
        rw [List.getElem?_take_of_lt (by omega)]
        exact rw_at g0 g1
      have := h _ hm
      rw [Bool.not_eq_true'] at this
      dsimp only at this
      rw [isPre.mpr p] at this
      exact absurd this (by decide)
theorem ok3 : TabOk tab3 := tabOk_of (by decide +kernel) (by decide +kernel) (by decide +kernel)
theorem ok2 : TabOk tab2 := tabOk_of (by decide +kernel) (by decide +kernel) (by decide +kernel)
theorem ok1 : TabOk tab1 := tabOk_of (by decide +kernel) (by decide +kernel) (by decide +kernel)
theorem ok0 : TabOk tab0 := tabOk_of (by decide +kernel) (by decide +kernel) (by decide +kernel)
end Lith
end
section
open PySem PySem.Builtin PySem.Builtin.Str PyProof.Rows
set_option Elab.async false
namespace Lith
theorem clip_in {a n : Nat} (h : a ≤ n) : max 0 (min (if (a : Int) < 0 then (a : Int) + n else a) (n : Int)) = a := by
  rw [if_neg (by omega)]; omega
theorem range_1 {a b : Nat} (h : a ≤ b) : sliceRange (a : Int) (b : Int) 1 = (List.range (b - a)).map (fun k => a + k) := by
  unfold sliceRange
  simp only [show (1 : Int) > 0 by decide, if_true]
  have e : (if (a : Int) < b then ((b : Int) - a + 1 - 1) / 1 else 0).toNat = b - a := by
    split <;> omega
  rw [e]
  apply List.map_congr_left
  intro k _
  omega
theorem idx_ss {a b n : Nat} (h1 : a ≤ b) (h2 : b ≤ n) : strSliceIndices (some (a : Int)) (some (b : Int)) 1 n = (List.range (b - a)).map (fun k => a + k) := by
  unfold strSliceIndices
  simp only [show (1 : Int) > 0 by decide, if_true]
  rw [clip_in (Nat.le_trans h1 h2), clip_in h2, range_1 h1]
theorem idx_sn {a n : Nat} (h1 : a ≤ n) : strSliceIndices (some (a : Int)) none 1 n = (List.range (n - a)).map (fun k => a + k) := by
  unfold strSliceIndices
  simp only [show (1 : Int) > 0 by decide, if_true]
  rw [clip_in h1, range_1 h1]
theorem pick_range (l : List Nat) (a n : Nat) (h : a + n ≤ l.length) : ((List.range n).map (fun k => a + k)).filterMap (l[·]?) = (l.drop a).take n := by
  induction n with
  | zero => simp
  | succ n ih =>
    rw [List.range_succ, List.map_append, List.filterMap_append, ih (by omega)]
    rw [List.take_add_one]
    have e : l[a + n]? = some l[a + n] := List.getElem?_eq_getElem (by omega)
    simp [List.getElem?_drop, e]
theorem slice_of {S : Str} {l u : Option Int} {a n : Nat} (hi : strSliceIndices l u 1 S.length = (List.range n).map (fun k => a + k)) (h : a + n ≤ S.length) : (Txt.slice S l u).cps.toList = (S.cps.toList.drop a).take n := by
  have hl : S.cps.toList.length = S.length := by rw [Array.length_toList]; rfl
  unfold Txt.slice
  rw [hi]
  split
  · rename_i q
    simp only [List.length_map, List.length_range, Bool.and_eq_true, beq_iff_eq] at q
    have a0 : a = 0 := by omega
    have e : n = S.cps.toList.length := by omega
    rw [a0, List.drop_zero, e, List.take_length]
  · show ((List.range n).map (fun k => a + k)).filterMap (S.cps[·]?) = _
    rw [← pick_range _ _ _ (by omega)]
    apply congrArg (fun f => List.filterMap f _)
    funext i
    rw [Array.getElem?_toList]
theorem slice_ss {S : Str} {a b : Nat} (h1 : a ≤ b) (h2 : b ≤ S.length) : (Txt.slice S (some a) (some b)).cps.toList = (S.cps.toList.drop a).take (b - a) :=
  slice_of (idx_ss h1 h2) (by omega)
theorem slice_sn {S : Str} {a : Nat} (h1 : a ≤ S.length) : (Txt.slice S (some a) none).cps.toList = S.cps.toList.drop a := by
  rw [slice_of (idx_sn h1) (by omega)]
  apply List.take_of_length_le
  rw [List.length_drop, Array.length_toList]
  exact Nat.le_refl _
theorem endswith_iff {S z : Str} : Txt.endswith S z = true ↔ z.cps.toList <:+ S.cps.toList := by
  have hl : ∀ x : Str, x.cps.toList.length = x.length := fun x => by rw [Array.length_toList]; rfl
  unfold Txt.endswith subAt
  rw [List.suffix_iff_eq_drop, hl, hl, Bool.and_eq_true, decide_eq_true_eq, Nat.zero_add]
  constructor
  · rintro ⟨h1, h2⟩
    have h3 : (S.cps.extract (S.length - z.length) (S.length - z.length + z.length)) = z.cps := by simpa using h2
    have h4 := congrArg Array.toList h3
    rw [Array.toList_extract] at h4
    rw [← h4]
    show List.take _ (List.drop _ _) = _
    apply List.take_of_length_le
    rw [List.length_drop, hl]; omega
  · intro h
    have h1 : z.length ≤ S.length := by
      have := congrArg List.length h
      rw [List.length_drop, hl, hl] at this
      omega
    refine ⟨h1, ?_⟩
    have h4 : S.cps.extract (S.length - z.length) (S.length - z.length + z.length) = z.cps := by
      apply Array.toList_inj.mp
      rw [Array.toList_extract, h]
      show List.take _ (List.drop _ _) = _
      apply List.take_of_length_le
      rw [List.length_drop, hl]; omega
    rw [h4]; simp
end Lith
end
section
open PySem PySem.W PyProof.Rows PySem.Calls
set_option Elab.async false
set_option maxRecDepth 100000
namespace Lith
theorem rv_len (S : Str) : (rv S).length = S.length := by unfold rv; rw [List.length_reverse, cps_len]
theorem tl_all {S : Str} {c : Int} (h : c = (S.length : Int)) : tl S 0 c = rv S := by
  unfold tl rv
  rw [h, show (0 : Int).toNat = 0 from rfl, List.drop_zero, List.take_of_length_le (by rw [cps_len]; omega)]
theorem tl_p1 {S : Str} {p c : Int} (h0 : 0 ≤ p) (h : c = (S.length : Int)) : tl S p c = (rv S).take ((rv S).length - p.toNat) := by
  unfold tl rv
  have hl := cps_len S
  rw [List.take_of_length_le (by rw [List.length_drop, hl]; omega), List.reverse_drop, List.length_reverse, hl]
theorem best_le (ks : Keys) (t : List Nat) : (bestK ks t).1 ≤ t.length := by
  rcases (best_spec ks t).2 with e | ⟨k, _, p, e⟩
  · rw [e]; exact Nat.zero_le _
  · rw [e]; exact p.length_le
theorem rv_app (a b : Str) : rv (a ++ b) = rv b ++ rv a := by
  unfold rv
  rw [← List.reverse_append]
  congr 1
  rw [Str.cps_append]
  exact Array.toList_append ..
theorem rv_slice0 {S : Str} {x : Int} {n : Nat} (e : x = (S.length : Int) - (n : Int)) (h : n ≤ S.length) : rv (Txt.slice S (some 0) (some x)) = (rv S).drop n := by
  obtain ⟨y, hy⟩ : ∃ y : Nat, x = (y : Int) := ⟨(S.length - n), by omega⟩
  subst hy
  unfold rv
  rw [show (some (0 : Int)) = some ((0 : Nat) : Int) from rfl, slice_ss (a := 0) (b := y) (Nat.zero_le _) (by omega), List.drop_zero, Nat.sub_zero, List.reverse_take, cps_len]
  rw [show S.length - y = n by omega]
theorem slice_end {S : Str} {l : Int} (e : l = (S.length : Int)) : rv (Txt.slice S (some l) none) = [] := by
  subst e
  unfold rv
  rw [slice_sn (Nat.le_refl _), ← cps_len S, List.drop_length]; rfl
/-- the last n signs are put in the place of -/
theorem cut_rv {S z : Str} {x l : Int} {n : Nat} (e : x = (S.length : Int) - (n : Int)) (h : n ≤ S.length) (el : l = (S.length : Int)) : rv (Txt.slice S (some 0) (some x) ++ z ++ Txt.slice S (some l) none) = rv z ++ (rv S).drop n := by
  rw [rv_app, rv_app, slice_end el, List.nil_append, rv_slice0 e h]
theorem cut_len {S z : Str} {x l : Int} {n : Nat} (e : x = (S.length : Int) - (n : Int)) (h : n ≤ S.length) (el : l = (S.length : Int)) : ((Txt.slice S (some 0) (some x) ++ z ++ Txt.slice S (some l) none).length : Int) = (S.length : Int) - (n : Int) + (z.length : Int) := by
  rw [← rv_len, cut_rv e h el, List.length_append, List.length_drop, rv_len, rv_len]; omega
/-- a table's ending told by another -/
noncomputable def rep (ks : Keys) (as : List (List Nat)) (R : List Nat) : List Nat :=
  if (bestK ks R).2 = 0 then R else as.getD ((bestK ks R).2 - 1).toNat [] ++ R.drop (bestK ks R).1
/-- a table's ending, ahead of which p signs stay, falls -/
noncomputable def cutK (ks : Keys) (p : Nat) (R : List Nat) : List Nat :=
  if R.length < p then R else if (bestK ks (R.take (R.length - p))).2 = 0 then R else R.drop (bestK ks (R.take (R.length - p))).1
theorem res_in {ks : Keys} {lo hi : Int} (h : ks.all (fun k => decide (lo ≤ k.2) && decide (k.2 ≤ hi)) = true) (t : List Nat) (n : ¬ (bestK ks t).2 = 0) : lo ≤ (bestK ks t).2 ∧ (bestK ks t).2 ≤ hi := by
  rcases (best_spec ks t).2 with e | ⟨k, hk, p, e⟩
  · rw [e] at n; exact absurd rfl n
  · have := List.all_eq_true.mp h k hk
    rw [Bool.and_eq_true, decide_eq_true_eq, decide_eq_true_eq] at this
    rw [e]; exact this
theorem res2 (t : List Nat) (n : ¬ (bestK (keysOf tab2) t).2 = 0) : 1 ≤ (bestK (keysOf tab2) t).2 ∧ (bestK (keysOf tab2) t).2 ≤ 8 := res_in (ks := keysOf tab2) (lo := 1) (hi := 8) (by decide +kernel) t n
theorem res3 (t : List Nat) (n : ¬ (bestK (keysOf tab3) t).2 = 0) : 1 ≤ (bestK (keysOf tab3) t).2 ∧ (bestK (keysOf tab3) t).2 ≤ 2 := res_in (ks := keysOf tab3) (lo := 1) (hi := 2) (by decide +kernel) t n
end Lith
end
section
open PySem PySem.W PyProof.Rows PySem.Calls
set_option Elab.async false
set_option maxRecDepth 100000
set_option maxHeartbeats 1000000
namespace Lith
/-- what the tables put in an ending's place, the last sign first -/
noncomputable def as2 : List (List Nat) := [[279, 116, 105, 97], [279, 116, 111, 117], [115, 97, 109, 105, 106, 279], [115, 121, 115, 101], [115, 121, 115, 97], [115, 97, 109, 105, 118, 97], [115, 97, 109, 105, 106, 111], [279, 116, 97, 107, 111]]
noncomputable def as3 : List (List Nat) := [[116], [100]]
noncomputable def tupV (as : List (List Nat)) (t : Nat) : List Value := (as.zipIdx t).map (fun p => .str ⟨p.1.reverse.toArray⟩ p.2)
theorem tup_2 (P : Params) : (kL P).lookup 1074 = some ⟨.type "tuple", none, .seq (tupV as2 4350).toArray 0, #[]⟩ := by kernel_rfl
theorem tup_3 (P : Params) : (kL P).lookup 1082 = some ⟨.type "tuple", none, .seq (tupV as3 4388).toArray 0, #[]⟩ := by kernel_rfl
theorem rv_mk (l : List Nat) : rv ⟨l.reverse.toArray⟩ = l := by unfold rv; simp
theorem tupV_len (as : List (List Nat)) (t : Nat) : (tupV as t).length = as.length := by unfold tupV; simp
theorem tupV_at {as : List (List Nat)} {t n : Nat} (h : n < as.length) : ∃ z t', (tupV as t)[n]? = some (.str z t') ∧ rv z = as.getD n [] := by
  refine ⟨⟨(as.getD n []).reverse.toArray⟩, t + n, ?_, rv_mk _⟩
  unfold tupV
  rw [List.getElem?_map, List.getElem?_zipIdx, List.getElem?_eq_getElem h, List.getD_eq_getElem?_getD, List.getElem?_eq_getElem h]
  rfl
section
variable {w : World} {A : Around} {E : Value → Shared → Prop} {s : Shared} {h₀ : Heap} {L : Addr} {m : Str → Option Value} {Q : Value → Shared → Prop} {u : Tok} {i : Int} {value slice : Expr}
theorem item_as {T t : Nat} {as : List (List Nat)} (e : (kL w.params).lookup T = some ⟨.type "tuple", none, .seq (tupV as t).toArray 0, #[]⟩) (n9 : as.length ≤ 100) (F : Fr h₀ L s.heap m) (X : (kL w.params).In h₀) (h0 : 0 ≤ i) (h1 : i < (as.length : Int)) (h : ∀ (z : Str) (t' : Tok), rv z = as.getD i.toNat [] → Q (.str z t') s)
    (hs : subscripted slice false (.ref T) (.int i u) = operate [.ref T, .int i u] (PySem.getItem (.ref T) (.int i u)) := by with_unfolding_all rfl) :
    wpAny (model pg w) A (subscriptTail value slice (.ref T) (.int i u)) Q E s := by
  obtain ⟨z, t', e1, e2⟩ := tupV_at (as := as) (t := t) (n := i.toNat) (by omega)
  have hT : IsTup s.heap T (tupV as t).toArray := ⟨_, F.keep _ _ (X _ _ e), rfl, 0, rfl⟩
  refine item_tupleT hT (j := i.toNat) (by omega) (by omega) ?_ e1 (h z t' e2) hs
  rw [tupV_len]
  obtain ⟨n, rfl⟩ : ∃ n : Nat, i = n := ⟨i.toNat, by omega⟩
  unfold seqIndex?
  simp <;> omega
theorem item_as2 (F : Fr h₀ L s.heap m) (X : (kL w.params).In h₀) (h0 : 0 ≤ i) (h1 : i < 8) (h : ∀ (z : Str) (t' : Tok), rv z = as2.getD i.toNat [] → z.length ≤ 6 → Q (.str z t') s)
    (hs : subscripted slice false (.ref 1074) (.int i u) = operate [.ref 1074, .int i u] (PySem.getItem (.ref 1074) (.int i u)) := by with_unfolding_all rfl) :
    wpAny (model pg w) A (subscriptTail value slice (.ref 1074) (.int i u)) Q E s :=
  item_as (tup_2 _) (by decide) F X h0 h1 (fun z t' e => h z t' e (by
    rw [← rv_len, e]
    have : ∀ n, (as2.getD n []).length ≤ 6 := fun n => by
      by_cases q : n < 8
      · exact (by decide : ∀ n, n < 8 → (as2.getD n []).length ≤ 6) n q
      · rw [List.getD_eq_getElem?_getD, List.getElem?_eq_none (by show as2.length ≤ n; exact Nat.le_of_not_lt q)]; exact Nat.zero_le _
    exact this _)) hs
theorem item_as3 (F : Fr h₀ L s.heap m) (X : (kL w.params).In h₀) (h0 : 0 ≤ i) (h1 : i < 2) (h : ∀ (z : Str) (t' : Tok), rv z = as3.getD i.toNat [] → z.length ≤ 6 → Q (.str z t') s)
    (hs : subscripted slice false (.ref 1082) (.int i u) = operate [.ref 1082, .int i u] (PySem.getItem (.ref 1082) (.int i u)) := by with_unfolding_all rfl) :
    wpAny (model pg w) A (subscriptTail value slice (.ref 1082) (.int i u)) Q E s :=
  item_as (tup_3 _) (by decide) F X h0 h1 (fun z t' e => h z t' e (by
    rw [← rv_len, e]
    have : ∀ n, (as3.getD n []).length ≤ 6 := fun n => by
      by_cases q : n < 2
      · exact (by decide : ∀ n, n < 2 → (as3.getD n []).length ≤ 6) n q
      · rw [List.getD_eq_getElem?_getD, List.getElem?_eq_none (by show as3.length ≤ n; exact Nat.le_of_not_lt q)]; exact Nat.zero_le _
    exact this _)) hs
end
end Lith
end
section
open PySem PySem.W PyProof.Rows PySem.Calls
set_option Elab.async false
namespace Lith
theorem res_2 {t : List Nat} {n : Nat} {r : Int} (e : bestK (keysOf tab2) t = (n, r)) : r = 0 ∨ (1 ≤ r ∧ r ≤ 8) := by
  by_cases h : r = 0
  · exact .inl h
  · have := res2 t (by rw [e]; exact h); rw [e] at this; exact .inr this
theorem res_3 {t : List Nat} {n : Nat} {r : Int} (e : bestK (keysOf tab3) t = (n, r)) : r = 0 ∨ (1 ≤ r ∧ r ≤ 2) := by
  by_cases h : r = 0
  · exact .inl h
  · have := res3 t (by rw [e]; exact h); rw [e] at this; exact .inr this
section
variable {S z : Str} {lb c l x p : Int} {n : Nat} {r : Int} {ks : Keys} {as : List (List Nat)}
theorem rep_none (hc : c = (S.length : Int)) (hb : lb = 0) (e : bestK ks (tl S lb c) = (n, r)) (h : r = 0) : rv S = rep ks as (rv S) := by
  subst hb
  rw [tl_all hc] at e
  unfold rep
  rw [e, if_pos h]
theorem rep_some (hc : c = (S.length : Int)) (hb : lb = 0) (e : bestK ks (tl S lb c) = (n, r)) (h : ¬ r = 0) (hn : (n : Int) ≤ c - lb) (hx : x = c - (n : Int)) (hl : l = (S.length : Int)) (ez : rv z = as.getD (r - 1).toNat []) : rv (Txt.slice S (some 0) (some x) ++ z ++ Txt.slice S (some l) none) = rep ks as (rv S) := by
  subst hb
  rw [tl_all hc] at e
  unfold rep
  rw [e, if_neg h, cut_rv (n := n) (by omega) (by omega) hl, ez]
theorem cut_none0 (hc : c = (S.length : Int)) (h : c < p) : rv S = cutK ks p.toNat (rv S) := by
  unfold cutK
  rw [if_pos (by rw [rv_len]; omega)]
theorem cut_none (hc : c = (S.length : Int)) (hp : 0 ≤ p) (hn : ¬ c < p) (e : bestK ks (tl S p c) = (n, r)) (h : r = 0) : rv S = cutK ks p.toNat (rv S) := by
  rw [tl_p1 hp hc] at e
  unfold cutK
  rw [if_neg (by rw [rv_len]; omega), e, if_pos h]
theorem cut_some (hc : c = (S.length : Int)) (hp : 0 ≤ p) (hn : ¬ c < p) (e : bestK ks (tl S p c) = (n, r)) (h : ¬ r = 0) (hn : (n : Int) ≤ c - p) (hx : x = c - (n : Int)) (hl : l = (S.length : Int)) : rv (Txt.slice S (some 0) (some x) ++ Str.ofString "" ++ Txt.slice S (some l) none) = cutK ks p.toNat (rv S) := by
  rw [tl_p1 hp hc] at e
  unfold cutK
  rw [if_neg (by rw [rv_len]; omega), e, if_neg h, cut_rv (n := n) (by omega) (by omega) hl]
  rfl
theorem new_len (hx : x = c - (n : Int)) (hc : c = (S.length : Int)) (hn : (n : Int) ≤ c - lb) (hb : 0 ≤ lb) (hl : l = (S.length : Int)) : ((Txt.slice S (some 0) (some x) ++ z ++ Txt.slice S (some l) none).length : Int) = (S.length : Int) - (n : Int) + (z.length : Int) :=
  cut_len (by omega) (by omega) hl
end
end Lith
end
section
open PySem PySem.W PyProof.Rows PySem.Calls Lith
set_option Elab.async false
set_option maxRecDepth 100000
set_option maxHeartbeats 8000000
namespace Lith

theorem c_best {w : World} {lo : List Str} {mean : ExcName → Option Value} {mg mb : Str → Option Value} {dp un : Nat} {gd : Option (List Code)} {cn : Str} {cs : Scope} {a : Addr} {ccd : Value} {cl : List (Str × Addr)} {outer : List Env} {A₀ : Around} {base h₀ : Heap} {L : Addr} {m : Str → Option Value} {s : Shared} {Q E : Value → Shared → Prop}
    {D I : Addr} {oth : List (Addr × Obj)} {k0 k1 k2 k3 k4 k5 k6 t0 t1 t2 t3 t4 t5 t6 : Tok} {S : Str} {c l lb br ke p1 : Int} {Tt bs : Nat} {rows : List AmRow}
    (B : Below A₀ base outer h₀) (F : Fr h₀ L s.heap m) (X : (kL w.params).In h₀) (N : News h₀ L s.heap ((D, dictOf [⟨PyData.keyHash w.params (Str.ofString "current"), .str (Str.ofString "current") k0, .str S t0⟩, ⟨PyData.keyHash w.params (Str.ofString "cursor"), .str (Str.ofString "cursor") k1, .int c t1⟩, ⟨PyData.keyHash w.params (Str.ofString "limit"), .str (Str.ofString "limit") k2, .int l t2⟩, ⟨PyData.keyHash w.params (Str.ofString "limit_backward"), .str (Str.ofString "limit_backward") k3, .int lb t3⟩, ⟨PyData.keyHash w.params (Str.ofString "bra"), .str (Str.ofString "bra") k4, .int br t4⟩, ⟨PyData.keyHash w.params (Str.ofString "ket"), .str (Str.ofString "ket") k5, .int ke t5⟩, ⟨PyData.keyHash w.params (Str.ofString "I_p1"), .str (Str.ofString "I_p1") k6, .int p1 t6⟩] 7) :: (I, instObj 1085 D) :: oth)) (TT : Top qv lo mean mg mb h₀)
    (hk : cs.kind = .function) (d0 : NeN D I) (hO : OwnOff oth [D, I]) (hS : S.length ≤ 1000) (hd : dp + 14 < recursionLimit) (hu : un + 120 < cLine) (AT : AmTab w h₀ Tt bs rows) (TO : TabOk rows) (g0 : 0 ≤ lb) (g3 : lb ≤ c) (g4 : c ≤ (S.length : Int))
    (ret : ∀ (S' : Str) (c' l' lb' br' ke' p1' : Int) (t0' t1' t2' t3' t4' t5' t6' : Tok) (v : Value) (h' : Heap) (tk' : Nat), Fr h₀ L h' m → News h₀ L h' ((D, dictOf [⟨PyData.keyHash w.params (Str.ofString "current"), .str (Str.ofString "current") k0, .str S' t0'⟩, ⟨PyData.keyHash w.params (Str.ofString "cursor"), .str (Str.ofString "cursor") k1, .int c' t1'⟩, ⟨PyData.keyHash w.params (Str.ofString "limit"), .str (Str.ofString "limit") k2, .int l' t2'⟩, ⟨PyData.keyHash w.params (Str.ofString "limit_backward"), .str (Str.ofString "limit_backward") k3, .int lb' t3'⟩, ⟨PyData.keyHash w.params (Str.ofString "bra"), .str (Str.ofString "bra") k4, .int br' t4'⟩, ⟨PyData.keyHash w.params (Str.ofString "ket"), .str (Str.ofString "ket") k5, .int ke' t5'⟩, ⟨PyData.keyHash w.params (Str.ofString "I_p1"), .str (Str.ofString "I_p1") k6, .int p1' t6'⟩] 7) :: (I, instObj 1085 D) :: oth) → (S' = S ∧ l' = l ∧ lb' = lb ∧ br' = br ∧ ke' = ke ∧ p1' = p1 ∧ ∃ (n : Nat) (r : Int) (tk : Tok), bestK (keysOf rows) (tl S lb c) = (n, r) ∧ c' = c - (n : Int) ∧ (n : Int) ≤ c - lb ∧ v = .int r tk) → Q v { s with heap := h', toks := tk' }) :
    wpAny (model pg w) (ktrTop dp un gd cn cs L a ccd cl outer) (call (.ref 140) [.ref I, .ref Tt]) Q E s := by
  refine c_find B F X N TT hk d0 hO hS hd hu AT TO g0 g3 g4 fun S' c' l' lb' br' ke' p1' t0' t1' t2' t3' t4' t5' t6' v h' tk' F' N' R => ret S' c' l' lb' br' ke' p1' t0' t1' t2' t3' t4' t5' t6' v h' tk' F' N' ?_
  obtain ⟨r1, r2, r3, r4, r5, r6, r7⟩ := R
  obtain ⟨e1, tk, e2⟩ := find_best TO r7
  have le := best_le (keysOf rows) (tl S lb c)
  have L := tl_len g0 g3 g4
  have le2 : ((bestK (keysOf rows) (tl S lb c)).1 : Int) ≤ c - lb := by rw [← L]; exact Int.ofNat_le.mpr le
  exact ⟨r1, r2, r3, r4, r5, r6, (bestK (keysOf rows) (tl S lb c)).1, (bestK (keysOf rows) (tl S lb c)).2, tk, rfl, e1, le2, e2⟩
theorem c_bestE {w : World} {lo : List Str} {mean : ExcName → Option Value} {mg mb : Str → Option Value} {dp un : Nat} {gd : Option (List Code)} {cn : Str} {cs : Scope} {a : Addr} {ccd : Value} {cl : List (Str × Addr)} {outer : List Env} {A₀ : Around} {base h₀ : Heap} {L : Addr} {m : Str → Option Value} {s : Shared} {Q E : Value → Shared → Prop}
    {D I : Addr} {oth : List (Addr × Obj)} {k0 k1 k2 k3 k4 k5 k6 t0 t1 t2 t3 t4 t5 t6 : Tok} {S : Str} {c l lb br ke p1 : Int} {Tt bs : Nat} {rows : List AmRow}
    (B : Below A₀ base outer h₀) (F : Fr h₀ L s.heap m) (X : (kL w.params).In h₀) (N : News h₀ L s.heap ((D, dictOf [⟨PyData.keyHash w.params (Str.ofString "current"), .str (Str.ofString "current") k0, .str S t0⟩, ⟨PyData.keyHash w.params (Str.ofString "cursor"), .str (Str.ofString "cursor") k1, .int c t1⟩, ⟨PyData.keyHash w.params (Str.ofString "limit"), .str (Str.ofString "limit") k2, .int l t2⟩, ⟨PyData.keyHash w.params (Str.ofString "limit_backward"), .str (Str.ofString "limit_backward") k3, .int lb t3⟩, ⟨PyData.keyHash w.params (Str.ofString "bra"), .str (Str.ofString "bra") k4, .int br t4⟩, ⟨PyData.keyHash w.params (Str.ofString "ket"), .str (Str.ofString "ket") k5, .int ke t5⟩, ⟨PyData.keyHash w.params (Str.ofString "I_p1"), .str (Str.ofString "I_p1") k6, .int p1 t6⟩] 7) :: (I, instObj 1085 D) :: oth)) (TT : Top qv lo mean mg mb h₀)
    (hk : cs.kind = .function) (d0 : NeN D I) (hO : OwnOff oth [D, I]) (hS : S.length ≤ 1000) (hd : dp + 14 < recursionLimit) (hu : un + 120 < cLine) (AT : AmTab w h₀ Tt bs rows) (TO : TabOk rows) (g0 : 0 ≤ lb) (g3 : lb ≤ c) (g4 : c ≤ (S.length : Int))
    (ret : ∀ (c' : Int) (t0' t1' t2' t3' t4' t5' t6' : Tok) (n : Nat) (r : Int) (tk : Tok) (h' : Heap) (tk' : Nat), bestK (keysOf rows) (tl S lb c) = (n, r) → c' = c - (n : Int) → (n : Int) ≤ c - lb → Fr h₀ L h' m → News h₀ L h' ((D, dictOf [⟨PyData.keyHash w.params (Str.ofString "current"), .str (Str.ofString "current") k0, .str S t0'⟩, ⟨PyData.keyHash w.params (Str.ofString "cursor"), .str (Str.ofString "cursor") k1, .int c' t1'⟩, ⟨PyData.keyHash w.params (Str.ofString "limit"), .str (Str.ofString "limit") k2, .int l t2'⟩, ⟨PyData.keyHash w.params (Str.ofString "limit_backward"), .str (Str.ofString "limit_backward") k3, .int lb t3'⟩, ⟨PyData.keyHash w.params (Str.ofString "bra"), .str (Str.ofString "bra") k4, .int br t4'⟩, ⟨PyData.keyHash w.params (Str.ofString "ket"), .str (Str.ofString "ket") k5, .int ke t5'⟩, ⟨PyData.keyHash w.params (Str.ofString "I_p1"), .str (Str.ofString "I_p1") k6, .int p1 t6'⟩] 7) :: (I, instObj 1085 D) :: oth) → Q (.int r tk) { s with heap := h', toks := tk' }) :
    wpAny (model pg w) (ktrTop dp un gd cn cs L a ccd cl outer) (call (.ref 140) [.ref I, .ref Tt]) Q E s := by
  refine c_best B F X N TT hk d0 hO hS hd hu AT TO g0 g3 g4 ?_
  intro S' c' l' lb' br' ke' p1' t0' t1' t2' t3' t4' t5' t6' v h' tk' F9 N9 R9
  obtain ⟨q1, q2, q3, q4, q5, q6, n9, r9, tk9, e9, hc9, hn9, q7⟩ := R9
  (replace q1 := Eq.symm q1; subst q1); (replace q2 := Eq.symm q2; subst q2); (replace q3 := Eq.symm q3; subst q3); (replace q4 := Eq.symm q4; subst q4); (replace q5 := Eq.symm q5; subst q5); (replace q6 := Eq.symm q6; subst q6)
  subst q7
  exact ret c' t0' t1' t2' t3' t4' t5' t6' n9 r9 tk9 h' tk' e9 hc9 hn9 F9 N9


end Lith
end
section
open PySem PySem.W PyProof.Rows PySem.Calls Lith
set_option Elab.async false
set_option maxRecDepth 100000
set_option maxHeartbeats 8000000
namespace Lith

theorem c_replace_s {w : World} {lo : List Str} {mean : ExcName → Option Value} {mg mb : Str → Option Value} {dp un : Nat} {gd : Option (List Code)} {cn : Str} {cs : Scope} {a : Addr} {ccd : Value} {cl : List (Str × Addr)} {outer : List Env} {A₀ : Around} {base h₀ : Heap} {L : Addr} {m : Str → Option Value} {s : Shared} {Q E : Value → Shared → Prop}
    {D I : Addr} {oth : List (Addr × Obj)} {k0 k1 k2 k3 k4 k5 k6 t0 t1 t2 t3 t4 t5 t6 : Tok} {S : Str} {c l lb br ke p1 : Int} {x y : Int} {tx ty : Tok} {z : Str} {tz : Tok}
    (B : Below A₀ base outer h₀) (F : Fr h₀ L s.heap m) (X : (kL w.params).In h₀) (N : News h₀ L s.heap ((D, dictOf [⟨PyData.keyHash w.params (Str.ofString "current"), .str (Str.ofString "current") k0, .str S t0⟩, ⟨PyData.keyHash w.params (Str.ofString "cursor"), .str (Str.ofString "cursor") k1, .int c t1⟩, ⟨PyData.keyHash w.params (Str.ofString "limit"), .str (Str.ofString "limit") k2, .int l t2⟩, ⟨PyData.keyHash w.params (Str.ofString "limit_backward"), .str (Str.ofString "limit_backward") k3, .int lb t3⟩, ⟨PyData.keyHash w.params (Str.ofString "bra"), .str (Str.ofString "bra") k4, .int br t4⟩, ⟨PyData.keyHash w.params (Str.ofString "ket"), .str (Str.ofString "ket") k5, .int ke t5⟩, ⟨PyData.keyHash w.params (Str.ofString "I_p1"), .str (Str.ofString "I_p1") k6, .int p1 t6⟩] 7) :: (I, instObj 1085 D) :: oth)) (TT : Top qv lo mean mg mb h₀)
    (hk : cs.kind = .function) (d0 : NeN D I) (hO : OwnOff oth [D, I]) (hS : S.length ≤ 1000) (hd : dp + 10 < recursionLimit) (hu : un + 80 < cLine) (hz : z.length ≤ 1000)
    (ret : ∀ (S' : Str) (c' l' lb' br' ke' p1' : Int) (t0' t1' t2' t3' t4' t5' t6' : Tok) (v : Value) (h' : Heap) (tk' : Nat), Fr h₀ L h' m → News h₀ L h' ((D, dictOf [⟨PyData.keyHash w.params (Str.ofString "current"), .str (Str.ofString "current") k0, .str S' t0'⟩, ⟨PyData.keyHash w.params (Str.ofString "cursor"), .str (Str.ofString "cursor") k1, .int c' t1'⟩, ⟨PyData.keyHash w.params (Str.ofString "limit"), .str (Str.ofString "limit") k2, .int l' t2'⟩, ⟨PyData.keyHash w.params (Str.ofString "limit_backward"), .str (Str.ofString "limit_backward") k3, .int lb' t3'⟩, ⟨PyData.keyHash w.params (Str.ofString "bra"), .str (Str.ofString "bra") k4, .int br' t4'⟩, ⟨PyData.keyHash w.params (Str.ofString "ket"), .str (Str.ofString "ket") k5, .int ke' t5'⟩, ⟨PyData.keyHash w.params (Str.ofString "I_p1"), .str (Str.ofString "I_p1") k6, .int p1' t6'⟩] 7) :: (I, instObj 1085 D) :: oth) → (S' = Txt.slice S (some 0) (some x) ++ z ++ Txt.slice S (some y) none ∧ l' = l + ((z.length : Int) - (y - x)) ∧ c' = (if c ≥ y then c + ((z.length : Int) - (y - x)) else if c > x then x else c) ∧ lb' = lb ∧ br' = br ∧ ke' = ke ∧ p1' = p1 ∧ ∃ t, v = .int ((z.length : Int) - (y - x)) t) → Q v { s with heap := h', toks := tk' }) :
    wpAny (model pg w) (ktrTop dp un gd cn cs L a ccd cl outer) (call (.ref 147) [.ref I, .int x tx, .int y ty, .str z tz]) Q E s := by
  have key : rl = rl := rfl
  have e0 : (D : Nat) ≠ I := d0
  revert X key
  k_fill
  intro X _
  refine wpAny_call ?_
  k_dflt cell_enter
  k_steps
  all_goals (refine' ret _ _ _ _ _ _ _ _ _ _ _ _ _ _ _ _ _ ?cF ?cN ?cR; (case cF | cN => k_asm); (case cR => (refine' ⟨?_, ?_, ?_, ?_, ?_, ?_, ?_, ?_⟩ <;> (first | rfl | exact ⟨_, rfl⟩ | ((try simp only [decide_eq_true_eq, decide_eq_false_iff_not, Bool.not_eq_true] at *); (repeat' split) <;> first | rfl | omega | (exfalso; omega) | contradiction | (simp_all; done))))))

theorem c_eq_s_b {w : World} {lo : List Str} {mean : ExcName → Option Value} {mg mb : Str → Option Value} {dp un : Nat} {gd : Option (List Code)} {cn : Str} {cs : Scope} {a : Addr} {ccd : Value} {cl : List (Str × Addr)} {outer : List Env} {A₀ : Around} {base h₀ : Heap} {L : Addr} {m : Str → Option Value} {s : Shared} {Q E : Value → Shared → Prop}
    {D I : Addr} {oth : List (Addr × Obj)} {k0 k1 k2 k3 k4 k5 k6 t0 t1 t2 t3 t4 t5 t6 : Tok} {S : Str} {c l lb br ke p1 : Int} {z : Str} {tz : Tok}
    (B : Below A₀ base outer h₀) (F : Fr h₀ L s.heap m) (X : (kL w.params).In h₀) (N : News h₀ L s.heap ((D, dictOf [⟨PyData.keyHash w.params (Str.ofString "current"), .str (Str.ofString "current") k0, .str S t0⟩, ⟨PyData.keyHash w.params (Str.ofString "cursor"), .str (Str.ofString "cursor") k1, .int c t1⟩, ⟨PyData.keyHash w.params (Str.ofString "limit"), .str (Str.ofString "limit") k2, .int l t2⟩, ⟨PyData.keyHash w.params (Str.ofString "limit_backward"), .str (Str.ofString "limit_backward") k3, .int lb t3⟩, ⟨PyData.keyHash w.params (Str.ofString "bra"), .str (Str.ofString "bra") k4, .int br t4⟩, ⟨PyData.keyHash w.params (Str.ofString "ket"), .str (Str.ofString "ket") k5, .int ke t5⟩, ⟨PyData.keyHash w.params (Str.ofString "I_p1"), .str (Str.ofString "I_p1") k6, .int p1 t6⟩] 7) :: (I, instObj 1085 D) :: oth)) (TT : Top qv lo mean mg mb h₀)
    (hk : cs.kind = .function) (d0 : NeN D I) (hO : OwnOff oth [D, I]) (hS : S.length ≤ 1000) (hd : dp + 10 < recursionLimit) (hu : un + 80 < cLine) (hz : z.length ≤ 1000)
    (ret : ∀ (S' : Str) (c' l' lb' br' ke' p1' : Int) (t0' t1' t2' t3' t4' t5' t6' : Tok) (v : Value) (h' : Heap) (tk' : Nat), Fr h₀ L h' m → News h₀ L h' ((D, dictOf [⟨PyData.keyHash w.params (Str.ofString "current"), .str (Str.ofString "current") k0, .str S' t0'⟩, ⟨PyData.keyHash w.params (Str.ofString "cursor"), .str (Str.ofString "cursor") k1, .int c' t1'⟩, ⟨PyData.keyHash w.params (Str.ofString "limit"), .str (Str.ofString "limit") k2, .int l' t2'⟩, ⟨PyData.keyHash w.params (Str.ofString "limit_backward"), .str (Str.ofString "limit_backward") k3, .int lb' t3'⟩, ⟨PyData.keyHash w.params (Str.ofString "bra"), .str (Str.ofString "bra") k4, .int br' t4'⟩, ⟨PyData.keyHash w.params (Str.ofString "ket"), .str (Str.ofString "ket") k5, .int ke' t5'⟩, ⟨PyData.keyHash w.params (Str.ofString "I_p1"), .str (Str.ofString "I_p1") k6, .int p1' t6'⟩] 7) :: (I, instObj 1085 D) :: oth) → (S' = S ∧ l' = l ∧ c' = (if Txt.endswith (Txt.slice S (some lb) (some c)) z then c - (z.length : Int) else c) ∧ lb' = lb ∧ br' = br ∧ ke' = ke ∧ p1' = p1 ∧ v = .bool (Txt.endswith (Txt.slice S (some lb) (some c)) z)) → Q v { s with heap := h', toks := tk' }) :
    wpAny (model pg w) (ktrTop dp un gd cn cs L a ccd cl outer) (call (.ref 126) [.ref I, .str z tz]) Q E s := by
  have key : rl = rl := rfl
  have e0 : (D : Nat) ≠ I := d0
  revert X key
  k_fill
  intro X _
  refine wpAny_call ?_
  k_dflt cell_enter
  k_steps
  all_goals (refine' ret _ _ _ _ _ _ _ _ _ _ _ _ _ _ _ _ _ ?cF ?cN ?cR; (case cF | cN => k_asm); (case cR => (refine' ⟨?_, ?_, ?_, ?_, ?_, ?_, ?_, ?_⟩ <;> (first | rfl | exact ⟨_, rfl⟩ | ((try simp only [decide_eq_true_eq, decide_eq_false_iff_not, Bool.not_eq_true] at *); (repeat' split) <;> first | rfl | omega | (exfalso; omega) | contradiction | (simp_all; done))))))
end Lith
end
section
open PySem PySem.W PyProof.Rows PySem.Calls Lith
set_option Elab.async false
set_option maxRecDepth 100000
set_option maxHeartbeats 8000000
namespace Lith
local macro_rules | `(tactic| walk_at "pad 0") => `(tactic| skip)

theorem c_slice_from {w : World} {lo : List Str} {mean : ExcName → Option Value} {mg mb : Str → Option Value} {dp un : Nat} {gd : Option (List Code)} {cn : Str} {cs : Scope} {a : Addr} {ccd : Value} {cl : List (Str × Addr)} {outer : List Env} {A₀ : Around} {base h₀ : Heap} {L : Addr} {m : Str → Option Value} {s : Shared} {Q E : Value → Shared → Prop}
    {D I : Addr} {oth : List (Addr × Obj)} {k0 k1 k2 k3 k4 k5 k6 t0 t1 t2 t3 t4 t5 t6 : Tok} {S : Str} {c l lb br ke p1 : Int} {z : Str} {tz : Tok}
    (B : Below A₀ base outer h₀) (F : Fr h₀ L s.heap m) (X : (kL w.params).In h₀) (N : News h₀ L s.heap ((D, dictOf [⟨PyData.keyHash w.params (Str.ofString "current"), .str (Str.ofString "current") k0, .str S t0⟩, ⟨PyData.keyHash w.params (Str.ofString "cursor"), .str (Str.ofString "cursor") k1, .int c t1⟩, ⟨PyData.keyHash w.params (Str.ofString "limit"), .str (Str.ofString "limit") k2, .int l t2⟩, ⟨PyData.keyHash w.params (Str.ofString "limit_backward"), .str (Str.ofString "limit_backward") k3, .int lb t3⟩, ⟨PyData.keyHash w.params (Str.ofString "bra"), .str (Str.ofString "bra") k4, .int br t4⟩, ⟨PyData.keyHash w.params (Str.ofString "ket"), .str (Str.ofString "ket") k5, .int ke t5⟩, ⟨PyData.keyHash w.params (Str.ofString "I_p1"), .str (Str.ofString "I_p1") k6, .int p1 t6⟩] 7) :: (I, instObj 1085 D) :: oth)) (TT : Top qv lo mean mg mb h₀)
    (hk : cs.kind = .function) (d0 : NeN D I) (hO : OwnOff oth [D, I]) (hS : S.length ≤ 1000) (hd : dp + 12 < recursionLimit) (hu : un + 100 < cLine) (hz : z.length ≤ 500) (g0 : 0 ≤ br) (g1 : br ≤ ke) (g2 : ke ≤ l) (g3 : l ≤ (S.length : Int))
    (ret : ∀ (S' : Str) (c' l' lb' br' ke' p1' : Int) (t0' t1' t2' t3' t4' t5' t6' : Tok) (v : Value) (h' : Heap) (tk' : Nat), Fr h₀ L h' m → News h₀ L h' ((D, dictOf [⟨PyData.keyHash w.params (Str.ofString "current"), .str (Str.ofString "current") k0, .str S' t0'⟩, ⟨PyData.keyHash w.params (Str.ofString "cursor"), .str (Str.ofString "cursor") k1, .int c' t1'⟩, ⟨PyData.keyHash w.params (Str.ofString "limit"), .str (Str.ofString "limit") k2, .int l' t2'⟩, ⟨PyData.keyHash w.params (Str.ofString "limit_backward"), .str (Str.ofString "limit_backward") k3, .int lb' t3'⟩, ⟨PyData.keyHash w.params (Str.ofString "bra"), .str (Str.ofString "bra") k4, .int br' t4'⟩, ⟨PyData.keyHash w.params (Str.ofString "ket"), .str (Str.ofString "ket") k5, .int ke' t5'⟩, ⟨PyData.keyHash w.params (Str.ofString "I_p1"), .str (Str.ofString "I_p1") k6, .int p1' t6'⟩] 7) :: (I, instObj 1085 D) :: oth) → (S' = Txt.slice S (some 0) (some br) ++ z ++ Txt.slice S (some ke) none ∧ l' = l + ((z.length : Int) - (ke - br)) ∧ c' = (if c ≥ ke then c + ((z.length : Int) - (ke - br)) else if c > br then br else c) ∧ lb' = lb ∧ br' = br ∧ ke' = br + (z.length : Int) ∧ p1' = p1 ∧ v = .none) → Q v { s with heap := h', toks := tk' }) :
    wpAny (model pg w) (ktrTop dp un gd cn cs L a ccd cl outer) (call (.ref 154) [.ref I, .str z tz]) Q E s := by
  have key : rl = rl := rfl
  have e0 : (D : Nat) ≠ I := d0
  revert X key
  k_fill
  intro X _
  refine wpAny_call ?_
  k_dflt cell_enter
  (repeat' (first | ((with_reducible refine of_halt ?_); first | ((with_reducible show wpAny _ _ (call (Value.ref 147) _) _ _ _); k_dflt (refine' c_replace_s ?k1 ?k2 ?k3 ?k4 ?k5 ?k6 ?n0 ?nO ?hS ?hd ?hu ?h0 ?_; (case k1 | k2 | k3 | k4 | k5 => k_asm); (case k6 => first | exact rfl | assumption); (case n0 | nO => assumption); (case hS => first | assumption | omega | (size_fits; done)); (case hd => ktr_room); (case hu => ktr_units); (case h0 => first | assumption | omega | (size_fits; done)); k_whole); intro S9 c9 l9 lb9 br9 ke9 p9 u0 u1 u2 u3 u4 u5 u6 v9 h9 tk9 F9 N9 R9; (obtain ⟨rfl, rfl, rfl, rfl, rfl, rfl, rfl, R9⟩ := R9); (first | subst R9 | (obtain ⟨r9, rfl⟩ := R9)); (try dsimp only))) | (k_unfold; (try dsimp only)) | (k_end; kc_close) | walk1 | (dsimp only; walk1)))
  all_goals (refine' ret _ _ _ _ _ _ _ _ _ _ _ _ _ _ _ _ _ ?cF ?cN ?cR; (case cF | cN => k_asm); (case cR => (refine' ⟨?_, ?_, ?_, ?_, ?_, ?_, ?_, ?_⟩ <;> (first | rfl | exact ⟨_, rfl⟩ | ((try simp only [decide_eq_true_eq, decide_eq_false_iff_not, Bool.not_eq_true] at *); (repeat' split) <;> first | rfl | omega | (exfalso; omega) | contradiction | (simp_all; done))))))
theorem c_slice_fromE {w : World} {lo : List Str} {mean : ExcName → Option Value} {mg mb : Str → Option Value} {dp un : Nat} {gd : Option (List Code)} {cn : Str} {cs : Scope} {a : Addr} {ccd : Value} {cl : List (Str × Addr)} {outer : List Env} {A₀ : Around} {base h₀ : Heap} {L : Addr} {m : Str → Option Value} {s : Shared} {Q E : Value → Shared → Prop}
    {D I : Addr} {oth : List (Addr × Obj)} {k0 k1 k2 k3 k4 k5 k6 t0 t1 t2 t3 t4 t5 t6 : Tok} {S : Str} {c l lb br ke p1 : Int} {z : Str} {tz : Tok}
    (B : Below A₀ base outer h₀) (F : Fr h₀ L s.heap m) (X : (kL w.params).In h₀) (N : News h₀ L s.heap ((D, dictOf [⟨PyData.keyHash w.params (Str.ofString "current"), .str (Str.ofString "current") k0, .str S t0⟩, ⟨PyData.keyHash w.params (Str.ofString "cursor"), .str (Str.ofString "cursor") k1, .int c t1⟩, ⟨PyData.keyHash w.params (Str.ofString "limit"), .str (Str.ofString "limit") k2, .int l t2⟩, ⟨PyData.keyHash w.params (Str.ofString "limit_backward"), .str (Str.ofString "limit_backward") k3, .int lb t3⟩, ⟨PyData.keyHash w.params (Str.ofString "bra"), .str (Str.ofString "bra") k4, .int br t4⟩, ⟨PyData.keyHash w.params (Str.ofString "ket"), .str (Str.ofString "ket") k5, .int ke t5⟩, ⟨PyData.keyHash w.params (Str.ofString "I_p1"), .str (Str.ofString "I_p1") k6, .int p1 t6⟩] 7) :: (I, instObj 1085 D) :: oth)) (TT : Top qv lo mean mg mb h₀)
    (hk : cs.kind = .function) (d0 : NeN D I) (hO : OwnOff oth [D, I]) (hS : S.length ≤ 1000) (hd : dp + 12 < recursionLimit) (hu : un + 100 < cLine) (hz : z.length ≤ 500) (g0 : 0 ≤ br) (g1 : br ≤ ke) (g2 : ke ≤ l) (g3 : l ≤ (S.length : Int))
    (ret : ∀ (t0' t1' t2' t3' t4' t5' t6' : Tok) (h' : Heap) (tk' : Nat), Fr h₀ L h' m → News h₀ L h' ((D, dictOf [⟨PyData.keyHash w.params (Str.ofString "current"), .str (Str.ofString "current") k0, .str (Txt.slice S (some 0) (some br) ++ z ++ Txt.slice S (some ke) none) t0'⟩, ⟨PyData.keyHash w.params (Str.ofString "cursor"), .str (Str.ofString "cursor") k1, .int (if c ≥ ke then c + ((z.length : Int) - (ke - br)) else if c > br then br else c) t1'⟩, ⟨PyData.keyHash w.params (Str.ofString "limit"), .str (Str.ofString "limit") k2, .int (l + ((z.length : Int) - (ke - br))) t2'⟩, ⟨PyData.keyHash w.params (Str.ofString "limit_backward"), .str (Str.ofString "limit_backward") k3, .int lb t3'⟩, ⟨PyData.keyHash w.params (Str.ofString "bra"), .str (Str.ofString "bra") k4, .int br t4'⟩, ⟨PyData.keyHash w.params (Str.ofString "ket"), .str (Str.ofString "ket") k5, .int (br + (z.length : Int)) t5'⟩, ⟨PyData.keyHash w.params (Str.ofString "I_p1"), .str (Str.ofString "I_p1") k6, .int p1 t6'⟩] 7) :: (I, instObj 1085 D) :: oth) → Q .none { s with heap := h', toks := tk' }) :
    wpAny (model pg w) (ktrTop dp un gd cn cs L a ccd cl outer) (call (.ref 154) [.ref I, .str z tz]) Q E s := by
  refine c_slice_from B F X N TT hk d0 hO hS hd hu hz g0 g1 g2 g3 ?_
  intro S' c' l' lb' br' ke' p1' t0' t1' t2' t3' t4' t5' t6' v h' tk' F9 N9 R9
  obtain ⟨q1, q2, q3, q4, q5, q6, q7, q8⟩ := R9
  (replace q1 := Eq.symm q1; subst q1); (replace q2 := Eq.symm q2; subst q2); (replace q3 := Eq.symm q3; subst q3); (replace q4 := Eq.symm q4; subst q4); (replace q5 := Eq.symm q5; subst q5); (replace q6 := Eq.symm q6; subst q6); (replace q7 := Eq.symm q7; subst q7); (replace q8 := Eq.symm q8; subst q8)
  exact ret t0' t1' t2' t3' t4' t5' t6' h' tk' F9 N9

end Lith
end
section
open PySem PySem.W PyProof.Rows PySem.Calls Lith
set_option Elab.async false
set_option maxRecDepth 100000
set_option maxHeartbeats 8000000
namespace Lith

theorem c_slice_del {w : World} {lo : List Str} {mean : ExcName → Option Value} {mg mb : Str → Option Value} {dp un : Nat} {gd : Option (List Code)} {cn : Str} {cs : Scope} {a : Addr} {ccd : Value} {cl : List (Str × Addr)} {outer : List Env} {A₀ : Around} {base h₀ : Heap} {L : Addr} {m : Str → Option Value} {s : Shared} {Q E : Value → Shared → Prop}
    {D I : Addr} {oth : List (Addr × Obj)} {k0 k1 k2 k3 k4 k5 k6 t0 t1 t2 t3 t4 t5 t6 : Tok} {S : Str} {c l lb br ke p1 : Int} 
    (B : Below A₀ base outer h₀) (F : Fr h₀ L s.heap m) (X : (kL w.params).In h₀) (N : News h₀ L s.heap ((D, dictOf [⟨PyData.keyHash w.params (Str.ofString "current"), .str (Str.ofString "current") k0, .str S t0⟩, ⟨PyData.keyHash w.params (Str.ofString "cursor"), .str (Str.ofString "cursor") k1, .int c t1⟩, ⟨PyData.keyHash w.params (Str.ofString "limit"), .str (Str.ofString "limit") k2, .int l t2⟩, ⟨PyData.keyHash w.params (Str.ofString "limit_backward"), .str (Str.ofString "limit_backward") k3, .int lb t3⟩, ⟨PyData.keyHash w.params (Str.ofString "bra"), .str (Str.ofString "bra") k4, .int br t4⟩, ⟨PyData.keyHash w.params (Str.ofString "ket"), .str (Str.ofString "ket") k5, .int ke t5⟩, ⟨PyData.keyHash w.params (Str.ofString "I_p1"), .str (Str.ofString "I_p1") k6, .int p1 t6⟩] 7) :: (I, instObj 1085 D) :: oth)) (TT : Top qv lo mean mg mb h₀)
    (hk : cs.kind = .function) (d0 : NeN D I) (hO : OwnOff oth [D, I]) (hS : S.length ≤ 1000) (hd : dp + 14 < recursionLimit) (hu : un + 120 < cLine) (g0 : 0 ≤ br) (g1 : br ≤ ke) (g2 : ke ≤ l) (g3 : l ≤ (S.length : Int))
    (ret : ∀ (S' : Str) (c' l' lb' br' ke' p1' : Int) (t0' t1' t2' t3' t4' t5' t6' : Tok) (v : Value) (h' : Heap) (tk' : Nat), Fr h₀ L h' m → News h₀ L h' ((D, dictOf [⟨PyData.keyHash w.params (Str.ofString "current"), .str (Str.ofString "current") k0, .str S' t0'⟩, ⟨PyData.keyHash w.params (Str.ofString "cursor"), .str (Str.ofString "cursor") k1, .int c' t1'⟩, ⟨PyData.keyHash w.params (Str.ofString "limit"), .str (Str.ofString "limit") k2, .int l' t2'⟩, ⟨PyData.keyHash w.params (Str.ofString "limit_backward"), .str (Str.ofString "limit_backward") k3, .int lb' t3'⟩, ⟨PyData.keyHash w.params (Str.ofString "bra"), .str (Str.ofString "bra") k4, .int br' t4'⟩, ⟨PyData.keyHash w.params (Str.ofString "ket"), .str (Str.ofString "ket") k5, .int ke' t5'⟩, ⟨PyData.keyHash w.params (Str.ofString "I_p1"), .str (Str.ofString "I_p1") k6, .int p1' t6'⟩] 7) :: (I, instObj 1085 D) :: oth) → (S' = Txt.slice S (some 0) (some br) ++ Str.ofString "" ++ Txt.slice S (some ke) none ∧ l' = l + (((Str.ofString "").length : Int) - (ke - br)) ∧ c' = (if c ≥ ke then c + (((Str.ofString "").length : Int) - (ke - br)) else if c > br then br else c) ∧ lb' = lb ∧ br' = br ∧ ke' = br + ((Str.ofString "").length : Int) ∧ p1' = p1 ∧ v = .none) → Q v { s with heap := h', toks := tk' }) :
    wpAny (model pg w) (ktrTop dp un gd cn cs L a ccd cl outer) (call (.ref 161) [.ref I]) Q E s := by
  have key : rl = rl := rfl
  have e0 : (D : Nat) ≠ I := d0
  revert X key
  k_fill
  intro X _
  refine wpAny_call ?_
  k_dflt cell_enter
  (repeat' (first | ((with_reducible refine of_halt ?_); first | ((with_reducible show wpAny _ _ (call (Value.ref 154) _) _ _ _); k_dflt (refine' c_slice_fromE ?k1 ?k2 ?k3 ?k4 ?k5 ?k6 ?n0 ?nO ?hS ?hd ?hu ?h0 ?h1 ?h2 ?h3 ?h4 ?_; (case k1 | k2 | k3 | k4 | k5 => k_asm); (case k6 => first | exact rfl | assumption); (case n0 | nO => assumption); (case hS => first | assumption | omega | (size_fits; done)); (case hd => ktr_room); (case hu => ktr_units); (case h0 | h1 | h2 | h3 | h4 => first | assumption | omega | (size_fits; done)); k_whole); intro u0 u1 u2 u3 u4 u5 u6 h9 tk9 F9 N9; (try dsimp only))) | (k_unfold; (try dsimp only)) | (k_end; kc_close) | walk1 | (dsimp only; walk1)))
  all_goals (refine' ret _ _ _ _ _ _ _ _ _ _ _ _ _ _ _ _ _ ?cF ?cN ?cR; (case cF | cN => k_asm); (case cR => (refine' ⟨?_, ?_, ?_, ?_, ?_, ?_, ?_, ?_⟩ <;> (first | rfl | exact ⟨_, rfl⟩ | ((try simp only [decide_eq_true_eq, decide_eq_false_iff_not, Bool.not_eq_true] at *); (repeat' split) <;> first | rfl | omega | (exfalso; omega) | contradiction | (simp_all; done))))))
theorem c_slice_delE {w : World} {lo : List Str} {mean : ExcName → Option Value} {mg mb : Str → Option Value} {dp un : Nat} {gd : Option (List Code)} {cn : Str} {cs : Scope} {a : Addr} {ccd : Value} {cl : List (Str × Addr)} {outer : List Env} {A₀ : Around} {base h₀ : Heap} {L : Addr} {m : Str → Option Value} {s : Shared} {Q E : Value → Shared → Prop}
    {D I : Addr} {oth : List (Addr × Obj)} {k0 k1 k2 k3 k4 k5 k6 t0 t1 t2 t3 t4 t5 t6 : Tok} {S : Str} {c l lb br ke p1 : Int} 
    (B : Below A₀ base outer h₀) (F : Fr h₀ L s.heap m) (X : (kL w.params).In h₀) (N : News h₀ L s.heap ((D, dictOf [⟨PyData.keyHash w.params (Str.ofString "current"), .str (Str.ofString "current") k0, .str S t0⟩, ⟨PyData.keyHash w.params (Str.ofString "cursor"), .str (Str.ofString "cursor") k1, .int c t1⟩, ⟨PyData.keyHash w.params (Str.ofString "limit"), .str (Str.ofString "limit") k2, .int l t2⟩, ⟨PyData.keyHash w.params (Str.ofString "limit_backward"), .str (Str.ofString "limit_backward") k3, .int lb t3⟩, ⟨PyData.keyHash w.params (Str.ofString "bra"), .str (Str.ofString "bra") k4, .int br t4⟩, ⟨PyData.keyHash w.params (Str.ofString "ket"), .str (Str.ofString "ket") k5, .int ke t5⟩, ⟨PyData.keyHash w.params (Str.ofString "I_p1"), .str (Str.ofString "I_p1") k6, .int p1 t6⟩] 7) :: (I, instObj 1085 D) :: oth)) (TT : Top qv lo mean mg mb h₀)
    (hk : cs.kind = .function) (d0 : NeN D I) (hO : OwnOff oth [D, I]) (hS : S.length ≤ 1000) (hd : dp + 14 < recursionLimit) (hu : un + 120 < cLine) (g0 : 0 ≤ br) (g1 : br ≤ ke) (g2 : ke ≤ l) (g3 : l ≤ (S.length : Int))
    (ret : ∀ (t0' t1' t2' t3' t4' t5' t6' : Tok) (h' : Heap) (tk' : Nat), Fr h₀ L h' m → News h₀ L h' ((D, dictOf [⟨PyData.keyHash w.params (Str.ofString "current"), .str (Str.ofString "current") k0, .str (Txt.slice S (some 0) (some br) ++ Str.ofString "" ++ Txt.slice S (some ke) none) t0'⟩, ⟨PyData.keyHash w.params (Str.ofString "cursor"), .str (Str.ofString "cursor") k1, .int (if c ≥ ke then c + (((Str.ofString "").length : Int) - (ke - br)) else if c > br then br else c) t1'⟩, ⟨PyData.keyHash w.params (Str.ofString "limit"), .str (Str.ofString "limit") k2, .int (l + (((Str.ofString "").length : Int) - (ke - br))) t2'⟩, ⟨PyData.keyHash w.params (Str.ofString "limit_backward"), .str (Str.ofString "limit_backward") k3, .int lb t3'⟩, ⟨PyData.keyHash w.params (Str.ofString "bra"), .str (Str.ofString "bra") k4, .int br t4'⟩, ⟨PyData.keyHash w.params (Str.ofString "ket"), .str (Str.ofString "ket") k5, .int (br + ((Str.ofString "").length : Int)) t5'⟩, ⟨PyData.keyHash w.params (Str.ofString "I_p1"), .str (Str.ofString "I_p1") k6, .int p1 t6'⟩] 7) :: (I, instObj 1085 D) :: oth) → Q .none { s with heap := h', toks := tk' }) :
    wpAny (model pg w) (ktrTop dp un gd cn cs L a ccd cl outer) (call (.ref 161) [.ref I]) Q E s := by
  refine c_slice_del B F X N TT hk d0 hO hS hd hu g0 g1 g2 g3 ?_
  intro S' c' l' lb' br' ke' p1' t0' t1' t2' t3' t4' t5' t6' v h' tk' F9 N9 R9
  obtain ⟨q1, q2, q3, q4, q5, q6, q7, q8⟩ := R9
  (replace q1 := Eq.symm q1; subst q1); (replace q2 := Eq.symm q2; subst q2); (replace q3 := Eq.symm q3; subst q3); (replace q4 := Eq.symm q4; subst q4); (replace q5 := Eq.symm q5; subst q5); (replace q6 := Eq.symm q6; subst q6); (replace q7 := Eq.symm q7; subst q7); (replace q8 := Eq.symm q8; subst q8)
  exact ret t0' t1' t2' t3' t4' t5' t6' h' tk' F9 N9

end Lith
end
section
open PySem PySem.W PyProof.Rows PySem.Calls
set_option Elab.async false
namespace Lith
noncomputable def gdF (R : List Nat) : List Nat := if [100, 103].isPrefixOf R then 103 :: R.drop 2 else R
theorem gd_len : (Str.ofString "gd").length = 2 := by decide +kernel
theorem gd_rv : rv (Str.ofString "gd") = [100, 103] := by decide +kernel
theorem g_len : (Str.ofString "g").length = 1 := by decide +kernel
theorem g_rv : rv (Str.ofString "g") = [103] := by decide +kernel
theorem nil_len : (Str.ofString "").length = 0 := by decide +kernel
theorem ends_rv {S z : Str} : Txt.endswith S z = true ↔ rv z <+: rv S := by
  rw [endswith_iff]
  unfold rv
  rw [List.reverse_prefix]
theorem rv_whole {S : Str} {lb c : Int} (hc : c = (S.length : Int)) (hb : lb = 0) : rv (Txt.slice S (some lb) (some c)) = rv S := by
  subst hb; subst hc
  have := rv_slice0 (S := S) (x := (S.length : Int)) (n := 0) (by omega) (Nat.zero_le _)
  rw [this]; rfl
theorem gd_no {S : Str} {lb c : Int} (hc : c = (S.length : Int)) (hb : lb = 0) (h : Txt.endswith (Txt.slice S (some lb) (some c)) (Str.ofString "gd") = false) : rv S = gdF (rv S) := by
  have : ¬ [100, 103] <+: rv S := fun p => by
    have := ends_rv (S := Txt.slice S (some lb) (some c)) (z := Str.ofString "gd")
    rw [gd_rv, rv_whole hc hb] at this
    rw [this.mpr p] at h; exact absurd h (by decide)
  unfold gdF
  rw [if_neg (fun q => this (isPre.mp q))]
theorem gd_yes {S : Str} {lb c x : Int} (hc : c = (S.length : Int)) (hb : lb = 0) (h : Txt.endswith (Txt.slice S (some lb) (some c)) (Str.ofString "gd") = true) (hx : x = c - ((Str.ofString "gd").length : Int)) (hn : ((Str.ofString "gd").length : Int) ≤ c - lb) : rv (Txt.slice S (some 0) (some x) ++ Str.ofString "g" ++ Txt.slice S (some c) none) = gdF (rv S) := by
  rw [gd_len] at hx hn
  have := (ends_rv (S := Txt.slice S (some lb) (some c)) (z := Str.ofString "gd")).mp h
  rw [gd_rv, rv_whole hc hb] at this
  rw [cut_rv (n := 2) (by omega) (by omega) hc, g_rv]
  unfold gdF
  rw [if_pos (isPre.mpr this)]; rfl
theorem ends_len {S z : Str} {lb c : Int} (h0 : 0 ≤ lb) (h1 : lb ≤ c) (h2 : c ≤ (S.length : Int)) (h : Txt.endswith (Txt.slice S (some lb) (some c)) z = true) : (z.length : Int) ≤ c - lb := by
  have := (ends_rv.mp h).length_le
  rw [rv_len, rv_len] at this
  obtain ⟨a, rfl⟩ : ∃ a : Nat, lb = a := ⟨lb.toNat, by omega⟩
  obtain ⟨b, rfl⟩ : ∃ b : Nat, c = b := ⟨c.toNat, by omega⟩
  have e := congrArg List.length (slice_ss (S := S) (a := a) (b := b) (by omega) (by omega))
  rw [List.length_take, List.length_drop, cps_len, cps_len] at e
  omega
end Lith
end
section
open PySem PySem.W PyProof.Rows PySem.Calls
set_option Elab.async false
namespace Lith
/-- the endings of a table fall, one by one (the number bounds the falls) -/
noncomputable def st2F (ks : Keys) (p : Nat) (n : Nat) : List Nat → List Nat :=
  Nat.rec (fun R => R) (fun _ ih R => if R.length < p then R
    else if (bestK ks (R.take (R.length - p))).2 = 0 then R
    else if (bestK ks (R.take (R.length - p))).1 = 0 then R
    else ih (R.drop (bestK ks (R.take (R.length - p))).1)) n
theorem st2F_le (ks : Keys) (p : Nat) : ∀ (n : Nat) (R : List Nat), R.length ≤ n → st2F ks p (n + 1) R = st2F ks p n R
  | 0, R, h => by
    show (if R.length < p then R else if _ then R else if _ then R else R.drop _) = R
    have : R = [] := List.length_eq_zero_iff.mp (Nat.le_zero.mp h)
    subst this
    rw [List.drop_nil, ite_self, ite_self, ite_self]
  | n + 1, R, h => by
    show (if R.length < p then R else if (bestK ks (R.take (R.length - p))).2 = 0 then R else if (bestK ks (R.take (R.length - p))).1 = 0 then R else st2F ks p (n + 1) (R.drop (bestK ks (R.take (R.length - p))).1))
      = (if R.length < p then R else if (bestK ks (R.take (R.length - p))).2 = 0 then R else if (bestK ks (R.take (R.length - p))).1 = 0 then R else st2F ks p n (R.drop (bestK ks (R.take (R.length - p))).1))
    by_cases hz : (bestK ks (R.take (R.length - p))).1 = 0
    · rw [if_pos hz, if_pos hz]
    · rw [if_neg hz, if_neg hz, st2F_le ks p n]
      rw [List.length_drop]; omega
theorem st2F_ge (ks : Keys) (p : Nat) (R : List Nat) (n : Nat) (h : R.length ≤ n) : st2F ks p n R = st2F ks p R.length R := by
  induction n with
  | zero => rw [Nat.le_zero.mp h]
  | succ n ih =>
    by_cases e : R.length = n + 1
    · rw [e]
    · have : R.length ≤ n := by omega
      rw [st2F_le ks p n R this, ih this]
noncomputable def st2 (ks : Keys) (p : Nat) (R : List Nat) : List Nat := st2F ks p R.length R
theorem st2_eq (ks : Keys) (p : Nat) (R : List Nat) : st2 ks p R = if R.length < p then R
    else if (bestK ks (R.take (R.length - p))).2 = 0 then R
    else if (bestK ks (R.take (R.length - p))).1 = 0 then R
    else st2 ks p (R.drop (bestK ks (R.take (R.length - p))).1) := by
  have e : st2 ks p R = st2F ks p (R.length + 1) R := (st2F_ge ks p R (R.length + 1) (Nat.le_succ _)).symm
  rw [e]
  show (if R.length < p then R else if (bestK ks (R.take (R.length - p))).2 = 0 then R else if (bestK ks (R.take (R.length - p))).1 = 0 then R else st2F ks p R.length (R.drop (bestK ks (R.take (R.length - p))).1)) = _
  rw [st2F_ge ks p (R.drop (bestK ks (R.take (R.length - p))).1) R.length (by rw [List.length_drop]; omega)]
  rfl
theorem best_pos {ks : Keys} (h : ks.all (fun k => Nat.ble 1 k.1.length) = true) {t : List Nat} (n : ¬ (bestK ks t).2 = 0) : 1 ≤ (bestK ks t).1 := by
  rcases (best_spec ks t).2 with e | ⟨k, hk, p, e⟩
  · rw [e] at n; exact absurd rfl n
  · rw [e]; exact Nat.le_of_ble_eq_true (List.all_eq_true.mp h k hk)
theorem pos_1 {t : List Nat} {n : Nat} {r : Int} (e : bestK (keysOf tab1) t = (n, r)) (h : ¬ r = 0) : 1 ≤ n := by
  have := best_pos (ks := keysOf tab1) (by decide +kernel) (t := t) (by rw [e]; exact h)
  rw [e] at this; exact this
/-- the loop's word -/
structure W2 (p : Int) (S0 : Str) (S : Str) (c l lb : Int) : Prop where
  c : c = (S.length : Int)
  l : l = (S.length : Int)
  lb : lb = 0
  le : S.length ≤ S0.length
  st : st2 (keysOf tab1) p.toNat (rv S) = st2 (keysOf tab1) p.toNat (rv S0)
section
variable {S S0 : Str} {lb c l x p : Int} {n : Nat} {r : Int}
theorem w2_out0 (W : W2 p S0 S c l lb) (h : c < p) : rv S = st2 (keysOf tab1) p.toNat (rv S0) := by
  rw [← W.st, st2_eq, if_pos (by rw [rv_len]; have := W.c; omega)]
theorem w2_out (W : W2 p S0 S c l lb) (hp : 0 ≤ p) (hn : ¬ c < p) (e : bestK (keysOf tab1) (tl S p c) = (n, r)) (h : r = 0) : rv S = st2 (keysOf tab1) p.toNat (rv S0) := by
  rw [tl_p1 hp W.c] at e
  rw [← W.st, st2_eq, if_neg (by rw [rv_len]; have := W.c; omega), e, if_pos h]
theorem w2_in (W : W2 p S0 S c l lb) (hp : 0 ≤ p) (hn : ¬ c < p) (e : bestK (keysOf tab1) (tl S p c) = (n, r)) (h : ¬ r = 0) (hN : (n : Int) ≤ c - p) (hx : x = c - (n : Int)) (hc : ((Str.ofString "").length : Int) = 0) : W2 p S0 (Txt.slice S (some 0) (some x) ++ Str.ofString "" ++ Txt.slice S (some c) none) x (l + (((Str.ofString "").length : Int) - (c - x))) lb := by
  have w1 := W.c
  have w2 := W.l
  have w3 := W.le
  have nl := new_len (z := Str.ofString "") hx W.c hN hp W.c
  have rvd : rv (Txt.slice S (some 0) (some x) ++ Str.ofString "" ++ Txt.slice S (some c) none) = (rv S).drop n := by
    rw [cut_rv (n := n) (by omega) (by omega) W.c]; rfl
  have ps := pos_1 e h
  refine ⟨by omega, by omega, W.lb, by omega, ?_⟩
  rw [rvd, ← W.st]
  rw [tl_p1 hp W.c] at e
  rw [st2_eq (keysOf tab1) p.toNat (rv S), if_neg (by rw [rv_len]; omega), e, if_neg h, if_neg (by show ¬ n = 0; omega)]
theorem w2_in2 (W : W2 p S0 S c l lb) (hp : 0 ≤ p) (hn : ¬ c < p) (e : bestK (keysOf tab1) (tl S p c) = (n, r)) (h : ¬ r = 0) (hN : (n : Int) ≤ c - p) (hx : x = c - (n : Int)) (hc : ((Str.ofString "").length : Int) = 0) : W2 p S0 (Txt.slice S (some 0) (some x) ++ Str.ofString "" ++ Txt.slice S (some c) none) (if x ≥ c then x + (((Str.ofString "").length : Int) - (c - x)) else if x > x then x else x) (l + (((Str.ofString "").length : Int) - (c - x))) lb := by
  have ps := pos_1 e h
  rw [if_neg (by omega), if_neg (by omega)]
  exact w2_in W hp hn e h hN hx hc
theorem w2_less (W : W2 p S0 S c l lb) (hp : 0 ≤ p) (hn : ¬ c < p) (e : bestK (keysOf tab1) (tl S p c) = (n, r)) (h : ¬ r = 0) (hN : (n : Int) ≤ c - p) (hx : x = c - (n : Int)) (hc : ((Str.ofString "").length : Int) = 0) : (Txt.slice S (some 0) (some x) ++ Str.ofString "" ++ Txt.slice S (some c) none).length < S.length := by
  have w1 := W.c
  have nl := new_len (z := Str.ofString "") hx W.c hN hp W.c
  have ps := pos_1 e h
  omega
end
end Lith
end
section
open PySem PySem.W PyProof.Rows PySem.Calls
set_option Elab.async false
namespace Lith
/-- the place behind the first run of vowels and one sign more -/
noncomputable def P1S (S : Str) (p : Int) : Prop := ∃ st : Int, (st = 0 ∨ (st = 1 ∧ chr S 0 = 97 ∧ 6 < S.length)) ∧ 0 ≤ p ∧ p ≤ (S.length : Int) ∧
  (((∀ i, st ≤ i → i < (S.length : Int) → ¬ vow S i) ∧ p = (S.length : Int)) ∨ ∃ i, st ≤ i ∧ i < (S.length : Int) ∧ vow S i ∧ (∀ x, st ≤ x → x < i → ¬ vow S x) ∧
    (((∀ x, i + 1 ≤ x → x < (S.length : Int) → vow S x) ∧ p = (S.length : Int)) ∨ ∃ j, i + 1 ≤ j ∧ j < (S.length : Int) ∧ ¬ vow S j ∧ (∀ x, i + 1 ≤ x → x < j → vow S x) ∧ p = j + 1))
noncomputable def StS (S : Str) (st : Int) : Prop := (st = 0 ∨ (st = 1 ∧ chr S 0 = 97 ∧ 6 < S.length)) ∧ 0 ≤ st ∧ st ≤ (S.length : Int)
noncomputable def aposF (R : List Nat) : List Nat := match R with
  | 39 :: t => t
  | _ => R
noncomputable def stemR (p : Nat) (R : List Nat) : List Nat :=
  aposF (gdF (rep (keysOf tab3) as3 (st2 (keysOf tab1) p (rep (keysOf tab3) as3 (cutK (keysOf tab0) p (rep (keysOf tab2) as2 R))))))
section
variable {S : Str} {st l i p : Int}
theorem p1_a (H : StS S st) (hl : l = (S.length : Int)) (h : ∀ i, st ≤ i → i < l → ¬ vow S i) (e : p = l) : P1S S p :=
  ⟨st, H.1, by omega, by omega, .inl ⟨fun i a b => h i a (by omega), by omega⟩⟩
theorem p1_b (H : StS S st) (hl : l = (S.length : Int)) (h0 : st ≤ i) (h1 : i < l) (h2 : vow S i) (h3 : ∀ x, st ≤ x → x < i → ¬ vow S x) (h : ∀ x, i + 1 ≤ x → x < l → vow S x) (e : p = l) : P1S S p :=
  ⟨st, H.1, by omega, by omega, .inr ⟨i, h0, by omega, h2, h3, .inl ⟨fun i a b => h i a (by omega), by omega⟩⟩⟩
theorem p1_c {j : Int} (H : StS S st) (hl : l = (S.length : Int)) (h0 : st ≤ i) (h1 : i < l) (h2 : vow S i) (h3 : ∀ x, st ≤ x → x < i → ¬ vow S x) (g0 : i + 1 ≤ j) (g1 : j < l) (g2 : ¬ vow S j) (g3 : ∀ x, i + 1 ≤ x → x < j → vow S x) (e : p = j + 1) : P1S S p :=
  ⟨st, H.1, by have := H.2; omega, by omega, .inr ⟨i, h0, by omega, h2, h3, .inr ⟨j, g0, by omega, g2, g3, e⟩⟩⟩
theorem p1_nn (H : P1S S p) : 0 ≤ p ∧ p ≤ (S.length : Int) := by
  obtain ⟨st, _, a, b, _⟩ := H
  exact ⟨a, b⟩
theorem st_0 : StS S 0 := ⟨.inl rfl, by omega, by omega⟩
theorem st_1 (h : chr S 0 = 97) (g : 6 < S.length) : StS S 1 := ⟨.inr ⟨rfl, h, g⟩, by omega, by omega⟩
theorem rv_last {c : Int} (hc : c = (S.length : Int)) (h : 0 < c) : ∃ t, rv S = chr S (c - 1) :: t := by
  have hl := cps_len S
  have g := chr_get (S := S) (i := c - 1) (by omega) (by omega)
  unfold rv
  cases q : S.cps.toList.reverse with
  | nil =>
    have := congrArg List.length q
    rw [List.length_reverse, hl] at this
    simp at this; omega
  | cons x t =>
    refine ⟨t, ?_⟩
    have e2 : S.cps.toList.reverse[0]? = some x := by rw [q]; rfl
    rw [List.getElem?_reverse (by omega), hl] at e2
    rw [show S.length - 1 - 0 = (c - 1).toNat by omega, g] at e2
    injection e2 with e2
    rw [e2]
theorem apos_0 {c : Int} (hc : c = (S.length : Int)) (h : c ≤ 0) : rv S = aposF (rv S) := by
  have : rv S = [] := by
    apply List.eq_nil_of_length_eq_zero
    rw [rv_len]; omega
  rw [this]; rfl
theorem apos_no {c : Int} (hc : c = (S.length : Int)) (h : 0 < c) (n : ¬ (⟨#[chr S (c - 1)]⟩ : Str) = Str.ofString "'") : rv S = aposF (rv S) := by
  obtain ⟨t, e⟩ := rv_last hc h
  have e39 : Str.ofString "'" = (⟨#[39]⟩ : Str) := by decide +kernel
  have : chr S (c - 1) ≠ 39 := fun q => n (by rw [q, e39])
  rw [e]
  unfold aposF
  split
  · rename_i q; injection q with q; exact absurd q this
  · rfl
theorem apos_yes {c x : Int} (hc : c = (S.length : Int)) (h : 0 < c) (n : (⟨#[chr S (c - 1)]⟩ : Str) = Str.ofString "'") (hx : x = c - 1) : rv (Txt.slice S (some 0) (some x) ++ Str.ofString "" ++ Txt.slice S (some c) none) = aposF (rv S) := by
  obtain ⟨t, e⟩ := rv_last hc h
  have e39 : Str.ofString "'" = (⟨#[39]⟩ : Str) := by decide +kernel
  rw [e39] at n
  injection n with n
  have n' := congrArg (fun a : Array Nat => a.toList) n
  simp at n'
  rw [cut_rv (n := 1) (by omega) (by omega) hc, e, n']
  rfl
theorem st_1b {c : Int} (hc : c = 0) (h : ((⟨#[chr S c]⟩ : Str) != Str.ofString "a") = false) (g : ¬ (S.length : Int) ≤ 6) : StS S (c + 1) := by
  subst hc
  have e97 : Str.ofString "a" = (⟨#[97]⟩ : Str) := by decide +kernel
  have h3 := bne_eq_false_iff_eq.mp h
  rw [e97] at h3
  injection h3 with h3
  have h4 := congrArg (fun a : Array Nat => a.toList) h3
  simp at h4
  exact st_1 h4 (by omega)
theorem apos_nob {c : Int} (hc : c = (S.length : Int)) (h : 0 < c) (n : ((⟨#[chr S (c - 1)]⟩ : Str) != Str.ofString "'") = true) : rv S = aposF (rv S) :=
  apos_no hc h (bne_iff_ne.mp n)
theorem apos_yesb {c x l : Int} (n : ((⟨#[chr S (c - 1)]⟩ : Str) != Str.ofString "'") = false) (hc : c = (S.length : Int)) (h : 0 < c) (hx : x = c - 1) (hl : l = c) : rv (Txt.slice S (some 0) (some x) ++ Str.ofString "" ++ Txt.slice S (some l) none) = aposF (rv S) := by
  subst hl
  exact apos_yes hc h (bne_eq_false_iff_eq.mp n) hx
theorem stem_chain {A B C D' F' G : Str} {q : Nat} (e1 : rv A = rep (keysOf tab2) as2 (rv S)) (e2 : rv B = cutK (keysOf tab0) q (rv A)) (e3 : rv C = rep (keysOf tab3) as3 (rv B)) (e4 : rv D' = st2 (keysOf tab1) q (rv C)) (e5 : rv F' = rep (keysOf tab3) as3 (rv D')) (e6 : rv G = gdF (rv F')) : stemR q (rv S) = aposF (rv G) := by
  unfold stemR
  rw [e6, e5, e4, e3, e2, e1]
end
end Lith
end
section
open PySem PySem.W PyProof.Rows PySem.Calls PySem.Spec
set_option Elab.async false
set_option maxRecDepth 100000
set_option maxHeartbeats 1000000
namespace Lith
section
variable {prog : Program} {w : World} {A A₀ : Around} {E : Value → Shared → Prop} {s s' : Shared} {base g g₀ G : Heap} {outer : List Env} {L a e C : Addr} {m : Str → Option Value} {name : Str} {scope : Scope} {cd : Value}
  {vs : List Value} {b₀ : Stmt} {suite : List Stmt} {pos np : Pos} {rest : List ExceptHandler} {Q : Flow → Shared → Prop} {news : List (Addr × Obj)} {KF : Frag}
  {p : Program} {loose : List Str} {mean : ExcName → Option Value} {mg mb : Str → Option Value} {x : Str}
/-- the frame that raised looks at its own exception -/
theorem looks_made {M : Model} {base h : Heap} {env : Env} {outer : List Env} {L e : Addr} {cls : Value} {args : List Value} {Q : Unit → Shared → Prop}
    (hfr : A.frames = some (env :: outer)) (hf : env.frame = some L) (hkb : base.StaysIn h) (hl : h.FunFrames base (env :: outer)) (hx : Heap.MadeExcOf h s.heap e cls args)
    (hQ : ∀ h' t, Heap.HeldW base (env :: outer) e cls (.ref t) L h' → s.heap.UpToSlots h' → Q () { s with heap := h' }) : wpAny M A (noteFrame (.ref e) env) Q E s := by
  obtain ⟨t, he, htn, ht⟩ := hx.there
  have fresh : ∀ b, h.get? b = none → base.get? b = none := fun b hb => by
    cases hq : base.get? b with
    | none => rfl
    | some o' => have := hkb b o' hq; rw [hb] at this; cases this
  unfold noteFrame
  simp only [hf]
  refine wpAny_bind (wpAny_field he rfl (x := .none) rfl ?_)
  rw [if_neg (by decide)]
  refine wpAny_entryW (a0 := .ref t) hfr (hl.of_keeps fun b o hb _ => ⟨o, hx.keeps b o hb, rfl⟩) hf he (fun b o hb => hx.keeps b o (hkb b o hb)) (fresh e hx.new) rfl (by show 1 < 6; decide) rfl fun h' hN => ?_
  obtain ⟨k1, k2, k3, k4⟩ := hN
  exact hQ h' t ⟨k1, fresh e hx.new, k2, k3⟩ k4
theorem caught_here (hx : Heap.MadeExcOf G s'.heap e (.ref C) vs) (F : Fr g L G m) (N : News g L G news) (K : Below A₀ base outer g) (XB : KF.In base) (TB : Top p loose mean mg mb base) (T0 : KtsTurn (outer.filterMap (·.frame)) g₀ g)
    (ex : nsIn KF mainGlobals x = some (some (.ref C))) (q : ktsIn KF C "BaseException" = true)
    (k : ∀ h' g', KtsTurn (outer.filterMap (·.frame)) g₀ g' → Fr g' L h' m → News g' L h' news → Below A₀ base outer g' → KF.In g' → Top p loose mean mg mb g' →
      wpAny (model prog w) ((A₀.deeper (envOf name scope L a cd)).mark (some (.ref e))) (execs (b₀ :: suite) (envOf name scope L a cd)) Q E { s' with heap := h' })
    (hk : scope.kind = .function := by rfl) (hx' : (envOf name scope L a cd).kindOf x = some .globalImplicit := by rfl) (hd : (x == ("__debug__" : Str)) = false := by decide)
    (hE : PassesOwnAt (model prog w) ((A₀.deeper (envOf name scope L a cd)).mark (some (.ref e))) (A₀.deeper (envOf name scope L a cd)) (envOf name scope L a cd) E := by passes_own) :
    wpAny (model prog w) (A₀.deeper (envOf name scope L a cd)) (noteFrame (.ref e) (envOf name scope L a cd))
      (fun _ s₂ => wpAny (model prog w) (A₀.deeper (envOf name scope L a cd)) (setFlight (.ref e) none) (fun _ s₃ =>
        wpAny (model prog w) (A₀.deeper (envOf name scope L a cd)) (handleBy (.ref e) (envOf name scope L a cd) (.ExceptHandler (some (.Name x np)) none (b₀ :: suite) pos :: rest)) Q E s₃) E s₂) E s' := by
  have K' := K.push (name := name) (a := a) (cd := cd) F hk
  have hin : ∀ env ∈ (envOf name scope L a cd :: outer), ∀ b, env.frame = some b → b ∈ (envOf name scope L a cd :: outer).filterMap (·.frame) := fun env he b hb => List.mem_filterMap.mpr ⟨env, he, hb⟩
  have hBG : ∀ b o, G.get? b = some o → b ∉ (envOf name scope L a cd :: outer).filterMap (·.frame) → (hideAll G ((envOf name scope L a cd :: outer).filterMap (·.frame))).get? b = some o := fun b o q nm => hideAll_get _ q nm
  have hl : ∀ q ∈ news, (hideAll G ((envOf name scope L a cd :: outer).filterMap (·.frame))).get? q.1 = some q.2 ∧ g.get? q.1 = none := fun q hq => by
    refine ⟨hideAll_get _ (N q hq).1 fun hm => ?_, (N q hq).2.2⟩
    obtain ⟨env, he, hf⟩ := List.mem_filterMap.mp hm
    rcases List.mem_cons.mp he with rfl | he
    · exact (N q hq).2.1 (Option.some.inj hf).symm
    · obtain ⟨o, ho, _⟩ := (K.frames.mem (List.mem_filterMap.mpr ⟨env, he, hf⟩)).2
      rw [(N q hq).2.2] at ho; cases ho
  have hsm : G.UpToSlots s'.heap := Heap.UpToSlots.of_keeps hx.keeps
  have hL : (hideAll G ((envOf name scope L a cd :: outer).filterMap (·.frame))).get? L = none := by
    refine hideAll_none _ ?_
    exact List.mem_filterMap.mpr ⟨_, .head _, rfl⟩
  refine looks_made (base := hideAll G ((envOf name scope L a cd :: outer).filterMap (·.frame))) (Around.frames_deeper K.stack) rfl (fun b o q => of_hideAll _ q) (funFrames_hide K'.frames hin) hx fun h₄ t hheld₄ hsm₄ => ?_
  refine wpAny_landsW hheld₄ fun h₅ hheld hsm₅' => ?_
  have hsm₅ := hsm₄.trans hsm₅'
  obtain ⟨g₅, T₅, F₅, K₅⟩ := kts_ground K F hBG hheld.1 (hsm.trans hsm₅)
  have X₅ : KF.In g₅ := XB.keeps K₅.stays
  have P₅ : TopRead p loose mg mb g₅ := topRead_of (TB.keeps K₅.stays)
  obtain ⟨ob, hob, hobc⟩ := hheld.there
  obtain ⟨nm, q', N', bs, bm, hdct, sn, sub, ab, col, dd, k0, k1, k2, k3, k5, newId, hC, hbase, hbT⟩ := kts_cls X₅ q
  have hC₅ := F₅.keep _ _ hC
  refine wpAny_handleBy_cons (codeAny_handlers_test (name_K F₅ X₅ P₅ ex ?_ hk hx' hd)) (by intro q; cases q)
  refine wpAny_excMatches_sub_self hC₅ hob hobc hbase (codeAny_handlers_suite ?_)
  refine lands_againW hheld fun h₆ hfl₆ hsm₆ => ?_
  obtain ⟨g₆, T₆, F₆, K₆⟩ := kts_ground K F hBG hfl₆.1 ((hsm.trans hsm₅).trans hsm₆)
  have Nl : News g₆ L h₆ news := fun q hq => ⟨hfl₆.1 _ _ (hl q hq).1, (fun z => by have := (hl q hq).1; rw [z, hL] at this; cases this), T₆.none_ _ (hl q hq).2⟩
  have X₆ : KF.In g₆ := XB.keeps K₆.stays
  have P₆ : Top p loose mean mg mb g₆ := TB.keeps K₆.stays
  exact wpAny_passesOwnAt hE (k h₆ g₆ (T0.trans T₆) F₆ Nl K₆ X₆ P₆)
end
theorem AmTab.keeps {w : World} {h₀ g : Heap} {T b : Nat} {rows : List AmRow} (k : h₀.StaysIn g) (G : AmTab w h₀ T b rows) : AmTab w g T b rows := by
  refine ⟨?_, G.fits, G.small, fun k' hk => ?_⟩
  · obtain ⟨o, e, r⟩ := G.list
    exact ⟨o, k _ _ e, r⟩
  · obtain ⟨k0, k1, k2, u0, u1, u2, a, b⟩ := G.at_ k' hk
    exact ⟨k0, k1, k2, u0, u1, u2, k _ _ a, k _ _ b⟩
theorem GV.keeps {w : World} {h₀ g : Heap} (k : h₀.StaysIn g) (G : GV w h₀) : GV w g := by
  obtain ⟨es, ep, tb, g', e⟩ := G
  exact ⟨es, ep, tb, g', k _ _ e⟩
/-- where several ways meet, the base turned perhaps -/
noncomputable def JoinT {σ : Type} (A₀ : Around) (base : Heap) (outer : List Env) (g₀ : Heap) (L : Addr) (s : Shared) (Led : σ → List (Addr × Obj)) (ps : σ → List (Str × Value)) (stored : List Str) (m₀ : Str → Option Value) (P : σ → Prop) (f : Flow) (s₂ : Shared) : Prop :=
  f = .next ∧ ∃ (c : σ) (g' h' : Heap) (tk : Nat) (m' : Str → Option Value), s₂ = { s with heap := h', toks := tk } ∧ KtsTurn (outer.filterMap (·.frame)) g₀ g' ∧ Below A₀ base outer g' ∧ Fr g' L h' m' ∧ News g' L h' (Led c) ∧ (∀ p ∈ ps c, m' p.1 = some p.2) ∧ (∀ z, (∀ p ∈ ps c, z ≠ p.1) → stored.contains z = false → m' z = m₀ z) ∧ P c
theorem joinT_end {σ : Type} {A₀ : Around} {base g₀ g' : Heap} {outer : List Env} {L : Addr} {s : Shared} {Led : σ → List (Addr × Obj)} {news' : List (Addr × Obj)} {ps : σ → List (Str × Value)} {stored : List Str} {m₀ m' : Str → Option Value} {P : σ → Prop} {h' : Heap} {tk : Nat} (c : σ)
    (F : Fr g' L h' m') (N : News g' L h' news') (T : KtsTurn (outer.filterMap (·.frame)) g₀ g') (B : Below A₀ base outer g') (hn : ∀ p ∈ Led c, p ∈ news') (hk : ∀ p ∈ ps c, m' p.1 = some p.2) (hr : ∀ z, (∀ p ∈ ps c, z ≠ p.1) → stored.contains z = false → m' z = m₀ z) (hp : P c) :
    JoinT A₀ base outer g₀ L s Led ps stored m₀ P .next { s with heap := h', toks := tk } :=
  ⟨rfl, c, g', h', tk, m', rfl, T, B, F, fun p q => N p (hn p q), hk, hr, hp⟩
section
variable {prog : Program} {w : World} {A A₀ : Around} {E : Value → Shared → Prop} {Q : Flow → Shared → Prop} {s : Shared} {env : Env} {base g₀ g : Heap} {outer : List Env} {L : Addr}
theorem joinT_cut {σ : Type} {x : Stmt} {m₀ : Str → Option Value} {led : List (Addr × Obj)} (Led : σ → List (Addr × Obj)) (ps : σ → List (Str × Value)) (stored : List Str) (P : σ → Prop)
    (_F : Fr g L s.heap m₀) (_N : News g L s.heap led) (_B : Below A₀ base outer g) (_T : KtsTurn (outer.filterMap (·.frame)) g₀ g) (D : KtsDicts (outer.filterMap (·.frame)) g₀) (h1 : wpAny (model prog w) A (exec x env) (JoinT A₀ base outer g₀ L s Led ps stored m₀ P) E s)
    (h2 : ∀ (c : σ) (u : Str → Option Value) (g' h' : Heap) (tk : Nat), P c → KtsTurn (outer.filterMap (·.frame)) g₀ g' → Below A₀ base outer g' → KtsDicts (outer.filterMap (·.frame)) g' → Fr g' L h' (kstB (fun z => if stored.contains z then u z else m₀ z) (ps c)) → News g' L h' (Led c) → Q .next { s with heap := h', toks := tk }) :
    wpAny (model prog w) A (exec x env) Q E s := by
  refine wpAny_mono h1 (fun f s₂ j => ?_) fun _ _ x => x
  obtain ⟨rfl, c, g', h', tk, m', rfl, T', B', F', N', hk, hr, hp⟩ := j
  exact h2 c m' g' h' tk hp T' B' (D.turn T') (ksw_fr hk hr F') N'
end
noncomputable def TryMark : Prop := True
theorem tryMark : TryMark := trivial
end Lith
end
section
open PySem PySem.W PyProof.Rows PySem.Calls Lith
set_option Elab.async false
set_option maxRecDepth 100000
set_option maxHeartbeats 8000000
namespace Lith
local macro_rules | `(tactic| walk_at "subscriptTail") => `(tactic| (first | with_reducible refine hlt_67b07b ?_ | with_reducible refine hlt_5865bf ?_))

theorem c_fixc {w : World} {lo : List Str} {mean : ExcName → Option Value} {mg mb : Str → Option Value} {dp un : Nat} {gd : Option (List Code)} {cn : Str} {cs : Scope} {a : Addr} {ccd : Value} {cl : List (Str × Addr)} {outer : List Env} {A₀ : Around} {base h₀ : Heap} {L : Addr} {m : Str → Option Value} {s : Shared} {Q E : Value → Shared → Prop}
    {D I : Addr} {oth : List (Addr × Obj)} {k0 k1 k2 k3 k4 k5 k6 t0 t1 t2 t3 t4 t5 t6 : Tok} {S : Str} {c l lb br ke p1 : Int} 
    (B : Below A₀ base outer h₀) (F : Fr h₀ L s.heap m) (X : (kL w.params).In h₀) (N : News h₀ L s.heap ((D, dictOf [⟨PyData.keyHash w.params (Str.ofString "current"), .str (Str.ofString "current") k0, .str S t0⟩, ⟨PyData.keyHash w.params (Str.ofString "cursor"), .str (Str.ofString "cursor") k1, .int c t1⟩, ⟨PyData.keyHash w.params (Str.ofString "limit"), .str (Str.ofString "limit") k2, .int l t2⟩, ⟨PyData.keyHash w.params (Str.ofString "limit_backward"), .str (Str.ofString "limit_backward") k3, .int lb t3⟩, ⟨PyData.keyHash w.params (Str.ofString "bra"), .str (Str.ofString "bra") k4, .int br t4⟩, ⟨PyData.keyHash w.params (Str.ofString "ket"), .str (Str.ofString "ket") k5, .int ke t5⟩, ⟨PyData.keyHash w.params (Str.ofString "I_p1"), .str (Str.ofString "I_p1") k6, .int p1 t6⟩] 7) :: (I, instObj 1085 D) :: oth)) (TT : Top qv lo mean mg mb h₀)
    (hk : cs.kind = .function) (d0 : NeN D I) (hO : OwnOff oth [D, I]) (hS : S.length ≤ 1000) (hd : dp + 20 < recursionLimit) (hu : un + 200 < cLine) (hc : c = (S.length : Int)) (hl : l = (S.length : Int)) (hb : lb = 0) (hS9 : S.length ≤ 900) (AT : AmTab w h₀ 1073 1040 tab2)
    (ret : ∀ (S' : Str) (c' l' lb' br' ke' p1' : Int) (t0' t1' t2' t3' t4' t5' t6' : Tok) (v : Value) (h' : Heap) (tk' : Nat), Fr h₀ L h' m → News h₀ L h' ((D, dictOf [⟨PyData.keyHash w.params (Str.ofString "current"), .str (Str.ofString "current") k0, .str S' t0'⟩, ⟨PyData.keyHash w.params (Str.ofString "cursor"), .str (Str.ofString "cursor") k1, .int c' t1'⟩, ⟨PyData.keyHash w.params (Str.ofString "limit"), .str (Str.ofString "limit") k2, .int l' t2'⟩, ⟨PyData.keyHash w.params (Str.ofString "limit_backward"), .str (Str.ofString "limit_backward") k3, .int lb' t3'⟩, ⟨PyData.keyHash w.params (Str.ofString "bra"), .str (Str.ofString "bra") k4, .int br' t4'⟩, ⟨PyData.keyHash w.params (Str.ofString "ket"), .str (Str.ofString "ket") k5, .int ke' t5'⟩, ⟨PyData.keyHash w.params (Str.ofString "I_p1"), .str (Str.ofString "I_p1") k6, .int p1' t6'⟩] 7) :: (I, instObj 1085 D) :: oth) → (rv S' = rep (keysOf tab2) as2 (rv S) ∧ l' = (S'.length : Int) ∧ l' ≤ l + 6 ∧ lb' = 0 ∧ p1' = p1) → Q v { s with heap := h', toks := tk' }) :
    wpAny (model pg w) (ktrTop dp un gd cn cs L a ccd cl outer) (call (.ref 251) [.ref I]) Q E s := by
  have key : rl = rl := rfl
  have e0 : (D : Nat) ≠ I := d0
  revert X key
  k_fill
  intro X _
  refine wpAny_call ?_
  k_dflt cell_enter
  (repeat' (first | ((with_reducible refine of_halt ?_); first | ((with_reducible show wpAny _ _ (call (Value.ref 161) _) _ _ _); k_dflt (refine' c_slice_delE ?k1 ?k2 ?k3 ?k4 ?k5 ?k6 ?n0 ?nO ?hS ?hd ?hu ?h0 ?h1 ?h2 ?h3 ?_; (case k1 | k2 | k3 | k4 | k5 => k_asm); (case k6 => first | exact rfl | assumption); (case n0 | nO => assumption); (case hS => first | assumption | omega | (size_fits; done)); (case hd => ktr_room); (case hu => ktr_units); (case h0 | h1 | h2 | h3 => first | assumption | omega | (size_fits; done)); k_whole); intro u0 u1 u2 u3 u4 u5 u6 h9 tk9 F9 N9; (try dsimp only)) | ((with_reducible show wpAny _ _ (call (Value.ref 154) _) _ _ _); k_dflt (refine' c_slice_fromE ?k1 ?k2 ?k3 ?k4 ?k5 ?k6 ?n0 ?nO ?hS ?hd ?hu ?h0 ?h1 ?h2 ?h3 ?h4 ?_; (case k1 | k2 | k3 | k4 | k5 => k_asm); (case k6 => first | exact rfl | assumption); (case n0 | nO => assumption); (case hS => first | assumption | omega | (size_fits; done)); (case hd => ktr_room); (case hu => ktr_units); (case h0 | h1 | h2 | h3 | h4 => first | assumption | omega | (size_fits; done)); k_whole); intro u0 u1 u2 u3 u4 u5 u6 h9 tk9 F9 N9; (try dsimp only)) | ((with_reducible show wpAny _ _ (call (Value.ref 140) _) _ _ _); k_dflt (refine' c_bestE ?k1 ?k2 ?k3 ?k4 ?k5 ?k6 ?n0 ?nO ?hS ?hd ?hu ?h0 ?h1 ?h2 ?h3 ?h4 ?_; (case k1 | k2 | k3 | k4 | k5 => k_asm); (case k6 => first | exact rfl | assumption); (case n0 | nO => assumption); (case hS => first | assumption | omega | (size_fits; done)); (case hd => ktr_room); (case hu => ktr_units); (case h0 => first | assumption | exact AmTab.up (by assumption) (by assumption)); (case h1 => first | exact ok2 | exact ok3 | exact ok1 | exact ok0); (case h2 | h3 | h4 => first | assumption | omega | (size_fits; done)); k_whole); intro c9 u0 u1 u2 u3 u4 u5 u6 n9 r9 tk8 h9 tk9 eB9 hc9 hn9 F9 N9; (try dsimp only); (have rs9 := res_2 (by assumption))) | ((with_reducible show wpAny _ _ (subscriptTail _ _ (Value.ref 1082) (Value.int _ _)) _ _ _); k_dflt (refine' item_as3 ?k1 ?k2 ?h0 ?h1 ?_; (case k1 => k_asm); (case k2 => k_in); (case h0 | h1 => omega); k_whole); intro z9 tz9 ez9 lz9) | ((with_reducible show wpAny _ _ (subscriptTail _ _ (Value.ref 1074) (Value.int _ _)) _ _ _); k_dflt (refine' item_as2 ?k1 ?k2 ?h0 ?h1 ?_; (case k1 => k_asm); (case k2 => k_in); (case h0 | h1 => omega); k_whole); intro z9 tz9 ez9 lz9)) | (k_unfold; (try dsimp only)) | (k_end; kc_close) | walk1 | (dsimp only; walk1)))
  all_goals (refine' ret _ _ _ _ _ _ _ _ _ _ _ _ _ _ _ _ _ ?cF ?cN ?cR; (case cF | cN => k_asm); (case cR => ((try dsimp only); (rename (bestK _ _ = (_, _)) => eB); (rename (_ = c - ((_ : Nat) : Int)) => hX); (rename (((_ : Nat) : Int) ≤ c - lb) => hN); first | with_reducible exact ⟨rep_none hc hb eB (by assumption), hl, by omega, hb, rfl⟩ | ((rename (rv _ = List.getD _ _ _) => eZ); (have nl := fun z => new_len (z := z) hX hc hN (by omega) hc); exact ⟨rep_some hc hb eB (by assumption) hN hX hc eZ, by rw [nl]; omega, by omega, hb, rfl⟩))))
theorem c_fixcE {w : World} {lo : List Str} {mean : ExcName → Option Value} {mg mb : Str → Option Value} {dp un : Nat} {gd : Option (List Code)} {cn : Str} {cs : Scope} {a : Addr} {ccd : Value} {cl : List (Str × Addr)} {outer : List Env} {A₀ : Around} {base h₀ : Heap} {L : Addr} {m : Str → Option Value} {s : Shared} {Q E : Value → Shared → Prop}
    {D I : Addr} {oth : List (Addr × Obj)} {k0 k1 k2 k3 k4 k5 k6 t0 t1 t2 t3 t4 t5 t6 : Tok} {S : Str} {c l lb br ke p1 : Int} 
    (B : Below A₀ base outer h₀) (F : Fr h₀ L s.heap m) (X : (kL w.params).In h₀) (N : News h₀ L s.heap ((D, dictOf [⟨PyData.keyHash w.params (Str.ofString "current"), .str (Str.ofString "current") k0, .str S t0⟩, ⟨PyData.keyHash w.params (Str.ofString "cursor"), .str (Str.ofString "cursor") k1, .int c t1⟩, ⟨PyData.keyHash w.params (Str.ofString "limit"), .str (Str.ofString "limit") k2, .int l t2⟩, ⟨PyData.keyHash w.params (Str.ofString "limit_backward"), .str (Str.ofString "limit_backward") k3, .int lb t3⟩, ⟨PyData.keyHash w.params (Str.ofString "bra"), .str (Str.ofString "bra") k4, .int br t4⟩, ⟨PyData.keyHash w.params (Str.ofString "ket"), .str (Str.ofString "ket") k5, .int ke t5⟩, ⟨PyData.keyHash w.params (Str.ofString "I_p1"), .str (Str.ofString "I_p1") k6, .int p1 t6⟩] 7) :: (I, instObj 1085 D) :: oth)) (TT : Top qv lo mean mg mb h₀)
    (hk : cs.kind = .function) (d0 : NeN D I) (hO : OwnOff oth [D, I]) (hS : S.length ≤ 1000) (hd : dp + 20 < recursionLimit) (hu : un + 200 < cLine) (hc : c = (S.length : Int)) (hl : l = (S.length : Int)) (hb : lb = 0) (hS9 : S.length ≤ 900) (AT : AmTab w h₀ 1073 1040 tab2)
    (ret : ∀ (S' : Str) (c' l' lb' br' ke' : Int) (t0' t1' t2' t3' t4' t5' t6' : Tok) (v : Value) (h' : Heap) (tk' : Nat), rv S' = rep (keysOf tab2) as2 (rv S) → l' = (S'.length : Int) → l' ≤ l + 6 → lb' = 0 → Fr h₀ L h' m → News h₀ L h' ((D, dictOf [⟨PyData.keyHash w.params (Str.ofString "current"), .str (Str.ofString "current") k0, .str S' t0'⟩, ⟨PyData.keyHash w.params (Str.ofString "cursor"), .str (Str.ofString "cursor") k1, .int c' t1'⟩, ⟨PyData.keyHash w.params (Str.ofString "limit"), .str (Str.ofString "limit") k2, .int l' t2'⟩, ⟨PyData.keyHash w.params (Str.ofString "limit_backward"), .str (Str.ofString "limit_backward") k3, .int lb' t3'⟩, ⟨PyData.keyHash w.params (Str.ofString "bra"), .str (Str.ofString "bra") k4, .int br' t4'⟩, ⟨PyData.keyHash w.params (Str.ofString "ket"), .str (Str.ofString "ket") k5, .int ke' t5'⟩, ⟨PyData.keyHash w.params (Str.ofString "I_p1"), .str (Str.ofString "I_p1") k6, .int p1 t6'⟩] 7) :: (I, instObj 1085 D) :: oth) → Q v { s with heap := h', toks := tk' }) :
    wpAny (model pg w) (ktrTop dp un gd cn cs L a ccd cl outer) (call (.ref 251) [.ref I]) Q E s := by
  refine c_fixc B F X N TT hk d0 hO hS hd hu hc hl hb hS9 AT ?_
  intro S' c' l' lb' br' ke' p1' t0' t1' t2' t3' t4' t5' t6' v h' tk' F9 N9 R9
  obtain ⟨r1, r2, r3, r4, q1⟩ := R9
  (replace q1 := Eq.symm q1; subst q1)
  exact ret S' c' l' lb' br' ke' t0' t1' t2' t3' t4' t5' t6' v h' tk' r1 r2 r3 r4 F9 N9

end Lith
end
section
open PySem PySem.W PyProof.Rows PySem.Calls Lith
set_option Elab.async false
set_option maxRecDepth 100000
set_option maxHeartbeats 8000000
namespace Lith
local macro_rules | `(tactic| walk_at "pad 0") => `(tactic| skip)
local macro_rules | `(tactic| walk_at "subscriptTail") => `(tactic| (first | with_reducible refine hlt_67b07b ?_ | with_reducible refine hlt_5865bf ?_))

theorem c_chdz {w : World} {lo : List Str} {mean : ExcName → Option Value} {mg mb : Str → Option Value} {dp un : Nat} {gd : Option (List Code)} {cn : Str} {cs : Scope} {a : Addr} {ccd : Value} {cl : List (Str × Addr)} {outer : List Env} {A₀ : Around} {base h₀ : Heap} {L : Addr} {m : Str → Option Value} {s : Shared} {Q E : Value → Shared → Prop}
    {D I : Addr} {oth : List (Addr × Obj)} {k0 k1 k2 k3 k4 k5 k6 t0 t1 t2 t3 t4 t5 t6 : Tok} {S : Str} {c l lb br ke p1 : Int} 
    (B : Below A₀ base outer h₀) (F : Fr h₀ L s.heap m) (X : (kL w.params).In h₀) (N : News h₀ L s.heap ((D, dictOf [⟨PyData.keyHash w.params (Str.ofString "current"), .str (Str.ofString "current") k0, .str S t0⟩, ⟨PyData.keyHash w.params (Str.ofString "cursor"), .str (Str.ofString "cursor") k1, .int c t1⟩, ⟨PyData.keyHash w.params (Str.ofString "limit"), .str (Str.ofString "limit") k2, .int l t2⟩, ⟨PyData.keyHash w.params (Str.ofString "limit_backward"), .str (Str.ofString "limit_backward") k3, .int lb t3⟩, ⟨PyData.keyHash w.params (Str.ofString "bra"), .str (Str.ofString "bra") k4, .int br t4⟩, ⟨PyData.keyHash w.params (Str.ofString "ket"), .str (Str.ofString "ket") k5, .int ke t5⟩, ⟨PyData.keyHash w.params (Str.ofString "I_p1"), .str (Str.ofString "I_p1") k6, .int p1 t6⟩] 7) :: (I, instObj 1085 D) :: oth)) (TT : Top qv lo mean mg mb h₀)
    (hk : cs.kind = .function) (d0 : NeN D I) (hO : OwnOff oth [D, I]) (hS : S.length ≤ 1000) (hd : dp + 20 < recursionLimit) (hu : un + 200 < cLine) (hc : c = (S.length : Int)) (hl : l = (S.length : Int)) (hb : lb = 0) (hS9 : S.length ≤ 900) (AT : AmTab w h₀ 1081 1075 tab3)
    (ret : ∀ (S' : Str) (c' l' lb' br' ke' p1' : Int) (t0' t1' t2' t3' t4' t5' t6' : Tok) (v : Value) (h' : Heap) (tk' : Nat), Fr h₀ L h' m → News h₀ L h' ((D, dictOf [⟨PyData.keyHash w.params (Str.ofString "current"), .str (Str.ofString "current") k0, .str S' t0'⟩, ⟨PyData.keyHash w.params (Str.ofString "cursor"), .str (Str.ofString "cursor") k1, .int c' t1'⟩, ⟨PyData.keyHash w.params (Str.ofString "limit"), .str (Str.ofString "limit") k2, .int l' t2'⟩, ⟨PyData.keyHash w.params (Str.ofString "limit_backward"), .str (Str.ofString "limit_backward") k3, .int lb' t3'⟩, ⟨PyData.keyHash w.params (Str.ofString "bra"), .str (Str.ofString "bra") k4, .int br' t4'⟩, ⟨PyData.keyHash w.params (Str.ofString "ket"), .str (Str.ofString "ket") k5, .int ke' t5'⟩, ⟨PyData.keyHash w.params (Str.ofString "I_p1"), .str (Str.ofString "I_p1") k6, .int p1' t6'⟩] 7) :: (I, instObj 1085 D) :: oth) → (rv S' = rep (keysOf tab3) as3 (rv S) ∧ l' = (S'.length : Int) ∧ l' ≤ l + 6 ∧ lb' = 0 ∧ p1' = p1) → Q v { s with heap := h', toks := tk' }) :
    wpAny (model pg w) (ktrTop dp un gd cn cs L a ccd cl outer) (call (.ref 258) [.ref I]) Q E s := by
  have key : rl = rl := rfl
  have e0 : (D : Nat) ≠ I := d0
  revert X key
  k_fill
  intro X _
  refine wpAny_call ?_
  k_dflt cell_enter
  (repeat' (first | ((with_reducible refine of_halt ?_); first | ((with_reducible show wpAny _ _ (call (Value.ref 161) _) _ _ _); k_dflt (refine' c_slice_delE ?k1 ?k2 ?k3 ?k4 ?k5 ?k6 ?n0 ?nO ?hS ?hd ?hu ?h0 ?h1 ?h2 ?h3 ?_; (case k1 | k2 | k3 | k4 | k5 => k_asm); (case k6 => first | exact rfl | assumption); (case n0 | nO => assumption); (case hS => first | assumption | omega | (size_fits; done)); (case hd => ktr_room); (case hu => ktr_units); (case h0 | h1 | h2 | h3 => first | assumption | omega | (size_fits; done)); k_whole); intro u0 u1 u2 u3 u4 u5 u6 h9 tk9 F9 N9; (try dsimp only)) | ((with_reducible show wpAny _ _ (call (Value.ref 154) _) _ _ _); k_dflt (refine' c_slice_fromE ?k1 ?k2 ?k3 ?k4 ?k5 ?k6 ?n0 ?nO ?hS ?hd ?hu ?h0 ?h1 ?h2 ?h3 ?h4 ?_; (case k1 | k2 | k3 | k4 | k5 => k_asm); (case k6 => first | exact rfl | assumption); (case n0 | nO => assumption); (case hS => first | assumption | omega | (size_fits; done)); (case hd => ktr_room); (case hu => ktr_units); (case h0 | h1 | h2 | h3 | h4 => first | assumption | omega | (size_fits; done)); k_whole); intro u0 u1 u2 u3 u4 u5 u6 h9 tk9 F9 N9; (try dsimp only)) | ((with_reducible show wpAny _ _ (call (Value.ref 140) _) _ _ _); k_dflt (refine' c_bestE ?k1 ?k2 ?k3 ?k4 ?k5 ?k6 ?n0 ?nO ?hS ?hd ?hu ?h0 ?h1 ?h2 ?h3 ?h4 ?_; (case k1 | k2 | k3 | k4 | k5 => k_asm); (case k6 => first | exact rfl | assumption); (case n0 | nO => assumption); (case hS => first | assumption | omega | (size_fits; done)); (case hd => ktr_room); (case hu => ktr_units); (case h0 => first | assumption | exact AmTab.up (by assumption) (by assumption)); (case h1 => first | exact ok2 | exact ok3 | exact ok1 | exact ok0); (case h2 | h3 | h4 => first | assumption | omega | (size_fits; done)); k_whole); intro c9 u0 u1 u2 u3 u4 u5 u6 n9 r9 tk8 h9 tk9 eB9 hc9 hn9 F9 N9; (try dsimp only); (have rs9 := res_3 (by assumption))) | ((with_reducible show wpAny _ _ (subscriptTail _ _ (Value.ref 1082) (Value.int _ _)) _ _ _); k_dflt (refine' item_as3 ?k1 ?k2 ?h0 ?h1 ?_; (case k1 => k_asm); (case k2 => k_in); (case h0 | h1 => omega); k_whole); intro z9 tz9 ez9 lz9) | ((with_reducible show wpAny _ _ (subscriptTail _ _ (Value.ref 1074) (Value.int _ _)) _ _ _); k_dflt (refine' item_as2 ?k1 ?k2 ?h0 ?h1 ?_; (case k1 => k_asm); (case k2 => k_in); (case h0 | h1 => omega); k_whole); intro z9 tz9 ez9 lz9)) | (k_unfold; (try dsimp only)) | (k_end; kc_close) | walk1 | (dsimp only; walk1)))
  all_goals (refine' ret _ _ _ _ _ _ _ _ _ _ _ _ _ _ _ _ _ ?cF ?cN ?cR; (case cF | cN => k_asm); (case cR => ((try dsimp only); (rename (bestK _ _ = (_, _)) => eB); (rename (_ = c - ((_ : Nat) : Int)) => hX); (rename (((_ : Nat) : Int) ≤ c - lb) => hN); first | with_reducible exact ⟨rep_none hc hb eB (by assumption), hl, by omega, hb, rfl⟩ | ((rename (rv _ = List.getD _ _ _) => eZ); (have nl := fun z => new_len (z := z) hX hc hN (by omega) hc); exact ⟨rep_some hc hb eB (by assumption) hN hX hc eZ, by rw [nl]; omega, by omega, hb, rfl⟩))))
theorem c_chdzE {w : World} {lo : List Str} {mean : ExcName → Option Value} {mg mb : Str → Option Value} {dp un : Nat} {gd : Option (List Code)} {cn : Str} {cs : Scope} {a : Addr} {ccd : Value} {cl : List (Str × Addr)} {outer : List Env} {A₀ : Around} {base h₀ : Heap} {L : Addr} {m : Str → Option Value} {s : Shared} {Q E : Value → Shared → Prop}
    {D I : Addr} {oth : List (Addr × Obj)} {k0 k1 k2 k3 k4 k5 k6 t0 t1 t2 t3 t4 t5 t6 : Tok} {S : Str} {c l lb br ke p1 : Int} 
    (B : Below A₀ base outer h₀) (F : Fr h₀ L s.heap m) (X : (kL w.params).In h₀) (N : News h₀ L s.heap ((D, dictOf [⟨PyData.keyHash w.params (Str.ofString "current"), .str (Str.ofString "current") k0, .str S t0⟩, ⟨PyData.keyHash w.params (Str.ofString "cursor"), .str (Str.ofString "cursor") k1, .int c t1⟩, ⟨PyData.keyHash w.params (Str.ofString "limit"), .str (Str.ofString "limit") k2, .int l t2⟩, ⟨PyData.keyHash w.params (Str.ofString "limit_backward"), .str (Str.ofString "limit_backward") k3, .int lb t3⟩, ⟨PyData.keyHash w.params (Str.ofString "bra"), .str (Str.ofString "bra") k4, .int br t4⟩, ⟨PyData.keyHash w.params (Str.ofString "ket"), .str (Str.ofString "ket") k5, .int ke t5⟩, ⟨PyData.keyHash w.params (Str.ofString "I_p1"), .str (Str.ofString "I_p1") k6, .int p1 t6⟩] 7) :: (I, instObj 1085 D) :: oth)) (TT : Top qv lo mean mg mb h₀)
    (hk : cs.kind = .function) (d0 : NeN D I) (hO : OwnOff oth [D, I]) (hS : S.length ≤ 1000) (hd : dp + 20 < recursionLimit) (hu : un + 200 < cLine) (hc : c = (S.length : Int)) (hl : l = (S.length : Int)) (hb : lb = 0) (hS9 : S.length ≤ 900) (AT : AmTab w h₀ 1081 1075 tab3)
    (ret : ∀ (S' : Str) (c' l' lb' br' ke' : Int) (t0' t1' t2' t3' t4' t5' t6' : Tok) (v : Value) (h' : Heap) (tk' : Nat), rv S' = rep (keysOf tab3) as3 (rv S) → l' = (S'.length : Int) → l' ≤ l + 6 → lb' = 0 → Fr h₀ L h' m → News h₀ L h' ((D, dictOf [⟨PyData.keyHash w.params (Str.ofString "current"), .str (Str.ofString "current") k0, .str S' t0'⟩, ⟨PyData.keyHash w.params (Str.ofString "cursor"), .str (Str.ofString "cursor") k1, .int c' t1'⟩, ⟨PyData.keyHash w.params (Str.ofString "limit"), .str (Str.ofString "limit") k2, .int l' t2'⟩, ⟨PyData.keyHash w.params (Str.ofString "limit_backward"), .str (Str.ofString "limit_backward") k3, .int lb' t3'⟩, ⟨PyData.keyHash w.params (Str.ofString "bra"), .str (Str.ofString "bra") k4, .int br' t4'⟩, ⟨PyData.keyHash w.params (Str.ofString "ket"), .str (Str.ofString "ket") k5, .int ke' t5'⟩, ⟨PyData.keyHash w.params (Str.ofString "I_p1"), .str (Str.ofString "I_p1") k6, .int p1 t6'⟩] 7) :: (I, instObj 1085 D) :: oth) → Q v { s with heap := h', toks := tk' }) :
    wpAny (model pg w) (ktrTop dp un gd cn cs L a ccd cl outer) (call (.ref 258) [.ref I]) Q E s := by
  refine c_chdz B F X N TT hk d0 hO hS hd hu hc hl hb hS9 AT ?_
  intro S' c' l' lb' br' ke' p1' t0' t1' t2' t3' t4' t5' t6' v h' tk' F9 N9 R9
  obtain ⟨r1, r2, r3, r4, q1⟩ := R9
  (replace q1 := Eq.symm q1; subst q1)
  exact ret S' c' l' lb' br' ke' t0' t1' t2' t3' t4' t5' t6' v h' tk' r1 r2 r3 r4 F9 N9

end Lith
end
section
open PySem PySem.W PyProof.Rows PySem.Calls Lith
set_option Elab.async false
set_option maxRecDepth 100000
set_option maxHeartbeats 8000000
namespace Lith

theorem c_eqs {w : World} {lo : List Str} {mean : ExcName → Option Value} {mg mb : Str → Option Value} {dp un : Nat} {gd : Option (List Code)} {cn : Str} {cs : Scope} {a : Addr} {ccd : Value} {cl : List (Str × Addr)} {outer : List Env} {A₀ : Around} {base h₀ : Heap} {L : Addr} {m : Str → Option Value} {s : Shared} {Q E : Value → Shared → Prop}
    {D I : Addr} {oth : List (Addr × Obj)} {k0 k1 k2 k3 k4 k5 k6 t0 t1 t2 t3 t4 t5 t6 : Tok} {S : Str} {c l lb br ke p1 : Int} {z : Str} {tz : Tok}
    (B : Below A₀ base outer h₀) (F : Fr h₀ L s.heap m) (X : (kL w.params).In h₀) (N : News h₀ L s.heap ((D, dictOf [⟨PyData.keyHash w.params (Str.ofString "current"), .str (Str.ofString "current") k0, .str S t0⟩, ⟨PyData.keyHash w.params (Str.ofString "cursor"), .str (Str.ofString "cursor") k1, .int c t1⟩, ⟨PyData.keyHash w.params (Str.ofString "limit"), .str (Str.ofString "limit") k2, .int l t2⟩, ⟨PyData.keyHash w.params (Str.ofString "limit_backward"), .str (Str.ofString "limit_backward") k3, .int lb t3⟩, ⟨PyData.keyHash w.params (Str.ofString "bra"), .str (Str.ofString "bra") k4, .int br t4⟩, ⟨PyData.keyHash w.params (Str.ofString "ket"), .str (Str.ofString "ket") k5, .int ke t5⟩, ⟨PyData.keyHash w.params (Str.ofString "I_p1"), .str (Str.ofString "I_p1") k6, .int p1 t6⟩] 7) :: (I, instObj 1085 D) :: oth)) (TT : Top qv lo mean mg mb h₀)
    (hk : cs.kind = .function) (d0 : NeN D I) (hO : OwnOff oth [D, I]) (hS : S.length ≤ 1000) (hd : dp + 10 < recursionLimit) (hu : un + 80 < cLine) (hz : z.length ≤ 1000) (g0 : 0 ≤ lb) (g3 : lb ≤ c) (g4 : c ≤ (S.length : Int))
    (ret : ∀ (S' : Str) (c' l' lb' br' ke' p1' : Int) (t0' t1' t2' t3' t4' t5' t6' : Tok) (v : Value) (h' : Heap) (tk' : Nat), Fr h₀ L h' m → News h₀ L h' ((D, dictOf [⟨PyData.keyHash w.params (Str.ofString "current"), .str (Str.ofString "current") k0, .str S' t0'⟩, ⟨PyData.keyHash w.params (Str.ofString "cursor"), .str (Str.ofString "cursor") k1, .int c' t1'⟩, ⟨PyData.keyHash w.params (Str.ofString "limit"), .str (Str.ofString "limit") k2, .int l' t2'⟩, ⟨PyData.keyHash w.params (Str.ofString "limit_backward"), .str (Str.ofString "limit_backward") k3, .int lb' t3'⟩, ⟨PyData.keyHash w.params (Str.ofString "bra"), .str (Str.ofString "bra") k4, .int br' t4'⟩, ⟨PyData.keyHash w.params (Str.ofString "ket"), .str (Str.ofString "ket") k5, .int ke' t5'⟩, ⟨PyData.keyHash w.params (Str.ofString "I_p1"), .str (Str.ofString "I_p1") k6, .int p1' t6'⟩] 7) :: (I, instObj 1085 D) :: oth) → (S' = S ∧ l' = l ∧ lb' = lb ∧ br' = br ∧ ke' = ke ∧ p1' = p1 ∧ ((v = .bool true ∧ Txt.endswith (Txt.slice S (some lb) (some c)) z = true ∧ c' = c - (z.length : Int) ∧ (z.length : Int) ≤ c - lb) ∨ (v = .bool false ∧ Txt.endswith (Txt.slice S (some lb) (some c)) z = false ∧ c' = c))) → Q v { s with heap := h', toks := tk' }) :
    wpAny (model pg w) (ktrTop dp un gd cn cs L a ccd cl outer) (call (.ref 126) [.ref I, .str z tz]) Q E s := by
  refine c_eq_s_b B F X N TT hk d0 hO hS hd hu hz fun S' c' l' lb' br' ke' p1' t0' t1' t2' t3' t4' t5' t6' v h' tk' F' N' R => ret S' c' l' lb' br' ke' p1' t0' t1' t2' t3' t4' t5' t6' v h' tk' F' N' ?_
  obtain ⟨r1, r2, r3, r4, r5, r6, r7, r8⟩ := R
  refine ⟨r1, r2, r4, r5, r6, r7, ?_⟩
  cases q : Txt.endswith (Txt.slice S (some lb) (some c)) z with
  | true => rw [q] at r3 r8; exact .inl ⟨r8, rfl, r3, ends_len g0 g3 g4 q⟩
  | false => rw [q] at r3 r8; exact .inr ⟨r8, rfl, r3⟩
theorem c_eqsE {w : World} {lo : List Str} {mean : ExcName → Option Value} {mg mb : Str → Option Value} {dp un : Nat} {gd : Option (List Code)} {cn : Str} {cs : Scope} {a : Addr} {ccd : Value} {cl : List (Str × Addr)} {outer : List Env} {A₀ : Around} {base h₀ : Heap} {L : Addr} {m : Str → Option Value} {s : Shared} {Q E : Value → Shared → Prop}
    {D I : Addr} {oth : List (Addr × Obj)} {k0 k1 k2 k3 k4 k5 k6 t0 t1 t2 t3 t4 t5 t6 : Tok} {S : Str} {c l lb br ke p1 : Int} {z : Str} {tz : Tok}
    (B : Below A₀ base outer h₀) (F : Fr h₀ L s.heap m) (X : (kL w.params).In h₀) (N : News h₀ L s.heap ((D, dictOf [⟨PyData.keyHash w.params (Str.ofString "current"), .str (Str.ofString "current") k0, .str S t0⟩, ⟨PyData.keyHash w.params (Str.ofString "cursor"), .str (Str.ofString "cursor") k1, .int c t1⟩, ⟨PyData.keyHash w.params (Str.ofString "limit"), .str (Str.ofString "limit") k2, .int l t2⟩, ⟨PyData.keyHash w.params (Str.ofString "limit_backward"), .str (Str.ofString "limit_backward") k3, .int lb t3⟩, ⟨PyData.keyHash w.params (Str.ofString "bra"), .str (Str.ofString "bra") k4, .int br t4⟩, ⟨PyData.keyHash w.params (Str.ofString "ket"), .str (Str.ofString "ket") k5, .int ke t5⟩, ⟨PyData.keyHash w.params (Str.ofString "I_p1"), .str (Str.ofString "I_p1") k6, .int p1 t6⟩] 7) :: (I, instObj 1085 D) :: oth)) (TT : Top qv lo mean mg mb h₀)
    (hk : cs.kind = .function) (d0 : NeN D I) (hO : OwnOff oth [D, I]) (hS : S.length ≤ 1000) (hd : dp + 10 < recursionLimit) (hu : un + 80 < cLine) (hz : z.length ≤ 1000) (g0 : 0 ≤ lb) (g3 : lb ≤ c) (g4 : c ≤ (S.length : Int))
    
    (ret1 : ∀ (c' : Int) (t0' t1' t2' t3' t4' t5' t6' : Tok) (h' : Heap) (tk' : Nat), Txt.endswith (Txt.slice S (some lb) (some c)) z = true → c' = c - (z.length : Int) → (z.length : Int) ≤ c - lb → Fr h₀ L h' m → News h₀ L h' ((D, dictOf [⟨PyData.keyHash w.params (Str.ofString "current"), .str (Str.ofString "current") k0, .str S t0'⟩, ⟨PyData.keyHash w.params (Str.ofString "cursor"), .str (Str.ofString "cursor") k1, .int c' t1'⟩, ⟨PyData.keyHash w.params (Str.ofString "limit"), .str (Str.ofString "limit") k2, .int l t2'⟩, ⟨PyData.keyHash w.params (Str.ofString "limit_backward"), .str (Str.ofString "limit_backward") k3, .int lb t3'⟩, ⟨PyData.keyHash w.params (Str.ofString "bra"), .str (Str.ofString "bra") k4, .int br t4'⟩, ⟨PyData.keyHash w.params (Str.ofString "ket"), .str (Str.ofString "ket") k5, .int ke t5'⟩, ⟨PyData.keyHash w.params (Str.ofString "I_p1"), .str (Str.ofString "I_p1") k6, .int p1 t6'⟩] 7) :: (I, instObj 1085 D) :: oth) → Q (.bool true) { s with heap := h', toks := tk' })
    (ret2 : ∀ (c' : Int) (t0' t1' t2' t3' t4' t5' t6' : Tok) (h' : Heap) (tk' : Nat), Txt.endswith (Txt.slice S (some lb) (some c)) z = false → c' = c → Fr h₀ L h' m → News h₀ L h' ((D, dictOf [⟨PyData.keyHash w.params (Str.ofString "current"), .str (Str.ofString "current") k0, .str S t0'⟩, ⟨PyData.keyHash w.params (Str.ofString "cursor"), .str (Str.ofString "cursor") k1, .int c' t1'⟩, ⟨PyData.keyHash w.params (Str.ofString "limit"), .str (Str.ofString "limit") k2, .int l t2'⟩, ⟨PyData.keyHash w.params (Str.ofString "limit_backward"), .str (Str.ofString "limit_backward") k3, .int lb t3'⟩, ⟨PyData.keyHash w.params (Str.ofString "bra"), .str (Str.ofString "bra") k4, .int br t4'⟩, ⟨PyData.keyHash w.params (Str.ofString "ket"), .str (Str.ofString "ket") k5, .int ke t5'⟩, ⟨PyData.keyHash w.params (Str.ofString "I_p1"), .str (Str.ofString "I_p1") k6, .int p1 t6'⟩] 7) :: (I, instObj 1085 D) :: oth) → Q (.bool false) { s with heap := h', toks := tk' }) :
    wpAny (model pg w) (ktrTop dp un gd cn cs L a ccd cl outer) (call (.ref 126) [.ref I, .str z tz]) Q E s := by
  refine c_eqs B F X N TT hk d0 hO hS hd hu hz g0 g3 g4 ?_
  intro S' c' l' lb' br' ke' p1' t0' t1' t2' t3' t4' t5' t6' v h' tk' F9 N9 R9
  obtain ⟨q1, q2, q3, q4, q5, q6, q7⟩ := R9
  (replace q1 := Eq.symm q1; subst q1); (replace q2 := Eq.symm q2; subst q2); (replace q3 := Eq.symm q3; subst q3); (replace q4 := Eq.symm q4; subst q4); (replace q5 := Eq.symm q5; subst q5); (replace q6 := Eq.symm q6; subst q6)
  rcases q7 with ⟨rfl, k0, k1, k2⟩ | ⟨rfl, k0, k1⟩
  · exact ret1 c' t0' t1' t2' t3' t4' t5' t6' h' tk'  k0 k1 k2 F9 N9
  · exact ret2 c' t0' t1' t2' t3' t4' t5' t6' h' tk'  k0 k1 F9 N9

theorem c_gd {w : World} {lo : List Str} {mean : ExcName → Option Value} {mg mb : Str → Option Value} {dp un : Nat} {gd : Option (List Code)} {cn : Str} {cs : Scope} {a : Addr} {ccd : Value} {cl : List (Str × Addr)} {outer : List Env} {A₀ : Around} {base h₀ : Heap} {L : Addr} {m : Str → Option Value} {s : Shared} {Q E : Value → Shared → Prop}
    {D I : Addr} {oth : List (Addr × Obj)} {k0 k1 k2 k3 k4 k5 k6 t0 t1 t2 t3 t4 t5 t6 : Tok} {S : Str} {c l lb br ke p1 : Int} 
    (B : Below A₀ base outer h₀) (F : Fr h₀ L s.heap m) (X : (kL w.params).In h₀) (N : News h₀ L s.heap ((D, dictOf [⟨PyData.keyHash w.params (Str.ofString "current"), .str (Str.ofString "current") k0, .str S t0⟩, ⟨PyData.keyHash w.params (Str.ofString "cursor"), .str (Str.ofString "cursor") k1, .int c t1⟩, ⟨PyData.keyHash w.params (Str.ofString "limit"), .str (Str.ofString "limit") k2, .int l t2⟩, ⟨PyData.keyHash w.params (Str.ofString "limit_backward"), .str (Str.ofString "limit_backward") k3, .int lb t3⟩, ⟨PyData.keyHash w.params (Str.ofString "bra"), .str (Str.ofString "bra") k4, .int br t4⟩, ⟨PyData.keyHash w.params (Str.ofString "ket"), .str (Str.ofString "ket") k5, .int ke t5⟩, ⟨PyData.keyHash w.params (Str.ofString "I_p1"), .str (Str.ofString "I_p1") k6, .int p1 t6⟩] 7) :: (I, instObj 1085 D) :: oth)) (TT : Top qv lo mean mg mb h₀)
    (hk : cs.kind = .function) (d0 : NeN D I) (hO : OwnOff oth [D, I]) (hS : S.length ≤ 1000) (hd : dp + 20 < recursionLimit) (hu : un + 200 < cLine) (hc : c = (S.length : Int)) (hl : l = (S.length : Int)) (hb : lb = 0) (hS9 : S.length ≤ 900)
    (ret : ∀ (S' : Str) (c' l' lb' br' ke' p1' : Int) (t0' t1' t2' t3' t4' t5' t6' : Tok) (v : Value) (h' : Heap) (tk' : Nat), Fr h₀ L h' m → News h₀ L h' ((D, dictOf [⟨PyData.keyHash w.params (Str.ofString "current"), .str (Str.ofString "current") k0, .str S' t0'⟩, ⟨PyData.keyHash w.params (Str.ofString "cursor"), .str (Str.ofString "cursor") k1, .int c' t1'⟩, ⟨PyData.keyHash w.params (Str.ofString "limit"), .str (Str.ofString "limit") k2, .int l' t2'⟩, ⟨PyData.keyHash w.params (Str.ofString "limit_backward"), .str (Str.ofString "limit_backward") k3, .int lb' t3'⟩, ⟨PyData.keyHash w.params (Str.ofString "bra"), .str (Str.ofString "bra") k4, .int br' t4'⟩, ⟨PyData.keyHash w.params (Str.ofString "ket"), .str (Str.ofString "ket") k5, .int ke' t5'⟩, ⟨PyData.keyHash w.params (Str.ofString "I_p1"), .str (Str.ofString "I_p1") k6, .int p1' t6'⟩] 7) :: (I, instObj 1085 D) :: oth) → (rv S' = gdF (rv S) ∧ l' = (S'.length : Int) ∧ l' ≤ l + 6 ∧ lb' = 0 ∧ p1' = p1) → Q v { s with heap := h', toks := tk' }) :
    wpAny (model pg w) (ktrTop dp un gd cn cs L a ccd cl outer) (call (.ref 265) [.ref I]) Q E s := by
  have key : rl = rl := rfl
  have e0 : (D : Nat) ≠ I := d0
  revert X key
  k_fill
  intro X _
  refine wpAny_call ?_
  k_dflt cell_enter
  have gl2 := gd_len
  have gl1 := g_len
  have gl0 := nil_len
  (repeat' (first | ((with_reducible refine of_halt ?_); first | ((with_reducible show wpAny _ _ (call (Value.ref 154) _) _ _ _); k_dflt (refine' c_slice_fromE ?k1 ?k2 ?k3 ?k4 ?k5 ?k6 ?n0 ?nO ?hS ?hd ?hu ?h0 ?h1 ?h2 ?h3 ?h4 ?_; (case k1 | k2 | k3 | k4 | k5 => k_asm); (case k6 => first | exact rfl | assumption); (case n0 | nO => assumption); (case hS => first | assumption | omega | (size_fits; done)); (case hd => ktr_room); (case hu => ktr_units); (case h0 | h1 | h2 | h3 | h4 => first | assumption | omega | (size_fits; done)); k_whole); intro u0 u1 u2 u3 u4 u5 u6 h9 tk9 F9 N9; (try dsimp only)) | ((with_reducible show wpAny _ _ (call (Value.ref 126) _) _ _ _); k_dflt (refine' c_eqsE ?k1 ?k2 ?k3 ?k4 ?k5 ?k6 ?n0 ?nO ?hS ?hd ?hu ?h0 ?h1 ?h2 ?h3 ?_ ?_; (case k1 | k2 | k3 | k4 | k5 => k_asm); (case k6 => first | exact rfl | assumption); (case n0 | nO => assumption); (case hS => first | assumption | omega | (size_fits; done)); (case hd => ktr_room); (case hu => ktr_units); (case h0 | h1 | h2 | h3 => first | assumption | omega | (size_fits; done)); k_whole); (intro c9 u0 u1 u2 u3 u4 u5 u6 h9 tk9 en9 hc9 hn9 F9 N9); (try dsimp only); rotate_left; (intro c9 u0 u1 u2 u3 u4 u5 u6 h9 tk9 en9 hc9 F9 N9); (try dsimp only); rotate_left)) | (k_unfold; (try dsimp only)) | (k_end; kc_close) | walk1 | (dsimp only; walk1)))
  all_goals (refine' ret _ _ _ _ _ _ _ _ _ _ _ _ _ _ _ _ _ ?cF ?cN ?cR; (case cF | cN => k_asm); (case cR => ((try dsimp only); (rename (Txt.endswith _ _ = _) => eE); first | with_reducible exact ⟨gd_no hc hb eE, hl, by omega, hb, rfl⟩ | ((rename (_ = c - ((_ : Nat) : Int)) => hX); (rename (((_ : Nat) : Int) ≤ c - lb) => hN); (have nl := fun z => new_len (z := z) hX hc hN (by omega) hc); exact ⟨gd_yes hc hb eE hX hN, by rw [nl]; omega, by omega, hb, rfl⟩))))
theorem c_gdE {w : World} {lo : List Str} {mean : ExcName → Option Value} {mg mb : Str → Option Value} {dp un : Nat} {gd : Option (List Code)} {cn : Str} {cs : Scope} {a : Addr} {ccd : Value} {cl : List (Str × Addr)} {outer : List Env} {A₀ : Around} {base h₀ : Heap} {L : Addr} {m : Str → Option Value} {s : Shared} {Q E : Value → Shared → Prop}
    {D I : Addr} {oth : List (Addr × Obj)} {k0 k1 k2 k3 k4 k5 k6 t0 t1 t2 t3 t4 t5 t6 : Tok} {S : Str} {c l lb br ke p1 : Int} 
    (B : Below A₀ base outer h₀) (F : Fr h₀ L s.heap m) (X : (kL w.params).In h₀) (N : News h₀ L s.heap ((D, dictOf [⟨PyData.keyHash w.params (Str.ofString "current"), .str (Str.ofString "current") k0, .str S t0⟩, ⟨PyData.keyHash w.params (Str.ofString "cursor"), .str (Str.ofString "cursor") k1, .int c t1⟩, ⟨PyData.keyHash w.params (Str.ofString "limit"), .str (Str.ofString "limit") k2, .int l t2⟩, ⟨PyData.keyHash w.params (Str.ofString "limit_backward"), .str (Str.ofString "limit_backward") k3, .int lb t3⟩, ⟨PyData.keyHash w.params (Str.ofString "bra"), .str (Str.ofString "bra") k4, .int br t4⟩, ⟨PyData.keyHash w.params (Str.ofString "ket"), .str (Str.ofString "ket") k5, .int ke t5⟩, ⟨PyData.keyHash w.params (Str.ofString "I_p1"), .str (Str.ofString "I_p1") k6, .int p1 t6⟩] 7) :: (I, instObj 1085 D) :: oth)) (TT : Top qv lo mean mg mb h₀)
    (hk : cs.kind = .function) (d0 : NeN D I) (hO : OwnOff oth [D, I]) (hS : S.length ≤ 1000) (hd : dp + 20 < recursionLimit) (hu : un + 200 < cLine) (hc : c = (S.length : Int)) (hl : l = (S.length : Int)) (hb : lb = 0) (hS9 : S.length ≤ 900)
    (ret : ∀ (S' : Str) (c' l' lb' br' ke' : Int) (t0' t1' t2' t3' t4' t5' t6' : Tok) (v : Value) (h' : Heap) (tk' : Nat), rv S' = gdF (rv S) → l' = (S'.length : Int) → l' ≤ l + 6 → lb' = 0 → Fr h₀ L h' m → News h₀ L h' ((D, dictOf [⟨PyData.keyHash w.params (Str.ofString "current"), .str (Str.ofString "current") k0, .str S' t0'⟩, ⟨PyData.keyHash w.params (Str.ofString "cursor"), .str (Str.ofString "cursor") k1, .int c' t1'⟩, ⟨PyData.keyHash w.params (Str.ofString "limit"), .str (Str.ofString "limit") k2, .int l' t2'⟩, ⟨PyData.keyHash w.params (Str.ofString "limit_backward"), .str (Str.ofString "limit_backward") k3, .int lb' t3'⟩, ⟨PyData.keyHash w.params (Str.ofString "bra"), .str (Str.ofString "bra") k4, .int br' t4'⟩, ⟨PyData.keyHash w.params (Str.ofString "ket"), .str (Str.ofString "ket") k5, .int ke' t5'⟩, ⟨PyData.keyHash w.params (Str.ofString "I_p1"), .str (Str.ofString "I_p1") k6, .int p1 t6'⟩] 7) :: (I, instObj 1085 D) :: oth) → Q v { s with heap := h', toks := tk' }) :
    wpAny (model pg w) (ktrTop dp un gd cn cs L a ccd cl outer) (call (.ref 265) [.ref I]) Q E s := by
  refine c_gd B F X N TT hk d0 hO hS hd hu hc hl hb hS9 ?_
  intro S' c' l' lb' br' ke' p1' t0' t1' t2' t3' t4' t5' t6' v h' tk' F9 N9 R9
  obtain ⟨r1, r2, r3, r4, q1⟩ := R9
  (replace q1 := Eq.symm q1; subst q1)
  exact ret S' c' l' lb' br' ke' t0' t1' t2' t3' t4' t5' t6' v h' tk' r1 r2 r3 r4 F9 N9

end Lith
end
section
open PySem PySem.W PyProof.Rows PySem.Calls Lith
set_option Elab.async false
set_option maxRecDepth 100000
set_option maxHeartbeats 8000000
namespace Lith
local macro_rules | `(tactic| walk_at "pad 0") => `(tactic| skip)

theorem c_step1 {w : World} {lo : List Str} {mean : ExcName → Option Value} {mg mb : Str → Option Value} {dp un : Nat} {gd : Option (List Code)} {cn : Str} {cs : Scope} {a : Addr} {ccd : Value} {cl : List (Str × Addr)} {outer : List Env} {A₀ : Around} {base h₀ : Heap} {L : Addr} {m : Str → Option Value} {s : Shared} {Q E : Value → Shared → Prop}
    {D I : Addr} {oth : List (Addr × Obj)} {k0 k1 k2 k3 k4 k5 k6 t0 t1 t2 t3 t4 t5 t6 : Tok} {S : Str} {c l lb br ke p1 : Int} 
    (B : Below A₀ base outer h₀) (F : Fr h₀ L s.heap m) (X : (kL w.params).In h₀) (N : News h₀ L s.heap ((D, dictOf [⟨PyData.keyHash w.params (Str.ofString "current"), .str (Str.ofString "current") k0, .str S t0⟩, ⟨PyData.keyHash w.params (Str.ofString "cursor"), .str (Str.ofString "cursor") k1, .int c t1⟩, ⟨PyData.keyHash w.params (Str.ofString "limit"), .str (Str.ofString "limit") k2, .int l t2⟩, ⟨PyData.keyHash w.params (Str.ofString "limit_backward"), .str (Str.ofString "limit_backward") k3, .int lb t3⟩, ⟨PyData.keyHash w.params (Str.ofString "bra"), .str (Str.ofString "bra") k4, .int br t4⟩, ⟨PyData.keyHash w.params (Str.ofString "ket"), .str (Str.ofString "ket") k5, .int ke t5⟩, ⟨PyData.keyHash w.params (Str.ofString "I_p1"), .str (Str.ofString "I_p1") k6, .int p1 t6⟩] 7) :: (I, instObj 1085 D) :: oth)) (TT : Top qv lo mean mg mb h₀)
    (hk : cs.kind = .function) (d0 : NeN D I) (hO : OwnOff oth [D, I]) (hS : S.length ≤ 1000) (hd : dp + 20 < recursionLimit) (hu : un + 200 < cLine) (hc : c = (S.length : Int)) (hl : l = (S.length : Int)) (hb : lb = 0) (hS9 : S.length ≤ 900) (hp : 0 ≤ p1) (AT : AmTab w h₀ 852 273 tab0)
    (ret : ∀ (S' : Str) (c' l' lb' br' ke' p1' : Int) (t0' t1' t2' t3' t4' t5' t6' : Tok) (v : Value) (h' : Heap) (tk' : Nat), Fr h₀ L h' m → News h₀ L h' ((D, dictOf [⟨PyData.keyHash w.params (Str.ofString "current"), .str (Str.ofString "current") k0, .str S' t0'⟩, ⟨PyData.keyHash w.params (Str.ofString "cursor"), .str (Str.ofString "cursor") k1, .int c' t1'⟩, ⟨PyData.keyHash w.params (Str.ofString "limit"), .str (Str.ofString "limit") k2, .int l' t2'⟩, ⟨PyData.keyHash w.params (Str.ofString "limit_backward"), .str (Str.ofString "limit_backward") k3, .int lb' t3'⟩, ⟨PyData.keyHash w.params (Str.ofString "bra"), .str (Str.ofString "bra") k4, .int br' t4'⟩, ⟨PyData.keyHash w.params (Str.ofString "ket"), .str (Str.ofString "ket") k5, .int ke' t5'⟩, ⟨PyData.keyHash w.params (Str.ofString "I_p1"), .str (Str.ofString "I_p1") k6, .int p1' t6'⟩] 7) :: (I, instObj 1085 D) :: oth) → (rv S' = cutK (keysOf tab0) p1.toNat (rv S) ∧ l' = (S'.length : Int) ∧ l' ≤ l + 6 ∧ lb' = 0 ∧ p1' = p1) → Q v { s with heap := h', toks := tk' }) :
    wpAny (model pg w) (ktrTop dp un gd cn cs L a ccd cl outer) (call (.ref 237) [.ref I]) Q E s := by
  have key : rl = rl := rfl
  have e0 : (D : Nat) ≠ I := d0
  revert X key
  k_fill
  intro X _
  refine wpAny_call ?_
  k_dflt cell_enter
  have gl2 := gd_len
  have gl1 := g_len
  have gl0 := nil_len
  (repeat' (first | ((with_reducible refine of_halt ?_); first | ((with_reducible show wpAny _ _ (call (Value.ref 161) _) _ _ _); k_dflt (refine' c_slice_delE ?k1 ?k2 ?k3 ?k4 ?k5 ?k6 ?n0 ?nO ?hS ?hd ?hu ?h0 ?h1 ?h2 ?h3 ?_; (case k1 | k2 | k3 | k4 | k5 => k_asm); (case k6 => first | exact rfl | assumption); (case n0 | nO => assumption); (case hS => first | assumption | omega | (size_fits; done)); (case hd => ktr_room); (case hu => ktr_units); (case h0 | h1 | h2 | h3 => first | assumption | omega | (size_fits; done)); k_whole); intro u0 u1 u2 u3 u4 u5 u6 h9 tk9 F9 N9; (try dsimp only)) | ((with_reducible show wpAny _ _ (call (Value.ref 140) _) _ _ _); k_dflt (refine' c_bestE ?k1 ?k2 ?k3 ?k4 ?k5 ?k6 ?n0 ?nO ?hS ?hd ?hu ?h0 ?h1 ?h2 ?h3 ?h4 ?_; (case k1 | k2 | k3 | k4 | k5 => k_asm); (case k6 => first | exact rfl | assumption); (case n0 | nO => assumption); (case hS => first | assumption | omega | (size_fits; done)); (case hd => ktr_room); (case hu => ktr_units); (case h0 => first | assumption | exact AmTab.up (by assumption) (by assumption)); (case h1 => first | exact ok2 | exact ok3 | exact ok1 | exact ok0); (case h2 | h3 | h4 => first | assumption | omega | (size_fits; done)); k_whole); intro c9 u0 u1 u2 u3 u4 u5 u6 n9 r9 tk8 h9 tk9 eB9 hc9 hn9 F9 N9; (try dsimp only))) | (k_unfold; (try dsimp only)) | (k_end; kc_close) | walk1 | (dsimp only; walk1)))
  all_goals (refine' ret _ _ _ _ _ _ _ _ _ _ _ _ _ _ _ _ _ ?cF ?cN ?cR; (case cF | cN => k_asm); (case cR => ((try dsimp only); first | with_reducible exact ⟨cut_none0 hc (by assumption), hl, by omega, hb, rfl⟩ | ((rename (bestK _ _ = (_, _)) => eB); first | with_reducible exact ⟨cut_none hc hp (by assumption) eB (by assumption), hl, by omega, hb, rfl⟩ | ((rename (_ = c - ((_ : Nat) : Int)) => hX); (rename (((_ : Nat) : Int) ≤ c - p1) => hN); (have nl := fun z => new_len (z := z) hX hc hN (by omega) hc); exact ⟨cut_some hc hp (by assumption) eB (by assumption) hN hX hc, by rw [nl]; omega, by omega, hb, rfl⟩)))))
theorem c_step1E {w : World} {lo : List Str} {mean : ExcName → Option Value} {mg mb : Str → Option Value} {dp un : Nat} {gd : Option (List Code)} {cn : Str} {cs : Scope} {a : Addr} {ccd : Value} {cl : List (Str × Addr)} {outer : List Env} {A₀ : Around} {base h₀ : Heap} {L : Addr} {m : Str → Option Value} {s : Shared} {Q E : Value → Shared → Prop}
    {D I : Addr} {oth : List (Addr × Obj)} {k0 k1 k2 k3 k4 k5 k6 t0 t1 t2 t3 t4 t5 t6 : Tok} {S : Str} {c l lb br ke p1 : Int} 
    (B : Below A₀ base outer h₀) (F : Fr h₀ L s.heap m) (X : (kL w.params).In h₀) (N : News h₀ L s.heap ((D, dictOf [⟨PyData.keyHash w.params (Str.ofString "current"), .str (Str.ofString "current") k0, .str S t0⟩, ⟨PyData.keyHash w.params (Str.ofString "cursor"), .str (Str.ofString "cursor") k1, .int c t1⟩, ⟨PyData.keyHash w.params (Str.ofString "limit"), .str (Str.ofString "limit") k2, .int l t2⟩, ⟨PyData.keyHash w.params (Str.ofString "limit_backward"), .str (Str.ofString "limit_backward") k3, .int lb t3⟩, ⟨PyData.keyHash w.params (Str.ofString "bra"), .str (Str.ofString "bra") k4, .int br t4⟩, ⟨PyData.keyHash w.params (Str.ofString "ket"), .str (Str.ofString "ket") k5, .int ke t5⟩, ⟨PyData.keyHash w.params (Str.ofString "I_p1"), .str (Str.ofString "I_p1") k6, .int p1 t6⟩] 7) :: (I, instObj 1085 D) :: oth)) (TT : Top qv lo mean mg mb h₀)
    (hk : cs.kind = .function) (d0 : NeN D I) (hO : OwnOff oth [D, I]) (hS : S.length ≤ 1000) (hd : dp + 20 < recursionLimit) (hu : un + 200 < cLine) (hc : c = (S.length : Int)) (hl : l = (S.length : Int)) (hb : lb = 0) (hS9 : S.length ≤ 900) (hp : 0 ≤ p1) (AT : AmTab w h₀ 852 273 tab0)
    (ret : ∀ (S' : Str) (c' l' lb' br' ke' : Int) (t0' t1' t2' t3' t4' t5' t6' : Tok) (v : Value) (h' : Heap) (tk' : Nat), rv S' = cutK (keysOf tab0) p1.toNat (rv S) → l' = (S'.length : Int) → l' ≤ l + 6 → lb' = 0 → Fr h₀ L h' m → News h₀ L h' ((D, dictOf [⟨PyData.keyHash w.params (Str.ofString "current"), .str (Str.ofString "current") k0, .str S' t0'⟩, ⟨PyData.keyHash w.params (Str.ofString "cursor"), .str (Str.ofString "cursor") k1, .int c' t1'⟩, ⟨PyData.keyHash w.params (Str.ofString "limit"), .str (Str.ofString "limit") k2, .int l' t2'⟩, ⟨PyData.keyHash w.params (Str.ofString "limit_backward"), .str (Str.ofString "limit_backward") k3, .int lb' t3'⟩, ⟨PyData.keyHash w.params (Str.ofString "bra"), .str (Str.ofString "bra") k4, .int br' t4'⟩, ⟨PyData.keyHash w.params (Str.ofString "ket"), .str (Str.ofString "ket") k5, .int ke' t5'⟩, ⟨PyData.keyHash w.params (Str.ofString "I_p1"), .str (Str.ofString "I_p1") k6, .int p1 t6'⟩] 7) :: (I, instObj 1085 D) :: oth) → Q v { s with heap := h', toks := tk' }) :
    wpAny (model pg w) (ktrTop dp un gd cn cs L a ccd cl outer) (call (.ref 237) [.ref I]) Q E s := by
  refine c_step1 B F X N TT hk d0 hO hS hd hu hc hl hb hS9 hp AT ?_
  intro S' c' l' lb' br' ke' p1' t0' t1' t2' t3' t4' t5' t6' v h' tk' F9 N9 R9
  obtain ⟨r1, r2, r3, r4, q1⟩ := R9
  (replace q1 := Eq.symm q1; subst q1)
  exact ret S' c' l' lb' br' ke' t0' t1' t2' t3' t4' t5' t6' v h' tk' r1 r2 r3 r4 F9 N9

end Lith
end
section
open PySem PySem.W PyProof.Rows PySem.Calls Lith
set_option Elab.async false
set_option maxRecDepth 100000
set_option maxHeartbeats 8000000
namespace Lith
local macro_rules | `(tactic| walk_at "KswEnd") => `(tactic| (refine halt_of ?_))
local macro_rules | `(tactic| walk_at "noteFrame ref") => `(tactic| ((rename Heap.MadeExcOf _ _ _ _ _ => mxX); refine halt_of ?_))

local macro_rules | `(tactic| walk_at "exec While Constant cons nil") => `(tactic| refine halt_of ?_)

theorem c_step2 {w : World} {lo : List Str} {mean : ExcName → Option Value} {mg mb : Str → Option Value} {dp un : Nat} {gd : Option (List Code)} {cn : Str} {cs : Scope} {a : Addr} {ccd : Value} {outer : List Env} {A₀ : Around} {base h₀ : Heap} {L : Addr} {m : Str → Option Value} {s : Shared} {Q E : Value → Shared → Prop}
    {D I : Addr} {oth : List (Addr × Obj)} {k0 k1 k2 k3 k4 k5 k6 t0 t1 t2 t3 t4 t5 t6 : Tok} {S : Str} {c l lb br ke p1 : Int} 
    (B : Below A₀ base outer h₀) (F : Fr h₀ L s.heap m) (XB : (kL w.params).In base) (N : News h₀ L s.heap ((D, dictOf [⟨PyData.keyHash w.params (Str.ofString "current"), .str (Str.ofString "current") k0, .str S t0⟩, ⟨PyData.keyHash w.params (Str.ofString "cursor"), .str (Str.ofString "cursor") k1, .int c t1⟩, ⟨PyData.keyHash w.params (Str.ofString "limit"), .str (Str.ofString "limit") k2, .int l t2⟩, ⟨PyData.keyHash w.params (Str.ofString "limit_backward"), .str (Str.ofString "limit_backward") k3, .int lb t3⟩, ⟨PyData.keyHash w.params (Str.ofString "bra"), .str (Str.ofString "bra") k4, .int br t4⟩, ⟨PyData.keyHash w.params (Str.ofString "ket"), .str (Str.ofString "ket") k5, .int ke t5⟩, ⟨PyData.keyHash w.params (Str.ofString "I_p1"), .str (Str.ofString "I_p1") k6, .int p1 t6⟩] 7) :: (I, instObj 1085 D) :: oth)) (TB : Top qv lo mean mg mb base) (KD : KtsDicts (outer.filterMap (·.frame)) h₀)
    (hk : cs.kind = .function) (d0 : NeN D I) (hO : OwnOff oth [D, I]) (hS : S.length ≤ 1000) (hd : dp + 24 < recursionLimit) (hu : un + 260 < cLine) (hc : c = (S.length : Int)) (hl : l = (S.length : Int)) (hb : lb = 0) (hS9 : S.length ≤ 900) (hp : 0 ≤ p1) (AT : AmTab w base 1039 853 tab1)
    (ret : ∀ (h₀' : Heap) (S' : Str) (c' l' lb' br' ke' p1' : Int) (t0' t1' t2' t3' t4' t5' t6' : Tok) (v : Value) (h' : Heap) (tk' : Nat), KtsTurn (outer.filterMap (·.frame)) h₀ h₀' → Below A₀ base outer h₀' → KtsDicts (outer.filterMap (·.frame)) h₀' → Fr h₀' L h' m → News h₀' L h' ((D, dictOf [⟨PyData.keyHash w.params (Str.ofString "current"), .str (Str.ofString "current") k0, .str S' t0'⟩, ⟨PyData.keyHash w.params (Str.ofString "cursor"), .str (Str.ofString "cursor") k1, .int c' t1'⟩, ⟨PyData.keyHash w.params (Str.ofString "limit"), .str (Str.ofString "limit") k2, .int l' t2'⟩, ⟨PyData.keyHash w.params (Str.ofString "limit_backward"), .str (Str.ofString "limit_backward") k3, .int lb' t3'⟩, ⟨PyData.keyHash w.params (Str.ofString "bra"), .str (Str.ofString "bra") k4, .int br' t4'⟩, ⟨PyData.keyHash w.params (Str.ofString "ket"), .str (Str.ofString "ket") k5, .int ke' t5'⟩, ⟨PyData.keyHash w.params (Str.ofString "I_p1"), .str (Str.ofString "I_p1") k6, .int p1' t6'⟩] 7) :: (I, instObj 1085 D) :: oth) → (rv S' = st2 (keysOf tab1) p1.toNat (rv S) ∧ l' = (S'.length : Int) ∧ l' ≤ l + 6 ∧ lb' = 0 ∧ p1' = p1) → Q v { s with heap := h', toks := tk' }) :
    wpAny (model pg w) (ktrTop dp un gd cn cs L a ccd [] outer) (call (.ref 244) [.ref I]) Q E s := by
  have key : rl = rl := rfl
  have e0 : (D : Nat) ≠ I := d0
  have X : (kL w.params).In h₀ := XB.keeps B.stays
  have TT : Top qv lo mean mg mb h₀ := TB.keeps B.stays
  revert X key
  k_fill
  intro X _
  refine wpAny_call ?_
  refine' code_defS ?k1 ?k2 ?k3 ?k4 ?k5 ?XB ?TB ?D ?T0 ?kA ?k6 ?k7 ?k8 ?k9 ?kB ?_ ?cK ?c2 ?c3 ?c4 ?c5; (case kA => exact rfl); (case k2 | k1 => k_asm); (case XB | TB | D => assumption); (case T0 => exact KtsTurn.refl); (case k3 | k4 | k5 => k_asm); (case k6 | k7 => k_is); (case k8 => ktr_room); (case k9 => first | exact binds_K (by k_in) rfl (by k_is) rfl rfl rfl | exact BindsTo.of_eq rfl); (case kB => exact locs rfl); (case cK => assumption); (case c2 | c3 | c4 => exact rfl); (case c5 => decide)
  intro g' L' h' FG' F' N' B' X' T' D'
  (try dsimp only)
  (try k_fold)
  have gl2 := gd_len
  have gl1 := g_len
  have gl0 := nil_len
  (repeat' (first | ((with_reducible refine of_halt ?_); first | ((rename Heap.MadeExcOf _ _ _ _ _ => mxX); k_dflt (refine' caught_here mxX ?F ?N ?K ?XB ?TB ?T0 ?ex ?q ?_; (case F | N | K | XB | TB => assumption); (case T0 => first | assumption | exact KtsTurn.refl); (case ex => k_is); (case q => kts_isx); k_whole); intro h' g' T' F' N' K' X' P'; (try k_sweep)) | (k_end; goal_has PySem.W.KswEnd; (rename News _ _ _ _ => nE'); (try simp only [List.push_toArray] at nE'); (refine ksw_end ⟨_, _, _, _, _, _, _, _, _, _, _, _, _⟩ (by assumption) nE' (by kst_in) (by kst_facts) (by first | ((try dsimp only); (repeat (first | exact List.forall_mem_nil _ | refine fm (by with_unfolding_all exact @rfl _ (some _)) ?_)); done) | kst_all) (by first | ((intro z h2 h3); (try dsimp only at h2); (repeat (refine ifn ?_ ?_; first | with_reducible exact h2 (_, _) (by (repeat (first | exact List.mem_cons_self | refine List.mem_cons_of_mem _ ?_))) | exact cnf h3 | exact nst h3 (by decide +kernel))); rfl) | ksw_same) (halt_of ?_) (halt_of ?_))) | ((with_reducible show wpAny _ _ (call (Value.ref 161) _) _ _ _); k_dflt (refine' c_slice_delE ?k1 ?k2 ?k3 ?k4 ?k5 ?k6 ?n0 ?nO ?hS ?hd ?hu ?h0 ?h1 ?h2 ?h3 ?_; (case k1 | k2 | k3 | k4 | k5 => k_asm); (case k6 => first | exact rfl | assumption); (case n0 | nO => assumption); (case hS => first | assumption | omega | (size_fits; done)); (case hd => ktr_room); (case hu => ktr_units); (case h0 | h1 | h2 | h3 => first | assumption | omega | (size_fits; done)); k_whole); intro u0 u1 u2 u3 u4 u5 u6 h9 tk9 F9 N9; (try dsimp only)) | ((with_reducible show wpAny _ _ (call (Value.ref 140) _) _ _ _); k_dflt (refine' c_bestE ?k1 ?k2 ?k3 ?k4 ?k5 ?k6 ?n0 ?nO ?hS ?hd ?hu ?h0 ?h1 ?h2 ?h3 ?h4 ?_; (case k1 | k2 | k3 | k4 | k5 => k_asm); (case k6 => first | exact rfl | assumption); (case n0 | nO => assumption); (case hS => first | assumption | omega | (size_fits; done)); (case hd => ktr_room); (case hu => ktr_units); (case h0 => first | assumption | exact AmTab.keeps (Below.stays (by assumption)) (by assumption)); (case h1 => first | exact ok2 | exact ok3 | exact ok1 | exact ok0); (case h2 | h3 | h4 => first | assumption | omega | (size_fits; done)); k_whole); intro c9 u0 u1 u2 u3 u4 u5 u6 n9 r9 tk8 h9 tk9 eB9 hc9 hn9 F9 N9; (try dsimp only))) | (k_unfold; (try dsimp only)) | (k_end; kc_close) | walk1 | (dsimp only; walk1)))
  refine of_halt ?_
  rename Fr _ _ _ _ => F1
  rename News _ _ _ _ => N1
  refine ksw_while (σ := Str × Nat × Int × Nat × Int × Nat × Int × Nat × Int × Nat × Int × Nat × Nat) (fun c9 => ((D, dictOf [⟨PyData.keyHash w.params (Str.ofString "current"), .str (Str.ofString "current") k0, .str (c9.1) (c9.2.1)⟩, ⟨PyData.keyHash w.params (Str.ofString "cursor"), .str (Str.ofString "cursor") k1, .int (c9.2.2.1) (c9.2.2.2.1)⟩, ⟨PyData.keyHash w.params (Str.ofString "limit"), .str (Str.ofString "limit") k2, .int (c9.2.2.2.2.1) (c9.2.2.2.2.2.1)⟩, ⟨PyData.keyHash w.params (Str.ofString "limit_backward"), .str (Str.ofString "limit_backward") k3, .int (c9.2.2.2.2.2.2.1) (c9.2.2.2.2.2.2.2.1)⟩, ⟨PyData.keyHash w.params (Str.ofString "bra"), .str (Str.ofString "bra") k4, .int (c9.2.2.2.2.2.2.2.2.1) (c9.2.2.2.2.2.2.2.2.2.1)⟩, ⟨PyData.keyHash w.params (Str.ofString "ket"), .str (Str.ofString "ket") k5, .int (c9.2.2.2.2.2.2.2.2.2.2.1) (c9.2.2.2.2.2.2.2.2.2.2.2.1)⟩, ⟨PyData.keyHash w.params (Str.ofString "I_p1"), .str (Str.ofString "I_p1") k6, .int p1 (c9.2.2.2.2.2.2.2.2.2.2.2.2)⟩] 7) :: (I, instObj 1085 D) :: oth)) (fun _ => []) (fun _ => True) [Str.ofString "v_1", Str.ofString "v_3"] (fun c9 => W2 p1 S (c9.1) (c9.2.2.1) (c9.2.2.2.2.1) (c9.2.2.2.2.2.2.1)) (fun c9 => (c9.1).length) ⟨_, _, _, _, _, _, _, _, _, _, _, _, _⟩ F1 N1 True.intro (by first | ((try dsimp only); (repeat (first | exact List.forall_mem_nil _ | refine fm (by with_unfolding_all exact @rfl _ (some _)) ?_)); done) | kst_all) ?hp ?_
  case hp => exact ⟨hc, hl, hb, Nat.le_refl _, rfl⟩
  refine al13 ?_; intro S8 tS8 c8 tc8 l8 tl8 lb8 tlb8 br8 tbr8 ke8 tke8 tp8; rintro u9 h9 tk9 _ W F2 N2
  (try dsimp only [kstB] at F2); (try dsimp only at W); (try dsimp only at N2)
  clear F1 N1
  obtain ⟨w1, w2, w3, w4, w5⟩ := id W
  have w6 : S8.length ≤ 1000 := by omega
  have kM := kstMark
  (repeat' (first | ((with_reducible refine of_halt ?_); first | ((rename Heap.MadeExcOf _ _ _ _ _ => mxX); k_dflt (refine' caught_here mxX ?F ?N ?K ?XB ?TB ?T0 ?ex ?q ?_; (case F | N | K | XB | TB => assumption); (case T0 => first | assumption | exact KtsTurn.refl); (case ex => k_is); (case q => kts_isx); k_whole); intro h' g' T' F' N' K' X' P'; (try k_sweep)) | (k_end; goal_has PySem.W.KswEnd; (rename News _ _ _ _ => nE'); (try simp only [List.push_toArray] at nE'); (refine ksw_end ⟨_, _, _, _, _, _, _, _, _, _, _, _, _⟩ (by assumption) nE' (by kst_in) (by kst_facts) (by first | ((try dsimp only); (repeat (first | exact List.forall_mem_nil _ | refine fm (by with_unfolding_all exact @rfl _ (some _)) ?_)); done) | kst_all) (by first | ((intro z h2 h3); (try dsimp only at h2); (repeat (refine ifn ?_ ?_; first | with_reducible exact h2 (_, _) (by (repeat (first | exact List.mem_cons_self | refine List.mem_cons_of_mem _ ?_))) | exact cnf h3 | exact nst h3 (by decide +kernel))); rfl) | ksw_same) (halt_of ?_) (halt_of ?_))) | ((with_reducible show wpAny _ _ (call (Value.ref 161) _) _ _ _); k_dflt (refine' c_slice_delE ?k1 ?k2 ?k3 ?k4 ?k5 ?k6 ?n0 ?nO ?hS ?hd ?hu ?h0 ?h1 ?h2 ?h3 ?_; (case k1 | k2 | k3 | k4 | k5 => k_asm); (case k6 => first | exact rfl | assumption); (case n0 | nO => assumption); (case hS => first | assumption | omega | (size_fits; done)); (case hd => ktr_room); (case hu => ktr_units); (case h0 | h1 | h2 | h3 => first | assumption | omega | (size_fits; done)); k_whole); intro u0 u1 u2 u3 u4 u5 u6 h9 tk9 F9 N9; (try dsimp only)) | ((with_reducible show wpAny _ _ (call (Value.ref 140) _) _ _ _); k_dflt (refine' c_bestE ?k1 ?k2 ?k3 ?k4 ?k5 ?k6 ?n0 ?nO ?hS ?hd ?hu ?h0 ?h1 ?h2 ?h3 ?h4 ?_; (case k1 | k2 | k3 | k4 | k5 => k_asm); (case k6 => first | exact rfl | assumption); (case n0 | nO => assumption); (case hS => first | assumption | omega | (size_fits; done)); (case hd => ktr_room); (case hu => ktr_units); (case h0 => first | assumption | exact AmTab.keeps (Below.stays (by assumption)) (by assumption)); (case h1 => first | exact ok2 | exact ok3 | exact ok1 | exact ok0); (case h2 | h3 | h4 => first | assumption | omega | (size_fits; done)); k_whole); intro c9 u0 u1 u2 u3 u4 u5 u6 n9 r9 tk8 h9 tk9 eB9 hc9 hn9 F9 N9; (try dsimp only))) | (k_unfold; (try dsimp only)) | (k_end; kc_close) | walk1 | (dsimp only; walk1)))
  all_goals first | refine of_halt ?_ | skip
  all_goals (try rename (bestK _ _ = (_, _)) => eB)
  all_goals (try rename (_ = c8 - ((_ : Nat) : Int)) => hX)
  all_goals (try rename (((_ : Nat) : Int) ≤ c8 - p1) => hN)
  all_goals (have gl3 : ((Str.ofString "").length : Int) = 0 := by omega)
  all_goals first
    | (refine' ret _ _ _ _ _ _ _ _ _ _ _ _ _ _ _ _ _ _ ?cT ?cB ?cD ?cF ?cN ?cR; (case cT | cB | cD => assumption); (case cF | cN => k_asm); (case cR => ((try dsimp only); first | exact ⟨w2_out0 W (by assumption), w2, by omega, w3, rfl⟩ | exact ⟨w2_out W hp (by assumption) eB (by assumption), w2, by omega, w3, rfl⟩)))
    | exact w2_in2 W hp (by assumption) eB (by assumption) hN hX gl3
    | exact w2_less W hp (by assumption) eB (by assumption) hN hX gl3
theorem c_step2E {w : World} {lo : List Str} {mean : ExcName → Option Value} {mg mb : Str → Option Value} {dp un : Nat} {gd : Option (List Code)} {cn : Str} {cs : Scope} {a : Addr} {ccd : Value} {outer : List Env} {A₀ : Around} {base h₀ : Heap} {L : Addr} {m : Str → Option Value} {s : Shared} {Q E : Value → Shared → Prop}
    {D I : Addr} {oth : List (Addr × Obj)} {k0 k1 k2 k3 k4 k5 k6 t0 t1 t2 t3 t4 t5 t6 : Tok} {S : Str} {c l lb br ke p1 : Int} 
    (B : Below A₀ base outer h₀) (F : Fr h₀ L s.heap m) (XB : (kL w.params).In base) (N : News h₀ L s.heap ((D, dictOf [⟨PyData.keyHash w.params (Str.ofString "current"), .str (Str.ofString "current") k0, .str S t0⟩, ⟨PyData.keyHash w.params (Str.ofString "cursor"), .str (Str.ofString "cursor") k1, .int c t1⟩, ⟨PyData.keyHash w.params (Str.ofString "limit"), .str (Str.ofString "limit") k2, .int l t2⟩, ⟨PyData.keyHash w.params (Str.ofString "limit_backward"), .str (Str.ofString "limit_backward") k3, .int lb t3⟩, ⟨PyData.keyHash w.params (Str.ofString "bra"), .str (Str.ofString "bra") k4, .int br t4⟩, ⟨PyData.keyHash w.params (Str.ofString "ket"), .str (Str.ofString "ket") k5, .int ke t5⟩, ⟨PyData.keyHash w.params (Str.ofString "I_p1"), .str (Str.ofString "I_p1") k6, .int p1 t6⟩] 7) :: (I, instObj 1085 D) :: oth)) (TB : Top qv lo mean mg mb base) (KD : KtsDicts (outer.filterMap (·.frame)) h₀)
    (hk : cs.kind = .function) (d0 : NeN D I) (hO : OwnOff oth [D, I]) (hS : S.length ≤ 1000) (hd : dp + 24 < recursionLimit) (hu : un + 260 < cLine) (hc : c = (S.length : Int)) (hl : l = (S.length : Int)) (hb : lb = 0) (hS9 : S.length ≤ 900) (hp : 0 ≤ p1) (AT : AmTab w base 1039 853 tab1)
    (ret : ∀ (h₀' : Heap) (S' : Str) (c' l' lb' br' ke' : Int) (t0' t1' t2' t3' t4' t5' t6' : Tok) (v : Value) (h' : Heap) (tk' : Nat), KtsTurn (outer.filterMap (·.frame)) h₀ h₀' → Below A₀ base outer h₀' → KtsDicts (outer.filterMap (·.frame)) h₀' → rv S' = st2 (keysOf tab1) p1.toNat (rv S) → l' = (S'.length : Int) → l' ≤ l + 6 → lb' = 0 → Fr h₀' L h' m → News h₀' L h' ((D, dictOf [⟨PyData.keyHash w.params (Str.ofString "current"), .str (Str.ofString "current") k0, .str S' t0'⟩, ⟨PyData.keyHash w.params (Str.ofString "cursor"), .str (Str.ofString "cursor") k1, .int c' t1'⟩, ⟨PyData.keyHash w.params (Str.ofString "limit"), .str (Str.ofString "limit") k2, .int l' t2'⟩, ⟨PyData.keyHash w.params (Str.ofString "limit_backward"), .str (Str.ofString "limit_backward") k3, .int lb' t3'⟩, ⟨PyData.keyHash w.params (Str.ofString "bra"), .str (Str.ofString "bra") k4, .int br' t4'⟩, ⟨PyData.keyHash w.params (Str.ofString "ket"), .str (Str.ofString "ket") k5, .int ke' t5'⟩, ⟨PyData.keyHash w.params (Str.ofString "I_p1"), .str (Str.ofString "I_p1") k6, .int p1 t6'⟩] 7) :: (I, instObj 1085 D) :: oth) → Q v { s with heap := h', toks := tk' }) :
    wpAny (model pg w) (ktrTop dp un gd cn cs L a ccd [] outer) (call (.ref 244) [.ref I]) Q E s := by
  refine c_step2 B F XB N TB KD hk d0 hO hS hd hu hc hl hb hS9 hp AT ?_
  intro h₀' S' c' l' lb' br' ke' p1' t0' t1' t2' t3' t4' t5' t6' v h' tk' T9 B9 D9 F9 N9 R9
  obtain ⟨r1, r2, r3, r4, q1⟩ := R9
  (replace q1 := Eq.symm q1; subst q1)
  exact ret h₀' S' c' l' lb' br' ke' t0' t1' t2' t3' t4' t5' t6' v h' tk' T9 B9 D9 r1 r2 r3 r4 F9 N9

end Lith
end
section
open PySem PySem.W PyProof.Rows PySem.Calls Lith
set_option Elab.async false
set_option maxRecDepth 100000
set_option maxHeartbeats 8000000
namespace Lith
local macro_rules | `(tactic| walk_at "pad 0") => `(tactic| skip)
local macro_rules | `(tactic| walk_at "subscriptTail") => `(tactic| (with_reducible refine hlt_af6f1b ?_))
local macro_rules | `(tactic| walk_at "compareOp In") => `(tactic| (with_reducible refine hlt_1e0326 ?_))
local macro_rules | `(tactic| walk_at "compareOp NotIn") => `(tactic| (with_reducible refine hlt_9609a0 ?_))

theorem c_go_out {w : World} {lo : List Str} {mean : ExcName → Option Value} {mg mb : Str → Option Value} {dp un : Nat} {gd : Option (List Code)} {cn : Str} {cs : Scope} {a : Addr} {ccd : Value} {cl : List (Str × Addr)} {outer : List Env} {A₀ : Around} {base h₀ : Heap} {L : Addr} {m : Str → Option Value} {s : Shared} {Q E : Value → Shared → Prop}
    {D I : Addr} {oth : List (Addr × Obj)} {k0 k1 k2 k3 k4 k5 k6 t0 t1 t2 t3 t4 t5 t6 : Tok} {S : Str} {c l lb br ke p1 : Int} 
    (B : Below A₀ base outer h₀) (F : Fr h₀ L s.heap m) (X : (kL w.params).In h₀) (N : News h₀ L s.heap ((D, dictOf [⟨PyData.keyHash w.params (Str.ofString "current"), .str (Str.ofString "current") k0, .str S t0⟩, ⟨PyData.keyHash w.params (Str.ofString "cursor"), .str (Str.ofString "cursor") k1, .int c t1⟩, ⟨PyData.keyHash w.params (Str.ofString "limit"), .str (Str.ofString "limit") k2, .int l t2⟩, ⟨PyData.keyHash w.params (Str.ofString "limit_backward"), .str (Str.ofString "limit_backward") k3, .int lb t3⟩, ⟨PyData.keyHash w.params (Str.ofString "bra"), .str (Str.ofString "bra") k4, .int br t4⟩, ⟨PyData.keyHash w.params (Str.ofString "ket"), .str (Str.ofString "ket") k5, .int ke t5⟩, ⟨PyData.keyHash w.params (Str.ofString "I_p1"), .str (Str.ofString "I_p1") k6, .int p1 t6⟩] 7) :: (I, instObj 1085 D) :: oth)) (TT : Top qv lo mean mg mb h₀)
    (hk : cs.kind = .function) (d0 : NeN D I) (hO : OwnOff oth [D, I]) (hS : S.length ≤ 1000) (hd : dp + 12 < recursionLimit) (hu : un + 100 < cLine) (GS : GV w h₀) (g0 : 0 ≤ c) (g3 : c ≤ l) (g4 : l ≤ (S.length : Int))
    (ret : ∀ (S' : Str) (c' l' lb' br' ke' p1' : Int) (t0' t1' t2' t3' t4' t5' t6' : Tok) (v : Value) (h' : Heap) (tk' : Nat), Fr h₀ L h' m → News h₀ L h' ((D, dictOf [⟨PyData.keyHash w.params (Str.ofString "current"), .str (Str.ofString "current") k0, .str S' t0'⟩, ⟨PyData.keyHash w.params (Str.ofString "cursor"), .str (Str.ofString "cursor") k1, .int c' t1'⟩, ⟨PyData.keyHash w.params (Str.ofString "limit"), .str (Str.ofString "limit") k2, .int l' t2'⟩, ⟨PyData.keyHash w.params (Str.ofString "limit_backward"), .str (Str.ofString "limit_backward") k3, .int lb' t3'⟩, ⟨PyData.keyHash w.params (Str.ofString "bra"), .str (Str.ofString "bra") k4, .int br' t4'⟩, ⟨PyData.keyHash w.params (Str.ofString "ket"), .str (Str.ofString "ket") k5, .int ke' t5'⟩, ⟨PyData.keyHash w.params (Str.ofString "I_p1"), .str (Str.ofString "I_p1") k6, .int p1' t6'⟩] 7) :: (I, instObj 1085 D) :: oth) → (S' = S ∧ l' = l ∧ lb' = lb ∧ br' = br ∧ ke' = ke ∧ p1' = p1 ∧ c ≤ c' ∧ ((v = .bool true ∧ c' < l ∧ vow S c' ∧ ∀ i, c ≤ i → i < c' → ¬ vow S i) ∨ (v = .bool false ∧ c' = l ∧ ∀ i, c ≤ i → i < l → ¬ vow S i))) → Q v { s with heap := h', toks := tk' }) :
    wpAny (model pg w) (ktrTop dp un gd cn cs L a ccd cl outer) (call (.ref 98) [.ref I, .ref 230]) Q E s := by
  have key : rl = rl := rfl
  have e0 : (D : Nat) ≠ I := d0
  revert X key
  k_fill
  intro X _
  refine wpAny_call ?_
  k_dflt cell_enter
  (k_with "exec While Compare cons nil" => k_while (fun (_ : List Int) (c9 : Int) => c ≤ c9 ∧ c9 ≤ l ∧ ∀ i, c ≤ i → i < c9 → ¬ vow S i) (fun (_ : List Int) (c9 : Int) => (l - c9).toNat) "self.cursor")
  (k_with "state" => first | exact ⟨by omega, by omega, gv_start⟩ | exact ⟨by omega, by omega, vow_step (And.right (And.right (by assumption))) (by assumption)⟩ | exact ⟨by omega, by omega, vow_step (by assumption) (by assumption)⟩)
  (repeat' (first | ((with_reducible refine of_halt ?_); first | ((with_reducible show wpAny _ _ (compareOp CmpOp.NotIn (Value.str _ _) (Value.ref 230)) _ _ _); k_dflt (refine' notIn_gv ?k1 ?k2 ?_; (case k1 => k_asm); (case k2 => first | assumption | exact GV.up (by assumption) (by assumption)); k_whole)) | ((with_reducible show wpAny _ _ (compareOp CmpOp.In (Value.str _ _) (Value.ref 230)) _ _ _); k_dflt (refine' in_gv ?k1 ?k2 ?_; (case k1 => k_asm); (case k2 => first | assumption | exact GV.up (by assumption) (by assumption)); k_whole)) | ((with_reducible show wpAny _ _ (subscriptTail _ _ (Value.str _ _) (Value.int _ _)) _ _ _); k_dflt (refine' item_chr ?g0 ?g1 ?gS ?_; (case g0 | g1 => ((try simp only [decide_eq_true_eq, decide_eq_false_iff_not, Bool.not_eq_true] at *); omega)); (case gS => assumption); k_whole))) | (k_unfold; (try dsimp only)) | (k_end; kc_close) | walk1 | (dsimp only; walk1)))
  all_goals (refine' ret _ _ _ _ _ _ _ _ _ _ _ _ _ _ _ _ _ ?cF ?cN ?cR; (case cF | cN => k_asm); (case cR => (refine ⟨rfl, rfl, rfl, rfl, rfl, rfl, by omega, ?_⟩; first | exact .inl ⟨rfl, by omega, by assumption, by assumption⟩ | exact .inr ⟨rfl, by omega, gv_end (by assumption) (by omega) (by assumption)⟩)))
theorem c_go_outE {w : World} {lo : List Str} {mean : ExcName → Option Value} {mg mb : Str → Option Value} {dp un : Nat} {gd : Option (List Code)} {cn : Str} {cs : Scope} {a : Addr} {ccd : Value} {cl : List (Str × Addr)} {outer : List Env} {A₀ : Around} {base h₀ : Heap} {L : Addr} {m : Str → Option Value} {s : Shared} {Q E : Value → Shared → Prop}
    {D I : Addr} {oth : List (Addr × Obj)} {k0 k1 k2 k3 k4 k5 k6 t0 t1 t2 t3 t4 t5 t6 : Tok} {S : Str} {c l lb br ke p1 : Int} 
    (B : Below A₀ base outer h₀) (F : Fr h₀ L s.heap m) (X : (kL w.params).In h₀) (N : News h₀ L s.heap ((D, dictOf [⟨PyData.keyHash w.params (Str.ofString "current"), .str (Str.ofString "current") k0, .str S t0⟩, ⟨PyData.keyHash w.params (Str.ofString "cursor"), .str (Str.ofString "cursor") k1, .int c t1⟩, ⟨PyData.keyHash w.params (Str.ofString "limit"), .str (Str.ofString "limit") k2, .int l t2⟩, ⟨PyData.keyHash w.params (Str.ofString "limit_backward"), .str (Str.ofString "limit_backward") k3, .int lb t3⟩, ⟨PyData.keyHash w.params (Str.ofString "bra"), .str (Str.ofString "bra") k4, .int br t4⟩, ⟨PyData.keyHash w.params (Str.ofString "ket"), .str (Str.ofString "ket") k5, .int ke t5⟩, ⟨PyData.keyHash w.params (Str.ofString "I_p1"), .str (Str.ofString "I_p1") k6, .int p1 t6⟩] 7) :: (I, instObj 1085 D) :: oth)) (TT : Top qv lo mean mg mb h₀)
    (hk : cs.kind = .function) (d0 : NeN D I) (hO : OwnOff oth [D, I]) (hS : S.length ≤ 1000) (hd : dp + 12 < recursionLimit) (hu : un + 100 < cLine) (GS : GV w h₀) (g0 : 0 ≤ c) (g3 : c ≤ l) (g4 : l ≤ (S.length : Int))
    
    (ret1 : ∀ (c' : Int) (t0' t1' t2' t3' t4' t5' t6' : Tok) (h' : Heap) (tk' : Nat), c ≤ c' → c' < l → vow S c' → (∀ i, c ≤ i → i < c' → ¬ vow S i) → Fr h₀ L h' m → News h₀ L h' ((D, dictOf [⟨PyData.keyHash w.params (Str.ofString "current"), .str (Str.ofString "current") k0, .str S t0'⟩, ⟨PyData.keyHash w.params (Str.ofString "cursor"), .str (Str.ofString "cursor") k1, .int c' t1'⟩, ⟨PyData.keyHash w.params (Str.ofString "limit"), .str (Str.ofString "limit") k2, .int l t2'⟩, ⟨PyData.keyHash w.params (Str.ofString "limit_backward"), .str (Str.ofString "limit_backward") k3, .int lb t3'⟩, ⟨PyData.keyHash w.params (Str.ofString "bra"), .str (Str.ofString "bra") k4, .int br t4'⟩, ⟨PyData.keyHash w.params (Str.ofString "ket"), .str (Str.ofString "ket") k5, .int ke t5'⟩, ⟨PyData.keyHash w.params (Str.ofString "I_p1"), .str (Str.ofString "I_p1") k6, .int p1 t6'⟩] 7) :: (I, instObj 1085 D) :: oth) → Q (.bool true) { s with heap := h', toks := tk' })
    (ret2 : ∀ (c' : Int) (t0' t1' t2' t3' t4' t5' t6' : Tok) (h' : Heap) (tk' : Nat), c ≤ c' → c' = l → (∀ i, c ≤ i → i < l → ¬ vow S i) → Fr h₀ L h' m → News h₀ L h' ((D, dictOf [⟨PyData.keyHash w.params (Str.ofString "current"), .str (Str.ofString "current") k0, .str S t0'⟩, ⟨PyData.keyHash w.params (Str.ofString "cursor"), .str (Str.ofString "cursor") k1, .int c' t1'⟩, ⟨PyData.keyHash w.params (Str.ofString "limit"), .str (Str.ofString "limit") k2, .int l t2'⟩, ⟨PyData.keyHash w.params (Str.ofString "limit_backward"), .str (Str.ofString "limit_backward") k3, .int lb t3'⟩, ⟨PyData.keyHash w.params (Str.ofString "bra"), .str (Str.ofString "bra") k4, .int br t4'⟩, ⟨PyData.keyHash w.params (Str.ofString "ket"), .str (Str.ofString "ket") k5, .int ke t5'⟩, ⟨PyData.keyHash w.params (Str.ofString "I_p1"), .str (Str.ofString "I_p1") k6, .int p1 t6'⟩] 7) :: (I, instObj 1085 D) :: oth) → Q (.bool false) { s with heap := h', toks := tk' }) :
    wpAny (model pg w) (ktrTop dp un gd cn cs L a ccd cl outer) (call (.ref 98) [.ref I, .ref 230]) Q E s := by
  refine c_go_out B F X N TT hk d0 hO hS hd hu GS g0 g3 g4 ?_
  intro S' c' l' lb' br' ke' p1' t0' t1' t2' t3' t4' t5' t6' v h' tk' F9 N9 R9
  obtain ⟨q1, q2, q3, q4, q5, q6, g0, q7⟩ := R9
  (replace q1 := Eq.symm q1; subst q1); (replace q2 := Eq.symm q2; subst q2); (replace q3 := Eq.symm q3; subst q3); (replace q4 := Eq.symm q4; subst q4); (replace q5 := Eq.symm q5; subst q5); (replace q6 := Eq.symm q6; subst q6)
  rcases q7 with ⟨rfl, k0, k1, k2⟩ | ⟨rfl, k0, k1⟩
  · exact ret1 c' t0' t1' t2' t3' t4' t5' t6' h' tk' g0 k0 k1 k2 F9 N9
  · exact ret2 c' t0' t1' t2' t3' t4' t5' t6' h' tk' g0 k0 k1 F9 N9

end Lith
end
section
open PySem PySem.W PyProof.Rows PySem.Calls Lith
set_option Elab.async false
set_option maxRecDepth 100000
set_option maxHeartbeats 8000000
namespace Lith
local macro_rules | `(tactic| walk_at "subscriptTail") => `(tactic| (with_reducible refine hlt_af6f1b ?_))
local macro_rules | `(tactic| walk_at "compareOp In") => `(tactic| (with_reducible refine hlt_1e0326 ?_))
local macro_rules | `(tactic| walk_at "compareOp NotIn") => `(tactic| (with_reducible refine hlt_9609a0 ?_))

theorem c_go_in {w : World} {lo : List Str} {mean : ExcName → Option Value} {mg mb : Str → Option Value} {dp un : Nat} {gd : Option (List Code)} {cn : Str} {cs : Scope} {a : Addr} {ccd : Value} {cl : List (Str × Addr)} {outer : List Env} {A₀ : Around} {base h₀ : Heap} {L : Addr} {m : Str → Option Value} {s : Shared} {Q E : Value → Shared → Prop}
    {D I : Addr} {oth : List (Addr × Obj)} {k0 k1 k2 k3 k4 k5 k6 t0 t1 t2 t3 t4 t5 t6 : Tok} {S : Str} {c l lb br ke p1 : Int} 
    (B : Below A₀ base outer h₀) (F : Fr h₀ L s.heap m) (X : (kL w.params).In h₀) (N : News h₀ L s.heap ((D, dictOf [⟨PyData.keyHash w.params (Str.ofString "current"), .str (Str.ofString "current") k0, .str S t0⟩, ⟨PyData.keyHash w.params (Str.ofString "cursor"), .str (Str.ofString "cursor") k1, .int c t1⟩, ⟨PyData.keyHash w.params (Str.ofString "limit"), .str (Str.ofString "limit") k2, .int l t2⟩, ⟨PyData.keyHash w.params (Str.ofString "limit_backward"), .str (Str.ofString "limit_backward") k3, .int lb t3⟩, ⟨PyData.keyHash w.params (Str.ofString "bra"), .str (Str.ofString "bra") k4, .int br t4⟩, ⟨PyData.keyHash w.params (Str.ofString "ket"), .str (Str.ofString "ket") k5, .int ke t5⟩, ⟨PyData.keyHash w.params (Str.ofString "I_p1"), .str (Str.ofString "I_p1") k6, .int p1 t6⟩] 7) :: (I, instObj 1085 D) :: oth)) (TT : Top qv lo mean mg mb h₀)
    (hk : cs.kind = .function) (d0 : NeN D I) (hO : OwnOff oth [D, I]) (hS : S.length ≤ 1000) (hd : dp + 12 < recursionLimit) (hu : un + 100 < cLine) (GS : GV w h₀) (g0 : 0 ≤ c) (g3 : c ≤ l) (g4 : l ≤ (S.length : Int))
    (ret : ∀ (S' : Str) (c' l' lb' br' ke' p1' : Int) (t0' t1' t2' t3' t4' t5' t6' : Tok) (v : Value) (h' : Heap) (tk' : Nat), Fr h₀ L h' m → News h₀ L h' ((D, dictOf [⟨PyData.keyHash w.params (Str.ofString "current"), .str (Str.ofString "current") k0, .str S' t0'⟩, ⟨PyData.keyHash w.params (Str.ofString "cursor"), .str (Str.ofString "cursor") k1, .int c' t1'⟩, ⟨PyData.keyHash w.params (Str.ofString "limit"), .str (Str.ofString "limit") k2, .int l' t2'⟩, ⟨PyData.keyHash w.params (Str.ofString "limit_backward"), .str (Str.ofString "limit_backward") k3, .int lb' t3'⟩, ⟨PyData.keyHash w.params (Str.ofString "bra"), .str (Str.ofString "bra") k4, .int br' t4'⟩, ⟨PyData.keyHash w.params (Str.ofString "ket"), .str (Str.ofString "ket") k5, .int ke' t5'⟩, ⟨PyData.keyHash w.params (Str.ofString "I_p1"), .str (Str.ofString "I_p1") k6, .int p1' t6'⟩] 7) :: (I, instObj 1085 D) :: oth) → (S' = S ∧ l' = l ∧ lb' = lb ∧ br' = br ∧ ke' = ke ∧ p1' = p1 ∧ c ≤ c' ∧ ((v = .bool true ∧ c' < l ∧ ¬ vow S c' ∧ ∀ i, c ≤ i → i < c' → vow S i) ∨ (v = .bool false ∧ c' = l ∧ ∀ i, c ≤ i → i < l → vow S i))) → Q v { s with heap := h', toks := tk' }) :
    wpAny (model pg w) (ktrTop dp un gd cn cs L a ccd cl outer) (call (.ref 70) [.ref I, .ref 230]) Q E s := by
  have key : rl = rl := rfl
  have e0 : (D : Nat) ≠ I := d0
  revert X key
  k_fill
  intro X _
  refine wpAny_call ?_
  k_dflt cell_enter
  (k_with "exec While Compare cons nil" => k_while (fun (_ : List Int) (c9 : Int) => c ≤ c9 ∧ c9 ≤ l ∧ ∀ i, c ≤ i → i < c9 →  vow S i) (fun (_ : List Int) (c9 : Int) => (l - c9).toNat) "self.cursor")
  (k_with "state" => first | exact ⟨by omega, by omega, gv_start⟩ | exact ⟨by omega, by omega, con_step (And.right (And.right (by assumption))) (by assumption)⟩ | exact ⟨by omega, by omega, con_step (by assumption) (by assumption)⟩)
  (repeat' (first | ((with_reducible refine of_halt ?_); first | ((with_reducible show wpAny _ _ (compareOp CmpOp.NotIn (Value.str _ _) (Value.ref 230)) _ _ _); k_dflt (refine' notIn_gv ?k1 ?k2 ?_; (case k1 => k_asm); (case k2 => first | assumption | exact GV.up (by assumption) (by assumption)); k_whole)) | ((with_reducible show wpAny _ _ (compareOp CmpOp.In (Value.str _ _) (Value.ref 230)) _ _ _); k_dflt (refine' in_gv ?k1 ?k2 ?_; (case k1 => k_asm); (case k2 => first | assumption | exact GV.up (by assumption) (by assumption)); k_whole)) | ((with_reducible show wpAny _ _ (subscriptTail _ _ (Value.str _ _) (Value.int _ _)) _ _ _); k_dflt (refine' item_chr ?g0 ?g1 ?gS ?_; (case g0 | g1 => ((try simp only [decide_eq_true_eq, decide_eq_false_iff_not, Bool.not_eq_true] at *); omega)); (case gS => assumption); k_whole))) | (k_unfold; (try dsimp only)) | (k_end; kc_close) | walk1 | (dsimp only; walk1)))
  all_goals (refine' ret _ _ _ _ _ _ _ _ _ _ _ _ _ _ _ _ _ ?cF ?cN ?cR; (case cF | cN => k_asm); (case cR => (refine ⟨rfl, rfl, rfl, rfl, rfl, rfl, by omega, ?_⟩; first | exact .inl ⟨rfl, by omega, by assumption, by assumption⟩ | exact .inr ⟨rfl, by omega, gv_end (by assumption) (by omega) (by assumption)⟩)))
theorem c_go_inE {w : World} {lo : List Str} {mean : ExcName → Option Value} {mg mb : Str → Option Value} {dp un : Nat} {gd : Option (List Code)} {cn : Str} {cs : Scope} {a : Addr} {ccd : Value} {cl : List (Str × Addr)} {outer : List Env} {A₀ : Around} {base h₀ : Heap} {L : Addr} {m : Str → Option Value} {s : Shared} {Q E : Value → Shared → Prop}
    {D I : Addr} {oth : List (Addr × Obj)} {k0 k1 k2 k3 k4 k5 k6 t0 t1 t2 t3 t4 t5 t6 : Tok} {S : Str} {c l lb br ke p1 : Int} 
    (B : Below A₀ base outer h₀) (F : Fr h₀ L s.heap m) (X : (kL w.params).In h₀) (N : News h₀ L s.heap ((D, dictOf [⟨PyData.keyHash w.params (Str.ofString "current"), .str (Str.ofString "current") k0, .str S t0⟩, ⟨PyData.keyHash w.params (Str.ofString "cursor"), .str (Str.ofString "cursor") k1, .int c t1⟩, ⟨PyData.keyHash w.params (Str.ofString "limit"), .str (Str.ofString "limit") k2, .int l t2⟩, ⟨PyData.keyHash w.params (Str.ofString "limit_backward"), .str (Str.ofString "limit_backward") k3, .int lb t3⟩, ⟨PyData.keyHash w.params (Str.ofString "bra"), .str (Str.ofString "bra") k4, .int br t4⟩, ⟨PyData.keyHash w.params (Str.ofString "ket"), .str (Str.ofString "ket") k5, .int ke t5⟩, ⟨PyData.keyHash w.params (Str.ofString "I_p1"), .str (Str.ofString "I_p1") k6, .int p1 t6⟩] 7) :: (I, instObj 1085 D) :: oth)) (TT : Top qv lo mean mg mb h₀)
    (hk : cs.kind = .function) (d0 : NeN D I) (hO : OwnOff oth [D, I]) (hS : S.length ≤ 1000) (hd : dp + 12 < recursionLimit) (hu : un + 100 < cLine) (GS : GV w h₀) (g0 : 0 ≤ c) (g3 : c ≤ l) (g4 : l ≤ (S.length : Int))
    
    (ret1 : ∀ (c' : Int) (t0' t1' t2' t3' t4' t5' t6' : Tok) (h' : Heap) (tk' : Nat), c ≤ c' → c' < l → ¬ vow S c' → (∀ i, c ≤ i → i < c' → vow S i) → Fr h₀ L h' m → News h₀ L h' ((D, dictOf [⟨PyData.keyHash w.params (Str.ofString "current"), .str (Str.ofString "current") k0, .str S t0'⟩, ⟨PyData.keyHash w.params (Str.ofString "cursor"), .str (Str.ofString "cursor") k1, .int c' t1'⟩, ⟨PyData.keyHash w.params (Str.ofString "limit"), .str (Str.ofString "limit") k2, .int l t2'⟩, ⟨PyData.keyHash w.params (Str.ofString "limit_backward"), .str (Str.ofString "limit_backward") k3, .int lb t3'⟩, ⟨PyData.keyHash w.params (Str.ofString "bra"), .str (Str.ofString "bra") k4, .int br t4'⟩, ⟨PyData.keyHash w.params (Str.ofString "ket"), .str (Str.ofString "ket") k5, .int ke t5'⟩, ⟨PyData.keyHash w.params (Str.ofString "I_p1"), .str (Str.ofString "I_p1") k6, .int p1 t6'⟩] 7) :: (I, instObj 1085 D) :: oth) → Q (.bool true) { s with heap := h', toks := tk' })
    (ret2 : ∀ (c' : Int) (t0' t1' t2' t3' t4' t5' t6' : Tok) (h' : Heap) (tk' : Nat), c ≤ c' → c' = l → (∀ i, c ≤ i → i < l → vow S i) → Fr h₀ L h' m → News h₀ L h' ((D, dictOf [⟨PyData.keyHash w.params (Str.ofString "current"), .str (Str.ofString "current") k0, .str S t0'⟩, ⟨PyData.keyHash w.params (Str.ofString "cursor"), .str (Str.ofString "cursor") k1, .int c' t1'⟩, ⟨PyData.keyHash w.params (Str.ofString "limit"), .str (Str.ofString "limit") k2, .int l t2'⟩, ⟨PyData.keyHash w.params (Str.ofString "limit_backward"), .str (Str.ofString "limit_backward") k3, .int lb t3'⟩, ⟨PyData.keyHash w.params (Str.ofString "bra"), .str (Str.ofString "bra") k4, .int br t4'⟩, ⟨PyData.keyHash w.params (Str.ofString "ket"), .str (Str.ofString "ket") k5, .int ke t5'⟩, ⟨PyData.keyHash w.params (Str.ofString "I_p1"), .str (Str.ofString "I_p1") k6, .int p1 t6'⟩] 7) :: (I, instObj 1085 D) :: oth) → Q (.bool false) { s with heap := h', toks := tk' }) :
    wpAny (model pg w) (ktrTop dp un gd cn cs L a ccd cl outer) (call (.ref 70) [.ref I, .ref 230]) Q E s := by
  refine c_go_in B F X N TT hk d0 hO hS hd hu GS g0 g3 g4 ?_
  intro S' c' l' lb' br' ke' p1' t0' t1' t2' t3' t4' t5' t6' v h' tk' F9 N9 R9
  obtain ⟨q1, q2, q3, q4, q5, q6, g0, q7⟩ := R9
  (replace q1 := Eq.symm q1; subst q1); (replace q2 := Eq.symm q2; subst q2); (replace q3 := Eq.symm q3; subst q3); (replace q4 := Eq.symm q4; subst q4); (replace q5 := Eq.symm q5; subst q5); (replace q6 := Eq.symm q6; subst q6)
  rcases q7 with ⟨rfl, k0, k1, k2⟩ | ⟨rfl, k0, k1⟩
  · exact ret1 c' t0' t1' t2' t3' t4' t5' t6' h' tk' g0 k0 k1 k2 F9 N9
  · exact ret2 c' t0' t1' t2' t3' t4' t5' t6' h' tk' g0 k0 k1 F9 N9

end Lith
end
section
open PySem PySem.W PyProof.Rows PySem.Calls
set_option Elab.async false
set_option maxRecDepth 100000
set_option maxHeartbeats 1000000
namespace Lith
theorem get_gv {w : World} {A : Around} {E : Value → Shared → Prop} {s : Shared} {h₀ : Heap} {L : Addr} {m : Str → Option Value} {Q : Value → Shared → Prop} {ex : Bool}
    (F : Fr h₀ L s.heap m) (X : (kL w.params).In h₀) (G : GV w h₀) (h : Q (.ref 230) { s with toks := s.toks + 1 }) :
    wpAny (model pg w) A (getAttr (.ref 1085) (Str.ofString "g_v") ex) Q E s := by
  obtain ⟨es, ep, tb, g, e⟩ := G
  have XX : Frag.In ((230, so es ep tb) :: kL w.params) h₀ := fun a o q => by
    rw [List.lookup_cons] at q
    split at q
    · rename_i r
      injection q with q
      rw [← q, eq_of_beq r]; exact e
    · exact X a o q
  exact cls_val (mc := .type "type") F XX (by kernel_rfl) (by kernel_rfl) (by kernel_rfl) rfl h
end Lith
end
section
open PySem PySem.W PyProof.Rows PySem.Calls Lith
local macro_rules | `(tactic| walk_at "execs cons") => `(tactic| ((with_reducible refine wpAny_execs_cons ?_); (try dsimp only)))
local macro_rules | `(tactic| walk_at "execs nil") => `(tactic| ((with_reducible refine wpAny_execs_nil ?_); (try dsimp only)))
local macro_rules | `(tactic| walk_at "callWith ref") => `(tactic| (k_here; (rename Frag.In _ _ => qX9); (rename Fr _ _ _ _ => qF9); k_dflt (refine' callWith_K0 (Frag.In.keeps qX9 (Fr.keep qF9)) ?k2 ?_; (case k2 => k_is); k_whole)))
section
open PySem PySem.W PyProof.Rows PySem.Calls Lith
set_option Elab.async false
set_option maxRecDepth 100000
set_option maxHeartbeats 8000000
namespace Lith
local macro_rules | `(tactic| walk_at "getAttr ref") => `(tactic| (with_reducible refine hlt_409968 ?_))
local macro_rules | `(tactic| walk_at "JoinT") => `(tactic| (refine halt_of ?_))
local macro_rules | `(tactic| walk_at "subscriptTail") => `(tactic| (with_reducible refine hlt_af6f1b ?_))
local macro_rules | `(tactic| walk_at "noteFrame ref") => `(tactic| ((rename Heap.MadeExcOf _ _ _ _ _ => mxX); refine halt_of ?_))


local macro_rules | `(tactic| walk_at "exec Try") => `(tactic| ((fail_if_success (with_reducible rename TryMark => tm9)); refine halt_of ?_))

local macro_rules | `(tactic| walk_at "LedEnd") => `(tactic| refine halt_of ?_)

/-- one key more or less -/
noncomputable def LedEnd (h₀ : Heap) (L : Addr) (s : Shared) (m₀ : Str → Option Value) (Led : Tok → List (Addr × Obj)) (f : Flow) (s₂ : Shared) : Prop :=
  f = .next ∧ ∃ k h' tk, s₂ = { s with heap := h', toks := tk } ∧ Fr h₀ L h' m₀ ∧ News h₀ L h' (Led k)
theorem led_cut {prog : Program} {w : World} {A : Around} {E : Value → Shared → Prop} {Q : Flow → Shared → Prop} {s : Shared} {env : Env} {h₀ : Heap} {L : Addr} {x : Stmt} {m₀ : Str → Option Value} {led : List (Addr × Obj)} (Led : Tok → List (Addr × Obj))
    (_F : Fr h₀ L s.heap m₀) (_N : News h₀ L s.heap led) (h1 : wpAny (model prog w) A (exec x env) (LedEnd h₀ L s m₀ Led) E s)
    (h2 : ∀ (k : Tok) (h' : Heap) (tk : Nat), Fr h₀ L h' m₀ → News h₀ L h' (Led k) → Q .next { s with heap := h', toks := tk }) :
    wpAny (model prog w) A (exec x env) Q E s := by
  refine wpAny_mono h1 (fun f s₂ j => ?_) fun _ _ x => x
  obtain ⟨rfl, k, h', tk, rfl, F', N'⟩ := j
  exact h2 k h' tk F' N'
theorem c_stem9 {w : World} {lo : List Str} {mean : ExcName → Option Value} {mg mb : Str → Option Value} {dp un : Nat} {gd : Option (List Code)} {cn : Str} {cs : Scope} {a : Addr} {ccd : Value} {outer : List Env} {A₀ : Around} {base h₀ : Heap} {L : Addr} {m : Str → Option Value} {s : Shared} {Q E : Value → Shared → Prop}
    {D I : Addr} {oth : List (Addr × Obj)} {k0 k1 k2 k3 k4 k5 t0 t1 t2 t3 t4 t5 : Tok} {S : Str} {c l lb br ke : Int} {led : List (Addr × Obj)} 
    (B : Below A₀ base outer h₀) (F : Fr h₀ L s.heap m) (XB : (kL w.params).In base) (N : News h₀ L s.heap led) (TB : Top qv lo mean mg mb base) (KD : KtsDicts (outer.filterMap (·.frame)) h₀)
    (hk : cs.kind = .function) (d0 : NeN D I) (hO : OwnOff oth [D, I]) (hS : S.length ≤ 1000) (hd : dp + 40 < recursionLimit) (hu : un + 500 < cLine) (hc : c = 0) (hl : l = (S.length : Int)) (hb : lb = 0) (hS9 : S.length ≤ 800) (A0 : AmTab w base 852 273 tab0) (A1 : AmTab w base 1039 853 tab1) (A2 : AmTab w base 1073 1040 tab2) (A3 : AmTab w base 1081 1075 tab3) (GS : GV w base) (HL : led = ((D, dictOf [⟨PyData.keyHash w.params (Str.ofString "current"), .str (Str.ofString "current") k0, .str S t0⟩, ⟨PyData.keyHash w.params (Str.ofString "cursor"), .str (Str.ofString "cursor") k1, .int c t1⟩, ⟨PyData.keyHash w.params (Str.ofString "limit"), .str (Str.ofString "limit") k2, .int l t2⟩, ⟨PyData.keyHash w.params (Str.ofString "limit_backward"), .str (Str.ofString "limit_backward") k3, .int lb t3⟩, ⟨PyData.keyHash w.params (Str.ofString "bra"), .str (Str.ofString "bra") k4, .int br t4⟩, ⟨PyData.keyHash w.params (Str.ofString "ket"), .str (Str.ofString "ket") k5, .int ke t5⟩] 6) :: (I, instObj 1085 D) :: oth) ∨ ∃ k6 p1 t6, led = ((D, dictOf [⟨PyData.keyHash w.params (Str.ofString "current"), .str (Str.ofString "current") k0, .str S t0⟩, ⟨PyData.keyHash w.params (Str.ofString "cursor"), .str (Str.ofString "cursor") k1, .int c t1⟩, ⟨PyData.keyHash w.params (Str.ofString "limit"), .str (Str.ofString "limit") k2, .int l t2⟩, ⟨PyData.keyHash w.params (Str.ofString "limit_backward"), .str (Str.ofString "limit_backward") k3, .int lb t3⟩, ⟨PyData.keyHash w.params (Str.ofString "bra"), .str (Str.ofString "bra") k4, .int br t4⟩, ⟨PyData.keyHash w.params (Str.ofString "ket"), .str (Str.ofString "ket") k5, .int ke t5⟩, ⟨PyData.keyHash w.params (Str.ofString "I_p1"), .str (Str.ofString "I_p1") k6, .int p1 t6⟩] 7) :: (I, instObj 1085 D) :: oth))
    (ret : ∀ (h₀' : Heap) (k6' : Tok) (S' : Str) (c' l' lb' br' ke' p1' : Int) (t0' t1' t2' t3' t4' t5' t6' : Tok) (v : Value) (h' : Heap) (tk' : Nat), KtsTurn (outer.filterMap (·.frame)) h₀ h₀' → Below A₀ base outer h₀' → KtsDicts (outer.filterMap (·.frame)) h₀' → Fr h₀' L h' m → News h₀' L h' ((D, dictOf [⟨PyData.keyHash w.params (Str.ofString "current"), .str (Str.ofString "current") k0, .str S' t0'⟩, ⟨PyData.keyHash w.params (Str.ofString "cursor"), .str (Str.ofString "cursor") k1, .int c' t1'⟩, ⟨PyData.keyHash w.params (Str.ofString "limit"), .str (Str.ofString "limit") k2, .int l' t2'⟩, ⟨PyData.keyHash w.params (Str.ofString "limit_backward"), .str (Str.ofString "limit_backward") k3, .int lb' t3'⟩, ⟨PyData.keyHash w.params (Str.ofString "bra"), .str (Str.ofString "bra") k4, .int br' t4'⟩, ⟨PyData.keyHash w.params (Str.ofString "ket"), .str (Str.ofString "ket") k5, .int ke' t5'⟩, ⟨PyData.keyHash w.params (Str.ofString "I_p1"), .str (Str.ofString "I_p1") k6', .int p1' t6'⟩] 7) :: (I, instObj 1085 D) :: oth) → (∃ p, P1S S p ∧ rv S' = stemR p.toNat (rv S)) → Q v { s with heap := h', toks := tk' }) :
    wpAny (model pg w) (ktrTop dp un gd cn cs L a ccd [] outer) (call (.ref 272) [.ref I]) Q E s := by
  have key : rl = rl := rfl
  have e0 : (D : Nat) ≠ I := d0
  have X : (kL w.params).In h₀ := XB.keeps B.stays
  have TT : Top qv lo mean mg mb h₀ := TB.keeps B.stays
  revert X key
  k_fill
  intro X _
  have q0 : l ≤ ((800 : Nat) : Int) := by rw [hl]; exact Int.ofNat_le.mpr hS9
  refine wpAny_call ?_
  refine' code_defS ?k1 ?k2 ?k3 ?k4 ?k5 ?XB ?TB ?D ?T0 ?kA ?k6 ?k7 ?k8 ?k9 ?kB ?_ ?cK ?c2 ?c3 ?c4 ?c5; (case kA => exact rfl); (case k2 | k1 => k_asm); (case XB | TB | D => assumption); (case T0 => exact KtsTurn.refl); (case k3 | k4 | k5 => k_asm); (case k6 | k7 => k_is); (case k8 => ktr_room); (case k9 => first | exact binds_K (by k_in) rfl (by k_is) rfl rfl rfl | exact BindsTo.of_eq rfl); (case kB => exact locs rfl); (case cK => assumption); (case c2 | c3 | c4 => exact rfl); (case c5 => decide)
  intro g' L' h' FG' F' N' B' X' T' D'
  (try dsimp only)
  (try k_fold)
  walk1
  (try dsimp only)
  refine led_cut (fun kk => ((D, dictOf [⟨PyData.keyHash w.params (Str.ofString "current"), .str (Str.ofString "current") k0, .str S t0⟩, ⟨PyData.keyHash w.params (Str.ofString "cursor"), .str (Str.ofString "cursor") k1, .int c t1⟩, ⟨PyData.keyHash w.params (Str.ofString "limit"), .str (Str.ofString "limit") k2, .int l t2⟩, ⟨PyData.keyHash w.params (Str.ofString "limit_backward"), .str (Str.ofString "limit_backward") k3, .int lb t3⟩, ⟨PyData.keyHash w.params (Str.ofString "bra"), .str (Str.ofString "bra") k4, .int br t4⟩, ⟨PyData.keyHash w.params (Str.ofString "ket"), .str (Str.ofString "ket") k5, .int ke t5⟩, ⟨PyData.keyHash w.params (Str.ofString "I_p1"), .str (Str.ofString "I_p1") kk, .int l t2⟩] 7) :: (I, instObj 1085 D) :: oth)) F' N' ?_ ?_
  · rcases HL with e | ⟨k6, p1, t6, e⟩ <;> subst e
    all_goals (repeat' (first | ((with_reducible refine of_halt ?_); first | ((rename Heap.MadeExcOf _ _ _ _ _ => mxX); k_dflt (refine' caught_here mxX ?F ?N ?K ?XB ?TB ?T0 ?ex ?q ?_; (case F | N | K | XB | TB => assumption); (case T0 => first | assumption | exact KtsTurn.refl); (case ex => k_is); (case q => kts_isx); k_whole); intro h' g' T' F' N' K' X' P'; (try k_sweep)) | ((with_reducible show wpAny _ _ (call (Value.ref 161) _) _ _ _); k_dflt (refine' c_slice_delE ?k1 ?k2 ?k3 ?k4 ?k5 ?k6 ?n0 ?nO ?hS ?hd ?hu ?h0 ?h1 ?h2 ?h3 ?_; (case k1 | k2 | k3 | k4 | k5 => k_asm); (case k6 => first | exact rfl | assumption); (case n0 | nO => assumption); (case hS => first | assumption | exact ilen (by assumption) (by assumption) rfl | omega | (size_fits; done)); (case hd => ktr_room); (case hu => ktr_units); (case h0 | h1 | h2 | h3 => first | assumption | exact ilen (by assumption) (by assumption) rfl | omega | (size_fits; done)); k_whole); intro u0 u1 u2 u3 u4 u5 u6 h9 tk9 F9 N9; (try dsimp only)) | ((with_reducible show wpAny _ _ (call (Value.ref 70) _) _ _ _); k_dflt (refine' c_go_inE ?k1 ?k2 ?k3 ?k4 ?k5 ?k6 ?n0 ?nO ?hS ?hd ?hu ?h0 ?h1 ?h2 ?h3 ?_ ?_; (case k1 | k2 | k3 | k4 | k5 => k_asm); (case k6 => first | exact rfl | assumption); (case n0 | nO => assumption); (case hS => first | assumption | exact ilen (by assumption) (by assumption) rfl | omega | (size_fits; done)); (case hd => ktr_room); (case hu => ktr_units); (case h0 => first | assumption | exact GV.keeps (Below.stays (by assumption)) (by assumption)); (case h1 | h2 | h3 => first | assumption | exact ilen (by assumption) (by assumption) rfl | omega | (size_fits; done)); k_whole); (intro c9 u0 u1 u2 u3 u4 u5 u6 h9 tk9 gc9 hg1 hg2 hg3 F9 N9); (try dsimp only); rotate_left; (intro c9 u0 u1 u2 u3 u4 u5 u6 h9 tk9 gc9 hg1 hg2 F9 N9); (try dsimp only); rotate_left) | ((with_reducible show wpAny _ _ (call (Value.ref 98) _) _ _ _); k_dflt (refine' c_go_outE ?k1 ?k2 ?k3 ?k4 ?k5 ?k6 ?n0 ?nO ?hS ?hd ?hu ?h0 ?h1 ?h2 ?h3 ?_ ?_; (case k1 | k2 | k3 | k4 | k5 => k_asm); (case k6 => first | exact rfl | assumption); (case n0 | nO => assumption); (case hS => first | assumption | exact ilen (by assumption) (by assumption) rfl | omega | (size_fits; done)); (case hd => ktr_room); (case hu => ktr_units); (case h0 => first | assumption | exact GV.keeps (Below.stays (by assumption)) (by assumption)); (case h1 | h2 | h3 => first | assumption | exact ilen (by assumption) (by assumption) rfl | omega | (size_fits; done)); k_whole); (intro c9 u0 u1 u2 u3 u4 u5 u6 h9 tk9 gc9 hg1 hg2 hg3 F9 N9); (try dsimp only); rotate_left; (intro c9 u0 u1 u2 u3 u4 u5 u6 h9 tk9 gc9 hg1 hg2 F9 N9); (try dsimp only); rotate_left) | ((with_reducible show wpAny _ _ (call (Value.ref 265) _) _ _ _); k_dflt (refine' c_gdE ?k1 ?k2 ?k3 ?k4 ?k5 ?k6 ?n0 ?nO ?hS ?hd ?hu ?h0 ?h1 ?h2 ?h3 ?_; (case k1 | k2 | k3 | k4 | k5 => k_asm); (case k6 => first | exact rfl | assumption); (case n0 | nO => assumption); (case hS => first | assumption | exact ilen (by assumption) (by assumption) rfl | omega | (size_fits; done)); (case hd => ktr_room); (case hu => ktr_units); (case h0 | h1 | h2 | h3 => first | assumption | exact ilen (by assumption) (by assumption) rfl | omega | (size_fits; done)); k_whole); intro S9 c9 l9 lb9 br9 ke9 u0 u1 u2 u3 u4 u5 u6 v9 h9 tk9 r1 r2 r3 r4 F9 N9; (have q9 := iup r3 (by assumption)); (try dsimp only)) | ((with_reducible show wpAny _ _ (call (Value.ref 244) _) _ _ _); k_dflt (refine' c_step2E ?k1 ?k2 ?k3 ?k4 ?k5 ?kD ?k6 ?n0 ?nO ?hS ?hd ?hu ?h0 ?h1 ?h2 ?h3 ?h4 ?h5 ?_; (case k2 | k1 => k_asm); (case k3 => assumption); (case k4 => k_asm); (case k5 | kD => assumption); (case k6 => first | exact rfl | assumption); (case n0 | nO => assumption); (case hS => first | assumption | exact ilen (by assumption) (by assumption) rfl | omega | (size_fits; done)); (case hd => ktr_room); (case hu => ktr_units); (case h0 | h1 | h2 | h3 | h4 => first | assumption | exact ilen (by assumption) (by assumption) rfl | omega | (size_fits; done)); (case h5 => assumption); k_whole); intro g9 S9 c9 l9 lb9 br9 ke9 u0 u1 u2 u3 u4 u5 u6 v9 h9 tk9 T9 B9 D9 r1 r2 r3 r4 F9 N9; (have q9 := iup r3 (by assumption)); (have T8 := KtsTurn.trans (by assumption) T9); (have X9 := Frag.In.keeps (by assumption) (Below.stays B9)); (have P9 := Top.keeps (by assumption) (Below.stays B9)); (try dsimp only)) | ((with_reducible show wpAny _ _ (call (Value.ref 258) _) _ _ _); k_dflt (refine' c_chdzE ?k1 ?k2 ?k3 ?k4 ?k5 ?k6 ?n0 ?nO ?hS ?hd ?hu ?h0 ?h1 ?h2 ?h3 ?h4 ?_; (case k1 | k2 | k3 | k4 | k5 => k_asm); (case k6 => first | exact rfl | assumption); (case n0 | nO => assumption); (case hS => first | assumption | exact ilen (by assumption) (by assumption) rfl | omega | (size_fits; done)); (case hd => ktr_room); (case hu => ktr_units); (case h0 | h1 | h2 | h3 => first | assumption | exact ilen (by assumption) (by assumption) rfl | omega | (size_fits; done)); (case h4 => first | assumption | exact AmTab.keeps (Below.stays (by assumption)) (by assumption)); k_whole); intro S9 c9 l9 lb9 br9 ke9 u0 u1 u2 u3 u4 u5 u6 v9 h9 tk9 r1 r2 r3 r4 F9 N9; (have q9 := iup r3 (by assumption)); (try dsimp only)) | ((with_reducible show wpAny _ _ (call (Value.ref 237) _) _ _ _); k_dflt (refine' c_step1E ?k1 ?k2 ?k3 ?k4 ?k5 ?k6 ?n0 ?nO ?hS ?hd ?hu ?h0 ?h1 ?h2 ?h3 ?h4 ?h5 ?_; (case k1 | k2 | k3 | k4 | k5 => k_asm); (case k6 => first | exact rfl | assumption); (case n0 | nO => assumption); (case hS => first | assumption | exact ilen (by assumption) (by assumption) rfl | omega | (size_fits; done)); (case hd => ktr_room); (case hu => ktr_units); (case h0 | h1 | h2 | h3 | h4 => first | assumption | exact ilen (by assumption) (by assumption) rfl | omega | (size_fits; done)); (case h5 => first | assumption | exact AmTab.keeps (Below.stays (by assumption)) (by assumption)); k_whole); intro S9 c9 l9 lb9 br9 ke9 u0 u1 u2 u3 u4 u5 u6 v9 h9 tk9 r1 r2 r3 r4 F9 N9; (have q9 := iup r3 (by assumption)); (try dsimp only)) | ((with_reducible show wpAny _ _ (call (Value.ref 251) _) _ _ _); k_dflt (refine' c_fixcE ?k1 ?k2 ?k3 ?k4 ?k5 ?k6 ?n0 ?nO ?hS ?hd ?hu ?h0 ?h1 ?h2 ?h3 ?h4 ?_; (case k1 | k2 | k3 | k4 | k5 => k_asm); (case k6 => first | exact rfl | assumption); (case n0 | nO => assumption); (case hS => first | assumption | exact ilen (by assumption) (by assumption) rfl | omega | (size_fits; done)); (case hd => ktr_room); (case hu => ktr_units); (case h0 | h1 | h2 | h3 => first | assumption | exact ilen (by assumption) (by assumption) rfl | omega | (size_fits; done)); (case h4 => first | assumption | exact AmTab.keeps (Below.stays (by assumption)) (by assumption)); k_whole); intro S9 c9 l9 lb9 br9 ke9 u0 u1 u2 u3 u4 u5 u6 v9 h9 tk9 r1 r2 r3 r4 F9 N9; (have q9 := iup r3 (by assumption)); (try dsimp only)) | ((with_reducible show wpAny _ _ (subscriptTail _ _ (Value.str _ _) (Value.int _ _)) _ _ _); k_dflt (refine' item_chr ?g0 ?g1 ?gS ?_; (case g0 | g1 => ((try simp only [decide_eq_true_eq, decide_eq_false_iff_not, Bool.not_eq_true] at *); omega)); (case gS => first | assumption | omega); k_whole)) | (k_end; goal_has Lith.JoinT; (rename Fr _ _ _ _ => jF); (rename News _ _ _ _ => jN); (try simp only [List.push_toArray] at jN); (first | refine joinT_end ⟨_, _⟩ jF jN (by first | assumption | exact KtsTurn.refl) (by assumption) (by first | exact fun _ hp => hp | kst_in) (by first | ((try dsimp only); (repeat (first | exact List.forall_mem_nil _ | refine fm (by with_unfolding_all exact @rfl _ (some _)) ?_)); done) | kst_all) (by first | ((intro z h2 h3); (try dsimp only at h2); (repeat (refine ifn ?_ ?_; first | with_reducible exact h2 (_, _) (by (repeat (first | exact List.mem_cons_self | refine List.mem_cons_of_mem _ ?_))) | exact cnf h3 | exact nst h3 (by decide +kernel))); rfl) | ksw_same) (halt_of ?_) | refine joinT_end ⟨_, _, _, _, _, _, _, _, _⟩ jF jN (by first | assumption | exact KtsTurn.refl) (by assumption) (by first | exact fun _ hp => hp | kst_in) (by first | ((try dsimp only); (repeat (first | exact List.forall_mem_nil _ | refine fm (by with_unfolding_all exact @rfl _ (some _)) ?_)); done) | kst_all) (by first | ((intro z h2 h3); (try dsimp only at h2); (repeat (refine ifn ?_ ?_; first | with_reducible exact h2 (_, _) (by (repeat (first | exact List.mem_cons_self | refine List.mem_cons_of_mem _ ?_))) | exact cnf h3 | exact nst h3 (by decide +kernel))); rfl) | ksw_same) (halt_of ?_))) | ((with_reducible show wpAny _ _ (getAttr (Value.ref 1085) (PySem.Str.ofString "g_v") _) _ _ _); k_dflt (refine' get_gv ?k1 ?k2 ?k3 ?_; (case k1 => k_asm); (case k2 => k_in); (case k3 => first | assumption | exact GV.keeps (Below.stays (by assumption)) (by assumption)); k_whole); (try dsimp only))) | (k_unfold; (try dsimp only)) | (k_end; kc_close) | walk1 | (dsimp only; walk1)))
    all_goals (refine of_halt ?_; (rename Fr _ _ _ _ => F1); (rename News _ _ _ _ => N1); (try simp only [List.push_toArray] at N1); exact ⟨rfl, _, _, _, rfl, F1, N1⟩)
  intro kk h1 tk1 F1 N1
  clear F' N'
  (try dsimp only)
  (repeat' (first | ((with_reducible refine of_halt ?_); first | ((rename Heap.MadeExcOf _ _ _ _ _ => mxX); k_dflt (refine' caught_here mxX ?F ?N ?K ?XB ?TB ?T0 ?ex ?q ?_; (case F | N | K | XB | TB => assumption); (case T0 => first | assumption | exact KtsTurn.refl); (case ex => k_is); (case q => kts_isx); k_whole); intro h' g' T' F' N' K' X' P'; (try k_sweep)) | ((with_reducible show wpAny _ _ (call (Value.ref 161) _) _ _ _); k_dflt (refine' c_slice_delE ?k1 ?k2 ?k3 ?k4 ?k5 ?k6 ?n0 ?nO ?hS ?hd ?hu ?h0 ?h1 ?h2 ?h3 ?_; (case k1 | k2 | k3 | k4 | k5 => k_asm); (case k6 => first | exact rfl | assumption); (case n0 | nO => assumption); (case hS => first | assumption | exact ilen (by assumption) (by assumption) rfl | omega | (size_fits; done)); (case hd => ktr_room); (case hu => ktr_units); (case h0 | h1 | h2 | h3 => first | assumption | exact ilen (by assumption) (by assumption) rfl | omega | (size_fits; done)); k_whole); intro u0 u1 u2 u3 u4 u5 u6 h9 tk9 F9 N9; (try dsimp only)) | ((with_reducible show wpAny _ _ (call (Value.ref 70) _) _ _ _); k_dflt (refine' c_go_inE ?k1 ?k2 ?k3 ?k4 ?k5 ?k6 ?n0 ?nO ?hS ?hd ?hu ?h0 ?h1 ?h2 ?h3 ?_ ?_; (case k1 | k2 | k3 | k4 | k5 => k_asm); (case k6 => first | exact rfl | assumption); (case n0 | nO => assumption); (case hS => first | assumption | exact ilen (by assumption) (by assumption) rfl | omega | (size_fits; done)); (case hd => ktr_room); (case hu => ktr_units); (case h0 => first | assumption | exact GV.keeps (Below.stays (by assumption)) (by assumption)); (case h1 | h2 | h3 => first | assumption | exact ilen (by assumption) (by assumption) rfl | omega | (size_fits; done)); k_whole); (intro c9 u0 u1 u2 u3 u4 u5 u6 h9 tk9 gc9 hg1 hg2 hg3 F9 N9); (try dsimp only); rotate_left; (intro c9 u0 u1 u2 u3 u4 u5 u6 h9 tk9 gc9 hg1 hg2 F9 N9); (try dsimp only); rotate_left) | ((with_reducible show wpAny _ _ (call (Value.ref 98) _) _ _ _); k_dflt (refine' c_go_outE ?k1 ?k2 ?k3 ?k4 ?k5 ?k6 ?n0 ?nO ?hS ?hd ?hu ?h0 ?h1 ?h2 ?h3 ?_ ?_; (case k1 | k2 | k3 | k4 | k5 => k_asm); (case k6 => first | exact rfl | assumption); (case n0 | nO => assumption); (case hS => first | assumption | exact ilen (by assumption) (by assumption) rfl | omega | (size_fits; done)); (case hd => ktr_room); (case hu => ktr_units); (case h0 => first | assumption | exact GV.keeps (Below.stays (by assumption)) (by assumption)); (case h1 | h2 | h3 => first | assumption | exact ilen (by assumption) (by assumption) rfl | omega | (size_fits; done)); k_whole); (intro c9 u0 u1 u2 u3 u4 u5 u6 h9 tk9 gc9 hg1 hg2 hg3 F9 N9); (try dsimp only); rotate_left; (intro c9 u0 u1 u2 u3 u4 u5 u6 h9 tk9 gc9 hg1 hg2 F9 N9); (try dsimp only); rotate_left) | ((with_reducible show wpAny _ _ (call (Value.ref 265) _) _ _ _); k_dflt (refine' c_gdE ?k1 ?k2 ?k3 ?k4 ?k5 ?k6 ?n0 ?nO ?hS ?hd ?hu ?h0 ?h1 ?h2 ?h3 ?_; (case k1 | k2 | k3 | k4 | k5 => k_asm); (case k6 => first | exact rfl | assumption); (case n0 | nO => assumption); (case hS => first | assumption | exact ilen (by assumption) (by assumption) rfl | omega | (size_fits; done)); (case hd => ktr_room); (case hu => ktr_units); (case h0 | h1 | h2 | h3 => first | assumption | exact ilen (by assumption) (by assumption) rfl | omega | (size_fits; done)); k_whole); intro S9 c9 l9 lb9 br9 ke9 u0 u1 u2 u3 u4 u5 u6 v9 h9 tk9 r1 r2 r3 r4 F9 N9; (have q9 := iup r3 (by assumption)); (try dsimp only)) | ((with_reducible show wpAny _ _ (call (Value.ref 244) _) _ _ _); k_dflt (refine' c_step2E ?k1 ?k2 ?k3 ?k4 ?k5 ?kD ?k6 ?n0 ?nO ?hS ?hd ?hu ?h0 ?h1 ?h2 ?h3 ?h4 ?h5 ?_; (case k2 | k1 => k_asm); (case k3 => assumption); (case k4 => k_asm); (case k5 | kD => assumption); (case k6 => first | exact rfl | assumption); (case n0 | nO => assumption); (case hS => first | assumption | exact ilen (by assumption) (by assumption) rfl | omega | (size_fits; done)); (case hd => ktr_room); (case hu => ktr_units); (case h0 | h1 | h2 | h3 | h4 => first | assumption | exact ilen (by assumption) (by assumption) rfl | omega | (size_fits; done)); (case h5 => assumption); k_whole); intro g9 S9 c9 l9 lb9 br9 ke9 u0 u1 u2 u3 u4 u5 u6 v9 h9 tk9 T9 B9 D9 r1 r2 r3 r4 F9 N9; (have q9 := iup r3 (by assumption)); (have T8 := KtsTurn.trans (by assumption) T9); (have X9 := Frag.In.keeps (by assumption) (Below.stays B9)); (have P9 := Top.keeps (by assumption) (Below.stays B9)); (try dsimp only)) | ((with_reducible show wpAny _ _ (call (Value.ref 258) _) _ _ _); k_dflt (refine' c_chdzE ?k1 ?k2 ?k3 ?k4 ?k5 ?k6 ?n0 ?nO ?hS ?hd ?hu ?h0 ?h1 ?h2 ?h3 ?h4 ?_; (case k1 | k2 | k3 | k4 | k5 => k_asm); (case k6 => first | exact rfl | assumption); (case n0 | nO => assumption); (case hS => first | assumption | exact ilen (by assumption) (by assumption) rfl | omega | (size_fits; done)); (case hd => ktr_room); (case hu => ktr_units); (case h0 | h1 | h2 | h3 => first | assumption | exact ilen (by assumption) (by assumption) rfl | omega | (size_fits; done)); (case h4 => first | assumption | exact AmTab.keeps (Below.stays (by assumption)) (by assumption)); k_whole); intro S9 c9 l9 lb9 br9 ke9 u0 u1 u2 u3 u4 u5 u6 v9 h9 tk9 r1 r2 r3 r4 F9 N9; (have q9 := iup r3 (by assumption)); (try dsimp only)) | ((with_reducible show wpAny _ _ (call (Value.ref 237) _) _ _ _); k_dflt (refine' c_step1E ?k1 ?k2 ?k3 ?k4 ?k5 ?k6 ?n0 ?nO ?hS ?hd ?hu ?h0 ?h1 ?h2 ?h3 ?h4 ?h5 ?_; (case k1 | k2 | k3 | k4 | k5 => k_asm); (case k6 => first | exact rfl | assumption); (case n0 | nO => assumption); (case hS => first | assumption | exact ilen (by assumption) (by assumption) rfl | omega | (size_fits; done)); (case hd => ktr_room); (case hu => ktr_units); (case h0 | h1 | h2 | h3 | h4 => first | assumption | exact ilen (by assumption) (by assumption) rfl | omega | (size_fits; done)); (case h5 => first | assumption | exact AmTab.keeps (Below.stays (by assumption)) (by assumption)); k_whole); intro S9 c9 l9 lb9 br9 ke9 u0 u1 u2 u3 u4 u5 u6 v9 h9 tk9 r1 r2 r3 r4 F9 N9; (have q9 := iup r3 (by assumption)); (try dsimp only)) | ((with_reducible show wpAny _ _ (call (Value.ref 251) _) _ _ _); k_dflt (refine' c_fixcE ?k1 ?k2 ?k3 ?k4 ?k5 ?k6 ?n0 ?nO ?hS ?hd ?hu ?h0 ?h1 ?h2 ?h3 ?h4 ?_; (case k1 | k2 | k3 | k4 | k5 => k_asm); (case k6 => first | exact rfl | assumption); (case n0 | nO => assumption); (case hS => first | assumption | exact ilen (by assumption) (by assumption) rfl | omega | (size_fits; done)); (case hd => ktr_room); (case hu => ktr_units); (case h0 | h1 | h2 | h3 => first | assumption | exact ilen (by assumption) (by assumption) rfl | omega | (size_fits; done)); (case h4 => first | assumption | exact AmTab.keeps (Below.stays (by assumption)) (by assumption)); k_whole); intro S9 c9 l9 lb9 br9 ke9 u0 u1 u2 u3 u4 u5 u6 v9 h9 tk9 r1 r2 r3 r4 F9 N9; (have q9 := iup r3 (by assumption)); (try dsimp only)) | ((with_reducible show wpAny _ _ (subscriptTail _ _ (Value.str _ _) (Value.int _ _)) _ _ _); k_dflt (refine' item_chr ?g0 ?g1 ?gS ?_; (case g0 | g1 => ((try simp only [decide_eq_true_eq, decide_eq_false_iff_not, Bool.not_eq_true] at *); omega)); (case gS => first | assumption | omega); k_whole)) | (k_end; goal_has Lith.JoinT; (rename Fr _ _ _ _ => jF); (rename News _ _ _ _ => jN); (try simp only [List.push_toArray] at jN); (first | refine joinT_end ⟨_, _⟩ jF jN (by first | assumption | exact KtsTurn.refl) (by assumption) (by first | exact fun _ hp => hp | kst_in) (by first | ((try dsimp only); (repeat (first | exact List.forall_mem_nil _ | refine fm (by with_unfolding_all exact @rfl _ (some _)) ?_)); done) | kst_all) (by first | ((intro z h2 h3); (try dsimp only at h2); (repeat (refine ifn ?_ ?_; first | with_reducible exact h2 (_, _) (by (repeat (first | exact List.mem_cons_self | refine List.mem_cons_of_mem _ ?_))) | exact cnf h3 | exact nst h3 (by decide +kernel))); rfl) | ksw_same) (halt_of ?_) | refine joinT_end ⟨_, _, _, _, _, _, _, _, _⟩ jF jN (by first | assumption | exact KtsTurn.refl) (by assumption) (by first | exact fun _ hp => hp | kst_in) (by first | ((try dsimp only); (repeat (first | exact List.forall_mem_nil _ | refine fm (by with_unfolding_all exact @rfl _ (some _)) ?_)); done) | kst_all) (by first | ((intro z h2 h3); (try dsimp only at h2); (repeat (refine ifn ?_ ?_; first | with_reducible exact h2 (_, _) (by (repeat (first | exact List.mem_cons_self | refine List.mem_cons_of_mem _ ?_))) | exact cnf h3 | exact nst h3 (by decide +kernel))); rfl) | ksw_same) (halt_of ?_))) | ((with_reducible show wpAny _ _ (getAttr (Value.ref 1085) (PySem.Str.ofString "g_v") _) _ _ _); k_dflt (refine' get_gv ?k1 ?k2 ?k3 ?_; (case k1 => k_asm); (case k2 => k_in); (case k3 => first | assumption | exact GV.keeps (Below.stays (by assumption)) (by assumption)); k_whole); (try dsimp only))) | (k_unfold; (try dsimp only)) | (k_end; kc_close) | walk1 | (dsimp only; walk1)))
  refine of_halt ?_
  rename Fr _ _ _ _ => F1
  rename News _ _ _ _ => N1
  (try dsimp only at F1)
  refine joinT_cut (σ := Int × Nat × Int × Nat × Nat × Nat × Nat × Nat × Nat) (fun c9 => ((D, dictOf [⟨PyData.keyHash w.params (Str.ofString "current"), .str (Str.ofString "current") k0, .str S c9.2.2.2.2.1⟩, ⟨PyData.keyHash w.params (Str.ofString "cursor"), .str (Str.ofString "cursor") k1, .int c9.1 c9.2.1⟩, ⟨PyData.keyHash w.params (Str.ofString "limit"), .str (Str.ofString "limit") k2, .int l c9.2.2.2.2.2.1⟩, ⟨PyData.keyHash w.params (Str.ofString "limit_backward"), .str (Str.ofString "limit_backward") k3, .int lb c9.2.2.2.2.2.2.1⟩, ⟨PyData.keyHash w.params (Str.ofString "bra"), .str (Str.ofString "bra") k4, .int br c9.2.2.2.2.2.2.2.1⟩, ⟨PyData.keyHash w.params (Str.ofString "ket"), .str (Str.ofString "ket") k5, .int ke c9.2.2.2.2.2.2.2.2⟩, ⟨PyData.keyHash w.params (Str.ofString "I_p1"), .str (Str.ofString "I_p1") kk, .int c9.2.2.1 c9.2.2.2.1⟩] 7) :: (I, instObj 1085 D) :: oth)) (fun _ => []) [Str.ofString "v_2"] (fun c9 => P1S S c9.2.2.1) F1 N1 B' KtsTurn.refl D' ?_ ?_
  · have tm := tryMark
    walk1
    clear tm
    (repeat' (first | ((with_reducible refine of_halt ?_); first | ((rename Heap.MadeExcOf _ _ _ _ _ => mxX); k_dflt (refine' caught_here mxX ?F ?N ?K ?XB ?TB ?T0 ?ex ?q ?_; (case F | N | K | XB | TB => assumption); (case T0 => first | assumption | exact KtsTurn.refl); (case ex => k_is); (case q => kts_isx); k_whole); intro h' g' T' F' N' K' X' P'; (try k_sweep)) | ((with_reducible show wpAny _ _ (call (Value.ref 161) _) _ _ _); k_dflt (refine' c_slice_delE ?k1 ?k2 ?k3 ?k4 ?k5 ?k6 ?n0 ?nO ?hS ?hd ?hu ?h0 ?h1 ?h2 ?h3 ?_; (case k1 | k2 | k3 | k4 | k5 => k_asm); (case k6 => first | exact rfl | assumption); (case n0 | nO => assumption); (case hS => first | assumption | exact ilen (by assumption) (by assumption) rfl | omega | (size_fits; done)); (case hd => ktr_room); (case hu => ktr_units); (case h0 | h1 | h2 | h3 => first | assumption | exact ilen (by assumption) (by assumption) rfl | omega | (size_fits; done)); k_whole); intro u0 u1 u2 u3 u4 u5 u6 h9 tk9 F9 N9; (try dsimp only)) | ((with_reducible show wpAny _ _ (call (Value.ref 70) _) _ _ _); k_dflt (refine' c_go_inE ?k1 ?k2 ?k3 ?k4 ?k5 ?k6 ?n0 ?nO ?hS ?hd ?hu ?h0 ?h1 ?h2 ?h3 ?_ ?_; (case k1 | k2 | k3 | k4 | k5 => k_asm); (case k6 => first | exact rfl | assumption); (case n0 | nO => assumption); (case hS => first | assumption | exact ilen (by assumption) (by assumption) rfl | omega | (size_fits; done)); (case hd => ktr_room); (case hu => ktr_units); (case h0 => first | assumption | exact GV.keeps (Below.stays (by assumption)) (by assumption)); (case h1 | h2 | h3 => first | assumption | exact ilen (by assumption) (by assumption) rfl | omega | (size_fits; done)); k_whole); (intro c9 u0 u1 u2 u3 u4 u5 u6 h9 tk9 gc9 hg1 hg2 hg3 F9 N9); (try dsimp only); rotate_left; (intro c9 u0 u1 u2 u3 u4 u5 u6 h9 tk9 gc9 hg1 hg2 F9 N9); (try dsimp only); rotate_left) | ((with_reducible show wpAny _ _ (call (Value.ref 98) _) _ _ _); k_dflt (refine' c_go_outE ?k1 ?k2 ?k3 ?k4 ?k5 ?k6 ?n0 ?nO ?hS ?hd ?hu ?h0 ?h1 ?h2 ?h3 ?_ ?_; (case k1 | k2 | k3 | k4 | k5 => k_asm); (case k6 => first | exact rfl | assumption); (case n0 | nO => assumption); (case hS => first | assumption | exact ilen (by assumption) (by assumption) rfl | omega | (size_fits; done)); (case hd => ktr_room); (case hu => ktr_units); (case h0 => first | assumption | exact GV.keeps (Below.stays (by assumption)) (by assumption)); (case h1 | h2 | h3 => first | assumption | exact ilen (by assumption) (by assumption) rfl | omega | (size_fits; done)); k_whole); (intro c9 u0 u1 u2 u3 u4 u5 u6 h9 tk9 gc9 hg1 hg2 hg3 F9 N9); (try dsimp only); rotate_left; (intro c9 u0 u1 u2 u3 u4 u5 u6 h9 tk9 gc9 hg1 hg2 F9 N9); (try dsimp only); rotate_left) | ((with_reducible show wpAny _ _ (call (Value.ref 265) _) _ _ _); k_dflt (refine' c_gdE ?k1 ?k2 ?k3 ?k4 ?k5 ?k6 ?n0 ?nO ?hS ?hd ?hu ?h0 ?h1 ?h2 ?h3 ?_; (case k1 | k2 | k3 | k4 | k5 => k_asm); (case k6 => first | exact rfl | assumption); (case n0 | nO => assumption); (case hS => first | assumption | exact ilen (by assumption) (by assumption) rfl | omega | (size_fits; done)); (case hd => ktr_room); (case hu => ktr_units); (case h0 | h1 | h2 | h3 => first | assumption | exact ilen (by assumption) (by assumption) rfl | omega | (size_fits; done)); k_whole); intro S9 c9 l9 lb9 br9 ke9 u0 u1 u2 u3 u4 u5 u6 v9 h9 tk9 r1 r2 r3 r4 F9 N9; (have q9 := iup r3 (by assumption)); (try dsimp only)) | ((with_reducible show wpAny _ _ (call (Value.ref 244) _) _ _ _); k_dflt (refine' c_step2E ?k1 ?k2 ?k3 ?k4 ?k5 ?kD ?k6 ?n0 ?nO ?hS ?hd ?hu ?h0 ?h1 ?h2 ?h3 ?h4 ?h5 ?_; (case k2 | k1 => k_asm); (case k3 => assumption); (case k4 => k_asm); (case k5 | kD => assumption); (case k6 => first | exact rfl | assumption); (case n0 | nO => assumption); (case hS => first | assumption | exact ilen (by assumption) (by assumption) rfl | omega | (size_fits; done)); (case hd => ktr_room); (case hu => ktr_units); (case h0 | h1 | h2 | h3 | h4 => first | assumption | exact ilen (by assumption) (by assumption) rfl | omega | (size_fits; done)); (case h5 => assumption); k_whole); intro g9 S9 c9 l9 lb9 br9 ke9 u0 u1 u2 u3 u4 u5 u6 v9 h9 tk9 T9 B9 D9 r1 r2 r3 r4 F9 N9; (have q9 := iup r3 (by assumption)); (have T8 := KtsTurn.trans (by assumption) T9); (have X9 := Frag.In.keeps (by assumption) (Below.stays B9)); (have P9 := Top.keeps (by assumption) (Below.stays B9)); (try dsimp only)) | ((with_reducible show wpAny _ _ (call (Value.ref 258) _) _ _ _); k_dflt (refine' c_chdzE ?k1 ?k2 ?k3 ?k4 ?k5 ?k6 ?n0 ?nO ?hS ?hd ?hu ?h0 ?h1 ?h2 ?h3 ?h4 ?_; (case k1 | k2 | k3 | k4 | k5 => k_asm); (case k6 => first | exact rfl | assumption); (case n0 | nO => assumption); (case hS => first | assumption | exact ilen (by assumption) (by assumption) rfl | omega | (size_fits; done)); (case hd => ktr_room); (case hu => ktr_units); (case h0 | h1 | h2 | h3 => first | assumption | exact ilen (by assumption) (by assumption) rfl | omega | (size_fits; done)); (case h4 => first | assumption | exact AmTab.keeps (Below.stays (by assumption)) (by assumption)); k_whole); intro S9 c9 l9 lb9 br9 ke9 u0 u1 u2 u3 u4 u5 u6 v9 h9 tk9 r1 r2 r3 r4 F9 N9; (have q9 := iup r3 (by assumption)); (try dsimp only)) | ((with_reducible show wpAny _ _ (call (Value.ref 237) _) _ _ _); k_dflt (refine' c_step1E ?k1 ?k2 ?k3 ?k4 ?k5 ?k6 ?n0 ?nO ?hS ?hd ?hu ?h0 ?h1 ?h2 ?h3 ?h4 ?h5 ?_; (case k1 | k2 | k3 | k4 | k5 => k_asm); (case k6 => first | exact rfl | assumption); (case n0 | nO => assumption); (case hS => first | assumption | exact ilen (by assumption) (by assumption) rfl | omega | (size_fits; done)); (case hd => ktr_room); (case hu => ktr_units); (case h0 | h1 | h2 | h3 | h4 => first | assumption | exact ilen (by assumption) (by assumption) rfl | omega | (size_fits; done)); (case h5 => first | assumption | exact AmTab.keeps (Below.stays (by assumption)) (by assumption)); k_whole); intro S9 c9 l9 lb9 br9 ke9 u0 u1 u2 u3 u4 u5 u6 v9 h9 tk9 r1 r2 r3 r4 F9 N9; (have q9 := iup r3 (by assumption)); (try dsimp only)) | ((with_reducible show wpAny _ _ (call (Value.ref 251) _) _ _ _); k_dflt (refine' c_fixcE ?k1 ?k2 ?k3 ?k4 ?k5 ?k6 ?n0 ?nO ?hS ?hd ?hu ?h0 ?h1 ?h2 ?h3 ?h4 ?_; (case k1 | k2 | k3 | k4 | k5 => k_asm); (case k6 => first | exact rfl | assumption); (case n0 | nO => assumption); (case hS => first | assumption | exact ilen (by assumption) (by assumption) rfl | omega | (size_fits; done)); (case hd => ktr_room); (case hu => ktr_units); (case h0 | h1 | h2 | h3 => first | assumption | exact ilen (by assumption) (by assumption) rfl | omega | (size_fits; done)); (case h4 => first | assumption | exact AmTab.keeps (Below.stays (by assumption)) (by assumption)); k_whole); intro S9 c9 l9 lb9 br9 ke9 u0 u1 u2 u3 u4 u5 u6 v9 h9 tk9 r1 r2 r3 r4 F9 N9; (have q9 := iup r3 (by assumption)); (try dsimp only)) | ((with_reducible show wpAny _ _ (subscriptTail _ _ (Value.str _ _) (Value.int _ _)) _ _ _); k_dflt (refine' item_chr ?g0 ?g1 ?gS ?_; (case g0 | g1 => ((try simp only [decide_eq_true_eq, decide_eq_false_iff_not, Bool.not_eq_true] at *); omega)); (case gS => first | assumption | omega); k_whole)) | (k_end; goal_has Lith.JoinT; (rename Fr _ _ _ _ => jF); (rename News _ _ _ _ => jN); (try simp only [List.push_toArray] at jN); (first | refine joinT_end ⟨_, _⟩ jF jN (by first | assumption | exact KtsTurn.refl) (by assumption) (by first | exact fun _ hp => hp | kst_in) (by first | ((try dsimp only); (repeat (first | exact List.forall_mem_nil _ | refine fm (by with_unfolding_all exact @rfl _ (some _)) ?_)); done) | kst_all) (by first | ((intro z h2 h3); (try dsimp only at h2); (repeat (refine ifn ?_ ?_; first | with_reducible exact h2 (_, _) (by (repeat (first | exact List.mem_cons_self | refine List.mem_cons_of_mem _ ?_))) | exact cnf h3 | exact nst h3 (by decide +kernel))); rfl) | ksw_same) (halt_of ?_) | refine joinT_end ⟨_, _, _, _, _, _, _, _, _⟩ jF jN (by first | assumption | exact KtsTurn.refl) (by assumption) (by first | exact fun _ hp => hp | kst_in) (by first | ((try dsimp only); (repeat (first | exact List.forall_mem_nil _ | refine fm (by with_unfolding_all exact @rfl _ (some _)) ?_)); done) | kst_all) (by first | ((intro z h2 h3); (try dsimp only at h2); (repeat (refine ifn ?_ ?_; first | with_reducible exact h2 (_, _) (by (repeat (first | exact List.mem_cons_self | refine List.mem_cons_of_mem _ ?_))) | exact cnf h3 | exact nst h3 (by decide +kernel))); rfl) | ksw_same) (halt_of ?_))) | ((with_reducible show wpAny _ _ (getAttr (Value.ref 1085) (PySem.Str.ofString "g_v") _) _ _ _); k_dflt (refine' get_gv ?k1 ?k2 ?k3 ?_; (case k1 => k_asm); (case k2 => k_in); (case k3 => first | assumption | exact GV.keeps (Below.stays (by assumption)) (by assumption)); k_whole); (try dsimp only))) | (k_unfold; (try dsimp only)) | (k_end; kc_close) | walk1 | (dsimp only; walk1)))
    refine of_halt ?_
    rename Fr _ _ _ _ => F2
    rename News _ _ _ _ => N2
    refine joinT_cut (σ := Int × Nat) (fun c9 => ((D, dictOf [⟨PyData.keyHash w.params (Str.ofString "current"), .str (Str.ofString "current") k0, .str S t0⟩, ⟨PyData.keyHash w.params (Str.ofString "cursor"), .str (Str.ofString "cursor") k1, .int c9.1 c9.2⟩, ⟨PyData.keyHash w.params (Str.ofString "limit"), .str (Str.ofString "limit") k2, .int l t2⟩, ⟨PyData.keyHash w.params (Str.ofString "limit_backward"), .str (Str.ofString "limit_backward") k3, .int lb t3⟩, ⟨PyData.keyHash w.params (Str.ofString "bra"), .str (Str.ofString "bra") k4, .int br t4⟩, ⟨PyData.keyHash w.params (Str.ofString "ket"), .str (Str.ofString "ket") k5, .int ke t5⟩, ⟨PyData.keyHash w.params (Str.ofString "I_p1"), .str (Str.ofString "I_p1") kk, .int l t2⟩] 7) :: (I, instObj 1085 D) :: oth)) (fun _ => []) [] (fun c9 => StS S c9.1) F2 N2 B' KtsTurn.refl D' ?_ ?_
    · have tm := tryMark
      (repeat' (first | ((with_reducible refine of_halt ?_); first | ((rename Heap.MadeExcOf _ _ _ _ _ => mxX); k_dflt (refine' caught_here mxX ?F ?N ?K ?XB ?TB ?T0 ?ex ?q ?_; (case F | N | K | XB | TB => assumption); (case T0 => first | assumption | exact KtsTurn.refl); (case ex => k_is); (case q => kts_isx); k_whole); intro h' g' T' F' N' K' X' P'; (try k_sweep)) | ((with_reducible show wpAny _ _ (call (Value.ref 161) _) _ _ _); k_dflt (refine' c_slice_delE ?k1 ?k2 ?k3 ?k4 ?k5 ?k6 ?n0 ?nO ?hS ?hd ?hu ?h0 ?h1 ?h2 ?h3 ?_; (case k1 | k2 | k3 | k4 | k5 => k_asm); (case k6 => first | exact rfl | assumption); (case n0 | nO => assumption); (case hS => first | assumption | exact ilen (by assumption) (by assumption) rfl | omega | (size_fits; done)); (case hd => ktr_room); (case hu => ktr_units); (case h0 | h1 | h2 | h3 => first | assumption | exact ilen (by assumption) (by assumption) rfl | omega | (size_fits; done)); k_whole); intro u0 u1 u2 u3 u4 u5 u6 h9 tk9 F9 N9; (try dsimp only)) | ((with_reducible show wpAny _ _ (call (Value.ref 70) _) _ _ _); k_dflt (refine' c_go_inE ?k1 ?k2 ?k3 ?k4 ?k5 ?k6 ?n0 ?nO ?hS ?hd ?hu ?h0 ?h1 ?h2 ?h3 ?_ ?_; (case k1 | k2 | k3 | k4 | k5 => k_asm); (case k6 => first | exact rfl | assumption); (case n0 | nO => assumption); (case hS => first | assumption | exact ilen (by assumption) (by assumption) rfl | omega | (size_fits; done)); (case hd => ktr_room); (case hu => ktr_units); (case h0 => first | assumption | exact GV.keeps (Below.stays (by assumption)) (by assumption)); (case h1 | h2 | h3 => first | assumption | exact ilen (by assumption) (by assumption) rfl | omega | (size_fits; done)); k_whole); (intro c9 u0 u1 u2 u3 u4 u5 u6 h9 tk9 gc9 hg1 hg2 hg3 F9 N9); (try dsimp only); rotate_left; (intro c9 u0 u1 u2 u3 u4 u5 u6 h9 tk9 gc9 hg1 hg2 F9 N9); (try dsimp only); rotate_left) | ((with_reducible show wpAny _ _ (call (Value.ref 98) _) _ _ _); k_dflt (refine' c_go_outE ?k1 ?k2 ?k3 ?k4 ?k5 ?k6 ?n0 ?nO ?hS ?hd ?hu ?h0 ?h1 ?h2 ?h3 ?_ ?_; (case k1 | k2 | k3 | k4 | k5 => k_asm); (case k6 => first | exact rfl | assumption); (case n0 | nO => assumption); (case hS => first | assumption | exact ilen (by assumption) (by assumption) rfl | omega | (size_fits; done)); (case hd => ktr_room); (case hu => ktr_units); (case h0 => first | assumption | exact GV.keeps (Below.stays (by assumption)) (by assumption)); (case h1 | h2 | h3 => first | assumption | exact ilen (by assumption) (by assumption) rfl | omega | (size_fits; done)); k_whole); (intro c9 u0 u1 u2 u3 u4 u5 u6 h9 tk9 gc9 hg1 hg2 hg3 F9 N9); (try dsimp only); rotate_left; (intro c9 u0 u1 u2 u3 u4 u5 u6 h9 tk9 gc9 hg1 hg2 F9 N9); (try dsimp only); rotate_left) | ((with_reducible show wpAny _ _ (call (Value.ref 265) _) _ _ _); k_dflt (refine' c_gdE ?k1 ?k2 ?k3 ?k4 ?k5 ?k6 ?n0 ?nO ?hS ?hd ?hu ?h0 ?h1 ?h2 ?h3 ?_; (case k1 | k2 | k3 | k4 | k5 => k_asm); (case k6 => first | exact rfl | assumption); (case n0 | nO => assumption); (case hS => first | assumption | exact ilen (by assumption) (by assumption) rfl | omega | (size_fits; done)); (case hd => ktr_room); (case hu => ktr_units); (case h0 | h1 | h2 | h3 => first | assumption | exact ilen (by assumption) (by assumption) rfl | omega | (size_fits; done)); k_whole); intro S9 c9 l9 lb9 br9 ke9 u0 u1 u2 u3 u4 u5 u6 v9 h9 tk9 r1 r2 r3 r4 F9 N9; (have q9 := iup r3 (by assumption)); (try dsimp only)) | ((with_reducible show wpAny _ _ (call (Value.ref 244) _) _ _ _); k_dflt (refine' c_step2E ?k1 ?k2 ?k3 ?k4 ?k5 ?kD ?k6 ?n0 ?nO ?hS ?hd ?hu ?h0 ?h1 ?h2 ?h3 ?h4 ?h5 ?_; (case k2 | k1 => k_asm); (case k3 => assumption); (case k4 => k_asm); (case k5 | kD => assumption); (case k6 => first | exact rfl | assumption); (case n0 | nO => assumption); (case hS => first | assumption | exact ilen (by assumption) (by assumption) rfl | omega | (size_fits; done)); (case hd => ktr_room); (case hu => ktr_units); (case h0 | h1 | h2 | h3 | h4 => first | assumption | exact ilen (by assumption) (by assumption) rfl | omega | (size_fits; done)); (case h5 => assumption); k_whole); intro g9 S9 c9 l9 lb9 br9 ke9 u0 u1 u2 u3 u4 u5 u6 v9 h9 tk9 T9 B9 D9 r1 r2 r3 r4 F9 N9; (have q9 := iup r3 (by assumption)); (have T8 := KtsTurn.trans (by assumption) T9); (have X9 := Frag.In.keeps (by assumption) (Below.stays B9)); (have P9 := Top.keeps (by assumption) (Below.stays B9)); (try dsimp only)) | ((with_reducible show wpAny _ _ (call (Value.ref 258) _) _ _ _); k_dflt (refine' c_chdzE ?k1 ?k2 ?k3 ?k4 ?k5 ?k6 ?n0 ?nO ?hS ?hd ?hu ?h0 ?h1 ?h2 ?h3 ?h4 ?_; (case k1 | k2 | k3 | k4 | k5 => k_asm); (case k6 => first | exact rfl | assumption); (case n0 | nO => assumption); (case hS => first | assumption | exact ilen (by assumption) (by assumption) rfl | omega | (size_fits; done)); (case hd => ktr_room); (case hu => ktr_units); (case h0 | h1 | h2 | h3 => first | assumption | exact ilen (by assumption) (by assumption) rfl | omega | (size_fits; done)); (case h4 => first | assumption | exact AmTab.keeps (Below.stays (by assumption)) (by assumption)); k_whole); intro S9 c9 l9 lb9 br9 ke9 u0 u1 u2 u3 u4 u5 u6 v9 h9 tk9 r1 r2 r3 r4 F9 N9; (have q9 := iup r3 (by assumption)); (try dsimp only)) | ((with_reducible show wpAny _ _ (call (Value.ref 237) _) _ _ _); k_dflt (refine' c_step1E ?k1 ?k2 ?k3 ?k4 ?k5 ?k6 ?n0 ?nO ?hS ?hd ?hu ?h0 ?h1 ?h2 ?h3 ?h4 ?h5 ?_; (case k1 | k2 | k3 | k4 | k5 => k_asm); (case k6 => first | exact rfl | assumption); (case n0 | nO => assumption); (case hS => first | assumption | exact ilen (by assumption) (by assumption) rfl | omega | (size_fits; done)); (case hd => ktr_room); (case hu => ktr_units); (case h0 | h1 | h2 | h3 | h4 => first | assumption | exact ilen (by assumption) (by assumption) rfl | omega | (size_fits; done)); (case h5 => first | assumption | exact AmTab.keeps (Below.stays (by assumption)) (by assumption)); k_whole); intro S9 c9 l9 lb9 br9 ke9 u0 u1 u2 u3 u4 u5 u6 v9 h9 tk9 r1 r2 r3 r4 F9 N9; (have q9 := iup r3 (by assumption)); (try dsimp only)) | ((with_reducible show wpAny _ _ (call (Value.ref 251) _) _ _ _); k_dflt (refine' c_fixcE ?k1 ?k2 ?k3 ?k4 ?k5 ?k6 ?n0 ?nO ?hS ?hd ?hu ?h0 ?h1 ?h2 ?h3 ?h4 ?_; (case k1 | k2 | k3 | k4 | k5 => k_asm); (case k6 => first | exact rfl | assumption); (case n0 | nO => assumption); (case hS => first | assumption | exact ilen (by assumption) (by assumption) rfl | omega | (size_fits; done)); (case hd => ktr_room); (case hu => ktr_units); (case h0 | h1 | h2 | h3 => first | assumption | exact ilen (by assumption) (by assumption) rfl | omega | (size_fits; done)); (case h4 => first | assumption | exact AmTab.keeps (Below.stays (by assumption)) (by assumption)); k_whole); intro S9 c9 l9 lb9 br9 ke9 u0 u1 u2 u3 u4 u5 u6 v9 h9 tk9 r1 r2 r3 r4 F9 N9; (have q9 := iup r3 (by assumption)); (try dsimp only)) | ((with_reducible show wpAny _ _ (subscriptTail _ _ (Value.str _ _) (Value.int _ _)) _ _ _); k_dflt (refine' item_chr ?g0 ?g1 ?gS ?_; (case g0 | g1 => ((try simp only [decide_eq_true_eq, decide_eq_false_iff_not, Bool.not_eq_true] at *); omega)); (case gS => first | assumption | omega); k_whole)) | (k_end; goal_has Lith.JoinT; (rename Fr _ _ _ _ => jF); (rename News _ _ _ _ => jN); (try simp only [List.push_toArray] at jN); (first | refine joinT_end ⟨_, _⟩ jF jN (by first | assumption | exact KtsTurn.refl) (by assumption) (by first | exact fun _ hp => hp | kst_in) (by first | ((try dsimp only); (repeat (first | exact List.forall_mem_nil _ | refine fm (by with_unfolding_all exact @rfl _ (some _)) ?_)); done) | kst_all) (by first | ((intro z h2 h3); (try dsimp only at h2); (repeat (refine ifn ?_ ?_; first | with_reducible exact h2 (_, _) (by (repeat (first | exact List.mem_cons_self | refine List.mem_cons_of_mem _ ?_))) | exact cnf h3 | exact nst h3 (by decide +kernel))); rfl) | ksw_same) (halt_of ?_) | refine joinT_end ⟨_, _, _, _, _, _, _, _, _⟩ jF jN (by first | assumption | exact KtsTurn.refl) (by assumption) (by first | exact fun _ hp => hp | kst_in) (by first | ((try dsimp only); (repeat (first | exact List.forall_mem_nil _ | refine fm (by with_unfolding_all exact @rfl _ (some _)) ?_)); done) | kst_all) (by first | ((intro z h2 h3); (try dsimp only at h2); (repeat (refine ifn ?_ ?_; first | with_reducible exact h2 (_, _) (by (repeat (first | exact List.mem_cons_self | refine List.mem_cons_of_mem _ ?_))) | exact cnf h3 | exact nst h3 (by decide +kernel))); rfl) | ksw_same) (halt_of ?_))) | ((with_reducible show wpAny _ _ (getAttr (Value.ref 1085) (PySem.Str.ofString "g_v") _) _ _ _); k_dflt (refine' get_gv ?k1 ?k2 ?k3 ?_; (case k1 => k_asm); (case k2 => k_in); (case k3 => first | assumption | exact GV.keeps (Below.stays (by assumption)) (by assumption)); k_whole); (try dsimp only))) | (k_unfold; (try dsimp only)) | (k_end; kc_close) | walk1 | (dsimp only; walk1)))
      all_goals (refine of_halt ?_; (try dsimp only))
      all_goals first | (rw [hc]; exact st_0) | exact st_1b hc (by assumption) (by assumption)
    · refine al2 ?_; intro c8 tc8; rintro u8 g8 h8 tk8 hp8 T8 B8 D8 F8 N8
      (try dsimp only [kstB] at F8); (try dsimp only at hp8); (try dsimp only at N8)
      clear F2 N2
      have X8 := Frag.In.keeps XB (Below.stays B8)
      have P8 := Top.keeps TB (Below.stays B8)
      obtain ⟨hp1, hp2, hp3⟩ := id hp8
      (repeat' (first | ((with_reducible refine of_halt ?_); first | ((rename Heap.MadeExcOf _ _ _ _ _ => mxX); k_dflt (refine' caught_here mxX ?F ?N ?K ?XB ?TB ?T0 ?ex ?q ?_; (case F | N | K | XB | TB => assumption); (case T0 => first | assumption | exact KtsTurn.refl); (case ex => k_is); (case q => kts_isx); k_whole); intro h' g' T' F' N' K' X' P'; (try k_sweep)) | ((with_reducible show wpAny _ _ (call (Value.ref 161) _) _ _ _); k_dflt (refine' c_slice_delE ?k1 ?k2 ?k3 ?k4 ?k5 ?k6 ?n0 ?nO ?hS ?hd ?hu ?h0 ?h1 ?h2 ?h3 ?_; (case k1 | k2 | k3 | k4 | k5 => k_asm); (case k6 => first | exact rfl | assumption); (case n0 | nO => assumption); (case hS => first | assumption | exact ilen (by assumption) (by assumption) rfl | omega | (size_fits; done)); (case hd => ktr_room); (case hu => ktr_units); (case h0 | h1 | h2 | h3 => first | assumption | exact ilen (by assumption) (by assumption) rfl | omega | (size_fits; done)); k_whole); intro u0 u1 u2 u3 u4 u5 u6 h9 tk9 F9 N9; (try dsimp only)) | ((with_reducible show wpAny _ _ (call (Value.ref 70) _) _ _ _); k_dflt (refine' c_go_inE ?k1 ?k2 ?k3 ?k4 ?k5 ?k6 ?n0 ?nO ?hS ?hd ?hu ?h0 ?h1 ?h2 ?h3 ?_ ?_; (case k1 | k2 | k3 | k4 | k5 => k_asm); (case k6 => first | exact rfl | assumption); (case n0 | nO => assumption); (case hS => first | assumption | exact ilen (by assumption) (by assumption) rfl | omega | (size_fits; done)); (case hd => ktr_room); (case hu => ktr_units); (case h0 => first | assumption | exact GV.keeps (Below.stays (by assumption)) (by assumption)); (case h1 | h2 | h3 => first | assumption | exact ilen (by assumption) (by assumption) rfl | omega | (size_fits; done)); k_whole); (intro c9 u0 u1 u2 u3 u4 u5 u6 h9 tk9 gc9 hg1 hg2 hg3 F9 N9); (try dsimp only); rotate_left; (intro c9 u0 u1 u2 u3 u4 u5 u6 h9 tk9 gc9 hg1 hg2 F9 N9); (try dsimp only); rotate_left) | ((with_reducible show wpAny _ _ (call (Value.ref 98) _) _ _ _); k_dflt (refine' c_go_outE ?k1 ?k2 ?k3 ?k4 ?k5 ?k6 ?n0 ?nO ?hS ?hd ?hu ?h0 ?h1 ?h2 ?h3 ?_ ?_; (case k1 | k2 | k3 | k4 | k5 => k_asm); (case k6 => first | exact rfl | assumption); (case n0 | nO => assumption); (case hS => first | assumption | exact ilen (by assumption) (by assumption) rfl | omega | (size_fits; done)); (case hd => ktr_room); (case hu => ktr_units); (case h0 => first | assumption | exact GV.keeps (Below.stays (by assumption)) (by assumption)); (case h1 | h2 | h3 => first | assumption | exact ilen (by assumption) (by assumption) rfl | omega | (size_fits; done)); k_whole); (intro c9 u0 u1 u2 u3 u4 u5 u6 h9 tk9 gc9 hg1 hg2 hg3 F9 N9); (try dsimp only); rotate_left; (intro c9 u0 u1 u2 u3 u4 u5 u6 h9 tk9 gc9 hg1 hg2 F9 N9); (try dsimp only); rotate_left) | ((with_reducible show wpAny _ _ (call (Value.ref 265) _) _ _ _); k_dflt (refine' c_gdE ?k1 ?k2 ?k3 ?k4 ?k5 ?k6 ?n0 ?nO ?hS ?hd ?hu ?h0 ?h1 ?h2 ?h3 ?_; (case k1 | k2 | k3 | k4 | k5 => k_asm); (case k6 => first | exact rfl | assumption); (case n0 | nO => assumption); (case hS => first | assumption | exact ilen (by assumption) (by assumption) rfl | omega | (size_fits; done)); (case hd => ktr_room); (case hu => ktr_units); (case h0 | h1 | h2 | h3 => first | assumption | exact ilen (by assumption) (by assumption) rfl | omega | (size_fits; done)); k_whole); intro S9 c9 l9 lb9 br9 ke9 u0 u1 u2 u3 u4 u5 u6 v9 h9 tk9 r1 r2 r3 r4 F9 N9; (have q9 := iup r3 (by assumption)); (try dsimp only)) | ((with_reducible show wpAny _ _ (call (Value.ref 244) _) _ _ _); k_dflt (refine' c_step2E ?k1 ?k2 ?k3 ?k4 ?k5 ?kD ?k6 ?n0 ?nO ?hS ?hd ?hu ?h0 ?h1 ?h2 ?h3 ?h4 ?h5 ?_; (case k2 | k1 => k_asm); (case k3 => assumption); (case k4 => k_asm); (case k5 | kD => assumption); (case k6 => first | exact rfl | assumption); (case n0 | nO => assumption); (case hS => first | assumption | exact ilen (by assumption) (by assumption) rfl | omega | (size_fits; done)); (case hd => ktr_room); (case hu => ktr_units); (case h0 | h1 | h2 | h3 | h4 => first | assumption | exact ilen (by assumption) (by assumption) rfl | omega | (size_fits; done)); (case h5 => assumption); k_whole); intro g9 S9 c9 l9 lb9 br9 ke9 u0 u1 u2 u3 u4 u5 u6 v9 h9 tk9 T9 B9 D9 r1 r2 r3 r4 F9 N9; (have q9 := iup r3 (by assumption)); (have T8 := KtsTurn.trans (by assumption) T9); (have X9 := Frag.In.keeps (by assumption) (Below.stays B9)); (have P9 := Top.keeps (by assumption) (Below.stays B9)); (try dsimp only)) | ((with_reducible show wpAny _ _ (call (Value.ref 258) _) _ _ _); k_dflt (refine' c_chdzE ?k1 ?k2 ?k3 ?k4 ?k5 ?k6 ?n0 ?nO ?hS ?hd ?hu ?h0 ?h1 ?h2 ?h3 ?h4 ?_; (case k1 | k2 | k3 | k4 | k5 => k_asm); (case k6 => first | exact rfl | assumption); (case n0 | nO => assumption); (case hS => first | assumption | exact ilen (by assumption) (by assumption) rfl | omega | (size_fits; done)); (case hd => ktr_room); (case hu => ktr_units); (case h0 | h1 | h2 | h3 => first | assumption | exact ilen (by assumption) (by assumption) rfl | omega | (size_fits; done)); (case h4 => first | assumption | exact AmTab.keeps (Below.stays (by assumption)) (by assumption)); k_whole); intro S9 c9 l9 lb9 br9 ke9 u0 u1 u2 u3 u4 u5 u6 v9 h9 tk9 r1 r2 r3 r4 F9 N9; (have q9 := iup r3 (by assumption)); (try dsimp only)) | ((with_reducible show wpAny _ _ (call (Value.ref 237) _) _ _ _); k_dflt (refine' c_step1E ?k1 ?k2 ?k3 ?k4 ?k5 ?k6 ?n0 ?nO ?hS ?hd ?hu ?h0 ?h1 ?h2 ?h3 ?h4 ?h5 ?_; (case k1 | k2 | k3 | k4 | k5 => k_asm); (case k6 => first | exact rfl | assumption); (case n0 | nO => assumption); (case hS => first | assumption | exact ilen (by assumption) (by assumption) rfl | omega | (size_fits; done)); (case hd => ktr_room); (case hu => ktr_units); (case h0 | h1 | h2 | h3 | h4 => first | assumption | exact ilen (by assumption) (by assumption) rfl | omega | (size_fits; done)); (case h5 => first | assumption | exact AmTab.keeps (Below.stays (by assumption)) (by assumption)); k_whole); intro S9 c9 l9 lb9 br9 ke9 u0 u1 u2 u3 u4 u5 u6 v9 h9 tk9 r1 r2 r3 r4 F9 N9; (have q9 := iup r3 (by assumption)); (try dsimp only)) | ((with_reducible show wpAny _ _ (call (Value.ref 251) _) _ _ _); k_dflt (refine' c_fixcE ?k1 ?k2 ?k3 ?k4 ?k5 ?k6 ?n0 ?nO ?hS ?hd ?hu ?h0 ?h1 ?h2 ?h3 ?h4 ?_; (case k1 | k2 | k3 | k4 | k5 => k_asm); (case k6 => first | exact rfl | assumption); (case n0 | nO => assumption); (case hS => first | assumption | exact ilen (by assumption) (by assumption) rfl | omega | (size_fits; done)); (case hd => ktr_room); (case hu => ktr_units); (case h0 | h1 | h2 | h3 => first | assumption | exact ilen (by assumption) (by assumption) rfl | omega | (size_fits; done)); (case h4 => first | assumption | exact AmTab.keeps (Below.stays (by assumption)) (by assumption)); k_whole); intro S9 c9 l9 lb9 br9 ke9 u0 u1 u2 u3 u4 u5 u6 v9 h9 tk9 r1 r2 r3 r4 F9 N9; (have q9 := iup r3 (by assumption)); (try dsimp only)) | ((with_reducible show wpAny _ _ (subscriptTail _ _ (Value.str _ _) (Value.int _ _)) _ _ _); k_dflt (refine' item_chr ?g0 ?g1 ?gS ?_; (case g0 | g1 => ((try simp only [decide_eq_true_eq, decide_eq_false_iff_not, Bool.not_eq_true] at *); omega)); (case gS => first | assumption | omega); k_whole)) | (k_end; goal_has Lith.JoinT; (rename Fr _ _ _ _ => jF); (rename News _ _ _ _ => jN); (try simp only [List.push_toArray] at jN); (first | refine joinT_end ⟨_, _⟩ jF jN (by first | assumption | exact KtsTurn.refl) (by assumption) (by first | exact fun _ hp => hp | kst_in) (by first | ((try dsimp only); (repeat (first | exact List.forall_mem_nil _ | refine fm (by with_unfolding_all exact @rfl _ (some _)) ?_)); done) | kst_all) (by first | ((intro z h2 h3); (try dsimp only at h2); (repeat (refine ifn ?_ ?_; first | with_reducible exact h2 (_, _) (by (repeat (first | exact List.mem_cons_self | refine List.mem_cons_of_mem _ ?_))) | exact cnf h3 | exact nst h3 (by decide +kernel))); rfl) | ksw_same) (halt_of ?_) | refine joinT_end ⟨_, _, _, _, _, _, _, _, _⟩ jF jN (by first | assumption | exact KtsTurn.refl) (by assumption) (by first | exact fun _ hp => hp | kst_in) (by first | ((try dsimp only); (repeat (first | exact List.forall_mem_nil _ | refine fm (by with_unfolding_all exact @rfl _ (some _)) ?_)); done) | kst_all) (by first | ((intro z h2 h3); (try dsimp only at h2); (repeat (refine ifn ?_ ?_; first | with_reducible exact h2 (_, _) (by (repeat (first | exact List.mem_cons_self | refine List.mem_cons_of_mem _ ?_))) | exact cnf h3 | exact nst h3 (by decide +kernel))); rfl) | ksw_same) (halt_of ?_))) | ((with_reducible show wpAny _ _ (getAttr (Value.ref 1085) (PySem.Str.ofString "g_v") _) _ _ _); k_dflt (refine' get_gv ?k1 ?k2 ?k3 ?_; (case k1 => k_asm); (case k2 => k_in); (case k3 => first | assumption | exact GV.keeps (Below.stays (by assumption)) (by assumption)); k_whole); (try dsimp only))) | (k_unfold; (try dsimp only)) | (k_end; kc_close) | walk1 | (dsimp only; walk1)))
      all_goals (refine of_halt ?_; (try dsimp only))
      all_goals first
        | exact p1_a hp8 hl (by assumption) rfl
        | exact p1_b hp8 hl (by assumption) (by assumption) (by assumption) (by assumption) (by assumption) rfl
        | exact p1_c hp8 hl (by assumption) (by assumption) (by assumption) (by assumption) (by assumption) (by assumption) (by assumption) (by assumption) rfl
  · refine al9 ?_; intro c8 tc8 p8 tp8 v0 v2 v3 v4 v5; rintro u8 g8 h8 tk8 hp8 T8 B8 D8 F8 N8
    (try dsimp only [kstB] at F8); (try dsimp only at hp8); (try dsimp only at N8)
    clear F1 N1
    have X8 := Frag.In.keeps XB (Below.stays B8)
    have P8 := Top.keeps TB (Below.stays B8)
    obtain ⟨hp1, hp2⟩ := p1_nn hp8
    (repeat' (first | ((with_reducible refine of_halt ?_); first | ((rename Heap.MadeExcOf _ _ _ _ _ => mxX); k_dflt (refine' caught_here mxX ?F ?N ?K ?XB ?TB ?T0 ?ex ?q ?_; (case F | N | K | XB | TB => assumption); (case T0 => first | assumption | exact KtsTurn.refl); (case ex => k_is); (case q => kts_isx); k_whole); intro h' g' T' F' N' K' X' P'; (try k_sweep)) | ((with_reducible show wpAny _ _ (call (Value.ref 161) _) _ _ _); k_dflt (refine' c_slice_delE ?k1 ?k2 ?k3 ?k4 ?k5 ?k6 ?n0 ?nO ?hS ?hd ?hu ?h0 ?h1 ?h2 ?h3 ?_; (case k1 | k2 | k3 | k4 | k5 => k_asm); (case k6 => first | exact rfl | assumption); (case n0 | nO => assumption); (case hS => first | assumption | exact ilen (by assumption) (by assumption) rfl | omega | (size_fits; done)); (case hd => ktr_room); (case hu => ktr_units); (case h0 | h1 | h2 | h3 => first | assumption | exact ilen (by assumption) (by assumption) rfl | omega | (size_fits; done)); k_whole); intro u0 u1 u2 u3 u4 u5 u6 h9 tk9 F9 N9; (try dsimp only)) | ((with_reducible show wpAny _ _ (call (Value.ref 70) _) _ _ _); k_dflt (refine' c_go_inE ?k1 ?k2 ?k3 ?k4 ?k5 ?k6 ?n0 ?nO ?hS ?hd ?hu ?h0 ?h1 ?h2 ?h3 ?_ ?_; (case k1 | k2 | k3 | k4 | k5 => k_asm); (case k6 => first | exact rfl | assumption); (case n0 | nO => assumption); (case hS => first | assumption | exact ilen (by assumption) (by assumption) rfl | omega | (size_fits; done)); (case hd => ktr_room); (case hu => ktr_units); (case h0 => first | assumption | exact GV.keeps (Below.stays (by assumption)) (by assumption)); (case h1 | h2 | h3 => first | assumption | exact ilen (by assumption) (by assumption) rfl | omega | (size_fits; done)); k_whole); (intro c9 u0 u1 u2 u3 u4 u5 u6 h9 tk9 gc9 hg1 hg2 hg3 F9 N9); (try dsimp only); rotate_left; (intro c9 u0 u1 u2 u3 u4 u5 u6 h9 tk9 gc9 hg1 hg2 F9 N9); (try dsimp only); rotate_left) | ((with_reducible show wpAny _ _ (call (Value.ref 98) _) _ _ _); k_dflt (refine' c_go_outE ?k1 ?k2 ?k3 ?k4 ?k5 ?k6 ?n0 ?nO ?hS ?hd ?hu ?h0 ?h1 ?h2 ?h3 ?_ ?_; (case k1 | k2 | k3 | k4 | k5 => k_asm); (case k6 => first | exact rfl | assumption); (case n0 | nO => assumption); (case hS => first | assumption | exact ilen (by assumption) (by assumption) rfl | omega | (size_fits; done)); (case hd => ktr_room); (case hu => ktr_units); (case h0 => first | assumption | exact GV.keeps (Below.stays (by assumption)) (by assumption)); (case h1 | h2 | h3 => first | assumption | exact ilen (by assumption) (by assumption) rfl | omega | (size_fits; done)); k_whole); (intro c9 u0 u1 u2 u3 u4 u5 u6 h9 tk9 gc9 hg1 hg2 hg3 F9 N9); (try dsimp only); rotate_left; (intro c9 u0 u1 u2 u3 u4 u5 u6 h9 tk9 gc9 hg1 hg2 F9 N9); (try dsimp only); rotate_left) | ((with_reducible show wpAny _ _ (call (Value.ref 265) _) _ _ _); k_dflt (refine' c_gdE ?k1 ?k2 ?k3 ?k4 ?k5 ?k6 ?n0 ?nO ?hS ?hd ?hu ?h0 ?h1 ?h2 ?h3 ?_; (case k1 | k2 | k3 | k4 | k5 => k_asm); (case k6 => first | exact rfl | assumption); (case n0 | nO => assumption); (case hS => first | assumption | exact ilen (by assumption) (by assumption) rfl | omega | (size_fits; done)); (case hd => ktr_room); (case hu => ktr_units); (case h0 | h1 | h2 | h3 => first | assumption | exact ilen (by assumption) (by assumption) rfl | omega | (size_fits; done)); k_whole); intro S9 c9 l9 lb9 br9 ke9 u0 u1 u2 u3 u4 u5 u6 v9 h9 tk9 r1 r2 r3 r4 F9 N9; (have q9 := iup r3 (by assumption)); (try dsimp only)) | ((with_reducible show wpAny _ _ (call (Value.ref 244) _) _ _ _); k_dflt (refine' c_step2E ?k1 ?k2 ?k3 ?k4 ?k5 ?kD ?k6 ?n0 ?nO ?hS ?hd ?hu ?h0 ?h1 ?h2 ?h3 ?h4 ?h5 ?_; (case k2 | k1 => k_asm); (case k3 => assumption); (case k4 => k_asm); (case k5 | kD => assumption); (case k6 => first | exact rfl | assumption); (case n0 | nO => assumption); (case hS => first | assumption | exact ilen (by assumption) (by assumption) rfl | omega | (size_fits; done)); (case hd => ktr_room); (case hu => ktr_units); (case h0 | h1 | h2 | h3 | h4 => first | assumption | exact ilen (by assumption) (by assumption) rfl | omega | (size_fits; done)); (case h5 => assumption); k_whole); intro g9 S9 c9 l9 lb9 br9 ke9 u0 u1 u2 u3 u4 u5 u6 v9 h9 tk9 T9 B9 D9 r1 r2 r3 r4 F9 N9; (have q9 := iup r3 (by assumption)); (have T8 := KtsTurn.trans (by assumption) T9); (have X9 := Frag.In.keeps (by assumption) (Below.stays B9)); (have P9 := Top.keeps (by assumption) (Below.stays B9)); (try dsimp only)) | ((with_reducible show wpAny _ _ (call (Value.ref 258) _) _ _ _); k_dflt (refine' c_chdzE ?k1 ?k2 ?k3 ?k4 ?k5 ?k6 ?n0 ?nO ?hS ?hd ?hu ?h0 ?h1 ?h2 ?h3 ?h4 ?_; (case k1 | k2 | k3 | k4 | k5 => k_asm); (case k6 => first | exact rfl | assumption); (case n0 | nO => assumption); (case hS => first | assumption | exact ilen (by assumption) (by assumption) rfl | omega | (size_fits; done)); (case hd => ktr_room); (case hu => ktr_units); (case h0 | h1 | h2 | h3 => first | assumption | exact ilen (by assumption) (by assumption) rfl | omega | (size_fits; done)); (case h4 => first | assumption | exact AmTab.keeps (Below.stays (by assumption)) (by assumption)); k_whole); intro S9 c9 l9 lb9 br9 ke9 u0 u1 u2 u3 u4 u5 u6 v9 h9 tk9 r1 r2 r3 r4 F9 N9; (have q9 := iup r3 (by assumption)); (try dsimp only)) | ((with_reducible show wpAny _ _ (call (Value.ref 237) _) _ _ _); k_dflt (refine' c_step1E ?k1 ?k2 ?k3 ?k4 ?k5 ?k6 ?n0 ?nO ?hS ?hd ?hu ?h0 ?h1 ?h2 ?h3 ?h4 ?h5 ?_; (case k1 | k2 | k3 | k4 | k5 => k_asm); (case k6 => first | exact rfl | assumption); (case n0 | nO => assumption); (case hS => first | assumption | exact ilen (by assumption) (by assumption) rfl | omega | (size_fits; done)); (case hd => ktr_room); (case hu => ktr_units); (case h0 | h1 | h2 | h3 | h4 => first | assumption | exact ilen (by assumption) (by assumption) rfl | omega | (size_fits; done)); (case h5 => first | assumption | exact AmTab.keeps (Below.stays (by assumption)) (by assumption)); k_whole); intro S9 c9 l9 lb9 br9 ke9 u0 u1 u2 u3 u4 u5 u6 v9 h9 tk9 r1 r2 r3 r4 F9 N9; (have q9 := iup r3 (by assumption)); (try dsimp only)) | ((with_reducible show wpAny _ _ (call (Value.ref 251) _) _ _ _); k_dflt (refine' c_fixcE ?k1 ?k2 ?k3 ?k4 ?k5 ?k6 ?n0 ?nO ?hS ?hd ?hu ?h0 ?h1 ?h2 ?h3 ?h4 ?_; (case k1 | k2 | k3 | k4 | k5 => k_asm); (case k6 => first | exact rfl | assumption); (case n0 | nO => assumption); (case hS => first | assumption | exact ilen (by assumption) (by assumption) rfl | omega | (size_fits; done)); (case hd => ktr_room); (case hu => ktr_units); (case h0 | h1 | h2 | h3 => first | assumption | exact ilen (by assumption) (by assumption) rfl | omega | (size_fits; done)); (case h4 => first | assumption | exact AmTab.keeps (Below.stays (by assumption)) (by assumption)); k_whole); intro S9 c9 l9 lb9 br9 ke9 u0 u1 u2 u3 u4 u5 u6 v9 h9 tk9 r1 r2 r3 r4 F9 N9; (have q9 := iup r3 (by assumption)); (try dsimp only)) | ((with_reducible show wpAny _ _ (subscriptTail _ _ (Value.str _ _) (Value.int _ _)) _ _ _); k_dflt (refine' item_chr ?g0 ?g1 ?gS ?_; (case g0 | g1 => ((try simp only [decide_eq_true_eq, decide_eq_false_iff_not, Bool.not_eq_true] at *); omega)); (case gS => first | assumption | omega); k_whole)) | (k_end; goal_has Lith.JoinT; (rename Fr _ _ _ _ => jF); (rename News _ _ _ _ => jN); (try simp only [List.push_toArray] at jN); (first | refine joinT_end ⟨_, _⟩ jF jN (by first | assumption | exact KtsTurn.refl) (by assumption) (by first | exact fun _ hp => hp | kst_in) (by first | ((try dsimp only); (repeat (first | exact List.forall_mem_nil _ | refine fm (by with_unfolding_all exact @rfl _ (some _)) ?_)); done) | kst_all) (by first | ((intro z h2 h3); (try dsimp only at h2); (repeat (refine ifn ?_ ?_; first | with_reducible exact h2 (_, _) (by (repeat (first | exact List.mem_cons_self | refine List.mem_cons_of_mem _ ?_))) | exact cnf h3 | exact nst h3 (by decide +kernel))); rfl) | ksw_same) (halt_of ?_) | refine joinT_end ⟨_, _, _, _, _, _, _, _, _⟩ jF jN (by first | assumption | exact KtsTurn.refl) (by assumption) (by first | exact fun _ hp => hp | kst_in) (by first | ((try dsimp only); (repeat (first | exact List.forall_mem_nil _ | refine fm (by with_unfolding_all exact @rfl _ (some _)) ?_)); done) | kst_all) (by first | ((intro z h2 h3); (try dsimp only at h2); (repeat (refine ifn ?_ ?_; first | with_reducible exact h2 (_, _) (by (repeat (first | exact List.mem_cons_self | refine List.mem_cons_of_mem _ ?_))) | exact cnf h3 | exact nst h3 (by decide +kernel))); rfl) | ksw_same) (halt_of ?_))) | ((with_reducible show wpAny _ _ (getAttr (Value.ref 1085) (PySem.Str.ofString "g_v") _) _ _ _); k_dflt (refine' get_gv ?k1 ?k2 ?k3 ?_; (case k1 => k_asm); (case k2 => k_in); (case k3 => first | assumption | exact GV.keeps (Below.stays (by assumption)) (by assumption)); k_whole); (try dsimp only))) | (k_unfold; (try dsimp only)) | (k_end; kc_close) | walk1 | (dsimp only; walk1)))
    all_goals (have ch := stem_chain (S := S) (q := p8.toNat) (by assumption) (by assumption) (by assumption) (by assumption) (by assumption) (by assumption))
    all_goals (refine' ret _ _ _ _ _ _ _ _ _ _ _ _ _ _ _ _ _ _ _ ?cT ?cB ?cD ?cF ?cN ?cR; (case cT | cB | cD => assumption); (case cF | cN => k_asm); (case cR => (refine ⟨p8, hp8, ?_⟩; rw [ch]; first
      | (rename ((_ != _) = true) => hA; exact apos_nob (by omega) (by omega) hA)
      | (rename ((_ != _) = false) => hA; exact apos_yesb hA (by omega) (by omega) (by omega) (by omega))
      | exact apos_0 (by assumption) (by omega))))

end Lith
end
section
open PySem PySem.W PyProof.Rows PySem.Calls PySem.Spec
set_option Elab.async false
set_option maxRecDepth 100000
set_option maxHeartbeats 1000000
namespace Lith
/-- a called def's end: the base may have turned -/
noncomputable def LeaveT (A₀ : Around) (base : Heap) (outer : List Env) (env : Env) (h₀ : Heap) (L : Addr) (m : Str → Option Value) (g : Heap) (R : Result → Shared → Prop) (v : Value) (s' : Shared) : Prop :=
  ∃ g' L' m' news', KtsTurn ((env :: outer).filterMap (·.frame)) g g' ∧ Fr g' L' s'.heap m' ∧ News g' L' s'.heap news' ∧
    ∀ h₀', KtsTurn (outer.filterMap (·.frame)) h₀ h₀' → Fr h₀' L s'.heap m → News h₀' L s'.heap news' → Below A₀ base outer h₀' → KtsDicts (outer.filterMap (·.frame)) h₀' → R (.ok (.ret v)) s'
theorem leaveT_ {A₀ : Around} {base g' : Heap} {outer : List Env} {env : Env} {h₀ : Heap} {L L' : Addr} {m m' : Str → Option Value} {g : Heap} {R : Result → Shared → Prop} {v : Value} {s' : Shared} {news' : List (Addr × Obj)}
    (F : Fr g' L' s'.heap m') (N : News g' L' s'.heap news') (T : KtsTurn ((env :: outer).filterMap (·.frame)) g g')
    (k : ∀ h₀', KtsTurn (outer.filterMap (·.frame)) h₀ h₀' → Fr h₀' L s'.heap m → News h₀' L s'.heap news' → Below A₀ base outer h₀' → KtsDicts (outer.filterMap (·.frame)) h₀' → R (.ok (.ret v)) s') :
    LeaveT A₀ base outer env h₀ L m g R v s' := ⟨g', L', m', news', T, F, N, k⟩
theorem frames_cons {env : Env} {outer : List Env} {L : Addr} (hf : env.frame = some L) : (env :: outer).filterMap (·.frame) = L :: outer.filterMap (·.frame) := by
  rw [List.filterMap_cons]; simp only [hf]
section
variable {prog : Program} {w : World} {A₀ A : Around} {s : Shared} {base h₀ : Heap} {outer : List Env} {L : Addr} {m : Str → Option Value} {env : Env} {news : List (Addr × Obj)}
  {R : Result → Shared → Prop} {name qual : Str} {params : Arguments} {body : List Stmt} {scope : Scope} {cl : List (Str × Addr)} {dV kV doc pm cdv ct : Value} {an : Option Addr} {fo : Obj} {f : Addr} {args : Args} {binds : List (Str × Value)}
/-- what the caller has behind the call: its base turned as its outer frames have -/
theorem backT {g : Heap} (B : Below A₀ base outer h₀) (F : Fr h₀ L s.heap m) (N : News h₀ L s.heap news) (D : KtsDicts (outer.filterMap (·.frame)) h₀) (hf : env.frame = some L)
    (hg : g = hideAll s.heap (news.map (·.1))) (st : h₀.StaysIn g) {v : Value} {s' : Shared} (hl : LeaveT A₀ base outer env h₀ L m g R v s') : R (.ok (.ret v)) s' := by
  obtain ⟨g', L', m', news', T', F', N', k⟩ := hl
  obtain ⟨oL, es, ep, hL, hLd, hLk, hLf⟩ := F.ns
  have nL₀ : h₀.get? L = none := kts_self F
  have nL : L ∉ news.map (·.1) := fun q => by
    obtain ⟨p, hp, e⟩ := List.mem_map.mp q
    exact (N p hp).2.1 e
  have hLg : g.get? L = some oL := hg ▸ hideAll_get _ hL nL
  obtain ⟨sl, hs⟩ := T'.up hLg
  have fr : ∀ b, b ∈ (env :: outer).filterMap (·.frame) → b = L ∨ b ∈ outer.filterMap (·.frame) := fun b q => by
    rw [frames_cons hf] at q
    exact List.mem_cons.mp q
  have keepT : ∀ b o, h₀.get? b = some o → b ∉ outer.filterMap (·.frame) → s'.heap.get? b = some o := fun b o e nm => F'.keep b o (T'.other b o (st b o e) fun q => by
    rcases fr b q with z | z
    · rw [z, nL₀] at e; cases e
    · exact nm z)
  obtain ⟨T₁, S₁⟩ := kts_turn_at (h := s'.heap) (fs := outer.filterMap (·.frame)) (g := h₀)
    (fun b hb => let ⟨_, o, ho, _⟩ := B.frames.mem hb; ⟨o, ho⟩) keepT
    (fun b o e _ => let ⟨sl', hs'⟩ := T'.up (st b o e); ⟨sl', F'.keep _ _ hs'⟩)
  have B₃ : Below A₀ base outer (ktsHeap s'.heap (outer.filterMap (·.frame)) h₀) := ⟨B.stack, fun b o e => T₁.other b o (B.stays b o e) (fun hm => by
    rw [(B.frames.mem hm).1] at e; cases e), B.frames.of_keeps fun b o e _ => let ⟨sl', hs'⟩ := T₁.up e; ⟨_, hs', rfl⟩⟩
  refine k _ T₁ ⟨⟨_, es, ep, F'.keep _ _ hs, hLd, hLk, hLf⟩, S₁, by rw [T₁.size]; exact F.above⟩ (fun p hp => ⟨(N' p hp).1, fun q => ?_, T₁.none_ _ ?_⟩) B₃ (D.turn T₁)
  · have := (N' p hp).2.2
    rw [q, hs] at this; cases this
  · cases q : h₀.get? p.1 with
    | none => rfl
    | some o =>
      obtain ⟨sl', hs'⟩ := T'.up (st _ _ q)
      have := (N' p hp).2.2
      rw [hs'] at this; cases this
theorem dictsT {g : Heap} (F : Fr h₀ L s.heap m) (N : News h₀ L s.heap news) (D : KtsDicts (outer.filterMap (·.frame)) h₀) (hf : env.frame = some L) (hg : g = hideAll s.heap (news.map (·.1))) (st : h₀.StaysIn g) : KtsDicts ((env :: outer).filterMap (·.frame)) g := by
  rw [frames_cons hf]
  intro b hb
  rcases List.mem_cons.mp hb with rfl | hb
  · obtain ⟨oL, es, ep, hL, hLd, _⟩ := F.ns
    refine ⟨oL, es, ep, hg ▸ hideAll_get _ hL fun q => ?_, hLd⟩
    obtain ⟨p, hp, e⟩ := List.mem_map.mp q
    exact (N p hp).2.1 e
  · obtain ⟨o, es, n, e, d⟩ := D b hb
    exact ⟨o, es, n, st _ _ e, d⟩
theorem enterT (B : Below A₀ base outer h₀) (F : Fr h₀ L s.heap m) (N : News h₀ L s.heap news) (hlim : h₀.NoLimit) (D : KtsDicts (outer.filterMap (·.frame)) h₀) (hA : A.frames = some (env :: outer)) (hf : env.frame = some L) (hke : env.scope.kind = .function)
    (ho : s.heap.get? f = some fo) (hd : fo.data = .func (fnX name qual params body scope [] dV kV doc pm an cdv ct)) (hcd : s.heap.CodeRec cdv qual) (hroom : A.depth < recursionLimit)
    (hbind : BindsTo s (fnX name qual params body scope [] dV kV doc pm an cdv ct) args binds) (hloc : ∀ y ∈ binds, scope.names.lookup y.1 = some .local)
    (h : ∀ g L' h₁, Fr g L' h₁ (fun y => binds.reverse.lookup y) → News g L' h₁ news → Below A base (env :: outer) g → KtsDicts ((env :: outer).filterMap (·.frame)) g →
      wpAny (model prog w) (A.deeper (envX qual scope L' f cdv [])) (execs body (envX qual scope L' f cdv []))
        (fun fl s' => LeaveT A₀ base outer env h₀ L m g R (match fl with | .ret v => v | _ => .none) s')
        (fun e s' => wpAny (model prog w) (A.deeper (envX qual scope L' f cdv [])) («leaving» (envX qual scope L' f cdv []) e) (fun _ s'' => R (.error e) s'') (fun e' s'' => R (.error e') s'') s')
        { s with heap := h₁, toks := s.toks + binds.length })
    (hcell : ∀ x ∈ scope.names, x.2 ≠ .cell) (hco : scope.isCoroutine = false := by rfl) (hgen : scope.isGenerator = false := by rfl) (hk : scope.kind = .function := by rfl) : codeAny (model prog w) A (.call (.ref f) args) R s := by
  obtain ⟨FG, BG, st, _⟩ := groundX (R := R) B F N hA hf hke
  refine codeAny_call_def (fd := fnX name qual params body scope [] dV kV doc pm an cdv ct) (body := body) (binds := binds) hroom ho hd (hlim.keeps F.keep) hcd rfl hbind hcell hloc (fun h₁ hns hk₁ => ?_) hco hgen hk
  exact wpAny_mono (h _ s.heap.objs.size h₁ ⟨hns, fun b o e => hk₁ b o (of_hideAll _ e), Nat.le_of_eq (hideAll_size _ _)⟩
    (fun p hp => ⟨hk₁ _ _ (N p hp).1, Nat.ne_of_lt (Heap.lt_size (N p hp).1), hideAll_none _ (List.mem_map_of_mem hp)⟩) BG (dictsT F N D hf rfl st)) (fun fl s' hl => backT B F N D hf rfl st hl) fun _ _ y => y
theorem enterK {K : Frag} {p : Program} {loose : List Str} {mean : ExcName → Option Value} {mg mb : Str → Option Value} {oc : Value} {od : Option Addr} {osl : Array (Option Value)}
    (B : Below A₀ base outer h₀) (F : Fr h₀ L s.heap m) (N : News h₀ L s.heap news) (X₀ : K.In h₀) (T : Top p loose mean mg mb h₀) (D : KtsDicts (outer.filterMap (·.frame)) h₀) (hA : A.frames = some (env :: outer)) (hf : env.frame = some L) (hke : env.scope.kind = .function)
    (ho : K.lookup f = some ⟨oc, od, .func (fnX name qual params body scope [] dV kV doc pm an cdv ct), osl⟩) (hcd : codeIn K cdv qual = true) (hroom : A.depth < recursionLimit)
    (hbind : BindsTo s (fnX name qual params body scope [] dV kV doc pm an cdv ct) args binds) (hloc : ∀ y ∈ binds, scope.names.lookup y.1 = some .local)
    (h : ∀ g L' h₁, Fr g L' h₁ (fun y => binds.reverse.lookup y) → News g L' h₁ news → Below A base (env :: outer) g → KtsDicts ((env :: outer).filterMap (·.frame)) g → K.In g → Top p loose mean mg mb g →
      wpAny (model prog w) (A.deeper (envX qual scope L' f cdv [])) (execs body (envX qual scope L' f cdv []))
        (fun fl s' => LeaveT A₀ base outer env h₀ L m g R (match fl with | .ret v => v | _ => .none) s')
        (fun e s' => wpAny (model prog w) (A.deeper (envX qual scope L' f cdv [])) («leaving» (envX qual scope L' f cdv []) e) (fun _ s'' => R (.error e) s'') (fun e' s'' => R (.error e') s'') s')
        { s with heap := h₁, toks := s.toks + binds.length })
    (hcell : ∀ x ∈ scope.names, x.2 ≠ .cell) (hco : scope.isCoroutine = false) (hgen : scope.isGenerator = false) (hk : scope.kind = .function) : codeAny (model prog w) A (.call (.ref f) args) R s := by
  obtain ⟨FG, BG, st, _⟩ := groundX (R := R) B F N hA hf hke
  refine codeAny_call_def (fd := fnX name qual params body scope [] dV kV doc pm an cdv ct) (body := body) (binds := binds) hroom ((X₀.keeps F.keep) _ _ ho) rfl (T.nolimit.keeps F.keep) (codeRec_of (X₀.keeps F.keep) hcd) rfl hbind hcell hloc (fun h₁ hns hk₁ => ?_) hco hgen hk
  exact wpAny_mono (h _ s.heap.objs.size h₁ ⟨hns, fun b o e => hk₁ b o (of_hideAll _ e), Nat.le_of_eq (hideAll_size _ _)⟩
    (fun p hp => ⟨hk₁ _ _ (N p hp).1, Nat.ne_of_lt (Heap.lt_size (N p hp).1), hideAll_none _ (List.mem_map_of_mem hp)⟩) BG (dictsT F N D hf rfl st) (X₀.keeps st) (T.keeps st)) (fun fl s' hl => backT B F N D hf rfl st hl) fun _ _ y => y
theorem enterC {K : Frag} {p : Program} {loose : List Str} {mean : ExcName → Option Value} {mg mb : Str → Option Value} {oc : Value} {od : Option Addr} {osl : Array (Option Value)}
    (B : Below A₀ base outer h₀) (F : Fr h₀ L s.heap m) (N : News h₀ L s.heap news) (X₀ : K.In h₀) (T : Top p loose mean mg mb h₀) (D : KtsDicts (outer.filterMap (·.frame)) h₀) (hA : A.frames = some (env :: outer)) (hf : env.frame = some L) (hke : env.scope.kind = .function)
    (ho : K.lookup f = some ⟨oc, od, .func (fnX name qual params body scope [] dV kV doc pm an cdv ct), osl⟩) (hcd : codeIn K cdv qual = true) (hroom : A.depth < recursionLimit)
    (hbind : BindsTo s (fnX name qual params body scope [] dV kV doc pm an cdv ct) args binds) (hkind : (binds.all fun y => scope.names.lookup y.1 == some .local || scope.names.lookup y.1 == some .cell) = true)
    (hnd : ((cellsFrom 0 scope.names []).map (·.1)).Nodup)
    (h : ∀ g L' h₁ tk cells, Fr g L' h₁ (bindL (envOfC qual scope L' f cdv).kindOf binds fun _ => none) → News g L' h₁ (cells ++ news) → CellsAre (bindC (envOfC qual scope L' f cdv).kindOf binds fun _ => none) (cellsFrom (L' + 1) scope.names []) cells →
      Below A base (env :: outer) g → KtsDicts ((env :: outer).filterMap (·.frame)) g → K.In g → Top p loose mean mg mb g → (∀ p ∈ news, p.1 < L') →
      wpAny (model prog w) (A.deeper (envOfC qual scope L' f cdv)) (execs body (envOfC qual scope L' f cdv))
        (fun fl s' => LeaveT A₀ base outer env h₀ L m g R (match fl with | .ret v => v | _ => .none) s')
        (fun e s' => wpAny (model prog w) (A.deeper (envOfC qual scope L' f cdv)) («leaving» (envOfC qual scope L' f cdv) e) (fun _ s'' => R (.error e) s'') (fun e' s'' => R (.error e') s'') s')
        { s with heap := h₁, toks := tk })
    (hco : scope.isCoroutine = false) (hgen : scope.isGenerator = false) (hk : scope.kind = .function) : codeAny (model prog w) A (.call (.ref f) args) R s := by
  obtain ⟨FG, BG, st, _⟩ := groundX (R := R) B F N hA hf hke
  refine codeAny_call_function hroom ((X₀.keeps F.keep) _ _ ho) rfl hco hgen rfl (codeRec_of (X₀.keeps F.keep) hcd) (hbind _ _ _ _ ?_)
  refine wpAny_newFunctionEnv_cells hk (kindsX hkind _) fun env' he s' x => ?_
  subst he
  refine ⟨(T.nolimit.keeps F.keep).keeps x.toInCall.keep, codeAny_func ?_⟩
  obtain ⟨h₁, tk, rfl, _⟩ := x.done
  have hk₁ := x.toInCall.keep
  obtain ⟨cells, NC, Y⟩ := Cl.news (h₀ := s.heap) (Nat.le_refl _) fun n c hm => ⟨x.cell n c (lookup_of_mem_nodup (cellsFrom_names scope.names 0 (s.heap.objs.size + 1) [] [] rfl ▸ hnd) hm), x.above n c hm⟩
  refine wpAny_mono (h _ s.heap.objs.size h₁ tk cells ⟨x.toInCall.ns, fun b o e => hk₁ b o (of_hideAll _ e), Nat.le_of_eq (hideAll_size _ _)⟩ (fun p hp => ?_) Y BG (dictsT F N D hf rfl st) (X₀.keeps st) (T.keeps st) (fun p hp => Heap.lt_size (N p hp).1)) (fun fl s' hl => backT B F N D hf rfl st hl) fun _ _ y => y
  rcases List.mem_append.mp hp with hp | hp
  · refine ⟨(NC p hp).1, (NC p hp).2.1, ?_⟩
    cases q : (hideAll s.heap (news.map (·.1))).get? p.1 with
    | none => rfl
    | some o => have := of_hideAll _ q; rw [(NC p hp).2.2] at this; cases this
  · exact ⟨hk₁ _ _ (N p hp).1, Nat.ne_of_lt (Heap.lt_size (N p hp).1), hideAll_none _ (List.mem_map_of_mem hp)⟩
end
end Lith
end
section
open PySem PySem.W PyProof.Rows PySem.Calls Lith
local macro_rules | `(tactic| walk_at "LeaveT") => `(tactic| (k_dflt (refine' leaveT_ ?F ?N ?T ?_; (case F | N => k_asm); (case T => first | assumption | exact KtsTurn.refl); k_whole); intro kg kT kF kN kB kD; (try dsimp only)))
section
open PySem PySem.W PyProof.Rows PySem.Calls Lith
set_option Elab.async false
set_option maxRecDepth 100000
set_option maxHeartbeats 8000000
namespace Lith
local macro_rules | `(tactic| walk_at "getAttr ref") => `(tactic| (with_reducible refine hlt_409968 ?_))



local macro_rules | `(tactic| walk_at "call ref") => `(tactic| (k_here; (with_reducible show wpAny _ _ (call (Value.ref 42) _) _ _ _); k_dflt (refine wpAny_call ?_; refine' code_def ?k1 ?k2 ?k3 ?k4 ?k5 ?kA ?kF ?kK ?k6 ?k7 ?k8 ?k9 ?kB ?_ ?c2 ?c3 ?c4 ?c5; (case kA | kF => exact rfl); (case kK => first | exact rfl | assumption); (case k1 | k2 | k3 | k4 | k5 => k_asm); (case k6 | k7 => k_is); (case k8 => ktr_room); (case k9 => exact BindsTo.of_eq rfl); (case c5 => decide); (case kB => exact locs rfl); (case c2 | c3 | c4 => exact rfl); k_whole; intro g' L' h' FG' F' N' B' X' T'; (try dsimp only); (try k_lift B'); (try k_fold))))
local macro_rules | `(tactic| walk_at "call ref") => `(tactic| (k_here; (with_reducible show wpAny _ _ (call (Value.ref 49) _) _ _ _); k_dflt (refine wpAny_call ?_; refine' code_def ?k1 ?k2 ?k3 ?k4 ?k5 ?kA ?kF ?kK ?k6 ?k7 ?k8 ?k9 ?kB ?_ ?c2 ?c3 ?c4 ?c5; (case kA | kF => exact rfl); (case kK => first | exact rfl | assumption); (case k1 | k2 | k3 | k4 | k5 => k_asm); (case k6 | k7 => k_is); (case k8 => ktr_room); (case k9 => exact BindsTo.of_eq rfl); (case c5 => decide); (case kB => exact locs rfl); (case c2 | c3 | c4 => exact rfl); k_whole; intro g' L' h' FG' F' N' B' X' T'; (try dsimp only); (try k_lift B'); (try k_fold))))

theorem c_word6 {w : World} {lo : List Str} {mean : ExcName → Option Value} {mg mb : Str → Option Value} {dp un : Nat} {gd : Option (List Code)} {cn : Str} {cs : Scope} {a : Addr} {ccd : Value} {cl : List (Str × Addr)} {outer : List Env} {A₀ : Around} {base h₀ : Heap} {L : Addr} {m : Str → Option Value} {s : Shared} {Q E : Value → Shared → Prop}
    {D I : Addr} {oth : List (Addr × Obj)} {k0 k1 k2 k3 k4 k5 t0 t1 t2 t3 t4 t5 : Tok} {S : Str} {c l lb br ke : Int} {z : Str} {tz : Tok}
    (B : Below A₀ base outer h₀) (F : Fr h₀ L s.heap m) (XB : (kL w.params).In base) (N : News h₀ L s.heap ((D, dictOf [⟨PyData.keyHash w.params (Str.ofString "current"), .str (Str.ofString "current") k0, .str S t0⟩, ⟨PyData.keyHash w.params (Str.ofString "cursor"), .str (Str.ofString "cursor") k1, .int c t1⟩, ⟨PyData.keyHash w.params (Str.ofString "limit"), .str (Str.ofString "limit") k2, .int l t2⟩, ⟨PyData.keyHash w.params (Str.ofString "limit_backward"), .str (Str.ofString "limit_backward") k3, .int lb t3⟩, ⟨PyData.keyHash w.params (Str.ofString "bra"), .str (Str.ofString "bra") k4, .int br t4⟩, ⟨PyData.keyHash w.params (Str.ofString "ket"), .str (Str.ofString "ket") k5, .int ke t5⟩] 6) :: (I, instObj 1085 D) :: oth)) (TB : Top qv lo mean mg mb base) (KD : KtsDicts (outer.filterMap (·.frame)) h₀)
    (hk : cs.kind = .function) (d0 : NeN D I) (hO : OwnOff oth [D, I]) (hd : dp + 44 < recursionLimit) (hu : un + 600 < cLine) (hz : z.length ≤ 800) (A0 : AmTab w base 852 273 tab0) (A1 : AmTab w base 1039 853 tab1) (A2 : AmTab w base 1073 1040 tab2) (A3 : AmTab w base 1081 1075 tab3) (GS : GV w base)
    (ret : ∀ (h₀' : Heap) (k6' : Tok) (S' : Str) (c' l' lb' br' ke' p1' : Int) (t0' t1' t2' t3' t4' t5' t6' : Tok) (v : Value) (h' : Heap) (tk' : Nat), KtsTurn (outer.filterMap (·.frame)) h₀ h₀' → Below A₀ base outer h₀' → KtsDicts (outer.filterMap (·.frame)) h₀' → Fr h₀' L h' m → News h₀' L h' ((D, dictOf [⟨PyData.keyHash w.params (Str.ofString "current"), .str (Str.ofString "current") k0, .str S' t0'⟩, ⟨PyData.keyHash w.params (Str.ofString "cursor"), .str (Str.ofString "cursor") k1, .int c' t1'⟩, ⟨PyData.keyHash w.params (Str.ofString "limit"), .str (Str.ofString "limit") k2, .int l' t2'⟩, ⟨PyData.keyHash w.params (Str.ofString "limit_backward"), .str (Str.ofString "limit_backward") k3, .int lb' t3'⟩, ⟨PyData.keyHash w.params (Str.ofString "bra"), .str (Str.ofString "bra") k4, .int br' t4'⟩, ⟨PyData.keyHash w.params (Str.ofString "ket"), .str (Str.ofString "ket") k5, .int ke' t5'⟩, ⟨PyData.keyHash w.params (Str.ofString "I_p1"), .str (Str.ofString "I_p1") k6', .int p1' t6'⟩] 7) :: (I, instObj 1085 D) :: oth) → (∃ p, P1S z p ∧ (∃ tk, v = .str S' tk) ∧ rv S' = stemR p.toNat (rv z)) → Q v { s with heap := h', toks := tk' }) :
    wpAny (model pg w) (ktrTop dp un gd cn cs L a ccd cl outer) (call (.ref 189) [.ref I, .str z tz]) Q E s := by
  have key : rl = rl := rfl
  have e0 : (D : Nat) ≠ I := d0
  have X : (kL w.params).In h₀ := XB.keeps B.stays
  have TT : Top qv lo mean mg mb h₀ := TB.keeps B.stays
  revert X key
  k_fill
  intro X _
  refine wpAny_call ?_
  refine' enterK ?k1 ?k2 ?k3 ?kX ?kP ?kD ?kA ?kF ?kK ?ko ?kc ?kr ?kb ?kl ?_ ?c1 ?c2 ?c3 ?c4; (case kA | kF => exact rfl); (case kK => assumption); (case k1 | k2 | k3 | kX | kP => k_asm); (case kD => assumption); (case ko | kc => k_is); (case kr => ktr_room); (case kb => first | exact BindsTo.of_eq rfl | exact binds_K (by k_in) rfl (by k_is) rfl rfl rfl); (case kl => exact locs rfl); (case c1 => decide); (case c2 | c3 | c4 => exact rfl)
  intro g' L' h' F' N' B' D' X' T'
  (try dsimp only)
  (try k_fold)
  (repeat' (first | ((with_reducible refine of_halt ?_); first | ((with_reducible show wpAny _ _ (call (Value.ref 272) _) _ _ _); k_dflt (refine' c_stem9 ?k1 ?k2 ?k3 ?k4 ?k5 ?kD ?k6 ?n0 ?nO ?hS ?hd ?hu ?h0 ?h1 ?h2 ?h3 ?h4 ?h5 ?h6 ?h7 ?h8 ?hL ?_; (case k2 | k1 => k_asm); (case k3 => assumption); (case k4 => (rename News _ _ _ _ => nS9; exact nS9)); (case hL => first | exact .inl rfl | exact .inr ⟨_, _, _, rfl⟩); (case k5 | kD => assumption); (case k6 => first | exact rfl | assumption); (case n0 | nO => assumption); (case hS => first | assumption | omega | (size_fits; done)); (case hd => ktr_room); (case hu => ktr_units); (case h0 | h1 | h2 | h3 => first | assumption | omega | (size_fits; done)); (case h4 | h5 | h6 | h7 | h8 => assumption); k_whole); intro g9 k9 S9 c9 l9 lb9 br9 ke9 p9 u0 u1 u2 u3 u4 u5 u6 v9 h9 tk9 T9 B9 D9 F9 N9 R9; (have X9 := Frag.In.keeps (by assumption) (Below.stays B9)); (have P9 := Top.keeps (by assumption) (Below.stays B9)); (try dsimp only)) | ((with_reducible show wpAny _ _ (getAttr (Value.ref 1085) (PySem.Str.ofString "g_v") _) _ _ _); k_dflt (refine' get_gv ?k1 ?k2 ?k3 ?_; (case k1 => k_asm); (case k2 => k_in); (case k3 => first | assumption | exact GV.keeps (Below.stays (by assumption)) (by assumption)); k_whole); (try dsimp only))) | (k_unfold; (try dsimp only)) | (k_end; kc_close) | walk1 | (dsimp only; walk1)))
  refine' ret _ _ _ _ _ _ _ _ _ _ _ _ _ _ _ _ _ _ _ ?cT ?cB ?cD ?cF ?cN ?cR; (case cT | cB | cD => assumption); (case cF | cN => k_asm); (case cR => ((rename (∃ _, P1S _ _ ∧ _) => hR); (obtain ⟨p, a, b⟩ := hR); exact ⟨p, a, ⟨_, rfl⟩, b⟩))
end Lith
end
section
open PySem PySem.W PyProof.Rows PySem.Calls Lith
set_option Elab.async false
set_option maxRecDepth 100000
set_option maxHeartbeats 8000000
namespace Lith
local macro_rules | `(tactic| walk_at "pad 0") => `(tactic| skip)
local macro_rules | `(tactic| walk_at "getAttr ref") => `(tactic| (with_reducible refine hlt_409968 ?_))



local macro_rules | `(tactic| walk_at "call ref") => `(tactic| (k_here; (with_reducible show wpAny _ _ (call (Value.ref 42) _) _ _ _); k_dflt (refine wpAny_call ?_; refine' code_def ?k1 ?k2 ?k3 ?k4 ?k5 ?kA ?kF ?kK ?k6 ?k7 ?k8 ?k9 ?kB ?_ ?c2 ?c3 ?c4 ?c5; (case kA | kF => exact rfl); (case kK => first | exact rfl | assumption); (case k1 | k2 | k3 | k4 | k5 => k_asm); (case k6 | k7 => k_is); (case k8 => ktr_room); (case k9 => exact BindsTo.of_eq rfl); (case c5 => decide); (case kB => exact locs rfl); (case c2 | c3 | c4 => exact rfl); k_whole; intro g' L' h' FG' F' N' B' X' T'; (try dsimp only); (try k_lift B'); (try k_fold))))
local macro_rules | `(tactic| walk_at "call ref") => `(tactic| (k_here; (with_reducible show wpAny _ _ (call (Value.ref 49) _) _ _ _); k_dflt (refine wpAny_call ?_; refine' code_def ?k1 ?k2 ?k3 ?k4 ?k5 ?kA ?kF ?kK ?k6 ?k7 ?k8 ?k9 ?kB ?_ ?c2 ?c3 ?c4 ?c5; (case kA | kF => exact rfl); (case kK => first | exact rfl | assumption); (case k1 | k2 | k3 | k4 | k5 => k_asm); (case k6 | k7 => k_is); (case k8 => ktr_room); (case k9 => exact BindsTo.of_eq rfl); (case c5 => decide); (case kB => exact locs rfl); (case c2 | c3 | c4 => exact rfl); k_whole; intro g' L' h' FG' F' N' B' X' T'; (try dsimp only); (try k_lift B'); (try k_fold))))

theorem c_word7 {w : World} {lo : List Str} {mean : ExcName → Option Value} {mg mb : Str → Option Value} {dp un : Nat} {gd : Option (List Code)} {cn : Str} {cs : Scope} {a : Addr} {ccd : Value} {cl : List (Str × Addr)} {outer : List Env} {A₀ : Around} {base h₀ : Heap} {L : Addr} {m : Str → Option Value} {s : Shared} {Q E : Value → Shared → Prop}
    {D I : Addr} {oth : List (Addr × Obj)} {k0 k1 k2 k3 k4 k5 k6 t0 t1 t2 t3 t4 t5 t6 : Tok} {S : Str} {c l lb br ke p1 : Int} {z : Str} {tz : Tok}
    (B : Below A₀ base outer h₀) (F : Fr h₀ L s.heap m) (XB : (kL w.params).In base) (N : News h₀ L s.heap ((D, dictOf [⟨PyData.keyHash w.params (Str.ofString "current"), .str (Str.ofString "current") k0, .str S t0⟩, ⟨PyData.keyHash w.params (Str.ofString "cursor"), .str (Str.ofString "cursor") k1, .int c t1⟩, ⟨PyData.keyHash w.params (Str.ofString "limit"), .str (Str.ofString "limit") k2, .int l t2⟩, ⟨PyData.keyHash w.params (Str.ofString "limit_backward"), .str (Str.ofString "limit_backward") k3, .int lb t3⟩, ⟨PyData.keyHash w.params (Str.ofString "bra"), .str (Str.ofString "bra") k4, .int br t4⟩, ⟨PyData.keyHash w.params (Str.ofString "ket"), .str (Str.ofString "ket") k5, .int ke t5⟩, ⟨PyData.keyHash w.params (Str.ofString "I_p1"), .str (Str.ofString "I_p1") k6, .int p1 t6⟩] 7) :: (I, instObj 1085 D) :: oth)) (TB : Top qv lo mean mg mb base) (KD : KtsDicts (outer.filterMap (·.frame)) h₀)
    (hk : cs.kind = .function) (d0 : NeN D I) (hO : OwnOff oth [D, I]) (hd : dp + 44 < recursionLimit) (hu : un + 600 < cLine) (hz : z.length ≤ 800) (A0 : AmTab w base 852 273 tab0) (A1 : AmTab w base 1039 853 tab1) (A2 : AmTab w base 1073 1040 tab2) (A3 : AmTab w base 1081 1075 tab3) (GS : GV w base)
    (ret : ∀ (h₀' : Heap) (k6' : Tok) (S' : Str) (c' l' lb' br' ke' p1' : Int) (t0' t1' t2' t3' t4' t5' t6' : Tok) (v : Value) (h' : Heap) (tk' : Nat), KtsTurn (outer.filterMap (·.frame)) h₀ h₀' → Below A₀ base outer h₀' → KtsDicts (outer.filterMap (·.frame)) h₀' → Fr h₀' L h' m → News h₀' L h' ((D, dictOf [⟨PyData.keyHash w.params (Str.ofString "current"), .str (Str.ofString "current") k0, .str S' t0'⟩, ⟨PyData.keyHash w.params (Str.ofString "cursor"), .str (Str.ofString "cursor") k1, .int c' t1'⟩, ⟨PyData.keyHash w.params (Str.ofString "limit"), .str (Str.ofString "limit") k2, .int l' t2'⟩, ⟨PyData.keyHash w.params (Str.ofString "limit_backward"), .str (Str.ofString "limit_backward") k3, .int lb' t3'⟩, ⟨PyData.keyHash w.params (Str.ofString "bra"), .str (Str.ofString "bra") k4, .int br' t4'⟩, ⟨PyData.keyHash w.params (Str.ofString "ket"), .str (Str.ofString "ket") k5, .int ke' t5'⟩, ⟨PyData.keyHash w.params (Str.ofString "I_p1"), .str (Str.ofString "I_p1") k6', .int p1' t6'⟩] 7) :: (I, instObj 1085 D) :: oth) → (∃ p, P1S z p ∧ (∃ tk, v = .str S' tk) ∧ rv S' = stemR p.toNat (rv z)) → Q v { s with heap := h', toks := tk' }) :
    wpAny (model pg w) (ktrTop dp un gd cn cs L a ccd cl outer) (call (.ref 189) [.ref I, .str z tz]) Q E s := by
  have key : rl = rl := rfl
  have e0 : (D : Nat) ≠ I := d0
  have X : (kL w.params).In h₀ := XB.keeps B.stays
  have TT : Top qv lo mean mg mb h₀ := TB.keeps B.stays
  revert X key
  k_fill
  intro X _
  refine wpAny_call ?_
  refine' enterK ?k1 ?k2 ?k3 ?kX ?kP ?kD ?kA ?kF ?kK ?ko ?kc ?kr ?kb ?kl ?_ ?c1 ?c2 ?c3 ?c4; (case kA | kF => exact rfl); (case kK => assumption); (case k1 | k2 | k3 | kX | kP => k_asm); (case kD => assumption); (case ko | kc => k_is); (case kr => ktr_room); (case kb => first | exact BindsTo.of_eq rfl | exact binds_K (by k_in) rfl (by k_is) rfl rfl rfl); (case kl => exact locs rfl); (case c1 => decide); (case c2 | c3 | c4 => exact rfl)
  intro g' L' h' F' N' B' D' X' T'
  (try dsimp only)
  (try k_fold)
  (repeat' (first | ((with_reducible refine of_halt ?_); first | ((with_reducible show wpAny _ _ (call (Value.ref 272) _) _ _ _); k_dflt (refine' c_stem9 ?k1 ?k2 ?k3 ?k4 ?k5 ?kD ?k6 ?n0 ?nO ?hS ?hd ?hu ?h0 ?h1 ?h2 ?h3 ?h4 ?h5 ?h6 ?h7 ?h8 ?hL ?_; (case k2 | k1 => k_asm); (case k3 => assumption); (case k4 => (rename News _ _ _ _ => nS9; exact nS9)); (case hL => first | exact .inl rfl | exact .inr ⟨_, _, _, rfl⟩); (case k5 | kD => assumption); (case k6 => first | exact rfl | assumption); (case n0 | nO => assumption); (case hS => first | assumption | omega | (size_fits; done)); (case hd => ktr_room); (case hu => ktr_units); (case h0 | h1 | h2 | h3 => first | assumption | omega | (size_fits; done)); (case h4 | h5 | h6 | h7 | h8 => assumption); k_whole); intro g9 k9 S9 c9 l9 lb9 br9 ke9 p9 u0 u1 u2 u3 u4 u5 u6 v9 h9 tk9 T9 B9 D9 F9 N9 R9; (have X9 := Frag.In.keeps (by assumption) (Below.stays B9)); (have P9 := Top.keeps (by assumption) (Below.stays B9)); (try dsimp only)) | ((with_reducible show wpAny _ _ (getAttr (Value.ref 1085) (PySem.Str.ofString "g_v") _) _ _ _); k_dflt (refine' get_gv ?k1 ?k2 ?k3 ?_; (case k1 => k_asm); (case k2 => k_in); (case k3 => first | assumption | exact GV.keeps (Below.stays (by assumption)) (by assumption)); k_whole); (try dsimp only))) | (k_unfold; (try dsimp only)) | (k_end; kc_close) | walk1 | (dsimp only; walk1)))
  refine' ret _ _ _ _ _ _ _ _ _ _ _ _ _ _ _ _ _ _ _ ?cT ?cB ?cD ?cF ?cN ?cR; (case cT | cB | cD => assumption); (case cF | cN => k_asm); (case cR => ((rename (∃ _, P1S _ _ ∧ _) => hR); (obtain ⟨p, a, b⟩ := hR); exact ⟨p, a, ⟨_, rfl⟩, b⟩))
end Lith
end
section
open PySem PySem.W PyProof.Rows PySem.Calls PySem.Spec PyProof.Rows.LCg
set_option Elab.async false
set_option maxRecDepth 100000
set_option maxHeartbeats 1000000
namespace Lith
/-- a turn's end -/
noncomputable def EltEnd (A₀ : Around) (base : Heap) (outer : List Env) (L : Addr) (m : Str → Option Value) (s : Shared) (I : Addr) (oI : Obj) (C : Addr) (oC : Obj) (D : Addr) (oD : Obj) (ax : Addr) (oax : Obj) (rest : Value → Heap → List (Addr × Obj) → Prop) (y : Value) (s₂ : Shared) : Prop :=
  ∃ g' h' tk' news', s₂ = { s with heap := h', toks := tk' } ∧ Below A₀ base outer g' ∧ KtsDicts (outer.filterMap (·.frame)) g' ∧ Fr g' L h' m ∧ News g' L h' ((I, oI) :: (C, oC) :: (D, oD) :: news') ∧ Off3 I C D news' ∧ (ax, oax) ∈ news' ∧ rest y g' news'
theorem eltEnd_ {A₀ : Around} {base g' h' : Heap} {outer : List Env} {L : Addr} {m : Str → Option Value} {s : Shared} {I : Addr} {oI : Obj} {C : Addr} {oC : Obj} {D : Addr} {oD : Obj} {ax : Addr} {oax : Obj} {rest : Value → Heap → List (Addr × Obj) → Prop} {y : Value} {tk' : Nat} {all : List (Addr × Obj)} (news' : List (Addr × Obj))
    (F : Fr g' L h' m) (N : News g' L h' all) (B : Below A₀ base outer g') (KD : KtsDicts (outer.filterMap (·.frame)) g') (sub : ∀ p ∈ (I, oI) :: (C, oC) :: (D, oD) :: news', p ∈ all) (off : Off3 I C D news') (hax : (ax, oax) ∈ news') (r : rest y g' news') :
    EltEnd A₀ base outer L m s I oI C oC D oD ax oax rest y { s with heap := h', toks := tk' } := ⟨g', h', tk', news', rfl, B, KD, F, fun p hp => N p (sub p hp), off, hax, r⟩
/-- what is left of a comprehension's turns: k of them, from the i-th on; the base may turn at each -/
noncomputable def EltsT (prog : Program) (w : World) (A A₀ : Around) (base : Heap) (outer : List Env) (L : Addr) (m : Str → Option Value) (env : Env) (elt : Expr) (x : Str) (scope : Scope) (cl : List (Str × Addr)) (s : Shared) (ax : Addr) (oax : Obj) (its : Array Value) (Q : Value → Shared → Prop) :
    Nat → Nat → List Value → Heap → List (Addr × Obj) → Prop
  | 0, _, ys, g, news => ∀ D h tk, Fr g L h m → News g L h ((D, lst ys) :: news) → Off1 D news → Q (.ref D) { s with heap := h, toks := tk }
  | k + 1, i, ys, g, news => ∀ v I oI C oC D m₂ h tk (E' : Value → Shared → Prop), its[i]? = some v → NsObj oC m₂ → m₂ x = some v → Fr g L h m → News g L h ((I, oI) :: (C, oC) :: (D, lst ys) :: news) → Off3 I C D news → ((@Ne Nat I C) ∧ (@Ne Nat I D) ∧ (@Ne Nat C D)) →
      Below A₀ base outer g → KtsDicts (outer.filterMap (·.frame)) g →
      wpAny (model prog w) A (eval elt (compEnvC scope cl C env)) (EltEnd A₀ base outer L m s I oI C oC D (lst ys) ax oax (fun y g' news' => EltsT prog w A A₀ base outer L m env elt x scope cl s ax oax its Q k (i + 1) (ys ++ [y]) g' news')) E' { s with heap := h, toks := tk }
/-- the source of the items stands in the ledger -/
noncomputable def SrcT (prog : Program) (w : World) (A A₀ : Around) (base : Heap) (outer : List Env) (L : Addr) (m : Str → Option Value) (env : Env) (elt : Expr) (x : Str) (scope : Scope) (cl : List (Str × Addr)) (Q : Value → Shared → Prop) (xv : Value) (s₁ : Shared) : Prop :=
  ∃ g ax its n news, xv = .ref ax ∧ A.handled = none ∧ Fr g L s₁.heap m ∧ News g L s₁.heap news ∧ Below A₀ base outer g ∧ KtsDicts (outer.filterMap (·.frame)) g ∧ (ax, ({ cls := .type "list", data := .seq its n } : Obj)) ∈ news ∧ its.size ≤ sizeLine ∧
    ∀ h, EltsT prog w A A₀ base outer L m env elt x scope cl { s₁ with heap := h } ax { cls := .type "list", data := .seq its n } its Q its.size 0 [] g news
section
variable {prog : Program} {w : World} {A A₀ : Around} {E : Value → Shared → Prop} {base : Heap} {outer : List Env} {L : Addr} {m : Str → Option Value} {env : Env}
theorem off3_of_lt {I C D : Addr} {l : List (Addr × Obj)} (h : ∀ p ∈ l, p.1 ≠ I ∧ p.1 ≠ C ∧ p.1 ≠ D) : Off3 I C D l := Off3.of h
/-- the turns themselves -/
theorem turns_T {s : Shared} {g : Heap} {elt iter : Expr} {x : Str} {px : Pos} {scope : Scope} {cl : List (Str × Addr)} {pos : Pos} {Q : Value → Shared → Prop} {R : Result → Shared → Prop} {ax I C D : Addr} {its : Array Value} {n : Nat} {news : List (Addr × Obj)} {mC : Str → Option Value}
    (hh : A.handled = none) (hsz : its.size ≤ sizeLine) (hkind : scope.kind = .function) (hx : scope.names.lookup x = some .local) (neI : ax ≠ I) (neC : ax ≠ C) (neD : ax ≠ D) (IC : I ≠ C) (ID : I ≠ D) (CD : C ≠ D)
    (hit : s.heap.IsListIter I ax 0) (hC : s.heap.Ns C mC) (F : Fr g L s.heap m) (N : News g L s.heap ((D, lst []) :: news)) (fI : I ≠ L ∧ g.get? I = none) (fC : C ≠ L ∧ g.get? C = none) (off : Off3 I C D news) (B : Below A₀ base outer g) (KD : KtsDicts (outer.filterMap (·.frame)) g)
    (hax : (ax, ({ cls := .type "list", data := .seq its n } : Obj)) ∈ news) (T : EltsT prog w A A₀ base outer L m env elt x scope cl s ax { cls := .type "list", data := .seq its n } its Q its.size 0 [] g news)
    (fin : ∀ g' h tk m' ys news', Fr g' L h m → News g' L h ((D, lst ys) :: news') → Off3 I C D news' → h.Ns C m' → C ≠ L → g'.get? C = none → (∀ D h tk, Fr g' L h m → News g' L h ((D, lst ys) :: news') → Off1 D news' → Q (.ref D) { s with heap := h, toks := tk }) → R (.ok .next) { s with heap := h, toks := tk }) :
    codeAny (model prog w) A (.compLoop (.ListComp elt [⟨.Name x px, iter, [], 0⟩] scope pos) 0 (.ref I) (.ref D) (compEnvC scope cl C env)) R s := by
  have W := Walks.list (prog := prog) (w := w) hh I ax neI its
  refine codeAny_compLoop_tests (fun k s' => ∃ g' h' tk i ys m' news', s' = { s with heap := h', toks := tk } ∧ i + k = its.size + 1 ∧ i ≤ its.size ∧ ys.length = i ∧ h'.IsListIter I ax i ∧ Fr g' L h' m ∧ h'.Ns C m' ∧ News g' L h' ((D, lst ys) :: news') ∧
      g'.get? I = none ∧ g'.get? C = none ∧ Off3 I C D news' ∧ Below A₀ base outer g' ∧ KtsDicts (outer.filterMap (·.frame)) g' ∧ (ax, ({ cls := .type "list", data := .seq its n } : Obj)) ∈ news' ∧ EltsT prog w A A₀ base outer L m env elt x scope cl s ax { cls := .type "list", data := .seq its n } its Q (its.size - i) i ys g' news')
    ?_ (its.size + 1) ⟨g, s.heap, s.toks, 0, [], mC, news, rfl, by omega, Nat.zero_le _, rfl, hit, F, hC, N, fI.2, fC.2, off, B, KD, hax, T⟩
  rintro k s' ⟨g', h', tk, i, ys, m', news', rfl, hk, hi, hl, hit', F', hC', N', nI, nC, off', B', KD', hax', T'⟩
  have o3 := off'.mem
  have lax : h'.IsList ax its := ⟨_, (N' _ (List.mem_cons_of_mem _ hax')).1, rfl, n, rfl⟩
  have keepN : ∀ {h₂ : Heap}, (∀ b o, b ∉ [I] → h'.get? b = some o → h₂.get? b = some o) → News g' L h₂ ((D, lst ys) :: news') := fun hk₂ => news_but N' hk₂ fun p hp => by
    rcases List.mem_cons.mp hp with rfl | hp
    · exact Ne.symm ID
    · exact (o3 p hp).1
  by_cases hlt : i < its.size
  · obtain ⟨j, hj⟩ : ∃ j, its.size - i = j + 1 := ⟨its.size - i - 1, by omega⟩
    rw [hj] at T'
    refine W.item i _ _ _ hlt ⟨hit', lax⟩ fun v h₂ tk₂ hv st₂ hk₂ => ?_
    refine wpAny_assign_Name (wpAny_storeName_local (lookup_relabel_local hx) (hC'.at' fun o e => hk₂ _ o (by simpa using Ne.symm IC) e) (fun h₃ hn₃ hs₃ => ?_) (by simp [compEnvC, relabel, hkind]))
    refine wpAny_tests_nil ?_
    simp only [if_true]
    have hs₃' : Heap.SameBut C h₂ h₃ := hs₃
    have iI : h₃.IsListIter I ax (i + 1) := st₂.1.at fun o e => hs₃'.extBut I o IC e
    obtain ⟨oI, heI, rI⟩ := id iI
    obtain ⟨oC, heC, hoC⟩ := ns_obj hn₃
    have F₃ : Fr g' L h₃ m := (fr_but F' hk₂ (Ne.symm fI.1) nI).change hs₃' fC.1 nC
    have N₃ : News g' L h₃ ((I, oI) :: (C, oC) :: (D, lst ys) :: news') := by
      intro p hp
      rcases List.mem_cons.mp hp with rfl | hp
      · exact ⟨heI, fI.1, nI⟩
      rcases List.mem_cons.mp hp with rfl | hp
      · exact ⟨heC, fC.1, nC⟩
      have z := keepN hk₂ p hp
      refine ⟨hs₃'.extBut _ _ ?_ z.1, z.2⟩
      rcases List.mem_cons.mp hp with rfl | hp
      · exact Ne.symm CD
      · exact (o3 p hp).2.1
    refine wpAny_mono (T' v I oI C oC D _ h₃ _ _ hv hoC (by simp) F₃ N₃ off' ⟨IC, ID, CD⟩ B' KD') (fun y s₄ h₄ => ?_) fun _ _ e => e
    obtain ⟨g₄, h₄, tk₄, news₄, rfl, B₄, KD₄, F₄, N₄, off₄, hax₄, T₄⟩ := h₄
    have zI := N₄ (I, oI) (.head _)
    have zC := N₄ (C, oC) (.tail _ (.head _))
    have zD := N₄ (D, lst ys) (.tail _ (.tail _ (.head _)))
    have N₄' : News g₄ L h₄ news₄ := fun p hp => N₄ p (.tail _ (.tail _ (.tail _ hp)))
    have o4 := off₄.mem
    refine append_at (hsz := by show ys.toArray.size ≤ sizeLine; rw [List.size_toArray, hl]; exact Nat.le_trans hi hsz) zD.1 fun h₅ hs₅ hD₅ => ?_
    refine ⟨its.size - i, by omega, g₄, h₅, tk₄, i + 1, ys ++ [y], _, news₄, rfl, by omega, hlt, by rw [List.length_append, List.length_singleton, hl], ⟨oI, hs₅.extBut _ _ ID zI.1, rI⟩, F₄.change hs₅ zD.2.1 zD.2.2, (hoC.ns zC.1).sameBut hs₅ CD, fun p hp => ?_, zI.2.2, zC.2.2, off₄, B₄, KD₄, hax₄, ?_⟩
    · rcases List.mem_cons.mp hp with rfl | hp
      · exact ⟨hD₅.trans (congrArg some (lst_snoc ys y)), zD.2⟩
      · exact ⟨hs₅.extBut _ _ (o4 p hp).2.2 (N₄' p hp).1, (N₄' p hp).2⟩
    · rw [show its.size - (i + 1) = j by omega]
      exact T₄
  · obtain rfl : i = its.size := Nat.le_antisymm hi (Nat.not_lt.mp hlt)
    rw [Nat.sub_self] at T'
    refine W.done _ _ _ ⟨hit', lax⟩ fun h₂ tk₂ hk₂ => ?_
    exact fin g' h₂ tk₂ m' ys news' (fr_but F' hk₂ (Ne.symm fI.1) nI) (keepN hk₂) off' (hC'.at' fun o e => hk₂ _ o (by simpa using Ne.symm IC) e) fC.1 nC T'
theorem listcomp_T {s : Shared} {elt iter : Expr} {x : Str} {px : Pos} {scope : Scope} {cl : List (Str × Addr)} {pos : Pos} {Q : Value → Shared → Prop}
    (hclos : closureFor scope env = pure cl) (hcell : ∀ y ∈ scope.names, y.2 ≠ .cell) (hkind : scope.kind = .function)
    (hnames : ∀ y ∈ scope.names, y.2 = .local → scope.names.lookup y.1 = some .local) (hx : scope.names.lookup x = some .local)
    (h : wpAny (model prog w) A (eval iter env) (SrcT prog w A A₀ base outer L m env elt x scope cl Q) E s)
    (hs : ∀ x, foldedSetIterable iter env x = pure x := by intro _; rfl) :
    wpAny (model prog w) A (eval (.ListComp elt [⟨.Name x px, iter, [], 0⟩] scope pos) env) Q E s := by
  rw [eval_ListComp]
  refine wpAny_comprehension_free (use := none) rfl hs hclos hkind hnames (wpAny_mono h (fun xv s₁ h₁ => ?_) fun _ _ e => e)
  obtain ⟨g, ax, its, n, news, rfl, hh, F, N, B, KD, hax, hsz, T⟩ := h₁
  have lax : s₁.heap.IsList ax its := ⟨_, (N _ hax).1, rfl, n, rfl⟩
  refine wpAny_pyIter_list lax ?_
  refine wpAny_newObj_type (wpAny_newFunctionEnv hcell (by intro y hy; simp at hy) (fun h₁ hns₁ hsb₁ => ?_) hkind)
  dsimp only at hns₁ hsb₁ ⊢
  generalize hH1 : s₁.heap.push { cls := .type "list_iterator", data := .fields #[.ref ax, .int 0 0] } = H1 at hns₁ hsb₁ ⊢
  generalize hH2 : H1.push { cls := .type "list", dict := none, data := .seq ([] : List Value).toArray } = H2 at hns₁ hsb₁ ⊢
  have z1 : H1.objs.size = s₁.heap.objs.size + 1 := by rw [← hH1, Heap.size_push]
  have z2 : H2.objs.size = s₁.heap.objs.size + 2 := by rw [← hH2, Heap.size_push, z1]
  have up : ∀ b o, s₁.heap.get? b = some o → h₁.get? b = some o := fun b o e => by
    have e2 : H2.get? b = some o := hH2 ▸ Heap.get?_push_of_some _ (hH1 ▸ Heap.get?_push_of_some _ e)
    refine hsb₁.extBut b o ?_ (Heap.get?_push_of_some _ e2)
    rw [z2]; exact Nat.ne_of_lt (Nat.lt_of_lt_of_le (Heap.lt_size e) (Nat.le_add_right _ _))
  have gI : H1.get? s₁.heap.objs.size = some { cls := .type "list_iterator", data := .fields #[.ref ax, .int 0 0] } := by rw [← hH1]; exact Heap.get?_push_size _ rfl
  have gI2 : H2.get? s₁.heap.objs.size = some { cls := .type "list_iterator", data := .fields #[.ref ax, .int 0 0] } := hH2 ▸ Heap.get?_push_of_some _ gI
  have gD2 : H2.get? H1.objs.size = some (lst []) := hH2 ▸ Heap.get?_push_size _ rfl
  have hI : h₁.get? s₁.heap.objs.size = some { cls := .type "list_iterator", data := .fields #[.ref ax, .int 0 0] } :=
    hsb₁.extBut _ _ (by rw [z2]; exact Nat.ne_of_lt (Nat.lt_add_of_pos_right (by decide))) (Heap.get?_push_of_some _ gI2)
  have hD : h₁.get? H1.objs.size = some (lst []) := hsb₁.extBut _ _ (by rw [z2, z1]; exact Nat.ne_of_lt (Nat.lt_succ_self _)) (Heap.get?_push_of_some _ gD2)
  have fresh : ∀ a, s₁.heap.objs.size ≤ a → a ≠ L ∧ g.get? a = none := fun a ha => by
    refine ⟨fun e => ?_, ?_⟩
    · exact Nat.lt_irrefl _ (Nat.lt_of_lt_of_le F.ns.lt (e ▸ ha))
    · cases e : g.get? a with
      | none => rfl
      | some o => exact absurd (Heap.lt_size (F.keep a o e)) (Nat.not_lt.mpr ha)
  have lax' : ax < s₁.heap.objs.size := Heap.lt_size (N _ hax).1
  have loop : ∀ s₃ : Shared, s₃ = { s₁ with heap := h₁, toks := s₁.toks + ([] : List (Str × Value)).length } →
      codeAny (model prog w) A (.compLoop (.ListComp elt [⟨.Name x px, iter, [], 0⟩] scope pos) 0 (.ref s₁.heap.objs.size) (.ref H1.objs.size) (compEnvC scope cl H2.objs.size env))
        (compPost (model prog w) A E none Q (.ref H1.objs.size) H2.objs.size) s₃ := by
    rintro s₃ rfl
    refine turns_T (g := g) (news := news) (n := n) (its := its) (ax := ax) (Q := Q) (A₀ := A₀) (base := base) (outer := outer) hh hsz hkind hx (Nat.ne_of_lt lax') (by rw [z2]; exact Nat.ne_of_lt (Nat.lt_of_lt_of_le lax' (Nat.le_add_right _ _))) (by rw [z1]; exact Nat.ne_of_lt (Nat.lt_of_lt_of_le lax' (Nat.le_add_right _ _))) (by rw [z2]; exact Nat.ne_of_lt (Nat.lt_add_of_pos_right (by decide))) (by rw [z1]; exact Nat.ne_of_lt (Nat.lt_succ_self _)) (by rw [z1, z2]; exact Nat.ne_of_gt (Nat.lt_succ_self _))
      ⟨_, hI, rfl, rfl⟩ hns₁ (F.keeps up) ?_ (fresh _ (Nat.le_refl _)) (fresh _ (by rw [z2]; exact Nat.le_add_right _ _)) ?_ B KD hax (T h₁) ?_
    · intro p hp
      rcases List.mem_cons.mp hp with rfl | hp
      · exact ⟨hD, fresh _ (by rw [z1]; exact Nat.le_add_right _ _)⟩
      · exact ⟨up _ _ (N p hp).1, (N p hp).2⟩
    · refine Off3.of fun p hp => ?_
      have := Heap.lt_size (N p hp).1
      exact ⟨Nat.ne_of_lt this, by rw [z2]; exact Nat.ne_of_lt (Nat.lt_of_lt_of_le this (Nat.le_add_right _ _)), by rw [z1]; exact Nat.ne_of_lt (Nat.lt_of_lt_of_le this (Nat.le_add_right _ _))⟩
    · intro g' h₂ tk₂ m' ys news' F' N' off' hC' cL cg k
      refine ⟨m', hC', fun h'' hs'' => ?_⟩
      refine k _ h'' tk₂ (F'.change hs'' cL cg) (fun p hp => ⟨hs''.extBut _ _ ?_ (N' p hp).1, (N' p hp).2⟩) off'.one
      rcases List.mem_cons.mp hp with rfl | hp
      · show H1.objs.size ≠ H2.objs.size
        rw [z1, z2]; exact Nat.ne_of_lt (Nat.lt_succ_self _)
      · exact (off'.mem p hp).2.1
  refine codeAny_compStart_list (loop _ rfl) (wpAny_pyIter_listiter (i := 0) (l := ax) ⟨_, hI, rfl, rfl⟩ (loop _ rfl))
theorem listcomp_TF {s : Shared} {elt iter : Expr} {x : Str} {px : Pos} {scope : Scope} {cl : List (Str × Addr)} {pos : Pos} {Q : Value → Shared → Prop} {g₁ h₁ : Heap} (_F : Fr g₁ L h₁ m) (_B : Below A₀ base outer g₁)
    (hclos : closureFor scope env = pure cl) (hcell : ∀ y ∈ scope.names, y.2 ≠ .cell) (hkind : scope.kind = .function)
    (hnames : ∀ y ∈ scope.names, y.2 = .local → scope.names.lookup y.1 = some .local) (hx : scope.names.lookup x = some .local)
    (h : wpAny (model prog w) A (eval iter env) (SrcT prog w A A₀ base outer L m env elt x scope cl Q) E s)
    (hs : ∀ x, foldedSetIterable iter env x = pure x := by intro _; rfl) :
    wpAny (model prog w) A (eval (.ListComp elt [⟨.Name x px, iter, [], 0⟩] scope pos) env) Q E s := listcomp_T hclos hcell hkind hnames hx h hs
theorem srcT_ {s₁ : Shared} {elt : Expr} {x : Str} {scope : Scope} {cl : List (Str × Addr)} {Q : Value → Shared → Prop} {g : Heap} {ax : Addr} {its : Array Value} {n : Nat} {news : List (Addr × Obj)} (hh : A.handled = none) (F : Fr g L s₁.heap m) (N : News g L s₁.heap news) (B : Below A₀ base outer g) (KD : KtsDicts (outer.filterMap (·.frame)) g)
    (hax : (ax, ({ cls := .type "list", data := .seq its n } : Obj)) ∈ news) (hsz : its.size ≤ sizeLine) {k : Nat} (hk : its.size = k) (h : ∀ h, EltsT prog w A A₀ base outer L m env elt x scope cl { s₁ with heap := h } ax { cls := .type "list", data := .seq its n } its Q k 0 [] g news) :
    SrcT prog w A A₀ base outer L m env elt x scope cl Q (.ref ax) s₁ := ⟨g, ax, its, n, news, rfl, hh, F, N, B, KD, hax, hsz, hk ▸ h⟩
end
theorem own_cons {a : Addr} {o : Obj} {l : List (Addr × Obj)} {D I : Addr} (h1 : a ≠ D) (h2 : a ≠ I) (h : OwnOff l [D, I]) : OwnOff ((a, o) :: l) [D, I] := fun p hp b hb => by
  rcases List.mem_cons.mp hp with rfl | hp
  · rcases List.mem_cons.mp hb with rfl | hb
    · exact h1
    · rw [List.mem_singleton.mp hb]; exact h2
  · exact h p hp b hb
theorem own_nil {D I : Addr} : OwnOff [] [D, I] := fun _ hp => nomatch hp
theorem off1_mem {D : Addr} : ∀ {l : List (Addr × Obj)}, Off1 D l → ∀ p ∈ l, (p.1 : Nat) ≠ D
  | [], _, _, h => nomatch h
  | q :: r, x, p, h => by
    rcases List.mem_cons.mp h with rfl | h
    · exact x.1
    · exact off1_mem x.2 p h
end Lith
end
section
open PySem PySem.W PyProof.Rows PySem.Calls Lith
set_option Elab.async false
set_option maxRecDepth 100000
set_option maxHeartbeats 8000000
namespace Lith
local macro_rules | `(tactic| walk_at "getAttr ref") => `(tactic| (with_reducible refine hlt_409968 ?_))
open PyProof.Rows.LCg



local macro_rules | `(tactic| walk_at "eval ListComp") => `(tactic| refine halt_of ?_)

theorem c_words {w : World} {lo : List Str} {mean : ExcName → Option Value} {mg mb : Str → Option Value} {dp un : Nat} {gd : Option (List Code)} {cn : Str} {cs : Scope} {a : Addr} {ccd : Value} {cl : List (Str × Addr)} {outer : List Env} {A₀ : Around} {base h₀ : Heap} {L : Addr} {m : Str → Option Value} {s : Shared} {Q E : Value → Shared → Prop}
    {D I : Addr} {oth : List (Addr × Obj)} {k0 k1 k2 k3 k4 k5 t0 t1 t2 t3 t4 t5 : Tok} {S : Str} {c l lb br ke : Int} {z0 z1 z2 z3 : Str} {s0 s1 s2 s3 : Tok} {nw : Nat} {xw : Addr}
    (B : Below A₀ base outer h₀) (F : Fr h₀ L s.heap m) (XB : (kL w.params).In base) (N : News h₀ L s.heap ((D, dictOf [⟨PyData.keyHash w.params (Str.ofString "current"), .str (Str.ofString "current") k0, .str S t0⟩, ⟨PyData.keyHash w.params (Str.ofString "cursor"), .str (Str.ofString "cursor") k1, .int c t1⟩, ⟨PyData.keyHash w.params (Str.ofString "limit"), .str (Str.ofString "limit") k2, .int l t2⟩, ⟨PyData.keyHash w.params (Str.ofString "limit_backward"), .str (Str.ofString "limit_backward") k3, .int lb t3⟩, ⟨PyData.keyHash w.params (Str.ofString "bra"), .str (Str.ofString "bra") k4, .int br t4⟩, ⟨PyData.keyHash w.params (Str.ofString "ket"), .str (Str.ofString "ket") k5, .int ke t5⟩] 6) :: (I, instObj 1085 D) :: oth)) (TB : Top qv lo mean mg mb base) (KD : KtsDicts (outer.filterMap (·.frame)) h₀)
    (hk : cs.kind = .function) (d0 : NeN D I) (hO : OwnOff oth [D, I]) (hd : dp + 50 < recursionLimit) (hu : un + 700 < cLine) (hW : (xw, ({ cls := .type "list", data := .seq #[.str z0 s0, .str z1 s1, .str z2 s2, .str z3 s3] nw } : Obj)) ∈ oth) (hz0 : z0.length ≤ 800) (hz1 : z1.length ≤ 800) (hz2 : z2.length ≤ 800) (hz3 : z3.length ≤ 800) (A0 : AmTab w base 852 273 tab0) (A1 : AmTab w base 1039 853 tab1) (A2 : AmTab w base 1073 1040 tab2) (A3 : AmTab w base 1081 1075 tab3) (GS : GV w base)
    (ret : ∀ (h₀' : Heap) (k6' : Tok) (S' : Str) (c' l' lb' br' ke' p1' : Int) (t0' t1' t2' t3' t4' t5' t6' : Tok) (R' : Addr) (oR : Obj) (h' : Heap) (tk' : Nat), KtsTurn (outer.filterMap (·.frame)) h₀ h₀' → Below A₀ base outer h₀' → KtsDicts (outer.filterMap (·.frame)) h₀' → Fr h₀' L h' m → News h₀' L h' ((R', oR) :: (D, dictOf [⟨PyData.keyHash w.params (Str.ofString "current"), .str (Str.ofString "current") k0, .str S' t0'⟩, ⟨PyData.keyHash w.params (Str.ofString "cursor"), .str (Str.ofString "cursor") k1, .int c' t1'⟩, ⟨PyData.keyHash w.params (Str.ofString "limit"), .str (Str.ofString "limit") k2, .int l' t2'⟩, ⟨PyData.keyHash w.params (Str.ofString "limit_backward"), .str (Str.ofString "limit_backward") k3, .int lb' t3'⟩, ⟨PyData.keyHash w.params (Str.ofString "bra"), .str (Str.ofString "bra") k4, .int br' t4'⟩, ⟨PyData.keyHash w.params (Str.ofString "ket"), .str (Str.ofString "ket") k5, .int ke' t5'⟩, ⟨PyData.keyHash w.params (Str.ofString "I_p1"), .str (Str.ofString "I_p1") k6', .int p1' t6'⟩] 7) :: (I, instObj 1085 D) :: oth) → ((R' : Nat) ≠ D ∧ (R' : Nat) ≠ I ∧ (∀ p ∈ oth, (p.1 : Nat) ≠ R')) → (∃ r0 r1 r2 r3 : Str, (∃ p, P1S z0 p ∧ rv r0 = stemR p.toNat (rv z0)) ∧ (∃ p, P1S z1 p ∧ rv r1 = stemR p.toNat (rv z1)) ∧ (∃ p, P1S z2 p ∧ rv r2 = stemR p.toNat (rv z2)) ∧ (∃ p, P1S z3 p ∧ rv r3 = stemR p.toNat (rv z3)) ∧ ∃ a0 a1 a2 a3, oR = lst [.str r0 a0, .str r1 a1, .str r2 a2, .str r3 a3]) → Q (.ref R') { s with heap := h', toks := tk' }) :
    wpAny (model pg w) (ktrTop dp un gd cn cs L a ccd cl outer) (call (.ref 194) [.ref I, .ref xw]) Q E s := by
  have key : rl = rl := rfl
  have e0 : (D : Nat) ≠ I := d0
  have X : (kL w.params).In h₀ := XB.keeps B.stays
  have TT : Top qv lo mean mg mb h₀ := TB.keeps B.stays
  revert X key
  k_fill
  intro X _
  refine wpAny_call ?_
  refine' enterC ?k1 ?k2 ?k3 ?kX ?kP ?kD ?kA ?kF ?kK ?ko ?kc ?kr ?kb ?kl ?kn ?_ ?c2 ?c3 ?c4; (case kA | kF => exact rfl); (case kK => first | exact rfl | assumption); (case k1 | k2 | k3 | kX | kP => k_asm); (case kD => assumption); (case ko | kc => k_is); (case kr => ktr_room); (case kb => first | exact BindsTo.of_eq rfl | exact binds_K (by k_in) rfl (by k_is) rfl rfl rfl); (case kl => exact rfl); (case kn => decide +kernel); (case c2 | c3 | c4 => exact rfl)
  intro g' L' h' tk' cells' F' N' Y' B' D' X' T' l1
  k_cells Y'
  (try simp only [List.cons_append, List.nil_append] at N')
  (try dsimp only)
  (try k_fold)
  rename Obj => o0
  have lD : (L' + 1 : Nat) ≠ D := Nat.ne_of_gt (Nat.lt_succ_of_lt (l1 (D, _) (.head _)))
  have lI : (L' + 1 : Nat) ≠ I := Nat.ne_of_gt (Nat.lt_succ_of_lt (l1 (I, _) (.tail _ (.head _))))
  (repeat' (first | ((with_reducible refine of_halt ?_); first | ((with_reducible show wpAny _ _ (getAttr (Value.ref 1085) (PySem.Str.ofString "g_v") _) _ _ _); k_dflt (refine' get_gv ?k1 ?k2 ?k3 ?_; (case k1 => k_asm); (case k2 => k_in); (case k3 => first | assumption | exact GV.keeps (Below.stays (by assumption)) (by assumption)); k_whole); (try dsimp only))) | (k_unfold; (try dsimp only)) | (k_end; kc_close) | walk1 | (dsimp only; walk1)))
  refine of_halt ?_
  refine listcomp_TF F' B' (by rfl) (by decide) (by rfl) (by decide) (by rfl) ?_
  (repeat' (first | ((with_reducible refine of_halt ?_); first | ((with_reducible show wpAny _ _ (getAttr (Value.ref 1085) (PySem.Str.ofString "g_v") _) _ _ _); k_dflt (refine' get_gv ?k1 ?k2 ?k3 ?_; (case k1 => k_asm); (case k2 => k_in); (case k3 => first | assumption | exact GV.keeps (Below.stays (by assumption)) (by assumption)); k_whole); (try dsimp only))) | (k_unfold; (try dsimp only)) | (k_end; kc_close) | walk1 | (dsimp only; walk1)))
  refine srcT_ (k := 4) (by rfl) F' N' B' D' (List.Mem.tail _ (List.Mem.tail _ (List.Mem.tail _ hW))) (by first | size_fits | exact Nat.le_of_ble_eq_true rfl) rfl ?_
  intro hq
  intro v I0 oI0 C0 oC0 D0 m0 h0 tk0 E0 hv0 hC0 hx0 F0 N0 off0 ne0 B0 KD0
  have hv' := Option.some.inj hv0
  subst hv'
  replace hx0 : m0 (Str.ofString "word") = some (.str z0 s0) := hx0
  have M0 : News g' L' h0 ((D, dictOf [⟨PyData.keyHash w.params (Str.ofString "current"), .str (Str.ofString "current") k0, .str S t0⟩, ⟨PyData.keyHash w.params (Str.ofString "cursor"), .str (Str.ofString "cursor") k1, .int c t1⟩, ⟨PyData.keyHash w.params (Str.ofString "limit"), .str (Str.ofString "limit") k2, .int l t2⟩, ⟨PyData.keyHash w.params (Str.ofString "limit_backward"), .str (Str.ofString "limit_backward") k3, .int lb t3⟩, ⟨PyData.keyHash w.params (Str.ofString "bra"), .str (Str.ofString "bra") k4, .int br t4⟩, ⟨PyData.keyHash w.params (Str.ofString "ket"), .str (Str.ofString "ket") k5, .int ke t5⟩] 6) :: (I, instObj 1085 D) :: (I0, oI0) :: (C0, oC0) :: (D0, lst []) :: (L' + 1, o0) :: oth) := kst_newsOf N0 (by kst_inAny)
  have of0 := Off3.mem off0
  have hO0 : OwnOff ((I0, oI0) :: (C0, oC0) :: (D0, lst []) :: (L' + 1, o0) :: oth) [D, I] := own_cons (Ne.symm (of0 (D, _) (by kst_entry)).1) (Ne.symm (of0 (I, _) (by kst_entry)).1) (own_cons (Ne.symm (of0 (D, _) (by kst_entry)).2.1) (Ne.symm (of0 (I, _) (by kst_entry)).2.1) (own_cons (Ne.symm (of0 (D, _) (by kst_entry)).2.2) (Ne.symm (of0 (I, _) (by kst_entry)).2.2) (own_cons lD lI hO)))
  clear N0
  (repeat' (first | ((with_reducible refine of_halt ?_); first | ((with_reducible show wpAny _ _ (getAttr (Value.ref 1085) (PySem.Str.ofString "g_v") _) _ _ _); k_dflt (refine' get_gv ?k1 ?k2 ?k3 ?_; (case k1 => k_asm); (case k2 => k_in); (case k3 => first | assumption | exact GV.keeps (Below.stays (by assumption)) (by assumption)); k_whole); (try dsimp only))) | (k_unfold; (try dsimp only)) | (k_end; kc_close) | walk1 | (dsimp only; walk1)))
  refine of_halt ?_
  first | (k_dflt (refine' c_word6 ?k1 ?k2 ?k3 ?k4 ?k5 ?kD ?k6 ?n0 ?nO ?hd ?hu ?h0 ?h1 ?h2 ?h3 ?h4 ?h5 ?_; (case k2 | k1 => k_asm); (case k3 => assumption); (case k4 => k_asm); (case k5 | kD => assumption); (case k6 => first | exact rfl | assumption); (case n0 | nO => assumption); (case hd => ktr_room); (case hu => ktr_units); (case h0 => first | assumption | omega | (size_fits; done)); (case h1 | h2 | h3 | h4 | h5 => assumption); k_whole); intro gx0 kx0 Sx0 cx0 lx0 lbx0 brx0 kex0 px0 u0x0 u1x0 u2x0 u3x0 u4x0 u5x0 u6x0 vx0 hx0 tkx0 Tx0 Bx0 Dx0 Fx0 Nx0 Rx0; (have Xx0 := Frag.In.keeps (by assumption) (Below.stays Bx0)); (have Px0 := Top.keeps (by assumption) (Below.stays Bx0)); (try dsimp only)) | (k_dflt (refine' c_word7 ?k1 ?k2 ?k3 ?k4 ?k5 ?kD ?k6 ?n0 ?nO ?hd ?hu ?h0 ?h1 ?h2 ?h3 ?h4 ?h5 ?_; (case k2 | k1 => k_asm); (case k3 => assumption); (case k4 => k_asm); (case k5 | kD => assumption); (case k6 => first | exact rfl | assumption); (case n0 | nO => assumption); (case hd => ktr_room); (case hu => ktr_units); (case h0 => first | assumption | omega | (size_fits; done)); (case h1 | h2 | h3 | h4 | h5 => assumption); k_whole); intro gx0 kx0 Sx0 cx0 lx0 lbx0 brx0 kex0 px0 u0x0 u1x0 u2x0 u3x0 u4x0 u5x0 u6x0 vx0 hx0 tkx0 Tx0 Bx0 Dx0 Fx0 Nx0 Rx0; (have Xx0 := Frag.In.keeps (by assumption) (Below.stays Bx0)); (have Px0 := Top.keeps (by assumption) (Below.stays Bx0)); (try dsimp only))
  (repeat' (first | ((with_reducible refine of_halt ?_); first | ((with_reducible show wpAny _ _ (getAttr (Value.ref 1085) (PySem.Str.ofString "g_v") _) _ _ _); k_dflt (refine' get_gv ?k1 ?k2 ?k3 ?_; (case k1 => k_asm); (case k2 => k_in); (case k3 => first | assumption | exact GV.keeps (Below.stays (by assumption)) (by assumption)); k_whole); (try dsimp only))) | (k_unfold; (try dsimp only)) | (k_end; kc_close) | walk1 | (dsimp only; walk1)))
  obtain ⟨p0, q0, ⟨a0, hv9⟩, w0⟩ := Rx0
  subst hv9
  refine eltEnd_ ((D, dictOf [⟨PyData.keyHash w.params (Str.ofString "current"), .str (Str.ofString "current") k0, .str Sx0 u0x0⟩, ⟨PyData.keyHash w.params (Str.ofString "cursor"), .str (Str.ofString "cursor") k1, .int cx0 u1x0⟩, ⟨PyData.keyHash w.params (Str.ofString "limit"), .str (Str.ofString "limit") k2, .int lx0 u2x0⟩, ⟨PyData.keyHash w.params (Str.ofString "limit_backward"), .str (Str.ofString "limit_backward") k3, .int lbx0 u3x0⟩, ⟨PyData.keyHash w.params (Str.ofString "bra"), .str (Str.ofString "bra") k4, .int brx0 u4x0⟩, ⟨PyData.keyHash w.params (Str.ofString "ket"), .str (Str.ofString "ket") k5, .int kex0 u5x0⟩, ⟨PyData.keyHash w.params (Str.ofString "I_p1"), .str (Str.ofString "I_p1") kx0, .int px0 u6x0⟩] 7) :: (I, instObj 1085 D) :: (L' + 1, o0) :: oth) Fx0 Nx0 Bx0 Dx0 (by kst_inAny) ⟨off0.2.1, off0.2.2.1, off0.1, off0.2.2.2⟩ (List.Mem.tail _ (List.Mem.tail _ (List.Mem.tail _ hW))) ?_
  clear M0 F0 hO0 of0 Nx0
  intro v I1 oI1 C1 oC1 D1 m1 h1 tk1 E1 hv1 hC1 hx1 F1 N1 off1 ne1 B1 KD1
  have hv' := Option.some.inj hv1
  subst hv'
  replace hx1 : m1 (Str.ofString "word") = some (.str z1 s1) := hx1
  have M1 : News gx0 L' h1 ((D, dictOf [⟨PyData.keyHash w.params (Str.ofString "current"), .str (Str.ofString "current") k0, .str Sx0 u0x0⟩, ⟨PyData.keyHash w.params (Str.ofString "cursor"), .str (Str.ofString "cursor") k1, .int cx0 u1x0⟩, ⟨PyData.keyHash w.params (Str.ofString "limit"), .str (Str.ofString "limit") k2, .int lx0 u2x0⟩, ⟨PyData.keyHash w.params (Str.ofString "limit_backward"), .str (Str.ofString "limit_backward") k3, .int lbx0 u3x0⟩, ⟨PyData.keyHash w.params (Str.ofString "bra"), .str (Str.ofString "bra") k4, .int brx0 u4x0⟩, ⟨PyData.keyHash w.params (Str.ofString "ket"), .str (Str.ofString "ket") k5, .int kex0 u5x0⟩, ⟨PyData.keyHash w.params (Str.ofString "I_p1"), .str (Str.ofString "I_p1") kx0, .int px0 u6x0⟩] 7) :: (I, instObj 1085 D) :: (I1, oI1) :: (C1, oC1) :: (D1, lst [.str Sx0 a0]) :: (L' + 1, o0) :: oth) := kst_newsOf N1 (by kst_inAny)
  have of1 := Off3.mem off1
  have hO1 : OwnOff ((I1, oI1) :: (C1, oC1) :: (D1, lst [.str Sx0 a0]) :: (L' + 1, o0) :: oth) [D, I] := own_cons (Ne.symm (of1 (D, _) (by kst_entry)).1) (Ne.symm (of1 (I, _) (by kst_entry)).1) (own_cons (Ne.symm (of1 (D, _) (by kst_entry)).2.1) (Ne.symm (of1 (I, _) (by kst_entry)).2.1) (own_cons (Ne.symm (of1 (D, _) (by kst_entry)).2.2) (Ne.symm (of1 (I, _) (by kst_entry)).2.2) (own_cons lD lI hO)))
  clear N1
  (repeat' (first | ((with_reducible refine of_halt ?_); first | ((with_reducible show wpAny _ _ (getAttr (Value.ref 1085) (PySem.Str.ofString "g_v") _) _ _ _); k_dflt (refine' get_gv ?k1 ?k2 ?k3 ?_; (case k1 => k_asm); (case k2 => k_in); (case k3 => first | assumption | exact GV.keeps (Below.stays (by assumption)) (by assumption)); k_whole); (try dsimp only))) | (k_unfold; (try dsimp only)) | (k_end; kc_close) | walk1 | (dsimp only; walk1)))
  refine of_halt ?_
  first | (k_dflt (refine' c_word6 ?k1 ?k2 ?k3 ?k4 ?k5 ?kD ?k6 ?n0 ?nO ?hd ?hu ?h0 ?h1 ?h2 ?h3 ?h4 ?h5 ?_; (case k2 | k1 => k_asm); (case k3 => assumption); (case k4 => k_asm); (case k5 | kD => assumption); (case k6 => first | exact rfl | assumption); (case n0 | nO => assumption); (case hd => ktr_room); (case hu => ktr_units); (case h0 => first | assumption | omega | (size_fits; done)); (case h1 | h2 | h3 | h4 | h5 => assumption); k_whole); intro gx1 kx1 Sx1 cx1 lx1 lbx1 brx1 kex1 px1 u0x1 u1x1 u2x1 u3x1 u4x1 u5x1 u6x1 vx1 hx1 tkx1 Tx1 Bx1 Dx1 Fx1 Nx1 Rx1; (have Xx1 := Frag.In.keeps (by assumption) (Below.stays Bx1)); (have Px1 := Top.keeps (by assumption) (Below.stays Bx1)); (try dsimp only)) | (k_dflt (refine' c_word7 ?k1 ?k2 ?k3 ?k4 ?k5 ?kD ?k6 ?n0 ?nO ?hd ?hu ?h0 ?h1 ?h2 ?h3 ?h4 ?h5 ?_; (case k2 | k1 => k_asm); (case k3 => assumption); (case k4 => k_asm); (case k5 | kD => assumption); (case k6 => first | exact rfl | assumption); (case n0 | nO => assumption); (case hd => ktr_room); (case hu => ktr_units); (case h0 => first | assumption | omega | (size_fits; done)); (case h1 | h2 | h3 | h4 | h5 => assumption); k_whole); intro gx1 kx1 Sx1 cx1 lx1 lbx1 brx1 kex1 px1 u0x1 u1x1 u2x1 u3x1 u4x1 u5x1 u6x1 vx1 hx1 tkx1 Tx1 Bx1 Dx1 Fx1 Nx1 Rx1; (have Xx1 := Frag.In.keeps (by assumption) (Below.stays Bx1)); (have Px1 := Top.keeps (by assumption) (Below.stays Bx1)); (try dsimp only))
  (repeat' (first | ((with_reducible refine of_halt ?_); first | ((with_reducible show wpAny _ _ (getAttr (Value.ref 1085) (PySem.Str.ofString "g_v") _) _ _ _); k_dflt (refine' get_gv ?k1 ?k2 ?k3 ?_; (case k1 => k_asm); (case k2 => k_in); (case k3 => first | assumption | exact GV.keeps (Below.stays (by assumption)) (by assumption)); k_whole); (try dsimp only))) | (k_unfold; (try dsimp only)) | (k_end; kc_close) | walk1 | (dsimp only; walk1)))
  obtain ⟨p1, q1, ⟨a1, hv9⟩, w1⟩ := Rx1
  subst hv9
  refine eltEnd_ ((D, dictOf [⟨PyData.keyHash w.params (Str.ofString "current"), .str (Str.ofString "current") k0, .str Sx1 u0x1⟩, ⟨PyData.keyHash w.params (Str.ofString "cursor"), .str (Str.ofString "cursor") k1, .int cx1 u1x1⟩, ⟨PyData.keyHash w.params (Str.ofString "limit"), .str (Str.ofString "limit") k2, .int lx1 u2x1⟩, ⟨PyData.keyHash w.params (Str.ofString "limit_backward"), .str (Str.ofString "limit_backward") k3, .int lbx1 u3x1⟩, ⟨PyData.keyHash w.params (Str.ofString "bra"), .str (Str.ofString "bra") k4, .int brx1 u4x1⟩, ⟨PyData.keyHash w.params (Str.ofString "ket"), .str (Str.ofString "ket") k5, .int kex1 u5x1⟩, ⟨PyData.keyHash w.params (Str.ofString "I_p1"), .str (Str.ofString "I_p1") kx1, .int px1 u6x1⟩] 7) :: (I, instObj 1085 D) :: (L' + 1, o0) :: oth) Fx1 Nx1 Bx1 Dx1 (by kst_inAny) ⟨off1.1, off1.2.1, off1.2.2.1, off1.2.2.2⟩ (List.Mem.tail _ (List.Mem.tail _ (List.Mem.tail _ hW))) ?_
  clear M1 F1 hO1 of1 Nx1
  intro v I2 oI2 C2 oC2 D2 m2 h2 tk2 E2 hv2 hC2 hx2 F2 N2 off2 ne2 B2 KD2
  have hv' := Option.some.inj hv2
  subst hv'
  replace hx2 : m2 (Str.ofString "word") = some (.str z2 s2) := hx2
  have M2 : News gx1 L' h2 ((D, dictOf [⟨PyData.keyHash w.params (Str.ofString "current"), .str (Str.ofString "current") k0, .str Sx1 u0x1⟩, ⟨PyData.keyHash w.params (Str.ofString "cursor"), .str (Str.ofString "cursor") k1, .int cx1 u1x1⟩, ⟨PyData.keyHash w.params (Str.ofString "limit"), .str (Str.ofString "limit") k2, .int lx1 u2x1⟩, ⟨PyData.keyHash w.params (Str.ofString "limit_backward"), .str (Str.ofString "limit_backward") k3, .int lbx1 u3x1⟩, ⟨PyData.keyHash w.params (Str.ofString "bra"), .str (Str.ofString "bra") k4, .int brx1 u4x1⟩, ⟨PyData.keyHash w.params (Str.ofString "ket"), .str (Str.ofString "ket") k5, .int kex1 u5x1⟩, ⟨PyData.keyHash w.params (Str.ofString "I_p1"), .str (Str.ofString "I_p1") kx1, .int px1 u6x1⟩] 7) :: (I, instObj 1085 D) :: (I2, oI2) :: (C2, oC2) :: (D2, lst [.str Sx0 a0, .str Sx1 a1]) :: (L' + 1, o0) :: oth) := kst_newsOf N2 (by kst_inAny)
  have of2 := Off3.mem off2
  have hO2 : OwnOff ((I2, oI2) :: (C2, oC2) :: (D2, lst [.str Sx0 a0, .str Sx1 a1]) :: (L' + 1, o0) :: oth) [D, I] := own_cons (Ne.symm (of2 (D, _) (by kst_entry)).1) (Ne.symm (of2 (I, _) (by kst_entry)).1) (own_cons (Ne.symm (of2 (D, _) (by kst_entry)).2.1) (Ne.symm (of2 (I, _) (by kst_entry)).2.1) (own_cons (Ne.symm (of2 (D, _) (by kst_entry)).2.2) (Ne.symm (of2 (I, _) (by kst_entry)).2.2) (own_cons lD lI hO)))
  clear N2
  (repeat' (first | ((with_reducible refine of_halt ?_); first | ((with_reducible show wpAny _ _ (getAttr (Value.ref 1085) (PySem.Str.ofString "g_v") _) _ _ _); k_dflt (refine' get_gv ?k1 ?k2 ?k3 ?_; (case k1 => k_asm); (case k2 => k_in); (case k3 => first | assumption | exact GV.keeps (Below.stays (by assumption)) (by assumption)); k_whole); (try dsimp only))) | (k_unfold; (try dsimp only)) | (k_end; kc_close) | walk1 | (dsimp only; walk1)))
  refine of_halt ?_
  first | (k_dflt (refine' c_word6 ?k1 ?k2 ?k3 ?k4 ?k5 ?kD ?k6 ?n0 ?nO ?hd ?hu ?h0 ?h1 ?h2 ?h3 ?h4 ?h5 ?_; (case k2 | k1 => k_asm); (case k3 => assumption); (case k4 => k_asm); (case k5 | kD => assumption); (case k6 => first | exact rfl | assumption); (case n0 | nO => assumption); (case hd => ktr_room); (case hu => ktr_units); (case h0 => first | assumption | omega | (size_fits; done)); (case h1 | h2 | h3 | h4 | h5 => assumption); k_whole); intro gx2 kx2 Sx2 cx2 lx2 lbx2 brx2 kex2 px2 u0x2 u1x2 u2x2 u3x2 u4x2 u5x2 u6x2 vx2 hx2 tkx2 Tx2 Bx2 Dx2 Fx2 Nx2 Rx2; (have Xx2 := Frag.In.keeps (by assumption) (Below.stays Bx2)); (have Px2 := Top.keeps (by assumption) (Below.stays Bx2)); (try dsimp only)) | (k_dflt (refine' c_word7 ?k1 ?k2 ?k3 ?k4 ?k5 ?kD ?k6 ?n0 ?nO ?hd ?hu ?h0 ?h1 ?h2 ?h3 ?h4 ?h5 ?_; (case k2 | k1 => k_asm); (case k3 => assumption); (case k4 => k_asm); (case k5 | kD => assumption); (case k6 => first | exact rfl | assumption); (case n0 | nO => assumption); (case hd => ktr_room); (case hu => ktr_units); (case h0 => first | assumption | omega | (size_fits; done)); (case h1 | h2 | h3 | h4 | h5 => assumption); k_whole); intro gx2 kx2 Sx2 cx2 lx2 lbx2 brx2 kex2 px2 u0x2 u1x2 u2x2 u3x2 u4x2 u5x2 u6x2 vx2 hx2 tkx2 Tx2 Bx2 Dx2 Fx2 Nx2 Rx2; (have Xx2 := Frag.In.keeps (by assumption) (Below.stays Bx2)); (have Px2 := Top.keeps (by assumption) (Below.stays Bx2)); (try dsimp only))
  (repeat' (first | ((with_reducible refine of_halt ?_); first | ((with_reducible show wpAny _ _ (getAttr (Value.ref 1085) (PySem.Str.ofString "g_v") _) _ _ _); k_dflt (refine' get_gv ?k1 ?k2 ?k3 ?_; (case k1 => k_asm); (case k2 => k_in); (case k3 => first | assumption | exact GV.keeps (Below.stays (by assumption)) (by assumption)); k_whole); (try dsimp only))) | (k_unfold; (try dsimp only)) | (k_end; kc_close) | walk1 | (dsimp only; walk1)))
  obtain ⟨p2, q2, ⟨a2, hv9⟩, w2⟩ := Rx2
  subst hv9
  refine eltEnd_ ((D, dictOf [⟨PyData.keyHash w.params (Str.ofString "current"), .str (Str.ofString "current") k0, .str Sx2 u0x2⟩, ⟨PyData.keyHash w.params (Str.ofString "cursor"), .str (Str.ofString "cursor") k1, .int cx2 u1x2⟩, ⟨PyData.keyHash w.params (Str.ofString "limit"), .str (Str.ofString "limit") k2, .int lx2 u2x2⟩, ⟨PyData.keyHash w.params (Str.ofString "limit_backward"), .str (Str.ofString "limit_backward") k3, .int lbx2 u3x2⟩, ⟨PyData.keyHash w.params (Str.ofString "bra"), .str (Str.ofString "bra") k4, .int brx2 u4x2⟩, ⟨PyData.keyHash w.params (Str.ofString "ket"), .str (Str.ofString "ket") k5, .int kex2 u5x2⟩, ⟨PyData.keyHash w.params (Str.ofString "I_p1"), .str (Str.ofString "I_p1") kx2, .int px2 u6x2⟩] 7) :: (I, instObj 1085 D) :: (L' + 1, o0) :: oth) Fx2 Nx2 Bx2 Dx2 (by kst_inAny) ⟨off2.1, off2.2.1, off2.2.2.1, off2.2.2.2⟩ (List.Mem.tail _ (List.Mem.tail _ (List.Mem.tail _ hW))) ?_
  clear M2 F2 hO2 of2 Nx2
  intro v I3 oI3 C3 oC3 D3 m3 h3 tk3 E3 hv3 hC3 hx3 F3 N3 off3 ne3 B3 KD3
  have hv' := Option.some.inj hv3
  subst hv'
  replace hx3 : m3 (Str.ofString "word") = some (.str z3 s3) := hx3
  have M3 : News gx2 L' h3 ((D, dictOf [⟨PyData.keyHash w.params (Str.ofString "current"), .str (Str.ofString "current") k0, .str Sx2 u0x2⟩, ⟨PyData.keyHash w.params (Str.ofString "cursor"), .str (Str.ofString "cursor") k1, .int cx2 u1x2⟩, ⟨PyData.keyHash w.params (Str.ofString "limit"), .str (Str.ofString "limit") k2, .int lx2 u2x2⟩, ⟨PyData.keyHash w.params (Str.ofString "limit_backward"), .str (Str.ofString "limit_backward") k3, .int lbx2 u3x2⟩, ⟨PyData.keyHash w.params (Str.ofString "bra"), .str (Str.ofString "bra") k4, .int brx2 u4x2⟩, ⟨PyData.keyHash w.params (Str.ofString "ket"), .str (Str.ofString "ket") k5, .int kex2 u5x2⟩, ⟨PyData.keyHash w.params (Str.ofString "I_p1"), .str (Str.ofString "I_p1") kx2, .int px2 u6x2⟩] 7) :: (I, instObj 1085 D) :: (I3, oI3) :: (C3, oC3) :: (D3, lst [.str Sx0 a0, .str Sx1 a1, .str Sx2 a2]) :: (L' + 1, o0) :: oth) := kst_newsOf N3 (by kst_inAny)
  have of3 := Off3.mem off3
  have hO3 : OwnOff ((I3, oI3) :: (C3, oC3) :: (D3, lst [.str Sx0 a0, .str Sx1 a1, .str Sx2 a2]) :: (L' + 1, o0) :: oth) [D, I] := own_cons (Ne.symm (of3 (D, _) (by kst_entry)).1) (Ne.symm (of3 (I, _) (by kst_entry)).1) (own_cons (Ne.symm (of3 (D, _) (by kst_entry)).2.1) (Ne.symm (of3 (I, _) (by kst_entry)).2.1) (own_cons (Ne.symm (of3 (D, _) (by kst_entry)).2.2) (Ne.symm (of3 (I, _) (by kst_entry)).2.2) (own_cons lD lI hO)))
  clear N3
  (repeat' (first | ((with_reducible refine of_halt ?_); first | ((with_reducible show wpAny _ _ (getAttr (Value.ref 1085) (PySem.Str.ofString "g_v") _) _ _ _); k_dflt (refine' get_gv ?k1 ?k2 ?k3 ?_; (case k1 => k_asm); (case k2 => k_in); (case k3 => first | assumption | exact GV.keeps (Below.stays (by assumption)) (by assumption)); k_whole); (try dsimp only))) | (k_unfold; (try dsimp only)) | (k_end; kc_close) | walk1 | (dsimp only; walk1)))
  refine of_halt ?_
  first | (k_dflt (refine' c_word6 ?k1 ?k2 ?k3 ?k4 ?k5 ?kD ?k6 ?n0 ?nO ?hd ?hu ?h0 ?h1 ?h2 ?h3 ?h4 ?h5 ?_; (case k2 | k1 => k_asm); (case k3 => assumption); (case k4 => k_asm); (case k5 | kD => assumption); (case k6 => first | exact rfl | assumption); (case n0 | nO => assumption); (case hd => ktr_room); (case hu => ktr_units); (case h0 => first | assumption | omega | (size_fits; done)); (case h1 | h2 | h3 | h4 | h5 => assumption); k_whole); intro gx3 kx3 Sx3 cx3 lx3 lbx3 brx3 kex3 px3 u0x3 u1x3 u2x3 u3x3 u4x3 u5x3 u6x3 vx3 hx3 tkx3 Tx3 Bx3 Dx3 Fx3 Nx3 Rx3; (have Xx3 := Frag.In.keeps (by assumption) (Below.stays Bx3)); (have Px3 := Top.keeps (by assumption) (Below.stays Bx3)); (try dsimp only)) | (k_dflt (refine' c_word7 ?k1 ?k2 ?k3 ?k4 ?k5 ?kD ?k6 ?n0 ?nO ?hd ?hu ?h0 ?h1 ?h2 ?h3 ?h4 ?h5 ?_; (case k2 | k1 => k_asm); (case k3 => assumption); (case k4 => k_asm); (case k5 | kD => assumption); (case k6 => first | exact rfl | assumption); (case n0 | nO => assumption); (case hd => ktr_room); (case hu => ktr_units); (case h0 => first | assumption | omega | (size_fits; done)); (case h1 | h2 | h3 | h4 | h5 => assumption); k_whole); intro gx3 kx3 Sx3 cx3 lx3 lbx3 brx3 kex3 px3 u0x3 u1x3 u2x3 u3x3 u4x3 u5x3 u6x3 vx3 hx3 tkx3 Tx3 Bx3 Dx3 Fx3 Nx3 Rx3; (have Xx3 := Frag.In.keeps (by assumption) (Below.stays Bx3)); (have Px3 := Top.keeps (by assumption) (Below.stays Bx3)); (try dsimp only))
  (repeat' (first | ((with_reducible refine of_halt ?_); first | ((with_reducible show wpAny _ _ (getAttr (Value.ref 1085) (PySem.Str.ofString "g_v") _) _ _ _); k_dflt (refine' get_gv ?k1 ?k2 ?k3 ?_; (case k1 => k_asm); (case k2 => k_in); (case k3 => first | assumption | exact GV.keeps (Below.stays (by assumption)) (by assumption)); k_whole); (try dsimp only))) | (k_unfold; (try dsimp only)) | (k_end; kc_close) | walk1 | (dsimp only; walk1)))
  obtain ⟨p3, q3, ⟨a3, hv9⟩, w3⟩ := Rx3
  subst hv9
  refine eltEnd_ ((D, dictOf [⟨PyData.keyHash w.params (Str.ofString "current"), .str (Str.ofString "current") k0, .str Sx3 u0x3⟩, ⟨PyData.keyHash w.params (Str.ofString "cursor"), .str (Str.ofString "cursor") k1, .int cx3 u1x3⟩, ⟨PyData.keyHash w.params (Str.ofString "limit"), .str (Str.ofString "limit") k2, .int lx3 u2x3⟩, ⟨PyData.keyHash w.params (Str.ofString "limit_backward"), .str (Str.ofString "limit_backward") k3, .int lbx3 u3x3⟩, ⟨PyData.keyHash w.params (Str.ofString "bra"), .str (Str.ofString "bra") k4, .int brx3 u4x3⟩, ⟨PyData.keyHash w.params (Str.ofString "ket"), .str (Str.ofString "ket") k5, .int kex3 u5x3⟩, ⟨PyData.keyHash w.params (Str.ofString "I_p1"), .str (Str.ofString "I_p1") kx3, .int px3 u6x3⟩] 7) :: (I, instObj 1085 D) :: (L' + 1, o0) :: oth) Fx3 Nx3 Bx3 Dx3 (by kst_inAny) ⟨off3.1, off3.2.1, off3.2.2.1, off3.2.2.2⟩ (List.Mem.tail _ (List.Mem.tail _ (List.Mem.tail _ hW))) ?_
  clear M3 F3 hO3 of3 Nx3
  intro Df hf tkf Ff Nf of
  have Tall := KtsTurn.trans Tx0 (KtsTurn.trans Tx1 (KtsTurn.trans Tx2 Tx3))
  (repeat' (first | ((with_reducible refine of_halt ?_); first | ((with_reducible show wpAny _ _ (getAttr (Value.ref 1085) (PySem.Str.ofString "g_v") _) _ _ _); k_dflt (refine' get_gv ?k1 ?k2 ?k3 ?_; (case k1 => k_asm); (case k2 => k_in); (case k3 => first | assumption | exact GV.keeps (Below.stays (by assumption)) (by assumption)); k_whole); (try dsimp only))) | (k_unfold; (try dsimp only)) | (k_end; kc_close) | walk1 | (dsimp only; walk1)))
  refine' ret _ _ _ _ _ _ _ _ _ _ _ _ _ _ _ _ _ _ _ _ ?cT ?cB ?cD ?cF ?cN ?cE ?cR; (case cT | cB | cD => assumption); (case cF => k_asm); (case cN => (rename News _ _ _ _ => nZ; exact kst_newsOf nZ (by kst_inAny))); (case cE => exact ⟨Ne.symm of.1, Ne.symm of.2.1, off1_mem of.2.2.2⟩); (case cR => exact ⟨_, _, _, _, ⟨p0, q0, w0⟩, ⟨p1, q1, w1⟩, ⟨p2, q2, w2⟩, ⟨p3, q3, w3⟩, _, _, _, _, rfl⟩)
end Lith
end
section
open PySem PySem.W PyProof.Rows PySem.Calls
set_option Elab.async false
set_option maxRecDepth 100000
set_option maxHeartbeats 1000000
namespace Lith
/-- the texts of a display of texts -/
noncomputable def dispOf : List Expr → Option (List Str)
  | [] => some []
  | .Constant (.str s) _ _ :: r => (dispOf r).map (s :: ·)
  | _ => none
/-- the texts that the text's i-th statement, a def, hands back in a list -/
noncomputable def lawStrs (i : Nat) : List Str := match subs (stAt top i) with
  | [.Return (some (.List es _)) _] => (dispOf es).getD []
  | _ => []
section
variable {M : Model} {A : Around} {E : Value → Shared → Prop} {s : Shared} {h₀ : Heap} {L : Addr} {m : Str → Option Value} {news : List (Addr × Obj)} {env : Env}
theorem spliced_strs {pos : Pos} : ∀ {elts : List Expr} {ss : List Str} {s : Shared} {Q : List Value → Shared → Prop}, dispOf elts = some ss → (∀ vs tk, StrsAre vs ss → Q vs { s with toks := tk }) → wpAny M A (spliced (backTo pos (starEach elts env))) Q E s
  | [], ss, s, Q, e, h => by
    injection e with e; subst e
    exact args_nil (h [] s.toks .nil)
  | x :: r, ss, s, Q, e, h => by
    cases x with
    | Constant c k p =>
      cases c with
      | str a =>
        have e' : (dispOf r).map (a :: ·) = some ss := e
        cases e2 : dispOf r with
        | none => rw [e2] at e'; simp at e'
        | some ts =>
          rw [e2] at e'
          injection e' with e'
          have e3 : a :: ts = ss := e'
          subst e3
          refine args_cons (wpAny_Constant_str ?_) rfl
          exact spliced_strs e2 fun vs tk hv => h _ tk (.cons _ _ hv)
      | _ => simp [dispOf] at e
    | _ => simp [dispOf] at e
theorem strs_display {pos : Pos} {elts : List Expr} {ss : List Str} {Q : Value → Shared → Prop} (F : Fr h₀ L s.heap m) (N : News h₀ L s.heap news) (e : dispOf elts = some ss) (hn : ss.length ≤ 1000)
    (h : ∀ l h' tk vs, StrsAre vs ss → Fr h₀ L h' m → News h₀ L h' ((l, listOf vs.toArray 0) :: news) → (∀ p ∈ news, p.1 < l) → Q (.ref l) { s with heap := h', toks := tk }) : wpAny M A (eval (.List elts pos) env) Q E s := by
  refine List_ (spliced_strs e fun vs tk hv => ?_)
  exact newList_K (s := { s with toks := tk }) F N (fun l h' F' N' lt => h l h' tk vs hv F' N' lt) (by rw [hv.length]; exact Nat.le_trans hn (Nat.le_of_ble_eq_true (by kernel_rfl)))
end
end Lith
end
section
open PySem PySem.W PyProof.Rows PySem.Calls
set_option Elab.async false
set_option maxRecDepth 100000
namespace Lith
noncomputable def vows : List Nat := [97, 101, 105, 111, 117, 121, 261, 279, 281, 303, 363, 371]
/-- a body: letters, the last of them a vowel -/
noncomputable def BodyOk (z : Str) : Prop := ∃ v r, rv z = v :: r ∧ v ∈ vows ∧ 1 ≤ r.length ∧ r.length ≤ 6
noncomputable def lettersS : Str := Str.ofString "aąbcčdeęėfghiįyjklmnoprsštuųūvzž"
noncomputable def vowelsS : Str := Str.ofString "aeiouyąęėįūų"
noncomputable def closesS : Str := Str.ofString "bcdfhzžš"
theorem letters_len : lettersS.length = 32 := by decide +kernel
theorem vowels_len : vowelsS.length = 12 := by decide +kernel
theorem closes_len : closesS.length = 8 := by decide +kernel
noncomputable def closes : List Nat := [98, 99, 100, 102, 104, 122, 382, 353]
theorem chr_mem {S : Str} {l : List Nat} {i : Int} (h : S.cps.toList.all (fun c => l.contains c) = true) (h0 : 0 ≤ i) (h1 : i < (S.length : Int)) : chr S i ∈ l := by
  have := chr_get (S := S) h0 h1
  have m := List.mem_of_getElem? this
  have := List.all_eq_true.mp h _ m
  exact List.contains_iff_mem.mp this
theorem vow_at {i : Int} (h0 : 0 ≤ i) (h1 : i < 12) : chr vowelsS i ∈ vows := chr_mem (by decide +kernel) h0 (by rw [vowels_len]; exact h1)
theorem close_at {i : Int} (h0 : 0 ≤ i) (h1 : i < 8) : chr closesS i ∈ closes := chr_mem (by decide +kernel) h0 (by rw [closes_len]; exact h1)
theorem rv_one (c : Nat) : rv (⟨#[c]⟩ : Str) = [c] := rfl
theorem body_ok {b : Str} {i : Int} (h1 : 1 ≤ b.length) (h2 : b.length ≤ 6) (h0 : 0 ≤ i) (h3 : i < 12) : BodyOk (b ++ (⟨#[chr vowelsS i]⟩ : Str)) := by
  refine ⟨chr vowelsS i, rv b, ?_, vow_at h0 h3, by rw [rv_len]; exact h1, by rw [rv_len]; exact h2⟩
  rw [rv_app, rv_one]; rfl
theorem fmod_bd (a : Int) (n : Int) (h : 0 < n) : 0 ≤ a.fmod n ∧ a.fmod n < n := ⟨Int.fmod_nonneg_of_pos a h, Int.fmod_lt_of_pos a h⟩
theorem range_fm {h : Heap} {r : Addr} {v : Int} {t u w : Tok} (R : IsRange h r 1 (2 + v.fmod 6) 1 t u w) : ∃ e : Int, 1 < e ∧ e ≤ 7 ∧ IsRange h r 1 e 1 t u w :=
  have := fmod_bd v 6 (by decide)
  ⟨_, by omega, by omega, R⟩
theorem one_len (c : Nat) : (⟨#[c]⟩ : Str).length = 1 := rfl
theorem app_len (a b : Str) : (a ++ b).length = a.length + b.length := Str.length_append ..
theorem item_eq {S : Str} {i : Int} (h0 : 0 ≤ i) (h1 : i < (S.length : Int)) : Txt.item S i = (⟨#[chr S i]⟩ : Str) := by
  have hn : i.toNat < S.cps.size := by have : S.length = S.cps.size := rfl; omega
  have e : Txt.charAt S i = some (chr S i) := by
    unfold Txt.charAt
    have e1 : seqIndex? i S.length = some i.toNat := by
      obtain ⟨n, rfl⟩ : ∃ n : Nat, i = n := ⟨i.toNat, by omega⟩
      unfold seqIndex?
      simp <;> omega
    rw [e1]
    show S.cps[i.toNat]? = some _
    unfold chr
    rw [Array.getElem?_eq_getElem hn]
    simp [hn]
  unfold Txt.item
  rw [e]; rfl
theorem item_len (S : Str) (i : Int) : (Txt.item S i).length = 1 := rfl
theorem body_okI {b : Str} {i : Int} (h1 : 1 ≤ b.length) (h2 : b.length ≤ 6) (h0 : 0 ≤ i) (h3 : i < 12) : BodyOk (b ++ Txt.item vowelsS i) := by
  rw [item_eq h0 (by rw [vowels_len]; exact h3)]
  exact body_ok h1 h2 h0 h3
end Lith
end
section
open PySem PySem.W PyProof.Rows PySem.Calls
set_option Elab.async false
set_option maxRecDepth 100000
set_option maxHeartbeats 1000000
namespace Lith
theorem getD_mem {ss : List Str} {n : Nat} (h : n < ss.length) : ss.getD n Str.empty ∈ ss := by
  rw [List.getD_eq_getElem?_getD, List.getElem?_eq_getElem h]
  exact List.getElem_mem h
section
variable {w : World} {A : Around} {E : Value → Shared → Prop} {s : Shared} {h₀ : Heap} {L : Addr} {m : Str → Option Value} {Q : Value → Shared → Prop} {u : Tok} {i : Int} {value slice : Expr} {news : List (Addr × Obj)}
theorem item_L {l : Addr} {vs : List Value} {ss : List Str} {n : Nat} (N : News h₀ L s.heap news) (hm : (l, listOf vs.toArray 0) ∈ news) (hv : StrsAre vs ss) (hl : ss.length = n) (hn : n ≤ 1000) (h0 : 0 ≤ i) (h1 : i < (n : Int)) (h : ∀ z t, z ∈ ss → Q (.str z t) s)
    (hs : subscripted slice false (.ref l) (.int i u) = operate [.ref l, .int i u] (PySem.getItem (.ref l) (.int i u)) := by with_unfolding_all rfl) (hg : ∀ r, letTemporaryGo value (.ref l) r = pure () := by intro _; with_unfolding_all rfl) :
    wpAny (model pg w) A (subscriptTail value slice (.ref l) (.int i u)) Q E s :=
  item_strsA ⟨_, (N _ hm).1, rfl, _, rfl⟩ hv h0 (by omega) (by omega) (fun t => h _ t (getD_mem (by omega))) hs hg
end
theorem n13 : (lawStrs 13).length = 97 := by decide +kernel
theorem n14 : (lawStrs 14).length = 96 := by decide +kernel
theorem n15 : (lawStrs 15).length = 13 := by decide +kernel
theorem n16 : (lawStrs 16).length = 43 := by decide +kernel
theorem n17 : (lawStrs 17).length = 11 := by decide +kernel
theorem n18 : (lawStrs 18).length = 12 := by decide +kernel
theorem n20 : (lawStrs 20).length = 40 := by decide +kernel
/-- the endings, the last sign first -/
noncomputable def endsK : List (List Nat) := (lawStrs 13 ++ lawStrs 14).map rv
noncomputable def EndOk (z : Str) : Prop := rv z ∈ endsK
theorem end_13 {z : Str} (h : z ∈ lawStrs 13) : EndOk z := List.mem_map.mpr ⟨z, List.mem_append_left _ h, rfl⟩
theorem end_14 {z : Str} (h : z ∈ lawStrs 14) : EndOk z := List.mem_map.mpr ⟨z, List.mem_append_right _ h, rfl⟩
theorem end_len {z : Str} (h : EndOk z) : 1 ≤ z.length ∧ z.length ≤ 8 := by
  have : endsK.all (fun l => Nat.ble 1 l.length && Nat.ble l.length 8) = true := by decide +kernel
  have := List.all_eq_true.mp this _ h
  rw [Bool.and_eq_true, Nat.ble_eq, Nat.ble_eq, rv_len] at this
  exact this
end Lith
end
section
open PySem PySem.W PyProof.Rows PySem.Calls
set_option Elab.async false
set_option maxRecDepth 100000
namespace Lith
/-- t is the stem of z, wherever its first run of vowels ends -/
noncomputable def StemOf (z t : Str) : Prop := ∀ p, P1S z p → stemR p.toNat (rv z) = rv t
noncomputable def CloseOk (z : Str) : Prop := ∃ c, rv z = [c] ∧ c ∈ closes
theorem close_len {z : Str} (h : CloseOk z) : z.length = 1 := by
  obtain ⟨c, e, _⟩ := h
  rw [← rv_len, e]; rfl
theorem ite_l {c : Prop} [Decidable c] {A B : Prop} (h : c) (a : A) : if c then A else B := by rw [if_pos h]; exact a
theorem ite_r {c : Prop} [Decidable c] {A B : Prop} (h : ¬ c) (b : B) : if c then A else B := by rw [if_neg h]; exact b
section
variable {w : World} {A : Around} {E : Value → Shared → Prop} {s : Shared} {h₀ : Heap} {L : Addr} {m : Str → Option Value} {Q : Value → Shared → Prop} {u : Tok} {i : Int} {value slice : Expr} {news : List (Addr × Obj)}
theorem getD_len {ss : List Str} (h : ss.all (fun z => Nat.ble z.length 8) = true) (n : Nat) : (ss.getD n Str.empty).length ≤ 8 := by
  rw [List.getD_eq_getElem?_getD]
  cases e : ss[n]? with
  | none => exact Nat.zero_le _
  | some z => exact Nat.le_of_ble_eq_true (List.all_eq_true.mp h z (List.mem_of_getElem? e))
theorem item_G {l : Addr} {vs : List Value} {ss : List Str} {n : Nat} (N : News h₀ L s.heap news) (hm : (l, listOf vs.toArray 0) ∈ news) (hv : StrsAre vs ss) (hl : ss.length = n) (hn : n ≤ 1000) (ha : ss.all (fun z => Nat.ble z.length 8) = true) (h0 : 0 ≤ i) (h1 : i < (n : Int)) (h : ∀ z t, z = ss.getD i.toNat Str.empty → z.length ≤ 8 → Q (.str z t) s)
    (hs : subscripted slice false (.ref l) (.int i u) = operate [.ref l, .int i u] (PySem.getItem (.ref l) (.int i u)) := by with_unfolding_all rfl) (hg : ∀ r, letTemporaryGo value (.ref l) r = pure () := by intro _; with_unfolding_all rfl) :
    wpAny (model pg w) A (subscriptTail value slice (.ref l) (.int i u)) Q E s :=
  item_strsA ⟨_, (N _ hm).1, rfl, _, rfl⟩ hv h0 (by omega) (by omega) (fun t => h _ t rfl (getD_len ha _)) hs hg
end
section
variable {w : World} {A : Around} {E : Value → Shared → Prop} {s : Shared} {h₀ : Heap} {L : Addr} {m : Str → Option Value} {Q : Value → Shared → Prop} {u : Tok} {i : Int} {value slice : Expr} {news : List (Addr × Obj)}
noncomputable def pairAt (i : Int) : Str × Str := if i = 0 then (Str.ofString "asys", Str.ofString "as") else if i = 1 then (Str.ofString "asius", Str.ofString "as") else if i = 2 then (Str.ofString "esys", Str.ofString "es") else (Str.ofString "esiu", Str.ofString "es")
theorem item_P {l a b c d : Addr} {ta tb tc td ta' tb' tc' td' : Tok} (N : News h₀ L s.heap news) (hm : (l, listOf #[.ref a, .ref b, .ref c, .ref d] 0) ∈ news)
    (ma : (a, { cls := .type "tuple", data := .seq #[.str (Str.ofString "asys") ta, .str (Str.ofString "as") ta'] }) ∈ news) (mb : (b, { cls := .type "tuple", data := .seq #[.str (Str.ofString "asius") tb, .str (Str.ofString "as") tb'] }) ∈ news)
    (mc : (c, { cls := .type "tuple", data := .seq #[.str (Str.ofString "esys") tc, .str (Str.ofString "es") tc'] }) ∈ news) (md : (d, { cls := .type "tuple", data := .seq #[.str (Str.ofString "esiu") td, .str (Str.ofString "es") td'] }) ∈ news)
    (h0 : 0 ≤ i) (h1 : i < 4)
    (h : ∀ D z z' t t', (z, z') = pairAt i → z.length ≤ 8 → z'.length ≤ 8 → News h₀ L s.heap ((D, { cls := .type "tuple", data := .seq #[.str z t, .str z' t'] }) :: news) → Q (.ref D) s)
    (hs : subscripted slice false (.ref l) (.int i u) = operate [.ref l, .int i u] (PySem.getItem (.ref l) (.int i u)) := by with_unfolding_all rfl) (hg : ∀ r, letTemporaryGo value (.ref l) r = pure () := by intro _; with_unfolding_all rfl) :
    wpAny (model pg w) A (subscriptTail value slice (.ref l) (.int i u)) Q E s := by
  have hl : s.heap.IsList l #[.ref a, .ref b, .ref c, .ref d] := ⟨_, (N _ hm).1, rfl, _, rfl⟩
  have up : ∀ {p : Addr × Obj}, p ∈ news → News h₀ L s.heap (p :: news) := fun hp => kst_newsOf N (by intro q hq; rcases List.mem_cons.mp hq with e | e; exact e ▸ hp; exact e)
  rcases (by omega : i = 0 ∨ i = 1 ∨ i = 2 ∨ i = 3) with e | e | e | e
  · exact PyProof.Rows.item_list hl (by omega) (by omega) (by rw [e]; rfl) (h _ _ _ _ _ (by rw [e]; rfl) (by decide +kernel) (by decide +kernel) (up ma)) hs hg
  · exact PyProof.Rows.item_list hl (by omega) (by omega) (by rw [e]; rfl) (h _ _ _ _ _ (by rw [e]; rfl) (by decide +kernel) (by decide +kernel) (up mb)) hs hg
  · exact PyProof.Rows.item_list hl (by omega) (by omega) (by rw [e]; rfl) (h _ _ _ _ _ (by rw [e]; rfl) (by decide +kernel) (by decide +kernel) (up mc)) hs hg
  · exact PyProof.Rows.item_list hl (by omega) (by omega) (by rw [e]; rfl) (h _ _ _ _ _ (by rw [e]; rfl) (by decide +kernel) (by decide +kernel) (up md)) hs hg
end
theorem inner_len {z : Str} (h : z ∈ lawStrs 16) : z.length ≤ 8 := Nat.le_of_ble_eq_true (List.all_eq_true.mp (by decide +kernel : (lawStrs 16).all (fun z => Nat.ble z.length 8) = true) z h)
theorem women_len {z : Str} (h : z ∈ lawStrs 17) : z.length ≤ 8 := Nat.le_of_ble_eq_true (List.all_eq_true.mp (by decide +kernel : (lawStrs 17).all (fun z => Nat.ble z.length 8) = true) z h)
theorem deeds_len {z : Str} (h : z ∈ lawStrs 18) : z.length ≤ 8 := Nat.le_of_ble_eq_true (List.all_eq_true.mp (by decide +kernel : (lawStrs 18).all (fun z => Nat.ble z.length 8) = true) z h)
theorem short_len {z : Str} (h : z ∈ lawStrs 20) : z.length ≤ 8 := Nat.le_of_ble_eq_true (List.all_eq_true.mp (by decide +kernel : (lawStrs 20).all (fun z => Nat.ble z.length 8) = true) z h)
/-- a pile of inner endings -/
inductive Pile : Nat → Str → Prop
  | nil : Pile 0 (Str.ofString "")
  | snoc {k : Nat} {z q : Str} : Pile k z → q ∈ lawStrs 16 → Pile (k + 1) (z ++ q)
theorem pile_len {k : Nat} {z : Str} (h : Pile k z) : z.length ≤ 8 * k := by
  induction h with
  | nil => exact Nat.le_of_eq (by decide +kernel)
  | snoc _ hq ih => have := inner_len hq; rw [app_len]; omega
theorem pile_step {α : Type} {pre : List α} {i : α} {z q : Str} (h : Pile pre.length z) (h3 : pre.length < 3) (hq : q ∈ lawStrs 16) : Pile (pre ++ [i]).length (z ++ q) ∧ (pre ++ [i]).length ≤ 3 := by
  rw [List.length_append, List.length_singleton]
  exact ⟨.snoc h hq, by omega⟩
theorem range_fm3 {h : Heap} {r : Addr} {v : Int} {t u w : Tok} (R : IsRange h r 0 (1 + v.fmod 3) 1 t u w) : ∃ e : Int, 0 < e ∧ e ≤ 3 ∧ IsRange h r 0 e 1 t u w :=
  have := fmod_bd v 3 (by decide)
  ⟨_, by omega, by omega, R⟩
end Lith
end
section
open PySem PySem.W PyProof.Rows PySem.Calls PyProof.Rows.LCg
set_option Elab.async false
set_option maxRecDepth 100000
set_option maxHeartbeats 1000000
namespace Lith
theorem back_F {g g' h : Heap} {L : Addr} {m : Str → Option Value} (T : KtsTurn [] g g') (F : Fr g' L h m) : Fr g L h m :=
  ⟨F.ns, fun b o e => F.keep b o (T.other b o e (fun q => nomatch q)), T.size ▸ F.above⟩
theorem back_N {g g' h : Heap} {L : Addr} {l : List (Addr × Obj)} (T : KtsTurn [] g g') (N : News g' L h l) : News g L h l := fun p hp =>
  ⟨(N p hp).1, (N p hp).2.1, by
    cases e : g.get? p.1 with
    | none => rfl
    | some o =>
      have := T.other p.1 o e (fun q => nomatch q)
      rw [(N p hp).2.2] at this
      cases this⟩
theorem rv_inj9 {a b : Str} (h : rv a = rv b) : a = b := by
  have h1 : a.cps.toList = b.cps.toList := List.reverse_inj.mp h
  have h2 : a.cps = b.cps := Array.toList_inj.mp h1
  cases a; cases b; simp_all
theorem got {z r t : Str} (h : ∃ p, P1S z p ∧ rv r = stemR p.toNat (rv z)) (q : StemOf z t) : r = t := by
  obtain ⟨p, hp, e⟩ := h
  exact rv_inj9 (e.trans (q p hp))
theorem fresh6 {h₀ h : Heap} {L D I : Addr} {oI : Obj} {oth : List (Addr × Obj)} {g0 g1 g2 g3 g4 g5 : Int} {n0 n1 n2 n3 n4 n5 S : Str} {k0 k1 k2 k3 k4 k5 t0 t1 t2 t3 t4 t5 : Tok} {c l lb br ke : Int}
    (N : News h₀ L h ((I, oI) :: (D, dictOf [⟨g0, .str n0 k0, .str S t0⟩, ⟨g1, .str n1 k1, .int c t1⟩, ⟨g2, .str n2 k2, .int l t2⟩, ⟨g3, .str n3 k3, .int lb t3⟩, ⟨g4, .str n4 k4, .int br t4⟩, ⟨g5, .str n5 k5, .int ke t5⟩] 6) :: oth)) : ∃ k0 k1 k2 k3 k4 k5 t0 t1 t2 t3 t4 t5, News h₀ L h ((D, dictOf [⟨g0, .str n0 k0, .str S t0⟩, ⟨g1, .str n1 k1, .int c t1⟩, ⟨g2, .str n2 k2, .int l t2⟩, ⟨g3, .str n3 k3, .int lb t3⟩, ⟨g4, .str n4 k4, .int br t4⟩, ⟨g5, .str n5 k5, .int ke t5⟩] 6) :: (I, oI) :: oth) :=
  ⟨k0, k1, k2, k3, k4, k5, t0, t1, t2, t3, t4, t5, kst_newsOf N fun p hp => by
    rcases List.mem_cons.mp hp with e | hp
    · rw [e]; exact .tail _ (.head _)
    · rcases List.mem_cons.mp hp with e | hp
      · rw [e]; exact .head _
      · exact .tail _ (.tail _ hp)⟩
theorem pull1 {h₀ h : Heap} {L : Addr} {x y z : Addr × Obj} {l : List (Addr × Obj)} (N : News h₀ L h (x :: y :: z :: l)) : News h₀ L h (y :: z :: x :: l) := kst_newsOf N fun p hp => by
  rcases List.mem_cons.mp hp with e | hp
  · rw [e]; exact .tail _ (.head _)
  · rcases List.mem_cons.mp hp with e | hp
    · rw [e]; exact .tail _ (.tail _ (.head _))
    · rcases List.mem_cons.mp hp with e | hp
      · rw [e]; exact .head _
      · exact .tail _ (.tail _ (.tail _ hp))
theorem pull2 {h₀ h : Heap} {L : Addr} {x x' y z : Addr × Obj} {l : List (Addr × Obj)} (N : News h₀ L h (x' :: x :: y :: z :: l)) : News h₀ L h (y :: z :: x' :: x :: l) := kst_newsOf N fun p hp => by
  rcases List.mem_cons.mp hp with e | hp
  · rw [e]; exact .tail _ (.tail _ (.head _))
  · rcases List.mem_cons.mp hp with e | hp
    · rw [e]; exact .tail _ (.tail _ (.tail _ (.head _)))
    · rcases List.mem_cons.mp hp with e | hp
      · rw [e]; exact .head _
      · rcases List.mem_cons.mp hp with e | hp
        · rw [e]; exact .tail _ (.head _)
        · exact .tail _ (.tail _ (.tail _ (.tail _ hp)))
theorem eq4 {w : World} {A : Around} {s : Shared} {E Q : Value → Shared → Prop} {a b : Addr} {n k : Nat} {y0 y1 y2 y3 : Str} {a0 a1 a2 a3 b0 b1 b2 b3 : Tok} {h₀ : Heap} {L : Addr} {news : List (Addr × Obj)} (N : News h₀ L s.heap news) (hl : (a, W.listOf #[.str y0 a0, .str y1 a1, .str y2 a2, .str y3 a3] n) ∈ news) (hb : (b, W.listOf #[.str y0 b0, .str y1 b1, .str y2 b2, .str y3 b3] k) ∈ news) (hu : A.units < cLine) (h : Q (.bool true) s) :
    wpAny (model pg w) A (compareOp .Eq (.ref a) (.ref b)) Q E s := by
  refine PySem.P.eq_list (e := fun _ => true) (N _ hl).1 (N _ hb).1 rfl (fun j h1 h2 => ?_) hu h
  have st : ∀ (y : Str) (t u : Tok), MeetsSeq.EqGives (.str y t) (.str y u) true := fun y t u => by
    have := eqGives_str y y t u
    rw [beq_self_eq_true] at this
    exact this
  match j, h1, h2 with
  | 0, _, _ => exact st _ _ _
  | 1, _, _ => exact st _ _ _
  | 2, _, _ => exact st _ _ _
  | 3, _, _ => exact st _ _ _
  | j + 4, h1, _ => exact absurd h1 (by show ¬ (j + 4 < 4); omega)
theorem c_wordsL {w : World} {lo : List Str} {mean : ExcName → Option Value} {mg mb : Str → Option Value} {dp un : Nat} {gd : Option (List Code)} {cn : Str} {cs : Scope} {a : Addr} {ccd : Value} {cl : List (Str × Addr)} {A₀ : Around} {h₀ : Heap} {L : Addr} {m : Str → Option Value} {s : Shared} {Q E : Value → Shared → Prop} {D I : Addr} {oth : List (Addr × Obj)} {k0 k1 k2 k3 k4 k5 t0 t1 t2 t3 t4 t5 : Tok} {S : Str} {c l lb br ke : Int} {z0 z1 z2 z3 y0 y1 y2 y3 : Str} {s0 s1 s2 s3 : Tok} {nw : Nat} {xw : Addr}
    (B : Below A₀ h₀ [] h₀) (F : Fr h₀ L s.heap m) (X : (kL w.params).In h₀) (N : News h₀ L s.heap ((D, dictOf [⟨PyData.keyHash w.params (Str.ofString "current"), .str (Str.ofString "current") k0, .str S t0⟩, ⟨PyData.keyHash w.params (Str.ofString "cursor"), .str (Str.ofString "cursor") k1, .int c t1⟩, ⟨PyData.keyHash w.params (Str.ofString "limit"), .str (Str.ofString "limit") k2, .int l t2⟩, ⟨PyData.keyHash w.params (Str.ofString "limit_backward"), .str (Str.ofString "limit_backward") k3, .int lb t3⟩, ⟨PyData.keyHash w.params (Str.ofString "bra"), .str (Str.ofString "bra") k4, .int br t4⟩, ⟨PyData.keyHash w.params (Str.ofString "ket"), .str (Str.ofString "ket") k5, .int ke t5⟩] 6) :: (I, instObj 1085 D) :: oth)) (TT : Top qv lo mean mg mb h₀) (hk : cs.kind = .function) (d0 : NeN D I) (hO : OwnOff oth [D, I]) (hd : dp + 50 < recursionLimit) (hu : un + 700 < cLine) (hW : (xw, ({ cls := .type "list", data := .seq #[.str z0 s0, .str z1 s1, .str z2 s2, .str z3 s3] nw } : Obj)) ∈ oth) (hz0 : z0.length ≤ 800) (hz1 : z1.length ≤ 800) (hz2 : z2.length ≤ 800) (hz3 : z3.length ≤ 800) (TA : Tabs4 w h₀) (GS : GV w h₀) (q0 : StemOf z0 y0) (q1 : StemOf z1 y1) (q2 : StemOf z2 y2) (q3 : StemOf z3 y3)
    (ret : ∀ (k6' : Tok) (S' : Str) (c' l' lb' br' ke' p1' : Int) (t0' t1' t2' t3' t4' t5' t6' : Tok) (R' : Addr) (a0 a1 a2 a3 : Tok) (h' : Heap) (tk' : Nat), Fr h₀ L h' m → News h₀ L h' ((R', W.listOf #[.str y0 a0, .str y1 a1, .str y2 a2, .str y3 a3] 4) :: ((D, dictOf [⟨PyData.keyHash w.params (Str.ofString "current"), .str (Str.ofString "current") k0, .str S' t0'⟩, ⟨PyData.keyHash w.params (Str.ofString "cursor"), .str (Str.ofString "cursor") k1, .int c' t1'⟩, ⟨PyData.keyHash w.params (Str.ofString "limit"), .str (Str.ofString "limit") k2, .int l' t2'⟩, ⟨PyData.keyHash w.params (Str.ofString "limit_backward"), .str (Str.ofString "limit_backward") k3, .int lb' t3'⟩, ⟨PyData.keyHash w.params (Str.ofString "bra"), .str (Str.ofString "bra") k4, .int br' t4'⟩, ⟨PyData.keyHash w.params (Str.ofString "ket"), .str (Str.ofString "ket") k5, .int ke' t5'⟩, ⟨PyData.keyHash w.params (Str.ofString "I_p1"), .str (Str.ofString "I_p1") k6', .int p1' t6'⟩] 7) :: (I, instObj 1085 D) :: oth)) → ((R' : Nat) ≠ D ∧ (R' : Nat) ≠ I ∧ (∀ p ∈ oth, (p.1 : Nat) ≠ R')) → Q (.ref R') { s with heap := h', toks := tk' }) :
    wpAny (model pg w) (ktrTop dp un gd cn cs L a ccd cl []) (call (.ref 194) [.ref I, .ref xw]) Q E s := by
  refine c_words B F X N TT ktsDicts_nil hk d0 hO hd hu hW hz0 hz1 hz2 hz3 TA.1 TA.2.1 TA.2.2.1 TA.2.2.2 GS ?_
  intro h₀' k6' S' c' l' lb' br' ke' p1' t0' t1' t2' t3' t4' t5' t6' R' oR h' tk' T' B' D' F' N' ne R9
  obtain ⟨r0, r1, r2, r3, e0, e1, e2, e3, a0, a1, a2, a3, e⟩ := R9
  have g0 := got e0 q0
  have g1 := got e1 q1
  have g2 := got e2 q2
  have g3 := got e3 q3
  subst g0; subst g1; subst g2; subst g3; subst e
  exact ret _ _ _ _ _ _ _ _ _ _ _ _ _ _ _ _ _ _ _ _ _ _ (back_F T' F') (back_N T' N') ne
theorem c_wordL {w : World} {lo : List Str} {mean : ExcName → Option Value} {mg mb : Str → Option Value} {dp un : Nat} {gd : Option (List Code)} {cn : Str} {cs : Scope} {a : Addr} {ccd : Value} {cl : List (Str × Addr)} {A₀ : Around} {h₀ : Heap} {L : Addr} {m : Str → Option Value} {s : Shared} {Q E : Value → Shared → Prop} {D I : Addr} {oth : List (Addr × Obj)} {k0 k1 k2 k3 k4 k5 k6 t0 t1 t2 t3 t4 t5 t6 : Tok} {S : Str} {c l lb br ke p1 : Int} {z y : Str} {tz : Tok}
    (B : Below A₀ h₀ [] h₀) (F : Fr h₀ L s.heap m) (X : (kL w.params).In h₀) (N : News h₀ L s.heap ((D, dictOf [⟨PyData.keyHash w.params (Str.ofString "current"), .str (Str.ofString "current") k0, .str S t0⟩, ⟨PyData.keyHash w.params (Str.ofString "cursor"), .str (Str.ofString "cursor") k1, .int c t1⟩, ⟨PyData.keyHash w.params (Str.ofString "limit"), .str (Str.ofString "limit") k2, .int l t2⟩, ⟨PyData.keyHash w.params (Str.ofString "limit_backward"), .str (Str.ofString "limit_backward") k3, .int lb t3⟩, ⟨PyData.keyHash w.params (Str.ofString "bra"), .str (Str.ofString "bra") k4, .int br t4⟩, ⟨PyData.keyHash w.params (Str.ofString "ket"), .str (Str.ofString "ket") k5, .int ke t5⟩, ⟨PyData.keyHash w.params (Str.ofString "I_p1"), .str (Str.ofString "I_p1") k6, .int p1 t6⟩] 7) :: (I, instObj 1085 D) :: oth)) (TT : Top qv lo mean mg mb h₀) (hk : cs.kind = .function) (d0 : NeN D I) (hO : OwnOff oth [D, I]) (hd : dp + 44 < recursionLimit) (hu : un + 600 < cLine) (hz : z.length ≤ 800) (TA : Tabs4 w h₀) (GS : GV w h₀) (q : StemOf z y)
    (ret : ∀ (k6' : Tok) (S' : Str) (c' l' lb' br' ke' p1' : Int) (t0' t1' t2' t3' t4' t5' t6' : Tok) (tk : Tok) (h' : Heap) (tk' : Nat), Fr h₀ L h' m → News h₀ L h' ((D, dictOf [⟨PyData.keyHash w.params (Str.ofString "current"), .str (Str.ofString "current") k0, .str S' t0'⟩, ⟨PyData.keyHash w.params (Str.ofString "cursor"), .str (Str.ofString "cursor") k1, .int c' t1'⟩, ⟨PyData.keyHash w.params (Str.ofString "limit"), .str (Str.ofString "limit") k2, .int l' t2'⟩, ⟨PyData.keyHash w.params (Str.ofString "limit_backward"), .str (Str.ofString "limit_backward") k3, .int lb' t3'⟩, ⟨PyData.keyHash w.params (Str.ofString "bra"), .str (Str.ofString "bra") k4, .int br' t4'⟩, ⟨PyData.keyHash w.params (Str.ofString "ket"), .str (Str.ofString "ket") k5, .int ke' t5'⟩, ⟨PyData.keyHash w.params (Str.ofString "I_p1"), .str (Str.ofString "I_p1") k6', .int p1' t6'⟩] 7) :: (I, instObj 1085 D) :: oth) → Q (.str y tk) { s with heap := h', toks := tk' }) :
    wpAny (model pg w) (ktrTop dp un gd cn cs L a ccd cl []) (call (.ref 189) [.ref I, .str z tz]) Q E s := by
  refine c_word7 B F X N TT ktsDicts_nil hk d0 hO hd hu hz TA.1 TA.2.1 TA.2.2.1 TA.2.2.2 GS ?_
  intro h₀' k6' S' c' l' lb' br' ke' p1' t0' t1' t2' t3' t4' t5' t6' v h' tk' T' B' D' F' N' R9
  obtain ⟨p, hp, ⟨tk, hv⟩, e⟩ := R9
  have g := got ⟨p, hp, e⟩ q
  subst g; subst hv
  exact ret _ _ _ _ _ _ _ _ _ _ _ _ _ _ _ _ _ _ (back_F T' F') (back_N T' N')
end Lith
end
section
open PySem PySem.W PyProof.Rows PySem.Calls
set_option Elab.async false
set_option maxRecDepth 100000
namespace Lith
noncomputable def K0 : Keys := [([97], -1), ([97, 105], -1), ([97, 110, 115, 111], -1), ([97, 110, 115, 111, 105], -1), ([97, 110, 115, 111, 117], -1), ([97, 110, 115, 111, 117, 105], -1), ([97, 110, 115, 121], -1), ([97, 110, 115, 279], -1), ([101], -1), ([101, 105], -1), ([101, 105, 110, 101], -1), ([101, 106, 111], -1), ([101, 106, 111, 105], -1), ([101, 106, 117], -1), ([101, 106, 117, 105], -1), ([101, 106, 121], -1), ([101, 106, 121, 110, 101], -1), ([101, 106, 279], -1), ([101, 109, 97], -1), ([101, 109, 97, 105], -1), ([101, 109, 105, 115], -1), ([101, 109, 111], -1), ([101, 109, 279], -1), ([101, 109, 279, 109, 117, 116], -1), ([101, 115, 111], -1), ([101, 115, 111, 105], -1), ([101, 115, 111, 117], -1), ([101, 115, 111, 117, 105], -1), ([101, 115, 121], -1), ([101, 115, 121, 110, 101], -1), ([101, 115, 279], -1), ([101, 116, 97], -1), ([101, 116, 97, 105], -1), ([101, 116, 105], -1), ([101, 116, 105, 107], -1), ([101, 116, 105, 115], -1), ([101, 116, 111], -1), ([101, 116, 117, 116], -1), ([101, 116, 279], -1), ([101, 116, 279, 109, 117, 116], -1), ([105], -1), ([105, 97], -1), ([105, 97, 105], -1), ([105, 101], -1), ([105, 101, 109, 117, 116], -1), ([105, 107], -1), ([105, 109, 105], -1), ([105, 109, 117], -1), ([105, 109, 117, 105], -1), ([105, 115], -1), ([105, 115, 97], -1), ([105, 115, 97, 105], -1), ([105, 115, 101], -1), ([105, 115, 101, 105], -1), ([105, 115, 101, 105, 115], -1), ([105, 115, 105], -1), ([105, 115, 105, 97], -1), ([105, 115, 105, 101], -1), ([105, 115, 105, 101, 109, 117, 116], -1), ([105, 115, 105, 117], -1), ([105, 115, 111], -1), ([105, 115, 111, 106, 279], -1), ([105, 115, 111, 117], -1), ([105, 115, 111, 117, 105], -1), ([105, 115, 111, 117, 105, 115], -1), ([105, 115, 117], -1), ([105, 115, 117, 97], -1), ([105, 115, 117, 97, 105, 269], -1), ([105, 115, 261], -1), ([105, 115, 279], -1), ([105, 115, 371], -1), ([105, 115, 371, 116], -1), ([105, 116], -1), ([105, 116, 110, 101], -1), ([105, 116, 110, 105], -1), ([105, 116, 111], -1), ([105, 116, 111, 105], -1), ([105, 116, 111, 117], -1), ([105, 116, 111, 117, 105], -1), ([105, 116, 117, 97], -1), ([105, 116, 117, 97, 105], -1), ([105, 116, 121], -1), ([105, 116, 279], -1), ([105, 116, 279, 108, 101, 116], -1), ([105, 116, 279, 110, 105], -1), ([105, 116, 279, 114, 101, 116], -1), ([105, 117], -1), ([105, 117, 105], -1), ([105, 117, 105, 110, 101], -1), ([106, 111], -1), ([106, 279], -1), ([107], -1), ([109, 97], -1), ([109, 97, 105], -1), ([109, 101, 105], -1), ([109, 105], -1), ([109, 105, 115], -1), ([109, 111], -1), ([109, 117, 116], -1), ([109, 279], -1), ([109, 279, 109, 117, 116], -1), ([110, 97], -1), ([110, 111], -1), ([110, 111, 105], -1), ([110, 117], -1), ([110, 117, 105], -1), ([110, 279], -1), ([111], -1), ([111, 105], -1), ([111, 105, 110, 101], -1), ([111, 106, 279], -1), ([111, 117], -1), ([115], -1), ([115, 97], -1), ([115, 97, 105], -1), ([115, 101], -1), ([115, 101, 105], -1), ([115, 105], -1), ([115, 105, 97], -1), ([115, 105, 97, 105], -1), ([115, 105, 101, 109, 117, 116], -1), ([115, 105, 109, 105], -1), ([115, 105, 109, 105, 110, 101], -1), ([115, 105, 109, 111], -1), ([115, 105, 109, 111, 105], -1), ([115, 105, 109, 117], -1), ([115, 105, 109, 279], -1), ([115, 105, 110, 101], -1), ([115, 105, 115, 97], -1), ([115, 105, 115, 121], -1), ([115, 109, 97], -1), ([115, 109, 97, 105], -1), ([115, 109, 101, 105], -1), ([115, 109, 105], -1), ([115, 109, 105, 110, 101], -1), ([115, 109, 111], -1), ([115, 109, 111, 105], -1), ([115, 109, 117], -1), ([115, 109, 279], -1), ([115, 110, 101], -1), ([115, 111], -1), ([115, 111, 105], -1), ([115, 111, 117], -1), ([115, 111, 117, 105], -1), ([115, 117], -1), ([115, 117, 97], -1), ([115, 117, 97, 105], -1), ([115, 117, 105], -1), ([115, 121], -1), ([115, 121, 110, 101], -1), ([115, 261], -1), ([115, 261, 105], -1), ([115, 279], -1), ([115, 279, 109, 97], -1), ([115, 279, 109, 97, 105], -1), ([115, 279, 109, 105], -1), ([115, 279, 109, 105, 107], -1), ([115, 279, 109, 105, 115], -1), ([115, 279, 109, 111], -1), ([115, 279, 109, 279], -1), ([115, 279, 109, 279, 109, 117, 116], -1), ([115, 279, 116, 97], -1), ([115, 279, 116, 97, 105], -1), ([115, 279, 116, 105, 115], -1), ([115, 279, 116, 111], -1), ([115, 279, 116, 279], -1), ([115, 279, 116, 279, 109, 117, 116], -1), ([115, 303], -1), ([115, 363], -1), ([115, 371, 116], -1), ([116, 97], -1), ([116, 97, 105], -1), ([116, 105], -1), ([116, 105, 115], -1), ([116, 111], -1), ([116, 279], -1), ([116, 279, 109, 117, 116], -1), ([117], -1), ([117, 97], -1), ([117, 97, 105], -1), ([117, 97, 105, 269], -1), ([117, 105], -1), ([117, 105, 110, 101], -1), ([117, 105, 115], -1), ([121], -1), ([261], -1), ([261, 105], -1), ([279], -1), ([281], -1), ([303], -1), ([303, 110, 101], -1), ([371], -1), ([371, 105], -1)]
noncomputable def K1 : Keys := [([103, 110, 105], -1), ([106, 97], -1), ([106, 97, 105], -1), ([106, 101, 105], -1), ([106, 111], -1), ([106, 111, 105], -1), ([106, 111, 117], -1), ([106, 111, 117, 105], -1), ([106, 117, 97], -1), ([106, 261], -1), ([106, 261, 105], -1), ([106, 279], -1), ([106, 371], -1), ([106, 371, 105], -1), ([107, 111], -1), ([107, 111, 105], -1), ([107, 117, 105], -1), ([107, 117, 105, 108, 117], -1), ([107, 117, 105, 269, 117], -1), ([107, 353, 105], -1), ([108, 117, 105], -1), ([108, 121], -1), ([108, 279], -1), ([109, 97], -1), ([109, 97, 100], -1), ([109, 97, 106], -1), ([110, 97, 103, 122], -1), ([110, 105, 97], -1), ([110, 115, 101], -1), ([112, 111], -1), ([112, 111, 105], -1), ([115, 97, 105], -1), ([115, 101, 105], -1), ([115, 105, 97], -1), ([115, 105, 97, 105], -1), ([115, 111], -1), ([115, 111, 105], -1), ([115, 111, 117], -1), ([115, 111, 117, 105], -1), ([115, 117, 97], -1), ([115, 117, 97, 105], -1), ([115, 261], -1), ([115, 261, 105], -1), ([115, 281], -1), ([116, 105, 97, 279, 116, 117], -1), ([116, 110, 97], -1), ([116, 110, 97, 105], -1), ([116, 110, 97, 105, 115], -1), ([116, 110, 105], -1), ([116, 111], -1), ([116, 111, 117], -1), ([116, 111, 117, 105], -1), ([116, 121], -1), ([116, 279], -1), ([116, 353, 107, 121], -1), ([117, 97, 105], -1), ([118, 97, 100], -1), ([118, 115], -1), ([118, 353], -1), ([269, 353, 107, 121], -1), ([281], -1), ([281, 106, 279], -1)]
noncomputable def K2 : Keys := [([101, 109, 105, 106, 111], 7), ([101, 109, 105, 106, 279], 3), ([101, 109, 105, 118, 97], 6), ([101, 116, 97, 107, 111], 8), ([101, 116, 105, 97], 1), ([101, 116, 111, 117], 2), ([115, 117, 105, 115, 97], 5), ([115, 279, 116, 97, 107, 111], 8), ([115, 279, 116, 105, 97], 1), ([115, 279, 116, 111, 117], 2), ([117, 105, 115, 101], 4)]
noncomputable def K3 : Keys := [([269], 1), ([382, 100], 2)]
noncomputable def LE : List (List Nat) := [[97], [97, 105], [97, 110, 115, 111], [97, 110, 115, 111, 105], [97, 110, 115, 111, 117], [97, 110, 115, 111, 117, 105], [97, 110, 115, 121], [97, 110, 115, 279], [101], [101, 105], [101, 105, 110, 101], [101, 106, 111], [101, 106, 111, 105], [101, 106, 117], [101, 106, 117, 105], [101, 106, 121], [101, 106, 121, 110, 101], [101, 106, 279], [101, 109, 97], [101, 109, 97, 105], [101, 109, 105, 115], [101, 109, 111], [101, 109, 279], [101, 109, 279, 109, 117, 116], [101, 115, 111], [101, 115, 111, 105], [101, 115, 111, 117], [101, 115, 111, 117, 105], [101, 115, 121], [101, 115, 121, 110, 101], [101, 115, 279], [101, 116, 97], [101, 116, 97, 105], [101, 116, 105], [101, 116, 105, 107], [101, 116, 105, 115], [101, 116, 111], [101, 116, 117, 116], [101, 116, 279], [101, 116, 279, 109, 117, 116], [105], [105, 97], [105, 97, 105], [105, 101], [105, 101, 109, 117, 116], [105, 107], [105, 109, 105], [105, 109, 117], [105, 109, 117, 105], [105, 115], [105, 115, 97], [105, 115, 97, 105], [105, 115, 101], [105, 115, 101, 105], [105, 115, 101, 105, 115], [105, 115, 105], [105, 115, 105, 97], [105, 115, 105, 101], [105, 115, 105, 101, 109, 117, 116], [105, 115, 105, 117], [105, 115, 111], [105, 115, 111, 106, 279], [105, 115, 111, 117], [105, 115, 111, 117, 105], [105, 115, 111, 117, 105, 115], [105, 115, 117], [105, 115, 117, 97], [105, 115, 117, 97, 105, 269], [105, 115, 261], [105, 115, 279], [105, 115, 371], [105, 115, 371, 116], [105, 116], [105, 116, 110, 101], [105, 116, 110, 105], [105, 116, 111], [105, 116, 111, 105], [105, 116, 111, 117], [105, 116, 111, 117, 105], [105, 116, 117, 97], [105, 116, 117, 97, 105], [105, 116, 121], [105, 116, 279], [105, 116, 279, 108, 101, 116], [105, 116, 279, 110, 105], [105, 116, 279, 114, 101, 116], [105, 117], [105, 117, 105], [105, 117, 105, 110, 101], [106, 111], [106, 279], [107], [109, 97], [109, 97, 105], [109, 101, 105], [109, 105], [109, 105, 115], [109, 111], [109, 117, 116], [109, 279], [109, 279, 109, 117, 116], [110, 97], [110, 111], [110, 111, 105], [110, 117], [110, 117, 105], [110, 279], [111], [111, 105], [111, 105, 110, 101], [111, 106, 279], [111, 117], [115], [115, 97], [115, 97, 105], [115, 101], [115, 101, 105], [115, 105], [115, 105, 97], [115, 105, 97, 105], [115, 105, 101, 109, 117, 116], [115, 105, 109, 105], [115, 105, 109, 105, 110, 101], [115, 105, 109, 111], [115, 105, 109, 111, 105], [115, 105, 109, 117], [115, 105, 109, 279], [115, 105, 110, 101], [115, 105, 115, 97], [115, 105, 115, 121], [115, 109, 97], [115, 109, 97, 105], [115, 109, 101, 105], [115, 109, 105], [115, 109, 105, 110, 101], [115, 109, 111], [115, 109, 111, 105], [115, 109, 117], [115, 109, 279], [115, 110, 101], [115, 111], [115, 111, 105], [115, 111, 117], [115, 111, 117, 105], [115, 117], [115, 117, 97], [115, 117, 97, 105], [115, 117, 105], [115, 121], [115, 121, 110, 101], [115, 261], [115, 261, 105], [115, 279], [115, 279, 109, 97], [115, 279, 109, 97, 105], [115, 279, 109, 105], [115, 279, 109, 105, 107], [115, 279, 109, 105, 115], [115, 279, 109, 111], [115, 279, 109, 279], [115, 279, 109, 279, 109, 117, 116], [115, 279, 116, 97], [115, 279, 116, 97, 105], [115, 279, 116, 105, 115], [115, 279, 116, 111], [115, 279, 116, 279], [115, 279, 116, 279, 109, 117, 116], [115, 303], [115, 363], [115, 371, 116], [116, 97], [116, 97, 105], [116, 105], [116, 105, 115], [116, 111], [116, 279], [116, 279, 109, 117, 116], [117], [117, 97], [117, 97, 105], [117, 97, 105, 269], [117, 105], [117, 105, 110, 101], [117, 105, 115], [121], [261], [261, 105], [279], [281], [303], [303, 110, 101], [371], [371, 105]]
noncomputable def LJ : List (List Nat) := [[101], [105, 115, 111], [111], [101, 116, 97], [101, 116, 105], [105], [115, 279, 109, 105], [115, 279, 116, 97], [115], [115, 279], [105, 116], [105, 116, 279], [105, 115, 371]]
noncomputable def LI : List (List Nat) := [[103, 110, 105], [106, 97], [106, 97, 105], [106, 101, 105], [106, 111], [106, 111, 105], [106, 111, 117], [106, 111, 117, 105], [106, 117, 97], [106, 261], [106, 261, 105], [106, 279], [106, 371], [106, 371, 105], [107, 111], [107, 111, 105], [107, 117, 105], [107, 117, 105, 108, 117], [107, 117, 105, 269, 117], [107, 353, 105], [108, 121], [108, 279], [109, 97, 106], [109, 97, 100], [110, 97, 103, 122], [110, 105, 97], [110, 115, 101], [112, 111], [112, 111, 105], [116, 105, 97, 279, 116, 117], [116, 110, 97], [116, 110, 97, 105], [116, 110, 97, 105, 115], [116, 110, 105], [116, 111], [116, 111, 117], [116, 111, 117, 105], [116, 121], [116, 279], [116, 353, 107, 121], [118, 97, 100], [118, 115], [118, 353]]
noncomputable def LW : List (List Nat) := [[279, 116], [115, 279, 116], [105, 101, 116], [281, 116], [101, 116], [101, 106, 279, 116], [371, 105, 269], [115, 109, 279, 116], [115, 101, 116], [115, 105, 109, 279, 116], [101, 115, 279, 116]]
noncomputable def LD : List (List Nat) := [[115, 97, 109, 105], [111, 109, 105], [105, 117, 109, 105], [261, 109, 105], [117, 109, 105], [101, 109, 105], [105, 97, 109, 105], [371, 109, 105], [115, 109, 97, 109, 105], [115, 117, 109, 105], [115, 105, 97, 109, 105], [101, 115, 111, 117, 109, 105]]
noncomputable def LSh : List (List Nat) := [[97], [111], [117], [121], [261], [279], [281], [303], [371], [105, 97], [105, 117], [97, 105], [111, 117], [261, 105], [371, 105], [105, 97, 105], [117, 97, 105], [115, 97], [115, 105], [115, 117], [115, 121], [115, 111], [115, 279], [115, 105, 97], [115, 117, 97], [115, 111, 117], [115, 111, 105], [115, 105, 97, 105], [115, 117, 97, 105], [115, 111, 117, 105], [109, 97], [109, 105], [109, 111], [106, 111], [106, 279], [116, 111], [116, 97], [110, 97], [110, 111], [110, 111, 105]]

noncomputable def LVow : List Nat := [97, 101, 105, 111, 117, 121, 261, 279, 281, 303, 363, 371]
noncomputable def LClo : List Nat := [98, 99, 100, 102, 104, 122, 382, 353]
theorem K0_eq : keysOf tab0 = K0 := by decide +kernel
theorem K1_eq : keysOf tab1 = K1 := by decide +kernel
theorem K2_eq : keysOf tab2 = K2 := by decide +kernel
theorem K3_eq : keysOf tab3 = K3 := by decide +kernel
/-- what of k stands behind e -/
noncomputable def strip : List Nat → List Nat → Option (List Nat)
  | [], k => some k
  | _ :: _, [] => none
  | x :: e, y :: k => if Nat.beq x y then strip e k else none
theorem strip_app : ∀ (e r : List Nat), strip e (e ++ r) = some r
  | [], _ => rfl
  | x :: e, r => by
    show (if Nat.beq x x then strip e (e ++ r) else none) = _
    rw [Nat.beq_refl]; exact strip_app e r
noncomputable def sealedBy (blk : List Nat → Bool) (ks : Keys) (e : List Nat) : Bool := ks.all fun k => match strip e k.1 with
  | none => true
  | some [] => true
  | some (x :: r) => blk (x :: r)
/-- nothing that blk tells begins Y -/
noncomputable def Blk (blk : List Nat → Bool) (Y : List Nat) : Prop := ∀ r, blk r = true → ¬ r <+: Y
theorem Blk.take {blk : List Nat → Bool} {Y : List Nat} (h : Blk blk Y) (n : Nat) : Blk blk (Y.take n) := fun r hr p => h r hr (p.trans (List.take_prefix n Y))
theorem pre_seal {blk : List Nat → Bool} {Y e k : List Nat} (hb : Blk blk Y) (h : (match strip e k with | none => true | some [] => true | some (x :: r) => blk (x :: r)) = true) : k <+: e ++ Y ↔ k <+: e := by
  constructor
  · intro p
    rcases List.prefix_or_prefix_of_prefix p (List.prefix_append e Y) with q | q
    · exact q
    · obtain ⟨r, rfl⟩ := q
      rw [strip_app] at h
      cases r with
      | nil => rw [List.append_nil]; exact List.prefix_refl e
      | cons x r => exact absurd ((List.prefix_append_right_inj e).mp p) (hb _ h)
  · intro p
    exact p.trans (List.prefix_append e Y)
theorem fold_seal {blk : List Nat → Bool} {Y e : List Nat} (hb : Blk blk Y) : ∀ (ks : Keys) (b : Nat × Int), sealedBy blk ks e = true → ks.foldl (bestF (e ++ Y)) b = ks.foldl (bestF e) b
  | [], _, _ => rfl
  | k :: ks, b, h => by
    unfold sealedBy at h
    rw [List.all_cons, Bool.and_eq_true] at h
    have e1 : bestF (e ++ Y) b k = bestF e b k := by
      unfold bestF
      have := pre_seal hb h.1
      rw [← isPre, ← isPre] at this
      rw [Bool.eq_iff_iff.mpr this]
    rw [List.foldl_cons, List.foldl_cons, e1]
    exact fold_seal hb ks _ h.2
theorem best_seal {blk : List Nat → Bool} {Y e : List Nat} {ks : Keys} (hb : Blk blk Y) (h : sealedBy blk ks e = true) : bestK ks (e ++ Y) = bestK ks e := fold_seal hb ks _ h
theorem rep_seal {blk : List Nat → Bool} {Y e : List Nat} {ks : Keys} {as : List (List Nat)} (hb : Blk blk Y) (h : sealedBy blk ks e = true) : rep ks as (e ++ Y) = rep ks as e ++ Y := by
  unfold rep
  rw [best_seal hb h]
  split
  · rfl
  · rw [List.drop_append_of_le_length (best_le ks e), List.append_assoc]
/-- a table's ending falls -/
noncomputable def cutE (ks : Keys) (e : List Nat) : List Nat := if (bestK ks e).2 = 0 then e else e.drop (bestK ks e).1
theorem take_region {e Y : List Nat} {p : Nat} (hp : p ≤ Y.length) : (e ++ Y).take ((e ++ Y).length - p) = e ++ Y.take (Y.length - p) := by
  rw [List.length_append, List.take_append]
  rw [List.take_of_length_le (by omega)]
  congr 2
  omega
theorem cut_seal {blk : List Nat → Bool} {Y e : List Nat} {ks : Keys} {p : Nat} (hb : Blk blk Y) (hp : p ≤ Y.length) (h : sealedBy blk ks e = true) : cutK ks p (e ++ Y) = cutE ks e ++ Y := by
  unfold cutK cutE
  rw [if_neg (by rw [List.length_append]; omega), take_region hp, best_seal (hb.take _) h]
  split
  · rfl
  · rw [List.drop_append_of_le_length (best_le ks e)]
inductive R3
  | no
  | pre
  | bad
/-- a key beside e: it begins e, or e begins it and what is left is told by blk, or neither -/
noncomputable def cmpQ (blk : List Nat → Bool) (e : List Nat) : List Nat → R3 :=
  List.rec (motive := fun _ => List Nat → R3) (fun k => List.rec (motive := fun _ => R3) R3.pre (fun x r _ => Bool.rec (motive := fun _ => R3) R3.bad R3.no (blk (x :: r))) k)
    (fun x _ ih k => List.rec (motive := fun _ => R3) R3.pre (fun y k' _ => Bool.rec (motive := fun _ => R3) R3.no (ih k') (Nat.beq x y)) k) e
noncomputable def scan (blk : List Nat → Bool) (e : List Nat) (ks : Keys) : Nat → Int → Option (Nat × Int) :=
  List.rec (motive := fun _ => Nat → Int → Option (Nat × Int)) (fun n r => some (n, r))
    (fun k _ ih n r => R3.rec (motive := fun _ => Option (Nat × Int)) (ih n r) (Bool.rec (motive := fun _ => Option (Nat × Int)) (ih n r) (ih k.1.length k.2) (Nat.blt n k.1.length)) none (cmpQ blk e k.1)) ks
theorem cmp_ok (blk : List Nat → Bool) : ∀ (e k : List Nat), (cmpQ blk e k = .pre ∧ k <+: e ∧ (strip e k = none ∨ strip e k = some [])) ∨ (cmpQ blk e k = .no ∧ ¬ k <+: e ∧ (strip e k = none ∨ ∃ x r, strip e k = some (x :: r) ∧ blk (x :: r) = true)) ∨ cmpQ blk e k = .bad
  | [], [] => .inl ⟨rfl, List.nil_prefix, .inr rfl⟩
  | [], x :: r => by
    cases h : blk (x :: r) with
    | false =>
      refine .inr (.inr ?_)
      show (Bool.rec R3.bad R3.no (blk (x :: r)) : R3) = _
      rw [h]
    | true =>
      refine .inr (.inl ⟨?_, fun p => by simp at p, .inr ⟨x, r, rfl, h⟩⟩)
      show (Bool.rec R3.bad R3.no (blk (x :: r)) : R3) = _
      rw [h]
  | x :: e, [] => .inl ⟨rfl, List.nil_prefix, .inl rfl⟩
  | x :: e, y :: k => by
    have e1 : cmpQ blk (x :: e) (y :: k) = (Bool.rec R3.no (cmpQ blk e k) (Nat.beq x y) : R3) := rfl
    have e2 : strip (x :: e) (y :: k) = if Nat.beq x y then strip e k else none := rfl
    rw [e1, e2]
    cases h : Nat.beq x y with
    | false =>
      refine .inr (.inl ⟨rfl, fun p => ?_, .inl rfl⟩)
      have := (List.cons_prefix_cons.mp p).1
      rw [this, Nat.beq_refl] at h; exact nomatch h
    | true =>
      have := Nat.eq_of_beq_eq_true h
      subst this
      rw [List.cons_prefix_cons]
      rcases cmp_ok blk e k with ⟨a, b, c⟩ | ⟨a, b, c⟩ | a
      · exact .inl ⟨a, ⟨rfl, b⟩, by rw [if_pos rfl]; exact c⟩
      · exact .inr (.inl ⟨a, fun p => b p.2, by rw [if_pos rfl]; exact c⟩)
      · exact .inr (.inr a)
theorem scan_ok {blk : List Nat → Bool} {e : List Nat} {b' : Nat × Int} : ∀ {ks : Keys} {n : Nat} {r : Int}, scan blk e ks n r = some b' → sealedBy blk ks e = true ∧ ks.foldl (bestF e) (n, r) = b'
  | [], n, r, h => ⟨rfl, by injection h⟩
  | k :: ks, n, r, h => by
    have e1 : scan blk e (k :: ks) n r = (R3.rec (scan blk e ks n r) (Bool.rec (scan blk e ks n r) (scan blk e ks k.1.length k.2) (Nat.blt n k.1.length)) none (cmpQ blk e k.1) : Option (Nat × Int)) := rfl
    rw [e1] at h
    unfold sealedBy
    rw [List.all_cons, List.foldl_cons]
    rcases cmp_ok blk e k.1 with ⟨a, b, c⟩ | ⟨a, b, c⟩ | a
    · rw [a] at h
      have hs : (match strip e k.1 with | none => true | some [] => true | some (x :: r) => blk (x :: r)) = true := by
        rcases c with c | c <;> rw [c]
      rw [hs, Bool.true_and]
      have hp := isPre.mpr b
      cases hn : Nat.blt n k.1.length with
      | false =>
        rw [hn] at h
        have e2 : bestF e (n, r) k = (n, r) := by
          unfold bestF
          rw [hp, hn]; rfl
        rw [e2]
        exact scan_ok h
      | true =>
        rw [hn] at h
        have e2 : bestF e (n, r) k = (k.1.length, k.2) := by
          unfold bestF
          rw [hp, hn]; rfl
        rw [e2]
        exact scan_ok h
    · rw [a] at h
      have hs : (match strip e k.1 with | none => true | some [] => true | some (x :: r) => blk (x :: r)) = true := by
        rcases c with c | ⟨x, r, c, d⟩
        · rw [c]
        · rw [c]; exact d
      rw [hs, Bool.true_and]
      have e2 : bestF e (n, r) k = (n, r) := by
        unfold bestF
        rw [if_neg]
        rw [Bool.and_eq_true, isPre]
        exact fun q => b q.1
      rw [e2]
      exact scan_ok h
    · rw [a] at h
      exact nomatch h
theorem scan_two {blk : List Nat → Bool} {e : List Nat} {n : Nat} {r : Int} {ks : Keys} (h : scan blk e ks 0 0 = some (n, r)) : sealedBy blk ks e = true ∧ bestK ks e = (n, r) := scan_ok h
noncomputable def runSt2 (blk : List Nat → Bool) (ks : Keys) : Nat → List Nat → Option (List Nat)
  | 0, _ => none
  | m + 1, e => match scan blk e ks 0 0 with
    | none => none
    | some (n, r) => if r = 0 then some e else if n = 0 then some e else runSt2 blk ks m (e.drop n)
theorem st2_seal {blk : List Nat → Bool} {Y : List Nat} {ks : Keys} {p : Nat} (hb : Blk blk Y) (hp : p ≤ Y.length) : ∀ {n : Nat} {e f : List Nat}, runSt2 blk ks n e = some f → st2 ks p (e ++ Y) = f ++ Y
  | 0, e, f, h => nomatch h
  | m + 1, e, f, h => by
    unfold runSt2 at h
    split at h
    · exact nomatch h
    · rename_i n r hs
      have hs := scan_two hs
      rw [st2_eq, if_neg (by rw [List.length_append]; omega), take_region hp, best_seal (hb.take _) hs.1, hs.2]
      dsimp only
      have hl := best_le ks e
      rw [hs.2] at hl
      by_cases h1 : r = 0
      · rw [if_pos h1] at h ⊢
        injection h with h; rw [h]
      · rw [if_neg h1] at h ⊢
        by_cases h2 : n = 0
        · rw [if_pos h2] at h
          rw [if_pos h2]
          injection h with h; rw [h]
        · rw [if_neg h2] at h
          rw [if_neg h2, List.drop_append_of_le_length hl]
          exact st2_seal hb hp h
noncomputable def repQ (blk : List Nat → Bool) (ks : Keys) (as : List (List Nat)) (e : List Nat) : Option (List Nat) := match scan blk e ks 0 0 with
  | none => none
  | some (n, r) => some (if r = 0 then e else as.getD (r - 1).toNat [] ++ e.drop n)
theorem repQ_ok {blk : List Nat → Bool} {ks : Keys} {as : List (List Nat)} {e f Y : List Nat} (hb : Blk blk Y) (h : repQ blk ks as e = some f) : rep ks as (e ++ Y) = f ++ Y := by
  unfold repQ at h
  split at h
  · exact nomatch h
  · rename_i n r hs
    have hs := scan_two hs
    injection h with h
    rw [rep_seal hb hs.1, ← h]
    unfold rep
    rw [hs.2]
noncomputable def cutQ (blk : List Nat → Bool) (ks : Keys) (e : List Nat) : Option (List Nat) := match scan blk e ks 0 0 with
  | none => none
  | some (n, r) => some (if r = 0 then e else e.drop n)
theorem cutQ_ok {blk : List Nat → Bool} {ks : Keys} {e f Y : List Nat} {p : Nat} (hb : Blk blk Y) (hp : p ≤ Y.length) (h : cutQ blk ks e = some f) : cutK ks p (e ++ Y) = f ++ Y := by
  unfold cutQ at h
  split at h
  · exact nomatch h
  · rename_i n r hs
    have hs := scan_two hs
    injection h with h
    rw [cut_seal hb hp hs.1, ← h]
    unfold cutE
    rw [hs.2]
/-- a last apostrophe, a last gd: told by the text's end alone -/
noncomputable def headOk : List Nat → Bool
  | [] => true
  | x :: _ => !(Nat.beq x 100)
noncomputable def runT (blk : List Nat → Bool) (e : List Nat) : Option (List Nat) :=
  match repQ blk K3 as3 e with
  | none => none
  | some e3 => match runSt2 blk K1 9 e3 with
    | none => none
    | some e4 => match repQ blk K3 as3 e4 with
      | none => none
      | some e5 => if headOk e5 then some (aposF e5) else none
noncomputable def runE (blk : List Nat → Bool) (e : List Nat) : Option (List Nat) :=
  match repQ blk K2 as2 e with
  | none => none
  | some e1 => match cutQ blk K0 e1 with
    | none => none
    | some e2 => runT blk e2
noncomputable def tailF (p : Nat) (X : List Nat) : List Nat := aposF (gdF (rep K3 as3 (st2 K1 p (rep K3 as3 X))))
theorem stemR_eq (p : Nat) (R : List Nat) : stemR p R = tailF p (cutK K0 p (rep K2 as2 R)) := by
  unfold stemR tailF
  rw [K0_eq, K1_eq, K2_eq, K3_eq]
/-- the text ahead: no apostrophe, no gd -/
noncomputable def Ground (Y : List Nat) : Prop := gdF Y = Y ∧ aposF Y = Y
theorem gd_head {e Y : List Nat} (g : Ground Y) (h : headOk e = true) : gdF (e ++ Y) = e ++ Y := by
  cases e with
  | nil => exact g.1
  | cons x e =>
    have hx : ¬ 100 = x := fun q => by subst q; exact nomatch h
    show gdF (x :: (e ++ Y)) = _
    unfold gdF
    rw [if_neg (fun q => ?_)]; rfl
    rw [isPre] at q
    exact hx (List.cons_prefix_cons.mp q).1
theorem apos_ne {x : Nat} {l : List Nat} (h : x ≠ 39) : aposF (x :: l) = x :: l := by
  unfold aposF
  split
  · rename_i q; injection q with q _; exact absurd q h
  · rfl
theorem apos_head {e Y : List Nat} (g : Ground Y) : aposF (e ++ Y) = aposF e ++ Y := by
  cases e with
  | nil => exact g.2
  | cons x e =>
    show aposF (x :: (e ++ Y)) = _
    by_cases h : x = 39
    · subst h; rfl
    · rw [apos_ne h, apos_ne h]; rfl
theorem runT_ok {blk : List Nat → Bool} {Y e f : List Nat} {p : Nat} (hb : Blk blk Y) (hp : p ≤ Y.length) (g : Ground Y) (h : runT blk e = some f) : tailF p (e ++ Y) = f ++ Y := by
  unfold runT at h
  split at h
  · exact nomatch h
  · rename_i e3 h3
    split at h
    · exact nomatch h
    · rename_i e4 h4
      split at h
      · exact nomatch h
      · rename_i e5 h5
        split at h
        · rename_i q
          injection h with h
          unfold tailF
          rw [repQ_ok hb h3, st2_seal hb hp h4, repQ_ok hb h5, gd_head g q, apos_head g, h]
        · exact nomatch h
theorem runE_ok {blk : List Nat → Bool} {Y e f : List Nat} {p : Nat} (hb : Blk blk Y) (hp : p ≤ Y.length) (g : Ground Y) (h : runE blk e = some f) : stemR p (e ++ Y) = f ++ Y := by
  rw [stemR_eq]
  unfold runE at h
  split at h
  · exact nomatch h
  · rename_i e1 h1
    split at h
    · exact nomatch h
    · rename_i e2 h2
      rw [repQ_ok hb h1, cutQ_ok hb hp h2]
      exact runT_ok hb hp g h
/-- ahead stands a close, ahead of that a vowel -/
noncomputable def blkR : List Nat → Bool
  | [] => false
  | [x] => !(LClo.elem x)
  | x :: y :: _ => !(LClo.elem x) || !(LVow.elem y)
theorem blk_root {c v : Nat} {r : List Nat} (hc : c ∈ LClo) (hv : v ∈ LVow) : Blk blkR (c :: v :: r) := by
  intro k hk p
  match k, hk, p with
  | [x], hk, p =>
    have := (List.cons_prefix_cons.mp p).1
    subst this
    have : LClo.elem x = true := List.elem_iff.mpr hc
    have hk : (!(LClo.elem x)) = true := hk
    rw [this] at hk; exact nomatch hk
  | x :: y :: _, hk, p =>
    have h1 := List.cons_prefix_cons.mp p
    have h2 := List.cons_prefix_cons.mp h1.2
    obtain ⟨rfl, h1⟩ := h1
    obtain ⟨rfl, h2⟩ := h2
    have e1 : LClo.elem x = true := List.elem_iff.mpr hc
    have e2 : LVow.elem y = true := List.elem_iff.mpr hv
    have hk : (!(LClo.elem x) || !(LVow.elem y)) = true := hk
    rw [e1, e2] at hk; exact nomatch hk
theorem ground_root {c v : Nat} {r : List Nat} (hc : c ∈ LClo) (hv : v ∈ LVow) : Ground (c :: v :: r) := by
  have h1 : LClo.all (fun x => !(Nat.beq x 39)) = true := by decide
  have h2 : LVow.all (fun x => !(Nat.beq x 103)) = true := by decide
  have c39 : c ≠ 39 := fun q => by
    have := List.all_eq_true.mp h1 c hc
    rw [q] at this; exact nomatch this
  have v103 : v ≠ 103 := fun q => by
    have := List.all_eq_true.mp h2 v hv
    rw [q] at this; exact nomatch this
  constructor
  · unfold gdF
    rw [if_neg]
    rw [isPre]
    intro q
    exact v103 (List.cons_prefix_cons.mp (List.cons_prefix_cons.mp q).2).1.symm
  · unfold aposF
    split
    · rename_i q; injection q with q _; exact absurd q c39
    · rfl
theorem run_root {c v : Nat} {r e f : List Nat} {p : Nat} (hc : c ∈ LClo) (hv : v ∈ LVow) (hp : p ≤ r.length + 2) (h : runE blkR e = some f) : stemR p (e ++ c :: v :: r) = f ++ c :: v :: r :=
  runE_ok (blk_root hc hv) hp (ground_root hc hv) h
-- the finite looks
noncomputable def isS (a : Option (List Nat)) (b : List Nat) : Bool := match a with
  | none => false
  | some x => x.beq b
theorem isS_iff {a : Option (List Nat)} {b : List Nat} (h : isS a b = true) : a = some b := by
  cases a with
  | none => exact nomatch h
  | some x => exact congrArg some (eq_of_beq (α := List Nat) h)
theorem look0 : LE.all (fun e => isS (runE blkR e) []) = true := by decide +kernel
theorem look6 : LE.all (fun e => isS (runE blkR (39 :: e)) e) = true := by decide +kernel
theorem all_mem {l : List (List Nat)} {f : List Nat → Bool} (h : l.all f = true) {e : List Nat} (m : e ∈ l) : f e = true := List.all_eq_true.mp h e m
theorem run_0 {c v : Nat} {r e : List Nat} {p : Nat} (hc : c ∈ LClo) (hv : v ∈ LVow) (hp : p ≤ r.length + 2) (he : e ∈ LE) : stemR p (e ++ c :: v :: r) = c :: v :: r :=
  run_root hc hv hp (isS_iff (all_mem look0 he))
theorem run_6 {c v : Nat} {r e : List Nat} {p : Nat} (hc : c ∈ LClo) (hv : v ∈ LVow) (hp : p ≤ r.length + 2) (he : e ∈ LE) : stemR p (39 :: (e ++ c :: v :: r)) = e ++ c :: v :: r :=
  run_root (e := 39 :: e) hc hv hp (isS_iff (all_mem look6 he))
-- d told as dž
noncomputable def blkZ : List Nat → Bool
  | [] => false
  | x :: _ => !(Nat.beq x 382)
theorem blk_z {Y : List Nat} : Blk blkZ (382 :: Y) := by
  intro k hk p
  match k, hk, p with
  | x :: _, hk, p =>
    have := (List.cons_prefix_cons.mp p).1
    subst this
    exact nomatch hk
noncomputable def run1 (e : List Nat) : Bool := isS (match repQ blkZ K2 as2 e with
  | none => none
  | some e1 => cutQ blkZ K0 e1) []
theorem look1 : LE.all run1 = true := by decide +kernel
theorem rep3_dz (Y : List Nat) : rep K3 as3 (382 :: 100 :: Y) = 100 :: Y := rfl
theorem runT_nil : runT blkR [] = some [] := by decide +kernel
theorem tail_root {c v : Nat} {r : List Nat} {p : Nat} (hc : c ∈ LClo) (hv : v ∈ LVow) (hp : p ≤ r.length + 2) : tailF p (c :: v :: r) = c :: v :: r :=
  runT_ok (e := []) (f := []) (blk_root hc hv) hp (ground_root hc hv) runT_nil
theorem rep3_root {c v : Nat} {r : List Nat} (hc : c ∈ LClo) (hv : v ∈ LVow) : rep K3 as3 (c :: v :: r) = c :: v :: r :=
  rep_seal (e := []) (ks := K3) (as := as3) (blk_root hc hv) (by decide +kernel)
theorem run_1 {v : Nat} {r e : List Nat} {p : Nat} (hv : v ∈ LVow) (hp : p ≤ r.length + 2) (he : e ∈ LE) : stemR p (e ++ 382 :: 100 :: v :: r) = 100 :: v :: r := by
  have h := isS_iff (all_mem look1 he)
  have hd : (100 : Nat) ∈ LClo := by decide
  split at h
  · exact nomatch h
  · rename_i e1 h1
    rw [stemR_eq, repQ_ok blk_z h1, cutQ_ok blk_z (by simp only [List.length_cons]; omega) h]
    show tailF p (382 :: 100 :: v :: r) = _
    have e1 : tailF p (382 :: 100 :: v :: r) = tailF p (100 :: v :: r) := by
      unfold tailF
      rw [rep3_dz, rep3_root hd hv]
    rw [e1]
    exact tail_root hd hv hp
-- t and č behind the root
theorem look2 : LE.all (fun e => LJ.elem e || isS (runE blkR (e ++ [116])) [116]) = true := by decide +kernel
theorem look3 : LE.all (fun e => Nat.beq e.length 3 && isS (some e) [117, 97, 105] || isS (runE blkR (e ++ [269])) [116]) = true := by decide +kernel
theorem look2a : isS (runE blkR [115, 97, 116]) [116] = true := by decide +kernel
theorem look3a : isS (runE blkR [115, 97, 269]) [116] = true := by decide +kernel
theorem run_2t {c v : Nat} {r e : List Nat} {p : Nat} (hc : c ∈ LClo) (hv : v ∈ LVow) (hp : p ≤ r.length + 2) (he : e ∈ LE) (hj : e ∉ LJ) : stemR p (e ++ 116 :: c :: v :: r) = 116 :: c :: v :: r := by
  have h := all_mem look2 he
  rw [Bool.or_eq_true] at h
  rcases h with h | h
  · exact absurd (List.elem_iff.mp h) hj
  · have := run_root (e := e ++ [116]) (f := [116]) hc hv hp (isS_iff h)
    rw [List.append_assoc] at this
    exact this
theorem run_2c {c v : Nat} {r e : List Nat} {p : Nat} (hc : c ∈ LClo) (hv : v ∈ LVow) (hp : p ≤ r.length + 2) (he : e ∈ LE) (hj : e ≠ [117, 97, 105]) : stemR p (e ++ 269 :: c :: v :: r) = 116 :: c :: v :: r := by
  have h := all_mem look3 he
  rw [Bool.or_eq_true, Bool.and_eq_true] at h
  rcases h with h | h
  · exact absurd (Option.some.inj (isS_iff h.2)) hj
  · have := run_root (e := e ++ [269]) (f := [116]) hc hv hp (isS_iff h)
    rw [List.append_assoc] at this
    exact this
theorem run_2ta {c v : Nat} {r : List Nat} {p : Nat} (hc : c ∈ LClo) (hv : v ∈ LVow) (hp : p ≤ r.length + 2) : stemR p (115 :: 97 :: 116 :: c :: v :: r) = 116 :: c :: v :: r :=
  run_root (e := [115, 97, 116]) (f := [116]) hc hv hp (isS_iff look2a)
theorem run_2ca {c v : Nat} {r : List Nat} {p : Nat} (hc : c ∈ LClo) (hv : v ∈ LVow) (hp : p ≤ r.length + 2) : stemR p (115 :: 97 :: 269 :: c :: v :: r) = 116 :: c :: v :: r :=
  run_root (e := [115, 97, 269]) (f := [116]) hc hv hp (isS_iff look3a)
-- the nouns
noncomputable def women : List (List Nat × List Nat) := [([105, 97], [116, 105, 97]), ([111, 117], []), ([97, 107, 111], [116, 97, 107, 111])]
noncomputable def deeds : List (List Nat) := [[106, 111], [106, 279], [118, 97]]
noncomputable def LP : List (List Nat × List Nat) := [([115, 121, 115, 97], [115, 97]), ([115, 117, 105, 115, 97], [115, 97]), ([115, 121, 115, 101], [115, 101]), ([117, 105, 115, 101], [115, 101])]
theorem look4a : women.all (fun f => LW.all fun e => isS (runE blkR (e ++ f.1)) f.2) = true := by decide +kernel
theorem look4b : deeds.all (fun f => LD.all fun e => isS (runE blkR (e ++ f)) ([109, 105] ++ f)) = true := by decide +kernel
theorem look4c : LP.all (fun f => isS (runE blkR f.1) f.2) = true := by decide +kernel
theorem run_4a {c v : Nat} {r e f g : List Nat} {p : Nat} (hc : c ∈ LClo) (hv : v ∈ LVow) (hp : p ≤ r.length + 2) (hf : (f, g) ∈ women) (he : e ∈ LW) : stemR p (e ++ (f ++ c :: v :: r)) = g ++ c :: v :: r := by
  rw [← List.append_assoc]
  exact run_root hc hv hp (isS_iff (all_mem (List.all_eq_true.mp look4a (f, g) hf) he))
theorem run_4b {c v : Nat} {r e f : List Nat} {p : Nat} (hc : c ∈ LClo) (hv : v ∈ LVow) (hp : p ≤ r.length + 2) (hf : f ∈ deeds) (he : e ∈ LD) : stemR p (e ++ (f ++ c :: v :: r)) = [109, 105] ++ f ++ c :: v :: r := by
  rw [← List.append_assoc]
  exact run_root hc hv hp (isS_iff (all_mem (List.all_eq_true.mp look4b f hf) he))
theorem run_4c {c v : Nat} {r f g : List Nat} {p : Nat} (hc : c ∈ LClo) (hv : v ∈ LVow) (hp : p ≤ r.length + 2) (hf : (f, g) ∈ LP) : stemR p (f ++ c :: v :: r) = g ++ c :: v :: r :=
  run_root hc hv hp (isS_iff (List.all_eq_true.mp look4c (f, g) hf))
end Lith
end
section
open PySem PySem.W PyProof.Rows PySem.Calls PySem.Spec
set_option Elab.async false
set_option maxRecDepth 100000
set_option maxHeartbeats 1000000
namespace Lith
section
variable {prog : Program} {w : World} {A : Around} {E : Value → Shared → Prop} {s : Shared} {h₀ : Heap} {L : Addr} {m : Str → Option Value} {news : List (Addr × Obj)} {env : Env}
/-- a comprehension over a text's signs; the test may read what stood ahead of it -/
theorem comp_signs {elt iter : Expr} {x : Str} {px : Pos} {ifs : List Expr} {scope : Scope} {pos : Pos} {Q : Value → Shared → Prop} {y : Str} {t : Tok} (pz : Str → Bool) (F : Fr h₀ L s.heap m) (N : News h₀ L s.heap news) (hy : y.length ≤ sizeLine)
    (it : ∀ Q' : Value → Shared → Prop, Q' (.str y t) s → wpAny (model prog w) A (eval iter env) Q' E s)
    (hh : A.handled = none) (hfree : ∀ y ∈ scope.names, y.2 ≠ .free) (hcell : ∀ y ∈ scope.names, y.2 ≠ .cell) (hkind : scope.kind = .function)
    (hnames : ∀ y ∈ scope.names, y.2 = .local → scope.names.lookup y.1 = some .local) (hx : scope.names.lookup x = some .local)
    (htests : ∀ (C : Addr) (a : Str) (u : Tok) s₂ m₂ E', s₂.heap.Ns (compEnv scope C env).locals m₂ → m₂ x = some (.str a u) → (∀ b o, s.heap.get? b = some o → s₂.heap.get? b = some o) →
        wpAny (model prog w) A (forIn ifs true fun c r => if r = true then do let ok ← isTrue c (compEnv scope C env) (eval c (compEnv scope C env)); pure (ForInStep.yield ok) else pure (ForInStep.yield r))
          (fun ok s₃ => ok = pz a ∧ Keeps s₂ s₃) E' s₂)
    (helt : ∀ (C : Addr) (a : Str) (u : Tok) s₂ m₂ E', pz a = true → s₂.heap.Ns (compEnv scope C env).locals m₂ → m₂ x = some (.str a u) → wpAny (model prog w) A (eval elt (compEnv scope C env)) (fun r s₃ => Carried r (.str a) ∧ Keeps s₂ s₃) E' s₂)
    (hQ : ∀ D (ys : List Value) h' tk, Fr h₀ L h' m → News h₀ L h' news → h₀.get? D = none → h'.IsList D ys.toArray → StrsAre ys ((signs y).filter pz) → Q (.ref D) { s with heap := h', toks := tk })
    (hs : ∀ x, foldedSetIterable iter env x = pure x := by intro _; rfl) :
    wpAny (model prog w) A (eval (.ListComp elt [⟨.Name x px, iter, ifs, 0⟩] scope pos) env) Q E s := by
  refine wpAny_ListComp_walk (ItemKind.str.lift pz) (fun v r => ∃ a, ItemKind.str.is a v ∧ Carried r (.str a)) hfree hcell hkind hnames hx (it _ ?_) hs
  refine wpAny_pyIter_str fun o St W hst => ?_
  have up : ∀ (h' : Heap), (∀ b o', b ∉ [s.heap.objs.size] → (s.heap.push o).get? b = some o' → h'.get? b = some o') → ∀ b o', s.heap.get? b = some o' → h'.get? b = some o' :=
    fun h' hk b o' e => hk b o' (old_not_new e) (Heap.get?_push_of_some _ e)
  refine ⟨s.heap.objs.size, [s.heap.objs.size], [s.heap.objs.size], y.cps.size, SignAt y, St, rfl, W A hh, hy, hst, ?_, ⟨?_, ?_⟩, ?_⟩
  · intro b hb
    show b < (s.heap.push o).objs.size
    rw [Heap.size_push, List.mem_singleton.mp hb]
    exact Nat.lt_succ_self _
  · intro C i v s₃ m₃ E' hP hn hm hk _
    obtain ⟨c, u, _, rfl⟩ := hP
    have ha : ItemKind.str.is ⟨#[c]⟩ (.str ⟨#[c]⟩ u) := ⟨u, rfl⟩
    rw [ItemKind.lift_is ha]
    exact htests C _ u s₃ m₃ E' hn hm (up _ hk)
  · intro C i v s₃ m₃ E' hP hp hn hm _ _
    obtain ⟨c, u, _, rfl⟩ := hP
    have ha : ItemKind.str.is ⟨#[c]⟩ (.str ⟨#[c]⟩ u) := ⟨u, rfl⟩
    rw [ItemKind.lift_is ha] at hp
    exact wpAny_mono (helt C _ u s₃ m₃ E' hp hn hm) (fun r s₄ h₄ => ⟨⟨_, ha, h₄.1⟩, h₄.2⟩) fun _ _ e => e
  · intro D h' tk ys vs hnew hlD hplD hlen hP hF hk
    refine hQ D ys.toList h' tk (F.keeps (up h' hk)) (N.grown (up h' hk)) ?_ (by rw [Array.toArray_toList]; exact hlD) (StrsAre.of_carried ((areOf_signs hlen hP).paired pz (fun a => .str a) _ hF))
    cases e : h₀.get? D with
    | none => rfl
    | some o' => rw [Heap.get?_push_of_some _ (F.keep _ _ e)] at hnew; cases hnew
theorem join_signsK {D : Addr} {ys : List Value} {y x : Str} {t : Tok} {p : Str → Bool} {Q : Value → Shared → Prop}
    (hl : s.heap.IsList D ys.toArray) (hc : StrsAre ys (List.filter p (signs y))) (hy : y.length ≤ 1000) (hs : x.length = 0)
    (h : ∀ z t' k, z = Txt.join x (List.filter p (signs y)) → z.length ≤ y.length → Q (.str z t') { s with toks := k }) :
    wpAny (model prog w) A (call (.builtin "str.join") [.str x t, .ref D]) Q E s := by
  have h1 : ((List.filter p (signs y)).map (·.length)).sum = (List.filter p (signs y)).length :=
    sumLen_of_ones _ (fun a ha => sign_length_one y a (List.mem_filter.mp ha).1)
  obtain ⟨h3, h2, h4⟩ := fact_join_signs x p y
  rw [hs, Nat.mul_zero, Nat.add_zero] at h2
  exact join_list (ys := List.filter p (signs y)) hl hc (by rw [hs]; omega) fun t' k => h _ t' k rfl (Nat.le_trans h2 h4)
end
end Lith
end
section
open PySem PySem.W PyProof.Rows PySem.Calls PySem.Spec
set_option Elab.async false
set_option maxRecDepth 100000
namespace Lith
theorem LE_eq : endsK = LE := by decide +kernel
theorem LJ_eq : (lawStrs 15).map rv = LJ := by decide +kernel
theorem LI_eq : (lawStrs 16).map rv = LI := by decide +kernel
theorem LW_eq : (lawStrs 17).map rv = LW := by decide +kernel
theorem LD_eq : (lawStrs 18).map rv = LD := by decide +kernel
theorem LSh_eq : (lawStrs 20).map rv = LSh := by decide +kernel
theorem rv_mem {l : List Str} {L' : List (List Nat)} (e : l.map rv = L') {z : Str} (h : z ∈ l) : rv z ∈ L' := e ▸ List.mem_map.mpr ⟨z, h, rfl⟩
theorem rv_inj {a b : Str} (h : rv a = rv b) : a = b := by
  have h1 : a.cps.toList = b.cps.toList := List.reverse_inj.mp h
  have h2 : a.cps = b.cps := Array.toList_inj.mp h1
  cases a; cases b; simp_all
theorem end_LE {z : Str} (h : EndOk z) : rv z ∈ LE := LE_eq ▸ h
theorem not_LJ {z : Str} (h : ((lawStrs 15).any fun x => x == z) = false) : rv z ∉ LJ := by
  intro m
  rw [← LJ_eq] at m
  obtain ⟨y, hy, e⟩ := List.mem_map.mp m
  have := rv_inj e
  subst this
  have h2 := List.any_eq_false.mp h y hy
  exact h2 (beq_self_eq_true y)
theorem gv_LVow : gv = LVow.map (fun c => (⟨#[c]⟩ : Str)) := by decide +kernel
theorem vow_iff {S : Str} {i : Int} : vow S i ↔ chr S i ∈ LVow := by
  unfold vow
  rw [gv_LVow]
  constructor
  · intro h
    obtain ⟨c, hc, e⟩ := List.mem_map.mp h
    injection e with e
    have e2 := congrArg (fun a : Array Nat => a.toList) e
    simp at e2
    exact e2 ▸ hc
  · intro h
    exact List.mem_map.mpr ⟨_, h, rfl⟩
theorem chr_rv {S : Str} {i : Int} (h0 : 0 ≤ i) (h1 : i < (S.length : Int)) : (rv S)[S.length - 1 - i.toNat]? = some (chr S i) := by
  have hl := cps_len S
  unfold rv
  rw [List.getElem?_reverse (by omega), hl]
  rw [show S.length - 1 - (S.length - 1 - i.toNat) = i.toNat by omega]
  exact chr_get h0 h1
theorem chr_at {S : Str} {W r : List Nat} {x : Nat} (e : rv S = W ++ x :: r) : chr S (r.length : Int) = x := by
  have hl : W.length + (r.length + 1) = S.length := by
    have := congrArg List.length e
    rw [rv_len, List.length_append, List.length_cons] at this
    exact this.symm
  have h := chr_rv (S := S) (i := (r.length : Int)) (by omega) (by omega)
  rw [e, show S.length - 1 - (r.length : Int).toNat = W.length by omega, List.getElem?_append_right (Nat.le_refl _), Nat.sub_self] at h
  injection h with h
  exact h.symm
theorem clo_con {c : Nat} (h : c ∈ LClo) : c ∉ LVow := by
  have h1 : LClo.all (fun c => !(LVow.elem c)) = true := by decide +kernel
  intro m
  have := List.all_eq_true.mp h1 c h
  rw [List.elem_iff.mpr m] at this
  exact nomatch this
theorem p1_root {S : Str} {W r : List Nat} {c v : Nat} {p : Int} (e : rv S = W ++ c :: v :: r) (hc : c ∈ LClo) (hv : v ∈ LVow) (hr : 1 ≤ r.length) (H : P1S S p) : p.toNat ≤ r.length + 2 := by
  have hl : W.length + (r.length + 2) = S.length := by
    have := congrArg List.length e
    rw [rv_len, List.length_append, List.length_cons, List.length_cons] at this
    exact this.symm
  have c1 : ¬ vow S ((r.length + 1 : Nat) : Int) := by
    rw [vow_iff]
    have := chr_at (S := S) (W := W) (x := c) (r := v :: r) e
    rw [List.length_cons] at this
    rw [this]; exact clo_con hc
  have v1 : vow S (r.length : Int) := by
    rw [vow_iff, chr_at (S := S) (W := W ++ [c]) (x := v) (r := r) (by rw [List.append_assoc]; exact e)]
    exact hv
  obtain ⟨st, hst, _, _, h⟩ := H
  have st1 : st ≤ (r.length : Int) := by omega
  rcases h with ⟨h, _⟩ | ⟨i, i0, i1, iv, ib, h⟩
  · exact absurd v1 (h _ st1 (by omega))
  · have hi : i ≤ (r.length : Int) := Int.not_lt.mp fun q => ib _ st1 q v1
    rcases h with ⟨h, _⟩ | ⟨j, j0, j1, jv, jb, hp⟩
    · exact absurd (h _ (by omega) (by omega)) c1
    · have hj : j ≤ ((r.length + 1 : Nat) : Int) := Int.not_lt.mp fun q => c1 (jb _ (by omega) q)
      omega
theorem root_rv {bd cz : Str} (hb : BodyOk bd) (hc : CloseOk cz) : ∃ c v r, rv (bd ++ cz) = c :: v :: r ∧ c ∈ LClo ∧ v ∈ LVow ∧ 1 ≤ r.length := by
  obtain ⟨v, r, e, hv, h1, _⟩ := hb
  obtain ⟨c, e2, hc⟩ := hc
  exact ⟨c, v, r, by rw [rv_app, e2, e]; rfl, hc, hv, h1⟩
theorem stem_0 {bd cz e : Str} (hb : BodyOk bd) (hc : CloseOk cz) (he : EndOk e) : StemOf (bd ++ cz ++ e) (bd ++ cz) := by
  intro p hp
  obtain ⟨c, v, r, er, h1, h2, h3⟩ := root_rv hb hc
  have ez : rv (bd ++ cz ++ e) = rv e ++ c :: v :: r := by rw [rv_app, er]
  rw [ez, er]
  exact run_0 h1 h2 (p1_root ez h1 h2 h3 hp) (end_LE he)
theorem stem_6 {bd cz e : Str} (hb : BodyOk bd) (hc : CloseOk cz) (he : EndOk e) : StemOf (bd ++ cz ++ e ++ Str.ofString "'") (bd ++ cz ++ e) := by
  intro p hp
  obtain ⟨c, v, r, er, h1, h2, h3⟩ := root_rv hb hc
  have ez : rv (bd ++ cz ++ e ++ Str.ofString "'") = (39 :: rv e) ++ c :: v :: r := by
    rw [rv_app, rv_app, er, show rv (Str.ofString "'") = [39] by decide +kernel]; rfl
  have et : rv (bd ++ cz ++ e) = rv e ++ c :: v :: r := by rw [rv_app, er]
  rw [ez, et]
  exact run_6 h1 h2 (p1_root ez h1 h2 h3 hp) (end_LE he)
theorem d_rv : rv (Str.ofString "d") = [100] := by decide +kernel
theorem dz_rv : rv (Str.ofString "dž") = [382, 100] := by decide +kernel
theorem t_rv : rv (Str.ofString "t") = [116] := by decide +kernel
theorem c_rv : rv (Str.ofString "č") = [269] := by decide +kernel
theorem tas_rv : rv (Str.ofString "tas") = [115, 97, 116] := by decide +kernel
theorem cas_rv : rv (Str.ofString "čas") = [115, 97, 269] := by decide +kernel
theorem iau_rv : rv (Str.ofString "iau") = [117, 97, 105] := by decide +kernel
theorem stem_1 {bd d e : Str} {i : Int} (hb : BodyOk bd) (h0 : 0 ≤ i) (h1 : i < 2) (hd : d = [Str.ofString "d", Str.ofString "dž"].getD i.toNat Str.empty) (he : EndOk e) : StemOf (bd ++ d ++ e) (bd ++ Str.ofString "d") := by
  intro p hp
  obtain ⟨v, r, eb, hv, hr, _⟩ := hb
  have hd100 : (100 : Nat) ∈ LClo := by decide
  have et : rv (bd ++ Str.ofString "d") = 100 :: v :: r := by rw [rv_app, eb, d_rv]; rfl
  rw [et]
  rcases (by omega : i = 0 ∨ i = 1) with q | q
  · rw [q] at hd
    have hd : d = Str.ofString "d" := hd
    have ez : rv (bd ++ d ++ e) = rv e ++ 100 :: v :: r := by rw [rv_app, hd, et]
    rw [ez]
    exact run_0 hd100 hv (p1_root ez hd100 hv hr hp) (end_LE he)
  · rw [q] at hd
    have hd : d = Str.ofString "dž" := hd
    have ez : rv (bd ++ d ++ e) = rv e ++ 382 :: 100 :: v :: r := by rw [rv_app, rv_app, hd, eb, dz_rv]; rfl
    rw [ez]
    exact run_1 hv (p1_root (W := rv e ++ [382]) (by rw [ez, List.append_assoc]; rfl) hd100 hv hr hp) (end_LE he)
theorem stem_2a {bd cz : Str} (hb : BodyOk bd) (hc : CloseOk cz) : StemOf (bd ++ cz ++ Str.ofString "čas") (bd ++ cz ++ Str.ofString "t") := by
  intro p hp
  obtain ⟨c, v, r, er, h1, h2, h3⟩ := root_rv hb hc
  have ez : rv (bd ++ cz ++ Str.ofString "čas") = [115, 97, 269] ++ c :: v :: r := by rw [rv_app, er, cas_rv]
  have et : rv (bd ++ cz ++ Str.ofString "t") = 116 :: c :: v :: r := by rw [rv_app, er, t_rv]; rfl
  rw [ez, et]
  exact run_2ca h1 h2 (p1_root ez h1 h2 h3 hp)
theorem stem_2b {bd cz e : Str} (hb : BodyOk bd) (hc : CloseOk cz) (he : EndOk e) (n : (e == Str.ofString "iau") = false) : StemOf (bd ++ cz ++ Str.ofString "č" ++ e) (bd ++ cz ++ Str.ofString "t") := by
  intro p hp
  obtain ⟨c, v, r, er, h1, h2, h3⟩ := root_rv hb hc
  have ez : rv (bd ++ cz ++ Str.ofString "č" ++ e) = rv e ++ 269 :: c :: v :: r := by rw [rv_app, rv_app, er, c_rv]; rfl
  have et : rv (bd ++ cz ++ Str.ofString "t") = 116 :: c :: v :: r := by rw [rv_app, er, t_rv]; rfl
  have ne : rv e ≠ [117, 97, 105] := fun q => by
    rw [← iau_rv] at q
    rw [rv_inj q, beq_self_eq_true] at n
    exact nomatch n
  rw [ez, et]
  exact run_2c h1 h2 (p1_root (W := rv e ++ [269]) (by rw [ez, List.append_assoc]; rfl) h1 h2 h3 hp) (end_LE he) ne
theorem stem_2c {bd cz : Str} (hb : BodyOk bd) (hc : CloseOk cz) : StemOf (bd ++ cz ++ Str.ofString "tas") (bd ++ cz ++ Str.ofString "t") := by
  intro p hp
  obtain ⟨c, v, r, er, h1, h2, h3⟩ := root_rv hb hc
  have ez : rv (bd ++ cz ++ Str.ofString "tas") = [115, 97, 116] ++ c :: v :: r := by rw [rv_app, er, tas_rv]
  have et : rv (bd ++ cz ++ Str.ofString "t") = 116 :: c :: v :: r := by rw [rv_app, er, t_rv]; rfl
  rw [ez, et]
  exact run_2ta h1 h2 (p1_root ez h1 h2 h3 hp)
theorem stem_2d {bd cz e : Str} (hb : BodyOk bd) (hc : CloseOk cz) (he : EndOk e) (n : ((lawStrs 15).any fun x => x == e) = false) : StemOf (bd ++ cz ++ Str.ofString "t" ++ e) (bd ++ cz ++ Str.ofString "t") := by
  intro p hp
  obtain ⟨c, v, r, er, h1, h2, h3⟩ := root_rv hb hc
  have ez : rv (bd ++ cz ++ Str.ofString "t" ++ e) = rv e ++ 116 :: c :: v :: r := by rw [rv_app, rv_app, er, t_rv]; rfl
  have et : rv (bd ++ cz ++ Str.ofString "t") = 116 :: c :: v :: r := by rw [rv_app, er, t_rv]; rfl
  rw [ez, et]
  exact run_2t h1 h2 (p1_root (W := rv e ++ [116]) (by rw [ez, List.append_assoc]; rfl) h1 h2 h3 hp) (end_LE he) (not_LJ n)
theorem stem_4a {bd cz f g e : Str} {i : Int} (hb : BodyOk bd) (hc : CloseOk cz) (h0 : 0 ≤ i) (h3 : i < 3) (hf : f = [Str.ofString "ai", Str.ofString "uo", Str.ofString "oka"].getD i.toNat Str.empty) (hg : g = [Str.ofString "ait", Str.ofString "", Str.ofString "okat"].getD i.toNat Str.empty) (he : e ∈ lawStrs 17) : StemOf (bd ++ cz ++ f ++ e) (bd ++ cz ++ g) := by
  intro p hp
  obtain ⟨c, v, r, er, h1, h2, hr⟩ := root_rv hb hc
  have ez : rv (bd ++ cz ++ f ++ e) = rv e ++ (rv f ++ c :: v :: r) := by rw [rv_app, rv_app, er]
  have et : rv (bd ++ cz ++ g) = rv g ++ c :: v :: r := by rw [rv_app, er]
  have hm : (rv f, rv g) ∈ women := by
    rcases (by omega : i = 0 ∨ i = 1 ∨ i = 2) with q | q | q <;> (rw [q] at hf hg; subst hf; subst hg)
    · have : (rv ([Str.ofString "ai", Str.ofString "uo", Str.ofString "oka"].getD (0 : Int).toNat Str.empty), rv ([Str.ofString "ait", Str.ofString "", Str.ofString "okat"].getD (0 : Int).toNat Str.empty)) = ([105, 97], [116, 105, 97]) := by decide +kernel
      rw [this]; exact .head _
    · have : (rv ([Str.ofString "ai", Str.ofString "uo", Str.ofString "oka"].getD (1 : Int).toNat Str.empty), rv ([Str.ofString "ait", Str.ofString "", Str.ofString "okat"].getD (1 : Int).toNat Str.empty)) = ([111, 117], []) := by decide +kernel
      rw [this]; exact .tail _ (.head _)
    · have : (rv ([Str.ofString "ai", Str.ofString "uo", Str.ofString "oka"].getD (2 : Int).toNat Str.empty), rv ([Str.ofString "ait", Str.ofString "", Str.ofString "okat"].getD (2 : Int).toNat Str.empty)) = ([97, 107, 111], [116, 97, 107, 111]) := by decide +kernel
      rw [this]; exact .tail _ (.tail _ (.head _))
  rw [ez, et]
  exact run_4a h1 h2 (p1_root (W := rv e ++ rv f) (by rw [ez, List.append_assoc]) h1 h2 hr hp) hm (rv_mem LW_eq he)
theorem stem_4b {bd cz f e : Str} {i : Int} (hb : BodyOk bd) (hc : CloseOk cz) (h0 : 0 ≤ i) (h3 : i < 3) (hf : f = [Str.ofString "oj", Str.ofString "ėj", Str.ofString "av"].getD i.toNat Str.empty) (he : e ∈ lawStrs 18) : StemOf (bd ++ cz ++ f ++ e) (bd ++ cz ++ f ++ Str.ofString "im") := by
  intro p hp
  obtain ⟨c, v, r, er, h1, h2, hr⟩ := root_rv hb hc
  have ez : rv (bd ++ cz ++ f ++ e) = rv e ++ (rv f ++ c :: v :: r) := by rw [rv_app, rv_app, er]
  have et : rv (bd ++ cz ++ f ++ Str.ofString "im") = [109, 105] ++ rv f ++ c :: v :: r := by rw [rv_app, rv_app, er, show rv (Str.ofString "im") = [109, 105] by decide +kernel, List.append_assoc]
  have hm : rv f ∈ deeds := by
    rcases (by omega : i = 0 ∨ i = 1 ∨ i = 2) with q | q | q <;> (rw [q] at hf; subst hf)
    · rw [show rv ([Str.ofString "oj", Str.ofString "ėj", Str.ofString "av"].getD (0 : Int).toNat Str.empty) = [106, 111] by decide +kernel]; exact .head _
    · rw [show rv ([Str.ofString "oj", Str.ofString "ėj", Str.ofString "av"].getD (1 : Int).toNat Str.empty) = [106, 279] by decide +kernel]; exact .tail _ (.head _)
    · rw [show rv ([Str.ofString "oj", Str.ofString "ėj", Str.ofString "av"].getD (2 : Int).toNat Str.empty) = [118, 97] by decide +kernel]; exact .tail _ (.tail _ (.head _))
  rw [ez, et]
  exact run_4b h1 h2 (p1_root (W := rv e ++ rv f) (by rw [ez, List.append_assoc]) h1 h2 hr hp) hm (rv_mem LD_eq he)
theorem stem_4c {bd cz f g f' g' : Str} {i : Int} (hb : BodyOk bd) (hc : CloseOk cz) (hf : (f, g') = pairAt i) (hg : (f', g) = pairAt i) : StemOf (bd ++ cz ++ f) (bd ++ cz ++ g) := by
  intro p hp
  obtain ⟨c, v, r, er, h1, h2, hr⟩ := root_rv hb hc
  have ez : rv (bd ++ cz ++ f) = rv f ++ c :: v :: r := by rw [rv_app, er]
  have et : rv (bd ++ cz ++ g) = rv g ++ c :: v :: r := by rw [rv_app, er]
  have hm : (rv f, rv g) ∈ LP := by
    have e1 : f = (pairAt i).1 := by rw [← hf]
    have e2 : g = (pairAt i).2 := by rw [← hg]
    rw [e1, e2]
    unfold pairAt
    split
    · rw [show (rv (Str.ofString "asys"), rv (Str.ofString "as")) = ([115, 121, 115, 97], [115, 97]) by decide +kernel]; exact .head _
    · split
      · rw [show (rv (Str.ofString "asius"), rv (Str.ofString "as")) = ([115, 117, 105, 115, 97], [115, 97]) by decide +kernel]; exact .tail _ (.head _)
      · split
        · rw [show (rv (Str.ofString "esys"), rv (Str.ofString "es")) = ([115, 121, 115, 101], [115, 101]) by decide +kernel]; exact .tail _ (.tail _ (.head _))
        · rw [show (rv (Str.ofString "esiu"), rv (Str.ofString "es")) = ([117, 105, 115, 101], [115, 101]) by decide +kernel]; exact .tail _ (.tail _ (.tail _ (.head _)))
  rw [ez, et]
  exact run_4c h1 h2 (p1_root ez h1 h2 hr hp) hm
-- a pile
noncomputable def blkP (k : List Nat) : Bool := blkR k && LI.all (fun q => !(k.isPrefixOf q) && !(q.isPrefixOf k))
theorem blk_pile {n : Nat} {z : Str} {c v : Nat} {r : List Nat} (hc : c ∈ LClo) (hv : v ∈ LVow) (H : Pile n z) : Blk blkP (rv z ++ c :: v :: r) := by
  intro k hk p
  unfold blkP at hk
  rw [Bool.and_eq_true] at hk
  cases H with
  | nil =>
    rw [show rv (Str.ofString "") = [] by decide +kernel, List.nil_append] at p
    exact blk_root hc hv k hk.1 p
  | snoc h hq =>
    rename_i q
    rw [rv_app, List.append_assoc] at p
    have hm := List.all_eq_true.mp hk.2 _ (rv_mem LI_eq hq)
    rw [Bool.and_eq_true] at hm
    rcases List.prefix_or_prefix_of_prefix p (List.prefix_append (rv q) _) with g | g
    · have := hm.1; rw [isPre.mpr g] at this; exact nomatch this
    · have := hm.2; rw [isPre.mpr g] at this; exact nomatch this
theorem look_p : LE.all (fun e => LJ.elem e || (isS (repQ blkP K2 as2 e) e && isS (cutQ blkP K0 e) [])) = true := by decide +kernel
noncomputable def fallsQ (q : List Nat) : Bool := match scan blkP q K1 0 0 with
  | none => false
  | some (n, r) => Nat.beq n q.length && (!(r == 0) && Nat.ble 1 n)
theorem look_q : LI.all (fun q => isS (repQ blkP K3 as3 q) q && fallsQ q) = true := by decide +kernel
theorem st2_falls {Y q : List Nat} {p : Nat} (hb : Blk blkP Y) (hp : p ≤ Y.length) (h : fallsQ q = true) : st2 K1 p (q ++ Y) = st2 K1 p Y := by
  unfold fallsQ at h
  split at h
  · exact nomatch h
  · rename_i n r hs
    have hs := scan_two hs
    rw [Bool.and_eq_true, Bool.and_eq_true] at h
    have hn := Nat.eq_of_beq_eq_true h.1
    have h1 := Nat.le_of_ble_eq_true h.2.2
    have hr : ¬ r = 0 := fun e => by have := h.2.1; rw [e] at this; exact nomatch this
    rw [st2_eq K1 p (q ++ Y), if_neg (by rw [List.length_append]; omega), take_region hp, best_seal (hb.take _) hs.1, hs.2]
    dsimp only
    rw [if_neg hr, if_neg (by omega), hn, List.drop_append_of_le_length (Nat.le_refl _), List.drop_length]
    rfl
theorem pile_falls {n : Nat} {z : Str} {c v : Nat} {r : List Nat} {p : Nat} (hc : c ∈ LClo) (hv : v ∈ LVow) (hp : p ≤ r.length + 2) (H : Pile n z) : st2 K1 p (rv z ++ c :: v :: r) = c :: v :: r := by
  induction H with
  | nil =>
    rw [show rv (Str.ofString "") = [] by decide +kernel]
    exact st2_seal (n := 1) (e := []) (f := []) (blk_root hc hv) hp (by decide +kernel)
  | snoc h hq ih =>
    have hm := List.all_eq_true.mp look_q _ (rv_mem LI_eq hq)
    rw [Bool.and_eq_true] at hm
    rw [rv_app, List.append_assoc, st2_falls (blk_pile hc hv h) (by rw [List.length_append, List.length_cons, List.length_cons]; omega) hm.2]
    exact ih
theorem pile_rep {n : Nat} {z : Str} {c v : Nat} {r : List Nat} (hc : c ∈ LClo) (hv : v ∈ LVow) (H : Pile n z) : rep K3 as3 (rv z ++ c :: v :: r) = rv z ++ c :: v :: r := by
  cases H with
  | nil =>
    rw [show rv (Str.ofString "") = [] by decide +kernel]
    exact rep3_root hc hv
  | snoc h hq =>
    have hm := List.all_eq_true.mp look_q _ (rv_mem LI_eq hq)
    rw [Bool.and_eq_true] at hm
    rw [rv_app, List.append_assoc]
    exact repQ_ok (blk_pile hc hv h) (isS_iff hm.1)
theorem run_3 {n : Nat} {z : Str} {c v : Nat} {r e : List Nat} {p : Nat} (hc : c ∈ LClo) (hv : v ∈ LVow) (hp : p ≤ r.length + 2) (H : Pile n z) (he : e ∈ LE) (hj : e ∉ LJ) : stemR p (e ++ (rv z ++ c :: v :: r)) = c :: v :: r := by
  have h := all_mem look_p he
  rw [Bool.or_eq_true] at h
  rcases h with h | h
  · exact absurd (List.elem_iff.mp h) hj
  · rw [Bool.and_eq_true] at h
    have hb := blk_pile (r := r) hc hv H
    rw [stemR_eq, repQ_ok hb (isS_iff h.1), cutQ_ok hb (by rw [List.length_append, List.length_cons, List.length_cons]; omega) (isS_iff h.2)]
    unfold tailF
    rw [List.nil_append, pile_rep hc hv H, pile_falls hc hv hp H, rep3_root hc hv, (ground_root hc hv).1, (ground_root hc hv).2]
theorem stem_3 {n : Nat} {bd cz z e : Str} (hb : BodyOk bd) (hc : CloseOk cz) (H : Pile n z) (he : EndOk e) (nj : ((lawStrs 15).any fun x => x == e) = false) : StemOf (bd ++ cz ++ z ++ e) (bd ++ cz) := by
  intro p hp
  obtain ⟨c, v, r, er, h1, h2, hr⟩ := root_rv hb hc
  have ez : rv (bd ++ cz ++ z ++ e) = rv e ++ (rv z ++ c :: v :: r) := by rw [rv_app, rv_app, er]
  rw [ez, er]
  exact run_3 h1 h2 (p1_root (W := rv e ++ rv z) (by rw [ez, List.append_assoc]) h1 h2 hr hp) H (end_LE he) (not_LJ nj)
theorem as_end : EndOk (Str.ofString "as") := by
  unfold EndOk
  rw [LE_eq]
  decide +kernel
theorem as_nj : ((lawStrs 15).any fun x => x == Str.ofString "as") = false := by decide +kernel
theorem stem_3a {n : Nat} {bd cz z : Str} (hb : BodyOk bd) (hc : CloseOk cz) (H : Pile n z) : StemOf (bd ++ cz ++ z ++ Str.ofString "as") (bd ++ cz) := stem_3 hb hc H as_end as_nj
-- no vowel ahead
noncomputable def blkC (k : List Nat) : Bool := k.any (fun x => LVow.elem x)
noncomputable def headS : List Nat → Bool
  | [] => false
  | x :: s => !(Nat.beq x 100) && (!(Nat.beq x 39) && s.all (fun x => LVow.elem x))
theorem blk_con {C : List Nat} (h : ∀ x ∈ C, x ∉ LVow) : Blk blkC C := by
  intro k hk p
  obtain ⟨x, hx, hv⟩ := List.any_eq_true.mp hk
  exact h x (p.subset hx) (List.elem_iff.mp hv)
theorem look_s : LSh.all (fun s => isS (repQ blkC K2 as2 s) s && (isS (repQ blkC K3 as3 s) s && headS s)) = true := by decide +kernel
theorem best_nil0 : bestK K0 [] = (0, 0) := by decide +kernel
theorem best_nil1 : bestK K1 [] = (0, 0) := by decide +kernel
theorem run_5 {s C : List Nat} (h : ∀ x ∈ C, x ∉ LVow) (hs : s ∈ LSh) : stemR (s ++ C).length (s ++ C) = s ++ C := by
  have hl := all_mem look_s hs
  rw [Bool.and_eq_true, Bool.and_eq_true] at hl
  have hb := blk_con h
  have e2 := repQ_ok hb (isS_iff hl.1)
  have e3 := repQ_ok hb (isS_iff hl.2.1)
  have ec : cutK K0 (s ++ C).length (s ++ C) = s ++ C := by
    unfold cutK
    rw [if_neg (Nat.lt_irrefl _), Nat.sub_self, List.take_zero, best_nil0]; rfl
  have es : st2 K1 (s ++ C).length (s ++ C) = s ++ C := by
    rw [st2_eq, if_neg (Nat.lt_irrefl _), Nat.sub_self, List.take_zero, best_nil1]; rfl
  rw [stemR_eq, e2, ec]
  unfold tailF
  rw [e3, es, e3]
  cases s with
  | nil => exact nomatch hl.2.2
  | cons x s =>
    have hh := hl.2.2
    unfold headS at hh
    rw [Bool.and_eq_true, Bool.and_eq_true] at hh
    have n1 : x ≠ 100 := fun q => by have := hh.1; rw [q] at this; exact nomatch this
    have n2 : x ≠ 39 := fun q => by have := hh.2.1; rw [q] at this; exact nomatch this
    have g : gdF (x :: s ++ C) = x :: s ++ C := by
      unfold gdF
      rw [if_neg (fun q => ?_)]
      rw [isPre] at q
      exact n1 (List.cons_prefix_cons.mp q).1.symm
    rw [g]
    exact apos_ne n2
theorem p1_bare {S : Str} {s C : List Nat} {p : Int} (e : rv S = s ++ C) (h : ∀ x ∈ C, x ∉ LVow) (hs : headS s = true) (H : P1S S p) : p = (S.length : Int) := by
  have hl : s.length + C.length = S.length := by
    have := congrArg List.length e
    rw [rv_len, List.length_append] at this
    exact this.symm
  have hlow : ∀ i : Int, 0 ≤ i → i < (C.length : Int) → ¬ vow S i := fun i h0 h1 => by
    rw [vow_iff]
    have := chr_rv (S := S) (i := i) h0 (by omega)
    rw [e, List.getElem?_append_right (by omega)] at this
    exact h _ (List.mem_of_getElem? this)
  have hhigh : ∀ i : Int, (C.length : Int) ≤ i → i < (S.length : Int) - 1 → vow S i := fun i h0 h1 => by
    rw [vow_iff]
    have := chr_rv (S := S) (i := i) (by omega) (by omega)
    rw [e, List.getElem?_append_left (by omega)] at this
    cases s with
    | nil => exact nomatch hs
    | cons x s =>
      unfold headS at hs
      rw [Bool.and_eq_true, Bool.and_eq_true] at hs
      obtain ⟨k, hk⟩ : ∃ k, S.length - 1 - i.toNat = k + 1 := ⟨S.length - 1 - i.toNat - 1, by omega⟩
      rw [hk, List.getElem?_cons_succ] at this
      exact List.elem_iff.mp (List.all_eq_true.mp hs.2.2 _ (List.mem_of_getElem? this))
  obtain ⟨st, hst, _, _, g⟩ := H
  rcases g with ⟨_, q⟩ | ⟨i, i0, i1, iv, ib, g⟩
  · exact q
  · have hi : (C.length : Int) ≤ i := Int.not_lt.mp fun q => hlow i (by omega) q iv
    rcases g with ⟨_, q⟩ | ⟨j, j0, j1, jv, jb, hp⟩
    · exact q
    · have : ¬ j < (S.length : Int) - 1 := fun q => jv (hhigh j (by omega) q)
      omega
theorem join_e : ∀ {l : List Str} , (∀ a ∈ l, ∃ c, a = ⟨#[c]⟩) → (Str.join (Str.ofString "") l).cps.toList = (l.map (fun a => a.cps.toList)).flatten
  | [], _ => rfl
  | [x], _ => by
    show x.cps.toList = x.cps.toList ++ []
    rw [List.append_nil]
  | x :: y :: l, h => by
    have ih := join_e (l := y :: l) (fun a ha => h a (.tail _ ha))
    have e0 : Str.ofString "" = Str.empty := by decide +kernel
    show (x ++ Str.ofString "" ++ Str.join (Str.ofString "") (y :: l)).cps.toList = x.cps.toList ++ ((y :: l).map (fun a => a.cps.toList)).flatten
    rw [Str.cps_append, Str.cps_append, Array.toList_append, Array.toList_append, ih, e0]
    rw [show (Str.empty.cps.toList : List Nat) = [] from rfl, List.append_nil]
theorem join_cps {p : Str → Bool} {y z : Str} (hz : z = Txt.join (Str.ofString "") (List.filter p (signs y))) : z.cps.toList = y.cps.toList.filter (fun c => p ⟨#[c]⟩) := by
  have e1 : z = Str.join (Str.ofString "") (List.filter p (signs y)) := hz.trans (StrLaws.glued_eq_join _ _)
  rw [e1, join_e (fun a ha => by
    obtain ⟨c, _, e⟩ := List.mem_map.mp (List.mem_filter.mp ha).1
    exact ⟨c, e.symm⟩)]
  unfold signs
  generalize y.cps.toList = l
  induction l with
  | nil => rfl
  | cons c l ih =>
    rw [List.map_cons, List.filter_cons, List.filter_cons]
    split
    · rw [List.map_cons, List.flatten_cons, ih]; rfl
    · exact ih
theorem bare_con {y z : Str} (hz : z = Txt.join (Str.ofString "") (List.filter (fun a9 => !!(Builtin.Str.occurrences vowelsS a9 0 vowelsS.length 1).isEmpty) (signs y))) : ∀ x ∈ rv z, x ∉ LVow := by
  intro x hx
  unfold rv at hx
  rw [List.mem_reverse, join_cps hz, List.mem_filter] at hx
  have h := hx.2
  rw [StrLaws.found_one] at h
  intro m
  have hv : x ∈ vowelsS.cps.toList := by
    have h2 : LVow.all (fun x => vowelsS.cps.toList.elem x) = true := by decide +kernel
    exact List.elem_iff.mp (List.all_eq_true.mp h2 x m)
  rw [decide_eq_true hv] at h
  exact nomatch h
theorem stem_5 {y z e : Str} (hz : z = Txt.join (Str.ofString "") (List.filter (fun a9 => !!(Builtin.Str.occurrences vowelsS a9 0 vowelsS.length 1).isEmpty) (signs y))) (he : e ∈ lawStrs 20) : StemOf (z ++ e) (z ++ e) := by
  intro p hp
  have ez : rv (z ++ e) = rv e ++ rv z := rv_app z e
  have hm := rv_mem LSh_eq he
  have hl := all_mem look_s hm
  rw [Bool.and_eq_true, Bool.and_eq_true] at hl
  have hC := bare_con hz
  have := p1_bare ez hC hl.2.2 hp
  rw [ez, this, show ((z ++ e).length : Int).toNat = (rv e ++ rv z).length by rw [← ez, rv_len]; rfl]
  exact run_5 hC hm
end Lith
end
section
open PySem PySem.W PyProof.Rows PySem.Calls PySem.Spec
set_option Elab.async false
set_option maxRecDepth 100000
namespace Lith
theorem news_top {h₀ : Heap} {L : Addr} {h : Heap} {x : Addr × Obj} {l news : List (Addr × Obj)} (N : News h₀ L h (x :: l)) (hl : ∀ p ∈ news, p ∈ l) : News h₀ L h (x :: news) :=
  kst_newsOf N fun p hp => by
    rcases List.mem_cons.mp hp with e | e
    · rw [e]; exact .head _
    · exact .tail _ (hl p e)
theorem lt_all {d : Addr} : ∀ {l : List (Addr × Obj)}, AllLt d l → ∀ p ∈ l, p.1 < d
  | [], _, _, h => nomatch h
  | q :: r, H, p, h => by
    rcases List.mem_cons.mp h with e | e
    · rw [e]; exact H.1
    · exact lt_all H.2 p e
theorem keeps_refl (s : Shared) : Keeps s s := ⟨s.heap, s.toks, rfl, fun _ _ h => h⟩
theorem lit_lens : (Str.ofString "čas").length = 3 ∧ (Str.ofString "tas").length = 3 ∧ (Str.ofString "as").length = 2 ∧ (Str.ofString "t").length = 1 ∧ (Str.ofString "č").length = 1 ∧ (Str.ofString "d").length = 1 ∧ (Str.ofString "im").length = 2 ∧ (Str.ofString "'").length = 1 := by decide +kernel
section
variable {w : World} {A : Around} {E : Value → Shared → Prop} {s : Shared} {h₀ : Heap} {L : Addr} {Q : Value → Shared → Prop} {u : Tok} {value slice : Expr} {news : List (Addr × Obj)}
theorem item_T0 {l : Addr} {x y : Value} (N : News h₀ L s.heap news) (hm : (l, { cls := .type "tuple", data := .seq #[x, y] }) ∈ news) (h : Q x s)
    (hs : subscripted slice false (.ref l) (.int 0 u) = operate [.ref l, .int 0 u] (PySem.getItem (.ref l) (.int 0 u)) := by with_unfolding_all rfl) (hg : ∀ r, letTemporaryGo value (.ref l) r = pure () := by intro _; with_unfolding_all rfl) :
    wpAny (model pg w) A (subscriptTail value slice (.ref l) (.int 0 u)) Q E s :=
  PyProof.Rows.item_tuple (items := #[x, y]) ⟨_, (N _ hm).1, rfl, _, rfl⟩ (by omega) (by omega) (j := 0) (by rfl) (by rfl) h hs hg
theorem item_T1 {l : Addr} {x y : Value} (N : News h₀ L s.heap news) (hm : (l, { cls := .type "tuple", data := .seq #[x, y] }) ∈ news) (h : Q y s)
    (hs : subscripted slice false (.ref l) (.int 1 u) = operate [.ref l, .int 1 u] (PySem.getItem (.ref l) (.int 1 u)) := by with_unfolding_all rfl) (hg : ∀ r, letTemporaryGo value (.ref l) r = pure () := by intro _; with_unfolding_all rfl) :
    wpAny (model pg w) A (subscriptTail value slice (.ref l) (.int 1 u)) Q E s :=
  PyProof.Rows.item_tuple (items := #[x, y]) ⟨_, (N _ hm).1, rfl, _, rfl⟩ (by omega) (by omega) (j := 1) (by rfl) (by rfl) h hs hg
end
theorem deed_len (n : Nat) : ([Str.ofString "oj", Str.ofString "ėj", Str.ofString "av"].getD n Str.empty).length ≤ 8 := getD_len (by decide +kernel) n
theorem close_okI {i : Int} (h0 : 0 ≤ i) (h1 : i < 8) : CloseOk (Txt.item closesS i) := by
  rw [item_eq h0 (by rw [closes_len]; exact h1)]
  exact ⟨chr closesS i, rv_one _, close_at h0 h1⟩
end Lith
end
section
open PySem PySem.W PyProof.Rows PySem.Calls Lith
local macro_rules | `(tactic| walk_at "eval Call") => `(tactic| (k_here; k_dflt (refine Call_ ?_)))
section
open PySem PySem.W PyProof.Rows PySem.Calls Lith
set_option Elab.async false
set_option maxRecDepth 100000
set_option maxHeartbeats 8000000
namespace Lith
local macro_rules | `(tactic| walk_at "pad 0") => `(tactic| skip)
local macro_rules | `(tactic| walk_at "eval List") => `(tactic| (refine halt_of ?_))


theorem c_ends {w : World} {lo : List Str} {mean : ExcName → Option Value} {mg mb : Str → Option Value} {dp un : Nat} {gd : Option (List Code)} {cn : Str} {cs : Scope} {a : Addr} {ccd : Value} {cl : List (Str × Addr)} {outer : List Env} {A₀ : Around} {base h₀ : Heap} {L : Addr} {m : Str → Option Value} {s : Shared} {Q E : Value → Shared → Prop} {news : List (Addr × Obj)} 
    (B : Below A₀ base outer h₀) (F : Fr h₀ L s.heap m) (X : (kL w.params).In h₀) (N : News h₀ L s.heap news) (TT : Top qv lo mean mg mb h₀) (hk : cs.kind = .function) (hd : dp + 6 < recursionLimit) (hu : un + 40 < cLine) 
    (ret : ∀ (l : Addr) (h' : Heap) (tk' : Nat) (vs : List Value), StrsAre vs (lawStrs 13) → Fr h₀ L h' m → News h₀ L h' ((l, listOf vs.toArray 0) :: news) → (∀ p ∈ news, p.1 < l) → Q (.ref l) { s with heap := h', toks := tk' }) :
    wpAny (model pg w) (ktrTop dp un gd cn cs L a ccd cl outer) (call (.ref 1120) []) Q E s := by
  have key : rl = rl := rfl
  revert X key
  k_fill
  intro X _
  refine wpAny_call ?_
  k_dflt (refine' code_def ?k1 ?k2 ?k3 ?k4 ?k5 ?kA ?kF ?kK ?k6 ?k7 ?k8 ?k9 ?kB ?_ ?c2 ?c3 ?c4 ?c5; (case kA | kF => exact rfl); (case kK => first | assumption | exact rfl); (case k1 | k2 | k3 | k4 | k5 => k_asm); (case k6 | k7 => k_is); (case k8 => ktr_room); (case k9 => exact BindsTo.of_eq rfl); (case c5 => decide); (case kB => exact locs rfl); (case c2 | c3 | c4 => exact rfl); k_whole; intro g' L' h' FG' F' N' B' X' T'; (try dsimp only); (try k_lift B'); (try k_fold))
  (repeat' (first | ((with_reducible refine of_halt ?_); first | (k_dflt (refine' strs_display (ss := lawStrs 13) ?F ?N ?e ?n ?_; (case F | N => k_asm); (case e => kernel_rfl); (case n => decide +kernel); k_whole); intro l' h' tk' vs' hS' F' N' l1)) | (k_unfold; (try dsimp only)) | (k_end; kc_close) | walk1 | (dsimp only; walk1)))
  exact ret _ _ _ _ (by assumption) (by k_asm) (by k_asm) (by assumption)
end Lith
end
section
open PySem PySem.W PyProof.Rows PySem.Calls Lith
set_option Elab.async false
set_option maxRecDepth 100000
set_option maxHeartbeats 8000000
namespace Lith
local macro_rules | `(tactic| walk_at "eval List") => `(tactic| (refine halt_of ?_))


theorem c_more {w : World} {lo : List Str} {mean : ExcName → Option Value} {mg mb : Str → Option Value} {dp un : Nat} {gd : Option (List Code)} {cn : Str} {cs : Scope} {a : Addr} {ccd : Value} {cl : List (Str × Addr)} {outer : List Env} {A₀ : Around} {base h₀ : Heap} {L : Addr} {m : Str → Option Value} {s : Shared} {Q E : Value → Shared → Prop} {news : List (Addr × Obj)} 
    (B : Below A₀ base outer h₀) (F : Fr h₀ L s.heap m) (X : (kL w.params).In h₀) (N : News h₀ L s.heap news) (TT : Top qv lo mean mg mb h₀) (hk : cs.kind = .function) (hd : dp + 6 < recursionLimit) (hu : un + 40 < cLine) 
    (ret : ∀ (l : Addr) (h' : Heap) (tk' : Nat) (vs : List Value), StrsAre vs (lawStrs 14) → Fr h₀ L h' m → News h₀ L h' ((l, listOf vs.toArray 0) :: news) → (∀ p ∈ news, p.1 < l) → Q (.ref l) { s with heap := h', toks := tk' }) :
    wpAny (model pg w) (ktrTop dp un gd cn cs L a ccd cl outer) (call (.ref 1127) []) Q E s := by
  have key : rl = rl := rfl
  revert X key
  k_fill
  intro X _
  refine wpAny_call ?_
  k_dflt (refine' code_def ?k1 ?k2 ?k3 ?k4 ?k5 ?kA ?kF ?kK ?k6 ?k7 ?k8 ?k9 ?kB ?_ ?c2 ?c3 ?c4 ?c5; (case kA | kF => exact rfl); (case kK => first | assumption | exact rfl); (case k1 | k2 | k3 | k4 | k5 => k_asm); (case k6 | k7 => k_is); (case k8 => ktr_room); (case k9 => exact BindsTo.of_eq rfl); (case c5 => decide); (case kB => exact locs rfl); (case c2 | c3 | c4 => exact rfl); k_whole; intro g' L' h' FG' F' N' B' X' T'; (try dsimp only); (try k_lift B'); (try k_fold))
  (repeat' (first | ((with_reducible refine of_halt ?_); first | (k_dflt (refine' strs_display (ss := lawStrs 14) ?F ?N ?e ?n ?_; (case F | N => k_asm); (case e => kernel_rfl); (case n => decide +kernel); k_whole); intro l' h' tk' vs' hS' F' N' l1)) | (k_unfold; (try dsimp only)) | (k_end; kc_close) | walk1 | (dsimp only; walk1)))
  exact ret _ _ _ _ (by assumption) (by k_asm) (by k_asm) (by assumption)
end Lith
end
section
open PySem PySem.W PyProof.Rows PySem.Calls Lith
set_option Elab.async false
set_option maxRecDepth 100000
set_option maxHeartbeats 8000000
namespace Lith
local macro_rules | `(tactic| walk_at "subscriptTail") => `(tactic| (with_reducible refine hlt_01cfe0 ?_))


local macro_rules | `(tactic| walk_at "subscriptTail") => `(tactic| (k_here; (fail_if_success (with_reducible show wpAny _ _ (subscriptTail (PySem.Expr.Name _ _) _ _ _) _ _ _)); k_dflt (refine kba_turn (value' := PySem.Expr.Name (PySem.Str.ofString "_") ⟨0, 0, 0, 0⟩) (fun _ => rfl) ?_)))

theorem c_end {w : World} {lo : List Str} {mean : ExcName → Option Value} {mg mb : Str → Option Value} {dp un : Nat} {gd : Option (List Code)} {cn : Str} {cs : Scope} {a : Addr} {ccd : Value} {cl : List (Str × Addr)} {outer : List Env} {A₀ : Around} {base h₀ : Heap} {L : Addr} {m : Str → Option Value} {s : Shared} {Q E : Value → Shared → Prop} {news : List (Addr × Obj)} {y : Int} {ty : Tok}
    (B : Below A₀ base outer h₀) (F : Fr h₀ L s.heap m) (X : (kL w.params).In h₀) (N : News h₀ L s.heap news) (TT : Top qv lo mean mg mb h₀) (hk : cs.kind = .function) (hd : dp + 10 < recursionLimit) (hu : un + 90 < cLine) 
    (ret : ∀ (z : Str) (t : Tok) (h' : Heap) (tk' : Nat), EndOk z → Fr h₀ L h' m → News h₀ L h' news → Q (.str z t) { s with heap := h', toks := tk' }) :
    wpAny (model pg w) (ktrTop dp un gd cn cs L a ccd cl outer) (call (.ref 1190) [.int y ty]) Q E s := by
  have key : rl = rl := rfl
  revert X key
  k_fill
  intro X _
  refine wpAny_call ?_
  k_dflt (refine' code_def ?k1 ?k2 ?k3 ?k4 ?k5 ?kA ?kF ?kK ?k6 ?k7 ?k8 ?k9 ?kB ?_ ?c2 ?c3 ?c4 ?c5; (case kA | kF => exact rfl); (case kK => first | assumption | exact rfl); (case k1 | k2 | k3 | k4 | k5 => k_asm); (case k6 | k7 => k_is); (case k8 => ktr_room); (case k9 => exact BindsTo.of_eq rfl); (case c5 => decide); (case kB => exact locs rfl); (case c2 | c3 | c4 => exact rfl); k_whole; intro g' L' h' FG' F' N' B' X' T'; (try dsimp only); (try k_lift B'); (try k_fold))
  (repeat' (first | ((with_reducible refine of_halt ?_); first | ((with_reducible show wpAny _ _ (subscriptTail _ _ (Value.ref _) (Value.int _ _)) _ _ _); (rename StrsAre _ _ => hSA9); k_dflt (refine' item_L ?N ?hm hSA9 ?hl ?hn ?h0 ?h1 ?_; (case N => k_asm); (case hm => k_mem); (case hl => first | with_reducible exact n13 | with_reducible exact n14 | with_reducible exact n15 | with_reducible exact n16 | with_reducible exact n17 | with_reducible exact n18 | with_reducible exact n20); (case hn => decide); (case h0 | h1 => ((try k_fmods); omega)); k_whole); intro z9 tz9 mz9; (try dsimp only)) | ((with_reducible show wpAny _ _ (call (Value.ref 1127) _) _ _ _); k_dflt (refine' c_more ?k1 ?k2 ?k3 ?k4 ?k5 ?k6 ?hd ?hu  ?_; (case k1 | k2 | k3 | k4 | k5 => k_asm); (case k6 => first | exact rfl | assumption); (case hd => ktr_room); (case hu => ktr_units);  k_whole); intro l9 h9 tk9 vs9 hS9 F9 N9 lt9; (try dsimp only)) | ((with_reducible show wpAny _ _ (call (Value.ref 1120) _) _ _ _); k_dflt (refine' c_ends ?k1 ?k2 ?k3 ?k4 ?k5 ?k6 ?hd ?hu  ?_; (case k1 | k2 | k3 | k4 | k5 => k_asm); (case k6 => first | exact rfl | assumption); (case hd => ktr_room); (case hu => ktr_units);  k_whole); intro l9 h9 tk9 vs9 hS9 F9 N9 lt9; (try dsimp only))) | (k_unfold; (try dsimp only)) | (k_end; kc_close) | walk1 | (dsimp only; walk1)))
  all_goals (rename (_ ∈ lawStrs _) => hM; refine' ret _ _ _ _ ?a ?b ?c; (case a => first | with_reducible exact end_13 hM | with_reducible exact end_14 hM); (case b => k_asm); (case c => (rename News _ _ _ _ => nZ; exact kst_newsOf nZ (by kst_inAny))))
end Lith
end
section
open PySem PySem.W PyProof.Rows PySem.Calls Lith
set_option Elab.async false
set_option maxRecDepth 100000
set_option maxHeartbeats 8000000
namespace Lith
local macro_rules | `(tactic| walk_at "eval List") => `(tactic| (refine halt_of ?_))


theorem c_joining {w : World} {lo : List Str} {mean : ExcName → Option Value} {mg mb : Str → Option Value} {dp un : Nat} {gd : Option (List Code)} {cn : Str} {cs : Scope} {a : Addr} {ccd : Value} {cl : List (Str × Addr)} {outer : List Env} {A₀ : Around} {base h₀ : Heap} {L : Addr} {m : Str → Option Value} {s : Shared} {Q E : Value → Shared → Prop} {news : List (Addr × Obj)} 
    (B : Below A₀ base outer h₀) (F : Fr h₀ L s.heap m) (X : (kL w.params).In h₀) (N : News h₀ L s.heap news) (TT : Top qv lo mean mg mb h₀) (hk : cs.kind = .function) (hd : dp + 6 < recursionLimit) (hu : un + 40 < cLine) 
    (ret : ∀ (l : Addr) (h' : Heap) (tk' : Nat) (vs : List Value), StrsAre vs (lawStrs 15) → Fr h₀ L h' m → News h₀ L h' ((l, listOf vs.toArray 0) :: news) → (∀ p ∈ news, p.1 < l) → Q (.ref l) { s with heap := h', toks := tk' }) :
    wpAny (model pg w) (ktrTop dp un gd cn cs L a ccd cl outer) (call (.ref 1134) []) Q E s := by
  have key : rl = rl := rfl
  revert X key
  k_fill
  intro X _
  refine wpAny_call ?_
  k_dflt (refine' code_def ?k1 ?k2 ?k3 ?k4 ?k5 ?kA ?kF ?kK ?k6 ?k7 ?k8 ?k9 ?kB ?_ ?c2 ?c3 ?c4 ?c5; (case kA | kF => exact rfl); (case kK => first | assumption | exact rfl); (case k1 | k2 | k3 | k4 | k5 => k_asm); (case k6 | k7 => k_is); (case k8 => ktr_room); (case k9 => exact BindsTo.of_eq rfl); (case c5 => decide); (case kB => exact locs rfl); (case c2 | c3 | c4 => exact rfl); k_whole; intro g' L' h' FG' F' N' B' X' T'; (try dsimp only); (try k_lift B'); (try k_fold))
  (repeat' (first | ((with_reducible refine of_halt ?_); first | (k_dflt (refine' strs_display (ss := lawStrs 15) ?F ?N ?e ?n ?_; (case F | N => k_asm); (case e => kernel_rfl); (case n => decide +kernel); k_whole); intro l' h' tk' vs' hS' F' N' l1)) | (k_unfold; (try dsimp only)) | (k_end; kc_close) | walk1 | (dsimp only; walk1)))
  exact ret _ _ _ _ (by assumption) (by k_asm) (by k_asm) (by assumption)
end Lith
end
section
open PySem PySem.W PyProof.Rows PySem.Calls Lith
set_option Elab.async false
set_option maxRecDepth 100000
set_option maxHeartbeats 8000000
namespace Lith
local macro_rules | `(tactic| walk_at "pad 0") => `(tactic| skip)
local macro_rules | `(tactic| walk_at "eval List") => `(tactic| (refine halt_of ?_))


theorem c_inner {w : World} {lo : List Str} {mean : ExcName → Option Value} {mg mb : Str → Option Value} {dp un : Nat} {gd : Option (List Code)} {cn : Str} {cs : Scope} {a : Addr} {ccd : Value} {cl : List (Str × Addr)} {outer : List Env} {A₀ : Around} {base h₀ : Heap} {L : Addr} {m : Str → Option Value} {s : Shared} {Q E : Value → Shared → Prop} {news : List (Addr × Obj)} 
    (B : Below A₀ base outer h₀) (F : Fr h₀ L s.heap m) (X : (kL w.params).In h₀) (N : News h₀ L s.heap news) (TT : Top qv lo mean mg mb h₀) (hk : cs.kind = .function) (hd : dp + 6 < recursionLimit) (hu : un + 40 < cLine) 
    (ret : ∀ (l : Addr) (h' : Heap) (tk' : Nat) (vs : List Value), StrsAre vs (lawStrs 16) → Fr h₀ L h' m → News h₀ L h' ((l, listOf vs.toArray 0) :: news) → (∀ p ∈ news, p.1 < l) → Q (.ref l) { s with heap := h', toks := tk' }) :
    wpAny (model pg w) (ktrTop dp un gd cn cs L a ccd cl outer) (call (.ref 1141) []) Q E s := by
  have key : rl = rl := rfl
  revert X key
  k_fill
  intro X _
  refine wpAny_call ?_
  k_dflt (refine' code_def ?k1 ?k2 ?k3 ?k4 ?k5 ?kA ?kF ?kK ?k6 ?k7 ?k8 ?k9 ?kB ?_ ?c2 ?c3 ?c4 ?c5; (case kA | kF => exact rfl); (case kK => first | assumption | exact rfl); (case k1 | k2 | k3 | k4 | k5 => k_asm); (case k6 | k7 => k_is); (case k8 => ktr_room); (case k9 => exact BindsTo.of_eq rfl); (case c5 => decide); (case kB => exact locs rfl); (case c2 | c3 | c4 => exact rfl); k_whole; intro g' L' h' FG' F' N' B' X' T'; (try dsimp only); (try k_lift B'); (try k_fold))
  (repeat' (first | ((with_reducible refine of_halt ?_); first | (k_dflt (refine' strs_display (ss := lawStrs 16) ?F ?N ?e ?n ?_; (case F | N => k_asm); (case e => kernel_rfl); (case n => decide +kernel); k_whole); intro l' h' tk' vs' hS' F' N' l1)) | (k_unfold; (try dsimp only)) | (k_end; kc_close) | walk1 | (dsimp only; walk1)))
  exact ret _ _ _ _ (by assumption) (by k_asm) (by k_asm) (by assumption)
end Lith
end
section
open PySem PySem.W PyProof.Rows PySem.Calls Lith
set_option Elab.async false
set_option maxRecDepth 100000
set_option maxHeartbeats 8000000
namespace Lith
local macro_rules | `(tactic| walk_at "eval List") => `(tactic| (refine halt_of ?_))


theorem c_women {w : World} {lo : List Str} {mean : ExcName → Option Value} {mg mb : Str → Option Value} {dp un : Nat} {gd : Option (List Code)} {cn : Str} {cs : Scope} {a : Addr} {ccd : Value} {cl : List (Str × Addr)} {outer : List Env} {A₀ : Around} {base h₀ : Heap} {L : Addr} {m : Str → Option Value} {s : Shared} {Q E : Value → Shared → Prop} {news : List (Addr × Obj)} 
    (B : Below A₀ base outer h₀) (F : Fr h₀ L s.heap m) (X : (kL w.params).In h₀) (N : News h₀ L s.heap news) (TT : Top qv lo mean mg mb h₀) (hk : cs.kind = .function) (hd : dp + 6 < recursionLimit) (hu : un + 40 < cLine) 
    (ret : ∀ (l : Addr) (h' : Heap) (tk' : Nat) (vs : List Value), StrsAre vs (lawStrs 17) → Fr h₀ L h' m → News h₀ L h' ((l, listOf vs.toArray 0) :: news) → (∀ p ∈ news, p.1 < l) → Q (.ref l) { s with heap := h', toks := tk' }) :
    wpAny (model pg w) (ktrTop dp un gd cn cs L a ccd cl outer) (call (.ref 1148) []) Q E s := by
  have key : rl = rl := rfl
  revert X key
  k_fill
  intro X _
  refine wpAny_call ?_
  k_dflt (refine' code_def ?k1 ?k2 ?k3 ?k4 ?k5 ?kA ?kF ?kK ?k6 ?k7 ?k8 ?k9 ?kB ?_ ?c2 ?c3 ?c4 ?c5; (case kA | kF => exact rfl); (case kK => first | assumption | exact rfl); (case k1 | k2 | k3 | k4 | k5 => k_asm); (case k6 | k7 => k_is); (case k8 => ktr_room); (case k9 => exact BindsTo.of_eq rfl); (case c5 => decide); (case kB => exact locs rfl); (case c2 | c3 | c4 => exact rfl); k_whole; intro g' L' h' FG' F' N' B' X' T'; (try dsimp only); (try k_lift B'); (try k_fold))
  (repeat' (first | ((with_reducible refine of_halt ?_); first | (k_dflt (refine' strs_display (ss := lawStrs 17) ?F ?N ?e ?n ?_; (case F | N => k_asm); (case e => kernel_rfl); (case n => decide +kernel); k_whole); intro l' h' tk' vs' hS' F' N' l1)) | (k_unfold; (try dsimp only)) | (k_end; kc_close) | walk1 | (dsimp only; walk1)))
  exact ret _ _ _ _ (by assumption) (by k_asm) (by k_asm) (by assumption)
end Lith
end
section
open PySem PySem.W PyProof.Rows PySem.Calls Lith
set_option Elab.async false
set_option maxRecDepth 100000
set_option maxHeartbeats 8000000
namespace Lith
local macro_rules | `(tactic| walk_at "pad 0") => `(tactic| skip)
local macro_rules | `(tactic| walk_at "eval List") => `(tactic| (refine halt_of ?_))


theorem c_deeds {w : World} {lo : List Str} {mean : ExcName → Option Value} {mg mb : Str → Option Value} {dp un : Nat} {gd : Option (List Code)} {cn : Str} {cs : Scope} {a : Addr} {ccd : Value} {cl : List (Str × Addr)} {outer : List Env} {A₀ : Around} {base h₀ : Heap} {L : Addr} {m : Str → Option Value} {s : Shared} {Q E : Value → Shared → Prop} {news : List (Addr × Obj)} 
    (B : Below A₀ base outer h₀) (F : Fr h₀ L s.heap m) (X : (kL w.params).In h₀) (N : News h₀ L s.heap news) (TT : Top qv lo mean mg mb h₀) (hk : cs.kind = .function) (hd : dp + 6 < recursionLimit) (hu : un + 40 < cLine) 
    (ret : ∀ (l : Addr) (h' : Heap) (tk' : Nat) (vs : List Value), StrsAre vs (lawStrs 18) → Fr h₀ L h' m → News h₀ L h' ((l, listOf vs.toArray 0) :: news) → (∀ p ∈ news, p.1 < l) → Q (.ref l) { s with heap := h', toks := tk' }) :
    wpAny (model pg w) (ktrTop dp un gd cn cs L a ccd cl outer) (call (.ref 1155) []) Q E s := by
  have key : rl = rl := rfl
  revert X key
  k_fill
  intro X _
  refine wpAny_call ?_
  k_dflt (refine' code_def ?k1 ?k2 ?k3 ?k4 ?k5 ?kA ?kF ?kK ?k6 ?k7 ?k8 ?k9 ?kB ?_ ?c2 ?c3 ?c4 ?c5; (case kA | kF => exact rfl); (case kK => first | assumption | exact rfl); (case k1 | k2 | k3 | k4 | k5 => k_asm); (case k6 | k7 => k_is); (case k8 => ktr_room); (case k9 => exact BindsTo.of_eq rfl); (case c5 => decide); (case kB => exact locs rfl); (case c2 | c3 | c4 => exact rfl); k_whole; intro g' L' h' FG' F' N' B' X' T'; (try dsimp only); (try k_lift B'); (try k_fold))
  (repeat' (first | ((with_reducible refine of_halt ?_); first | (k_dflt (refine' strs_display (ss := lawStrs 18) ?F ?N ?e ?n ?_; (case F | N => k_asm); (case e => kernel_rfl); (case n => decide +kernel); k_whole); intro l' h' tk' vs' hS' F' N' l1)) | (k_unfold; (try dsimp only)) | (k_end; kc_close) | walk1 | (dsimp only; walk1)))
  exact ret _ _ _ _ (by assumption) (by k_asm) (by k_asm) (by assumption)
end Lith
end
section
open PySem PySem.W PyProof.Rows PySem.Calls Lith
set_option Elab.async false
set_option maxRecDepth 100000
set_option maxHeartbeats 8000000
namespace Lith
local macro_rules | `(tactic| walk_at "eval List") => `(tactic| (refine halt_of ?_))


theorem c_short {w : World} {lo : List Str} {mean : ExcName → Option Value} {mg mb : Str → Option Value} {dp un : Nat} {gd : Option (List Code)} {cn : Str} {cs : Scope} {a : Addr} {ccd : Value} {cl : List (Str × Addr)} {outer : List Env} {A₀ : Around} {base h₀ : Heap} {L : Addr} {m : Str → Option Value} {s : Shared} {Q E : Value → Shared → Prop} {news : List (Addr × Obj)} 
    (B : Below A₀ base outer h₀) (F : Fr h₀ L s.heap m) (X : (kL w.params).In h₀) (N : News h₀ L s.heap news) (TT : Top qv lo mean mg mb h₀) (hk : cs.kind = .function) (hd : dp + 6 < recursionLimit) (hu : un + 40 < cLine) 
    (ret : ∀ (l : Addr) (h' : Heap) (tk' : Nat) (vs : List Value), StrsAre vs (lawStrs 20) → Fr h₀ L h' m → News h₀ L h' ((l, listOf vs.toArray 0) :: news) → (∀ p ∈ news, p.1 < l) → Q (.ref l) { s with heap := h', toks := tk' }) :
    wpAny (model pg w) (ktrTop dp un gd cn cs L a ccd cl outer) (call (.ref 1169) []) Q E s := by
  have key : rl = rl := rfl
  revert X key
  k_fill
  intro X _
  refine wpAny_call ?_
  k_dflt (refine' code_def ?k1 ?k2 ?k3 ?k4 ?k5 ?kA ?kF ?kK ?k6 ?k7 ?k8 ?k9 ?kB ?_ ?c2 ?c3 ?c4 ?c5; (case kA | kF => exact rfl); (case kK => first | assumption | exact rfl); (case k1 | k2 | k3 | k4 | k5 => k_asm); (case k6 | k7 => k_is); (case k8 => ktr_room); (case k9 => exact BindsTo.of_eq rfl); (case c5 => decide); (case kB => exact locs rfl); (case c2 | c3 | c4 => exact rfl); k_whole; intro g' L' h' FG' F' N' B' X' T'; (try dsimp only); (try k_lift B'); (try k_fold))
  (repeat' (first | ((with_reducible refine of_halt ?_); first | (k_dflt (refine' strs_display (ss := lawStrs 20) ?F ?N ?e ?n ?_; (case F | N => k_asm); (case e => kernel_rfl); (case n => decide +kernel); k_whole); intro l' h' tk' vs' hS' F' N' l1)) | (k_unfold; (try dsimp only)) | (k_end; kc_close) | walk1 | (dsimp only; walk1)))
  exact ret _ _ _ _ (by assumption) (by k_asm) (by k_asm) (by assumption)
end Lith
end
section
open PySem PySem.W PyProof.Rows PySem.Calls Lith
set_option Elab.async false
set_option maxRecDepth 100000
set_option maxHeartbeats 8000000
namespace Lith


theorem c_pairs {w : World} {lo : List Str} {mean : ExcName → Option Value} {mg mb : Str → Option Value} {dp un : Nat} {gd : Option (List Code)} {cn : Str} {cs : Scope} {a : Addr} {ccd : Value} {cl : List (Str × Addr)} {outer : List Env} {A₀ : Around} {base h₀ : Heap} {L : Addr} {m : Str → Option Value} {s : Shared} {Q E : Value → Shared → Prop} {news : List (Addr × Obj)} 
    (B : Below A₀ base outer h₀) (F : Fr h₀ L s.heap m) (X : (kL w.params).In h₀) (N : News h₀ L s.heap news) (TT : Top qv lo mean mg mb h₀) (hk : cs.kind = .function) (hd : dp + 6 < recursionLimit) (hu : un + 40 < cLine) 
    (ret : ∀ (l a b c d : Addr) (ta tb tc td ta' tb' tc' td' : Tok) (h' : Heap) (tk' : Nat), Fr h₀ L h' m → News h₀ L h' ((l, listOf #[.ref a, .ref b, .ref c, .ref d] 0) :: (d, { cls := .type "tuple", data := .seq #[.str (Str.ofString "esiu") td, .str (Str.ofString "es") td'] }) :: (c, { cls := .type "tuple", data := .seq #[.str (Str.ofString "esys") tc, .str (Str.ofString "es") tc'] }) :: (b, { cls := .type "tuple", data := .seq #[.str (Str.ofString "asius") tb, .str (Str.ofString "as") tb'] }) :: (a, { cls := .type "tuple", data := .seq #[.str (Str.ofString "asys") ta, .str (Str.ofString "as") ta'] }) :: news) → (d < l ∧ c < l ∧ b < l ∧ a < l ∧ AllLt l news) → Q (.ref l) { s with heap := h', toks := tk' }) :
    wpAny (model pg w) (ktrTop dp un gd cn cs L a ccd cl outer) (call (.ref 1162) []) Q E s := by
  have key : rl = rl := rfl
  revert X key
  k_fill
  intro X _
  refine wpAny_call ?_
  k_dflt (refine' code_def ?k1 ?k2 ?k3 ?k4 ?k5 ?kA ?kF ?kK ?k6 ?k7 ?k8 ?k9 ?kB ?_ ?c2 ?c3 ?c4 ?c5; (case kA | kF => exact rfl); (case kK => first | assumption | exact rfl); (case k1 | k2 | k3 | k4 | k5 => k_asm); (case k6 | k7 => k_is); (case k8 => ktr_room); (case k9 => exact BindsTo.of_eq rfl); (case c5 => decide); (case kB => exact locs rfl); (case c2 | c3 | c4 => exact rfl); k_whole; intro g' L' h' FG' F' N' B' X' T'; (try dsimp only); (try k_lift B'); (try k_fold))
  k_steps
  exact ret _ _ _ _ _ _ _ _ _ _ _ _ _ _ _ (by k_asm) (by k_asm) (by assumption)
end Lith
end
section
open PySem PySem.W PyProof.Rows PySem.Calls Lith
set_option Elab.async false
set_option maxRecDepth 100000
set_option maxHeartbeats 8000000
namespace Lith
local macro_rules | `(tactic| walk_at "subscriptTail") => `(tactic| (first | with_reducible refine hlt_01cfe0 ?_ | with_reducible refine hlt_7b72ec ?_ | with_reducible refine hlt_990c4e ?_ | with_reducible refine hlt_a1438e ?_))
local macro_rules | `(tactic| walk_at "subscriptTail Name BinOp ref int") => `(tactic| (first | with_reducible refine hlt_01cfe0 ?_ | with_reducible refine hlt_7b72ec ?_ | with_reducible refine hlt_990c4e ?_ | with_reducible refine hlt_a1438e ?_))
local macro_rules | `(tactic| walk_at "subscriptTail Name Name ref int") => `(tactic| (first | with_reducible refine hlt_01cfe0 ?_ | with_reducible refine hlt_7b72ec ?_ | with_reducible refine hlt_990c4e ?_ | with_reducible refine hlt_a1438e ?_))
local macro_rules | `(tactic| walk_at "binaryOp Add str str") => `(tactic| (with_reducible refine hlt_c6d1d4 ?_))
local macro_rules | `(tactic| walk_at "last call builtin:str.join") => `(tactic| (with_reducible refine hlt_127ea8 ?_))
local macro_rules | `(tactic| walk_at "InvEndN") => `(tactic| (refine halt_of ?_))


local macro_rules | `(tactic| walk_at "eval List") => `(tactic| (k_here; k_dflt (refine' strs_display ?F ?N ?e ?n ?_; (case F | N => k_asm); (case e => exact rfl); (case n => exact Nat.le_of_ble_eq_true rfl); k_whole); intro l' h' tk' vs' hS' F' N' l1))

local macro_rules | `(tactic| walk_at "ite") => `(tactic| (k_here; k_dflt (first | refine ite_l (by first | omega | (simp only [decide_eq_true_eq, beq_iff_eq]; omega)) ?_ | refine ite_r (by first | omega | (simp only [decide_eq_true_eq, beq_iff_eq]; omega)) ?_); (try dsimp only)))

local macro_rules | `(tactic| walk_at "eval ListComp") => `(tactic| (k_here; k_dflt (refine' comp_signs (fun a9 => !(!(Builtin.Str.occurrences vowelsS a9 0 vowelsS.length 1).isEmpty)) ?F ?N ?hy ?it ?hh ?hfree ?hcell ?hkind ?hnames ?hx ?_ ?_ ?_; (case F | N => k_asm); (case it => (intro _ _; k_dflt (refine' ld ?k1 ?k2 ?_; (case k1 => k_asm); (case k2 => exact rfl); assumption))); (case hy => (refine Nat.le_trans (m := 1000) (by omega) (Nat.le_of_ble_eq_true (by kernel_rfl)))); (case hh => exact rfl); (case hfree | hcell => decide); (case hkind => exact rfl); (case hnames => decide); (case hx => exact rfl); k_whole); intros; (try dsimp only)))

local macro_rules | `(tactic| walk_at "exec For") => `(tactic| refine halt_of ?_)
local macro_rules | `(tactic| walk_at "exec For Name Call cons nil") => `(tactic| refine halt_of ?_)
local macro_rules | `(tactic| walk_at "pyIter ref") => `(tactic| refine halt_of ?_)

local macro_rules | `(tactic| walk_at "subscriptTail") => `(tactic| (k_here; (fail_if_success (with_reducible show wpAny _ _ (subscriptTail (PySem.Expr.Name _ _) _ _ _) _ _ _)); k_dflt (refine kba_turn (value' := PySem.Expr.Name (PySem.Str.ofString "_") ⟨0, 0, 0, 0⟩) (fun _ => rfl) ?_)))


theorem c_lword {w : World} {lo : List Str} {mean : ExcName → Option Value} {mg mb : Str → Option Value} {dp un : Nat} {gd : Option (List Code)} {cn : Str} {cs : Scope} {a : Addr} {ccd : Value} {cl : List (Str × Addr)} {outer : List Env} {A₀ : Around} {base h₀ : Heap} {L : Addr} {m : Str → Option Value} {s : Shared} {Q E : Value → Shared → Prop} {news : List (Addr × Obj)} {bd cz : Str} {tb tc tx ty : Tok} {x y : Int}
    (B : Below A₀ base outer h₀) (F : Fr h₀ L s.heap m) (X : (kL w.params).In h₀) (N : News h₀ L s.heap news) (TT : Top qv lo mean mg mb h₀) (hk : cs.kind = .function) (hd : dp + 16 < recursionLimit) (hu : un + 200 < cLine) (hb : BodyOk bd) (hb7 : bd.length ≤ 7) (hcz : CloseOk cz)
    (ret : ∀ (T : Addr) (z t : Str) (tz tt : Tok) (h' : Heap) (tk' : Nat), StemOf z t → z.length ≤ 60 → t.length ≤ 60 → Fr h₀ L h' m → News h₀ L h' ((T, { cls := .type "tuple", data := .seq #[.str z tz, .str t tt] }) :: news) → (∀ p ∈ news, p.1 < T) → Q (.ref T) { s with heap := h', toks := tk' }) :
    wpAny (model pg w) (ktrTop dp un gd cn cs L a ccd cl outer) (call (.ref 1195) [.str bd tb, .str cz tc, .int x tx, .int y ty]) Q E s := by
  have key : rl = rl := rfl
  revert X key
  k_fill
  intro X _
  refine wpAny_call ?_
  k_dflt (refine' code_def ?k1 ?k2 ?k3 ?k4 ?k5 ?kA ?kF ?kK ?k6 ?k7 ?k8 ?k9 ?kB ?_ ?c2 ?c3 ?c4 ?c5; (case kA | kF => exact rfl); (case kK => first | assumption | exact rfl); (case k1 | k2 | k3 | k4 | k5 => k_asm); (case k6 | k7 => k_is); (case k8 => ktr_room); (case k9 => exact BindsTo.of_eq rfl); (case c5 => decide); (case kB => exact locs rfl); (case c2 | c3 | c4 => exact rfl); k_whole; intro g' L' h' FG' F' N' B' X' T'; (try dsimp only); (try k_lift B'); (try k_fold))
  have hc1 := close_len hcz
  have q9 := lit_lens
  (repeat' (first | ((with_reducible refine of_halt ?_); first | (k_end; goal_has PySem.W.InvEndN; (rename News _ _ _ _ => nE'); (try simp only [List.push_toArray] at nE'); (refine kst_end ⟨_, _, _, _⟩ (by assumption) nE' (by intro p hp; first | assumption | exact List.mem_append_left _ hp | exact List.mem_cons_of_mem _ (List.mem_append_left _ hp)) (by intro p hp; first | assumption | exact List.mem_append_right _ hp | exact List.mem_cons_of_mem _ (List.mem_append_right _ hp)) (by rfl) (by kst_facts) (by first | ((try dsimp only); (repeat (first | exact List.forall_mem_nil _ | refine fm (by with_unfolding_all exact @rfl _ (some _)) ?_)); done) | kst_all) (by first | ((intro z h1 h2 h3); (try dsimp only at h2); (repeat (refine ifn ?_ ?_; first | with_reducible exact h1 | with_reducible exact h2 (_, _) (by (repeat (first | exact List.mem_cons_self | refine List.mem_cons_of_mem _ ?_))) | exact cnf h3 | exact nst h3 (by decide +kernel))); rfl) | kst_same) (halt_of ?_))) | ((with_reducible show wpAny _ _ (call (Value.builtin "str.join") [Value.str _ _, Value.ref _]) _ _ _); (rename StrsAre _ (List.filter _ _) => hSJ9); (rename Heap.IsList _ _ _ => hLJ9); k_dflt (refine' join_signsK hLJ9 hSJ9 (by omega) (by kernel_rfl) ?_; k_whole); intro z9 tz9 k9 hz9 lz9; (try dsimp only)) | ((with_reducible show wpAny _ _ (subscriptTail _ _ (Value.ref _) (Value.int 1 _)) _ _ _); k_dflt (refine' item_T1 ?N ?hm ?_; (case N => k_asm); (case hm => exact .head _); k_whole)) | ((with_reducible show wpAny _ _ (subscriptTail _ _ (Value.ref _) (Value.int 0 _)) _ _ _); k_dflt (refine' item_T0 ?N ?hm ?_; (case N => k_asm); (case hm => exact .head _); k_whole)) | ((with_reducible show wpAny _ _ (subscriptTail _ _ (Value.ref _) (Value.int (_ : Int) _)) _ _ _); k_dflt (refine' item_P ?N ?hm ?ma ?mb ?mc ?md ?h0 ?h1 ?_; (case N => k_asm); (case hm | ma | mb | mc | md => k_mem); (case h0 | h1 => ((try k_fmods); omega)); k_whole); intro D9 z9 y9 tz9 ty9 e9 lz9 ly9 N9; (try dsimp only)) | ((with_reducible show wpAny _ _ (call (Value.ref 1162) _) _ _ _); k_dflt (refine' c_pairs ?k1 ?k2 ?k3 ?k4 ?k5 ?k6 ?hd ?hu  ?_; (case k1 | k2 | k3 | k4 | k5 => k_asm); (case k6 => first | exact rfl | assumption); (case hd => ktr_room); (case hu => ktr_units);  k_whole); intro l9 da9 db9 dc9 dd9 u1 u2 u3 u4 u5 u6 u7 u8 h9 tk9 F9 N9 lt9; (try dsimp only)) | ((with_reducible show wpAny _ _ (binaryOp Operator.Add (Value.str _ _) (Value.str _ _)) _ _ _); (refine KOpn.add (Nat.le_trans (m := 1000) (by first | ((refine ladd5 ?_ ?_ <;> ((repeat' (first | (refine lar ?_ (by (first | exact lle (by with_reducible assumption) (by rfl) | exact lle (cj1e (by with_reducible assumption)) (by rfl) | exact lle (Nat.le_of_eq (by with_reducible assumption)) (by rfl) | exact lle (lit8 (by kernel_rfl)) (by rfl))) rfl) | (refine lar24 ?_ (by (first | exact lle (by with_reducible assumption) (by rfl) | exact lle (cj1e (by with_reducible assumption)) (by rfl) | exact lle (Nat.le_of_eq (by with_reducible assumption)) (by rfl) | exact lle (lit8 (by kernel_rfl)) (by rfl))) rfl) | (first | exact lle (by with_reducible assumption) (by rfl) | exact lle (cj1e (by with_reducible assumption)) (by rfl) | exact lle (Nat.le_of_eq (by with_reducible assumption)) (by rfl) | exact lle (lit8 (by kernel_rfl)) (by rfl)))); done)); done) | omega) (Nat.le_of_ble_eq_true rfl)) ?_); intro _ _ _) | ((with_reducible show wpAny _ _ (subscriptTail _ _ (Value.ref _) (Value.int _ _)) _ _ _); (rename StrsAre _ (_ :: _) => hSA9); k_dflt (refine' item_G ?N ?hm hSA9 ?hl ?hn ?ha ?h0 ?h1 ?_; (case N => k_asm); (case hm => k_mem); (case hl => exact rfl); (case hn => decide); (case ha => decide +kernel); (case h0 => ((try k_fmods); omega)); (case h1 => first | ((try k_fmods); omega) | exact Int.lt_of_lt_of_le (b := 3) (by omega) (by decide)); k_whole); intro z9 tz9 mz9 lz9; (try dsimp only)) | ((with_reducible show wpAny _ _ (subscriptTail _ _ (Value.ref _) (Value.int _ _)) _ _ _); (rename StrsAre _ _ => hSA9); k_dflt (refine' item_L ?N ?hm hSA9 ?hl ?hn ?h0 ?h1 ?_; (case N => k_asm); (case hm => k_mem); (case hl => first | with_reducible exact n13 | with_reducible exact n14 | with_reducible exact n15 | with_reducible exact n16 | with_reducible exact n17 | with_reducible exact n18 | with_reducible exact n20); (case hn => decide); (case h0 | h1 => ((try k_fmods); omega)); k_whole); intro z9 tz9 mz9; (try (have lz9 : z9.length ≤ 8 := by first | with_reducible exact inner_len mz9 | with_reducible exact women_len mz9 | with_reducible exact deeds_len mz9 | with_reducible exact short_len mz9)); (try dsimp only)) | ((with_reducible show wpAny _ _ (call (Value.ref 1169) _) _ _ _); k_dflt (refine' c_short ?k1 ?k2 ?k3 ?k4 ?k5 ?k6 ?hd ?hu  ?_; (case k1 | k2 | k3 | k4 | k5 => k_asm); (case k6 => first | exact rfl | assumption); (case hd => ktr_room); (case hu => ktr_units);  k_whole); intro l9 h9 tk9 vs9 hS9 F9 N9 lt9; (try dsimp only)) | ((with_reducible show wpAny _ _ (call (Value.ref 1155) _) _ _ _); k_dflt (refine' c_deeds ?k1 ?k2 ?k3 ?k4 ?k5 ?k6 ?hd ?hu  ?_; (case k1 | k2 | k3 | k4 | k5 => k_asm); (case k6 => first | exact rfl | assumption); (case hd => ktr_room); (case hu => ktr_units);  k_whole); intro l9 h9 tk9 vs9 hS9 F9 N9 lt9; (try dsimp only)) | ((with_reducible show wpAny _ _ (call (Value.ref 1148) _) _ _ _); k_dflt (refine' c_women ?k1 ?k2 ?k3 ?k4 ?k5 ?k6 ?hd ?hu  ?_; (case k1 | k2 | k3 | k4 | k5 => k_asm); (case k6 => first | exact rfl | assumption); (case hd => ktr_room); (case hu => ktr_units);  k_whole); intro l9 h9 tk9 vs9 hS9 F9 N9 lt9; (try dsimp only)) | ((with_reducible show wpAny _ _ (call (Value.ref 1141) _) _ _ _); k_dflt (refine' c_inner ?k1 ?k2 ?k3 ?k4 ?k5 ?k6 ?hd ?hu  ?_; (case k1 | k2 | k3 | k4 | k5 => k_asm); (case k6 => first | exact rfl | assumption); (case hd => ktr_room); (case hu => ktr_units);  k_whole); intro l9 h9 tk9 vs9 hS9 F9 N9 lt9; (try dsimp only)) | ((with_reducible show wpAny _ _ (call (Value.ref 1134) _) _ _ _); k_dflt (refine' c_joining ?k1 ?k2 ?k3 ?k4 ?k5 ?k6 ?hd ?hu  ?_; (case k1 | k2 | k3 | k4 | k5 => k_asm); (case k6 => first | exact rfl | assumption); (case hd => ktr_room); (case hu => ktr_units);  k_whole); intro l9 h9 tk9 vs9 hS9 F9 N9 lt9; (try dsimp only)) | ((with_reducible show wpAny _ _ (call (Value.ref 1190) _) _ _ _); k_dflt (refine' c_end ?k1 ?k2 ?k3 ?k4 ?k5 ?k6 ?hd ?hu  ?_; (case k1 | k2 | k3 | k4 | k5 => k_asm); (case k6 => first | exact rfl | assumption); (case hd => ktr_room); (case hu => ktr_units);  k_whole); intro z9 tz9 h9 tk9 mz9 F9 N9; (have ln9 := end_len mz9); (try dsimp only))) | (k_unfold; (try dsimp only)) | (k_end; kc_close) | walk1 | (dsimp only; walk1)))
  all_goals first | exact Carried.str _ _ | exact keeps_refl _ | (refine of_halt ?_; (rename Fr _ _ _ _ => F1); (rename News _ _ _ _ => N1); (refine For_invVF F1 rfl rfl ?_); (repeat' (first | ((with_reducible refine of_halt ?_); first | (k_end; goal_has PySem.W.InvEndN; (rename News _ _ _ _ => nE'); (try simp only [List.push_toArray] at nE'); (refine kst_end ⟨_, _, _, _⟩ (by assumption) nE' (by intro p hp; first | assumption | exact List.mem_append_left _ hp | exact List.mem_cons_of_mem _ (List.mem_append_left _ hp)) (by intro p hp; first | assumption | exact List.mem_append_right _ hp | exact List.mem_cons_of_mem _ (List.mem_append_right _ hp)) (by rfl) (by kst_facts) (by first | ((try dsimp only); (repeat (first | exact List.forall_mem_nil _ | refine fm (by with_unfolding_all exact @rfl _ (some _)) ?_)); done) | kst_all) (by first | ((intro z h1 h2 h3); (try dsimp only at h2); (repeat (refine ifn ?_ ?_; first | with_reducible exact h1 | with_reducible exact h2 (_, _) (by (repeat (first | exact List.mem_cons_self | refine List.mem_cons_of_mem _ ?_))) | exact cnf h3 | exact nst h3 (by decide +kernel))); rfl) | kst_same) (halt_of ?_))) | ((with_reducible show wpAny _ _ (call (Value.builtin "str.join") [Value.str _ _, Value.ref _]) _ _ _); (rename StrsAre _ (List.filter _ _) => hSJ9); (rename Heap.IsList _ _ _ => hLJ9); k_dflt (refine' join_signsK hLJ9 hSJ9 (by omega) (by kernel_rfl) ?_; k_whole); intro z9 tz9 k9 hz9 lz9; (try dsimp only)) | ((with_reducible show wpAny _ _ (subscriptTail _ _ (Value.ref _) (Value.int 1 _)) _ _ _); k_dflt (refine' item_T1 ?N ?hm ?_; (case N => k_asm); (case hm => exact .head _); k_whole)) | ((with_reducible show wpAny _ _ (subscriptTail _ _ (Value.ref _) (Value.int 0 _)) _ _ _); k_dflt (refine' item_T0 ?N ?hm ?_; (case N => k_asm); (case hm => exact .head _); k_whole)) | ((with_reducible show wpAny _ _ (subscriptTail _ _ (Value.ref _) (Value.int (_ : Int) _)) _ _ _); k_dflt (refine' item_P ?N ?hm ?ma ?mb ?mc ?md ?h0 ?h1 ?_; (case N => k_asm); (case hm | ma | mb | mc | md => k_mem); (case h0 | h1 => ((try k_fmods); omega)); k_whole); intro D9 z9 y9 tz9 ty9 e9 lz9 ly9 N9; (try dsimp only)) | ((with_reducible show wpAny _ _ (call (Value.ref 1162) _) _ _ _); k_dflt (refine' c_pairs ?k1 ?k2 ?k3 ?k4 ?k5 ?k6 ?hd ?hu  ?_; (case k1 | k2 | k3 | k4 | k5 => k_asm); (case k6 => first | exact rfl | assumption); (case hd => ktr_room); (case hu => ktr_units);  k_whole); intro l9 da9 db9 dc9 dd9 u1 u2 u3 u4 u5 u6 u7 u8 h9 tk9 F9 N9 lt9; (try dsimp only)) | ((with_reducible show wpAny _ _ (binaryOp Operator.Add (Value.str _ _) (Value.str _ _)) _ _ _); (refine KOpn.add (Nat.le_trans (m := 1000) (by first | ((refine ladd5 ?_ ?_ <;> ((repeat' (first | (refine lar ?_ (by (first | exact lle (by with_reducible assumption) (by rfl) | exact lle (cj1e (by with_reducible assumption)) (by rfl) | exact lle (Nat.le_of_eq (by with_reducible assumption)) (by rfl) | exact lle (lit8 (by kernel_rfl)) (by rfl))) rfl) | (refine lar24 ?_ (by (first | exact lle (by with_reducible assumption) (by rfl) | exact lle (cj1e (by with_reducible assumption)) (by rfl) | exact lle (Nat.le_of_eq (by with_reducible assumption)) (by rfl) | exact lle (lit8 (by kernel_rfl)) (by rfl))) rfl) | (first | exact lle (by with_reducible assumption) (by rfl) | exact lle (cj1e (by with_reducible assumption)) (by rfl) | exact lle (Nat.le_of_eq (by with_reducible assumption)) (by rfl) | exact lle (lit8 (by kernel_rfl)) (by rfl)))); done)); done) | omega) (Nat.le_of_ble_eq_true rfl)) ?_); intro _ _ _) | ((with_reducible show wpAny _ _ (subscriptTail _ _ (Value.ref _) (Value.int _ _)) _ _ _); (rename StrsAre _ (_ :: _) => hSA9); k_dflt (refine' item_G ?N ?hm hSA9 ?hl ?hn ?ha ?h0 ?h1 ?_; (case N => k_asm); (case hm => k_mem); (case hl => exact rfl); (case hn => decide); (case ha => decide +kernel); (case h0 => ((try k_fmods); omega)); (case h1 => first | ((try k_fmods); omega) | exact Int.lt_of_lt_of_le (b := 3) (by omega) (by decide)); k_whole); intro z9 tz9 mz9 lz9; (try dsimp only)) | ((with_reducible show wpAny _ _ (subscriptTail _ _ (Value.ref _) (Value.int _ _)) _ _ _); (rename StrsAre _ _ => hSA9); k_dflt (refine' item_L ?N ?hm hSA9 ?hl ?hn ?h0 ?h1 ?_; (case N => k_asm); (case hm => k_mem); (case hl => first | with_reducible exact n13 | with_reducible exact n14 | with_reducible exact n15 | with_reducible exact n16 | with_reducible exact n17 | with_reducible exact n18 | with_reducible exact n20); (case hn => decide); (case h0 | h1 => ((try k_fmods); omega)); k_whole); intro z9 tz9 mz9; (try (have lz9 : z9.length ≤ 8 := by first | with_reducible exact inner_len mz9 | with_reducible exact women_len mz9 | with_reducible exact deeds_len mz9 | with_reducible exact short_len mz9)); (try dsimp only)) | ((with_reducible show wpAny _ _ (call (Value.ref 1169) _) _ _ _); k_dflt (refine' c_short ?k1 ?k2 ?k3 ?k4 ?k5 ?k6 ?hd ?hu  ?_; (case k1 | k2 | k3 | k4 | k5 => k_asm); (case k6 => first | exact rfl | assumption); (case hd => ktr_room); (case hu => ktr_units);  k_whole); intro l9 h9 tk9 vs9 hS9 F9 N9 lt9; (try dsimp only)) | ((with_reducible show wpAny _ _ (call (Value.ref 1155) _) _ _ _); k_dflt (refine' c_deeds ?k1 ?k2 ?k3 ?k4 ?k5 ?k6 ?hd ?hu  ?_; (case k1 | k2 | k3 | k4 | k5 => k_asm); (case k6 => first | exact rfl | assumption); (case hd => ktr_room); (case hu => ktr_units);  k_whole); intro l9 h9 tk9 vs9 hS9 F9 N9 lt9; (try dsimp only)) | ((with_reducible show wpAny _ _ (call (Value.ref 1148) _) _ _ _); k_dflt (refine' c_women ?k1 ?k2 ?k3 ?k4 ?k5 ?k6 ?hd ?hu  ?_; (case k1 | k2 | k3 | k4 | k5 => k_asm); (case k6 => first | exact rfl | assumption); (case hd => ktr_room); (case hu => ktr_units);  k_whole); intro l9 h9 tk9 vs9 hS9 F9 N9 lt9; (try dsimp only)) | ((with_reducible show wpAny _ _ (call (Value.ref 1141) _) _ _ _); k_dflt (refine' c_inner ?k1 ?k2 ?k3 ?k4 ?k5 ?k6 ?hd ?hu  ?_; (case k1 | k2 | k3 | k4 | k5 => k_asm); (case k6 => first | exact rfl | assumption); (case hd => ktr_room); (case hu => ktr_units);  k_whole); intro l9 h9 tk9 vs9 hS9 F9 N9 lt9; (try dsimp only)) | ((with_reducible show wpAny _ _ (call (Value.ref 1134) _) _ _ _); k_dflt (refine' c_joining ?k1 ?k2 ?k3 ?k4 ?k5 ?k6 ?hd ?hu  ?_; (case k1 | k2 | k3 | k4 | k5 => k_asm); (case k6 => first | exact rfl | assumption); (case hd => ktr_room); (case hu => ktr_units);  k_whole); intro l9 h9 tk9 vs9 hS9 F9 N9 lt9; (try dsimp only)) | ((with_reducible show wpAny _ _ (call (Value.ref 1190) _) _ _ _); k_dflt (refine' c_end ?k1 ?k2 ?k3 ?k4 ?k5 ?k6 ?hd ?hu  ?_; (case k1 | k2 | k3 | k4 | k5 => k_asm); (case k6 => first | exact rfl | assumption); (case hd => ktr_room); (case hu => ktr_units);  k_whole); intro z9 tz9 h9 tk9 mz9 F9 N9; (have ln9 := end_len mz9); (try dsimp only))) | (k_unfold; (try dsimp only)) | (k_end; kc_close) | walk1 | (dsimp only; walk1))); (refine of_halt ?_); (rename IsRange _ _ _ _ _ _ _ _ => R4); (rename Fr _ _ _ _ => F4); (rename News _ _ _ _ => N4); (obtain ⟨e9, he1, he2, R5⟩ := range_fm3 R4); (refine kst_range (σ := Str × Nat × Int × Nat) (fun _ => _) (fun c9 => [(Str.ofString "pile", .str c9.1 c9.2.1), (Str.ofString "more", .int c9.2.2.1 c9.2.2.2)]) (fun _ => True) [] (fun pre c9 => Pile pre.length c9.1 ∧ pre.length ≤ 3) ⟨_, _, _, _⟩ (by rfl) R5 (small_one (by omega) (by omega) (by omega) (by omega)) (rangeSize_nat _ _) F4 N4 True.intro (by first | ((try dsimp only); (repeat (first | exact List.forall_mem_nil _ | refine fm (by with_unfolding_all exact @rfl _ (some _)) ?_)); done) | kst_all) ⟨.nil, Nat.zero_le _⟩ ?turn ?dn); (case turn => ((refine al4 ?_; intro b9 tb9 mo9 tm9; rintro pre9 i9 ti9 u8 h8 tk8 own9 hi9 hlt9 hoff9 _ pp1 F5 N5; have p0 := pp1.1; have p1 := pp1.2; clear pp1); (try dsimp only [kstB] at F5); (try dsimp only at p0 p1); (try dsimp only at N5); (replace F5 := fr_loc F5); (replace N5 := news_loc N5); (have p2 := pile_len p0); (have p3 := len24 p2 p1); (repeat' (first | ((with_reducible refine of_halt ?_); first | (k_end; goal_has PySem.W.InvEndN; (rename News _ _ _ _ => nE'); (try simp only [List.push_toArray] at nE'); (refine kst_end ⟨_, _, _, _⟩ (by assumption) nE' (by intro p hp; first | assumption | exact List.mem_append_left _ hp | exact List.mem_cons_of_mem _ (List.mem_append_left _ hp)) (by intro p hp; first | assumption | exact List.mem_append_right _ hp | exact List.mem_cons_of_mem _ (List.mem_append_right _ hp)) (by rfl) (by kst_facts) (by first | ((try dsimp only); (repeat (first | exact List.forall_mem_nil _ | refine fm (by with_unfolding_all exact @rfl _ (some _)) ?_)); done) | kst_all) (by first | ((intro z h1 h2 h3); (try dsimp only at h2); (repeat (refine ifn ?_ ?_; first | with_reducible exact h1 | with_reducible exact h2 (_, _) (by (repeat (first | exact List.mem_cons_self | refine List.mem_cons_of_mem _ ?_))) | exact cnf h3 | exact nst h3 (by decide +kernel))); rfl) | kst_same) (halt_of ?_))) | ((with_reducible show wpAny _ _ (call (Value.builtin "str.join") [Value.str _ _, Value.ref _]) _ _ _); (rename StrsAre _ (List.filter _ _) => hSJ9); (rename Heap.IsList _ _ _ => hLJ9); k_dflt (refine' join_signsK hLJ9 hSJ9 (by omega) (by kernel_rfl) ?_; k_whole); intro z9 tz9 k9 hz9 lz9; (try dsimp only)) | ((with_reducible show wpAny _ _ (subscriptTail _ _ (Value.ref _) (Value.int 1 _)) _ _ _); k_dflt (refine' item_T1 ?N ?hm ?_; (case N => k_asm); (case hm => exact .head _); k_whole)) | ((with_reducible show wpAny _ _ (subscriptTail _ _ (Value.ref _) (Value.int 0 _)) _ _ _); k_dflt (refine' item_T0 ?N ?hm ?_; (case N => k_asm); (case hm => exact .head _); k_whole)) | ((with_reducible show wpAny _ _ (subscriptTail _ _ (Value.ref _) (Value.int (_ : Int) _)) _ _ _); k_dflt (refine' item_P ?N ?hm ?ma ?mb ?mc ?md ?h0 ?h1 ?_; (case N => k_asm); (case hm | ma | mb | mc | md => k_mem); (case h0 | h1 => ((try k_fmods); omega)); k_whole); intro D9 z9 y9 tz9 ty9 e9 lz9 ly9 N9; (try dsimp only)) | ((with_reducible show wpAny _ _ (call (Value.ref 1162) _) _ _ _); k_dflt (refine' c_pairs ?k1 ?k2 ?k3 ?k4 ?k5 ?k6 ?hd ?hu  ?_; (case k1 | k2 | k3 | k4 | k5 => k_asm); (case k6 => first | exact rfl | assumption); (case hd => ktr_room); (case hu => ktr_units);  k_whole); intro l9 da9 db9 dc9 dd9 u1 u2 u3 u4 u5 u6 u7 u8 h9 tk9 F9 N9 lt9; (try dsimp only)) | ((with_reducible show wpAny _ _ (binaryOp Operator.Add (Value.str _ _) (Value.str _ _)) _ _ _); (refine KOpn.add (Nat.le_trans (m := 1000) (by first | ((refine ladd5 ?_ ?_ <;> ((repeat' (first | (refine lar ?_ (by (first | exact lle (by with_reducible assumption) (by rfl) | exact lle (cj1e (by with_reducible assumption)) (by rfl) | exact lle (Nat.le_of_eq (by with_reducible assumption)) (by rfl) | exact lle (lit8 (by kernel_rfl)) (by rfl))) rfl) | (refine lar24 ?_ (by (first | exact lle (by with_reducible assumption) (by rfl) | exact lle (cj1e (by with_reducible assumption)) (by rfl) | exact lle (Nat.le_of_eq (by with_reducible assumption)) (by rfl) | exact lle (lit8 (by kernel_rfl)) (by rfl))) rfl) | (first | exact lle (by with_reducible assumption) (by rfl) | exact lle (cj1e (by with_reducible assumption)) (by rfl) | exact lle (Nat.le_of_eq (by with_reducible assumption)) (by rfl) | exact lle (lit8 (by kernel_rfl)) (by rfl)))); done)); done) | omega) (Nat.le_of_ble_eq_true rfl)) ?_); intro _ _ _) | ((with_reducible show wpAny _ _ (subscriptTail _ _ (Value.ref _) (Value.int _ _)) _ _ _); (rename StrsAre _ (_ :: _) => hSA9); k_dflt (refine' item_G ?N ?hm hSA9 ?hl ?hn ?ha ?h0 ?h1 ?_; (case N => k_asm); (case hm => k_mem); (case hl => exact rfl); (case hn => decide); (case ha => decide +kernel); (case h0 => ((try k_fmods); omega)); (case h1 => first | ((try k_fmods); omega) | exact Int.lt_of_lt_of_le (b := 3) (by omega) (by decide)); k_whole); intro z9 tz9 mz9 lz9; (try dsimp only)) | ((with_reducible show wpAny _ _ (subscriptTail _ _ (Value.ref _) (Value.int _ _)) _ _ _); (rename StrsAre _ _ => hSA9); k_dflt (refine' item_L ?N ?hm hSA9 ?hl ?hn ?h0 ?h1 ?_; (case N => k_asm); (case hm => k_mem); (case hl => first | with_reducible exact n13 | with_reducible exact n14 | with_reducible exact n15 | with_reducible exact n16 | with_reducible exact n17 | with_reducible exact n18 | with_reducible exact n20); (case hn => decide); (case h0 | h1 => ((try k_fmods); omega)); k_whole); intro z9 tz9 mz9; (try (have lz9 : z9.length ≤ 8 := by first | with_reducible exact inner_len mz9 | with_reducible exact women_len mz9 | with_reducible exact deeds_len mz9 | with_reducible exact short_len mz9)); (try dsimp only)) | ((with_reducible show wpAny _ _ (call (Value.ref 1169) _) _ _ _); k_dflt (refine' c_short ?k1 ?k2 ?k3 ?k4 ?k5 ?k6 ?hd ?hu  ?_; (case k1 | k2 | k3 | k4 | k5 => k_asm); (case k6 => first | exact rfl | assumption); (case hd => ktr_room); (case hu => ktr_units);  k_whole); intro l9 h9 tk9 vs9 hS9 F9 N9 lt9; (try dsimp only)) | ((with_reducible show wpAny _ _ (call (Value.ref 1155) _) _ _ _); k_dflt (refine' c_deeds ?k1 ?k2 ?k3 ?k4 ?k5 ?k6 ?hd ?hu  ?_; (case k1 | k2 | k3 | k4 | k5 => k_asm); (case k6 => first | exact rfl | assumption); (case hd => ktr_room); (case hu => ktr_units);  k_whole); intro l9 h9 tk9 vs9 hS9 F9 N9 lt9; (try dsimp only)) | ((with_reducible show wpAny _ _ (call (Value.ref 1148) _) _ _ _); k_dflt (refine' c_women ?k1 ?k2 ?k3 ?k4 ?k5 ?k6 ?hd ?hu  ?_; (case k1 | k2 | k3 | k4 | k5 => k_asm); (case k6 => first | exact rfl | assumption); (case hd => ktr_room); (case hu => ktr_units);  k_whole); intro l9 h9 tk9 vs9 hS9 F9 N9 lt9; (try dsimp only)) | ((with_reducible show wpAny _ _ (call (Value.ref 1141) _) _ _ _); k_dflt (refine' c_inner ?k1 ?k2 ?k3 ?k4 ?k5 ?k6 ?hd ?hu  ?_; (case k1 | k2 | k3 | k4 | k5 => k_asm); (case k6 => first | exact rfl | assumption); (case hd => ktr_room); (case hu => ktr_units);  k_whole); intro l9 h9 tk9 vs9 hS9 F9 N9 lt9; (try dsimp only)) | ((with_reducible show wpAny _ _ (call (Value.ref 1134) _) _ _ _); k_dflt (refine' c_joining ?k1 ?k2 ?k3 ?k4 ?k5 ?k6 ?hd ?hu  ?_; (case k1 | k2 | k3 | k4 | k5 => k_asm); (case k6 => first | exact rfl | assumption); (case hd => ktr_room); (case hu => ktr_units);  k_whole); intro l9 h9 tk9 vs9 hS9 F9 N9 lt9; (try dsimp only)) | ((with_reducible show wpAny _ _ (call (Value.ref 1190) _) _ _ _); k_dflt (refine' c_end ?k1 ?k2 ?k3 ?k4 ?k5 ?k6 ?hd ?hu  ?_; (case k1 | k2 | k3 | k4 | k5 => k_asm); (case k6 => first | exact rfl | assumption); (case hd => ktr_room); (case hu => ktr_units);  k_whole); intro z9 tz9 h9 tk9 mz9 F9 N9; (have ln9 := end_len mz9); (try dsimp only))) | (k_unfold; (try dsimp only)) | (k_end; kc_close) | walk1 | (dsimp only; walk1))); (all_goals refine of_halt ?_); (all_goals exact pile_step p0 (by omega) (by assumption)))); (case dn => ((refine al4 ?_; intro b9 tb9 mo9 tm9; rintro u8 h8 tk8 _ pp1 F5 N5; have p0 := pp1.1; have p1 := pp1.2; clear pp1); (try dsimp only [kstB] at F5); (try dsimp only at p0 p1); (try dsimp only at N5); (replace F5 := fr_loc F5); (replace N5 := news_loc N5); rw [rangeKs_length] at p0 p1; (have p2 := pile_len p0); (have p3 := len24 p2 p1); (repeat' (first | ((with_reducible refine of_halt ?_); first | (k_end; goal_has PySem.W.InvEndN; (rename News _ _ _ _ => nE'); (try simp only [List.push_toArray] at nE'); (refine kst_end ⟨_, _, _, _⟩ (by assumption) nE' (by intro p hp; first | assumption | exact List.mem_append_left _ hp | exact List.mem_cons_of_mem _ (List.mem_append_left _ hp)) (by intro p hp; first | assumption | exact List.mem_append_right _ hp | exact List.mem_cons_of_mem _ (List.mem_append_right _ hp)) (by rfl) (by kst_facts) (by first | ((try dsimp only); (repeat (first | exact List.forall_mem_nil _ | refine fm (by with_unfolding_all exact @rfl _ (some _)) ?_)); done) | kst_all) (by first | ((intro z h1 h2 h3); (try dsimp only at h2); (repeat (refine ifn ?_ ?_; first | with_reducible exact h1 | with_reducible exact h2 (_, _) (by (repeat (first | exact List.mem_cons_self | refine List.mem_cons_of_mem _ ?_))) | exact cnf h3 | exact nst h3 (by decide +kernel))); rfl) | kst_same) (halt_of ?_))) | ((with_reducible show wpAny _ _ (call (Value.builtin "str.join") [Value.str _ _, Value.ref _]) _ _ _); (rename StrsAre _ (List.filter _ _) => hSJ9); (rename Heap.IsList _ _ _ => hLJ9); k_dflt (refine' join_signsK hLJ9 hSJ9 (by omega) (by kernel_rfl) ?_; k_whole); intro z9 tz9 k9 hz9 lz9; (try dsimp only)) | ((with_reducible show wpAny _ _ (subscriptTail _ _ (Value.ref _) (Value.int 1 _)) _ _ _); k_dflt (refine' item_T1 ?N ?hm ?_; (case N => k_asm); (case hm => exact .head _); k_whole)) | ((with_reducible show wpAny _ _ (subscriptTail _ _ (Value.ref _) (Value.int 0 _)) _ _ _); k_dflt (refine' item_T0 ?N ?hm ?_; (case N => k_asm); (case hm => exact .head _); k_whole)) | ((with_reducible show wpAny _ _ (subscriptTail _ _ (Value.ref _) (Value.int (_ : Int) _)) _ _ _); k_dflt (refine' item_P ?N ?hm ?ma ?mb ?mc ?md ?h0 ?h1 ?_; (case N => k_asm); (case hm | ma | mb | mc | md => k_mem); (case h0 | h1 => ((try k_fmods); omega)); k_whole); intro D9 z9 y9 tz9 ty9 e9 lz9 ly9 N9; (try dsimp only)) | ((with_reducible show wpAny _ _ (call (Value.ref 1162) _) _ _ _); k_dflt (refine' c_pairs ?k1 ?k2 ?k3 ?k4 ?k5 ?k6 ?hd ?hu  ?_; (case k1 | k2 | k3 | k4 | k5 => k_asm); (case k6 => first | exact rfl | assumption); (case hd => ktr_room); (case hu => ktr_units);  k_whole); intro l9 da9 db9 dc9 dd9 u1 u2 u3 u4 u5 u6 u7 u8 h9 tk9 F9 N9 lt9; (try dsimp only)) | ((with_reducible show wpAny _ _ (binaryOp Operator.Add (Value.str _ _) (Value.str _ _)) _ _ _); (refine KOpn.add (Nat.le_trans (m := 1000) (by first | ((refine ladd5 ?_ ?_ <;> ((repeat' (first | (refine lar ?_ (by (first | exact lle (by with_reducible assumption) (by rfl) | exact lle (cj1e (by with_reducible assumption)) (by rfl) | exact lle (Nat.le_of_eq (by with_reducible assumption)) (by rfl) | exact lle (lit8 (by kernel_rfl)) (by rfl))) rfl) | (refine lar24 ?_ (by (first | exact lle (by with_reducible assumption) (by rfl) | exact lle (cj1e (by with_reducible assumption)) (by rfl) | exact lle (Nat.le_of_eq (by with_reducible assumption)) (by rfl) | exact lle (lit8 (by kernel_rfl)) (by rfl))) rfl) | (first | exact lle (by with_reducible assumption) (by rfl) | exact lle (cj1e (by with_reducible assumption)) (by rfl) | exact lle (Nat.le_of_eq (by with_reducible assumption)) (by rfl) | exact lle (lit8 (by kernel_rfl)) (by rfl)))); done)); done) | omega) (Nat.le_of_ble_eq_true rfl)) ?_); intro _ _ _) | ((with_reducible show wpAny _ _ (subscriptTail _ _ (Value.ref _) (Value.int _ _)) _ _ _); (rename StrsAre _ (_ :: _) => hSA9); k_dflt (refine' item_G ?N ?hm hSA9 ?hl ?hn ?ha ?h0 ?h1 ?_; (case N => k_asm); (case hm => k_mem); (case hl => exact rfl); (case hn => decide); (case ha => decide +kernel); (case h0 => ((try k_fmods); omega)); (case h1 => first | ((try k_fmods); omega) | exact Int.lt_of_lt_of_le (b := 3) (by omega) (by decide)); k_whole); intro z9 tz9 mz9 lz9; (try dsimp only)) | ((with_reducible show wpAny _ _ (subscriptTail _ _ (Value.ref _) (Value.int _ _)) _ _ _); (rename StrsAre _ _ => hSA9); k_dflt (refine' item_L ?N ?hm hSA9 ?hl ?hn ?h0 ?h1 ?_; (case N => k_asm); (case hm => k_mem); (case hl => first | with_reducible exact n13 | with_reducible exact n14 | with_reducible exact n15 | with_reducible exact n16 | with_reducible exact n17 | with_reducible exact n18 | with_reducible exact n20); (case hn => decide); (case h0 | h1 => ((try k_fmods); omega)); k_whole); intro z9 tz9 mz9; (try (have lz9 : z9.length ≤ 8 := by first | with_reducible exact inner_len mz9 | with_reducible exact women_len mz9 | with_reducible exact deeds_len mz9 | with_reducible exact short_len mz9)); (try dsimp only)) | ((with_reducible show wpAny _ _ (call (Value.ref 1169) _) _ _ _); k_dflt (refine' c_short ?k1 ?k2 ?k3 ?k4 ?k5 ?k6 ?hd ?hu  ?_; (case k1 | k2 | k3 | k4 | k5 => k_asm); (case k6 => first | exact rfl | assumption); (case hd => ktr_room); (case hu => ktr_units);  k_whole); intro l9 h9 tk9 vs9 hS9 F9 N9 lt9; (try dsimp only)) | ((with_reducible show wpAny _ _ (call (Value.ref 1155) _) _ _ _); k_dflt (refine' c_deeds ?k1 ?k2 ?k3 ?k4 ?k5 ?k6 ?hd ?hu  ?_; (case k1 | k2 | k3 | k4 | k5 => k_asm); (case k6 => first | exact rfl | assumption); (case hd => ktr_room); (case hu => ktr_units);  k_whole); intro l9 h9 tk9 vs9 hS9 F9 N9 lt9; (try dsimp only)) | ((with_reducible show wpAny _ _ (call (Value.ref 1148) _) _ _ _); k_dflt (refine' c_women ?k1 ?k2 ?k3 ?k4 ?k5 ?k6 ?hd ?hu  ?_; (case k1 | k2 | k3 | k4 | k5 => k_asm); (case k6 => first | exact rfl | assumption); (case hd => ktr_room); (case hu => ktr_units);  k_whole); intro l9 h9 tk9 vs9 hS9 F9 N9 lt9; (try dsimp only)) | ((with_reducible show wpAny _ _ (call (Value.ref 1141) _) _ _ _); k_dflt (refine' c_inner ?k1 ?k2 ?k3 ?k4 ?k5 ?k6 ?hd ?hu  ?_; (case k1 | k2 | k3 | k4 | k5 => k_asm); (case k6 => first | exact rfl | assumption); (case hd => ktr_room); (case hu => ktr_units);  k_whole); intro l9 h9 tk9 vs9 hS9 F9 N9 lt9; (try dsimp only)) | ((with_reducible show wpAny _ _ (call (Value.ref 1134) _) _ _ _); k_dflt (refine' c_joining ?k1 ?k2 ?k3 ?k4 ?k5 ?k6 ?hd ?hu  ?_; (case k1 | k2 | k3 | k4 | k5 => k_asm); (case k6 => first | exact rfl | assumption); (case hd => ktr_room); (case hu => ktr_units);  k_whole); intro l9 h9 tk9 vs9 hS9 F9 N9 lt9; (try dsimp only)) | ((with_reducible show wpAny _ _ (call (Value.ref 1190) _) _ _ _); k_dflt (refine' c_end ?k1 ?k2 ?k3 ?k4 ?k5 ?k6 ?hd ?hu  ?_; (case k1 | k2 | k3 | k4 | k5 => k_asm); (case k6 => first | exact rfl | assumption); (case hd => ktr_room); (case hu => ktr_units);  k_whole); intro z9 tz9 h9 tk9 mz9 F9 N9; (have ln9 := end_len mz9); (try dsimp only))) | (k_unfold; (try dsimp only)) | (k_end; kc_close) | walk1 | (dsimp only; walk1))); all_goals ((rename News _ _ _ _ => nZ); refine ret _ _ _ _ _ _ _ ?es ?ez ?et ?ef (news_top nZ ?en) ?el; (case ef => first | assumption | k_asm); (case en => (intro p hp; repeat' (first | exact hp | refine List.mem_cons_of_mem _ ?_))); (case es => with_reducible (first | exact stem_3a hb hcz p0 | (refine stem_3 hb hcz p0 ?_ ?_ <;> assumption))); (case ez | et => first | ((repeat' (first | (refine lar ?_ (by (first | exact lle (by with_reducible assumption) (by rfl) | exact lle (cj1e (by with_reducible assumption)) (by rfl) | exact lle (Nat.le_of_eq (by with_reducible assumption)) (by rfl) | exact lle (lit8 (by kernel_rfl)) (by rfl))) rfl) | (refine lar24 ?_ (by (first | exact lle (by with_reducible assumption) (by rfl) | exact lle (cj1e (by with_reducible assumption)) (by rfl) | exact lle (Nat.le_of_eq (by with_reducible assumption)) (by rfl) | exact lle (lit8 (by kernel_rfl)) (by rfl))) rfl) | (first | exact lle (by with_reducible assumption) (by rfl) | exact lle (cj1e (by with_reducible assumption)) (by rfl) | exact lle (Nat.le_of_eq (by with_reducible assumption)) (by rfl) | exact lle (lit8 (by kernel_rfl)) (by rfl)))); done) | ((try simp only [app_len]); have q9 := lit_lens; omega)); (case el => first | assumption | (rename _ < _ ∧ _ => hl9; (repeat (replace hl9 := hl9.2)); exact lt_all hl9)))))) | ((rename News _ _ _ _ => nZ); refine ret _ _ _ _ _ _ _ ?es ?ez ?et ?ef (news_top nZ ?en) ?el; (case ef => first | assumption | k_asm); (case en => (intro p hp; repeat' (first | exact hp | refine List.mem_cons_of_mem _ ?_))); (case es => with_reducible (first | (exact stem_0 hb hcz (by assumption)) | (exact stem_6 hb hcz (by assumption)) | ((refine stem_1 hb (i := (x.fdiv 7).fmod 2) (fmod_bd _ 2 (by decide)).1 (fmod_bd _ 2 (by decide)).2 ?_ ?_ <;> assumption)) | (first | exact stem_2a hb hcz | exact stem_2c hb hcz | (refine stem_2b hb hcz ?_ ?_ <;> assumption) | (refine stem_2d hb hcz ?_ ?_ <;> assumption)) | (first | (refine stem_4a hb hcz (i := (x.fdiv 7).fmod 7) (fmod_bd _ 7 (by decide)).1 (by assumption) ?_ ?_ ?_ <;> assumption) | (refine stem_4b hb hcz (i := (x.fdiv 7).fmod 7 - 3) (by omega) (by omega) ?_ ?_ <;> assumption) | (rename (_, _) = pairAt _ => e2; revert e2; rename (_, _) = pairAt _ => e1; intro e2; exact stem_4c hb hcz e1 e2)) | ((refine stem_5 (y := bd ++ cz) ?_ ?_ <;> assumption)))); (case ez | et => first | ((repeat' (first | (refine lar ?_ (by (first | exact lle (by with_reducible assumption) (by rfl) | exact lle (cj1e (by with_reducible assumption)) (by rfl) | exact lle (Nat.le_of_eq (by with_reducible assumption)) (by rfl) | exact lle (lit8 (by kernel_rfl)) (by rfl))) rfl) | (refine lar24 ?_ (by (first | exact lle (by with_reducible assumption) (by rfl) | exact lle (cj1e (by with_reducible assumption)) (by rfl) | exact lle (Nat.le_of_eq (by with_reducible assumption)) (by rfl) | exact lle (lit8 (by kernel_rfl)) (by rfl))) rfl) | (first | exact lle (by with_reducible assumption) (by rfl) | exact lle (cj1e (by with_reducible assumption)) (by rfl) | exact lle (Nat.le_of_eq (by with_reducible assumption)) (by rfl) | exact lle (lit8 (by kernel_rfl)) (by rfl)))); done) | ((try simp only [app_len]); have q9 := lit_lens; omega)); (case el => first | assumption | (rename _ < _ ∧ _ => hl9; (repeat (replace hl9 := hl9.2)); exact lt_all hl9)))
end Lith
end
section
open PySem PySem.W PyProof.Rows PySem.Calls Lith
set_option Elab.async false
set_option maxRecDepth 100000
set_option maxHeartbeats 8000000
namespace Lith


theorem c_at {w : World} {lo : List Str} {mean : ExcName → Option Value} {mg mb : Str → Option Value} {dp un : Nat} {gd : Option (List Code)} {cn : Str} {cs : Scope} {a : Addr} {ccd : Value} {cl : List (Str × Addr)} {outer : List Env} {A₀ : Around} {base h₀ : Heap} {L : Addr} {m : Str → Option Value} {s : Shared} {Q E : Value → Shared → Prop} {news : List (Addr × Obj)} {sc : Addr} {vs : List Value} {ns : List Int} {i : Int} {ti : Tok}
    (B : Below A₀ base outer h₀) (F : Fr h₀ L s.heap m) (X : (kL w.params).In h₀) (N : News h₀ L s.heap news) (TT : Top qv lo mean mg mb h₀) (hk : cs.kind = .function) (hd : dp + 6 < recursionLimit) (hu : un + 60 < cLine) (SL : base.IsList sc vs.toArray) (SI : IntsAre vs ns) (h63 : ns.length ≤ 63) (i0 : 0 ≤ i) (i1 : i ≤ 100)
    (ret : ∀ (v : Int) (t : Tok) (h' : Heap) (tk' : Nat), Fr h₀ L h' m → News h₀ L h' news → Q (.int v t) { s with heap := h', toks := tk' }) :
    wpAny (model pg w) (ktrTop dp un gd cn cs L a ccd cl outer) (call (.ref 1176) [.ref sc, .int i ti]) Q E s := by
  have key : rl = rl := rfl
  revert X key
  k_fill
  intro X _
  refine wpAny_call ?_
  k_dflt (refine' code_def ?k1 ?k2 ?k3 ?k4 ?k5 ?kA ?kF ?kK ?k6 ?k7 ?k8 ?k9 ?kB ?_ ?c2 ?c3 ?c4 ?c5; (case kA | kF => exact rfl); (case kK => first | assumption | exact rfl); (case k1 | k2 | k3 | k4 | k5 => k_asm); (case k6 | k7 => k_is); (case k8 => ktr_room); (case k9 => exact BindsTo.of_eq rfl); (case c5 => decide); (case kB => exact locs rfl); (case c2 | c3 | c4 => exact rfl); k_whole; intro g' L' h' FG' F' N' B' X' T'; (try dsimp only); (try k_lift B'); (try k_fold))
  have h64 := SI.length
  k_steps
  all_goals exact ret _ _ _ _ (by k_asm) (by k_asm)
end Lith
end
section
open PySem PySem.W PyProof.Rows PySem.Calls Lith
set_option Elab.async false
set_option maxRecDepth 100000
set_option maxHeartbeats 8000000
namespace Lith
local macro_rules | `(tactic| walk_at "subscriptTail") => `(tactic| (with_reducible refine hlt_af6f1b ?_))
local macro_rules | `(tactic| walk_at "InvEndN") => `(tactic| (refine halt_of ?_))


local macro_rules | `(tactic| walk_at "exec For") => `(tactic| refine halt_of ?_)
local macro_rules | `(tactic| walk_at "exec For Name Call cons nil") => `(tactic| refine halt_of ?_)
local macro_rules | `(tactic| walk_at "pyIter ref") => `(tactic| refine halt_of ?_)

theorem c_body {w : World} {lo : List Str} {mean : ExcName → Option Value} {mg mb : Str → Option Value} {dp un : Nat} {gd : Option (List Code)} {cn : Str} {cs : Scope} {a : Addr} {ccd : Value} {cl : List (Str × Addr)} {outer : List Env} {A₀ : Around} {base h₀ : Heap} {L : Addr} {m : Str → Option Value} {s : Shared} {Q E : Value → Shared → Prop} {news : List (Addr × Obj)} {sc : Addr} {vs : List Value} {ns : List Int}
    (B : Below A₀ base outer h₀) (F : Fr h₀ L s.heap m) (X : (kL w.params).In h₀) (N : News h₀ L s.heap news) (TT : Top qv lo mean mg mb h₀) (hk : cs.kind = .function) (hd : dp + 14 < recursionLimit) (hu : un + 160 < cLine) (SL : base.IsList sc vs.toArray) (SI : IntsAre vs ns) (h63 : ns.length ≤ 63)
    (ret : ∀ (z : Str) (t : Tok) (h' : Heap) (tk' : Nat), BodyOk z → z.length ≤ 7 → Fr h₀ L h' m → News h₀ L h' news → Q (.str z t) { s with heap := h', toks := tk' }) :
    wpAny (model pg w) (ktrTop dp un gd cn cs L a ccd cl outer) (call (.ref 1183) [.ref sc]) Q E s := by
  have key : rl = rl := rfl
  revert X key
  k_fill
  intro X _
  refine wpAny_call ?_
  k_dflt (refine' code_def ?k1 ?k2 ?k3 ?k4 ?k5 ?kA ?kF ?kK ?k6 ?k7 ?k8 ?k9 ?kB ?_ ?c2 ?c3 ?c4 ?c5; (case kA | kF => exact rfl); (case kK => first | assumption | exact rfl); (case k1 | k2 | k3 | k4 | k5 => k_asm); (case k6 | k7 => k_is); (case k8 => ktr_room); (case k9 => exact BindsTo.of_eq rfl); (case c5 => decide); (case kB => exact locs rfl); (case c2 | c3 | c4 => exact rfl); k_whole; intro g' L' h' FG' F' N' B' X' T'; (try dsimp only); (try k_lift B'); (try k_fold))
  have h64 := SI.length
  have gl0 := nil_len
  have gl1 := letters_len
  have gl2 := vowels_len
  unfold lettersS at gl1
  unfold vowelsS at gl2
  (repeat' (first | ((with_reducible refine of_halt ?_); first | (k_end; goal_has PySem.W.InvEndN; (rename News _ _ _ _ => nE'); (try simp only [List.push_toArray] at nE'); (refine kst_end ⟨_, _⟩ (by assumption) nE' (by intro p hp; first | assumption | exact List.mem_append_left _ hp) (by intro p hp; first | assumption | exact List.mem_append_right _ hp) (by rfl) (by kst_facts) (by first | ((try dsimp only); (repeat (first | exact List.forall_mem_nil _ | refine fm (by with_unfolding_all exact @rfl _ (some _)) ?_)); done) | kst_all) (by first | ((intro z h1 h2 h3); (try dsimp only at h2); (repeat (refine ifn ?_ ?_; first | with_reducible exact h1 | with_reducible exact h2 (_, _) (by (repeat (first | exact List.mem_cons_self | refine List.mem_cons_of_mem _ ?_))) | exact cnf h3 | exact nst h3 (by decide +kernel))); rfl) | kst_same) (halt_of ?_))) | ((with_reducible show wpAny _ _ (subscriptTail _ _ (Value.str _ _) (Value.int _ _)) _ _ _); k_dflt (refine' item_chr ?g0 ?g1 ?gS ?_; (case g0 | g1 => ((try k_fmods); omega)); (case gS => omega); k_whole)) | ((with_reducible show wpAny _ _ (call (Value.ref 1176) _) _ _ _); k_dflt (refine' c_at ?k1 ?k2 ?k3 ?k4 ?k5 ?k6 ?hd ?hu ?h0 ?h1 ?h2 ?h3 ?h4 ?_; (case k1 | k2 | k3 | k4 | k5 => k_asm); (case k6 => first | exact rfl | assumption); (case hd => ktr_room); (case hu => ktr_units); (case h0 | h1 | h2 => assumption); (case h3 | h4 => omega); k_whole); intro v9 t9 h9 tk9 F9 N9; (try dsimp only))) | (k_unfold; (try dsimp only)) | (k_end; kc_close) | walk1 | (dsimp only; walk1)))
  refine of_halt ?_
  rename Fr _ _ _ _ => F1
  rename News _ _ _ _ => N1
  refine For_invVF F1 rfl rfl ?_
  (repeat' (first | ((with_reducible refine of_halt ?_); first | (k_end; goal_has PySem.W.InvEndN; (rename News _ _ _ _ => nE'); (try simp only [List.push_toArray] at nE'); (refine kst_end ⟨_, _⟩ (by assumption) nE' (by intro p hp; first | assumption | exact List.mem_append_left _ hp) (by intro p hp; first | assumption | exact List.mem_append_right _ hp) (by rfl) (by kst_facts) (by first | ((try dsimp only); (repeat (first | exact List.forall_mem_nil _ | refine fm (by with_unfolding_all exact @rfl _ (some _)) ?_)); done) | kst_all) (by first | ((intro z h1 h2 h3); (try dsimp only at h2); (repeat (refine ifn ?_ ?_; first | with_reducible exact h1 | with_reducible exact h2 (_, _) (by (repeat (first | exact List.mem_cons_self | refine List.mem_cons_of_mem _ ?_))) | exact cnf h3 | exact nst h3 (by decide +kernel))); rfl) | kst_same) (halt_of ?_))) | ((with_reducible show wpAny _ _ (subscriptTail _ _ (Value.str _ _) (Value.int _ _)) _ _ _); k_dflt (refine' item_chr ?g0 ?g1 ?gS ?_; (case g0 | g1 => ((try k_fmods); omega)); (case gS => omega); k_whole)) | ((with_reducible show wpAny _ _ (call (Value.ref 1176) _) _ _ _); k_dflt (refine' c_at ?k1 ?k2 ?k3 ?k4 ?k5 ?k6 ?hd ?hu ?h0 ?h1 ?h2 ?h3 ?h4 ?_; (case k1 | k2 | k3 | k4 | k5 => k_asm); (case k6 => first | exact rfl | assumption); (case hd => ktr_room); (case hu => ktr_units); (case h0 | h1 | h2 => assumption); (case h3 | h4 => omega); k_whole); intro v9 t9 h9 tk9 F9 N9; (try dsimp only))) | (k_unfold; (try dsimp only)) | (k_end; kc_close) | walk1 | (dsimp only; walk1)))
  refine of_halt ?_
  rename IsRange _ _ _ _ _ _ _ _ => R4
  rename Fr _ _ _ _ => F4
  rename News _ _ _ _ => N4
  obtain ⟨e9, he1, he2, R5⟩ := range_fm R4
  refine kst_range (σ := Str × Nat) (fun _ => _) (fun c9 => [(Str.ofString "body", .str c9.1 c9.2)]) (fun _ => True) [] (fun pre c9 => c9.1.length = pre.length ∧ pre.length ≤ 6) ⟨_, _⟩ (by rfl) R5 (small_one (by omega) (by omega) (by omega) (by omega)) (rangeSize_nat _ _) F4 N4 True.intro (by first | ((try dsimp only); (repeat (first | exact List.forall_mem_nil _ | refine fm (by with_unfolding_all exact @rfl _ (some _)) ?_)); done) | kst_all) ?hp ?_ ?_
  case hp => exact ⟨gl0, Nat.zero_le _⟩
  · refine al2 ?_; intro b9 tb9; rintro pre9 i9 ti9 u8 h8 tk8 own9 hi9 hlt9 hoff9 _ pp1 F5 N5; have p0 := pp1.1; have p1 := pp1.2; clear pp1
    (try dsimp only [kstB] at F5); (try dsimp only at p0 p1); (try dsimp only at N5)
    clear F4 N4 F1 N1
    replace F5 := fr_loc F5
    replace N5 := news_loc N5
    (repeat' (first | ((with_reducible refine of_halt ?_); first | (k_end; goal_has PySem.W.InvEndN; (rename News _ _ _ _ => nE'); (try simp only [List.push_toArray] at nE'); (refine kst_end ⟨_, _⟩ (by assumption) nE' (by intro p hp; first | assumption | exact List.mem_append_left _ hp) (by intro p hp; first | assumption | exact List.mem_append_right _ hp) (by rfl) (by kst_facts) (by first | ((try dsimp only); (repeat (first | exact List.forall_mem_nil _ | refine fm (by with_unfolding_all exact @rfl _ (some _)) ?_)); done) | kst_all) (by first | ((intro z h1 h2 h3); (try dsimp only at h2); (repeat (refine ifn ?_ ?_; first | with_reducible exact h1 | with_reducible exact h2 (_, _) (by (repeat (first | exact List.mem_cons_self | refine List.mem_cons_of_mem _ ?_))) | exact cnf h3 | exact nst h3 (by decide +kernel))); rfl) | kst_same) (halt_of ?_))) | ((with_reducible show wpAny _ _ (subscriptTail _ _ (Value.str _ _) (Value.int _ _)) _ _ _); k_dflt (refine' item_chr ?g0 ?g1 ?gS ?_; (case g0 | g1 => ((try k_fmods); omega)); (case gS => omega); k_whole)) | ((with_reducible show wpAny _ _ (call (Value.ref 1176) _) _ _ _); k_dflt (refine' c_at ?k1 ?k2 ?k3 ?k4 ?k5 ?k6 ?hd ?hu ?h0 ?h1 ?h2 ?h3 ?h4 ?_; (case k1 | k2 | k3 | k4 | k5 => k_asm); (case k6 => first | exact rfl | assumption); (case hd => ktr_room); (case hu => ktr_units); (case h0 | h1 | h2 => assumption); (case h3 | h4 => omega); k_whole); intro v9 t9 h9 tk9 F9 N9; (try dsimp only))) | (k_unfold; (try dsimp only)) | (k_end; kc_close) | walk1 | (dsimp only; walk1)))
    refine of_halt ?_
    exact ⟨by rw [app_len, item_len, List.length_append, p0]; rfl, by rw [List.length_append]; show pre9.length + 1 ≤ 6; omega⟩
  · refine al2 ?_; intro b9 tb9; rintro u8 h8 tk8 _ pp1 F5 N5; have p0 := pp1.1; have p1 := pp1.2; clear pp1
    (try dsimp only [kstB] at F5); (try dsimp only at p0 p1); (try dsimp only at N5)
    clear F4 N4 F1 N1
    replace F5 := fr_loc F5
    replace N5 := news_loc N5
    rw [rangeKs_length] at p0 p1
    (repeat' (first | ((with_reducible refine of_halt ?_); first | (k_end; goal_has PySem.W.InvEndN; (rename News _ _ _ _ => nE'); (try simp only [List.push_toArray] at nE'); (refine kst_end ⟨_, _⟩ (by assumption) nE' (by intro p hp; first | assumption | exact List.mem_append_left _ hp) (by intro p hp; first | assumption | exact List.mem_append_right _ hp) (by rfl) (by kst_facts) (by first | ((try dsimp only); (repeat (first | exact List.forall_mem_nil _ | refine fm (by with_unfolding_all exact @rfl _ (some _)) ?_)); done) | kst_all) (by first | ((intro z h1 h2 h3); (try dsimp only at h2); (repeat (refine ifn ?_ ?_; first | with_reducible exact h1 | with_reducible exact h2 (_, _) (by (repeat (first | exact List.mem_cons_self | refine List.mem_cons_of_mem _ ?_))) | exact cnf h3 | exact nst h3 (by decide +kernel))); rfl) | kst_same) (halt_of ?_))) | ((with_reducible show wpAny _ _ (subscriptTail _ _ (Value.str _ _) (Value.int _ _)) _ _ _); k_dflt (refine' item_chr ?g0 ?g1 ?gS ?_; (case g0 | g1 => ((try k_fmods); omega)); (case gS => omega); k_whole)) | ((with_reducible show wpAny _ _ (call (Value.ref 1176) _) _ _ _); k_dflt (refine' c_at ?k1 ?k2 ?k3 ?k4 ?k5 ?k6 ?hd ?hu ?h0 ?h1 ?h2 ?h3 ?h4 ?_; (case k1 | k2 | k3 | k4 | k5 => k_asm); (case k6 => first | exact rfl | assumption); (case hd => ktr_room); (case hu => ktr_units); (case h0 | h1 | h2 => assumption); (case h3 | h4 => omega); k_whole); intro v9 t9 h9 tk9 F9 N9; (try dsimp only))) | (k_unfold; (try dsimp only)) | (k_end; kc_close) | walk1 | (dsimp only; walk1)))
    exact ret _ _ _ _ (body_okI (by omega) (by omega) (fmod_bd _ 12 (by decide)).1 (fmod_bd _ 12 (by decide)).2) (by rw [app_len, item_len]; omega) (by k_asm) (by k_asm)

end Lith
end
section
open PySem PySem.W PyProof.Rows PySem.Calls Lith
set_option Elab.async false
set_option maxRecDepth 100000
set_option maxHeartbeats 4000000
namespace Lith
local macro_rules | `(tactic| walk_at "call builtin:list.append") => `(tactic| (with_reducible refine hlt_7e3cf5 ?_))
local macro_rules | `(tactic| k_qdec) => `(tactic| first | (rw [PySem.W.Fast.te17448422675489707002, PySem.W.Fast.te821141287760084731]; kernel_rfl) | (rw [PySem.W.Fast.te2458874890965802552]; kernel_rfl))



theorem law_fin {said : rl.wellSaid = true} : rl.Holds := by
  refine holdsK2 (by rfl) (by rfl) (by rfl) said ⟨rfl, rfl, rfl, rfl, rfl, by decide +kernel⟩ ?hw ?hc
  case hw => w_witness2
  k_fill
  intro w s₀ s₁ mg mb G Y fa o pm cd doc dV kV ho hd hcd hD hmg hg args vals as hpre hlay hrd hwl hlo
  have KX : (kL w.params).In s₁.heap := Y.1
  have GS : GV w s₁.heap := Y.2.1
  have AT : Tabs4 w s₁.heap := Y.2.2
  k_behind G ho hd hcd hD hmg hpre hlay hrd hwl hlo cd
  all_goals try k_fold
  clear hcd hD
  (repeat' (first | ((with_reducible refine of_halt ?_); first | ((with_reducible show wpAny _ _ (call (Value.builtin _) [Value.ref _, _]) _ _ _); k_dflt (refine' append_K ?k1 ?k2 ?k3 ?_ ?z; (case k1 | k2 => k_asm); (case k3 => k_upd); (case z => exact Nat.le_of_ble_eq_true rfl); k_whole); intro h' F' N'; (try k_sweep)) | ((with_reducible show wpAny _ _ (call (Value.ref 1195) _) _ _ _); k_dflt (refine' c_lword ?k1 ?k2 ?k3 ?k4 ?k5 ?k6 ?hd ?hu ?h0 ?h1 ?h2 ?_; (case k1 | k2 | k3 | k4 | k5 => k_asm); (case k6 => first | exact rfl | assumption); (case hd => ktr_room); (case hu => ktr_units); (case h0 | h1 => assumption); (case h2 => first | assumption | exact close_okI (fmod_bd _ 8 (by decide)).1 (fmod_bd _ 8 (by decide)).2); k_whole); intro T9 z9 t9 tz9 tt9 h9 tk9 sm9 lz9 lt9 F9 N9 ln9; (try k_lt ln9); (try dsimp only)) | ((with_reducible show wpAny _ _ (call (Value.ref 1176) _) _ _ _); k_dflt (refine' c_at ?k1 ?k2 ?k3 ?k4 ?k5 ?k6 ?hd ?hu ?h0 ?h1 ?h2 ?h3 ?h4 ?_; (case k1 | k2 | k3 | k4 | k5 => k_asm); (case k6 => first | exact rfl | assumption); (case hd => ktr_room); (case hu => ktr_units); (case h0 | h1 => assumption); (case h2 => first | assumption | omega); (case h3 | h4 => first | decide | omega); k_whole); intro v9 t9 h9 tk9 F9 N9; (try dsimp only)) | ((with_reducible show wpAny _ _ (call (Value.ref 1183) _) _ _ _); k_dflt (refine' c_body ?k1 ?k2 ?k3 ?k4 ?k5 ?k6 ?hd ?hu ?h0 ?h1 ?h2 ?_; (case k1 | k2 | k3 | k4 | k5 => k_asm); (case k6 => first | exact rfl | assumption); (case hd => ktr_room); (case hu => ktr_units); (case h0 | h1 => assumption); (case h2 => first | assumption | omega); k_whole); intro z9 tz9 h9 tk9 bz9 ln9 F9 N9; (try dsimp only))) | (k_unfold; (try dsimp only)) | (k_end; kc_close) | walk1 | (dsimp only; walk1)))
  refine of_halt ?_
  rename (@LT.lt Nat _ _ _ ∧ _) => qd
  rename (@LT.lt Nat _ _ _) => qx
  rename News _ _ _ _ => N0
  obtain ⟨k0, k1, k2, k3, k4, k5, t0, t1, t2, t3, t4, t5, N1⟩ := fresh6 N0
  clear N0
  (try simp only [List.push_toArray, List.nil_append, List.cons_append] at N1)
  rename Fr _ _ _ _ => F1
  refine' c_wordsL ?B F1 ?X N1 ?TT ?hk ?d0 ?hO ?hd ?hu ?hW ?z0 ?z1 ?z2 ?z3 ?TA ?GS ?q0 ?q1 ?q2 ?q3 ?_
  case hW => (first | exact .head _ | exact .tail _ (.head _) | exact .tail _ (.tail _ (.head _)) | exact .tail _ (.tail _ (.tail _ (.head _))) | exact .tail _ (.tail _ (.tail _ (.tail _ (.head _)))) | exact .tail _ (.tail _ (.tail _ (.tail _ (.tail _ (.head _))))) | exact .tail _ (.tail _ (.tail _ (.tail _ (.tail _ (.tail _ (.head _)))))) | exact .tail _ (.tail _ (.tail _ (.tail _ (.tail _ (.tail _ (.tail _ (.head _))))))) | exact .tail _ (.tail _ (.tail _ (.tail _ (.tail _ (.tail _ (.tail _ (.tail _ (.head _)))))))) | exact .tail _ (.tail _ (.tail _ (.tail _ (.tail _ (.tail _ (.tail _ (.tail _ (.tail _ (.head _))))))))) | exact .tail _ (.tail _ (.tail _ (.tail _ (.tail _ (.tail _ (.tail _ (.tail _ (.tail _ (.tail _ (.head _)))))))))))
  case B => k_asm
  case X => first | exact KX | assumption
  case TT => assumption
  case hk => exact rfl
  case d0 => show (_ : Nat) ≠ _; first | exact ne_lt qx | omega
  case hO => (repeat (refine own_cons (by show (_ : Nat) ≠ _; first | exact ne_lt (cj1 qd) | exact ne_lt (cj1e qd) | exact ne_lt (cj2 qd) | exact ne_lt (cj2e qd) | exact ne_lt (cj3 qd) | exact ne_lt (cj3e qd) | exact ne_lt (cj4 qd) | exact ne_lt (cj4e qd) | exact ne_lt (cj5 qd) | exact ne_lt (cj5e qd) | exact ne_lt (cj6 qd) | exact ne_lt (cj6e qd) | omega) (by show (_ : Nat) ≠ _; first | exact ne_lt1 (cj1 qd) qx | exact ne_lt1 (cj1e qd) qx | exact ne_lt1 (cj2 qd) qx | exact ne_lt1 (cj2e qd) qx | exact ne_lt1 (cj3 qd) qx | exact ne_lt1 (cj3e qd) qx | exact ne_lt1 (cj4 qd) qx | exact ne_lt1 (cj4e qd) qx | exact ne_lt1 (cj5 qd) qx | exact ne_lt1 (cj5e qd) qx | exact ne_lt1 (cj6 qd) qx | exact ne_lt1 (cj6e qd) qx | omega) ?_)); exact fun p hp => nomatch hp
  case hd => ktr_room
  case hu => ktr_units
  case z0 => first | exact lle (by with_reducible assumption) rfl | omega
  case z1 => first | exact lle (by with_reducible assumption) rfl | omega
  case z2 => first | exact lle (by with_reducible assumption) rfl | omega
  case z3 => first | exact lle (by with_reducible assumption) rfl | omega
  case TA => exact AT
  case GS => exact GS
  case q0 => assumption
  case q1 => assumption
  case q2 => assumption
  case q3 => assumption
  clear N1 F1
  intro k6 S' c' l' lb' br' ke' p1' u0 u1 u2 u3 u4 u5 u6 R' a0 a1 a2 a3 h9 tk9 F9 N9 ne9
  (try dsimp only)
  obtain ⟨ne1, ne2, ne3⟩ := ne9
  simp only [List.forall_mem_cons] at ne3
  walk1
  refine' eq4 N9 ?ha ?hb ?hu ?_
  case ha => exact .head _
  case hb => (first | exact .head _ | exact .tail _ (.head _) | exact .tail _ (.tail _ (.head _)) | exact .tail _ (.tail _ (.tail _ (.head _))) | exact .tail _ (.tail _ (.tail _ (.tail _ (.head _)))) | exact .tail _ (.tail _ (.tail _ (.tail _ (.tail _ (.head _))))) | exact .tail _ (.tail _ (.tail _ (.tail _ (.tail _ (.tail _ (.head _)))))) | exact .tail _ (.tail _ (.tail _ (.tail _ (.tail _ (.tail _ (.tail _ (.head _))))))) | exact .tail _ (.tail _ (.tail _ (.tail _ (.tail _ (.tail _ (.tail _ (.tail _ (.head _)))))))) | exact .tail _ (.tail _ (.tail _ (.tail _ (.tail _ (.tail _ (.tail _ (.tail _ (.tail _ (.head _))))))))) | exact .tail _ (.tail _ (.tail _ (.tail _ (.tail _ (.tail _ (.tail _ (.tail _ (.tail _ (.tail _ (.head _)))))))))))
  case hu => ktr_units
  (try dsimp only)
  (repeat' (first | ((with_reducible refine of_halt ?_); first | ((with_reducible show wpAny _ _ (call (Value.builtin _) [Value.ref _, _]) _ _ _); k_dflt (refine' append_K ?k1 ?k2 ?k3 ?_ ?z; (case k1 | k2 => k_asm); (case k3 => k_upd); (case z => exact Nat.le_of_ble_eq_true rfl); k_whole); intro h' F' N'; (try k_sweep)) | ((with_reducible show wpAny _ _ (call (Value.ref 1195) _) _ _ _); k_dflt (refine' c_lword ?k1 ?k2 ?k3 ?k4 ?k5 ?k6 ?hd ?hu ?h0 ?h1 ?h2 ?_; (case k1 | k2 | k3 | k4 | k5 => k_asm); (case k6 => first | exact rfl | assumption); (case hd => ktr_room); (case hu => ktr_units); (case h0 | h1 => assumption); (case h2 => first | assumption | exact close_okI (fmod_bd _ 8 (by decide)).1 (fmod_bd _ 8 (by decide)).2); k_whole); intro T9 z9 t9 tz9 tt9 h9 tk9 sm9 lz9 lt9 F9 N9 ln9; (try k_lt ln9); (try dsimp only)) | ((with_reducible show wpAny _ _ (call (Value.ref 1176) _) _ _ _); k_dflt (refine' c_at ?k1 ?k2 ?k3 ?k4 ?k5 ?k6 ?hd ?hu ?h0 ?h1 ?h2 ?h3 ?h4 ?_; (case k1 | k2 | k3 | k4 | k5 => k_asm); (case k6 => first | exact rfl | assumption); (case hd => ktr_room); (case hu => ktr_units); (case h0 | h1 => assumption); (case h2 => first | assumption | omega); (case h3 | h4 => first | decide | omega); k_whole); intro v9 t9 h9 tk9 F9 N9; (try dsimp only)) | ((with_reducible show wpAny _ _ (call (Value.ref 1183) _) _ _ _); k_dflt (refine' c_body ?k1 ?k2 ?k3 ?k4 ?k5 ?k6 ?hd ?hu ?h0 ?h1 ?h2 ?_; (case k1 | k2 | k3 | k4 | k5 => k_asm); (case k6 => first | exact rfl | assumption); (case hd => ktr_room); (case hu => ktr_units); (case h0 | h1 => assumption); (case h2 => first | assumption | omega); k_whole); intro z9 tz9 h9 tk9 bz9 ln9 F9 N9; (try dsimp only))) | (k_unfold; (try dsimp only)) | (k_end; kc_close) | walk1 | (dsimp only; walk1)))
  refine of_halt ?_
  rename News _ _ _ _ => N1
  rename Fr _ _ _ _ => F1
  refine' c_wordL ?B F1 ?X ?N ?TT ?hk ?d0 ?hO ?hd ?hu ?z0 ?TA ?GS ?q0 ?_
  case N => first | exact N1 | exact pull2 N1 | exact pull1 N1
  case B => k_asm
  case X => first | exact KX | assumption
  case TT => assumption
  case hk => exact rfl
  case d0 => show (_ : Nat) ≠ _; first | exact ne_lt qx | omega
  case hO => (repeat (refine own_cons (by show (_ : Nat) ≠ _; first | exact ne_lt (cj1 qd) | exact ne_lt (cj1e qd) | exact ne_lt (cj2 qd) | exact ne_lt (cj2e qd) | exact ne_lt (cj3 qd) | exact ne_lt (cj3e qd) | exact ne_lt (cj4 qd) | exact ne_lt (cj4e qd) | exact ne_lt (cj5 qd) | exact ne_lt (cj5e qd) | exact ne_lt (cj6 qd) | exact ne_lt (cj6e qd) | omega) (by show (_ : Nat) ≠ _; first | exact ne_lt1 (cj1 qd) qx | exact ne_lt1 (cj1e qd) qx | exact ne_lt1 (cj2 qd) qx | exact ne_lt1 (cj2e qd) qx | exact ne_lt1 (cj3 qd) qx | exact ne_lt1 (cj3e qd) qx | exact ne_lt1 (cj4 qd) qx | exact ne_lt1 (cj4e qd) qx | exact ne_lt1 (cj5 qd) qx | exact ne_lt1 (cj5e qd) qx | exact ne_lt1 (cj6 qd) qx | exact ne_lt1 (cj6e qd) qx | omega) ?_)); exact fun p hp => nomatch hp
  case hd => ktr_room
  case hu => ktr_units
  case z0 => first | exact lle (by with_reducible assumption) rfl | omega
  case TA => exact AT
  case GS => exact GS
  case q0 => assumption
  clear N1 F1
  intro k6' S9' c9' l9' lb9' br9' ke9' p19' u0' u1' u2' u3' u4' u5' u6' tk' h9' tk9' F9' N9'
  (try dsimp only)
  (repeat' (first | ((with_reducible refine of_halt ?_); first | ((with_reducible show wpAny _ _ (call (Value.builtin _) [Value.ref _, _]) _ _ _); k_dflt (refine' append_K ?k1 ?k2 ?k3 ?_ ?z; (case k1 | k2 => k_asm); (case k3 => k_upd); (case z => exact Nat.le_of_ble_eq_true rfl); k_whole); intro h' F' N'; (try k_sweep)) | ((with_reducible show wpAny _ _ (call (Value.ref 1195) _) _ _ _); k_dflt (refine' c_lword ?k1 ?k2 ?k3 ?k4 ?k5 ?k6 ?hd ?hu ?h0 ?h1 ?h2 ?_; (case k1 | k2 | k3 | k4 | k5 => k_asm); (case k6 => first | exact rfl | assumption); (case hd => ktr_room); (case hu => ktr_units); (case h0 | h1 => assumption); (case h2 => first | assumption | exact close_okI (fmod_bd _ 8 (by decide)).1 (fmod_bd _ 8 (by decide)).2); k_whole); intro T9 z9 t9 tz9 tt9 h9 tk9 sm9 lz9 lt9 F9 N9 ln9; (try k_lt ln9); (try dsimp only)) | ((with_reducible show wpAny _ _ (call (Value.ref 1176) _) _ _ _); k_dflt (refine' c_at ?k1 ?k2 ?k3 ?k4 ?k5 ?k6 ?hd ?hu ?h0 ?h1 ?h2 ?h3 ?h4 ?_; (case k1 | k2 | k3 | k4 | k5 => k_asm); (case k6 => first | exact rfl | assumption); (case hd => ktr_room); (case hu => ktr_units); (case h0 | h1 => assumption); (case h2 => first | assumption | omega); (case h3 | h4 => first | decide | omega); k_whole); intro v9 t9 h9 tk9 F9 N9; (try dsimp only)) | ((with_reducible show wpAny _ _ (call (Value.ref 1183) _) _ _ _); k_dflt (refine' c_body ?k1 ?k2 ?k3 ?k4 ?k5 ?k6 ?hd ?hu ?h0 ?h1 ?h2 ?_; (case k1 | k2 | k3 | k4 | k5 => k_asm); (case k6 => first | exact rfl | assumption); (case hd => ktr_room); (case hu => ktr_units); (case h0 | h1 => assumption); (case h2 => first | assumption | omega); k_whole); intro z9 tz9 h9 tk9 bz9 ln9 F9 N9; (try dsimp only))) | (k_unfold; (try dsimp only)) | (k_end; kc_close) | walk1 | (dsimp only; walk1)))
end Lith
end
end
end
end
end
open PySem PySem.W PyProof.Rows
set_option Elab.async false
set_option maxRecDepth 100000 in
set_option maxHeartbeats 8000000 in
theorem Lith.law_said : PySem.Challenge.rw_ah0040_01.wellSaid = true := by
  unfold OpenLaw.wellSaid OpenRow.wellSaid OpenRow.partSaid looksOpen
  rw [Fast.te8377067652309620493, Fast.te8326940854005059898, Fast.te13343964577679436407, Fast.te17119622794617984870, Fast.te17868728402115742887, Fast.te8179353310426384613, Fast.te16286561074155671207, Fast.te10501279942588096481, Fast.te9558739934217749035, Fast.te6984425678791042302, Fast.named_eq, Fast.te18344453789297297638, Fast.te14412699480532031325]
  repeat' (with_reducible refine look_both ?_ ?_)
  all_goals decide +kernel
set_option maxRecDepth 100000 in
set_option maxHeartbeats 8000000 in
theorem PySem.Challenge.cw_ah0040_01_holds : PySem.Challenge.rw_ah0040_01.Holds := by
  exact holds_law Lith.law_said fun said => Lith.law_fin (said := said)
