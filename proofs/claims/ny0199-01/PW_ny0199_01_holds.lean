import PyProof.Rows.All
import Wide.All
import OpenK.AllK
import Wide.FinOn
import PyProof.WalksPairs
import KE.BytesK
import KE.LcSums
import KE.KBytesWalk
import PySem.Challenge.RW_ny0199_01
open PySem PySem.W PyProof.Rows
set_option Elab.async false
set_option maxRecDepth 100000
set_option linter.unusedVariables false
set_option linter.unusedSimpArgs false
section
namespace Mine

/-! A big-step evaluator of trees over a partly known heap, and that it tells what `wpAny` asks. -/

structure ST where
  tree : BT
  n : Nat
  toks : Nat

structure Rep (g : Shared) (T : ST) (s : Shared) : Prop where
  size : s.heap.objs.size = T.n
  has : ∀ i o, T.tree.get i = some o → s.heap.get? i = some o
  toks : s.toks = T.toks
  gens : s.gens = g.gens
  drawn : s.drawn = g.drawn
  os : s.os = g.os
  life : s.heap.life = g.heap.life

noncomputable def evT {α : Type} (hd : Option Value) (run : Code → ST → Option (Result × ST)) (S : Setting) : Sem α → ST → Option (Except Value α × ST)
  | .pure a, T => some (.ok a, T)
  | .raise e, T => some (.error e, T)
  | .rule _ k, T => evT hd run S (k ()) T
  | .at _ k, T => evT hd run S (k ()) T
  | .load a _ k, T => match T.tree.get a with
    | some o => evT hd run S (k o) T
    | none => none
  | .update a _ f k, T => match T.tree.get a with
    | some o => match (f o).isFreed with
      | true => none
      | false => evT hd run S (k ()) ⟨T.tree.set a f, T.n, T.toks⟩
    | none => none
  | .point _ k, T => evT hd run S (k ()) T
  | .alloc o k, T => match o.isFreed with
      | true => none
      | false => match (T.tree.ins T.n o).get T.n with
        | some _ => evT hd run S (k T.n) ⟨T.tree.ins T.n o, T.n + 1, T.toks⟩
        | none => none
  | .fresh k, T => evT hd run S (k T.toks) ⟨T.tree, T.n, T.toks + 1⟩
  | .ask k, T => evT hd run S (k S) T
  | .call c h _ _ k, T => match h with
    | none => match run c T with
      | some (r, T') => evT hd run S (k r) T'
      | none => none
    | some _ => none
  | .thread k, T => evT hd run S (k 0) T
  | .handled own k, T => match own with
    | false => evT hd run S (k hd) T
    | true => none
  | _, _ => none

noncomputable def evC (hd : Option Value) (den : Code → Sem Fin) (S : Setting) : Nat → Code → ST → Option (Result × ST)
  | 0, _, _ => none
  | n + 1, c, T => match evT hd (evC hd den S n) S (den c) T with
    | some (.ok (.done f), T') => some (.ok f, T')
    | some (.ok (.again c'), T') => match c'.quiet with
      | true => evC hd den S n c' T'
      | false => none
    | some (.error e, T') => some (.error e, T')
    | none => none

theorem Rep.update {g s : Shared} {T : ST} (R : Rep g T s) {a : Addr} {o : Obj} {f : Obj → Obj} (e : T.tree.get a = some o) (hf : (f o).isFreed = false) :
    Rep g ⟨T.tree.set a f, T.n, T.toks⟩ { s with heap := s.heap.update a f } := by
  have hs : Heap.SameBut a s.heap (s.heap.update a f) := Heap.SameBut.update ..
  refine ⟨by show (s.heap.update a f).objs.size = _; rw [hs.1, R.size], fun i o' e' => ?_, R.toks, R.gens, R.drawn, R.os, R.life⟩
  dsimp only at e' ⊢
  rw [BT.get_set] at e'
  by_cases hi : i = a
  · subst hi
    rw [if_pos rfl, e] at e'
    cases e'
    exact Heap.get?_update_self f (R.has _ _ e) hf
  · rw [if_neg hi] at e'
    exact (hs.2 _ hi).trans (R.has _ _ e')

theorem Rep.alloc {g s : Shared} {T : ST} (R : Rep g T s) {o x : Obj} (hf : o.isFreed = false) (hg : (T.tree.ins T.n o).get T.n = some x) :
    Rep g ⟨T.tree.ins T.n o, T.n + 1, T.toks⟩ { s with heap := s.heap.push o } := by
  refine ⟨by show (s.heap.push o).objs.size = _; rw [Heap.size_push, R.size], fun i o' e' => ?_, R.toks, R.gens, R.drawn, R.os, R.life⟩
  dsimp only at e' ⊢
  rw [BT.get_ins o T.tree T.n (by rw [hg]; rfl)] at e'
  by_cases hi : i = T.n
  · subst hi
    rw [if_pos rfl] at e'
    cases e'
    rw [← R.size]; exact Heap.get?_push_size _ hf
  · rw [if_neg hi] at e'
    exact Heap.get?_push_of_some _ (R.has _ _ e')

noncomputable def Means (hd : Option Value) (M : Model) (g : Shared) (run : Code → ST → Option (Result × ST)) : Prop :=
  ∀ c T s r T', Rep g T s → run c T = some (r, T') → ∀ A : Around, A.handled = hd → codeAny M A c (fun r' s' => r' = r ∧ Rep g T' s') s

theorem evT_load {α : Type} {hd : Option Value} {run : Code → ST → Option (Result × ST)} {S : Setting} {T : ST} {a p} {k : Obj → Sem α} : evT hd run S (Sem.load a p k) T = match T.tree.get a with
    | some o => evT hd run S (k o) T
    | none => none := by first | rfl | with_unfolding_all rfl | (set_option smartUnfolding false in rfl) | kernel_rfl
theorem evT_update {α : Type} {hd : Option Value} {run : Code → ST → Option (Result × ST)} {S : Setting} {T : ST} {a p g} {k : Unit → Sem α} : evT hd run S (Sem.update a p g k) T = match T.tree.get a with
    | some o => match (g o).isFreed with
      | true => none
      | false => evT hd run S (k ()) ⟨T.tree.set a g, T.n, T.toks⟩
    | none => none := by first | rfl | with_unfolding_all rfl | (set_option smartUnfolding false in rfl) | kernel_rfl
theorem evT_alloc {α : Type} {hd : Option Value} {run : Code → ST → Option (Result × ST)} {S : Setting} {T : ST} {o : Obj} {k : Addr → Sem α} : evT hd run S (Sem.alloc o k) T = match o.isFreed with
    | true => none
    | false => match (T.tree.ins T.n o).get T.n with
      | some _ => evT hd run S (k T.n) ⟨T.tree.ins T.n o, T.n + 1, T.toks⟩
      | none => none := by first | rfl | with_unfolding_all rfl | (set_option smartUnfolding false in rfl) | kernel_rfl
theorem evT_call {α : Type} {hd : Option Value} {run : Code → ST → Option (Result × ST)} {S : Setting} {T : ST} {c gd l} {k : Result → Sem α} : evT hd run S (Sem.call c none gd l k) T = match run c T with
    | some (r, T') => evT hd run S (k r) T'
    | none => none := by first | rfl | with_unfolding_all rfl | (set_option smartUnfolding false in rfl) | kernel_rfl
theorem evT_sound {hd : Option Value} {M : Model} {g : Shared} {run : Code → ST → Option (Result × ST)} (hrun : Means hd M g run) {Γ : Ctx} {A : Around} (hA : A.handled = hd) (hΓ : Γ.In A) {α : Type} (t : Sem α) :
    ∀ {p : Pos} {T T' : ST} {s : Shared} {x : Except Value α}, Rep g T s → evT hd run ⟨M.prog, M.w.params⟩ t T = some (x, T') →
      Sem.wp M Γ t (fun a _ s' => x = .ok a ∧ Rep g T' s') (fun e _ s' => x = .error e ∧ Rep g T' s') p s := by
  induction t with
  | pure a => intro p T T' s x R e; have e : some _ = some _ := e; simp only [Option.some.injEq, Prod.mk.injEq] at e; obtain ⟨rfl, rfl⟩ := e; exact ⟨rfl, R⟩
  | raise v => intro p T T' s x R e; have e : some _ = some _ := e; simp only [Option.some.injEq, Prod.mk.injEq] at e; obtain ⟨rfl, rfl⟩ := e; exact ⟨rfl, R⟩
  | rule _ k ih => intro p T T' s x R e; exact ih () R e
  | «at» _ k ih => intro p T T' s x R e; exact ih () R e
  | point _ k ih => intro p T T' s x R e; exact ih () R e
  | ask k ih => intro p T T' s x R e; exact ih _ R e
  | handled own k ih =>
    intro p T T' s x R e
    cases own with
    | true => have e : none = some _ := e; cases e
    | false =>

      have q : Γ.handled = hd := hΓ.1.trans hA
      subst q
      exact ih _ R e
  | thread k ih => intro p T T' s x R e; exact ih _ R e
  | load a _ k ih =>
    intro p T T' s x R e
    rw [evT_load] at e
    split at e
    · rename_i o ho; exact ⟨o, R.has _ _ ho, ih o R e⟩
    · cases e
  | update a _ f k ih =>
    intro p T T' s x R e
    rw [evT_update] at e
    split at e
    · rename_i o ho
      split at e
      · cases e
      · rename_i hf
        exact ⟨by rw [R.has _ _ ho]; rfl, ih () (R.update ho hf) e⟩
    · cases e
  | alloc o k ih =>
    intro p T T' s x R e
    rw [evT_alloc] at e
    split at e
    · cases e
    · rename_i hf
      split at e
      · rename_i y hy
        have z := ih T.n (p := p) (R.alloc hf hy) e
        rw [← R.size] at z
        exact z
      · cases e
  | fresh k ih =>
    intro p T T' s x R e
    have z := ih T.toks (p := p) (s := { s with toks := s.toks + 1 }) (T := ⟨T.tree, T.n, T.toks + 1⟩) ⟨R.size, R.has, by show s.toks + 1 = _; rw [R.toks], R.gens, R.drawn, R.os, R.life⟩ e
    rw [← R.toks] at z
    exact z
  | call c h gd l k ih =>
    intro p T T' s x R e
    cases h with
    | some _ => have e : none = some _ := e; cases e
    | none =>
      rw [evT_call] at e
      split at e
      · rename_i r T₁ hr
        exact wpCode_mono (fun r' s' ⟨q, R'⟩ => q ▸ ih r R' e) (hrun _ _ _ _ _ R hr (A.mark none) (by show none.or A.handled = hd; exact hA) (Γ.enter c none p) p rfl (hΓ.enter c none p (by simp)))
      · cases e
  | _ => intro p T T' s x R e; have e : none = some _ := e; cases e

theorem evC_sound {hd : Option Value} {M : Model} {g : Shared} : ∀ n, Means hd M g (evC hd M.den ⟨M.prog, M.w.params⟩ n)
  | 0 => fun _ _ _ _ _ _ e => by cases e
  | n + 1 => fun c T s r T' R e A hA Γ p hc hΓ => by
    rw [wpCode_iff_wp, hc]
    have hIn := hΓ.in
    unfold evC at e
    split at e
    · rename_i f T₁ h
      cases e
      refine Sem.wp_mono M Γ _ ?_ ?_ p s (evT_sound (A := A.under Γ.code) (evC_sound n) hA hIn _ R h)
      · rintro a q' s' ⟨e, R'⟩; cases e; exact ⟨rfl, R'⟩
      · rintro a q' s' ⟨e, _⟩; cases e
    · rename_i c' T₁ h
      split at e
      · rename_i hq
        refine Sem.wp_mono M Γ _ ?_ ?_ p s (evT_sound (A := A.under Γ.code) (evC_sound n) hA hIn _ R h)
        · rintro a q' s' ⟨e', R'⟩; cases e'; exact ⟨hq, evC_sound n _ _ _ _ _ R' e A hA (Γ.goto c') _ rfl (hΓ.goto c')⟩
        · rintro a q' s' ⟨e, _⟩; cases e
      · cases e
    · rename_i v T₁ h
      cases e
      refine Sem.wp_mono M Γ _ ?_ ?_ p s (evT_sound (A := A.under Γ.code) (evC_sound n) hA hIn _ R h)
      · rintro a q' s' ⟨e, _⟩; cases e
      · rintro a q' s' ⟨e, R'⟩; cases e; exact ⟨rfl, R'⟩
    · cases e

/-- What an evaluation says. -/
theorem ev_any {prog : Program} {w : World} {g s : Shared} {A : Around} {α : Type} {t : Sem α} {n : Nat} {T T' : ST} {a : α} {Q : α → Shared → Prop} {E : Value → Shared → Prop}
    (R : Rep g T s) (hA : A.handled = none) (e : evT none (evC none (denote treeTable) ⟨prog, w.params⟩ n) ⟨prog, w.params⟩ t T = some (.ok a, T')) (h : ∀ s', Rep g T' s' → Q a s') :
    wpAny (model prog w) A t Q E s := fun Γ p hΓ => by
  rw [← table_eq_tree] at e
  refine Sem.wp_mono (model prog w) Γ t ?_ ?_ p s (evT_sound (evC_sound (M := model prog w) n) hA hΓ t R e)
  · rintro b q s' ⟨e', R'⟩; cases e'; exact h s' R'
  · rintro b q s' ⟨e', _⟩; cases e'

end Mine
end
section
namespace Mine
/-- the machine comes to an outcome of which P tells, within b steps -/
noncomputable def Got (b : Nat) (m : Sre.M) (P : Sre.M → Prop) : Prop := ∃ n, n ≤ b ∧ (m.runFor n).outcome.isSome = true ∧ P (m.runFor n)
theorem got_step {b : Nat} {m : Sre.M} {P : Sre.M → Prop} (m' : Sre.M) (e : m.step = m') (h : Got b m' P) (hm : m.outcome.isSome = false) : Got (b + 1) m P := by
  obtain ⟨n, h0, h1, h2⟩ := h
  subst e
  refine ⟨n + 1, by lia, ?_, ?_⟩ <;> (rw [Sre.M.runFor, if_neg (by simp [hm])]; assumption)
theorem got_end {b : Nat} {m : Sre.M} {P : Sre.M → Prop} (hm : m.outcome.isSome = true) (h : P m) : Got b m P := ⟨0, Nat.zero_le _, hm, h⟩
theorem got_mono {b c : Nat} {m : Sre.M} {P : Sre.M → Prop} (h : Got b m P) (hb : b ≤ c) : Got c m P := by
  obtain ⟨n, h0, h1⟩ := h
  exact ⟨n, by lia, h1⟩
noncomputable def code1 : Array Nat := #[14, 4, 0, 1, 1, 6, 1, 16, 46, 1]
/-- a try at place s -/
noncomputable def m1 (text : Array Nat) (lim s : Nat) (seen : Sre.Seen) (first : Bool) (pc pos handed : Nat) (ans : Option Bool) : Sre.M :=
  { code := code1, text := text, lim := lim, start := s, lastStart := lim, mustAdvance := false, pc := pc, pos := pos, handed := handed, outermost := first, marks := #[], lastmark := -1, lastindex := -1,
    frames := [{ wait := .nextStart, pc := 5, pos := s, outermost := first }], weight := 1, seen := seen, answer := ans }
noncomputable def e1 (text : Array Nat) (lim s : Nat) (seen : Sre.Seen) (first : Bool) (pc pos handed : Nat) (ans : Option Bool) (out : Option Sre.Outcome) : Sre.M :=
  { code := code1, text := text, lim := lim, start := s, lastStart := lim, mustAdvance := false, pc := pc, pos := pos, handed := handed, outermost := first, marks := #[], lastmark := -1, lastindex := -1,
    frames := [], weight := 0, seen := seen, answer := ans, outcome := out }
noncomputable def Hit (text : Array Nat) (s : Nat) : Prop := (s = 0 ∨ text.getD (s - 1) 0 = 10) ∧ text.getD s 0 = 46
/-- what a found place tells -/
noncomputable def At (s e : Nat) (r : Sre.M) : Prop := r.outcome.any (· matches .matched) = true ∧ r.start = s ∧ r.handed = e ∧ r.lastindex = -1
noncomputable def Off (r : Sre.M) : Prop := r.outcome.any (· matches .failed) = true
theorem search1 (text : Array Nat) (lim s : Nat) (h : s + 1 ≤ lim) : ∃ seen, Sre.forSearch code1 text 0 s lim false = m1 text lim s seen true 5 s s none := by
  refine ⟨({} : Sre.Seen).add 14, ?_⟩
  have h1 : (decide (s > lim) || decide (lim - s < (Sre.header code1).1)) = false := by
    have : (Sre.header code1).1 = 1 := by kernel_rfl
    rw [this]; simp; lia
  unfold Sre.forSearch
  simp only [h1]
  kernel_rfl
section
variable {b : Nat} {text : Array Nat} {lim s : Nat} {seen : Sre.Seen} {first : Bool} {P : Sre.M → Prop}
theorem at1 : (m1 text lim s seen first 5 s s none).step = (if (s == 0 || text.getD (s - 1) 0 == 10) = true then m1 text lim s ((seen.add 6).add 44) first 7 s s none else m1 text lim s ((seen.add 6).add 44) first 5 s s (some false)) := by
  kernel_rfl
theorem lit1 : (m1 text lim s seen first 7 s s none).step = (if s ≥ lim then m1 text lim s (seen.add 16) first 7 s s (some false) else match text.getD s 0 == 46 with | false => m1 text lim s (seen.add 16) first 7 s s (some false) | true => m1 text lim s (seen.add 16) first 9 (s + 1) s none) := by
  show (if s ≥ lim then _ else _) = _
  by_cases h : s ≥ lim
  · rw [if_pos h, if_pos h]; kernel_rfl
  · rw [if_neg h, if_neg h]
    show (match (Except.ok (text.getD s 0 == 46, seen.add 16) : Except String (Bool × Sre.Seen)) with | .error why => _ | .ok (false, seen) => _ | .ok (true, seen) => _) = _
    cases e : (text.getD s 0 == 46) <;> kernel_rfl
theorem suc1 : (m1 text lim s seen first 9 (s + 1) s none).step = m1 text lim s (seen.add 1) first 9 (s + 1) (s + 1) (some true) := by
  cases first <;> kernel_rfl
theorem yes1 {pc pos handed : Nat} : Got (b + 2) (m1 text lim s seen first pc pos handed (some true)) (At s handed) := by
  refine got_step (e1 text lim s seen first 5 s handed (some true) none) (by kernel_rfl) ?_ rfl
  refine got_step (e1 text lim s seen first 5 s handed (some true) (some .matched)) (by kernel_rfl) ?_ rfl
  exact got_end rfl ⟨rfl, rfl, rfl, rfl⟩
theorem no1 {pc : Nat} (h : s < lim → ∀ seen, Got b (m1 text lim (s + 1) seen false 5 (s + 1) (s + 1) none) P) (he : lim ≤ s → ∀ m : Sre.M, Off m → P m) : Got (b + 2) (m1 text lim s seen first pc s s (some false)) P := by
  by_cases hs : s < lim
  · refine got_mono (b := b + 1) (got_step (m1 text lim (s + 1) seen false 5 (s + 1) (s + 1) none) ?_ (h hs _) rfl) (by lia)
    show (if s < lim then _ else _) = _
    rw [if_pos hs]; kernel_rfl
  · refine got_step (e1 text lim s seen first 5 s s (some false) none) ?_ ?_ rfl
    · show (if s < lim then _ else _) = _
      rw [if_neg hs]; kernel_rfl
    · refine got_step (e1 text lim s seen first 5 s s (some false) (some .failed)) (by kernel_rfl) ?_ rfl
      exact got_end rfl (he (by lia) _ rfl)
theorem hit1 (hs : s < lim) (hh : Hit text s) : Got (b + 5) (m1 text lim s seen first 5 s s none) (At s (s + 1)) := by
  refine got_step _ at1 ?_ rfl
  rw [if_pos (by have := hh.1; simpa using this)]
  refine got_step _ lit1 ?_ rfl
  rw [if_neg (by lia), show (text.getD s 0 == 46) = true from by rw [hh.2]; rfl]
  refine got_step _ suc1 ?_ rfl
  exact yes1
theorem miss1 (hh : s < lim → ¬ Hit text s) (h : s < lim → ∀ seen, Got b (m1 text lim (s + 1) seen false 5 (s + 1) (s + 1) none) P) (he : lim ≤ s → ∀ m : Sre.M, Off m → P m) : Got (b + 4) (m1 text lim s seen first 5 s s none) P := by
  refine got_step _ at1 ?_ rfl
  by_cases h1 : (s == 0 || text.getD (s - 1) 0 == 10) = true
  · rw [if_pos h1]
    refine got_step _ lit1 ?_ rfl
    by_cases h2 : s ≥ lim
    · rw [if_pos h2]; exact no1 h he
    · rw [if_neg h2]
      have : (text.getD s 0 == 46) = false := by
        cases e : (text.getD s 0 == 46)
        · rfl
        · refine absurd ⟨?_, beq_iff_eq.mp e⟩ (hh (by lia))
          rcases Bool.or_eq_true_iff.mp h1 with q | q
          · exact .inl (beq_iff_eq.mp q)
          · exact .inr (beq_iff_eq.mp q)
      rw [this]; exact no1 h he
  · rw [if_neg h1]; exact got_mono (no1 h he) (by lia)
end
/-- the first place that matches -/
theorem find1 (text : Array Nat) (lim s' : Nat) (hs : s' < lim) (hh : Hit text s') : ∀ (k s : Nat) (seen : Sre.Seen) (first : Bool), s + k = s' → (∀ j, s ≤ j → j < s' → ¬ Hit text j) →
    Got (4 * k + 5) (m1 text lim s seen first 5 s s none) (At s' (s' + 1))
  | 0, s, seen, first, e, _ => by obtain rfl : s = s' := e; exact got_mono (hit1 (b := 0) hs hh) (by lia)
  | k + 1, s, seen, first, e, hn => got_mono (miss1 (fun _ => hn s (Nat.le_refl _) (by lia)) (fun _ seen => find1 text lim s' hs hh k (s + 1) seen false (by lia) fun j a b => hn j (by lia) b) (fun x => absurd x (by lia))) (by lia)
theorem none1 (text : Array Nat) (lim : Nat) : ∀ (k s : Nat) (seen : Sre.Seen) (first : Bool), s + k = lim → (∀ j, s ≤ j → j < lim → ¬ Hit text j) →
    Got (4 * k + 4) (m1 text lim s seen first 5 s s none) Off
  | 0, s, seen, first, e, hn => miss1 (b := 0) (fun x => absurd x (by lia)) (fun x => absurd x (by lia)) (fun _ _ x => x)
  | k + 1, s, seen, first, e, hn => got_mono (miss1 (fun x => hn s (Nat.le_refl _) x) (fun _ seen => none1 text lim k (s + 1) seen false (by lia) fun j a b => hn j (by lia) b) (fun x => absurd x (by lia))) (by lia)
/-- pattern 1: search from s -/
theorem sr1_some (text : Array Nat) (s s' : Nat) (hs : s ≤ s') (hl : s' < text.size) (hh : Hit text s') (hn : ∀ j, s ≤ j → j < s' → ¬ Hit text j) :
    Got (4 * text.size + 5) (Sre.forSearch code1 text 0 s text.size false) (At s' (s' + 1)) := by
  obtain ⟨seen, e⟩ := search1 text text.size s (by lia)
  rw [e]; exact got_mono (find1 _ _ s' hl hh (s' - s) s _ _ (by lia) hn) (by lia)
theorem sr1_none (text : Array Nat) (s : Nat) (hs : s ≤ text.size) (hn : ∀ j, s ≤ j → j < text.size → ¬ Hit text j) :
    Got (4 * text.size + 5) (Sre.forSearch code1 text 0 s text.size false) Off := by
  by_cases h : s + 1 ≤ text.size
  · obtain ⟨seen, e⟩ := search1 text text.size s h
    rw [e]; exact got_mono (none1 _ _ (text.size - s) s _ _ (by lia) hn) (by lia)
  · have h1 : (decide (s > text.size) || decide (text.size - s < (Sre.header code1).1)) = true := by
      have : (Sre.header code1).1 = 1 := by kernel_rfl
      rw [this]; simp; lia
    unfold Sre.forSearch
    simp only [h1]
    refine got_step _ rfl ?_ (by kernel_rfl)
    exact got_end (by kernel_rfl) (by unfold Off; kernel_rfl)
end Mine
end
section
namespace Mine
noncomputable def code2 : Array Nat := #[14, 9, 4, 1, 2, 16, 10, 16, 13, 0, 7, 7, 16, 13, 16, 10, 15, 18, 5, 16, 10, 15, 13, 11, 16, 13, 5, 5, 0, 16, 10, 1, 15, 2, 0, 1]
noncomputable def m2 (text : Array Nat) (lim s : Nat) (seen : Sre.Seen) (om : Bool) (pc pos handed : Nat) (fr : List Sre.Frame) (wt : Nat) (ans : Option Bool) (out : Option Sre.Outcome) : Sre.M :=
  { code := code2, text := text, lim := lim, start := s, lastStart := lim, mustAdvance := false, pc := pc, pos := pos, handed := handed, outermost := om, marks := #[], lastmark := -1, lastindex := -1,
    frames := fr, weight := wt, seen := seen, answer := ans, outcome := out }
noncomputable def f0 (s : Nat) : Sre.Frame := { wait := .nextStart, pc := 10, pos := s, outermost := true }
noncomputable def f1 (s pc : Nat) : Sre.Frame := { wait := .nextBranch, pc := pc, pos := s, outermost := true, kept := { lastmark := -1, lastindex := -1 } }
noncomputable def f2 (s : Nat) : Sre.Frame := { wait := .lookNot, pc := 26, pos := s + 1, outermost := true, kept := { lastmark := -1, lastindex := -1 } }
section
variable {b : Nat} {text : Array Nat} {lim s : Nat} {seen : Sre.Seen} {om : Bool} {pos handed wt : Nat} {fr : List Sre.Frame} {P : Sre.M → Prop}
theorem lit2_12 : (m2 text lim s seen om 12 pos handed fr wt none none).step = (if pos ≥ lim then m2 text lim s (seen.add 16) om 12 pos handed fr wt (some false) none else match text.getD pos 0 == 13 with | false => m2 text lim s (seen.add 16) om 12 pos handed fr wt (some false) none | true => m2 text lim s (seen.add 16) om 14 (pos + 1) handed fr wt none none) := by
  show (if pos ≥ lim then _ else _) = _
  by_cases h : pos ≥ lim
  · rw [if_pos h, if_pos h]; kernel_rfl
  · rw [if_neg h, if_neg h]
    show (match (Except.ok (text.getD pos 0 == 13, seen.add 16) : Except String (Bool × Sre.Seen)) with | .error why => _ | .ok (false, seen) => _ | .ok (true, seen) => _) = _
    cases e : (text.getD pos 0 == 13) <;> kernel_rfl
theorem lit2_12Y (h : pos < lim) (e : text.getD pos 0 = 13) (g : ∀ seen, Got b (m2 text lim s seen om 14 (pos + 1) handed fr wt none none) P) : Got (b + 1) (m2 text lim s seen om 12 pos handed fr wt none none) P := by
  refine got_step _ lit2_12 ?_ rfl
  rw [if_neg (by lia), e]; exact g _
theorem lit2_12N (h : lim ≤ pos ∨ text.getD pos 0 ≠ 13) (g : ∀ seen, Got b (m2 text lim s seen om 12 pos handed fr wt (some false) none) P) : Got (b + 1) (m2 text lim s seen om 12 pos handed fr wt none none) P := by
  refine got_step _ lit2_12 ?_ rfl
  rcases h with h | h
  · rw [if_pos h]; exact g _
  · by_cases q : pos ≥ lim
    · rw [if_pos q]; exact g _
    · rw [if_neg q, show (text.getD pos 0 == 13) = false from by simpa using h]; exact g _
theorem lit2_14 : (m2 text lim s seen om 14 pos handed fr wt none none).step = (if pos ≥ lim then m2 text lim s (seen.add 16) om 14 pos handed fr wt (some false) none else match text.getD pos 0 == 10 with | false => m2 text lim s (seen.add 16) om 14 pos handed fr wt (some false) none | true => m2 text lim s (seen.add 16) om 16 (pos + 1) handed fr wt none none) := by
  show (if pos ≥ lim then _ else _) = _
  by_cases h : pos ≥ lim
  · rw [if_pos h, if_pos h]; kernel_rfl
  · rw [if_neg h, if_neg h]
    show (match (Except.ok (text.getD pos 0 == 10, seen.add 16) : Except String (Bool × Sre.Seen)) with | .error why => _ | .ok (false, seen) => _ | .ok (true, seen) => _) = _
    cases e : (text.getD pos 0 == 10) <;> kernel_rfl
theorem lit2_14Y (h : pos < lim) (e : text.getD pos 0 = 10) (g : ∀ seen, Got b (m2 text lim s seen om 16 (pos + 1) handed fr wt none none) P) : Got (b + 1) (m2 text lim s seen om 14 pos handed fr wt none none) P := by
  refine got_step _ lit2_14 ?_ rfl
  rw [if_neg (by (clear e; lia)), e]; exact g _
theorem lit2_14N (h : lim ≤ pos ∨ text.getD pos 0 ≠ 10) (g : ∀ seen, Got b (m2 text lim s seen om 14 pos handed fr wt (some false) none) P) : Got (b + 1) (m2 text lim s seen om 14 pos handed fr wt none none) P := by
  refine got_step _ lit2_14 ?_ rfl
  rcases h with h | h
  · rw [if_pos h]; exact g _
  · by_cases q : pos ≥ lim
    · rw [if_pos q]; exact g _
    · rw [if_neg q, show (text.getD pos 0 == 10) = false from by simpa using h]; exact g _
theorem lit2_19 : (m2 text lim s seen om 19 pos handed fr wt none none).step = (if pos ≥ lim then m2 text lim s (seen.add 16) om 19 pos handed fr wt (some false) none else match text.getD pos 0 == 10 with | false => m2 text lim s (seen.add 16) om 19 pos handed fr wt (some false) none | true => m2 text lim s (seen.add 16) om 21 (pos + 1) handed fr wt none none) := by
  show (if pos ≥ lim then _ else _) = _
  by_cases h : pos ≥ lim
  · rw [if_pos h, if_pos h]; kernel_rfl
  · rw [if_neg h, if_neg h]
    show (match (Except.ok (text.getD pos 0 == 10, seen.add 16) : Except String (Bool × Sre.Seen)) with | .error why => _ | .ok (false, seen) => _ | .ok (true, seen) => _) = _
    cases e : (text.getD pos 0 == 10) <;> kernel_rfl
theorem lit2_19Y (h : pos < lim) (e : text.getD pos 0 = 10) (g : ∀ seen, Got b (m2 text lim s seen om 21 (pos + 1) handed fr wt none none) P) : Got (b + 1) (m2 text lim s seen om 19 pos handed fr wt none none) P := by
  refine got_step _ lit2_19 ?_ rfl
  rw [if_neg (by (clear e; lia)), e]; exact g _
theorem lit2_19N (h : lim ≤ pos ∨ text.getD pos 0 ≠ 10) (g : ∀ seen, Got b (m2 text lim s seen om 19 pos handed fr wt (some false) none) P) : Got (b + 1) (m2 text lim s seen om 19 pos handed fr wt none none) P := by
  refine got_step _ lit2_19 ?_ rfl
  rcases h with h | h
  · rw [if_pos h]; exact g _
  · by_cases q : pos ≥ lim
    · rw [if_pos q]; exact g _
    · rw [if_neg q, show (text.getD pos 0 == 10) = false from by simpa using h]; exact g _
theorem lit2_24 : (m2 text lim s seen om 24 pos handed fr wt none none).step = (if pos ≥ lim then m2 text lim s (seen.add 16) om 24 pos handed fr wt (some false) none else match text.getD pos 0 == 13 with | false => m2 text lim s (seen.add 16) om 24 pos handed fr wt (some false) none | true => m2 text lim s (seen.add 16) om 26 (pos + 1) handed fr wt none none) := by
  show (if pos ≥ lim then _ else _) = _
  by_cases h : pos ≥ lim
  · rw [if_pos h, if_pos h]; kernel_rfl
  · rw [if_neg h, if_neg h]
    show (match (Except.ok (text.getD pos 0 == 13, seen.add 16) : Except String (Bool × Sre.Seen)) with | .error why => _ | .ok (false, seen) => _ | .ok (true, seen) => _) = _
    cases e : (text.getD pos 0 == 13) <;> kernel_rfl
theorem lit2_24Y (h : pos < lim) (e : text.getD pos 0 = 13) (g : ∀ seen, Got b (m2 text lim s seen om 26 (pos + 1) handed fr wt none none) P) : Got (b + 1) (m2 text lim s seen om 24 pos handed fr wt none none) P := by
  refine got_step _ lit2_24 ?_ rfl
  rw [if_neg (by (clear e; lia)), e]; exact g _
theorem lit2_24N (h : lim ≤ pos ∨ text.getD pos 0 ≠ 13) (g : ∀ seen, Got b (m2 text lim s seen om 24 pos handed fr wt (some false) none) P) : Got (b + 1) (m2 text lim s seen om 24 pos handed fr wt none none) P := by
  refine got_step _ lit2_24 ?_ rfl
  rcases h with h | h
  · rw [if_pos h]; exact g _
  · by_cases q : pos ≥ lim
    · rw [if_pos q]; exact g _
    · rw [if_neg q, show (text.getD pos 0 == 13) = false from by simpa using h]; exact g _
theorem lit2_29 : (m2 text lim s seen om 29 pos handed fr wt none none).step = (if pos ≥ lim then m2 text lim s (seen.add 16) om 29 pos handed fr wt (some false) none else match text.getD pos 0 == 10 with | false => m2 text lim s (seen.add 16) om 29 pos handed fr wt (some false) none | true => m2 text lim s (seen.add 16) om 31 (pos + 1) handed fr wt none none) := by
  show (if pos ≥ lim then _ else _) = _
  by_cases h : pos ≥ lim
  · rw [if_pos h, if_pos h]; kernel_rfl
  · rw [if_neg h, if_neg h]
    show (match (Except.ok (text.getD pos 0 == 10, seen.add 16) : Except String (Bool × Sre.Seen)) with | .error why => _ | .ok (false, seen) => _ | .ok (true, seen) => _) = _
    cases e : (text.getD pos 0 == 10) <;> kernel_rfl
theorem lit2_29Y (h : pos < lim) (e : text.getD pos 0 = 10) (g : ∀ seen, Got b (m2 text lim s seen om 31 (pos + 1) handed fr wt none none) P) : Got (b + 1) (m2 text lim s seen om 29 pos handed fr wt none none) P := by
  refine got_step _ lit2_29 ?_ rfl
  rw [if_neg (by (clear e; lia)), e]; exact g _
theorem lit2_29N (h : lim ≤ pos ∨ text.getD pos 0 ≠ 10) (g : ∀ seen, Got b (m2 text lim s seen om 29 pos handed fr wt (some false) none) P) : Got (b + 1) (m2 text lim s seen om 29 pos handed fr wt none none) P := by
  refine got_step _ lit2_29 ?_ rfl
  rcases h with h | h
  · rw [if_pos h]; exact g _
  · by_cases q : pos ≥ lim
    · rw [if_pos q]; exact g _
    · rw [if_neg q, show (text.getD pos 0 == 10) = false from by simpa using h]; exact g _
theorem jmp2_16 (g : ∀ seen, Got b (m2 text lim s seen om 35 pos handed fr wt none none) P) : Got (b + 1) (m2 text lim s seen om 16 pos handed fr wt none none) P :=
  got_step (m2 text lim s (seen.add 15) om 35 pos handed fr wt none none) (by kernel_rfl) (g _) rfl
theorem jmp2_21 (g : ∀ seen, Got b (m2 text lim s seen om 35 pos handed fr wt none none) P) : Got (b + 1) (m2 text lim s seen om 21 pos handed fr wt none none) P :=
  got_step (m2 text lim s (seen.add 15) om 35 pos handed fr wt none none) (by kernel_rfl) (g _) rfl
theorem jmp2_32 (g : ∀ seen, Got b (m2 text lim s seen om 35 pos handed fr wt none none) P) : Got (b + 1) (m2 text lim s seen om 32 pos handed fr wt none none) P :=
  got_step (m2 text lim s (seen.add 15) om 35 pos handed fr wt none none) (by kernel_rfl) (g _) rfl
theorem suc2 (g : ∀ seen, Got b (m2 text lim s seen om 35 pos pos fr wt (some true) none) P) : Got (b + 1) (m2 text lim s seen om 35 pos handed fr wt none none) P :=
  got_step (m2 text lim s (seen.add 1) om 35 pos pos fr wt (some true) none) (by cases om <;> kernel_rfl) (g _) rfl
theorem yes2 {pc pc' : Nat} : Got (b + 3) (m2 text lim s seen true pc pos handed [f1 s pc', f0 s] 2 (some true) none) (At s handed) := by
  refine got_step (m2 text lim s seen true pc' s handed [f0 s] 1 (some true) none) (by kernel_rfl) ?_ rfl
  refine got_step (m2 text lim s seen true 10 s handed [] 0 (some true) none) (by kernel_rfl) ?_ rfl
  refine got_step (m2 text lim s seen true 10 s handed [] 0 (some true) (some .matched)) (by kernel_rfl) ?_ rfl
  exact got_end rfl ⟨rfl, rfl, rfl, rfl⟩
theorem br2 (g : ∀ seen, Got b (m2 text lim s seen true 12 s s [f1 s 11, f0 s] 2 none none) P) : Got (b + 1) (m2 text lim s seen true 10 s s [f0 s] 1 none none) P :=
  got_step (m2 text lim s (seen.add 7) true 12 s s [f1 s 11, f0 s] 2 none none) (by kernel_rfl) (g _) rfl
theorem alt2 {pc : Nat} (g : ∀ seen, Got b (m2 text lim s seen true 19 s s [f1 s 18, f0 s] 2 none none) P) : Got (b + 1) (m2 text lim s seen true pc pos handed [f1 s 11, f0 s] 2 (some false) none) P :=
  got_step (m2 text lim s seen true 19 s s [f1 s 18, f0 s] 2 none none) (by kernel_rfl) (g _) rfl
theorem alt3 {pc : Nat} (g : ∀ seen, Got b (m2 text lim s seen true 24 s s [f1 s 23, f0 s] 2 none none) P) : Got (b + 1) (m2 text lim s seen true pc pos handed [f1 s 18, f0 s] 2 (some false) none) P :=
  got_step (m2 text lim s seen true 24 s s [f1 s 23, f0 s] 2 none none) (by kernel_rfl) (g _) rfl
theorem ass2 (g : ∀ seen, Got b (m2 text lim s seen false 29 (s + 1) (s + 1) (f2 s :: fr) 3 none none) P) : Got (b + 1) (m2 text lim s seen true 26 (s + 1) handed fr 2 none none) P :=
  got_step (m2 text lim s (seen.add 5) false 29 (s + 1) (s + 1) (f2 s :: fr) 3 none none) (by kernel_rfl) (g _) rfl
theorem back2 {pc : Nat} (g : ∀ seen, Got b (m2 text lim s seen true 32 (s + 1) handed fr 2 none none) P) : Got (b + 1) (m2 text lim s seen false pc pos handed (f2 s :: fr) 3 (some false) none) P :=
  got_step (m2 text lim s seen true 32 (s + 1) handed fr 2 none none) (by kernel_rfl) (g _) rfl
/-- a line's end of which kind, at place s -/
noncomputable def eolLen (text : Array Nat) (s : Nat) : Nat := if text.getD s 0 = 13 ∧ s + 1 < text.size ∧ text.getD (s + 1) 0 = 10 then 2 else 1
theorem try2 (hl : lim = text.size) (hs : s < lim) (hh : text.getD s 0 = 10 ∨ text.getD s 0 = 13) : Got 20 (m2 text lim s seen true 10 s s [f0 s] 1 none none) (At s (s + eolLen text s)) := by
  refine br2 fun _ => ?_
  by_cases h1 : text.getD s 0 = 13
  · refine lit2_12Y hs h1 fun _ => ?_
    by_cases h2 : s + 1 < lim ∧ text.getD (s + 1) 0 = 10
    · refine lit2_14Y h2.1 h2.2 fun _ => jmp2_16 fun _ => suc2 fun _ => ?_
      have : eolLen text s = 2 := by unfold eolLen; rw [if_pos ⟨h1, by lia, h2.2⟩]
      rw [this]; exact yes2
    · have h3 : lim ≤ s + 1 ∨ text.getD (s + 1) 0 ≠ 10 := by
        by_cases q : s + 1 < lim
        · exact .inr fun x => h2 ⟨q, x⟩
        · exact .inl (by lia)
      have : eolLen text s = 1 := by unfold eolLen; rw [if_neg (fun x => h2 ⟨by lia, x.2.2⟩)]
      rw [this]
      refine lit2_14N h3 fun _ => alt2 fun _ => lit2_19N (.inr (by (clear this h3 h2 hh hs hl; lia))) fun _ => alt3 fun _ => lit2_24Y hs h1 fun _ => ass2 fun _ => lit2_29N h3 fun _ => back2 fun _ => jmp2_32 fun _ => suc2 fun _ => yes2
  · have : eolLen text s = 1 := by unfold eolLen; rw [if_neg (fun x => h1 x.1)]
    rw [this]
    exact lit2_12N (.inr h1) fun _ => alt2 fun _ => lit2_19Y hs (by (clear this hs hl; lia)) fun _ => jmp2_21 fun _ => suc2 fun _ => yes2
theorem set2 (c : Nat) (seen : Sre.Seen) : ∃ seen', Sre.inSet code2 c code2.size 5 true seen = .ok (c == 10 || c == 13, seen') := by
  cases e : (c == 10)
  · cases e2 : (c == 13)
    · refine ⟨((seen.add 16).add 16).add 0, ?_⟩
      show (if (c == 10) = true then _ else if (c == 13) = true then _ else _) = _
      rw [e, e2]; kernel_rfl
    · refine ⟨(seen.add 16).add 16, ?_⟩
      show (if (c == 10) = true then _ else if (c == 13) = true then _ else _) = _
      rw [e, e2]; kernel_rfl
  · refine ⟨seen.add 16, ?_⟩
    show (if (c == 10) = true then _ else _) = _
    rw [e]; kernel_rfl
noncomputable def IsNl (text : Array Nat) (s : Nat) : Prop := text.getD s 0 = 10 ∨ text.getD s 0 = 13
theorem adm2 (m : Sre.M) (hc : m.code = code2) (s' : Nat) (hs : s' < m.lim) (hh : IsNl m.text s') : ∀ (k fuel s : Nat) (seen : Sre.Seen), s + k = s' → k < fuel → (∀ j, s ≤ j → j < s' → ¬ IsNl m.text j) →
    ∃ seen', m.admitted fuel s seen = .ok (some s', seen')
  | k, 0, s, seen, e, hf, hn => absurd hf (by (clear e hs; lia))
  | k, fuel + 1, s, seen, e, hf, hn => by
    obtain ⟨sn, q⟩ := set2 (m.text.getD s 0) seen
    unfold Sre.M.admitted
    rw [if_neg (by lia), hc, q]
    match k, e with
    | 0, e =>
      obtain rfl : s = s' := e
      rw [show (m.text.getD s 0 == 10 || m.text.getD s 0 == 13) = true from by rcases hh with h | h <;> rw [h] <;> rfl]
      exact ⟨_, rfl⟩
    | k + 1, e =>
      rw [show (m.text.getD s 0 == 10 || m.text.getD s 0 == 13) = false from by
        have := hn s (Nat.le_refl _) (by (clear hf hs; lia))
        unfold IsNl at this
        simpa using this]
      exact adm2 m hc s' hs hh k fuel (s + 1) sn (by (clear hf hs; lia)) (by lia) fun j a b => hn j (by lia) b
theorem adm2_none (m : Sre.M) (hc : m.code = code2) : ∀ (fuel s : Nat) (seen : Sre.Seen), (∀ j, s ≤ j → j < m.lim → ¬ IsNl m.text j) →
    ∃ seen', m.admitted fuel s seen = .ok (none, seen')
  | 0, s, seen, hn => ⟨seen, rfl⟩
  | fuel + 1, s, seen, hn => by
    obtain ⟨sn, q⟩ := set2 (m.text.getD s 0) seen
    unfold Sre.M.admitted
    by_cases h : s ≥ m.lim
    · rw [if_pos h]; exact ⟨_, rfl⟩
    · rw [if_neg h, hc, q]
      rw [show (m.text.getD s 0 == 10 || m.text.getD s 0 == 13) = false from by
        have := hn s (Nat.le_refl _) (by lia)
        unfold IsNl at this
        simpa using this]
      exact adm2_none m hc fuel (s + 1) sn fun j a b => hn j (by lia) b
theorem search2 (text : Array Nat) (lim s : Nat) (h : s + 1 ≤ lim) : Sre.forSearch code2 text 0 s lim false = (m2 text lim s (({} : Sre.Seen).add 14) true 10 s s [] 0 none none).attemptFrom s true := by
  have h1 : (decide (s > lim) || decide (lim - s < (Sre.header code2).1)) = false := by
    have : (Sre.header code2).1 = 1 := by kernel_rfl
    rw [this]; simp; lia
  unfold Sre.forSearch
  simp only [h1]
  kernel_rfl
theorem from2 (m : Sre.M) (s : Nat) (h : m.hasFirstSet = true) {s' : Nat} {seen : Sre.Seen} (e : m.admitted (m.lim + 1 - s) s m.seen = .ok (some s', seen)) : m.attemptFrom s true = { m with mustAdvance := false, seen }.attemptAt s' true := by
  unfold Sre.M.attemptFrom
  rw [h, e]; rfl
theorem from2n (m : Sre.M) (s : Nat) (h : m.hasFirstSet = true) {seen : Sre.Seen} (e : m.admitted (m.lim + 1 - s) s m.seen = .ok (none, seen)) : m.attemptFrom s true = { m with seen }.say false := by
  unfold Sre.M.attemptFrom
  rw [h, e]; rfl
theorem sr2_some (text : Array Nat) (s s' : Nat) (hs : s ≤ s') (hl : s' < text.size) (hh : IsNl text s') (hn : ∀ j, s ≤ j → j < s' → ¬ IsNl text j) :
    Got (4 * text.size + 20) (Sre.forSearch code2 text 0 s text.size false) (At s' (s' + eolLen text s')) := by
  rw [search2 text text.size s (by lia)]
  obtain ⟨sn, q⟩ := adm2 (m2 text text.size s (({} : Sre.Seen).add 14) true 10 s s [] 0 none none) rfl s' hl hh (s' - s) (text.size + 1 - s) s (({} : Sre.Seen).add 14) (by lia) (by lia) hn
  rw [from2 _ s (by kernel_rfl) q]
  refine got_mono (b := 20) ?_ (by lia)
  show Got 20 (m2 text text.size s' sn true 10 s' s' [f0 s'] 1 none none) _
  exact try2 rfl hl hh
theorem sr2_none (text : Array Nat) (s : Nat) (hs : s ≤ text.size) (hn : ∀ j, s ≤ j → j < text.size → ¬ IsNl text j) :
    Got (4 * text.size + 20) (Sre.forSearch code2 text 0 s text.size false) Off := by
  by_cases h : s + 1 ≤ text.size
  · rw [search2 text text.size s h]
    obtain ⟨sn, q⟩ := adm2_none (m2 text text.size s (({} : Sre.Seen).add 14) true 10 s s [] 0 none none) rfl (text.size + 1 - s) s (({} : Sre.Seen).add 14) hn
    rw [from2n _ s (by kernel_rfl) q]
    show Got (4 * text.size + 20) (m2 text text.size s sn true 10 s s [] 0 (some false) none) _
    refine got_step (m2 text text.size s sn true 10 s s [] 0 (some false) (some .failed)) (by kernel_rfl) ?_ rfl
    exact got_end rfl rfl
  · have h1 : (decide (s > text.size) || decide (text.size - s < (Sre.header code2).1)) = true := by
      have : (Sre.header code2).1 = 1 := by kernel_rfl
      rw [this]; simp; lia
    unfold Sre.forSearch
    simp only [h1]
    refine got_step _ rfl ?_ (by kernel_rfl)
    exact got_end (by kernel_rfl) (by unfold Off; kernel_rfl)
end
end Mine
end
section
namespace Mine
theorem foldr_eq {β : Type _} (G : Nat → β) : ∀ l : List Nat, l.foldr (fun n r => G n :: r) [] = l.map G
  | [] => rfl
  | a :: l => by rw [List.foldr_cons, List.map_cons, foldr_eq G l]
theorem all256 {β : Type _} {F G : Nat → β} (h : (List.range 256).map F = (List.range 256).foldr (fun n r => G n :: r) []) : ∀ n : Nat, n < 256 → F n = G n := by
  intro n hn
  rw [foldr_eq] at h
  exact List.map_inj_left.mp h n (List.mem_range.mpr hn)
end Mine
end
section
namespace Mine
noncomputable def code3 : Array Nat := #[14, 8, 1, 3, 3, 1, 1, 61, 0, 16, 61, 24, 16, 2, 2, 13, 11, 9, 0, 67043328, 126, 126, 0, 0, 0, 0, 0, 1, 1]
noncomputable def m3 (text : Array Nat) (lim s : Nat) (seen : Sre.Seen) (om : Bool) (pc pos handed : Nat) (fr : List Sre.Frame) (wt : Nat) (ans : Option Bool) (out : Option Sre.Outcome) : Sre.M :=
  { code := code3, text := text, lim := lim, start := s, lastStart := lim, mustAdvance := false, pc := pc, pos := pos, handed := handed, outermost := om, marks := #[], lastmark := -1, lastindex := -1,
    frames := fr, weight := wt, seen := seen, answer := ans, outcome := out }
noncomputable def g0 (s : Nat) (om : Bool) : Sre.Frame := { wait := .nextStart, pc := 9, pos := s, outermost := om }
noncomputable def g1 (s : Nat) (om : Bool) : Sre.Frame := { wait := .giveBack, pc := 11, pos := s + 3, outermost := om, count := 2, kept := { lastmark := -1, lastindex := -1 } }
noncomputable def HexC (c : Nat) : Prop := (48 ≤ c ∧ c ≤ 57) ∨ (65 ≤ c ∧ c ≤ 70)
theorem acc3 (c : Nat) (h : HexC c) (seen : Sre.Seen) : Sre.accepts code3 15 c seen = .ok (true, seen.add 9) := by
  have e := all256 (F := fun c => match decide ((48 ≤ c ∧ c ≤ 57) ∨ (65 ≤ c ∧ c ≤ 70)) with | true => Sre.accepts code3 15 c seen | false => .ok (true, seen.add 9)) (G := fun _ => .ok (true, seen.add 9)) (by kernel_rfl) c (h.elim (fun q => Nat.lt_of_le_of_lt q.2 (by decide)) (fun q => Nat.lt_of_le_of_lt q.2 (by decide)))
  rw [decide_eq_true (show (48 ≤ c ∧ c ≤ 57) ∨ (65 ≤ c ∧ c ≤ 70) from h)] at e
  exact e
theorem run3 (text : Array Nat) (p : Nat) (h1 : HexC (text.getD p 0)) (h2 : HexC (text.getD (p + 1) 0)) (seen : Sre.Seen) : Sre.run code3 text 15 2 p 0 seen = .ok (2, (seen.add 9).add 9) := by
  unfold Sre.run
  rw [acc3 _ h1]
  show Sre.run code3 text 15 1 (p + 1) 1 (seen.add 9) = _
  unfold Sre.run
  rw [acc3 _ h2]
  kernel_rfl
section
variable {b : Nat} {text : Array Nat} {lim s : Nat} {seen : Sre.Seen} {om : Bool} {pos handed wt : Nat} {fr : List Sre.Frame} {P : Sre.M → Prop}
theorem lit3 : (m3 text lim s seen om 9 pos handed fr wt none none).step = (if pos ≥ lim then m3 text lim s (seen.add 16) om 9 pos handed fr wt (some false) none else match text.getD pos 0 == 61 with | false => m3 text lim s (seen.add 16) om 9 pos handed fr wt (some false) none | true => m3 text lim s (seen.add 16) om 11 (pos + 1) handed fr wt none none) := by
  show (if pos ≥ lim then _ else _) = _
  by_cases h : pos ≥ lim
  · rw [if_pos h, if_pos h]; kernel_rfl
  · rw [if_neg h, if_neg h]
    show (match (Except.ok (text.getD pos 0 == 61, seen.add 16) : Except String (Bool × Sre.Seen)) with | .error why => _ | .ok (false, seen) => _ | .ok (true, seen) => _) = _
    cases e : (text.getD pos 0 == 61) <;> kernel_rfl
theorem no3 {pc : Nat} (h : s < lim → ∀ seen, Got b (m3 text lim (s + 1) seen false 9 (s + 1) (s + 1) [g0 (s + 1) false] 1 none none) P) (he : lim ≤ s → ∀ m : Sre.M, Off m → P m) : Got (b + 2) (m3 text lim s seen om pc pos handed [g0 s om] 1 (some false) none) P := by
  by_cases hs : s < lim
  · refine got_mono (b := b + 1) (got_step (m3 text lim (s + 1) seen false 9 (s + 1) (s + 1) [g0 (s + 1) false] 1 none none) ?_ (h hs _) rfl) (by lia)
    show (if s < lim then _ else _) = _
    rw [if_pos hs]; kernel_rfl
  · refine got_step (m3 text lim s seen om 9 s handed [] 0 (some false) none) ?_ ?_ rfl
    · show (if s < lim then _ else _) = _
      rw [if_neg hs]; kernel_rfl
    · refine got_step (m3 text lim s seen om 9 s handed [] 0 (some false) (some .failed)) (by kernel_rfl) ?_ rfl
      exact got_end rfl (he (by lia) _ rfl)
theorem miss3 (hh : s < lim → text.getD s 0 ≠ 61) (h : s < lim → ∀ seen, Got b (m3 text lim (s + 1) seen false 9 (s + 1) (s + 1) [g0 (s + 1) false] 1 none none) P) (he : lim ≤ s → ∀ m : Sre.M, Off m → P m) : Got (b + 3) (m3 text lim s seen om 9 s s [g0 s om] 1 none none) P := by
  refine got_step _ lit3 ?_ rfl
  by_cases h2 : s ≥ lim
  · rw [if_pos h2]; exact no3 h he
  · rw [if_neg h2, show (text.getD s 0 == 61) = false from by simpa using hh (by lia)]
    exact no3 h he
theorem rep3 (hl : s + 3 ≤ lim) (h1 : HexC (text.getD (s + 1) 0)) (h2 : HexC (text.getD (s + 1 + 1) 0)) : (m3 text lim s seen om 11 (s + 1) s [g0 s om] 1 none none).step = m3 text lim s ((((seen.add 24).add 13).add 9).add 9) om 28 (s + 3) (s + 3) [g1 s om, g0 s om] 2 none none := by
  show (if ((2 : Nat) : Int) > ((lim : Int) - ((s + 1 : Nat) : Int)) then _ else _) = _
  rw [if_neg (by lia)]
  show (match Sre.run code3 text 15 (min 2 ((lim : Int) - ((s + 1 : Nat) : Int)).toNat) (s + 1) 0 ((seen.add 24).add 13) with | .error why => _ | .ok (n, seen) => _) = _
  rw [show min 2 ((lim : Int) - ((s + 1 : Nat) : Int)).toNat = 2 from by lia, run3 text (s + 1) h1 h2]
  kernel_rfl
theorem hit3 (hl : s + 3 ≤ lim) (h0 : text.getD s 0 = 61) (h1 : HexC (text.getD (s + 1) 0)) (h2 : HexC (text.getD (s + 1 + 1) 0)) : Got (b + 6) (m3 text lim s seen om 9 s s [g0 s om] 1 none none) (At s (s + 3)) := by
  refine got_step _ lit3 ?_ rfl
  rw [if_neg (by lia), h0]
  refine got_step _ (rep3 hl h1 h2) ?_ rfl
  refine got_step (m3 text lim s (((((((seen.add 16).add 24).add 13).add 9).add 9)).add 1) om 28 (s + 3) (s + 3) [g1 s om, g0 s om] 2 (some true) none) (by cases om <;> kernel_rfl) ?_ rfl
  refine got_step (m3 text lim s (((((((seen.add 16).add 24).add 13).add 9).add 9)).add 1) om 11 (s + 3) (s + 3) [g0 s om] 1 (some true) none) (by kernel_rfl) ?_ rfl
  refine got_step (m3 text lim s (((((((seen.add 16).add 24).add 13).add 9).add 9)).add 1) om 9 s (s + 3) [] 0 (some true) none) (by kernel_rfl) ?_ rfl
  refine got_step (m3 text lim s (((((((seen.add 16).add 24).add 13).add 9).add 9)).add 1) om 9 s (s + 3) [] 0 (some true) (some .matched)) (by kernel_rfl) ?_ rfl
  exact got_end rfl ⟨rfl, rfl, rfl, rfl⟩
end
theorem search3 (text : Array Nat) (lim s : Nat) (h : s + 3 ≤ lim) : ∃ seen, Sre.forSearch code3 text 0 s lim false = m3 text lim s seen true 9 s s [g0 s true] 1 none none := by
  refine ⟨({} : Sre.Seen).add 14, ?_⟩
  have h1 : (decide (s > lim) || decide (lim - s < (Sre.header code3).1)) = false := by
    have : (Sre.header code3).1 = 3 := by kernel_rfl
    rw [this]; simp; lia
  unfold Sre.forSearch
  simp only [h1]
  kernel_rfl
theorem find3 (text : Array Nat) (lim s' : Nat) (hl : s' + 3 ≤ lim) (h0 : text.getD s' 0 = 61) (h1 : HexC (text.getD (s' + 1) 0)) (h2 : HexC (text.getD (s' + 1 + 1) 0)) : ∀ (k s : Nat) (seen : Sre.Seen) (om : Bool), s + k = s' → (∀ j, s ≤ j → j < s' → text.getD j 0 ≠ 61) →
    Got (3 * k + 6) (m3 text lim s seen om 9 s s [g0 s om] 1 none none) (At s' (s' + 3))
  | 0, s, seen, om, e, _ => by obtain rfl : s = s' := e; exact got_mono (hit3 (b := 0) hl h0 h1 h2) (by lia)
  | k + 1, s, seen, om, e, hn => got_mono (miss3 (fun _ => hn s (Nat.le_refl _) (by lia)) (fun _ seen => find3 text lim s' hl h0 h1 h2 k (s + 1) seen false (by lia) fun j a b => hn j (by lia) b) (fun x => absurd x (by lia))) (by lia)
theorem none3 (text : Array Nat) (lim : Nat) : ∀ (k s : Nat) (seen : Sre.Seen) (om : Bool), s + k = lim → (∀ j, s ≤ j → j < lim → text.getD j 0 ≠ 61) →
    Got (3 * k + 3) (m3 text lim s seen om 9 s s [g0 s om] 1 none none) Off
  | 0, s, seen, om, e, hn => miss3 (b := 0) (fun x => absurd x (by lia)) (fun x => absurd x (by lia)) (fun _ _ x => x)
  | k + 1, s, seen, om, e, hn => got_mono (miss3 (fun x => hn s (Nat.le_refl _) x) (fun _ seen => none3 text lim k (s + 1) seen false (by lia) fun j a b => hn j (by lia) b) (fun x => absurd x (by lia))) (by lia)
theorem sr3_some (text : Array Nat) (s s' : Nat) (hs : s ≤ s') (hl : s' + 3 ≤ text.size) (h0 : text.getD s' 0 = 61) (h1 : HexC (text.getD (s' + 1) 0)) (h2 : HexC (text.getD (s' + 1 + 1) 0)) (hn : ∀ j, s ≤ j → j < s' → text.getD j 0 ≠ 61) :
    Got (4 * text.size + 6) (Sre.forSearch code3 text 0 s text.size false) (At s' (s' + 3)) := by
  obtain ⟨seen, e⟩ := search3 text text.size s (by lia)
  rw [e]; exact got_mono (find3 _ _ s' hl h0 h1 h2 (s' - s) s _ _ (by lia) hn) (by lia)
theorem sr3_none (text : Array Nat) (s : Nat) (hs : s ≤ text.size) (hn : ∀ j, s ≤ j → j < text.size → text.getD j 0 ≠ 61) :
    Got (4 * text.size + 6) (Sre.forSearch code3 text 0 s text.size false) Off := by
  by_cases h : s + 3 ≤ text.size
  · obtain ⟨seen, e⟩ := search3 text text.size s h
    rw [e]; exact got_mono (none3 _ _ (text.size - s) s _ _ (by lia) hn) (by lia)
  · have h1 : (decide (s > text.size) || decide (text.size - s < (Sre.header code3).1)) = true := by
      have : (Sre.header code3).1 = 3 := by kernel_rfl
      rw [this]; simp; lia
    unfold Sre.forSearch
    simp only [h1]
    refine got_step _ rfl ?_ (by kernel_rfl)
    exact got_end (by kernel_rfl) (by unfold Off; kernel_rfl)
end Mine
end
section
namespace Mine
noncomputable section
noncomputable abbrev S : String → PySem.Str := PySem.Str.ofString
noncomputable abbrev N : Value := .none
noncomputable abbrev Z : BT := .nil
noncomputable abbrev B : Obj → BT → BT → BT := .node
noncomputable abbrev E (P : Params) (x : PySem.Str) (t : Tok) (v : Value) : DictEntry := ⟨PyData.keyHash P x, .str x t, v⟩
noncomputable abbrev body : List Stmt := PySem.Challenge.pw_ny0199_01.main.body
noncomputable abbrev nil0 : Arguments := ⟨[], [], none, [], [], none, []⟩
noncomputable def fArgs : Stmt → Arguments
  | .FunctionDef _ a _ _ _ _ _ _ _ _ => a
  | _ => nil0
noncomputable def fBody : Stmt → List Stmt
  | .FunctionDef _ _ b _ _ _ _ _ _ _ => b
  | _ => []
noncomputable def fScope : Stmt → Scope
  | .FunctionDef _ _ _ _ _ _ s _ _ _ => s
  | _ => default
noncomputable abbrev stm (i : Nat) : Stmt := body.getD i (.Pass default)
noncomputable abbrev fn (i : Nat) (name qual : PySem.Str) (glob : Addr) (clos : List (PySem.Str × Addr)) (dflt kwd doc pm : Value) (ann : Option Addr) (cd ct : Value) (bl : Addr) : FuncData :=
  { name := name, qualname := qual, params := fArgs (stm i), body := .stmts (fBody (stm i)), scope := fScope (stm i), globals := glob, closure := clos, defaults := dflt, kwdefaults := kwd, doc := doc, pyModule := pm, annotations := ann, code := cd, closureTuple := ct, builtins := bl }
noncomputable def o0Z (P : Params) : Obj := ⟨.type "dict", none, .dict #[E P (S "__name__") 1 (.str (S "builtins") 160), E P (S "__doc__") 2 (.builtin "builtins.__doc__:str#opaque"), E P (S "__package__") 3 (.builtin "builtins.__package__:str#opaque"), E P (S "__loader__") 4 (.builtin "builtins.__loader__:shared#opaque"), E P (S "__spec__") 5 (.builtin "builtins.__spec__#opaque"), E P (S "__build_class__") 6 (.builtin "__build_class__"), E P (S "__i\x6dport__") 7 (.builtin "__i\x6dport__"), E P (S "abs") 8 (.builtin "abs"), E P (S "all") 9 (.builtin "all"), E P (S "any") 10 (.builtin "any"), E P (S "ascii") 11 (.builtin "ascii"), E P (S "bin") 12 (.builtin "bin"), E P (S "breakpoint") 13 (.builtin "breakpoint"), E P (S "callable") 14 (.builtin "callable"), E P (S "chr") 15 (.builtin "chr"), E P (S "compile") 16 (.builtin "compile"), E P (S "delattr") 17 (.builtin "delattr"), E P (S "dir") 18 (.builtin "dir"), E P (S "divmod") 19 (.builtin "divmod"), E P (S "eval") 20 (.builtin "eval"), E P (S "exec") 21 (.builtin "exec"), E P (S "format") 22 (.builtin "format"), E P (S "getattr") 23 (.builtin "getattr"), E P (S "globals") 24 (.builtin "globals"), E P (S "hasattr") 25 (.builtin "hasattr"), E P (S "hash") 26 (.builtin "hash"), E P (S "hex") 27 (.builtin "hex"), E P (S "id") 28 (.builtin "id"), E P (S "input") 29 (.builtin "input"), E P (S "isinstance") 30 (.builtin "isinstance"), E P (S "issubclass") 31 (.builtin "issubclass"), E P (S "iter") 32 (.builtin "iter"), E P (S "aiter") 33 (.builtin "aiter"), E P (S "len") 34 (.builtin "len"), E P (S "locals") 35 (.builtin "locals"), E P (S "max") 36 (.builtin "max"), E P (S "min") 37 (.builtin "min"), E P (S "next") 38 (.builtin "next"), E P (S "anext") 39 (.builtin "anext"), E P (S "oct") 40 (.builtin "oct"), E P (S "ord") 41 (.builtin "ord"), E P (S "pow") 42 (.builtin "pow"), E P (S "print") 43 (.builtin "print"), E P (S "repr") 44 (.builtin "repr"), E P (S "round") 45 (.builtin "round"), E P (S "setattr") 46 (.builtin "setattr"), E P (S "sorted") 47 (.builtin "sorted"), E P (S "sum") 48 (.builtin "sum"), E P (S "vars") 49 (.builtin "vars"), E P (S "None") 50 (N), E P (S "Ellipsis") 51 (.ellipsis), E P (S "NotImplemented") 52 (.notImplemented), E P (S "False") 53 (.bool false), E P (S "True") 54 (.bool true), E P (S "bool") 55 (.type "bool"), E P (S "memoryview") 56 (.type "memoryview"), E P (S "bytearray") 57 (.type "bytearray"), E P (S "bytes") 58 (.type "bytes"), E P (S "classmethod") 59 (.type "classmethod"), E P (S "complex") 60 (.type "complex"), E P (S "dict") 61 (.type "dict"), E P (S "enumerate") 62 (.type "enumerate"), E P (S "filter") 63 (.type "filter"), E P (S "float") 64 (.type "float"), E P (S "frozenset") 65 (.type "frozenset"), E P (S "property") 66 (.type "property"), E P (S "int") 67 (.type "int"), E P (S "list") 68 (.type "list"), E P (S "map") 69 (.type "map"), E P (S "object") 70 (.type "object"), E P (S "range") 71 (.type "range"), E P (S "reversed") 72 (.type "reversed"), E P (S "set") 73 (.type "set"), E P (S "slice") 74 (.type "slice"), E P (S "staticmethod") 75 (.type "staticmethod"), E P (S "str") 76 (.type "str"), E P (S "super") 77 (.type "super"), E P (S "tuple") 78 (.type "tuple"), E P (S "type") 79 (.type "type"), E P (S "zip") 80 (.type "zip"), E P (S "__debug__") 81 (.bool true), E P (S "BaseException") 82 (.type "BaseException"), E P (S "BaseExceptionGroup") 83 (.type "BaseExceptionGroup"), E P (S "Exception") 84 (.type "Exception"), E P (S "GeneratorExit") 85 (.type "GeneratorExit"), E P (S "KeyboardInterrupt") 86 (.type "KeyboardInterrupt"), E P (S "SystemExit") 87 (.type "SystemExit"), E P (S "ArithmeticError") 88 (.type "ArithmeticError"), E P (S "AssertionError") 89 (.type "AssertionError"), E P (S "AttributeError") 90 (.type "AttributeError"), E P (S "BufferError") 91 (.type "BufferError"), E P (S "EOFError") 92 (.type "EOFError"), E P (S "ImportError") 93 (.type "ImportError"), E P (S "LookupError") 94 (.type "LookupError"), E P (S "MemoryError") 95 (.type "MemoryError"), E P (S "NameError") 96 (.type "NameError"), E P (S "OSError") 97 (.type "OSError"), E P (S "ReferenceError") 98 (.type "ReferenceError"), E P (S "RuntimeError") 99 (.type "RuntimeError"), E P (S "StopAsyncIteration") 100 (.type "StopAsyncIteration"), E P (S "StopIteration") 101 (.type "StopIteration"), E P (S "SyntaxError") 102 (.type "SyntaxError"), E P (S "SystemError") 103 (.type "SystemError"), E P (S "TypeError") 104 (.type "TypeError"), E P (S "ValueError") 105 (.type "ValueError"), E P (S "Warning") 106 (.type "Warning"), E P (S "FloatingPointError") 107 (.type "FloatingPointError"), E P (S "OverflowError") 108 (.type "OverflowError"), E P (S "ZeroDivisionError") 109 (.type "ZeroDivisionError"), E P (S "BytesWarning") 110 (.type "BytesWarning"), E P (S "DeprecationWarning") 111 (.type "DeprecationWarning"), E P (S "EncodingWarning") 112 (.type "EncodingWarning"), E P (S "FutureWarning") 113 (.type "FutureWarning"), E P (S "ImportWarning") 114 (.type "ImportWarning"), E P (S "PendingDeprecationWarning") 115 (.type "PendingDeprecationWarning"), E P (S "ResourceWarning") 116 (.type "ResourceWarning"), E P (S "RuntimeWarning") 117 (.type "RuntimeWarning"), E P (S "SyntaxWarning") 118 (.type "SyntaxWarning"), E P (S "UnicodeWarning") 119 (.type "UnicodeWarning"), E P (S "UserWarning") 120 (.type "UserWarning"), E P (S "BlockingIOError") 121 (.type "BlockingIOError"), E P (S "ChildProcessError") 122 (.type "ChildProcessError"), E P (S "ConnectionError") 123 (.type "ConnectionError"), E P (S "FileExistsError") 124 (.type "FileExistsError"), E P (S "FileNotFoundError") 125 (.type "FileNotFoundError"), E P (S "InterruptedError") 126 (.type "InterruptedError"), E P (S "IsADirectoryError") 127 (.type "IsADirectoryError"), E P (S "NotADirectoryError") 128 (.type "NotADirectoryError"), E P (S "PermissionError") 129 (.type "PermissionError"), E P (S "ProcessLookupError") 130 (.type "ProcessLookupError"), E P (S "TimeoutError") 131 (.type "TimeoutError"), E P (S "IndentationError") 132 (.type "IndentationError"), E P (S "_IncompleteInputError") 133 (.type "_IncompleteInputError"), E P (S "IndexError") 134 (.type "IndexError"), E P (S "KeyError") 135 (.type "KeyError"), E P (S "ModuleNotFoundError") 136 (.type "ModuleNotFoundError"), E P (S "NotImplementedError") 137 (.type "NotImplementedError"), E P (S "PythonFinalizationError") 138 (.type "PythonFinalizationError"), E P (S "RecursionError") 139 (.type "RecursionError"), E P (S "UnboundLocalError") 140 (.type "UnboundLocalError"), E P (S "UnicodeError") 141 (.type "UnicodeError"), E P (S "BrokenPipeError") 142 (.type "BrokenPipeError"), E P (S "ConnectionAbortedError") 143 (.type "ConnectionAbortedError"), E P (S "ConnectionRefusedError") 144 (.type "ConnectionRefusedError"), E P (S "ConnectionResetError") 145 (.type "ConnectionResetError"), E P (S "TabError") 146 (.type "TabError"), E P (S "UnicodeDecodeError") 147 (.type "UnicodeDecodeError"), E P (S "UnicodeEncodeError") 148 (.type "UnicodeEncodeError"), E P (S "UnicodeTranslateError") 149 (.type "UnicodeTranslateError"), E P (S "ExceptionGroup") 150 (.type "ExceptionGroup"), E P (S "EnvironmentError") 151 (.type "OSError"), E P (S "IOError") 152 (.type "OSError"), E P (S "open") 153 (.builtin "open"), E P (S "quit") 154 (.builtin "builtins.quit#opaque"), E P (S "exit") 155 (.builtin "builtins.exit#opaque"), E P (S "copyright") 156 (.builtin "builtins.copyright#opaque"), E P (S "credits") 157 (.builtin "builtins.credits#opaque"), E P (S "license") 158 (.builtin "builtins.license#opaque"), E P (S "help") 159 (.builtin "builtins.help#opaque")] 159, #[]⟩
noncomputable def o1Z (P : Params) : Obj := ⟨.type "dict", none, .dict #[E P (S "builtins") 162 (.ref 4), E P (S "__main__") 163 (.ref 5), E P (S "_sre") 244 (.ref 12)] 3, #[]⟩
noncomputable def o2Z (P : Params) : Obj := ⟨N, none, .dict #[E P (S "i\x6dport.loaded._sre") 183 (.bool true), E P (S "class._frozen_i\x6dportlib.BuiltinImporter") 185 (.ref 14), E P (S "watched.i\x6dport") 206 (.ref 18), E P (S "class._frozen_i\x6dportlib.ModuleSpec") 216 (.ref 22), E P (S "sys.modules.booked-epoch") 245 (.int (3) 0), E P (S "i\x6dport.later-laid._sre") 270 (.bool true), E P (S "watched.library") 272 (.ref 27), E P (S "watched.library-objects") 0 (.str (S "\x0c") 0), E P (S "watched.library-deep._sre") 273 (.str (S "\x04\x00\x00\x0b\x04\x00\x00\x0b\x04\x00\x00\x03\x04\x00\x00\x0b\x08\x04dict\x02") 0)] 9, #[]⟩
noncomputable def o3Z (P : Params) : Obj := ⟨.type "dict", none, .dict #[E P (S "__name__") 165 (.str (S "__main__") 164), E P (S "__doc__") 166 (N), E P (S "__package__") 167 (N), E P (S "__loader__") 168 (.builtin "__main__.__loader__#opaque"), E P (S "__spec__") 169 (N), E P (S "__annotations__") 170 (.ref 6), E P (S "__builtins__") 171 (.ref 4), E P (S "__file__") 173 (.str (S "/claim/cut.py") 172), E P (S "__cached__") 174 (N), E P (S "_sre") 275 (.ref 12)] 10, #[]⟩
noncomputable def o4Z (_ : Params) : Obj := ⟨.type "module", some 0, .plain, #[]⟩
noncomputable def o5Z (_ : Params) : Obj := ⟨.type "module", some 3, .plain, #[]⟩
noncomputable def o6Z (_ : Params) : Obj := ⟨.type "dict", none, .dict #[] 0, #[]⟩
noncomputable def o7Z (_ : Params) : Obj := ⟨.type "tuple", none, .seq #[] 0, #[]⟩
noncomputable def o8Z (_ : Params) : Obj := ⟨N, none, .fields #[], #[]⟩
noncomputable def o9Z (_ : Params) : Obj := ⟨.type "code", none, .fields #[.str (S "<module>") 176, .str (S "<module>") 177, .str (S "/claim/cut.py") 178, .int (1) 0, .int (0) 0, .int (0) 0, .int (0) 0, .int (0) 0, .ref 7, .bool false, .int (175) 0, .ref 8, N, N, N, N, .int (179) 0, .int (1) 0, .str (S "/claim/cut.py") 180], #[]⟩
noncomputable def o10Z (_ : Params) : Obj := ⟨.type "frame", none, .plain, #[some (.ref 9), some (.ref 3), some (.ref 3), none, some (.str (S "__main__") 164), none, some (.ref 0)]⟩
noncomputable def o11Z (P : Params) : Obj := ⟨.type "dict", none, .dict #[E P (S "__name__") 247 (.str (S "_sre") 246), E P (S "__doc__") 248 (N), E P (S "__package__") 250 (.str (S "") 249), E P (S "__loader__") 251 (.builtin "off-the-table:_sre.__loader__:shared#opaque"), E P (S "__spec__") 252 (.builtin "off-the-table:_sre.__spec__:shared#opaque"), E P (S "compile") 253 (.builtin "_sre.compile"), E P (S "template") 254 (.builtin "off-the-table:_sre.template:shared#opaque"), E P (S "getcodesize") 255 (.builtin "off-the-table:_sre.getcodesize:shared#opaque"), E P (S "ascii_iscased") 256 (.builtin "off-the-table:_sre.ascii_iscased:shared#opaque"), E P (S "unicode_iscased") 257 (.builtin "off-the-table:_sre.unicode_iscased:shared#opaque"), E P (S "ascii_tolower") 258 (.builtin "off-the-table:_sre.ascii_tolower:shared#opaque"), E P (S "unicode_tolower") 259 (.builtin "off-the-table:_sre.unicode_tolower:shared#opaque"), E P (S "MAGIC") 261 (.int (20230612) 260), E P (S "CODESIZE") 263 (.int (4) 262), E P (S "MAXREPEAT") 265 (.int (4294967295) 264), E P (S "MAXGROUPS") 267 (.int (1073741823) 266), E P (S "copyright") 269 (.str (S " SRE 2.2.2 Copyright (c) 1997-2002 by Secret Labs AB ") 268)] 17, #[]⟩
noncomputable def o12Z (_ : Params) : Obj := ⟨.type "module", some 11, .plain, #[]⟩
noncomputable def o13Z (P : Params) : Obj := ⟨.type "dict", none, .dict #[E P (S "__module__") 189 (.str (S "_frozen_i\x6dportlib") 186), E P (S "__firstlineno__") 190 (.int (971) 187), E P (S "__doc__") 191 (.builtin "_frozen_i\x6dportlib.BuiltinImporter.__doc__:str#opaque"), E P (S "_ORIGIN") 192 (.str (S "built-in") 188), E P (S "find_spec") 193 (.builtin "_frozen_i\x6dportlib.BuiltinImporter.find_spec#opaque"), E P (S "create_module") 194 (.builtin "_frozen_i\x6dportlib.BuiltinImporter.create_module#opaque"), E P (S "exec_module") 195 (.builtin "_frozen_i\x6dportlib.BuiltinImporter.exec_module#opaque"), E P (S "get_code") 196 (.builtin "_frozen_i\x6dportlib.BuiltinImporter.get_code#opaque"), E P (S "get_source") 197 (.builtin "_frozen_i\x6dportlib.BuiltinImporter.get_source#opaque"), E P (S "is_package") 198 (.builtin "_frozen_i\x6dportlib.BuiltinImporter.is_package#opaque"), E P (S "load_module") 199 (.builtin "_frozen_i\x6dportlib.BuiltinImporter.load_module#opaque"), E P (S "__static_attributes__") 200 (.ref 15), E P (S "__dict__") 202 (.ref 16), E P (S "__weakref__") 204 (.ref 17)] 14, #[]⟩
noncomputable def o14Z (_ : Params) : Obj := ⟨.type "type", none, .cls { name := (S "BuiltinImporter"), bases := [.type "object"], mro := [.ref 14, .type "object"], ns := 13, qualname := (S "BuiltinImporter"), hasDict := true, slotNames := [], subclasses := [], abstract := false, collection := none, hasDel := false }, #[]⟩
noncomputable def o15Z (_ : Params) : Obj := ⟨.type "tuple", none, .seq #[] 0, #[]⟩
noncomputable def o16Z (_ : Params) : Obj := ⟨.type "getset_descriptor", none, .fields #[.str (S "__dict__") 201, .ref 14, .builtin "function.__dict__", .builtin "function.__dict__#set"], #[]⟩
noncomputable def o17Z (_ : Params) : Obj := ⟨.type "getset_descriptor", none, .fields #[.str (S "__weakref__") 203, .ref 14, .builtin "ExceptionGroup.__weakref__", N], #[]⟩
noncomputable def o18Z (_ : Params) : Obj := ⟨N, none, .seq #[.int (13) 0, .str (S "\x06½\n__module__\x06º\x11_frozen_i\x6dportlib\x06¾\x0f__firstlineno__\x04»\x00ϋ\x06¿\x07__doc__\x094_frozen_i\x6dportlib.BuiltinImporter.__doc__:str#opaque\x06À\x07_ORIGIN\x06¼\x08built-in\x06Á\x09find_spec\x092_frozen_i\x6dportlib.BuiltinImporter.find_spec#opaque\x06Â\x0dcreate_module\x096_frozen_i\x6dportlib.BuiltinImporter.create_module#opaque\x06Ã\x0bexec_module\x094_frozen_i\x6dportlib.BuiltinImporter.exec_module#opaque\x06Ä\x08get_code\x091_frozen_i\x6dportlib.BuiltinImporter.get_code#opaque\x06Å\nget_source\x093_frozen_i\x6dportlib.BuiltinImporter.get_source#opaque\x06Æ\nis_package\x093_frozen_i\x6dportlib.BuiltinImporter.is_package#opaque\x06Ç\x0bload_module\x094_frozen_i\x6dportlib.BuiltinImporter.load_module#opaque\x06È\x15__static_attributes__\x04\x00\x00\x0f\x06Ê\x08__dict__\x04\x00\x00\x10\x06Ì\x0b__weakref__\x04\x00\x00\x11") 0, .bool true, .bool true, .str (S "") 205, .int (21) 0, .str (S "\x06ã\n__module__\x06Ù\x11_frozen_i\x6dportlib\x06ä\x0f__firstlineno__\x04Ú\x00Ȳ\x06å\x07__doc__\x09/_frozen_i\x6dportlib.ModuleSpec.__doc__:str#opaque\x06æ\x08__init__\x09,_frozen_i\x6dportlib.ModuleSpec.__init__#opaque\x06ç\x08__repr__\x09,_frozen_i\x6dportlib.ModuleSpec.__repr__#opaque\x06è\x06__eq__\x09*_frozen_i\x6dportlib.ModuleSpec.__eq__#opaque\x06é\x06cached\x09*_frozen_i\x6dportlib.ModuleSpec.cached#opaque\x06ê\x06parent\x09*_frozen_i\x6dportlib.ModuleSpec.parent#opaque\x06ë\x0chas_location\x090_frozen_i\x6dportlib.ModuleSpec.has_location#opaque\x06ì\x15__static_attributes__\x04\x00\x00\x17\x06î\x08__dict__\x04\x00\x00\x18\x06ð\x0b__weakref__\x04\x00\x00\x19\x06ñ\x08__hash__\x00") 0, .bool true, .bool true, .str (S "") 242] 1, #[]⟩
noncomputable def o19Z (_ : Params) : Obj := ⟨.type "list", none, .seq #[] 0, #[]⟩
noncomputable def o20Z (P : Params) : Obj := ⟨.type "dict", none, .dict #[E P (S "name") 208 (.str (S "_sre") 207), E P (S "loader") 209 (.ref 14), E P (S "origin") 210 (.str (S "built-in") 184), E P (S "loader_state") 211 (N), E P (S "submodule_search_locations") 212 (N), E P (S "_uninitialized_submodules") 213 (.ref 19), E P (S "_set_fileattr") 214 (.bool false), E P (S "_cached") 215 (N), E P (S "_initializing") 243 (.bool false)] 9, #[]⟩
noncomputable def o21Z (P : Params) : Obj := ⟨.type "dict", none, .dict #[E P (S "__module__") 227 (.str (S "_frozen_i\x6dportlib") 217), E P (S "__firstlineno__") 228 (.int (562) 218), E P (S "__doc__") 229 (.builtin "_frozen_i\x6dportlib.ModuleSpec.__doc__:str#opaque"), E P (S "__init__") 230 (.builtin "_frozen_i\x6dportlib.ModuleSpec.__init__#opaque"), E P (S "__repr__") 231 (.builtin "_frozen_i\x6dportlib.ModuleSpec.__repr__#opaque"), E P (S "__eq__") 232 (.builtin "_frozen_i\x6dportlib.ModuleSpec.__eq__#opaque"), E P (S "cached") 233 (.builtin "_frozen_i\x6dportlib.ModuleSpec.cached#opaque"), E P (S "parent") 234 (.builtin "_frozen_i\x6dportlib.ModuleSpec.parent#opaque"), E P (S "has_location") 235 (.builtin "_frozen_i\x6dportlib.ModuleSpec.has_location#opaque"), E P (S "__static_attributes__") 236 (.ref 23), E P (S "__dict__") 238 (.ref 24), E P (S "__weakref__") 240 (.ref 25), E P (S "__hash__") 241 (N)] 13, #[]⟩
noncomputable def o22Z (_ : Params) : Obj := ⟨.type "type", none, .cls { name := (S "ModuleSpec"), bases := [.type "object"], mro := [.ref 22, .type "object"], ns := 21, qualname := (S "ModuleSpec"), hasDict := true, slotNames := [], subclasses := [], abstract := false, collection := none, hasDel := false }, #[]⟩
noncomputable def o23Z (_ : Params) : Obj := ⟨.type "tuple", none, .seq #[.str (S "_cached") 219, .str (S "_set_fileattr") 220, .str (S "_uninitialized_submodules") 221, .str (S "loader") 222, .str (S "loader_state") 223, .str (S "name") 224, .str (S "origin") 225, .str (S "submodule_search_locations") 226] 0, #[]⟩
noncomputable def o24Z (_ : Params) : Obj := ⟨.type "getset_descriptor", none, .fields #[.str (S "__dict__") 237, .ref 22, .builtin "function.__dict__", .builtin "function.__dict__#set"], #[]⟩
noncomputable def o25Z (_ : Params) : Obj := ⟨.type "getset_descriptor", none, .fields #[.str (S "__weakref__") 239, .ref 22, .builtin "ExceptionGroup.__weakref__", N], #[]⟩
noncomputable def o26Z (_ : Params) : Obj := ⟨.ref 22, some 20, .plain, #[]⟩
noncomputable def o27Z (_ : Params) : Obj := ⟨N, none, .seq #[.int (11) 0, .str (PySem.Str.mk #[6, 247, 8, 95, 95, 110, 97, 109, 101, 95, 95, 6, 246, 4, 95, 115, 114, 101, 6, 248, 7, 95, 95, 100, 111, 99, 95, 95, 0, 6, 250, 11, 95, 95, 112, 97, 99, 107, 97, 103, 101, 95, 95, 6, 249, 0, 6, 251, 10, 95, 95, 108, 111, 97, 100, 101, 114, 95, 95, 4, 0, 0, 14, 6, 252, 8, 95, 95, 115, 112, 101, 99, 95, 95, 4, 0, 0, 26, 6, 253, 7, 99, 111, 109, 112, 105, 108, 101, 9, 12, 95, 115, 114, 101, 46, 99, 111, 109, 112, 105, 108, 101, 6, 254, 8, 116, 101, 109, 112, 108, 97, 116, 101, 9, 13, 95, 115, 114, 101, 46, 116, 101, 109, 112, 108, 97, 116, 101, 6, 255, 11, 103, 101, 116, 99, 111, 100, 101, 115, 105, 122, 101, 9, 16, 95, 115, 114, 101, 46, 103, 101, 116, 99, 111, 100, 101, 115, 105, 122, 101, 6, 256, 13, 97, 115, 99, 105, 105, 95, 105, 115, 99, 97, 115, 101, 100, 9, 18, 95, 115, 114, 101, 46, 97, 115, 99, 105, 105, 95, 105, 115, 99, 97, 115, 101, 100, 6, 257, 15, 117, 110, 105, 99, 111, 100, 101, 95, 105, 115, 99, 97, 115, 101, 100, 9, 20, 95, 115, 114, 101, 46, 117, 110, 105, 99, 111, 100, 101, 95, 105, 115, 99, 97, 115, 101, 100, 6, 258, 13, 97, 115, 99, 105, 105, 95, 116, 111, 108, 111, 119, 101, 114, 9, 18, 95, 115, 114, 101, 46, 97, 115, 99, 105, 105, 95, 116, 111, 108, 111, 119, 101, 114, 6, 259, 15, 117, 110, 105, 99, 111, 100, 101, 95, 116, 111, 108, 111, 119, 101, 114, 9, 20, 95, 115, 114, 101, 46, 117, 110, 105, 99, 111, 100, 101, 95, 116, 111, 108, 111, 119, 101, 114, 6, 261, 5, 77, 65, 71, 73, 67, 4, 260, 0, 20230612, 6, 263, 8, 67, 79, 68, 69, 83, 73, 90, 69, 4, 262, 0, 4, 6, 265, 9, 77, 65, 88, 82, 69, 80, 69, 65, 84, 4, 264, 0, 4294967295, 6, 267, 9, 77, 65, 88, 71, 82, 79, 85, 80, 83, 4, 266, 0, 1073741823, 6, 269, 9, 99, 111, 112, 121, 114, 105, 103, 104, 116, 6, 268, 53, 32, 83, 82, 69, 32, 50, 46, 50, 46, 50, 32, 67, 111, 112, 121, 114, 105, 103, 104, 116, 32, 40, 99, 41, 32, 49, 57, 57, 55, 45, 50, 48, 48, 50, 32, 98, 121, 32, 83, 101, 99, 114, 101, 116, 32, 76, 97, 98, 115, 32, 65, 66, 32]) 0, .bool true, .bool false, .str (S "_sre") 271] 0, #[]⟩
noncomputable def TZ (P : Params) : ST := ⟨(B (o0Z P) (B (o1Z P) (B (o3Z P) (B (o7Z P) (B (o15Z P) Z Z) (B (o23Z P) Z Z)) (B (o11Z P) (B (o19Z P) Z Z) (B (o27Z P) Z Z))) (B (o5Z P) (B (o9Z P) (B (o17Z P) Z Z) (B (o25Z P) Z Z)) (B (o13Z P) (B (o21Z P) Z Z) Z))) (B (o2Z P) (B (o4Z P) (B (o8Z P) (B (o16Z P) Z Z) (B (o24Z P) Z Z)) (B (o12Z P) (B (o20Z P) Z Z) Z)) (B (o6Z P) (B (o10Z P) (B (o18Z P) Z Z) (B (o26Z P) Z Z)) (B (o14Z P) (B (o22Z P) Z Z) Z)))), 28, 276⟩
noncomputable def o28A (_ : Params) : Obj := ⟨.type "tuple", none, .seq #[] 0, #[]⟩
noncomputable def o29A (_ : Params) : Obj := ⟨N, none, .fields #[], #[]⟩
noncomputable def o30A (_ : Params) : Obj := ⟨.type "code", none, .fields #[.str (S "<module>") 277, .str (S "<module>") 278, .str (S "/claim/cut.py") 279, .int (1) 0, .int (0) 0, .int (0) 0, .int (0) 0, .int (0) 0, .ref 28, .bool false, .int (276) 0, .ref 29, N, N, N, N, .int (280) 0, .int (1) 0, .str (S "/claim/cut.py") 281], #[]⟩
noncomputable def o31A (_ : Params) : Obj := ⟨.type "frame", none, .plain, #[some (.ref 30), some (.ref 3), some (.ref 3), none, some (.str (S "__main__") 164), none, some (.ref 0)]⟩
noncomputable def TA (P : Params) : ST := ⟨(B (o0Z P) (B (o1Z P) (B (o3Z P) (B (o7Z P) (B (o15Z P) (B (o31A P) Z Z) Z) (B (o23Z P) Z Z)) (B (o11Z P) (B (o19Z P) Z Z) (B (o27Z P) Z Z))) (B (o5Z P) (B (o9Z P) (B (o17Z P) Z Z) (B (o25Z P) Z Z)) (B (o13Z P) (B (o21Z P) Z Z) (B (o29A P) Z Z)))) (B (o2Z P) (B (o4Z P) (B (o8Z P) (B (o16Z P) Z Z) (B (o24Z P) Z Z)) (B (o12Z P) (B (o20Z P) Z Z) (B (o28A P) Z Z))) (B (o6Z P) (B (o10Z P) (B (o18Z P) Z Z) (B (o26Z P) Z Z)) (B (o14Z P) (B (o22Z P) Z Z) (B (o30A P) Z Z))))), 32, 282⟩
noncomputable def o3B (P : Params) : Obj := ⟨.type "dict", none, .dict #[E P (S "__name__") 165 (.str (S "cpy313.smtplib") 282), E P (S "__doc__") 166 (N), E P (S "__package__") 167 (N), E P (S "__loader__") 168 (.builtin "__main__.__loader__#opaque"), E P (S "__spec__") 169 (N), E P (S "__annotations__") 170 (.ref 6), E P (S "__builtins__") 171 (.ref 4), E P (S "__file__") 173 (.str (S "/claim/cut.py") 172), E P (S "__cached__") 174 (N), E P (S "_sre") 275 (.ref 12), E P (S "twin_re_1_smtplib") 299 (.ref 36), E P (S "_twin_re_2") 341 (.ref 41), E P (S "CRLF_smtplib") 343 (.str (S "\x0d\n") 342), E P (S "_quote_periods") 350 (.ref 48), E P (S "_fix_eols") 357 (.ref 55), E P (S "twin_re_1_quoprimime") 392 (.ref 60), E P (S "CRLF_quoprimime") 394 (.str (S "\x0d\n") 393), E P (S "NL") 396 (.str (S "\n") 395)] 18, #[]⟩
noncomputable def o29B (_ : Params) : Obj := ⟨N, none, .fields #[.int (6) 0, .int (0) 0, .ref 47, .int (8) 0, .int (0) 0, .ref 54], #[]⟩
noncomputable def o32B (_ : Params) : Obj := ⟨.type "list", none, .seq #[.int (14) 287, .int (4) 288, .int (0) 289, .int (1) 290, .int (1) 291, .int (6) 292, .int (1) 293, .int (16) 294, .int (46) 295, .int (1) 296] 0, #[]⟩
noncomputable def o33B (_ : Params) : Obj := ⟨.type "dict", none, .dict #[] 0, #[]⟩
noncomputable def o34B (_ : Params) : Obj := ⟨.type "tuple", none, .seq #[N] 0, #[]⟩
noncomputable def o35B (_ : Params) : Obj := ⟨.type "tuple", none, .seq #[.int (14) 0, .int (4) 0, .int (0) 0, .int (1) 0, .int (1) 0, .int (6) 0, .int (1) 0, .int (16) 0, .int (46) 0, .int (1) 0] 0, #[]⟩
noncomputable def o36B (_ : Params) : Obj := ⟨.type "re.Pattern", none, .fields #[.bytes #[40, 63, 109, 41, 94, 92, 46] 285, .int (8) 298, .int (0) 0, N, N, .ref 35, .int (1) 0], #[]⟩
noncomputable def o37B (_ : Params) : Obj := ⟨.type "list", none, .seq #[.int (14) 303, .int (9) 304, .int (4) 305, .int (1) 306, .int (2) 307, .int (16) 308, .int (10) 309, .int (16) 310, .int (13) 311, .int (0) 312, .int (7) 313, .int (7) 314, .int (16) 315, .int (13) 316, .int (16) 317, .int (10) 318, .int (15) 319, .int (18) 320, .int (5) 321, .int (16) 322, .int (10) 323, .int (15) 324, .int (13) 325, .int (11) 326, .int (16) 327, .int (13) 328, .int (5) 329, .int (5) 330, .int (0) 331, .int (16) 332, .int (10) 333, .int (1) 334, .int (15) 335, .int (2) 336, .int (0) 337, .int (1) 338] 0, #[]⟩
noncomputable def o38B (_ : Params) : Obj := ⟨.type "dict", none, .dict #[] 0, #[]⟩
noncomputable def o39B (_ : Params) : Obj := ⟨.type "tuple", none, .seq #[N] 0, #[]⟩
noncomputable def o40B (_ : Params) : Obj := ⟨.type "tuple", none, .seq #[.int (14) 0, .int (9) 0, .int (4) 0, .int (1) 0, .int (2) 0, .int (16) 0, .int (10) 0, .int (16) 0, .int (13) 0, .int (0) 0, .int (7) 0, .int (7) 0, .int (16) 0, .int (13) 0, .int (16) 0, .int (10) 0, .int (15) 0, .int (18) 0, .int (5) 0, .int (16) 0, .int (10) 0, .int (15) 0, .int (13) 0, .int (11) 0, .int (16) 0, .int (13) 0, .int (5) 0, .int (5) 0, .int (0) 0, .int (16) 0, .int (10) 0, .int (1) 0, .int (15) 0, .int (2) 0, .int (0) 0, .int (1) 0] 0, #[]⟩
noncomputable def o41B (_ : Params) : Obj := ⟨.type "re.Pattern", none, .fields #[.str (S "(?:\\r\\n|\\n|\\r(?!\\n))") 301, .int (32) 340, .int (0) 0, N, N, .ref 40, .int (0) 0], #[]⟩
noncomputable def o42B (_ : Params) : Obj := ⟨.type "tuple", none, .seq #[] 0, #[]⟩
noncomputable def o43B (_ : Params) : Obj := ⟨N, none, .fields #[], #[]⟩
noncomputable def o44B (_ : Params) : Obj := ⟨.type "tuple", none, .seq #[.str (S "bindata") 347] 0, #[]⟩
noncomputable def o45B (_ : Params) : Obj := ⟨.type "tuple", none, .seq #[] 0, #[]⟩
noncomputable def o46B (_ : Params) : Obj := ⟨N, none, .func (fn 5 (S "_quote_periods") (S "_quote_periods") 0 [] (N) (N) (N) (N) none (N) (N) 0), #[]⟩
noncomputable def o47B (_ : Params) : Obj := ⟨.type "code", none, .fields #[.str (S "_quote_periods") 344, .str (S "_quote_periods") 345, .str (S "/claim/cut.py") 346, .int (6) 0, .int (1) 0, .int (0) 0, .int (0) 0, .int (3) 0, .ref 42, .bool true, .int (276) 0, .ref 43, N, .ref 44, .ref 45, .ref 46, .int (348) 0, .int (6) 0, .str (S "/claim/cut.py") 349], #[]⟩
noncomputable def o48B (_ : Params) : Obj := ⟨.type "function", none, .func (fn 5 (S "_quote_periods") (S "_quote_periods") 3 [] (N) (N) (N) (.str (S "cpy313.smtplib") 282) none (.ref 47) (N) 0), #[]⟩
noncomputable def o49B (_ : Params) : Obj := ⟨.type "tuple", none, .seq #[] 0, #[]⟩
noncomputable def o50B (_ : Params) : Obj := ⟨N, none, .fields #[], #[]⟩
noncomputable def o51B (_ : Params) : Obj := ⟨.type "tuple", none, .seq #[.str (S "data") 354] 0, #[]⟩
noncomputable def o52B (_ : Params) : Obj := ⟨.type "tuple", none, .seq #[] 0, #[]⟩
noncomputable def o53B (_ : Params) : Obj := ⟨N, none, .func (fn 6 (S "_fix_eols") (S "_fix_eols") 0 [] (N) (N) (N) (N) none (N) (N) 0), #[]⟩
noncomputable def o54B (_ : Params) : Obj := ⟨.type "code", none, .fields #[.str (S "_fix_eols") 351, .str (S "_fix_eols") 352, .str (S "/claim/cut.py") 353, .int (8) 0, .int (1) 0, .int (0) 0, .int (0) 0, .int (3) 0, .ref 49, .bool true, .int (276) 0, .ref 50, N, .ref 51, .ref 52, .ref 53, .int (355) 0, .int (8) 0, .str (S "/claim/cut.py") 356], #[]⟩
noncomputable def o55B (_ : Params) : Obj := ⟨.type "function", none, .func (fn 6 (S "_fix_eols") (S "_fix_eols") 3 [] (N) (N) (N) (.str (S "cpy313.smtplib") 282) none (.ref 54) (N) 0), #[]⟩
noncomputable def o56B (_ : Params) : Obj := ⟨.type "list", none, .seq #[.int (14) 361, .int (8) 362, .int (1) 363, .int (3) 364, .int (3) 365, .int (1) 366, .int (1) 367, .int (61) 368, .int (0) 369, .int (16) 370, .int (61) 371, .int (24) 372, .int (16) 373, .int (2) 374, .int (2) 375, .int (13) 376, .int (11) 377, .int (9) 378, .int (0) 379, .int (67043328) 380, .int (126) 381, .int (126) 382, .int (0) 383, .int (0) 384, .int (0) 385, .int (0) 386, .int (0) 387, .int (1) 388, .int (1) 389] 0, #[]⟩
noncomputable def o57B (_ : Params) : Obj := ⟨.type "dict", none, .dict #[] 0, #[]⟩
noncomputable def o58B (_ : Params) : Obj := ⟨.type "tuple", none, .seq #[N] 0, #[]⟩
noncomputable def o59B (_ : Params) : Obj := ⟨.type "tuple", none, .seq #[.int (14) 0, .int (8) 0, .int (1) 0, .int (3) 0, .int (3) 0, .int (1) 0, .int (1) 0, .int (61) 0, .int (0) 0, .int (16) 0, .int (61) 0, .int (24) 0, .int (16) 0, .int (2) 0, .int (2) 0, .int (13) 0, .int (11) 0, .int (9) 0, .int (0) 0, .int (67043328) 0, .int (126) 0, .int (126) 0, .int (0) 0, .int (0) 0, .int (0) 0, .int (0) 0, .int (0) 0, .int (1) 0, .int (1) 0] 0, #[]⟩
noncomputable def o60B (_ : Params) : Obj := ⟨.type "re.Pattern", none, .fields #[.str (S "=[a-fA-F0-9]{2}") 359, .int (256) 391, .int (0) 0, N, N, .ref 59, .int (0) 0], #[]⟩
noncomputable def TB (P : Params) : ST := ⟨(B (o0Z P) (B (o1Z P) (B (o3B P) (B (o7Z P) (B (o15Z P) (B (o31A P) Z Z) (B (o47B P) Z Z)) (B (o23Z P) (B (o39B P) Z Z) (B (o55B P) Z Z))) (B (o11Z P) (B (o19Z P) (B (o35B P) Z Z) (B (o51B P) Z Z)) (B (o27Z P) (B (o43B P) Z Z) (B (o59B P) Z Z)))) (B (o5Z P) (B (o9Z P) (B (o17Z P) (B (o33B P) Z Z) (B (o49B P) Z Z)) (B (o25Z P) (B (o41B P) Z Z) (B (o57B P) Z Z))) (B (o13Z P) (B (o21Z P) (B (o37B P) Z Z) (B (o53B P) Z Z)) (B (o29B P) (B (o45B P) Z Z) Z)))) (B (o2Z P) (B (o4Z P) (B (o8Z P) (B (o16Z P) (B (o32B P) Z Z) (B (o48B P) Z Z)) (B (o24Z P) (B (o40B P) Z Z) (B (o56B P) Z Z))) (B (o12Z P) (B (o20Z P) (B (o36B P) Z Z) (B (o52B P) Z Z)) (B (o28A P) (B (o44B P) Z Z) (B (o60B P) Z Z)))) (B (o6Z P) (B (o10Z P) (B (o18Z P) (B (o34B P) Z Z) (B (o50B P) Z Z)) (B (o26Z P) (B (o42B P) Z Z) (B (o58B P) Z Z))) (B (o14Z P) (B (o22Z P) (B (o38B P) Z Z) (B (o54B P) Z Z)) (B (o30A P) (B (o46B P) Z Z) Z))))), 61, 397⟩
noncomputable def o3C (P : Params) : Obj := ⟨.type "dict", none, .dict #[E P (S "__name__") 165 (.str (S "cpy313.smtplib") 282), E P (S "__doc__") 166 (N), E P (S "__package__") 167 (N), E P (S "__loader__") 168 (.builtin "__main__.__loader__#opaque"), E P (S "__spec__") 169 (N), E P (S "__annotations__") 170 (.ref 6), E P (S "__builtins__") 171 (.ref 4), E P (S "__file__") 173 (.str (S "/claim/cut.py") 172), E P (S "__cached__") 174 (N), E P (S "_sre") 275 (.ref 12), E P (S "twin_re_1_smtplib") 299 (.ref 36), E P (S "_twin_re_2") 341 (.ref 41), E P (S "CRLF_smtplib") 343 (.str (S "\x0d\n") 342), E P (S "_quote_periods") 350 (.ref 48), E P (S "_fix_eols") 357 (.ref 55), E P (S "twin_re_1_quoprimime") 392 (.ref 60), E P (S "CRLF_quoprimime") 394 (.str (S "\x0d\n") 393), E P (S "NL") 396 (.str (S "\n") 395), E P (S "_QUOPRI_MAP") 1424 (.ref 63)] 19, #[]⟩
noncomputable def o61C (_ : Params) : Obj := ⟨.type "range", none, .fields #[.int (0) 398, .int (256) 397, .int (1) 399], #[]⟩
noncomputable def o62C (_ : Params) : Obj := ⟨.type "range_iterator", none, .fields #[.int (256) 0, .int (0) 0, .int (1) 0], #[]⟩
noncomputable def items0 : List Value := [.str (S "=00") 403, .str (S "=01") 407, .str (S "=02") 411, .str (S "=03") 415, .str (S "=04") 419, .str (S "=05") 423, .str (S "=06") 427, .str (S "=07") 431, .str (S "=08") 435, .str (S "=09") 439, .str (S "=0A") 443, .str (S "=0B") 447, .str (S "=0C") 451, .str (S "=0D") 455, .str (S "=0E") 459, .str (S "=0F") 463, .str (S "=10") 467, .str (S "=11") 471, .str (S "=12") 475, .str (S "=13") 479, .str (S "=14") 483, .str (S "=15") 487, .str (S "=16") 491, .str (S "=17") 495, .str (S "=18") 499, .str (S "=19") 503, .str (S "=1A") 507, .str (S "=1B") 511, .str (S "=1C") 515, .str (S "=1D") 519, .str (S "=1E") 523, .str (S "=1F") 527, .str (S "=20") 531, .str (S "=21") 535, .str (S "=22") 539, .str (S "=23") 543, .str (S "=24") 547, .str (S "=25") 551, .str (S "=26") 555, .str (S "=27") 559, .str (S "=28") 563, .str (S "=29") 567, .str (S "=2A") 571, .str (S "=2B") 575, .str (S "=2C") 579, .str (S "=2D") 583, .str (S "=2E") 587, .str (S "=2F") 591, .str (S "=30") 595, .str (S "=31") 599, .str (S "=32") 603, .str (S "=33") 607, .str (S "=34") 611, .str (S "=35") 615, .str (S "=36") 619, .str (S "=37") 623, .str (S "=38") 627, .str (S "=39") 631, .str (S "=3A") 635, .str (S "=3B") 639, .str (S "=3C") 643, .str (S "=3D") 647, .str (S "=3E") 651, .str (S "=3F") 655, .str (S "=40") 659, .str (S "=41") 663, .str (S "=42") 667, .str (S "=43") 671, .str (S "=44") 675, .str (S "=45") 679, .str (S "=46") 683, .str (S "=47") 687, .str (S "=48") 691, .str (S "=49") 695, .str (S "=4A") 699, .str (S "=4B") 703, .str (S "=4C") 707, .str (S "=4D") 711, .str (S "=4E") 715, .str (S "=4F") 719, .str (S "=50") 723, .str (S "=51") 727, .str (S "=52") 731, .str (S "=53") 735, .str (S "=54") 739, .str (S "=55") 743, .str (S "=56") 747, .str (S "=57") 751, .str (S "=58") 755, .str (S "=59") 759, .str (S "=5A") 763, .str (S "=5B") 767, .str (S "=5C") 771, .str (S "=5D") 775, .str (S "=5E") 779, .str (S "=5F") 783, .str (S "=60") 787, .str (S "=61") 791, .str (S "=62") 795, .str (S "=63") 799, .str (S "=64") 803, .str (S "=65") 807, .str (S "=66") 811, .str (S "=67") 815, .str (S "=68") 819, .str (S "=69") 823, .str (S "=6A") 827, .str (S "=6B") 831, .str (S "=6C") 835, .str (S "=6D") 839, .str (S "=6E") 843, .str (S "=6F") 847, .str (S "=70") 851, .str (S "=71") 855, .str (S "=72") 859, .str (S "=73") 863, .str (S "=74") 867, .str (S "=75") 871, .str (S "=76") 875, .str (S "=77") 879, .str (S "=78") 883, .str (S "=79") 887, .str (S "=7A") 891, .str (S "=7B") 895, .str (S "=7C") 899, .str (S "=7D") 903, .str (S "=7E") 907, .str (S "=7F") 911, .str (S "=80") 915, .str (S "=81") 919, .str (S "=82") 923, .str (S "=83") 927, .str (S "=84") 931, .str (S "=85") 935, .str (S "=86") 939, .str (S "=87") 943, .str (S "=88") 947, .str (S "=89") 951, .str (S "=8A") 955, .str (S "=8B") 959, .str (S "=8C") 963, .str (S "=8D") 967, .str (S "=8E") 971, .str (S "=8F") 975, .str (S "=90") 979, .str (S "=91") 983, .str (S "=92") 987, .str (S "=93") 991, .str (S "=94") 995, .str (S "=95") 999, .str (S "=96") 1003, .str (S "=97") 1007, .str (S "=98") 1011, .str (S "=99") 1015, .str (S "=9A") 1019, .str (S "=9B") 1023, .str (S "=9C") 1027, .str (S "=9D") 1031, .str (S "=9E") 1035, .str (S "=9F") 1039, .str (S "=A0") 1043, .str (S "=A1") 1047, .str (S "=A2") 1051, .str (S "=A3") 1055, .str (S "=A4") 1059, .str (S "=A5") 1063, .str (S "=A6") 1067, .str (S "=A7") 1071, .str (S "=A8") 1075, .str (S "=A9") 1079, .str (S "=AA") 1083, .str (S "=AB") 1087, .str (S "=AC") 1091, .str (S "=AD") 1095, .str (S "=AE") 1099, .str (S "=AF") 1103, .str (S "=B0") 1107, .str (S "=B1") 1111, .str (S "=B2") 1115, .str (S "=B3") 1119, .str (S "=B4") 1123, .str (S "=B5") 1127, .str (S "=B6") 1131, .str (S "=B7") 1135, .str (S "=B8") 1139, .str (S "=B9") 1143, .str (S "=BA") 1147, .str (S "=BB") 1151, .str (S "=BC") 1155, .str (S "=BD") 1159, .str (S "=BE") 1163, .str (S "=BF") 1167, .str (S "=C0") 1171, .str (S "=C1") 1175, .str (S "=C2") 1179, .str (S "=C3") 1183, .str (S "=C4") 1187, .str (S "=C5") 1191, .str (S "=C6") 1195, .str (S "=C7") 1199, .str (S "=C8") 1203, .str (S "=C9") 1207, .str (S "=CA") 1211, .str (S "=CB") 1215, .str (S "=CC") 1219, .str (S "=CD") 1223, .str (S "=CE") 1227, .str (S "=CF") 1231, .str (S "=D0") 1235, .str (S "=D1") 1239, .str (S "=D2") 1243, .str (S "=D3") 1247, .str (S "=D4") 1251, .str (S "=D5") 1255, .str (S "=D6") 1259, .str (S "=D7") 1263, .str (S "=D8") 1267, .str (S "=D9") 1271, .str (S "=DA") 1275, .str (S "=DB") 1279, .str (S "=DC") 1283, .str (S "=DD") 1287, .str (S "=DE") 1291, .str (S "=DF") 1295, .str (S "=E0") 1299, .str (S "=E1") 1303, .str (S "=E2") 1307, .str (S "=E3") 1311, .str (S "=E4") 1315, .str (S "=E5") 1319, .str (S "=E6") 1323, .str (S "=E7") 1327, .str (S "=E8") 1331, .str (S "=E9") 1335, .str (S "=EA") 1339, .str (S "=EB") 1343, .str (S "=EC") 1347, .str (S "=ED") 1351, .str (S "=EE") 1355, .str (S "=EF") 1359, .str (S "=F0") 1363, .str (S "=F1") 1367, .str (S "=F2") 1371, .str (S "=F3") 1375, .str (S "=F4") 1379, .str (S "=F5") 1383, .str (S "=F6") 1387, .str (S "=F7") 1391, .str (S "=F8") 1395, .str (S "=F9") 1399, .str (S "=FA") 1403, .str (S "=FB") 1407, .str (S "=FC") 1411, .str (S "=FD") 1415, .str (S "=FE") 1419, .str (S "=FF") 1423]
noncomputable def o63C (_ : Params) : Obj := ⟨.type "list", none, .seq items0.toArray 256, #[]⟩
noncomputable def o64C (_ : Params) : Obj := ⟨.type "dict", none, .dict #[] 2, #[]⟩
noncomputable def o65C (_ : Params) : Obj := ⟨.type "tuple", none, .seq #[] 0, #[]⟩
noncomputable def o66C (_ : Params) : Obj := ⟨.type "StopIteration", none, .fields #[.ref 65, N, N, N, .bool false, N], #[]⟩
noncomputable def TC (P : Params) : ST := ⟨(B (o0Z P) (B (o1Z P) (B (o3C P) (B (o7Z P) (B (o15Z P) (B (o31A P) (B (o63C P) Z Z) Z) (B (o47B P) Z Z)) (B (o23Z P) (B (o39B P) Z Z) (B (o55B P) Z Z))) (B (o11Z P) (B (o19Z P) (B (o35B P) Z Z) (B (o51B P) Z Z)) (B (o27Z P) (B (o43B P) Z Z) (B (o59B P) Z Z)))) (B (o5Z P) (B (o9Z P) (B (o17Z P) (B (o33B P) (B (o65C P) Z Z) Z) (B (o49B P) Z Z)) (B (o25Z P) (B (o41B P) Z Z) (B (o57B P) Z Z))) (B (o13Z P) (B (o21Z P) (B (o37B P) Z Z) (B (o53B P) Z Z)) (B (o29B P) (B (o45B P) Z Z) (B (o61C P) Z Z))))) (B (o2Z P) (B (o4Z P) (B (o8Z P) (B (o16Z P) (B (o32B P) (B (o64C P) Z Z) Z) (B (o48B P) Z Z)) (B (o24Z P) (B (o40B P) Z Z) (B (o56B P) Z Z))) (B (o12Z P) (B (o20Z P) (B (o36B P) Z Z) (B (o52B P) Z Z)) (B (o28A P) (B (o44B P) Z Z) (B (o60B P) Z Z)))) (B (o6Z P) (B (o10Z P) (B (o18Z P) (B (o34B P) (B (o66C P) Z Z) Z) (B (o50B P) Z Z)) (B (o26Z P) (B (o42B P) Z Z) (B (o58B P) Z Z))) (B (o14Z P) (B (o22Z P) (B (o38B P) Z Z) (B (o54B P) Z Z)) (B (o30A P) (B (o46B P) Z Z) (B (o62C P) Z Z)))))), 67, 1425⟩
noncomputable def o3D (P : Params) : Obj := ⟨.type "dict", none, .dict #[E P (S "__name__") 165 (.str (S "cpy313.email.quoprimime") 1440), E P (S "__doc__") 166 (N), E P (S "__package__") 167 (N), E P (S "__loader__") 168 (.builtin "__main__.__loader__#opaque"), E P (S "__spec__") 169 (N), E P (S "__annotations__") 170 (.ref 6), E P (S "__builtins__") 171 (.ref 4), E P (S "__file__") 173 (.str (S "/claim/cut.py") 172), E P (S "__cached__") 174 (N), E P (S "_sre") 275 (.ref 12), E P (S "twin_re_1_smtplib") 299 (.ref 36), E P (S "_twin_re_2") 341 (.ref 41), E P (S "CRLF_smtplib") 343 (.str (S "\x0d\n") 342), E P (S "_quote_periods") 350 (.ref 48), E P (S "_fix_eols") 357 (.ref 55), E P (S "twin_re_1_quoprimime") 392 (.ref 60), E P (S "CRLF_quoprimime") 394 (.str (S "\x0d\n") 393), E P (S "NL") 396 (.str (S "\n") 395), E P (S "_QUOPRI_MAP") 1424 (.ref 63), E P (S "_QUOPRI_HEADER_MAP") 1425 (.ref 68), E P (S "_QUOPRI_BODY_MAP") 1426 (.ref 70), E P (S "ascii_lowercase") 1428 (.str (S "abcdefghijklmnopqrstuvwxyz") 1427), E P (S "ascii_uppercase") 1430 (.str (S "ABCDEFGHIJKLMNOPQRSTUVWXYZ") 1429), E P (S "ascii_letters") 1432 (.str (S "abcdefghijklmnopqrstuvwxyzABCDEFGHIJKLMNOPQRSTUVWXYZ") 1431), E P (S "digits") 1434 (.str (S "0123456789") 1433), E P (S "hexdigits") 1439 (.str (S "0123456789abcdefABCDEF") 1438)] 26, #[]⟩
noncomputable def o67D (_ : Params) : Obj := ⟨.type "slice", none, .fields #[N, N, N], #[]⟩
noncomputable def o68D (_ : Params) : Obj := ⟨.type "list", none, .seq items0.toArray 0, #[]⟩
noncomputable def o69D (_ : Params) : Obj := ⟨.type "slice", none, .fields #[N, N, N], #[]⟩
noncomputable def o70D (_ : Params) : Obj := ⟨.type "list", none, .seq items0.toArray 0, #[]⟩
noncomputable def TD (P : Params) : ST := ⟨(B (o0Z P) (B (o1Z P) (B (o3D P) (B (o7Z P) (B (o15Z P) (B (o31A P) (B (o63C P) Z Z) Z) (B (o47B P) Z Z)) (B (o23Z P) (B (o39B P) Z Z) (B (o55B P) Z Z))) (B (o11Z P) (B (o19Z P) (B (o35B P) (B (o67D P) Z Z) Z) (B (o51B P) Z Z)) (B (o27Z P) (B (o43B P) Z Z) (B (o59B P) Z Z)))) (B (o5Z P) (B (o9Z P) (B (o17Z P) (B (o33B P) (B (o65C P) Z Z) Z) (B (o49B P) Z Z)) (B (o25Z P) (B (o41B P) Z Z) (B (o57B P) Z Z))) (B (o13Z P) (B (o21Z P) (B (o37B P) (B (o69D P) Z Z) Z) (B (o53B P) Z Z)) (B (o29B P) (B (o45B P) Z Z) (B (o61C P) Z Z))))) (B (o2Z P) (B (o4Z P) (B (o8Z P) (B (o16Z P) (B (o32B P) (B (o64C P) Z Z) Z) (B (o48B P) Z Z)) (B (o24Z P) (B (o40B P) Z Z) (B (o56B P) Z Z))) (B (o12Z P) (B (o20Z P) (B (o36B P) (B (o68D P) Z Z) Z) (B (o52B P) Z Z)) (B (o28A P) (B (o44B P) Z Z) (B (o60B P) Z Z)))) (B (o6Z P) (B (o10Z P) (B (o18Z P) (B (o34B P) (B (o66C P) Z Z) Z) (B (o50B P) Z Z)) (B (o26Z P) (B (o42B P) Z Z) (B (o58B P) Z Z))) (B (o14Z P) (B (o22Z P) (B (o38B P) (B (o70D P) Z Z) Z) (B (o54B P) Z Z)) (B (o30A P) (B (o46B P) Z Z) (B (o62C P) Z Z)))))), 71, 1442⟩
noncomputable def o3F (P : Params) : Obj := ⟨.type "dict", none, .dict #[E P (S "__name__") 165 (.str (S "cpy313.email.quoprimime") 1440), E P (S "__doc__") 166 (N), E P (S "__package__") 167 (N), E P (S "__loader__") 168 (.builtin "__main__.__loader__#opaque"), E P (S "__spec__") 169 (N), E P (S "__annotations__") 170 (.ref 6), E P (S "__builtins__") 171 (.ref 4), E P (S "__file__") 173 (.str (S "/claim/cut.py") 172), E P (S "__cached__") 174 (N), E P (S "_sre") 275 (.ref 12), E P (S "twin_re_1_smtplib") 299 (.ref 36), E P (S "_twin_re_2") 341 (.ref 41), E P (S "CRLF_smtplib") 343 (.str (S "\x0d\n") 342), E P (S "_quote_periods") 350 (.ref 48), E P (S "_fix_eols") 357 (.ref 55), E P (S "twin_re_1_quoprimime") 392 (.ref 60), E P (S "CRLF_quoprimime") 394 (.str (S "\x0d\n") 393), E P (S "NL") 396 (.str (S "\n") 395), E P (S "_QUOPRI_MAP") 1424 (.ref 63), E P (S "_QUOPRI_HEADER_MAP") 1425 (.ref 68), E P (S "_QUOPRI_BODY_MAP") 1426 (.ref 70), E P (S "ascii_lowercase") 1428 (.str (S "abcdefghijklmnopqrstuvwxyz") 1427), E P (S "ascii_uppercase") 1430 (.str (S "ABCDEFGHIJKLMNOPQRSTUVWXYZ") 1429), E P (S "ascii_letters") 1432 (.str (S "abcdefghijklmnopqrstuvwxyzABCDEFGHIJKLMNOPQRSTUVWXYZ") 1431), E P (S "digits") 1434 (.str (S "0123456789") 1433), E P (S "hexdigits") 1439 (.str (S "0123456789abcdefABCDEF") 1438), E P (S "c") 1450 (.int (57) 1647)] 27, #[]⟩
noncomputable def items1 : List Value := [.str (S "=00") 403, .str (S "=01") 407, .str (S "=02") 411, .str (S "=03") 415, .str (S "=04") 419, .str (S "=05") 423, .str (S "=06") 427, .str (S "=07") 431, .str (S "=08") 435, .str (S "=09") 439, .str (S "=0A") 443, .str (S "=0B") 447, .str (S "=0C") 451, .str (S "=0D") 455, .str (S "=0E") 459, .str (S "=0F") 463, .str (S "=10") 467, .str (S "=11") 471, .str (S "=12") 475, .str (S "=13") 479, .str (S "=14") 483, .str (S "=15") 487, .str (S "=16") 491, .str (S "=17") 495, .str (S "=18") 499, .str (S "=19") 503, .str (S "=1A") 507, .str (S "=1B") 511, .str (S "=1C") 515, .str (S "=1D") 519, .str (S "=1E") 523, .str (S "=1F") 527, .str (S "=20") 531, .str (S "!") 1454, .str (S "=22") 539, .str (S "=23") 543, .str (S "=24") 547, .str (S "=25") 551, .str (S "=26") 555, .str (S "=27") 559, .str (S "=28") 563, .str (S "=29") 567, .str (S "*") 1457, .str (S "+") 1460, .str (S "=2C") 579, .str (S "-") 1451, .str (S "=2E") 587, .str (S "/") 1463, .str (S "0") 1622, .str (S "1") 1625, .str (S "2") 1628, .str (S "3") 1631, .str (S "4") 1634, .str (S "5") 1637, .str (S "6") 1640, .str (S "7") 1643, .str (S "8") 1646, .str (S "9") 1649, .str (S "=3A") 635, .str (S "=3B") 639, .str (S "=3C") 643, .str (S "=3D") 647, .str (S "=3E") 651, .str (S "=3F") 655, .str (S "=40") 659, .str (S "A") 1544, .str (S "B") 1547, .str (S "C") 1550, .str (S "D") 1553, .str (S "E") 1556, .str (S "F") 1559, .str (S "G") 1562, .str (S "H") 1565, .str (S "I") 1568, .str (S "J") 1571, .str (S "K") 1574, .str (S "L") 1577, .str (S "M") 1580, .str (S "N") 1583, .str (S "O") 1586, .str (S "P") 1589, .str (S "Q") 1592, .str (S "R") 1595, .str (S "S") 1598, .str (S "T") 1601, .str (S "U") 1604, .str (S "V") 1607, .str (S "W") 1610, .str (S "X") 1613, .str (S "Y") 1616, .str (S "Z") 1619, .str (S "=5B") 767, .str (S "=5C") 771, .str (S "=5D") 775, .str (S "=5E") 779, .str (S "=5F") 783, .str (S "=60") 787, .str (S "a") 1466, .str (S "b") 1469, .str (S "c") 1472, .str (S "d") 1475, .str (S "e") 1478, .str (S "f") 1481, .str (S "g") 1484, .str (S "h") 1487, .str (S "i") 1490, .str (S "j") 1493, .str (S "k") 1496, .str (S "l") 1499, .str (S "m") 1502, .str (S "n") 1505, .str (S "o") 1508, .str (S "p") 1511, .str (S "q") 1514, .str (S "r") 1517, .str (S "s") 1520, .str (S "t") 1523, .str (S "u") 1526, .str (S "v") 1529, .str (S "w") 1532, .str (S "x") 1535, .str (S "y") 1538, .str (S "z") 1541, .str (S "=7B") 895, .str (S "=7C") 899, .str (S "=7D") 903, .str (S "=7E") 907, .str (S "=7F") 911, .str (S "=80") 915, .str (S "=81") 919, .str (S "=82") 923, .str (S "=83") 927, .str (S "=84") 931, .str (S "=85") 935, .str (S "=86") 939, .str (S "=87") 943, .str (S "=88") 947, .str (S "=89") 951, .str (S "=8A") 955, .str (S "=8B") 959, .str (S "=8C") 963, .str (S "=8D") 967, .str (S "=8E") 971, .str (S "=8F") 975, .str (S "=90") 979, .str (S "=91") 983, .str (S "=92") 987, .str (S "=93") 991, .str (S "=94") 995, .str (S "=95") 999, .str (S "=96") 1003, .str (S "=97") 1007, .str (S "=98") 1011, .str (S "=99") 1015, .str (S "=9A") 1019, .str (S "=9B") 1023, .str (S "=9C") 1027, .str (S "=9D") 1031, .str (S "=9E") 1035, .str (S "=9F") 1039, .str (S "=A0") 1043, .str (S "=A1") 1047, .str (S "=A2") 1051, .str (S "=A3") 1055, .str (S "=A4") 1059, .str (S "=A5") 1063, .str (S "=A6") 1067, .str (S "=A7") 1071, .str (S "=A8") 1075, .str (S "=A9") 1079, .str (S "=AA") 1083, .str (S "=AB") 1087, .str (S "=AC") 1091, .str (S "=AD") 1095, .str (S "=AE") 1099, .str (S "=AF") 1103, .str (S "=B0") 1107, .str (S "=B1") 1111, .str (S "=B2") 1115, .str (S "=B3") 1119, .str (S "=B4") 1123, .str (S "=B5") 1127, .str (S "=B6") 1131, .str (S "=B7") 1135, .str (S "=B8") 1139, .str (S "=B9") 1143, .str (S "=BA") 1147, .str (S "=BB") 1151, .str (S "=BC") 1155, .str (S "=BD") 1159, .str (S "=BE") 1163, .str (S "=BF") 1167, .str (S "=C0") 1171, .str (S "=C1") 1175, .str (S "=C2") 1179, .str (S "=C3") 1183, .str (S "=C4") 1187, .str (S "=C5") 1191, .str (S "=C6") 1195, .str (S "=C7") 1199, .str (S "=C8") 1203, .str (S "=C9") 1207, .str (S "=CA") 1211, .str (S "=CB") 1215, .str (S "=CC") 1219, .str (S "=CD") 1223, .str (S "=CE") 1227, .str (S "=CF") 1231, .str (S "=D0") 1235, .str (S "=D1") 1239, .str (S "=D2") 1243, .str (S "=D3") 1247, .str (S "=D4") 1251, .str (S "=D5") 1255, .str (S "=D6") 1259, .str (S "=D7") 1263, .str (S "=D8") 1267, .str (S "=D9") 1271, .str (S "=DA") 1275, .str (S "=DB") 1279, .str (S "=DC") 1283, .str (S "=DD") 1287, .str (S "=DE") 1291, .str (S "=DF") 1295, .str (S "=E0") 1299, .str (S "=E1") 1303, .str (S "=E2") 1307, .str (S "=E3") 1311, .str (S "=E4") 1315, .str (S "=E5") 1319, .str (S "=E6") 1323, .str (S "=E7") 1327, .str (S "=E8") 1331, .str (S "=E9") 1335, .str (S "=EA") 1339, .str (S "=EB") 1343, .str (S "=EC") 1347, .str (S "=ED") 1351, .str (S "=EE") 1355, .str (S "=EF") 1359, .str (S "=F0") 1363, .str (S "=F1") 1367, .str (S "=F2") 1371, .str (S "=F3") 1375, .str (S "=F4") 1379, .str (S "=F5") 1383, .str (S "=F6") 1387, .str (S "=F7") 1391, .str (S "=F8") 1395, .str (S "=F9") 1399, .str (S "=FA") 1403, .str (S "=FB") 1407, .str (S "=FC") 1411, .str (S "=FD") 1415, .str (S "=FE") 1419, .str (S "=FF") 1423]
noncomputable def o68F (_ : Params) : Obj := ⟨.type "list", none, .seq items1.toArray 0, #[]⟩
noncomputable def o71F (_ : Params) : Obj := ⟨.type "bytes_iterator", none, .fields #[N, .int (67) 0], #[]⟩
noncomputable def o72F (_ : Params) : Obj := ⟨.type "tuple", none, .seq #[] 0, #[]⟩
noncomputable def o73F (_ : Params) : Obj := ⟨.type "StopIteration", none, .fields #[.ref 72, N, N, N, .bool false, N], #[]⟩
noncomputable def TF (P : Params) : ST := ⟨(B (o0Z P) (B (o1Z P) (B (o3F P) (B (o7Z P) (B (o15Z P) (B (o31A P) (B (o63C P) Z Z) Z) (B (o47B P) Z Z)) (B (o23Z P) (B (o39B P) (B (o71F P) Z Z) Z) (B (o55B P) Z Z))) (B (o11Z P) (B (o19Z P) (B (o35B P) (B (o67D P) Z Z) Z) (B (o51B P) Z Z)) (B (o27Z P) (B (o43B P) Z Z) (B (o59B P) Z Z)))) (B (o5Z P) (B (o9Z P) (B (o17Z P) (B (o33B P) (B (o65C P) Z Z) Z) (B (o49B P) Z Z)) (B (o25Z P) (B (o41B P) (B (o73F P) Z Z) Z) (B (o57B P) Z Z))) (B (o13Z P) (B (o21Z P) (B (o37B P) (B (o69D P) Z Z) Z) (B (o53B P) Z Z)) (B (o29B P) (B (o45B P) Z Z) (B (o61C P) Z Z))))) (B (o2Z P) (B (o4Z P) (B (o8Z P) (B (o16Z P) (B (o32B P) (B (o64C P) Z Z) Z) (B (o48B P) Z Z)) (B (o24Z P) (B (o40B P) (B (o72F P) Z Z) Z) (B (o56B P) Z Z))) (B (o12Z P) (B (o20Z P) (B (o36B P) (B (o68F P) Z Z) Z) (B (o52B P) Z Z)) (B (o28A P) (B (o44B P) Z Z) (B (o60B P) Z Z)))) (B (o6Z P) (B (o10Z P) (B (o18Z P) (B (o34B P) (B (o66C P) Z Z) Z) (B (o50B P) Z Z)) (B (o26Z P) (B (o42B P) Z Z) (B (o58B P) Z Z))) (B (o14Z P) (B (o22Z P) (B (o38B P) (B (o70D P) Z Z) Z) (B (o54B P) Z Z)) (B (o30A P) (B (o46B P) Z Z) (B (o62C P) Z Z)))))), 74, 1650⟩
noncomputable def items2 : List Value := [.str (S "=00") 403, .str (S "=01") 407, .str (S "=02") 411, .str (S "=03") 415, .str (S "=04") 419, .str (S "=05") 423, .str (S "=06") 427, .str (S "=07") 431, .str (S "=08") 435, .str (S "=09") 439, .str (S "=0A") 443, .str (S "=0B") 447, .str (S "=0C") 451, .str (S "=0D") 455, .str (S "=0E") 459, .str (S "=0F") 463, .str (S "=10") 467, .str (S "=11") 471, .str (S "=12") 475, .str (S "=13") 479, .str (S "=14") 483, .str (S "=15") 487, .str (S "=16") 491, .str (S "=17") 495, .str (S "=18") 499, .str (S "=19") 503, .str (S "=1A") 507, .str (S "=1B") 511, .str (S "=1C") 515, .str (S "=1D") 519, .str (S "=1E") 523, .str (S "=1F") 527, .str (S "_") 1650, .str (S "!") 1454, .str (S "=22") 539, .str (S "=23") 543, .str (S "=24") 547, .str (S "=25") 551, .str (S "=26") 555, .str (S "=27") 559, .str (S "=28") 563, .str (S "=29") 567, .str (S "*") 1457, .str (S "+") 1460, .str (S "=2C") 579, .str (S "-") 1451, .str (S "=2E") 587, .str (S "/") 1463, .str (S "0") 1622, .str (S "1") 1625, .str (S "2") 1628, .str (S "3") 1631, .str (S "4") 1634, .str (S "5") 1637, .str (S "6") 1640, .str (S "7") 1643, .str (S "8") 1646, .str (S "9") 1649, .str (S "=3A") 635, .str (S "=3B") 639, .str (S "=3C") 643, .str (S "=3D") 647, .str (S "=3E") 651, .str (S "=3F") 655, .str (S "=40") 659, .str (S "A") 1544, .str (S "B") 1547, .str (S "C") 1550, .str (S "D") 1553, .str (S "E") 1556, .str (S "F") 1559, .str (S "G") 1562, .str (S "H") 1565, .str (S "I") 1568, .str (S "J") 1571, .str (S "K") 1574, .str (S "L") 1577, .str (S "M") 1580, .str (S "N") 1583, .str (S "O") 1586, .str (S "P") 1589, .str (S "Q") 1592, .str (S "R") 1595, .str (S "S") 1598, .str (S "T") 1601, .str (S "U") 1604, .str (S "V") 1607, .str (S "W") 1610, .str (S "X") 1613, .str (S "Y") 1616, .str (S "Z") 1619, .str (S "=5B") 767, .str (S "=5C") 771, .str (S "=5D") 775, .str (S "=5E") 779, .str (S "=5F") 783, .str (S "=60") 787, .str (S "a") 1466, .str (S "b") 1469, .str (S "c") 1472, .str (S "d") 1475, .str (S "e") 1478, .str (S "f") 1481, .str (S "g") 1484, .str (S "h") 1487, .str (S "i") 1490, .str (S "j") 1493, .str (S "k") 1496, .str (S "l") 1499, .str (S "m") 1502, .str (S "n") 1505, .str (S "o") 1508, .str (S "p") 1511, .str (S "q") 1514, .str (S "r") 1517, .str (S "s") 1520, .str (S "t") 1523, .str (S "u") 1526, .str (S "v") 1529, .str (S "w") 1532, .str (S "x") 1535, .str (S "y") 1538, .str (S "z") 1541, .str (S "=7B") 895, .str (S "=7C") 899, .str (S "=7D") 903, .str (S "=7E") 907, .str (S "=7F") 911, .str (S "=80") 915, .str (S "=81") 919, .str (S "=82") 923, .str (S "=83") 927, .str (S "=84") 931, .str (S "=85") 935, .str (S "=86") 939, .str (S "=87") 943, .str (S "=88") 947, .str (S "=89") 951, .str (S "=8A") 955, .str (S "=8B") 959, .str (S "=8C") 963, .str (S "=8D") 967, .str (S "=8E") 971, .str (S "=8F") 975, .str (S "=90") 979, .str (S "=91") 983, .str (S "=92") 987, .str (S "=93") 991, .str (S "=94") 995, .str (S "=95") 999, .str (S "=96") 1003, .str (S "=97") 1007, .str (S "=98") 1011, .str (S "=99") 1015, .str (S "=9A") 1019, .str (S "=9B") 1023, .str (S "=9C") 1027, .str (S "=9D") 1031, .str (S "=9E") 1035, .str (S "=9F") 1039, .str (S "=A0") 1043, .str (S "=A1") 1047, .str (S "=A2") 1051, .str (S "=A3") 1055, .str (S "=A4") 1059, .str (S "=A5") 1063, .str (S "=A6") 1067, .str (S "=A7") 1071, .str (S "=A8") 1075, .str (S "=A9") 1079, .str (S "=AA") 1083, .str (S "=AB") 1087, .str (S "=AC") 1091, .str (S "=AD") 1095, .str (S "=AE") 1099, .str (S "=AF") 1103, .str (S "=B0") 1107, .str (S "=B1") 1111, .str (S "=B2") 1115, .str (S "=B3") 1119, .str (S "=B4") 1123, .str (S "=B5") 1127, .str (S "=B6") 1131, .str (S "=B7") 1135, .str (S "=B8") 1139, .str (S "=B9") 1143, .str (S "=BA") 1147, .str (S "=BB") 1151, .str (S "=BC") 1155, .str (S "=BD") 1159, .str (S "=BE") 1163, .str (S "=BF") 1167, .str (S "=C0") 1171, .str (S "=C1") 1175, .str (S "=C2") 1179, .str (S "=C3") 1183, .str (S "=C4") 1187, .str (S "=C5") 1191, .str (S "=C6") 1195, .str (S "=C7") 1199, .str (S "=C8") 1203, .str (S "=C9") 1207, .str (S "=CA") 1211, .str (S "=CB") 1215, .str (S "=CC") 1219, .str (S "=CD") 1223, .str (S "=CE") 1227, .str (S "=CF") 1231, .str (S "=D0") 1235, .str (S "=D1") 1239, .str (S "=D2") 1243, .str (S "=D3") 1247, .str (S "=D4") 1251, .str (S "=D5") 1255, .str (S "=D6") 1259, .str (S "=D7") 1263, .str (S "=D8") 1267, .str (S "=D9") 1271, .str (S "=DA") 1275, .str (S "=DB") 1279, .str (S "=DC") 1283, .str (S "=DD") 1287, .str (S "=DE") 1291, .str (S "=DF") 1295, .str (S "=E0") 1299, .str (S "=E1") 1303, .str (S "=E2") 1307, .str (S "=E3") 1311, .str (S "=E4") 1315, .str (S "=E5") 1319, .str (S "=E6") 1323, .str (S "=E7") 1327, .str (S "=E8") 1331, .str (S "=E9") 1335, .str (S "=EA") 1339, .str (S "=EB") 1343, .str (S "=EC") 1347, .str (S "=ED") 1351, .str (S "=EE") 1355, .str (S "=EF") 1359, .str (S "=F0") 1363, .str (S "=F1") 1367, .str (S "=F2") 1371, .str (S "=F3") 1375, .str (S "=F4") 1379, .str (S "=F5") 1383, .str (S "=F6") 1387, .str (S "=F7") 1391, .str (S "=F8") 1395, .str (S "=F9") 1399, .str (S "=FA") 1403, .str (S "=FB") 1407, .str (S "=FC") 1411, .str (S "=FD") 1415, .str (S "=FE") 1419, .str (S "=FF") 1423]
noncomputable def o68G (_ : Params) : Obj := ⟨.type "list", none, .seq items2.toArray 0, #[]⟩
noncomputable def TG (P : Params) : ST := ⟨(B (o0Z P) (B (o1Z P) (B (o3F P) (B (o7Z P) (B (o15Z P) (B (o31A P) (B (o63C P) Z Z) Z) (B (o47B P) Z Z)) (B (o23Z P) (B (o39B P) (B (o71F P) Z Z) Z) (B (o55B P) Z Z))) (B (o11Z P) (B (o19Z P) (B (o35B P) (B (o67D P) Z Z) Z) (B (o51B P) Z Z)) (B (o27Z P) (B (o43B P) Z Z) (B (o59B P) Z Z)))) (B (o5Z P) (B (o9Z P) (B (o17Z P) (B (o33B P) (B (o65C P) Z Z) Z) (B (o49B P) Z Z)) (B (o25Z P) (B (o41B P) (B (o73F P) Z Z) Z) (B (o57B P) Z Z))) (B (o13Z P) (B (o21Z P) (B (o37B P) (B (o69D P) Z Z) Z) (B (o53B P) Z Z)) (B (o29B P) (B (o45B P) Z Z) (B (o61C P) Z Z))))) (B (o2Z P) (B (o4Z P) (B (o8Z P) (B (o16Z P) (B (o32B P) (B (o64C P) Z Z) Z) (B (o48B P) Z Z)) (B (o24Z P) (B (o40B P) (B (o72F P) Z Z) Z) (B (o56B P) Z Z))) (B (o12Z P) (B (o20Z P) (B (o36B P) (B (o68G P) Z Z) Z) (B (o52B P) Z Z)) (B (o28A P) (B (o44B P) Z Z) (B (o60B P) Z Z)))) (B (o6Z P) (B (o10Z P) (B (o18Z P) (B (o34B P) (B (o66C P) Z Z) Z) (B (o50B P) Z Z)) (B (o26Z P) (B (o42B P) Z Z) (B (o58B P) Z Z))) (B (o14Z P) (B (o22Z P) (B (o38B P) (B (o70D P) Z Z) Z) (B (o54B P) Z Z)) (B (o30A P) (B (o46B P) Z Z) (B (o62C P) Z Z)))))), 74, 1653⟩
noncomputable def o3H (P : Params) : Obj := ⟨.type "dict", none, .dict #[E P (S "__name__") 165 (.str (S "cpy313.email.quoprimime") 1440), E P (S "__doc__") 166 (N), E P (S "__package__") 167 (N), E P (S "__loader__") 168 (.builtin "__main__.__loader__#opaque"), E P (S "__spec__") 169 (N), E P (S "__annotations__") 170 (.ref 6), E P (S "__builtins__") 171 (.ref 4), E P (S "__file__") 173 (.str (S "/claim/cut.py") 172), E P (S "__cached__") 174 (N), E P (S "_sre") 275 (.ref 12), E P (S "twin_re_1_smtplib") 299 (.ref 36), E P (S "_twin_re_2") 341 (.ref 41), E P (S "CRLF_smtplib") 343 (.str (S "\x0d\n") 342), E P (S "_quote_periods") 350 (.ref 48), E P (S "_fix_eols") 357 (.ref 55), E P (S "twin_re_1_quoprimime") 392 (.ref 60), E P (S "CRLF_quoprimime") 394 (.str (S "\x0d\n") 393), E P (S "NL") 396 (.str (S "\n") 395), E P (S "_QUOPRI_MAP") 1424 (.ref 63), E P (S "_QUOPRI_HEADER_MAP") 1425 (.ref 68), E P (S "_QUOPRI_BODY_MAP") 1426 (.ref 70), E P (S "ascii_lowercase") 1428 (.str (S "abcdefghijklmnopqrstuvwxyz") 1427), E P (S "ascii_uppercase") 1430 (.str (S "ABCDEFGHIJKLMNOPQRSTUVWXYZ") 1429), E P (S "ascii_letters") 1432 (.str (S "abcdefghijklmnopqrstuvwxyzABCDEFGHIJKLMNOPQRSTUVWXYZ") 1431), E P (S "digits") 1434 (.str (S "0123456789") 1433), E P (S "hexdigits") 1439 (.str (S "0123456789abcdefABCDEF") 1438), E P (S "c") 1450 (.int (9) 1936)] 27, #[]⟩
noncomputable def items3 : List Value := [.str (S "=00") 403, .str (S "=01") 407, .str (S "=02") 411, .str (S "=03") 415, .str (S "=04") 419, .str (S "=05") 423, .str (S "=06") 427, .str (S "=07") 431, .str (S "=08") 435, .str (S "\x09") 1938, .str (S "=0A") 443, .str (S "=0B") 447, .str (S "=0C") 451, .str (S "=0D") 455, .str (S "=0E") 459, .str (S "=0F") 463, .str (S "=10") 467, .str (S "=11") 471, .str (S "=12") 475, .str (S "=13") 479, .str (S "=14") 483, .str (S "=15") 487, .str (S "=16") 491, .str (S "=17") 495, .str (S "=18") 499, .str (S "=19") 503, .str (S "=1A") 507, .str (S "=1B") 511, .str (S "=1C") 515, .str (S "=1D") 519, .str (S "=1E") 523, .str (S "=1F") 527, .str (S " ") 1656, .str (S "!") 1659, .str (S "\"") 1662, .str (S "#") 1665, .str (S "$") 1668, .str (S "%") 1671, .str (S "&") 1674, .str (S "'") 1677, .str (S "(") 1680, .str (S ")") 1683, .str (S "*") 1686, .str (S "+") 1689, .str (S ",") 1692, .str (S "-") 1695, .str (S ".") 1698, .str (S "/") 1701, .str (S "0") 1704, .str (S "1") 1707, .str (S "2") 1710, .str (S "3") 1713, .str (S "4") 1716, .str (S "5") 1719, .str (S "6") 1722, .str (S "7") 1725, .str (S "8") 1728, .str (S "9") 1731, .str (S ":") 1734, .str (S ";") 1737, .str (S "<") 1740, .str (S "=3D") 647, .str (S ">") 1743, .str (S "?") 1746, .str (S "@") 1749, .str (S "A") 1752, .str (S "B") 1755, .str (S "C") 1758, .str (S "D") 1761, .str (S "E") 1764, .str (S "F") 1767, .str (S "G") 1770, .str (S "H") 1773, .str (S "I") 1776, .str (S "J") 1779, .str (S "K") 1782, .str (S "L") 1785, .str (S "M") 1788, .str (S "N") 1791, .str (S "O") 1794, .str (S "P") 1797, .str (S "Q") 1800, .str (S "R") 1803, .str (S "S") 1806, .str (S "T") 1809, .str (S "U") 1812, .str (S "V") 1815, .str (S "W") 1818, .str (S "X") 1821, .str (S "Y") 1824, .str (S "Z") 1827, .str (S "[") 1830, .str (S "\\") 1833, .str (S "]") 1836, .str (S "^") 1839, .str (S "_") 1842, .str (S "`") 1845, .str (S "a") 1848, .str (S "b") 1851, .str (S "c") 1854, .str (S "d") 1857, .str (S "e") 1860, .str (S "f") 1863, .str (S "g") 1866, .str (S "h") 1869, .str (S "i") 1872, .str (S "j") 1875, .str (S "k") 1878, .str (S "l") 1881, .str (S "m") 1884, .str (S "n") 1887, .str (S "o") 1890, .str (S "p") 1893, .str (S "q") 1896, .str (S "r") 1899, .str (S "s") 1902, .str (S "t") 1905, .str (S "u") 1908, .str (S "v") 1911, .str (S "w") 1914, .str (S "x") 1917, .str (S "y") 1920, .str (S "z") 1923, .str (S "{") 1926, .str (S "|") 1929, .str (S "}") 1932, .str (S "~") 1935, .str (S "=7F") 911, .str (S "=80") 915, .str (S "=81") 919, .str (S "=82") 923, .str (S "=83") 927, .str (S "=84") 931, .str (S "=85") 935, .str (S "=86") 939, .str (S "=87") 943, .str (S "=88") 947, .str (S "=89") 951, .str (S "=8A") 955, .str (S "=8B") 959, .str (S "=8C") 963, .str (S "=8D") 967, .str (S "=8E") 971, .str (S "=8F") 975, .str (S "=90") 979, .str (S "=91") 983, .str (S "=92") 987, .str (S "=93") 991, .str (S "=94") 995, .str (S "=95") 999, .str (S "=96") 1003, .str (S "=97") 1007, .str (S "=98") 1011, .str (S "=99") 1015, .str (S "=9A") 1019, .str (S "=9B") 1023, .str (S "=9C") 1027, .str (S "=9D") 1031, .str (S "=9E") 1035, .str (S "=9F") 1039, .str (S "=A0") 1043, .str (S "=A1") 1047, .str (S "=A2") 1051, .str (S "=A3") 1055, .str (S "=A4") 1059, .str (S "=A5") 1063, .str (S "=A6") 1067, .str (S "=A7") 1071, .str (S "=A8") 1075, .str (S "=A9") 1079, .str (S "=AA") 1083, .str (S "=AB") 1087, .str (S "=AC") 1091, .str (S "=AD") 1095, .str (S "=AE") 1099, .str (S "=AF") 1103, .str (S "=B0") 1107, .str (S "=B1") 1111, .str (S "=B2") 1115, .str (S "=B3") 1119, .str (S "=B4") 1123, .str (S "=B5") 1127, .str (S "=B6") 1131, .str (S "=B7") 1135, .str (S "=B8") 1139, .str (S "=B9") 1143, .str (S "=BA") 1147, .str (S "=BB") 1151, .str (S "=BC") 1155, .str (S "=BD") 1159, .str (S "=BE") 1163, .str (S "=BF") 1167, .str (S "=C0") 1171, .str (S "=C1") 1175, .str (S "=C2") 1179, .str (S "=C3") 1183, .str (S "=C4") 1187, .str (S "=C5") 1191, .str (S "=C6") 1195, .str (S "=C7") 1199, .str (S "=C8") 1203, .str (S "=C9") 1207, .str (S "=CA") 1211, .str (S "=CB") 1215, .str (S "=CC") 1219, .str (S "=CD") 1223, .str (S "=CE") 1227, .str (S "=CF") 1231, .str (S "=D0") 1235, .str (S "=D1") 1239, .str (S "=D2") 1243, .str (S "=D3") 1247, .str (S "=D4") 1251, .str (S "=D5") 1255, .str (S "=D6") 1259, .str (S "=D7") 1263, .str (S "=D8") 1267, .str (S "=D9") 1271, .str (S "=DA") 1275, .str (S "=DB") 1279, .str (S "=DC") 1283, .str (S "=DD") 1287, .str (S "=DE") 1291, .str (S "=DF") 1295, .str (S "=E0") 1299, .str (S "=E1") 1303, .str (S "=E2") 1307, .str (S "=E3") 1311, .str (S "=E4") 1315, .str (S "=E5") 1319, .str (S "=E6") 1323, .str (S "=E7") 1327, .str (S "=E8") 1331, .str (S "=E9") 1335, .str (S "=EA") 1339, .str (S "=EB") 1343, .str (S "=EC") 1347, .str (S "=ED") 1351, .str (S "=EE") 1355, .str (S "=EF") 1359, .str (S "=F0") 1363, .str (S "=F1") 1367, .str (S "=F2") 1371, .str (S "=F3") 1375, .str (S "=F4") 1379, .str (S "=F5") 1383, .str (S "=F6") 1387, .str (S "=F7") 1391, .str (S "=F8") 1395, .str (S "=F9") 1399, .str (S "=FA") 1403, .str (S "=FB") 1407, .str (S "=FC") 1411, .str (S "=FD") 1415, .str (S "=FE") 1419, .str (S "=FF") 1423]
noncomputable def o70H (_ : Params) : Obj := ⟨.type "list", none, .seq items3.toArray 0, #[]⟩
noncomputable def o74H (_ : Params) : Obj := ⟨.type "bytes_iterator", none, .fields #[N, .int (95) 0], #[]⟩
noncomputable def o75H (_ : Params) : Obj := ⟨.type "tuple", none, .seq #[] 0, #[]⟩
noncomputable def o76H (_ : Params) : Obj := ⟨.type "StopIteration", none, .fields #[.ref 75, N, N, N, .bool false, N], #[]⟩
noncomputable def TH (P : Params) : ST := ⟨(B (o0Z P) (B (o1Z P) (B (o3H P) (B (o7Z P) (B (o15Z P) (B (o31A P) (B (o63C P) Z Z) Z) (B (o47B P) Z Z)) (B (o23Z P) (B (o39B P) (B (o71F P) Z Z) Z) (B (o55B P) Z Z))) (B (o11Z P) (B (o19Z P) (B (o35B P) (B (o67D P) Z Z) Z) (B (o51B P) Z Z)) (B (o27Z P) (B (o43B P) (B (o75H P) Z Z) Z) (B (o59B P) Z Z)))) (B (o5Z P) (B (o9Z P) (B (o17Z P) (B (o33B P) (B (o65C P) Z Z) Z) (B (o49B P) Z Z)) (B (o25Z P) (B (o41B P) (B (o73F P) Z Z) Z) (B (o57B P) Z Z))) (B (o13Z P) (B (o21Z P) (B (o37B P) (B (o69D P) Z Z) Z) (B (o53B P) Z Z)) (B (o29B P) (B (o45B P) Z Z) (B (o61C P) Z Z))))) (B (o2Z P) (B (o4Z P) (B (o8Z P) (B (o16Z P) (B (o32B P) (B (o64C P) Z Z) Z) (B (o48B P) Z Z)) (B (o24Z P) (B (o40B P) (B (o72F P) Z Z) Z) (B (o56B P) Z Z))) (B (o12Z P) (B (o20Z P) (B (o36B P) (B (o68G P) Z Z) Z) (B (o52B P) Z Z)) (B (o28A P) (B (o44B P) (B (o76H P) Z Z) Z) (B (o60B P) Z Z)))) (B (o6Z P) (B (o10Z P) (B (o18Z P) (B (o34B P) (B (o66C P) Z Z) Z) (B (o50B P) Z Z)) (B (o26Z P) (B (o42B P) (B (o74H P) Z Z) Z) (B (o58B P) Z Z))) (B (o14Z P) (B (o22Z P) (B (o38B P) (B (o70H P) Z Z) Z) (B (o54B P) Z Z)) (B (o30A P) (B (o46B P) Z Z) (B (o62C P) Z Z)))))), 77, 1939⟩
noncomputable def o3I (P : Params) : Obj := ⟨.type "dict", none, .dict #[E P (S "__name__") 165 (.str (S "cpy313.email.quoprimime") 1440), E P (S "__doc__") 166 (N), E P (S "__package__") 167 (N), E P (S "__loader__") 168 (.builtin "__main__.__loader__#opaque"), E P (S "__spec__") 169 (N), E P (S "__annotations__") 170 (.ref 6), E P (S "__builtins__") 171 (.ref 4), E P (S "__file__") 173 (.str (S "/claim/cut.py") 172), E P (S "__cached__") 174 (N), E P (S "_sre") 275 (.ref 12), E P (S "twin_re_1_smtplib") 299 (.ref 36), E P (S "_twin_re_2") 341 (.ref 41), E P (S "CRLF_smtplib") 343 (.str (S "\x0d\n") 342), E P (S "_quote_periods") 350 (.ref 48), E P (S "_fix_eols") 357 (.ref 55), E P (S "twin_re_1_quoprimime") 392 (.ref 60), E P (S "CRLF_quoprimime") 394 (.str (S "\x0d\n") 393), E P (S "NL") 396 (.str (S "\n") 395), E P (S "_QUOPRI_MAP") 1424 (.ref 63), E P (S "_QUOPRI_HEADER_MAP") 1425 (.ref 68), E P (S "_QUOPRI_BODY_MAP") 1426 (.ref 70), E P (S "ascii_lowercase") 1428 (.str (S "abcdefghijklmnopqrstuvwxyz") 1427), E P (S "ascii_uppercase") 1430 (.str (S "ABCDEFGHIJKLMNOPQRSTUVWXYZ") 1429), E P (S "ascii_letters") 1432 (.str (S "abcdefghijklmnopqrstuvwxyzABCDEFGHIJKLMNOPQRSTUVWXYZ") 1431), E P (S "digits") 1434 (.str (S "0123456789") 1433), E P (S "hexdigits") 1439 (.str (S "0123456789abcdefABCDEF") 1438), E P (S "c") 1450 (.int (9) 1936), E P (S "unquote") 1945 (.ref 83), E P (S "quote") 1952 (.ref 90), E P (S "header_encode") 1962 (.ref 98), E P (S "_QUOPRI_BODY_ENCODE_MAP") 1963 (.ref 100)] 31, #[]⟩
noncomputable def o29I (_ : Params) : Obj := ⟨N, none, .fields #[.int (6) 0, .int (0) 0, .ref 47, .int (8) 0, .int (0) 0, .ref 54, .int (27) 0, .int (0) 0, .ref 82, .int (29) 0, .int (0) 0, .ref 89, .int (31) 0, .int (0) 0, .ref 97], #[]⟩
noncomputable def o77I (_ : Params) : Obj := ⟨.type "tuple", none, .seq #[] 0, #[]⟩
noncomputable def o78I (_ : Params) : Obj := ⟨N, none, .fields #[], #[]⟩
noncomputable def o79I (_ : Params) : Obj := ⟨.type "tuple", none, .seq #[.str (S "s") 1942] 0, #[]⟩
noncomputable def o80I (_ : Params) : Obj := ⟨.type "tuple", none, .seq #[] 0, #[]⟩
noncomputable def o81I (_ : Params) : Obj := ⟨N, none, .func (fn 22 (S "unquote") (S "unquote") 0 [] (N) (N) (N) (N) none (N) (N) 0), #[]⟩
noncomputable def o82I (_ : Params) : Obj := ⟨.type "code", none, .fields #[.str (S "unquote") 1939, .str (S "unquote") 1940, .str (S "/claim/cut.py") 1941, .int (27) 0, .int (1) 0, .int (0) 0, .int (0) 0, .int (3) 0, .ref 77, .bool true, .int (276) 0, .ref 78, N, .ref 79, .ref 80, .ref 81, .int (1943) 0, .int (27) 0, .str (S "/claim/cut.py") 1944], #[]⟩
noncomputable def o83I (_ : Params) : Obj := ⟨.type "function", none, .func (fn 22 (S "unquote") (S "unquote") 3 [] (N) (N) (N) (.str (S "cpy313.email.quoprimime") 1440) none (.ref 82) (N) 0), #[]⟩
noncomputable def o84I (_ : Params) : Obj := ⟨.type "tuple", none, .seq #[] 0, #[]⟩
noncomputable def o85I (_ : Params) : Obj := ⟨N, none, .fields #[], #[]⟩
noncomputable def o86I (_ : Params) : Obj := ⟨.type "tuple", none, .seq #[.str (S "c") 1949] 0, #[]⟩
noncomputable def o87I (_ : Params) : Obj := ⟨.type "tuple", none, .seq #[] 0, #[]⟩
noncomputable def o88I (_ : Params) : Obj := ⟨N, none, .func (fn 23 (S "quote") (S "quote") 0 [] (N) (N) (N) (N) none (N) (N) 0), #[]⟩
noncomputable def o89I (_ : Params) : Obj := ⟨.type "code", none, .fields #[.str (S "quote") 1946, .str (S "quote") 1947, .str (S "/claim/cut.py") 1948, .int (29) 0, .int (1) 0, .int (0) 0, .int (0) 0, .int (3) 0, .ref 84, .bool true, .int (276) 0, .ref 85, N, .ref 86, .ref 87, .ref 88, .int (1950) 0, .int (29) 0, .str (S "/claim/cut.py") 1951], #[]⟩
noncomputable def o90I (_ : Params) : Obj := ⟨.type "function", none, .func (fn 23 (S "quote") (S "quote") 3 [] (N) (N) (N) (.str (S "cpy313.email.quoprimime") 1440) none (.ref 89) (N) 0), #[]⟩
noncomputable def o91I (_ : Params) : Obj := ⟨.type "tuple", none, .seq #[.str (S "iso-8859-1") 1953] 0, #[]⟩
noncomputable def o92I (_ : Params) : Obj := ⟨.type "tuple", none, .seq #[] 0, #[]⟩
noncomputable def o93I (_ : Params) : Obj := ⟨N, none, .fields #[], #[]⟩
noncomputable def o94I (_ : Params) : Obj := ⟨.type "tuple", none, .seq #[.str (S "header_bytes") 1957, .str (S "charset") 1958, .str (S "encoded") 1959] 0, #[]⟩
noncomputable def o95I (_ : Params) : Obj := ⟨.type "tuple", none, .seq #[] 0, #[]⟩
noncomputable def o96I (_ : Params) : Obj := ⟨N, none, .func (fn 24 (S "header_encode") (S "header_encode") 0 [] (N) (N) (N) (N) none (N) (N) 0), #[]⟩
noncomputable def o97I (_ : Params) : Obj := ⟨.type "code", none, .fields #[.str (S "header_encode") 1954, .str (S "header_encode") 1955, .str (S "/claim/cut.py") 1956, .int (31) 0, .int (2) 0, .int (0) 0, .int (0) 0, .int (3) 0, .ref 92, .bool true, .int (276) 0, .ref 93, N, .ref 94, .ref 95, .ref 96, .int (1960) 0, .int (31) 0, .str (S "/claim/cut.py") 1961], #[]⟩
noncomputable def o98I (_ : Params) : Obj := ⟨.type "function", none, .func (fn 24 (S "header_encode") (S "header_encode") 3 [] (.ref 91) (N) (N) (.str (S "cpy313.email.quoprimime") 1440) none (.ref 97) (N) 0), #[]⟩
noncomputable def o99I (_ : Params) : Obj := ⟨.type "slice", none, .fields #[N, N, N], #[]⟩
noncomputable def o100I (_ : Params) : Obj := ⟨.type "list", none, .seq items3.toArray 0, #[]⟩
noncomputable def TI (P : Params) : ST := ⟨(B (o0Z P) (B (o1Z P) (B (o3I P) (B (o7Z P) (B (o15Z P) (B (o31A P) (B (o63C P) Z Z) (B (o95I P) Z Z)) (B (o47B P) (B (o79I P) Z Z) Z)) (B (o23Z P) (B (o39B P) (B (o71F P) Z Z) Z) (B (o55B P) (B (o87I P) Z Z) Z))) (B (o11Z P) (B (o19Z P) (B (o35B P) (B (o67D P) Z Z) (B (o99I P) Z Z)) (B (o51B P) (B (o83I P) Z Z) Z)) (B (o27Z P) (B (o43B P) (B (o75H P) Z Z) Z) (B (o59B P) (B (o91I P) Z Z) Z)))) (B (o5Z P) (B (o9Z P) (B (o17Z P) (B (o33B P) (B (o65C P) Z Z) (B (o97I P) Z Z)) (B (o49B P) (B (o81I P) Z Z) Z)) (B (o25Z P) (B (o41B P) (B (o73F P) Z Z) Z) (B (o57B P) (B (o89I P) Z Z) Z))) (B (o13Z P) (B (o21Z P) (B (o37B P) (B (o69D P) Z Z) Z) (B (o53B P) (B (o85I P) Z Z) Z)) (B (o29I P) (B (o45B P) (B (o77I P) Z Z) Z) (B (o61C P) (B (o93I P) Z Z) Z))))) (B (o2Z P) (B (o4Z P) (B (o8Z P) (B (o16Z P) (B (o32B P) (B (o64C P) Z Z) (B (o96I P) Z Z)) (B (o48B P) (B (o80I P) Z Z) Z)) (B (o24Z P) (B (o40B P) (B (o72F P) Z Z) Z) (B (o56B P) (B (o88I P) Z Z) Z))) (B (o12Z P) (B (o20Z P) (B (o36B P) (B (o68G P) Z Z) (B (o100I P) Z Z)) (B (o52B P) (B (o84I P) Z Z) Z)) (B (o28A P) (B (o44B P) (B (o76H P) Z Z) Z) (B (o60B P) (B (o92I P) Z Z) Z)))) (B (o6Z P) (B (o10Z P) (B (o18Z P) (B (o34B P) (B (o66C P) Z Z) (B (o98I P) Z Z)) (B (o50B P) (B (o82I P) Z Z) Z)) (B (o26Z P) (B (o42B P) (B (o74H P) Z Z) Z) (B (o58B P) (B (o90I P) Z Z) Z))) (B (o14Z P) (B (o22Z P) (B (o38B P) (B (o70H P) Z Z) Z) (B (o54B P) (B (o86I P) Z Z) Z)) (B (o30A P) (B (o46B P) (B (o78I P) Z Z) Z) (B (o62C P) (B (o94I P) Z Z) Z)))))), 101, 1964⟩
noncomputable def o3J (P : Params) : Obj := ⟨.type "dict", none, .dict #[E P (S "__name__") 165 (.str (S "cpy313.email.quoprimime") 1440), E P (S "__doc__") 166 (N), E P (S "__package__") 167 (N), E P (S "__loader__") 168 (.builtin "__main__.__loader__#opaque"), E P (S "__spec__") 169 (N), E P (S "__annotations__") 170 (.ref 6), E P (S "__builtins__") 171 (.ref 4), E P (S "__file__") 173 (.str (S "/claim/cut.py") 172), E P (S "__cached__") 174 (N), E P (S "_sre") 275 (.ref 12), E P (S "twin_re_1_smtplib") 299 (.ref 36), E P (S "_twin_re_2") 341 (.ref 41), E P (S "CRLF_smtplib") 343 (.str (S "\x0d\n") 342), E P (S "_quote_periods") 350 (.ref 48), E P (S "_fix_eols") 357 (.ref 55), E P (S "twin_re_1_quoprimime") 392 (.ref 60), E P (S "CRLF_quoprimime") 394 (.str (S "\x0d\n") 393), E P (S "NL") 396 (.str (S "\n") 395), E P (S "_QUOPRI_MAP") 1424 (.ref 63), E P (S "_QUOPRI_HEADER_MAP") 1425 (.ref 68), E P (S "_QUOPRI_BODY_MAP") 1426 (.ref 70), E P (S "ascii_lowercase") 1428 (.str (S "abcdefghijklmnopqrstuvwxyz") 1427), E P (S "ascii_uppercase") 1430 (.str (S "ABCDEFGHIJKLMNOPQRSTUVWXYZ") 1429), E P (S "ascii_letters") 1432 (.str (S "abcdefghijklmnopqrstuvwxyzABCDEFGHIJKLMNOPQRSTUVWXYZ") 1431), E P (S "digits") 1434 (.str (S "0123456789") 1433), E P (S "hexdigits") 1439 (.str (S "0123456789abcdefABCDEF") 1438), E P (S "c") 1450 (.int (10) 1968), E P (S "unquote") 1945 (.ref 83), E P (S "quote") 1952 (.ref 90), E P (S "header_encode") 1962 (.ref 98), E P (S "_QUOPRI_BODY_ENCODE_MAP") 1963 (.ref 100)] 31, #[]⟩
noncomputable def items4 : List Value := [.str (S "=00") 403, .str (S "=01") 407, .str (S "=02") 411, .str (S "=03") 415, .str (S "=04") 419, .str (S "=05") 423, .str (S "=06") 427, .str (S "=07") 431, .str (S "=08") 435, .str (S "\x09") 1938, .str (S "\n") 1970, .str (S "=0B") 447, .str (S "=0C") 451, .str (S "\x0d") 1967, .str (S "=0E") 459, .str (S "=0F") 463, .str (S "=10") 467, .str (S "=11") 471, .str (S "=12") 475, .str (S "=13") 479, .str (S "=14") 483, .str (S "=15") 487, .str (S "=16") 491, .str (S "=17") 495, .str (S "=18") 499, .str (S "=19") 503, .str (S "=1A") 507, .str (S "=1B") 511, .str (S "=1C") 515, .str (S "=1D") 519, .str (S "=1E") 523, .str (S "=1F") 527, .str (S " ") 1656, .str (S "!") 1659, .str (S "\"") 1662, .str (S "#") 1665, .str (S "$") 1668, .str (S "%") 1671, .str (S "&") 1674, .str (S "'") 1677, .str (S "(") 1680, .str (S ")") 1683, .str (S "*") 1686, .str (S "+") 1689, .str (S ",") 1692, .str (S "-") 1695, .str (S ".") 1698, .str (S "/") 1701, .str (S "0") 1704, .str (S "1") 1707, .str (S "2") 1710, .str (S "3") 1713, .str (S "4") 1716, .str (S "5") 1719, .str (S "6") 1722, .str (S "7") 1725, .str (S "8") 1728, .str (S "9") 1731, .str (S ":") 1734, .str (S ";") 1737, .str (S "<") 1740, .str (S "=3D") 647, .str (S ">") 1743, .str (S "?") 1746, .str (S "@") 1749, .str (S "A") 1752, .str (S "B") 1755, .str (S "C") 1758, .str (S "D") 1761, .str (S "E") 1764, .str (S "F") 1767, .str (S "G") 1770, .str (S "H") 1773, .str (S "I") 1776, .str (S "J") 1779, .str (S "K") 1782, .str (S "L") 1785, .str (S "M") 1788, .str (S "N") 1791, .str (S "O") 1794, .str (S "P") 1797, .str (S "Q") 1800, .str (S "R") 1803, .str (S "S") 1806, .str (S "T") 1809, .str (S "U") 1812, .str (S "V") 1815, .str (S "W") 1818, .str (S "X") 1821, .str (S "Y") 1824, .str (S "Z") 1827, .str (S "[") 1830, .str (S "\\") 1833, .str (S "]") 1836, .str (S "^") 1839, .str (S "_") 1842, .str (S "`") 1845, .str (S "a") 1848, .str (S "b") 1851, .str (S "c") 1854, .str (S "d") 1857, .str (S "e") 1860, .str (S "f") 1863, .str (S "g") 1866, .str (S "h") 1869, .str (S "i") 1872, .str (S "j") 1875, .str (S "k") 1878, .str (S "l") 1881, .str (S "m") 1884, .str (S "n") 1887, .str (S "o") 1890, .str (S "p") 1893, .str (S "q") 1896, .str (S "r") 1899, .str (S "s") 1902, .str (S "t") 1905, .str (S "u") 1908, .str (S "v") 1911, .str (S "w") 1914, .str (S "x") 1917, .str (S "y") 1920, .str (S "z") 1923, .str (S "{") 1926, .str (S "|") 1929, .str (S "}") 1932, .str (S "~") 1935, .str (S "=7F") 911, .str (S "=80") 915, .str (S "=81") 919, .str (S "=82") 923, .str (S "=83") 927, .str (S "=84") 931, .str (S "=85") 935, .str (S "=86") 939, .str (S "=87") 943, .str (S "=88") 947, .str (S "=89") 951, .str (S "=8A") 955, .str (S "=8B") 959, .str (S "=8C") 963, .str (S "=8D") 967, .str (S "=8E") 971, .str (S "=8F") 975, .str (S "=90") 979, .str (S "=91") 983, .str (S "=92") 987, .str (S "=93") 991, .str (S "=94") 995, .str (S "=95") 999, .str (S "=96") 1003, .str (S "=97") 1007, .str (S "=98") 1011, .str (S "=99") 1015, .str (S "=9A") 1019, .str (S "=9B") 1023, .str (S "=9C") 1027, .str (S "=9D") 1031, .str (S "=9E") 1035, .str (S "=9F") 1039, .str (S "=A0") 1043, .str (S "=A1") 1047, .str (S "=A2") 1051, .str (S "=A3") 1055, .str (S "=A4") 1059, .str (S "=A5") 1063, .str (S "=A6") 1067, .str (S "=A7") 1071, .str (S "=A8") 1075, .str (S "=A9") 1079, .str (S "=AA") 1083, .str (S "=AB") 1087, .str (S "=AC") 1091, .str (S "=AD") 1095, .str (S "=AE") 1099, .str (S "=AF") 1103, .str (S "=B0") 1107, .str (S "=B1") 1111, .str (S "=B2") 1115, .str (S "=B3") 1119, .str (S "=B4") 1123, .str (S "=B5") 1127, .str (S "=B6") 1131, .str (S "=B7") 1135, .str (S "=B8") 1139, .str (S "=B9") 1143, .str (S "=BA") 1147, .str (S "=BB") 1151, .str (S "=BC") 1155, .str (S "=BD") 1159, .str (S "=BE") 1163, .str (S "=BF") 1167, .str (S "=C0") 1171, .str (S "=C1") 1175, .str (S "=C2") 1179, .str (S "=C3") 1183, .str (S "=C4") 1187, .str (S "=C5") 1191, .str (S "=C6") 1195, .str (S "=C7") 1199, .str (S "=C8") 1203, .str (S "=C9") 1207, .str (S "=CA") 1211, .str (S "=CB") 1215, .str (S "=CC") 1219, .str (S "=CD") 1223, .str (S "=CE") 1227, .str (S "=CF") 1231, .str (S "=D0") 1235, .str (S "=D1") 1239, .str (S "=D2") 1243, .str (S "=D3") 1247, .str (S "=D4") 1251, .str (S "=D5") 1255, .str (S "=D6") 1259, .str (S "=D7") 1263, .str (S "=D8") 1267, .str (S "=D9") 1271, .str (S "=DA") 1275, .str (S "=DB") 1279, .str (S "=DC") 1283, .str (S "=DD") 1287, .str (S "=DE") 1291, .str (S "=DF") 1295, .str (S "=E0") 1299, .str (S "=E1") 1303, .str (S "=E2") 1307, .str (S "=E3") 1311, .str (S "=E4") 1315, .str (S "=E5") 1319, .str (S "=E6") 1323, .str (S "=E7") 1327, .str (S "=E8") 1331, .str (S "=E9") 1335, .str (S "=EA") 1339, .str (S "=EB") 1343, .str (S "=EC") 1347, .str (S "=ED") 1351, .str (S "=EE") 1355, .str (S "=EF") 1359, .str (S "=F0") 1363, .str (S "=F1") 1367, .str (S "=F2") 1371, .str (S "=F3") 1375, .str (S "=F4") 1379, .str (S "=F5") 1383, .str (S "=F6") 1387, .str (S "=F7") 1391, .str (S "=F8") 1395, .str (S "=F9") 1399, .str (S "=FA") 1403, .str (S "=FB") 1407, .str (S "=FC") 1411, .str (S "=FD") 1415, .str (S "=FE") 1419, .str (S "=FF") 1423]
noncomputable def o100J (_ : Params) : Obj := ⟨.type "list", none, .seq items4.toArray 0, #[]⟩
noncomputable def o101J (_ : Params) : Obj := ⟨.type "bytes_iterator", none, .fields #[N, .int (2) 0], #[]⟩
noncomputable def o102J (_ : Params) : Obj := ⟨.type "tuple", none, .seq #[] 0, #[]⟩
noncomputable def o103J (_ : Params) : Obj := ⟨.type "StopIteration", none, .fields #[.ref 102, N, N, N, .bool false, N], #[]⟩
noncomputable def TJ (P : Params) : ST := ⟨(B (o0Z P) (B (o1Z P) (B (o3J P) (B (o7Z P) (B (o15Z P) (B (o31A P) (B (o63C P) Z Z) (B (o95I P) Z Z)) (B (o47B P) (B (o79I P) Z Z) Z)) (B (o23Z P) (B (o39B P) (B (o71F P) Z Z) (B (o103J P) Z Z)) (B (o55B P) (B (o87I P) Z Z) Z))) (B (o11Z P) (B (o19Z P) (B (o35B P) (B (o67D P) Z Z) (B (o99I P) Z Z)) (B (o51B P) (B (o83I P) Z Z) Z)) (B (o27Z P) (B (o43B P) (B (o75H P) Z Z) Z) (B (o59B P) (B (o91I P) Z Z) Z)))) (B (o5Z P) (B (o9Z P) (B (o17Z P) (B (o33B P) (B (o65C P) Z Z) (B (o97I P) Z Z)) (B (o49B P) (B (o81I P) Z Z) Z)) (B (o25Z P) (B (o41B P) (B (o73F P) Z Z) Z) (B (o57B P) (B (o89I P) Z Z) Z))) (B (o13Z P) (B (o21Z P) (B (o37B P) (B (o69D P) Z Z) (B (o101J P) Z Z)) (B (o53B P) (B (o85I P) Z Z) Z)) (B (o29I P) (B (o45B P) (B (o77I P) Z Z) Z) (B (o61C P) (B (o93I P) Z Z) Z))))) (B (o2Z P) (B (o4Z P) (B (o8Z P) (B (o16Z P) (B (o32B P) (B (o64C P) Z Z) (B (o96I P) Z Z)) (B (o48B P) (B (o80I P) Z Z) Z)) (B (o24Z P) (B (o40B P) (B (o72F P) Z Z) Z) (B (o56B P) (B (o88I P) Z Z) Z))) (B (o12Z P) (B (o20Z P) (B (o36B P) (B (o68G P) Z Z) (B (o100J P) Z Z)) (B (o52B P) (B (o84I P) Z Z) Z)) (B (o28A P) (B (o44B P) (B (o76H P) Z Z) Z) (B (o60B P) (B (o92I P) Z Z) Z)))) (B (o6Z P) (B (o10Z P) (B (o18Z P) (B (o34B P) (B (o66C P) Z Z) (B (o98I P) Z Z)) (B (o50B P) (B (o82I P) Z Z) Z)) (B (o26Z P) (B (o42B P) (B (o74H P) Z Z) Z) (B (o58B P) (B (o90I P) Z Z) Z))) (B (o14Z P) (B (o22Z P) (B (o38B P) (B (o70H P) Z Z) (B (o102J P) Z Z)) (B (o54B P) (B (o86I P) Z Z) Z)) (B (o30A P) (B (o46B P) (B (o78I P) Z Z) Z) (B (o62C P) (B (o94I P) Z Z) Z)))))), 104, 1971⟩
noncomputable def o3L (P : Params) : Obj := ⟨.type "dict", none, .dict #[E P (S "__name__") 165 (.str (S "law_ny0199_01") 2019), E P (S "__doc__") 166 (N), E P (S "__package__") 167 (N), E P (S "__loader__") 168 (.builtin "__main__.__loader__#opaque"), E P (S "__spec__") 169 (N), E P (S "__annotations__") 170 (.ref 6), E P (S "__builtins__") 171 (.ref 4), E P (S "__file__") 173 (.str (S "/claim/cut.py") 172), E P (S "__cached__") 174 (N), E P (S "_sre") 275 (.ref 12), E P (S "twin_re_1_smtplib") 299 (.ref 36), E P (S "_twin_re_2") 341 (.ref 41), E P (S "CRLF_smtplib") 343 (.str (S "\x0d\n") 342), E P (S "_quote_periods") 350 (.ref 48), E P (S "_fix_eols") 357 (.ref 55), E P (S "twin_re_1_quoprimime") 392 (.ref 60), E P (S "CRLF_quoprimime") 394 (.str (S "\x0d\n") 393), E P (S "NL") 396 (.str (S "\n") 395), E P (S "_QUOPRI_MAP") 1424 (.ref 63), E P (S "_QUOPRI_HEADER_MAP") 1425 (.ref 68), E P (S "_QUOPRI_BODY_MAP") 1426 (.ref 70), E P (S "ascii_lowercase") 1428 (.str (S "abcdefghijklmnopqrstuvwxyz") 1427), E P (S "ascii_uppercase") 1430 (.str (S "ABCDEFGHIJKLMNOPQRSTUVWXYZ") 1429), E P (S "ascii_letters") 1432 (.str (S "abcdefghijklmnopqrstuvwxyzABCDEFGHIJKLMNOPQRSTUVWXYZ") 1431), E P (S "digits") 1434 (.str (S "0123456789") 1433), E P (S "hexdigits") 1439 (.str (S "0123456789abcdefABCDEF") 1438), E P (S "unquote") 1945 (.ref 83), E P (S "quote") 1952 (.ref 90), E P (S "header_encode") 1962 (.ref 98), E P (S "_QUOPRI_BODY_ENCODE_MAP") 1963 (.ref 100), E P (S "body_encode") 1990 (.ref 111), E P (S "decode") 2003 (.ref 119), E P (S "_unquote_match") 2011 (.ref 126), E P (S "header_decode") 2018 (.ref 133), E P (S "_law_weight") 2027 (.ref 140), E P (S "_law_bare") 2033 (.ref 145), E P (S "law") 2039 (.ref 150)] 39, #[]⟩
noncomputable def o29L (_ : Params) : Obj := ⟨N, none, .fields #[.int (6) 0, .int (0) 0, .ref 47, .int (8) 0, .int (0) 0, .ref 54, .int (27) 0, .int (0) 0, .ref 82, .int (29) 0, .int (0) 0, .ref 89, .int (31) 0, .int (0) 0, .ref 97, .int (40) 0, .int (0) 0, .ref 110, .int (78) 0, .int (0) 0, .ref 118, .int (108) 0, .int (0) 0, .ref 125, .int (111) 0, .int (0) 0, .ref 132, .int (115) 0, .int (0) 0, .ref 139, .int (119) 0, .int (0) 0, .ref 144, .int (140) 0, .int (0) 0, .ref 149], #[]⟩
noncomputable def o104L (_ : Params) : Obj := ⟨.type "tuple", none, .seq #[.int (76) 1971, .str (S "\n") 395] 0, #[]⟩
noncomputable def o105L (_ : Params) : Obj := ⟨.type "tuple", none, .seq #[] 0, #[]⟩
noncomputable def o106L (_ : Params) : Obj := ⟨N, none, .fields #[], #[]⟩
noncomputable def o107L (_ : Params) : Obj := ⟨.type "tuple", none, .seq #[.str (S "body") 1975, .str (S "maxlinelen") 1976, .str (S "eol") 1977, .str (S "soft_break") 1978, .str (S "maxlinelen1") 1979, .str (S "encoded_body") 1980, .str (S "append") 1981, .str (S "line") 1982, .str (S "start") 1983, .str (S "laststart") 1984, .str (S "stop") 1985, .str (S "room") 1986, .str (S "q") 1987] 0, #[]⟩
noncomputable def o108L (_ : Params) : Obj := ⟨.type "tuple", none, .seq #[] 0, #[]⟩
noncomputable def o109L (_ : Params) : Obj := ⟨N, none, .func (fn 28 (S "body_encode") (S "body_encode") 0 [] (N) (N) (N) (N) none (N) (N) 0), #[]⟩
noncomputable def o110L (_ : Params) : Obj := ⟨.type "code", none, .fields #[.str (S "body_encode") 1972, .str (S "body_encode") 1973, .str (S "/claim/cut.py") 1974, .int (40) 0, .int (3) 0, .int (0) 0, .int (0) 0, .int (3) 0, .ref 105, .bool true, .int (276) 0, .ref 106, N, .ref 107, .ref 108, .ref 109, .int (1988) 0, .int (40) 0, .str (S "/claim/cut.py") 1989], #[]⟩
noncomputable def o111L (_ : Params) : Obj := ⟨.type "function", none, .func (fn 28 (S "body_encode") (S "body_encode") 3 [] (.ref 104) (N) (N) (.str (S "cpy313.email.quoprimime") 1440) none (.ref 110) (N) 0), #[]⟩
noncomputable def o112L (_ : Params) : Obj := ⟨.type "tuple", none, .seq #[.str (S "\n") 395] 0, #[]⟩
noncomputable def o113L (_ : Params) : Obj := ⟨.type "tuple", none, .seq #[] 0, #[]⟩
noncomputable def o114L (_ : Params) : Obj := ⟨N, none, .fields #[], #[]⟩
noncomputable def o115L (_ : Params) : Obj := ⟨.type "tuple", none, .seq #[.str (S "encoded") 1994, .str (S "eol") 1995, .str (S "decoded") 1996, .str (S "line") 1997, .str (S "i") 1998, .str (S "n") 1999, .str (S "c") 2000] 0, #[]⟩
noncomputable def o116L (_ : Params) : Obj := ⟨.type "tuple", none, .seq #[] 0, #[]⟩
noncomputable def o117L (_ : Params) : Obj := ⟨N, none, .func (fn 29 (S "decode") (S "decode") 0 [] (N) (N) (N) (N) none (N) (N) 0), #[]⟩
noncomputable def o118L (_ : Params) : Obj := ⟨.type "code", none, .fields #[.str (S "decode") 1991, .str (S "decode") 1992, .str (S "/claim/cut.py") 1993, .int (78) 0, .int (2) 0, .int (0) 0, .int (0) 0, .int (3) 0, .ref 113, .bool true, .int (276) 0, .ref 114, N, .ref 115, .ref 116, .ref 117, .int (2001) 0, .int (78) 0, .str (S "/claim/cut.py") 2002], #[]⟩
noncomputable def o119L (_ : Params) : Obj := ⟨.type "function", none, .func (fn 29 (S "decode") (S "decode") 3 [] (.ref 112) (N) (N) (.str (S "cpy313.email.quoprimime") 1440) none (.ref 118) (N) 0), #[]⟩
noncomputable def o120L (_ : Params) : Obj := ⟨.type "tuple", none, .seq #[] 0, #[]⟩
noncomputable def o121L (_ : Params) : Obj := ⟨N, none, .fields #[], #[]⟩
noncomputable def o122L (_ : Params) : Obj := ⟨.type "tuple", none, .seq #[.str (S "match") 2007, .str (S "s") 2008] 0, #[]⟩
noncomputable def o123L (_ : Params) : Obj := ⟨.type "tuple", none, .seq #[] 0, #[]⟩
noncomputable def o124L (_ : Params) : Obj := ⟨N, none, .func (fn 30 (S "_unquote_match") (S "_unquote_match") 0 [] (N) (N) (N) (N) none (N) (N) 0), #[]⟩
noncomputable def o125L (_ : Params) : Obj := ⟨.type "code", none, .fields #[.str (S "_unquote_match") 2004, .str (S "_unquote_match") 2005, .str (S "/claim/cut.py") 2006, .int (108) 0, .int (1) 0, .int (0) 0, .int (0) 0, .int (3) 0, .ref 120, .bool true, .int (276) 0, .ref 121, N, .ref 122, .ref 123, .ref 124, .int (2009) 0, .int (108) 0, .str (S "/claim/cut.py") 2010], #[]⟩
noncomputable def o126L (_ : Params) : Obj := ⟨.type "function", none, .func (fn 30 (S "_unquote_match") (S "_unquote_match") 3 [] (N) (N) (N) (.str (S "cpy313.email.quoprimime") 1440) none (.ref 125) (N) 0), #[]⟩
noncomputable def o127L (_ : Params) : Obj := ⟨.type "tuple", none, .seq #[] 0, #[]⟩
noncomputable def o128L (_ : Params) : Obj := ⟨N, none, .fields #[], #[]⟩
noncomputable def o129L (_ : Params) : Obj := ⟨.type "tuple", none, .seq #[.str (S "s") 2015] 0, #[]⟩
noncomputable def o130L (_ : Params) : Obj := ⟨.type "tuple", none, .seq #[] 0, #[]⟩
noncomputable def o131L (_ : Params) : Obj := ⟨N, none, .func (fn 31 (S "header_decode") (S "header_decode") 0 [] (N) (N) (N) (N) none (N) (N) 0), #[]⟩
noncomputable def o132L (_ : Params) : Obj := ⟨.type "code", none, .fields #[.str (S "header_decode") 2012, .str (S "header_decode") 2013, .str (S "/claim/cut.py") 2014, .int (111) 0, .int (1) 0, .int (0) 0, .int (0) 0, .int (3) 0, .ref 127, .bool true, .int (276) 0, .ref 128, N, .ref 129, .ref 130, .ref 131, .int (2016) 0, .int (111) 0, .str (S "/claim/cut.py") 2017], #[]⟩
noncomputable def o133L (_ : Params) : Obj := ⟨.type "function", none, .func (fn 31 (S "header_decode") (S "header_decode") 3 [] (N) (N) (N) (.str (S "cpy313.email.quoprimime") 1440) none (.ref 132) (N) 0), #[]⟩
noncomputable def o134L (_ : Params) : Obj := ⟨.type "tuple", none, .seq #[] 0, #[]⟩
noncomputable def o135L (_ : Params) : Obj := ⟨N, none, .fields #[], #[]⟩
noncomputable def o136L (_ : Params) : Obj := ⟨.type "tuple", none, .seq #[.str (S "code") 2024] 0, #[]⟩
noncomputable def o137L (_ : Params) : Obj := ⟨.type "tuple", none, .seq #[] 0, #[]⟩
noncomputable def o138L (_ : Params) : Obj := ⟨N, none, .func (fn 33 (S "_law_weight") (S "_law_weight") 0 [] (N) (N) (N) (N) none (N) (N) 0), #[]⟩
noncomputable def o139L (_ : Params) : Obj := ⟨.type "code", none, .fields #[.str (S "_law_weight") 2021, .str (S "_law_weight") 2022, .str (S "/claim/cut.py") 2023, .int (115) 0, .int (1) 0, .int (0) 0, .int (0) 0, .int (3) 0, .ref 134, .bool true, .int (276) 0, .ref 135, N, .ref 136, .ref 137, .ref 138, .int (2025) 0, .int (115) 0, .str (S "/claim/cut.py") 2026], #[]⟩
noncomputable def o140L (_ : Params) : Obj := ⟨.type "function", none, .func (fn 33 (S "_law_weight") (S "_law_weight") 3 [] (N) (N) (N) (.str (S "law_ny0199_01") 2019) none (.ref 139) (N) 0), #[]⟩
noncomputable def o141L (_ : Params) : Obj := ⟨.type "tuple", none, .seq #[] 0, #[]⟩
noncomputable def o142L (_ : Params) : Obj := ⟨N, none, .fields #[], #[]⟩
noncomputable def o143L (_ : Params) : Obj := ⟨N, none, .func (fn 34 (S "_law_bare") (S "_law_bare") 0 [] (N) (N) (N) (N) none (N) (N) 0), #[]⟩
noncomputable def o144L (_ : Params) : Obj := ⟨.type "code", none, .fields #[.str (S "_law_bare") 2028, .str (S "_law_bare") 2029, .str (S "/claim/cut.py") 2030, .int (119) 0, .int (2) 0, .int (0) 0, .int (0) 0, .int (3) 0, .ref 141, .bool true, .int (276) 0, .ref 142, N, N, N, .ref 143, .int (2031) 0, .int (119) 0, .str (S "/claim/cut.py") 2032], #[]⟩
noncomputable def o145L (_ : Params) : Obj := ⟨.type "function", none, .func (fn 34 (S "_law_bare") (S "_law_bare") 3 [] (N) (N) (N) (.str (S "law_ny0199_01") 2019) none (.ref 144) (N) 0), #[]⟩
noncomputable def o146L (_ : Params) : Obj := ⟨.type "tuple", none, .seq #[] 0, #[]⟩
noncomputable def o147L (_ : Params) : Obj := ⟨N, none, .fields #[], #[]⟩
noncomputable def o148L (_ : Params) : Obj := ⟨N, none, .func (fn 35 (S "law") (S "law") 0 [] (N) (N) (N) (N) none (N) (N) 0), #[]⟩
noncomputable def o149L (_ : Params) : Obj := ⟨.type "code", none, .fields #[.str (S "law") 2034, .str (S "law") 2035, .str (S "/claim/cut.py") 2036, .int (140) 0, .int (1) 0, .int (0) 0, .int (0) 0, .int (3) 0, .ref 146, .bool true, .int (276) 0, .ref 147, N, N, N, .ref 148, .int (2037) 0, .int (140) 0, .str (S "/claim/cut.py") 2038], #[]⟩
noncomputable def o150L (_ : Params) : Obj := ⟨.type "function", none, .func (fn 35 (S "law") (S "law") 3 [] (N) (N) (N) (.str (S "law_ny0199_01") 2019) none (.ref 149) (N) 0), #[]⟩
noncomputable def TL (P : Params) : ST := ⟨(B (o0Z P) (B (o1Z P) (B (o3L P) (B (o7Z P) (B (o15Z P) (B (o31A P) (B (o63C P) (B (o127L P) Z Z) Z) (B (o95I P) Z Z)) (B (o47B P) (B (o79I P) (B (o143L P) Z Z) Z) (B (o111L P) Z Z))) (B (o23Z P) (B (o39B P) (B (o71F P) (B (o135L P) Z Z) Z) (B (o103J P) Z Z)) (B (o55B P) (B (o87I P) Z Z) (B (o119L P) Z Z)))) (B (o11Z P) (B (o19Z P) (B (o35B P) (B (o67D P) (B (o131L P) Z Z) Z) (B (o99I P) Z Z)) (B (o51B P) (B (o83I P) (B (o147L P) Z Z) Z) (B (o115L P) Z Z))) (B (o27Z P) (B (o43B P) (B (o75H P) (B (o139L P) Z Z) Z) (B (o107L P) Z Z)) (B (o59B P) (B (o91I P) Z Z) (B (o123L P) Z Z))))) (B (o5Z P) (B (o9Z P) (B (o17Z P) (B (o33B P) (B (o65C P) (B (o129L P) Z Z) Z) (B (o97I P) Z Z)) (B (o49B P) (B (o81I P) (B (o145L P) Z Z) Z) (B (o113L P) Z Z))) (B (o25Z P) (B (o41B P) (B (o73F P) (B (o137L P) Z Z) Z) (B (o105L P) Z Z)) (B (o57B P) (B (o89I P) Z Z) (B (o121L P) Z Z)))) (B (o13Z P) (B (o21Z P) (B (o37B P) (B (o69D P) (B (o133L P) Z Z) Z) (B (o101J P) Z Z)) (B (o53B P) (B (o85I P) (B (o149L P) Z Z) Z) (B (o117L P) Z Z))) (B (o29L P) (B (o45B P) (B (o77I P) (B (o141L P) Z Z) Z) (B (o109L P) Z Z)) (B (o61C P) (B (o93I P) Z Z) (B (o125L P) Z Z)))))) (B (o2Z P) (B (o4Z P) (B (o8Z P) (B (o16Z P) (B (o32B P) (B (o64C P) (B (o128L P) Z Z) Z) (B (o96I P) Z Z)) (B (o48B P) (B (o80I P) (B (o144L P) Z Z) Z) (B (o112L P) Z Z))) (B (o24Z P) (B (o40B P) (B (o72F P) (B (o136L P) Z Z) Z) (B (o104L P) Z Z)) (B (o56B P) (B (o88I P) Z Z) (B (o120L P) Z Z)))) (B (o12Z P) (B (o20Z P) (B (o36B P) (B (o68G P) (B (o132L P) Z Z) Z) (B (o100J P) Z Z)) (B (o52B P) (B (o84I P) (B (o148L P) Z Z) Z) (B (o116L P) Z Z))) (B (o28A P) (B (o44B P) (B (o76H P) (B (o140L P) Z Z) Z) (B (o108L P) Z Z)) (B (o60B P) (B (o92I P) Z Z) (B (o124L P) Z Z))))) (B (o6Z P) (B (o10Z P) (B (o18Z P) (B (o34B P) (B (o66C P) (B (o130L P) Z Z) Z) (B (o98I P) Z Z)) (B (o50B P) (B (o82I P) (B (o146L P) Z Z) Z) (B (o114L P) Z Z))) (B (o26Z P) (B (o42B P) (B (o74H P) (B (o138L P) Z Z) Z) (B (o106L P) Z Z)) (B (o58B P) (B (o90I P) Z Z) (B (o122L P) Z Z)))) (B (o14Z P) (B (o22Z P) (B (o38B P) (B (o70H P) (B (o134L P) Z Z) Z) (B (o102J P) Z Z)) (B (o54B P) (B (o86I P) (B (o150L P) Z Z) Z) (B (o118L P) Z Z))) (B (o30A P) (B (o46B P) (B (o78I P) (B (o142L P) Z Z) Z) (B (o110L P) Z Z)) (B (o62C P) (B (o94I P) Z Z) (B (o126L P) Z Z))))))), 151, 2040⟩
end
end Mine
end
section
namespace Mine
noncomputable abbrev pw : Program := PySem.Challenge.pw_ny0199_01
noncomputable abbrev env0 : Env := { scope := pw.main.scope, locals := mainNs, globals := mainNs, cells := [], code := .ref 30, frame := some 31 }
noncomputable abbrev ev (w : World) {α : Type} (t : Sem α) (T : ST) : Option (Except Value α × ST) := evT none (evC none (denote treeTable) ⟨pw, w.params⟩ 60) ⟨pw, w.params⟩ t T
theorem seg1 (w : World) : ev w (execs ((body.drop 1).take 9) env0) (TA w.params) = some (.ok .next, TB w.params) := by
  kernel_rfl
end Mine
end
section
namespace Mine

/-- As evT; but at the first call of a code that `stop` names, the result (r1, T1) is taken for granted, and the code and the state there are told. -/
noncomputable def evO {α : Type} (stop : Code → Bool) (r1 : Result) (T1 : ST) (hd : Option Value) (run : Code → ST → Option (Result × ST)) (S : Setting) : Sem α → ST → Option ((Except Value α × ST) × Code × ST)
  | .rule _ k, T => evO stop r1 T1 hd run S (k ()) T
  | .at _ k, T => evO stop r1 T1 hd run S (k ()) T
  | .load a _ k, T => match T.tree.get a with
    | some o => evO stop r1 T1 hd run S (k o) T
    | none => none
  | .update a _ f k, T => match T.tree.get a with
    | some o => match (f o).isFreed with
      | true => none
      | false => evO stop r1 T1 hd run S (k ()) ⟨T.tree.set a f, T.n, T.toks⟩
    | none => none
  | .point _ k, T => evO stop r1 T1 hd run S (k ()) T
  | .alloc o k, T => match o.isFreed with
      | true => none
      | false => match (T.tree.ins T.n o).get T.n with
        | some _ => evO stop r1 T1 hd run S (k T.n) ⟨T.tree.ins T.n o, T.n + 1, T.toks⟩
        | none => none
  | .fresh k, T => evO stop r1 T1 hd run S (k T.toks) ⟨T.tree, T.n, T.toks + 1⟩
  | .ask k, T => evO stop r1 T1 hd run S (k S) T
  | .call c h _ _ k, T => match h with
    | none => match stop c with
      | true => match evT hd run S (k r1) T1 with
        | some x => some (x, c, T)
        | none => none
      | false => match run c T with
        | some (r, T') => evO stop r1 T1 hd run S (k r) T'
        | none => none
    | some _ => none
  | _, _ => none

theorem evO_load {α : Type} {stop : Code → Bool} {r1 : Result} {T1 : ST} {hd : Option Value} {run : Code → ST → Option (Result × ST)} {S : Setting} {T : ST} {a p} {k : Obj → Sem α} : evO stop r1 T1 hd run S (Sem.load a p k) T = match T.tree.get a with
    | some o => evO stop r1 T1 hd run S (k o) T
    | none => none := by first | rfl | with_unfolding_all rfl | (set_option smartUnfolding false in rfl) | kernel_rfl
theorem evO_update {α : Type} {stop : Code → Bool} {r1 : Result} {T1 : ST} {hd : Option Value} {run : Code → ST → Option (Result × ST)} {S : Setting} {T : ST} {a p g} {k : Unit → Sem α} : evO stop r1 T1 hd run S (Sem.update a p g k) T = match T.tree.get a with
    | some o => match (g o).isFreed with
      | true => none
      | false => evO stop r1 T1 hd run S (k ()) ⟨T.tree.set a g, T.n, T.toks⟩
    | none => none := by first | rfl | with_unfolding_all rfl | (set_option smartUnfolding false in rfl) | kernel_rfl
theorem evO_alloc {α : Type} {stop : Code → Bool} {r1 : Result} {T1 : ST} {hd : Option Value} {run : Code → ST → Option (Result × ST)} {S : Setting} {T : ST} {o : Obj} {k : Addr → Sem α} : evO stop r1 T1 hd run S (Sem.alloc o k) T = match o.isFreed with
    | true => none
    | false => match (T.tree.ins T.n o).get T.n with
      | some _ => evO stop r1 T1 hd run S (k T.n) ⟨T.tree.ins T.n o, T.n + 1, T.toks⟩
      | none => none := by first | rfl | with_unfolding_all rfl | (set_option smartUnfolding false in rfl) | kernel_rfl
theorem evO_call {α : Type} {stop : Code → Bool} {r1 : Result} {T1 : ST} {hd : Option Value} {run : Code → ST → Option (Result × ST)} {S : Setting} {T : ST} {c gd l} {k : Result → Sem α} : evO stop r1 T1 hd run S (Sem.call c none gd l k) T = match stop c with
    | true => match evT hd run S (k r1) T1 with
      | some x => some (x, c, T)
      | none => none
    | false => match run c T with
      | some (r, T') => evO stop r1 T1 hd run S (k r) T'
      | none => none := by first | rfl | with_unfolding_all rfl | (set_option smartUnfolding false in rfl) | kernel_rfl
theorem evO_sound {stop : Code → Bool} {r1 : Result} {T1 : ST} {hd : Option Value} {M : Model} {g : Shared} {run : Code → ST → Option (Result × ST)} (hrun : Means hd M g run) {Γ : Ctx} {A : Around} (hA : A.handled = hd) (hΓ : Γ.In A)
    {α : Type} (t : Sem α) {c : Code} {Tc : ST} (hc : ∀ s, Rep g Tc s → codeAny M (A.mark none) c (fun r' s' => r' = r1 ∧ Rep g T1 s') s) :
    ∀ {p : Pos} {T T' : ST} {s : Shared} {x : Except Value α}, Rep g T s → evO stop r1 T1 hd run ⟨M.prog, M.w.params⟩ t T = some ((x, T'), c, Tc) →
      Sem.wp M Γ t (fun a _ s' => x = .ok a ∧ Rep g T' s') (fun e _ s' => x = .error e ∧ Rep g T' s') p s := by
  induction t with
  | rule _ k ih => intro p T T' s x R e; exact ih () R e
  | «at» _ k ih => intro p T T' s x R e; exact ih () R e
  | point _ k ih => intro p T T' s x R e; exact ih () R e
  | ask k ih => intro p T T' s x R e; exact ih _ R e
  | load a _ k ih =>
    intro p T T' s x R e
    rw [evO_load] at e
    split at e
    · rename_i o ho; exact ⟨o, R.has _ _ ho, ih o R e⟩
    · cases e
  | update a _ f k ih =>
    intro p T T' s x R e
    rw [evO_update] at e
    split at e
    · rename_i o ho
      split at e
      · cases e
      · rename_i hf
        exact ⟨by rw [R.has _ _ ho]; rfl, ih () (R.update ho hf) e⟩
    · cases e
  | alloc o k ih =>
    intro p T T' s x R e
    rw [evO_alloc] at e
    split at e
    · cases e
    · rename_i hf
      split at e
      · rename_i y hy
        have z := ih T.n (p := p) (R.alloc hf hy) e
        rw [← R.size] at z
        exact z
      · cases e
  | fresh k ih =>
    intro p T T' s x R e
    have z := ih T.toks (p := p) (s := { s with toks := s.toks + 1 }) (T := ⟨T.tree, T.n, T.toks + 1⟩) ⟨R.size, R.has, by show s.toks + 1 = _; rw [R.toks], R.gens, R.drawn, R.os, R.life⟩ e
    rw [← R.toks] at z
    exact z
  | call c' h gd l k ih =>
    intro p T T' s x R e
    cases h with
    | some _ => have e : none = some _ := e; cases e
    | none =>
      rw [evO_call] at e
      split at e
      · split at e
        · rename_i y hy
          cases e
          exact wpCode_mono (fun r' s' ⟨q, R'⟩ => q ▸ evT_sound hrun hA hΓ _ R' hy) (hc s R (Γ.enter c none p) p rfl (hΓ.enter c none p (by simp)))
        · cases e
      · split at e
        · rename_i r T₁ hr
          exact wpCode_mono (fun r' s' ⟨q, R'⟩ => q ▸ ih r R' e) (hrun _ _ _ _ _ R hr (A.mark none) (by show none.or A.handled = hd; exact hA) (Γ.enter c' none p) p rfl (hΓ.enter c' none p (by simp)))
        · cases e
  | _ => intro p T T' s x R e; have e : none = some _ := e; cases e

theorem evO_any {prog : Program} {w : World} {g s : Shared} {A : Around} {α : Type} {t : Sem α} {n : Nat} {T T' Tc T1 : ST} {stop : Code → Bool} {r1 : Result} {c : Code} {a : α} {Q : α → Shared → Prop} {E : Value → Shared → Prop}
    (R : Rep g T s) (hA : A.handled = none) (e : evO stop r1 T1 none (evC none (denote treeTable) ⟨prog, w.params⟩ n) ⟨prog, w.params⟩ t T = some ((.ok a, T'), c, Tc))
    (hc : ∀ s, Rep g Tc s → codeAny (model prog w) (A.mark none) c (fun r' s' => r' = r1 ∧ Rep g T1 s') s) (h : ∀ s', Rep g T' s' → Q a s') :
    wpAny (model prog w) A t Q E s := fun Γ p hΓ => by
  rw [← table_eq_tree] at e
  refine Sem.wp_mono (model prog w) Γ t ?_ ?_ p s (evO_sound (evC_sound (M := model prog w) n) hA hΓ t hc R e)
  · rintro b q s' ⟨e', R'⟩; cases e'; exact h s' R'
  · rintro b q s' ⟨e', _⟩; cases e'

/-- A code by evaluation. -/
theorem ev_code {prog : Program} {w : World} {g s : Shared} {A : Around} {n : Nat} {T T' : ST} {c : Code} {r : Result}
    (R : Rep g T s) (hA : A.handled = none) (e : evC none (denote treeTable) ⟨prog, w.params⟩ n c T = some (r, T')) :
    codeAny (model prog w) A c (fun r' s' => r' = r ∧ Rep g T' s') s := by
  rw [← table_eq_tree] at e
  exact evC_sound (M := model prog w) n c T s r T' R e A hA
end Mine
end
section
namespace Mine
noncomputable section
noncomputable def asgV : Stmt → PySem.Expr
  | .Assign _ v _ => v
  | _ => .Constant .none 0 default
noncomputable def lcElt : PySem.Expr → PySem.Expr
  | .ListComp e _ _ _ => e
  | e => e
noncomputable def lcIter : PySem.Expr → PySem.Expr
  | .ListComp _ (⟨_, i, _, _⟩ :: _) _ _ => i
  | e => e
noncomputable def lcTgt : PySem.Expr → PySem.Expr
  | .ListComp _ (⟨t, _, _, _⟩ :: _) _ _ => t
  | e => e
noncomputable def lcScope : PySem.Expr → Scope
  | .ListComp _ _ s _ => s
  | _ => default
noncomputable def lcPos : PySem.Expr → Pos
  | .ListComp _ _ _ p => p
  | _ => default
noncomputable abbrev vA : PySem.Expr := asgV (stm 10)
noncomputable abbrev eA : PySem.Expr := .ListComp (lcElt vA) [⟨lcTgt vA, lcIter vA, [], 0⟩] (lcScope vA) (lcPos vA)
noncomputable abbrev cenvA : Env := { scope := lcScope vA, locals := 64, globals := 3, cells := [], qual := env0.qual, func := none, code := .ref 30, frame := some 31, builtins := 0 }
noncomputable abbrev oIt (v left : Int) : Obj := ⟨.type "range_iterator", none, .fields #[.int v 0, .int left 0, .int 1 0], #[]⟩
noncomputable abbrev oLst (xs : List Value) (n : Nat) : Obj := ⟨.type "list", none, .seq xs.toArray n, #[]⟩
noncomputable abbrev oDct (es : List DictEntry) (n : Nat) : Obj := ⟨.type "dict", none, .dict es.toArray n, #[]⟩
noncomputable def tA (P : Params) (es : List DictEntry) (ep : Nat) (v left : Int) (xs : List Value) (n : Nat) : BT :=
  ((((TB P).tree.ins 61 (o61C P)).ins 62 (oIt v left)).ins 63 (oLst xs n)).ins 64 (oDct es ep)
noncomputable abbrev TAi (P : Params) (es : List DictEntry) (ep : Nat) (v left : Int) (xs : List Value) (n tk : Nat) : ST := ⟨tA P es ep v left xs n, 65, tk⟩
noncomputable abbrev TAe (P : Params) (es : List DictEntry) (ep : Nat) (v left : Int) (xs : List Value) (n tk : Nat) : ST := ⟨((tA P es ep v left xs n).ins 65 (o65C P)).ins 66 (o66C P), 67, tk⟩
noncomputable def stopLoop : Code → Bool
  | .compStart .. => true
  | .forLoop .. => true
  | _ => false
noncomputable abbrev evo (w : World) (stop : Code → Bool) (r1 : Result) (T1 : ST) {α : Type} (t : Sem α) (T : ST) := evO stop r1 T1 none (evC none (denote treeTable) ⟨pw, w.params⟩ 60) ⟨pw, w.params⟩ t T
theorem stA (w : World) (b : Bool) (hb : w.params.followText "special-get-raises" = b) : True := trivial
theorem stAf (w : World) : evo (w.withFollow "special-get-raises" false) stopLoop (.ok .next) (TAe (w.withFollow "special-get-raises" false).params [E (w.withFollow "special-get-raises" false).params (S "c") 401 (.int 255 1420)] 1 256 0 items0 256 1424) (exec (stm 10) env0) (TB (w.withFollow "special-get-raises" false).params) =
    some ((.ok .next, TC (w.withFollow "special-get-raises" false).params), .compStart eA 0 (.ref 62) (.ref 63) cenvA, TAi (w.withFollow "special-get-raises" false).params [] 0 0 256 [] 0 400) := by kernel_rfl
theorem stAt (w : World) : evo (w.withFollow "special-get-raises" true) stopLoop (.ok .next) (TAe (w.withFollow "special-get-raises" true).params [E (w.withFollow "special-get-raises" true).params (S "c") 401 (.int 255 1420)] 1 256 0 items0 256 1424) (exec (stm 10) env0) (TB (w.withFollow "special-get-raises" true).params) =
    some ((.ok .next, TC (w.withFollow "special-get-raises" true).params), .compStart eA 0 (.ref 62) (.ref 63) cenvA, TAi (w.withFollow "special-get-raises" true).params [] 0 0 256 [] 0 400) := by kernel_rfl
theorem nextA (w : World) (es : List DictEntry) (ep : Nat) (v : Int) (k : Nat) (xs : List Value) (n tk : Nat) :
    ev w (pyNext (.ref 62)) (TAi w.params es ep v ((k + 1 : Nat) : Int) xs n tk) = some (.ok (some (.int v tk)), TAi w.params es ep (v + 1) (((k + 1 : Nat) : Int) - 1) xs n (tk + 1)) := by kernel_rfl
theorem endA (w : World) (es : List DictEntry) (ep : Nat) (v : Int) (xs : List Value) (n tk : Nat) :
    ev w (pyNext (.ref 62)) (TAi w.params es ep v 0 xs n tk) = some (.ok none, TAe w.params es ep v 0 xs n tk) := by kernel_rfl
theorem asg0 (w : World) (v left : Int) (xs : List Value) (n tk t : Nat) :
    ev w (assign (lcTgt vA) cenvA (.int v t)) (TAi w.params [] 0 v left xs n tk) = some (.ok (), TAi w.params [E w.params (S "c") tk (.int v t)] 1 v left xs n (tk + 1)) := by kernel_rfl
theorem asg1 (w : World) (u left v' : Int) (y : Value) (t0 : Nat) (xs : List Value) (n tk t : Nat) :
    ev w (assign (lcTgt vA) cenvA (.int u t)) (TAi w.params [E w.params (S "c") t0 y] 1 v' left xs n tk) = some (.ok (), TAi w.params [E w.params (S "c") t0 (.int u t)] 1 v' left xs n (tk + 1)) := by kernel_rfl
theorem iterAf (w : World) (es : List DictEntry) (ep : Nat) (v left : Int) (xs : List Value) (n tk : Nat) :
    ev (w.withFollow "special-get-raises" false) (pyIter (.ref 62)) (TAi (w.withFollow "special-get-raises" false).params es ep v left xs n tk) = some (.ok (.ref 62), TAi (w.withFollow "special-get-raises" false).params es ep v left xs n tk) := by kernel_rfl
theorem iterAt (w : World) (es : List DictEntry) (ep : Nat) (v left : Int) (xs : List Value) (n tk : Nat) :
    ev (w.withFollow "special-get-raises" true) (pyIter (.ref 62)) (TAi (w.withFollow "special-get-raises" true).params es ep v left xs n tk) = some (.ok (.ref 62), TAi (w.withFollow "special-get-raises" true).params es ep v left xs n tk) := by kernel_rfl
noncomputable def stopMod : Code → Bool
  | .call (.builtin n) _ => n == "str.__mod__"
  | _ => false
theorem eltA (w : World) (v left v' : Int) (t0 t : Nat) (xs : List Value) (n tk : Nat) (hx : PySem.Str) (t' : Nat) (T1 : ST) :
    evo w stopMod (.ok (.ret (.str hx t'))) T1 (eval (lcElt vA) cenvA) (TAi w.params [E w.params (S "c") t0 (.int v t)] 1 v' left xs n tk) =
      some ((.ok (.str hx t'), T1), .call (.builtin "str.__mod__") ⟨[.str (S "=%02X") tk, .int v t], []⟩, TAi w.params [E w.params (S "c") t0 (.int v t)] 1 v' left xs n (tk + 1)) := by kernel_rfl
theorem modC1 (F : PySem.Str) (t u : Nat) (n : Int) : denote treeTable (.call (.builtin "str.__mod__") ⟨[.str F t, .int n u], []⟩) = .pure (.again (.builtin "str.__mod__" ⟨[.str F t, .int n u], []⟩)) := by kernel_rfl
theorem modC2 (F : PySem.Str) (t u : Nat) (n : Int) : denote treeTable (.builtin "str.__mod__" ⟨[.str F t, .int n u], []⟩) = PySem.Builtin.Str.percentFormat (.str F t) F (.int n u) := by kernel_rfl
theorem modQ (F : PySem.Str) (t u : Nat) (n : Int) : (Code.builtin "str.__mod__" ⟨[.str F t, .int n u], []⟩).quiet = true := by kernel_rfl
theorem appC1 (w : World) (T : BT) (xs : List Value) (n m tk : Nat) (x : Value) (h : T.get 63 = some (oLst xs n)) : True := trivial
end
end Mine
end
section
namespace Mine
theorem appC1' (w : World) (es : List DictEntry) (ep : Nat) (v left : Int) (xs : List Value) (n tk : Nat) (x : Value) :
    ev w (denote treeTable (.call (.builtin "list.append") ⟨[.ref 63, x], []⟩)) (TAi w.params es ep v left xs n tk) = some (.ok (.again (.builtin "list.append" ⟨[.ref 63, x], []⟩)), TAi w.params es ep v left xs n tk) := by kernel_rfl
theorem appC2 (x : Value) : denote treeTable (.builtin "list.append" ⟨[.ref 63, x], []⟩) = (updateSeq 63 (·.push x)).bind fun _ => ret .none := by kernel_rfl
theorem mapSeq_push (xs : List Value) (n : Nat) (x : Value) : Obj.mapSeq (·.push x) (oLst xs n) = oLst (xs ++ [x]) (n + 1) := by
  simp [Obj.mapSeq]
theorem get63 (P : Params) (es : List DictEntry) (ep : Nat) (v left : Int) (xs : List Value) (n : Nat) : (tA P es ep v left xs n).get 63 = some (oLst xs n) := by kernel_rfl
theorem set63 (P : Params) (es : List DictEntry) (ep : Nat) (v left : Int) (xs : List Value) (n : Nat) (f : Obj → Obj) (ys : List Value) (m : Nat) (h : f (oLst xs n) = oLst ys m) : (tA P es ep v left xs n).set 63 f = tA P es ep v left ys m := by
  have e : ∀ o : Obj, (((((TB P).tree.ins 61 (o61C P)).ins 62 (oIt v left)).ins 63 o).ins 64 (oDct es ep)).set 63 f = (((((TB P).tree.ins 61 (o61C P)).ins 62 (oIt v left)).ins 63 (f o)).ins 64 (oDct es ep)) := by intro o; kernel_rfl
  have := e (oLst xs n)
  rw [h] at this
  exact this

theorem code_of {prog : Program} {w : World} {A : Around} {c : Code} {R : Result → Shared → Prop} {s : Shared}
    (h : wpAny (model prog w) (A.under c) (denote treeTable c) (fun fin s' => match fin with | .done f => R (.ok f) s' | .again c' => c'.quiet = true ∧ codeAny (model prog w) A c' R s')
      (fun e s' => R (.error e) s') s) : codeAny (model prog w) A c R s := by
  rw [← table_eq_tree] at h
  exact codeAny_of_tree h
theorem append_code {w : World} {g s : Shared} {A : Around} (es : List DictEntry) (ep : Nat) (v left : Int) (xs : List Value) (n tk : Nat) (x : Value) (hx : xs.length < 1000) (hA : A.handled = none)
    (R : Rep g (TAi w.params es ep v left xs n tk) s) :
    codeAny (model pw w) A (.call (.builtin "list.append") ⟨[.ref 63, x], []⟩) (fun r' s' => r' = .ok (.ret .none) ∧ Rep g (TAi w.params es ep v left (xs ++ [x]) (n + 1) tk) s') s := by
  refine code_of ?_
  refine ev_any R hA (appC1' w es ep v left xs n tk x) fun s' R' => ⟨by kernel_rfl, ?_⟩
  refine code_of ?_
  rw [appC2]
  refine wpAny_bind ?_
  have ho := R'.has 63 _ (get63 w.params es ep v left xs n)
  refine wpAny_updateSeq ho rfl (wpAny_pure ?_)
  refine ⟨rfl, ?_⟩
  have := R'.update (f := Obj.mapSeq (·.push x)) (get63 w.params es ep v left xs n) (by rw [mapSeq_push]; rfl)
  rw [set63 _ _ _ _ _ _ _ _ _ _ (mapSeq_push xs n x)] at this
  exact this
end Mine
end
section
namespace Mine
noncomputable def hexd (d : Nat) : Nat := if d < 10 then 48 + d else 55 + d
noncomputable def hexS (n : Nat) : PySem.Str := ⟨#[61, hexd (n / 16), hexd (n % 16)]⟩
theorem isI (n : Int) (u : Tok) : isInstance (.int n u) (.type "tuple") = pure false := by kernel_rfl
theorem pctAll (t u : Tok) : ∀ n < 256, PySem.Builtin.Str.percentFormat (.str (S "=%02X") t) (S "=%02X") (.int (n : Nat) u) = .fresh fun k => .pure (.done (.ret (.str (hexS n) k))) := by
  suffices h : ∀ n : Nat, n < 256 → PySem.Builtin.Str.percentFormat (.str (S "=%02X") t) (S "=%02X") (.int (n : Nat) u) = .fresh fun k => .pure (.done (.ret (.str (hexS n) k))) from h
  intro n hn
  unfold Builtin.Str.percentFormat
  rw [isI, KPc.fills]
  revert n
  refine all256 ?_
  kernel_rfl
theorem modC1' (w : World) (t u n : Nat) (hn : n < 256) (T : ST) :
    evC none (denote treeTable) ⟨pw, w.params⟩ 2 (.call (.builtin "str.__mod__") ⟨[.str (S "=%02X") t, .int (n : Nat) u], []⟩) T = some (.ok (.ret (.str (hexS n) T.toks)), ⟨T.tree, T.n, T.toks + 1⟩) := by
  simp only [evC, modC1, evT, modQ, modC2, pctAll t u n hn]
theorem itemsA : (List.range 256).map (fun j => Value.str (hexS j) (403 + 4 * j)) = items0 := by decide +kernel
end Mine
end
section
namespace Mine
theorem asg0' (w : World) (u v' left : Int) (xs : List Value) (n tk t : Nat) :
    ev w (assign (lcTgt vA) cenvA (.int u t)) (TAi w.params [] 0 v' left xs n tk) = some (.ok (), TAi w.params [E w.params (S "c") tk (.int u t)] 1 v' left xs n (tk + 1)) := by kernel_rfl
noncomputable def xsA (i : Nat) : List Value := (List.range i).map fun j => Value.str (hexS j) (403 + 4 * j)
theorem xsA_succ (i : Nat) : xsA (i + 1) = xsA i ++ [Value.str (hexS i) (403 + 4 * i)] := by
  simp [xsA, List.range_succ]
theorem xsA_len (i : Nat) : (xsA i).length = i := by simp [xsA]
noncomputable def IA (w : World) (g : Shared) (n : Nat) (s : Shared) : Prop := ∃ i es ep, i + n = 256 ∧
  ((i = 0 ∧ es = [] ∧ ep = 0) ∨ ∃ j, i = j + 1 ∧ es = [E w.params (S "c") 401 (.int ((j : Nat) : Int) (400 + 4 * j))] ∧ ep = 1) ∧
  Rep g (TAi w.params es ep ((i : Nat) : Int) ((n : Nat) : Int) (xsA i) i (400 + 4 * i)) s
theorem evo_any {w : World} {g s : Shared} {A : Around} {α : Type} {t : Sem α} {T T' Tc T1 : ST} {stop : Code → Bool} {r1 : Result} {c : Code} {a : α} {Q : α → Shared → Prop} {E : Value → Shared → Prop}
    (R : Rep g T s) (hA : A.handled = none) (e : evo w stop r1 T1 t T = some ((.ok a, T'), c, Tc))
    (hc : ∀ s, Rep g Tc s → codeAny (model pw w) (A.mark none) c (fun r' s' => r' = r1 ∧ Rep g T1 s') s) (h : ∀ s', Rep g T' s' → Q a s') :
    wpAny (model pw w) A t Q E s := evO_any R hA e hc h
theorem loopA1 {w : World} {g s : Shared} {A : Around} (hA : A.handled = none) (R : Rep g (TAi w.params [] 0 0 256 [] 0 400) s) :
    codeAny (model pw w) A (.compLoop eA 0 (.ref 62) (.ref 63) cenvA) (fun r s' => r = .ok .next ∧ Rep g (TAe w.params [E w.params (S "c") 401 (.int 255 1420)] 1 256 0 items0 256 1424) s') s := by
  refine codeAny_compLoop_list (IA w g) ?_ 256 ⟨0, [], 0, rfl, .inl ⟨rfl, rfl, rfl⟩, R⟩ (by intro v; kernel_rfl)
  rintro n s ⟨i, es, ep, hi, hd, R⟩
  cases n with
  | zero =>
    obtain rfl : i = 256 := by lia
    obtain ⟨h, _⟩ | ⟨j, hj, rfl, rfl⟩ := hd
    · cases h
    obtain rfl : j = 255 := by lia
    refine ev_any R hA (endA w _ _ _ _ _ _) fun s' R' => ⟨rfl, ?_⟩
    have e : xsA 256 = items0 := itemsA
    rw [e] at R'
    exact R'
  | succ k =>
    refine ev_any R hA (nextA w es ep _ k (xsA i) i (400 + 4 * i)) fun s1 R1 => ?_
    have e1 : ((i : Nat) : Int) + 1 = ((i + 1 : Nat) : Int) := by lia
    have e2 : ((k + 1 : Nat) : Int) - 1 = ((k : Nat) : Int) := by lia
    rw [e1, e2] at R1
    have hasg : ∃ ky, ev w (assign (lcTgt vA) cenvA (.int ((i : Nat) : Int) (400 + 4 * i))) (TAi w.params es ep ((i + 1 : Nat) : Int) ((k : Nat) : Int) (xsA i) i (400 + 4 * i + 1)) =
        some (.ok (), TAi w.params [E w.params (S "c") ky (.int ((i : Nat) : Int) (400 + 4 * i))] 1 ((i + 1 : Nat) : Int) ((k : Nat) : Int) (xsA i) i (400 + 4 * i + 1 + 1)) ∧ ky = 401 := by
      obtain ⟨rfl, rfl, rfl⟩ | ⟨j, hj, rfl, rfl⟩ := hd
      · exact ⟨_, asg0' w _ _ _ _ _ _ _, rfl⟩
      · exact ⟨_, asg1 w _ _ _ _ _ _ _ _ _, rfl⟩
    obtain ⟨ky, hasg, rfl⟩ := hasg
    refine ev_any R1 hA hasg fun s2 R2 => ?_
    refine evo_any R2 hA (eltA w _ _ _ _ _ _ _ _ (hexS i) (400 + 4 * i + 3) ⟨tA w.params [E w.params (S "c") 401 (.int ((i : Nat) : Int) (400 + 4 * i))] 1 ((i + 1 : Nat) : Int) ((k : Nat) : Int) (xsA i) i, 65, 400 + 4 * i + 4⟩) (fun s' R' => ?_) fun s3 R3 => ?_
    · exact ev_code R' hA (modC1' w _ _ i (by lia) _)
    · refine wpAny_call (codeAny_mono (append_code _ _ _ _ (xsA i) i _ _ (by rw [xsA_len]; lia) hA R3) ?_)
      rintro r s4 ⟨rfl, R4⟩
      refine ⟨k, by lia, i + 1, _, _, by lia, .inr ⟨i, rfl, rfl, rfl⟩, ?_⟩
      rw [xsA_succ]
      have e3 : 400 + 4 * (i + 1) = 400 + 4 * i + 4 := by lia
      have e4 : 403 + 4 * i = 400 + 4 * i + 3 := by lia
      rw [e3, e4]
      exact R4
theorem follow (w : World) (row : String) : w = w.withFollow row false ∨ w = w.withFollow row true := by
  have e := World.withFollow_self w row
  cases hb : w.params.followText row <;> rw [hb] at e
  · exact .inl e.symm
  · exact .inr e.symm
theorem iterA (w : World) (es : List DictEntry) (ep : Nat) (v left : Int) (xs : List Value) (n tk : Nat) :
    ev w (pyIter (.ref 62)) (TAi w.params es ep v left xs n tk) = some (.ok (.ref 62), TAi w.params es ep v left xs n tk) := by
  rcases follow w "special-get-raises" with e | e
  · rw [e]; exact iterAf w es ep v left xs n tk
  · rw [e]; exact iterAt w es ep v left xs n tk
theorem loopA {w : World} {g s : Shared} {A : Around} (hA : A.handled = none) (R : Rep g (TAi w.params [] 0 0 256 [] 0 400) s) :
    codeAny (model pw w) A (.compStart eA 0 (.ref 62) (.ref 63) cenvA) (fun r s' => r = .ok .next ∧ Rep g (TAe w.params [E w.params (S "c") 401 (.int 255 1420)] 1 256 0 items0 256 1424) s') s := by
  refine codeAny_compStart_list (loopA1 hA R) ?_
  exact ev_any R hA (iterA w _ _ _ _ _ _ _) fun s' R' => loopA1 hA R'
theorem stmtA {w : World} {g s : Shared} {A : Around} (hA : A.handled = none) (R : Rep g (TB w.params) s) {Q : Flow → Shared → Prop} {E : Value → Shared → Prop}
    (h : ∀ s', Rep g (TC w.params) s' → Q .next s') : wpAny (model pw w) A (exec (stm 10) env0) Q E s := by
  have e : evo w stopLoop (.ok .next) (TAe w.params [Mine.E w.params (S "c") 401 (.int 255 1420)] 1 256 0 items0 256 1424) (exec (stm 10) env0) (TB w.params) =
      some ((.ok .next, TC w.params), .compStart eA 0 (.ref 62) (.ref 63) cenvA, TAi w.params [] 0 0 256 [] 0 400) := by
    rcases follow w "special-get-raises" with e | e
    · rw [e]; exact stAf w
    · rw [e]; exact stAt w
  exact evo_any R hA e (fun s' R' => loopA hA R') h
end Mine
end
section
namespace Mine
/-- As evO, with a list of granted results. -/
noncomputable def evL {α : Type} (stop : Code → Bool) (hd : Option Value) (run : Code → ST → Option (Result × ST)) (S : Setting) : Sem α → ST → List (Result × ST) → Option ((Except Value α × ST) × List (Code × ST))
  | .pure a, T, gs => match gs with
    | [] => some ((.ok a, T), [])
    | _ :: _ => none
  | .rule _ k, T, gs => evL stop hd run S (k ()) T gs
  | .at _ k, T, gs => evL stop hd run S (k ()) T gs
  | .load a _ k, T, gs => match T.tree.get a with
    | some o => evL stop hd run S (k o) T gs
    | none => none
  | .update a _ f k, T, gs => match T.tree.get a with
    | some o => match (f o).isFreed with
      | true => none
      | false => evL stop hd run S (k ()) ⟨T.tree.set a f, T.n, T.toks⟩ gs
    | none => none
  | .point _ k, T, gs => evL stop hd run S (k ()) T gs
  | .fresh k, T, gs => evL stop hd run S (k T.toks) ⟨T.tree, T.n, T.toks + 1⟩ gs
  | .ask k, T, gs => evL stop hd run S (k S) T gs
  | .call c h _ _ k, T, gs => match h with
    | none => match stop c with
      | true => match gs with
        | (r1, T1) :: gs' => match evL stop hd run S (k r1) T1 gs' with
          | some (x, l) => some (x, (c, T) :: l)
          | none => none
        | [] => none
      | false => match run c T with
        | some (r, T') => evL stop hd run S (k r) T' gs
        | none => none
    | some _ => none
  | _, _, _ => none

noncomputable def Oks (M : Model) (A : Around) (g : Shared) : List (Result × ST) → List (Code × ST) → Prop
  | [], [] => True
  | (r, T1) :: gs, (c, Tc) :: l => (∀ s, Rep g Tc s → codeAny M A c (fun r' s' => r' = r ∧ Rep g T1 s') s) ∧ Oks M A g gs l
  | _, _ => False

theorem evL_load {α : Type} {stop : Code → Bool} {hd : Option Value} {run : Code → ST → Option (Result × ST)} {S : Setting} {T : ST} {gs : List (Result × ST)} {a p} {k : Obj → Sem α} : evL stop hd run S (Sem.load a p k) T gs = match T.tree.get a with
    | some o => evL stop hd run S (k o) T gs
    | none => none := by first | rfl | with_unfolding_all rfl | (set_option smartUnfolding false in rfl) | kernel_rfl
theorem evL_update {α : Type} {stop : Code → Bool} {hd : Option Value} {run : Code → ST → Option (Result × ST)} {S : Setting} {T : ST} {gs : List (Result × ST)} {a p g} {k : Unit → Sem α} : evL stop hd run S (Sem.update a p g k) T gs = match T.tree.get a with
    | some o => match (g o).isFreed with
      | true => none
      | false => evL stop hd run S (k ()) ⟨T.tree.set a g, T.n, T.toks⟩ gs
    | none => none := by first | rfl | with_unfolding_all rfl | (set_option smartUnfolding false in rfl) | kernel_rfl
theorem evL_call {α : Type} {stop : Code → Bool} {hd : Option Value} {run : Code → ST → Option (Result × ST)} {S : Setting} {T : ST} {gs : List (Result × ST)} {c gd l} {k : Result → Sem α} : evL stop hd run S (Sem.call c none gd l k) T gs = match stop c with
    | true => match gs with
      | (r1, T1) :: gs' => match evL stop hd run S (k r1) T1 gs' with
        | some (x, l) => some (x, (c, T) :: l)
        | none => none
      | [] => none
    | false => match run c T with
      | some (r, T') => evL stop hd run S (k r) T' gs
      | none => none := by first | rfl | with_unfolding_all rfl | (set_option smartUnfolding false in rfl) | kernel_rfl
theorem evL_sound {stop : Code → Bool} {hd : Option Value} {M : Model} {g : Shared} {run : Code → ST → Option (Result × ST)} (hrun : Means hd M g run) {Γ : Ctx} {A : Around} (hA : A.handled = hd) (hΓ : Γ.In A)
    {α : Type} (t : Sem α) :
    ∀ {p : Pos} {T T' : ST} {s : Shared} {x : Except Value α} {gs : List (Result × ST)} {l : List (Code × ST)}, Oks M (A.mark none) g gs l → Rep g T s → evL stop hd run ⟨M.prog, M.w.params⟩ t T gs = some ((x, T'), l) →
      Sem.wp M Γ t (fun a _ s' => x = .ok a ∧ Rep g T' s') (fun e _ s' => x = .error e ∧ Rep g T' s') p s := by
  induction t with
  | pure a =>
    intro p T T' s x gs l O R e
    cases gs with
    | nil => have e : some _ = some _ := e; simp only [Option.some.injEq, Prod.mk.injEq] at e; obtain ⟨⟨rfl, rfl⟩, _⟩ := e; exact ⟨rfl, R⟩
    | cons _ _ => have e : none = some _ := e; cases e
  | rule _ k ih => intro p T T' s x gs l O R e; exact ih () O R e
  | «at» _ k ih => intro p T T' s x gs l O R e; exact ih () O R e
  | point _ k ih => intro p T T' s x gs l O R e; exact ih () O R e
  | ask k ih => intro p T T' s x gs l O R e; exact ih _ O R e
  | load a _ k ih =>
    intro p T T' s x gs l O R e
    rw [evL_load] at e
    split at e
    · rename_i o ho; exact ⟨o, R.has _ _ ho, ih o O R e⟩
    · cases e
  | update a _ f k ih =>
    intro p T T' s x gs l O R e
    rw [evL_update] at e
    split at e
    · rename_i o ho
      split at e
      · cases e
      · rename_i hf
        exact ⟨by rw [R.has _ _ ho]; rfl, ih () O (R.update ho hf) e⟩
    · cases e
  | fresh k ih =>
    intro p T T' s x gs l O R e
    have z := ih T.toks (p := p) (s := { s with toks := s.toks + 1 }) (T := ⟨T.tree, T.n, T.toks + 1⟩) O ⟨R.size, R.has, by show s.toks + 1 = _; rw [R.toks], R.gens, R.drawn, R.os, R.life⟩ e
    rw [← R.toks] at z
    exact z
  | call c' h gd lv k ih =>
    intro p T T' s x gs l O R e
    cases h with
    | some _ => have e : none = some _ := e; cases e
    | none =>
      cases gs with
      | nil =>
        rw [evL_call] at e
        split at e
        · cases e
        · split at e
          · rename_i r T₁ hr
            exact wpCode_mono (fun r' s' ⟨q, R'⟩ => q ▸ ih r O R' e) (hrun _ _ _ _ _ R hr (A.mark none) (by show none.or A.handled = hd; exact hA) (Γ.enter c' none p) p rfl (hΓ.enter c' none p (by simp)))
          · cases e
      | cons q gs' =>
        obtain ⟨r1, T1⟩ := q
        rw [evL_call] at e
        split at e
        · dsimp only at e
          split at e
          · rename_i y l' hy
            simp only [Option.some.injEq, Prod.mk.injEq] at e
            obtain ⟨rfl, rfl⟩ := e
            exact wpCode_mono (fun r' s' ⟨q, R'⟩ => q ▸ ih _ O.2 R' hy) (O.1 s R (Γ.enter c' none p) p rfl (hΓ.enter c' none p (by simp)))
          · cases e
        · split at e
          · rename_i r T₁ hr
            exact wpCode_mono (fun r' s' ⟨q, R'⟩ => q ▸ ih r O R' e) (hrun _ _ _ _ _ R hr (A.mark none) (by show none.or A.handled = hd; exact hA) (Γ.enter c' none p) p rfl (hΓ.enter c' none p (by simp)))
          · cases e
  | _ => intro p T T' s x gs l O R e; have e : none = some _ := e; cases e

noncomputable abbrev evl (w : World) (stop : Code → Bool) {α : Type} (t : Sem α) (T : ST) (gs : List (Result × ST)) := evL stop none (evC none (denote treeTable) ⟨pw, w.params⟩ 60) ⟨pw, w.params⟩ t T gs
theorem evl_any {w : World} {g s : Shared} {A : Around} {α : Type} {t : Sem α} {T T' : ST} {stop : Code → Bool} {gs : List (Result × ST)} {l : List (Code × ST)} {a : α} {Q : α → Shared → Prop} {E : Value → Shared → Prop}
    (R : Rep g T s) (hA : A.handled = none) (e : evl w stop t T gs = some ((.ok a, T'), l))
    (hc : Oks (model pw w) (A.mark none) g gs l) (h : ∀ s', Rep g T' s' → Q a s') :
    wpAny (model pw w) A t Q E s := fun Γ p hΓ => by
  unfold evl at e
  rw [← table_eq_tree] at e
  refine Sem.wp_mono (model pw w) Γ t ?_ ?_ p s (evL_sound (evC_sound (M := model pw w) 60) hA hΓ t hc R e)
  · rintro b q s' ⟨e', R'⟩; cases e'; exact h s' R'
  · rintro b q s' ⟨e', _⟩; cases e'
end Mine
end
section
namespace Mine
noncomputable section
noncomputable def forTgt : Stmt → PySem.Expr
  | .For t _ _ _ _ => t
  | _ => .Constant .none 0 default
noncomputable def forBody : Stmt → List Stmt
  | .For _ _ b _ _ => b
  | _ => []
noncomputable def stopSet : Code → Bool
  | .call (.builtin n) _ => n == "bytes_iterator.__next__" || n == "chr" || n == "list.__setitem__"
  | _ => false
noncomputable abbrev oBit (bs : List UInt8) (t : Nat) (i : Int) : Obj := ⟨.type "bytes_iterator", none, .fields #[.bytes bs.toArray t, .int i 0], #[]⟩
theorem mapSeq_set (xs : List Value) (n j : Nat) (x : Value) : Obj.mapSeq (·.setIfInBounds j x) (oLst xs n) = oLst (xs.set j x) n := by
  simp [Obj.mapSeq]
theorem mapF_it (bs : List UInt8) (t : Nat) (i : Nat) : Obj.mapFields (·.setIfInBounds 1 (rawInt ((i : Nat) + 1))) (oBit bs t ((i : Nat) : Int)) = oBit bs t ((i + 1 : Nat) : Int) := by
  simp [Obj.mapFields, rawInt]
theorem chrC1 (t : Nat) (n : Int) : denote treeTable (.call (.builtin "chr") ⟨[.int n t], []⟩) = .pure (.again (.builtin "chr" ⟨[.int n t], []⟩)) := by kernel_rfl
theorem chrQ (t : Nat) (n : Int) : (Code.builtin "chr" ⟨[.int n t], []⟩).quiet = true := by kernel_rfl
theorem chrAll (t : Nat) : ∀ n < 256, denote treeTable (.builtin "chr" ⟨[.int (n : Nat) t], []⟩) = .fresh fun k => .pure (.done (.ret (.str ⟨#[n]⟩ k))) := by
  intro n hn
  have e : denote treeTable (.builtin "chr" ⟨[.int (n : Nat) t], []⟩) = Builtin.«chr» ⟨[.int (n : Nat) t], []⟩ := by kernel_rfl
  rw [e]
  revert n
  suffices h : ∀ n : Nat, n < 256 → Builtin.«chr» ⟨[.int (n : Nat) t], []⟩ = .fresh fun k => .pure (.done (.ret (.str ⟨#[n]⟩ k))) from fun n hn _ => h n hn
  refine all256 ?_
  kernel_rfl
theorem chrC (w : World) (t n : Nat) (hn : n < 256) (T : ST) :
    evC none (denote treeTable) ⟨pw, w.params⟩ 2 (.call (.builtin "chr") ⟨[.int (n : Nat) t], []⟩) T = some (.ok (.ret (.str ⟨#[n]⟩ T.toks)), ⟨T.tree, T.n, T.toks + 1⟩) := by
  simp only [evC, chrC1, evT, chrQ, chrAll t n hn]
theorem wp_setitem {prog : Program} {w : World} {A : Around} {Q : Fin → Shared → Prop} {E : Value → Shared → Prop} {s : Shared} {a : Addr} {o : Obj} {items : Array Value} {n : Nat} {k : Int} {t : Nat} {v : Value}
    (ho : s.heap.get? a = some o) (hd : o.data = .seq items n) (h0 : 0 ≤ k) (hj : k < items.size) (hfit : k < 2 ^ 63) (h : ∀ j : Nat, k = j → Q (.done (.ret .none)) { s with heap := s.heap.update a (Obj.mapSeq (·.setIfInBounds j v)) }) :
    wpAny (model prog w) A (Builtin.«list.__setitem__» ⟨[.ref a, .int k t, v], []⟩) Q E s := by
  show wpAny _ _ (Builtin.List.listSubscript? (.int k t) >>= _) _ _ s
  refine wpAny_bind (wpAny_listSubscript_int (fitsIndex_of h0 hfit) ?_)
  clear hfit
  obtain ⟨j, rfl⟩ := Int.eq_ofNat_of_zero_le h0
  have hj : j < items.size := by lia
  have hx' : items[j]? = some items[j] := Array.getElem?_eq_getElem hj
  show wpAny _ _ ((seqItemAt a j >>= fun r => pure (r.map (j, ·))) >>= _) _ _ s
  refine wpAny_bind (wpAny_bind (wpAny_seqItemAt ho hd (wpAny_pure ?_)))
  rw [hx']
  show wpAny _ _ (setSeqItemAt a j v >>= _) _ _ s
  refine wpAny_bind (wpAny_setSeqItemAt ho hd ?_)
  first
    | exact wpAny_bind (wpAny_pure (wpAny_pure (h j rfl)))
    | exact wpAny_pure (h j rfl)
theorem fit256 {j : Nat} (h : j < 256) : ((j : Nat) : Int) < 2 ^ 63 := by
  generalize hk : (2 : Int) ^ 63 = M
  have : (256 : Int) ≤ M := by rw [← hk]; decide
  lia
theorem wp_setitem' {prog : Program} {w : World} {A : Around} {Q : Fin → Shared → Prop} {E : Value → Shared → Prop} {s : Shared} {a : Addr} (xs : List Value) {n : Nat} (j : Nat) {t : Nat} {v : Value}
    (ho : s.heap.get? a = some (oLst xs n)) (hj : j < xs.length) (hx : xs.length = 256) (h : Q (.done (.ret .none)) { s with heap := s.heap.update a (Obj.mapSeq (·.setIfInBounds j v)) }) :
    wpAny (model prog w) A (Builtin.«list.__setitem__» ⟨[.ref a, .int ((j : Nat) : Int) t, v], []⟩) Q E s := by
  generalize hk : ((j : Nat) : Int) = k
  refine wp_setitem (items := xs.toArray) (n := n) ho rfl (by lia) (by rw [List.size_toArray]; lia) (by rw [← hk]; exact fit256 (by lia)) fun j' e => ?_
  obtain rfl : j = j' := by lia
  exact h
theorem nextD : denote treeTable (.builtin "bytes_iterator.__next__" ⟨[.ref 71], []⟩) = Builtin.«bytes_iterator.__next__» ⟨[.ref 71], []⟩ := by kernel_rfl

noncomputable def o3c (P : Params) (y : Value) : Obj := ⟨.type "dict", none, .dict #[E P (S "__name__") 165 (.str (S "cpy313.email.quoprimime") 1440), E P (S "__doc__") 166 (N), E P (S "__package__") 167 (N), E P (S "__loader__") 168 (.builtin "__main__.__loader__#opaque"), E P (S "__spec__") 169 (N), E P (S "__annotations__") 170 (.ref 6), E P (S "__builtins__") 171 (.ref 4), E P (S "__file__") 173 (.str (S "/claim/cut.py") 172), E P (S "__cached__") 174 (N), E P (S "_sre") 275 (.ref 12), E P (S "twin_re_1_smtplib") 299 (.ref 36), E P (S "_twin_re_2") 341 (.ref 41), E P (S "CRLF_smtplib") 343 (.str (S "\x0d\n") 342), E P (S "_quote_periods") 350 (.ref 48), E P (S "_fix_eols") 357 (.ref 55), E P (S "twin_re_1_quoprimime") 392 (.ref 60), E P (S "CRLF_quoprimime") 394 (.str (S "\x0d\n") 393), E P (S "NL") 396 (.str (S "\n") 395), E P (S "_QUOPRI_MAP") 1424 (.ref 63), E P (S "_QUOPRI_HEADER_MAP") 1425 (.ref 68), E P (S "_QUOPRI_BODY_MAP") 1426 (.ref 70), E P (S "ascii_lowercase") 1428 (.str (S "abcdefghijklmnopqrstuvwxyz") 1427), E P (S "ascii_uppercase") 1430 (.str (S "ABCDEFGHIJKLMNOPQRSTUVWXYZ") 1429), E P (S "ascii_letters") 1432 (.str (S "abcdefghijklmnopqrstuvwxyzABCDEFGHIJKLMNOPQRSTUVWXYZ") 1431), E P (S "digits") 1434 (.str (S "0123456789") 1433), E P (S "hexdigits") 1439 (.str (S "0123456789abcdefABCDEF") 1438), E P (S "c") 1450 y] 27, #[]⟩


noncomputable def bytesB : List UInt8 := [45, 33, 42, 43, 47, 97, 98, 99, 100, 101, 102, 103, 104, 105, 106, 107, 108, 109, 110, 111, 112, 113, 114, 115, 116, 117, 118, 119, 120, 121, 122, 65, 66, 67, 68, 69, 70, 71, 72, 73, 74, 75, 76, 77, 78, 79, 80, 81, 82, 83, 84, 85, 86, 87, 88, 89, 90, 48, 49, 50, 51, 52, 53, 54, 55, 56, 57]
noncomputable abbrev cB : Code := .forLoop (forTgt (stm 19)) (.ref 71) (forBody (stm 19)) [] env0
noncomputable def tB (P : Params) (o3 : Obj) (xs : List Value) (it : Obj) : BT := (((TD P).tree.set 3 (fun _ => o3)).set 68 (fun _ => oLst xs 0)).ins 71 it
noncomputable abbrev TBi (P : Params) (o3 : Obj) (xs : List Value) (i : Nat) (tk : Nat) : ST := ⟨tB P o3 xs (oBit bytesB 1448 ((i : Nat) : Int)), 72, tk⟩
theorem getB_it (P : Params) (o3 : Obj) (xs : List Value) (it : Obj) : (tB P o3 xs it).get 71 = some it := by kernel_rfl
theorem setB_it (P : Params) (o3 : Obj) (xs : List Value) (it : Obj) (f : Obj → Obj) : (tB P o3 xs it).set 71 f = tB P o3 xs (f it) := by kernel_rfl
theorem getB_l (P : Params) (o3 : Obj) (xs : List Value) (it : Obj) : (tB P o3 xs it).get 68 = some (oLst xs 0) := by kernel_rfl
theorem setB_l (P : Params) (o3 : Obj) (xs ys : List Value) (it : Obj) (f : Obj → Obj) (h : f (oLst xs 0) = oLst ys 0) : (tB P o3 xs it).set 68 f = tB P o3 ys it := by
  have e : ∀ o : Obj, ((((TD P).tree.set 3 (fun _ => o3)).set 68 (fun _ => o)).ins 71 it).set 68 f = (((TD P).tree.set 3 (fun _ => o3)).set 68 (fun _ => f o)).ins 71 it := by intro o; kernel_rfl
  have := e (oLst xs 0)
  rw [h] at this
  exact this
-- the iterator's next item
theorem nextB1 (w : World) (o3 : Obj) (xs : List Value) (i tk : Nat) : ev w (denote treeTable (.call (.builtin "bytes_iterator.__next__") ⟨[.ref 71], []⟩)) (TBi w.params o3 xs i tk) = some (.ok (.again (.builtin "bytes_iterator.__next__" ⟨[.ref 71], []⟩)), TBi w.params o3 xs i tk) := by kernel_rfl
theorem nextBD : denote treeTable (.builtin "bytes_iterator.__next__" ⟨[.ref 71], []⟩) = Builtin.«bytes_iterator.__next__» ⟨[.ref 71], []⟩ := by kernel_rfl
theorem nextB {w : World} {g s : Shared} {A : Around} (o3 : Obj) (xs : List Value) (i tk : Nat) (c : UInt8) (hc : bytesB.toArray[i]? = some c) (hA : A.handled = none) (R : Rep g (TBi w.params o3 xs i tk) s) :
    codeAny (model pw w) A (.call (.builtin "bytes_iterator.__next__") ⟨[.ref 71], []⟩) (fun r' s' => r' = .ok (.ret (.int (c.toNat : Nat) tk)) ∧ Rep g (TBi w.params o3 xs (i + 1) (tk + 1)) s') s := by
  refine code_of ?_
  refine ev_any R hA (nextB1 w o3 xs i tk) fun s' R' => ⟨by kernel_rfl, ?_⟩
  refine code_of ?_
  rw [nextBD]
  have ho := R'.has 71 _ (getB_it w.params o3 xs _)
  show wpAny _ _ (field (.ref 71) 0 >>= _) _ _ _
  refine wpAny_bind (wpAny_field ho rfl (x := .bytes bytesB.toArray 1448) rfl ?_)
  show wpAny _ _ (if (Value.bytes bytesB.toArray 1448 == Value.none) = true then _ else _) _ _ _
  rw [if_neg (show ¬ ((Value.bytes bytesB.toArray 1448 == Value.none) = true) from Bool.false_ne_true)]
  show wpAny _ _ (field (.ref 71) 1 >>= _) _ _ _
  refine wpAny_bind (wpAny_field ho rfl (x := .int ((i : Nat) : Int) 0) rfl ?_)
  refine wpAny_bind (wpAny_of_eq (a := bytesB.toArray) rfl ?_)
  simp only [Int.toNat_natCast, hc]
  refine wpAny_bind (wpAny_setField ho rfl (by simp) (wpAny_bind (wpAny_mkInt (wpAny_pure ?_))))
  have U := R'.update (f := Obj.mapFields (·.setIfInBounds 1 (rawInt ((i : Nat) + 1)))) (getB_it w.params o3 xs _) (by rw [mapF_it]; rfl)
  rw [setB_it, mapF_it] at U
  refine ⟨by rw [R'.toks], ⟨U.size, U.has, by show s'.toks + 1 = _; rw [R'.toks], U.gens, U.drawn, U.os, U.life⟩⟩
-- the store
theorem setB1 (w : World) (o3 : Obj) (xs : List Value) (i tk : Nat) (k v : Value) : ev w (denote treeTable (.call (.builtin "list.__setitem__") ⟨[.ref 68, k, v], []⟩)) (TBi w.params o3 xs i tk) = some (.ok (.again (.builtin "list.__setitem__" ⟨[.ref 68, k, v], []⟩)), TBi w.params o3 xs i tk) := by kernel_rfl
theorem setBD (k v : Value) : denote treeTable (.builtin "list.__setitem__" ⟨[.ref 68, k, v], []⟩) = Builtin.«list.__setitem__» ⟨[.ref 68, k, v], []⟩ := by kernel_rfl
theorem setB {w : World} {g s : Shared} {A : Around} (o3 : Obj) (xs : List Value) (i tk j t : Nat) (v : Value) (hj : j < xs.length) (hx : xs.length = 256) (hA : A.handled = none) (R : Rep g (TBi w.params o3 xs i tk) s) :
    codeAny (model pw w) A (.call (.builtin "list.__setitem__") ⟨[.ref 68, .int (j : Nat) t, v], []⟩) (fun r' s' => r' = .ok (.ret .none) ∧ Rep g (TBi w.params o3 (xs.set j v) i tk) s') s := by
  refine code_of ?_
  refine ev_any R hA (setB1 w o3 xs i tk _ v) fun s' R' => ⟨by kernel_rfl, ?_⟩
  refine code_of ?_
  rw [setBD]
  have ho := R'.has 68 _ (getB_l w.params o3 xs _)
  have U := R'.update (f := Obj.mapSeq (·.setIfInBounds j v)) (getB_l w.params o3 xs _) (by rw [mapSeq_set]; rfl)
  rw [setB_l _ _ _ _ _ _ (mapSeq_set xs 0 j v)] at U
  exact @wp_setitem' pw w _ _ _ s' 68 xs 0 j t v ho hj hx ⟨rfl, U⟩


theorem turn0Bf (w : World) (xs ys : List Value) (i i' c t1 : Nat) (hx : PySem.Str) :
    evl (w.withFollow "special-get-raises" false) stopSet (denote treeTable cB) (TBi (w.withFollow "special-get-raises" false).params (o3D (w.withFollow "special-get-raises" false).params) xs i 1449)
      [(.ok (.ret (.int ((c : Nat) : Int) t1)), TBi (w.withFollow "special-get-raises" false).params (o3D (w.withFollow "special-get-raises" false).params) xs i' (1449 + 1)), (.ok (.ret (.str hx (1449 + 2))), TBi (w.withFollow "special-get-raises" false).params (o3c (w.withFollow "special-get-raises" false).params (.int ((c : Nat) : Int) t1)) xs i' (1449 + 3)), (.ok (.ret .none), TBi (w.withFollow "special-get-raises" false).params (o3c (w.withFollow "special-get-raises" false).params (.int ((c : Nat) : Int) t1)) ys i' (1449 + 3))] =
    some ((.ok (.again cB), TBi (w.withFollow "special-get-raises" false).params (o3c (w.withFollow "special-get-raises" false).params (.int ((c : Nat) : Int) t1)) ys i' (1449 + 3)),
      [(.call (.builtin "bytes_iterator.__next__") ⟨[.ref 71], []⟩, TBi (w.withFollow "special-get-raises" false).params (o3D (w.withFollow "special-get-raises" false).params) xs i 1449), (.call (.builtin "chr") ⟨[.int ((c : Nat) : Int) t1], []⟩, TBi (w.withFollow "special-get-raises" false).params (o3c (w.withFollow "special-get-raises" false).params (.int ((c : Nat) : Int) t1)) xs i' (1449 + 2)),
       (.call (.builtin "list.__setitem__") ⟨[.ref 68, .int ((c : Nat) : Int) t1, .str hx (1449 + 2)], []⟩, TBi (w.withFollow "special-get-raises" false).params (o3c (w.withFollow "special-get-raises" false).params (.int ((c : Nat) : Int) t1)) xs i' (1449 + 3))]) := by kernel_rfl

theorem turn0Bt (w : World) (xs ys : List Value) (i i' c t1 : Nat) (hx : PySem.Str) :
    evl (w.withFollow "special-get-raises" true) stopSet (denote treeTable cB) (TBi (w.withFollow "special-get-raises" true).params (o3D (w.withFollow "special-get-raises" true).params) xs i 1449)
      [(.ok (.ret (.int ((c : Nat) : Int) t1)), TBi (w.withFollow "special-get-raises" true).params (o3D (w.withFollow "special-get-raises" true).params) xs i' (1449 + 1)), (.ok (.ret (.str hx (1449 + 2))), TBi (w.withFollow "special-get-raises" true).params (o3c (w.withFollow "special-get-raises" true).params (.int ((c : Nat) : Int) t1)) xs i' (1449 + 3)), (.ok (.ret .none), TBi (w.withFollow "special-get-raises" true).params (o3c (w.withFollow "special-get-raises" true).params (.int ((c : Nat) : Int) t1)) ys i' (1449 + 3))] =
    some ((.ok (.again cB), TBi (w.withFollow "special-get-raises" true).params (o3c (w.withFollow "special-get-raises" true).params (.int ((c : Nat) : Int) t1)) ys i' (1449 + 3)),
      [(.call (.builtin "bytes_iterator.__next__") ⟨[.ref 71], []⟩, TBi (w.withFollow "special-get-raises" true).params (o3D (w.withFollow "special-get-raises" true).params) xs i 1449), (.call (.builtin "chr") ⟨[.int ((c : Nat) : Int) t1], []⟩, TBi (w.withFollow "special-get-raises" true).params (o3c (w.withFollow "special-get-raises" true).params (.int ((c : Nat) : Int) t1)) xs i' (1449 + 2)),
       (.call (.builtin "list.__setitem__") ⟨[.ref 68, .int ((c : Nat) : Int) t1, .str hx (1449 + 2)], []⟩, TBi (w.withFollow "special-get-raises" true).params (o3c (w.withFollow "special-get-raises" true).params (.int ((c : Nat) : Int) t1)) xs i' (1449 + 3))]) := by kernel_rfl


-- one turn
theorem turnBf (w : World) (y : Value) (xs ys : List Value) (i i' tk c t1 : Nat) (hx : PySem.Str) :
    evl (w.withFollow "special-get-raises" false) stopSet (denote treeTable cB) (TBi (w.withFollow "special-get-raises" false).params (o3c (w.withFollow "special-get-raises" false).params y) xs i tk)
      [(.ok (.ret (.int ((c : Nat) : Int) t1)), TBi (w.withFollow "special-get-raises" false).params (o3c (w.withFollow "special-get-raises" false).params y) xs i' (tk + 1)), (.ok (.ret (.str hx (tk + 2))), TBi (w.withFollow "special-get-raises" false).params (o3c (w.withFollow "special-get-raises" false).params (.int ((c : Nat) : Int) t1)) xs i' (tk + 3)), (.ok (.ret .none), TBi (w.withFollow "special-get-raises" false).params (o3c (w.withFollow "special-get-raises" false).params (.int ((c : Nat) : Int) t1)) ys i' (tk + 3))] =
    some ((.ok (.again cB), TBi (w.withFollow "special-get-raises" false).params (o3c (w.withFollow "special-get-raises" false).params (.int ((c : Nat) : Int) t1)) ys i' (tk + 3)),
      [(.call (.builtin "bytes_iterator.__next__") ⟨[.ref 71], []⟩, TBi (w.withFollow "special-get-raises" false).params (o3c (w.withFollow "special-get-raises" false).params y) xs i tk), (.call (.builtin "chr") ⟨[.int ((c : Nat) : Int) t1], []⟩, TBi (w.withFollow "special-get-raises" false).params (o3c (w.withFollow "special-get-raises" false).params (.int ((c : Nat) : Int) t1)) xs i' (tk + 2)),
       (.call (.builtin "list.__setitem__") ⟨[.ref 68, .int ((c : Nat) : Int) t1, .str hx (tk + 2)], []⟩, TBi (w.withFollow "special-get-raises" false).params (o3c (w.withFollow "special-get-raises" false).params (.int ((c : Nat) : Int) t1)) xs i' (tk + 3))]) := by kernel_rfl

-- one turn
theorem turnBt (w : World) (y : Value) (xs ys : List Value) (i i' tk c t1 : Nat) (hx : PySem.Str) :
    evl (w.withFollow "special-get-raises" true) stopSet (denote treeTable cB) (TBi (w.withFollow "special-get-raises" true).params (o3c (w.withFollow "special-get-raises" true).params y) xs i tk)
      [(.ok (.ret (.int ((c : Nat) : Int) t1)), TBi (w.withFollow "special-get-raises" true).params (o3c (w.withFollow "special-get-raises" true).params y) xs i' (tk + 1)), (.ok (.ret (.str hx (tk + 2))), TBi (w.withFollow "special-get-raises" true).params (o3c (w.withFollow "special-get-raises" true).params (.int ((c : Nat) : Int) t1)) xs i' (tk + 3)), (.ok (.ret .none), TBi (w.withFollow "special-get-raises" true).params (o3c (w.withFollow "special-get-raises" true).params (.int ((c : Nat) : Int) t1)) ys i' (tk + 3))] =
    some ((.ok (.again cB), TBi (w.withFollow "special-get-raises" true).params (o3c (w.withFollow "special-get-raises" true).params (.int ((c : Nat) : Int) t1)) ys i' (tk + 3)),
      [(.call (.builtin "bytes_iterator.__next__") ⟨[.ref 71], []⟩, TBi (w.withFollow "special-get-raises" true).params (o3c (w.withFollow "special-get-raises" true).params y) xs i tk), (.call (.builtin "chr") ⟨[.int ((c : Nat) : Int) t1], []⟩, TBi (w.withFollow "special-get-raises" true).params (o3c (w.withFollow "special-get-raises" true).params (.int ((c : Nat) : Int) t1)) xs i' (tk + 2)),
       (.call (.builtin "list.__setitem__") ⟨[.ref 68, .int ((c : Nat) : Int) t1, .str hx (tk + 2)], []⟩, TBi (w.withFollow "special-get-raises" true).params (o3c (w.withFollow "special-get-raises" true).params (.int ((c : Nat) : Int) t1)) xs i' (tk + 3))]) := by kernel_rfl


noncomputable def TBe (P : Params) (y : Value) (xs : List Value) (tk : Nat) : ST := ⟨((tB P (o3c P y) xs (o71F P)).ins 72 (o72F P)).ins 73 (o73F P), 74, tk⟩

theorem endBf (w : World) (y : Value) (xs : List Value) (tk : Nat) :
    ev (w.withFollow "special-get-raises" false) (denote treeTable cB) (TBi (w.withFollow "special-get-raises" false).params (o3c (w.withFollow "special-get-raises" false).params y) xs 67 tk) = some (.ok (.again (.block [] env0)), TBe (w.withFollow "special-get-raises" false).params y xs tk) := by kernel_rfl
theorem endBt (w : World) (y : Value) (xs : List Value) (tk : Nat) :
    ev (w.withFollow "special-get-raises" true) (denote treeTable cB) (TBi (w.withFollow "special-get-raises" true).params (o3c (w.withFollow "special-get-raises" true).params y) xs 67 tk) = some (.ok (.again (.block [] env0)), TBe (w.withFollow "special-get-raises" true).params y xs tk) := by kernel_rfl

theorem blockB (w : World) (y : Value) (xs : List Value) (tk : Nat) : evC none (denote treeTable) ⟨pw, w.params⟩ 5 (.block [] env0) (TBe w.params y xs tk) = some (.ok .next, TBe w.params y xs tk) := by kernel_rfl

theorem stBf (w : World) : evo (w.withFollow "special-get-raises" false) stopLoop (.ok .next) (TBe (w.withFollow "special-get-raises" false).params (.int 57 1647) items1 1650) (exec (stm 19) env0) (TD (w.withFollow "special-get-raises" false).params) =
    some ((.ok .next, TF (w.withFollow "special-get-raises" false).params), cB, TBi (w.withFollow "special-get-raises" false).params (o3D (w.withFollow "special-get-raises" false).params) items0 0 1449) := by kernel_rfl
theorem stBt (w : World) : evo (w.withFollow "special-get-raises" true) stopLoop (.ok .next) (TBe (w.withFollow "special-get-raises" true).params (.int 57 1647) items1 1650) (exec (stm 19) env0) (TD (w.withFollow "special-get-raises" true).params) =
    some ((.ok .next, TF (w.withFollow "special-get-raises" true).params), cB, TBi (w.withFollow "special-get-raises" true).params (o3D (w.withFollow "special-get-raises" true).params) items0 0 1449) := by kernel_rfl


noncomputable def bytesC : List UInt8 := [32, 33, 34, 35, 36, 37, 38, 39, 40, 41, 42, 43, 44, 45, 46, 47, 48, 49, 50, 51, 52, 53, 54, 55, 56, 57, 58, 59, 60, 62, 63, 64, 65, 66, 67, 68, 69, 70, 71, 72, 73, 74, 75, 76, 77, 78, 79, 80, 81, 82, 83, 84, 85, 86, 87, 88, 89, 90, 91, 92, 93, 94, 95, 96, 97, 98, 99, 100, 101, 102, 103, 104, 105, 106, 107, 108, 109, 110, 111, 112, 113, 114, 115, 116, 117, 118, 119, 120, 121, 122, 123, 124, 125, 126, 9]
noncomputable abbrev cC : Code := .forLoop (forTgt (stm 21)) (.ref 74) (forBody (stm 21)) [] env0
noncomputable def tC (P : Params) (o3 : Obj) (xs : List Value) (it : Obj) : BT := (((TG P).tree.set 3 (fun _ => o3)).set 70 (fun _ => oLst xs 0)).ins 74 it
noncomputable abbrev TCi (P : Params) (o3 : Obj) (xs : List Value) (i : Nat) (tk : Nat) : ST := ⟨tC P o3 xs (oBit bytesC 1653 ((i : Nat) : Int)), 75, tk⟩
theorem getC_it (P : Params) (o3 : Obj) (xs : List Value) (it : Obj) : (tC P o3 xs it).get 74 = some it := by kernel_rfl
theorem setC_it (P : Params) (o3 : Obj) (xs : List Value) (it : Obj) (f : Obj → Obj) : (tC P o3 xs it).set 74 f = tC P o3 xs (f it) := by kernel_rfl
theorem getC_l (P : Params) (o3 : Obj) (xs : List Value) (it : Obj) : (tC P o3 xs it).get 70 = some (oLst xs 0) := by kernel_rfl
theorem setC_l (P : Params) (o3 : Obj) (xs ys : List Value) (it : Obj) (f : Obj → Obj) (h : f (oLst xs 0) = oLst ys 0) : (tC P o3 xs it).set 70 f = tC P o3 ys it := by
  have e : ∀ o : Obj, ((((TG P).tree.set 3 (fun _ => o3)).set 70 (fun _ => o)).ins 74 it).set 70 f = (((TG P).tree.set 3 (fun _ => o3)).set 70 (fun _ => f o)).ins 74 it := by intro o; kernel_rfl
  have := e (oLst xs 0)
  rw [h] at this
  exact this
-- the iterator's next item
theorem nextC1 (w : World) (o3 : Obj) (xs : List Value) (i tk : Nat) : ev w (denote treeTable (.call (.builtin "bytes_iterator.__next__") ⟨[.ref 74], []⟩)) (TCi w.params o3 xs i tk) = some (.ok (.again (.builtin "bytes_iterator.__next__" ⟨[.ref 74], []⟩)), TCi w.params o3 xs i tk) := by kernel_rfl
theorem nextCD : denote treeTable (.builtin "bytes_iterator.__next__" ⟨[.ref 74], []⟩) = Builtin.«bytes_iterator.__next__» ⟨[.ref 74], []⟩ := by kernel_rfl
theorem nextC {w : World} {g s : Shared} {A : Around} (o3 : Obj) (xs : List Value) (i tk : Nat) (c : UInt8) (hc : bytesC.toArray[i]? = some c) (hA : A.handled = none) (R : Rep g (TCi w.params o3 xs i tk) s) :
    codeAny (model pw w) A (.call (.builtin "bytes_iterator.__next__") ⟨[.ref 74], []⟩) (fun r' s' => r' = .ok (.ret (.int (c.toNat : Nat) tk)) ∧ Rep g (TCi w.params o3 xs (i + 1) (tk + 1)) s') s := by
  refine code_of ?_
  refine ev_any R hA (nextC1 w o3 xs i tk) fun s' R' => ⟨by kernel_rfl, ?_⟩
  refine code_of ?_
  rw [nextCD]
  have ho := R'.has 74 _ (getC_it w.params o3 xs _)
  show wpAny _ _ (field (.ref 74) 0 >>= _) _ _ _
  refine wpAny_bind (wpAny_field ho rfl (x := .bytes bytesC.toArray 1653) rfl ?_)
  show wpAny _ _ (if (Value.bytes bytesC.toArray 1653 == Value.none) = true then _ else _) _ _ _
  rw [if_neg (show ¬ ((Value.bytes bytesC.toArray 1653 == Value.none) = true) from Bool.false_ne_true)]
  show wpAny _ _ (field (.ref 74) 1 >>= _) _ _ _
  refine wpAny_bind (wpAny_field ho rfl (x := .int ((i : Nat) : Int) 0) rfl ?_)
  refine wpAny_bind (wpAny_of_eq (a := bytesC.toArray) rfl ?_)
  simp only [Int.toNat_natCast, hc]
  refine wpAny_bind (wpAny_setField ho rfl (by simp) (wpAny_bind (wpAny_mkInt (wpAny_pure ?_))))
  have U := R'.update (f := Obj.mapFields (·.setIfInBounds 1 (rawInt ((i : Nat) + 1)))) (getC_it w.params o3 xs _) (by rw [mapF_it]; rfl)
  rw [setC_it, mapF_it] at U
  refine ⟨by rw [R'.toks], ⟨U.size, U.has, by show s'.toks + 1 = _; rw [R'.toks], U.gens, U.drawn, U.os, U.life⟩⟩
-- the store
theorem setC1 (w : World) (o3 : Obj) (xs : List Value) (i tk : Nat) (k v : Value) : ev w (denote treeTable (.call (.builtin "list.__setitem__") ⟨[.ref 70, k, v], []⟩)) (TCi w.params o3 xs i tk) = some (.ok (.again (.builtin "list.__setitem__" ⟨[.ref 70, k, v], []⟩)), TCi w.params o3 xs i tk) := by kernel_rfl
theorem setCD (k v : Value) : denote treeTable (.builtin "list.__setitem__" ⟨[.ref 70, k, v], []⟩) = Builtin.«list.__setitem__» ⟨[.ref 70, k, v], []⟩ := by kernel_rfl
theorem setC {w : World} {g s : Shared} {A : Around} (o3 : Obj) (xs : List Value) (i tk j t : Nat) (v : Value) (hj : j < xs.length) (hx : xs.length = 256) (hA : A.handled = none) (R : Rep g (TCi w.params o3 xs i tk) s) :
    codeAny (model pw w) A (.call (.builtin "list.__setitem__") ⟨[.ref 70, .int (j : Nat) t, v], []⟩) (fun r' s' => r' = .ok (.ret .none) ∧ Rep g (TCi w.params o3 (xs.set j v) i tk) s') s := by
  refine code_of ?_
  refine ev_any R hA (setC1 w o3 xs i tk _ v) fun s' R' => ⟨by kernel_rfl, ?_⟩
  refine code_of ?_
  rw [setCD]
  have ho := R'.has 70 _ (getC_l w.params o3 xs _)
  have U := R'.update (f := Obj.mapSeq (·.setIfInBounds j v)) (getC_l w.params o3 xs _) (by rw [mapSeq_set]; rfl)
  rw [setC_l _ _ _ _ _ _ (mapSeq_set xs 0 j v)] at U
  exact @wp_setitem' pw w _ _ _ s' 70 xs 0 j t v ho hj hx ⟨rfl, U⟩


-- one turn
theorem turnCf (w : World) (y : Value) (xs ys : List Value) (i i' tk c t1 : Nat) (hx : PySem.Str) :
    evl (w.withFollow "special-get-raises" false) stopSet (denote treeTable cC) (TCi (w.withFollow "special-get-raises" false).params (o3c (w.withFollow "special-get-raises" false).params y) xs i tk)
      [(.ok (.ret (.int ((c : Nat) : Int) t1)), TCi (w.withFollow "special-get-raises" false).params (o3c (w.withFollow "special-get-raises" false).params y) xs i' (tk + 1)), (.ok (.ret (.str hx (tk + 2))), TCi (w.withFollow "special-get-raises" false).params (o3c (w.withFollow "special-get-raises" false).params (.int ((c : Nat) : Int) t1)) xs i' (tk + 3)), (.ok (.ret .none), TCi (w.withFollow "special-get-raises" false).params (o3c (w.withFollow "special-get-raises" false).params (.int ((c : Nat) : Int) t1)) ys i' (tk + 3))] =
    some ((.ok (.again cC), TCi (w.withFollow "special-get-raises" false).params (o3c (w.withFollow "special-get-raises" false).params (.int ((c : Nat) : Int) t1)) ys i' (tk + 3)),
      [(.call (.builtin "bytes_iterator.__next__") ⟨[.ref 74], []⟩, TCi (w.withFollow "special-get-raises" false).params (o3c (w.withFollow "special-get-raises" false).params y) xs i tk), (.call (.builtin "chr") ⟨[.int ((c : Nat) : Int) t1], []⟩, TCi (w.withFollow "special-get-raises" false).params (o3c (w.withFollow "special-get-raises" false).params (.int ((c : Nat) : Int) t1)) xs i' (tk + 2)),
       (.call (.builtin "list.__setitem__") ⟨[.ref 70, .int ((c : Nat) : Int) t1, .str hx (tk + 2)], []⟩, TCi (w.withFollow "special-get-raises" false).params (o3c (w.withFollow "special-get-raises" false).params (.int ((c : Nat) : Int) t1)) xs i' (tk + 3))]) := by kernel_rfl

-- one turn
theorem turnCt (w : World) (y : Value) (xs ys : List Value) (i i' tk c t1 : Nat) (hx : PySem.Str) :
    evl (w.withFollow "special-get-raises" true) stopSet (denote treeTable cC) (TCi (w.withFollow "special-get-raises" true).params (o3c (w.withFollow "special-get-raises" true).params y) xs i tk)
      [(.ok (.ret (.int ((c : Nat) : Int) t1)), TCi (w.withFollow "special-get-raises" true).params (o3c (w.withFollow "special-get-raises" true).params y) xs i' (tk + 1)), (.ok (.ret (.str hx (tk + 2))), TCi (w.withFollow "special-get-raises" true).params (o3c (w.withFollow "special-get-raises" true).params (.int ((c : Nat) : Int) t1)) xs i' (tk + 3)), (.ok (.ret .none), TCi (w.withFollow "special-get-raises" true).params (o3c (w.withFollow "special-get-raises" true).params (.int ((c : Nat) : Int) t1)) ys i' (tk + 3))] =
    some ((.ok (.again cC), TCi (w.withFollow "special-get-raises" true).params (o3c (w.withFollow "special-get-raises" true).params (.int ((c : Nat) : Int) t1)) ys i' (tk + 3)),
      [(.call (.builtin "bytes_iterator.__next__") ⟨[.ref 74], []⟩, TCi (w.withFollow "special-get-raises" true).params (o3c (w.withFollow "special-get-raises" true).params y) xs i tk), (.call (.builtin "chr") ⟨[.int ((c : Nat) : Int) t1], []⟩, TCi (w.withFollow "special-get-raises" true).params (o3c (w.withFollow "special-get-raises" true).params (.int ((c : Nat) : Int) t1)) xs i' (tk + 2)),
       (.call (.builtin "list.__setitem__") ⟨[.ref 70, .int ((c : Nat) : Int) t1, .str hx (tk + 2)], []⟩, TCi (w.withFollow "special-get-raises" true).params (o3c (w.withFollow "special-get-raises" true).params (.int ((c : Nat) : Int) t1)) xs i' (tk + 3))]) := by kernel_rfl


noncomputable def TCe (P : Params) (y : Value) (xs : List Value) (tk : Nat) : ST := ⟨((tC P (o3c P y) xs (o74H P)).ins 75 (o75H P)).ins 76 (o76H P), 77, tk⟩

theorem endCf (w : World) (y : Value) (xs : List Value) (tk : Nat) :
    ev (w.withFollow "special-get-raises" false) (denote treeTable cC) (TCi (w.withFollow "special-get-raises" false).params (o3c (w.withFollow "special-get-raises" false).params y) xs 95 tk) = some (.ok (.again (.block [] env0)), TCe (w.withFollow "special-get-raises" false).params y xs tk) := by kernel_rfl
theorem endCt (w : World) (y : Value) (xs : List Value) (tk : Nat) :
    ev (w.withFollow "special-get-raises" true) (denote treeTable cC) (TCi (w.withFollow "special-get-raises" true).params (o3c (w.withFollow "special-get-raises" true).params y) xs 95 tk) = some (.ok (.again (.block [] env0)), TCe (w.withFollow "special-get-raises" true).params y xs tk) := by kernel_rfl

theorem blockC (w : World) (y : Value) (xs : List Value) (tk : Nat) : evC none (denote treeTable) ⟨pw, w.params⟩ 5 (.block [] env0) (TCe w.params y xs tk) = some (.ok .next, TCe w.params y xs tk) := by kernel_rfl

theorem stCf (w : World) : evo (w.withFollow "special-get-raises" false) stopLoop (.ok .next) (TCe (w.withFollow "special-get-raises" false).params (.int 9 1936) items3 1939) (exec (stm 21) env0) (TG (w.withFollow "special-get-raises" false).params) =
    some ((.ok .next, TH (w.withFollow "special-get-raises" false).params), cC, TCi (w.withFollow "special-get-raises" false).params (o3F (w.withFollow "special-get-raises" false).params) items0 0 1654) := by kernel_rfl
theorem stCt (w : World) : evo (w.withFollow "special-get-raises" true) stopLoop (.ok .next) (TCe (w.withFollow "special-get-raises" true).params (.int 9 1936) items3 1939) (exec (stm 21) env0) (TG (w.withFollow "special-get-raises" true).params) =
    some ((.ok .next, TH (w.withFollow "special-get-raises" true).params), cC, TCi (w.withFollow "special-get-raises" true).params (o3F (w.withFollow "special-get-raises" true).params) items0 0 1654) := by kernel_rfl

end
end Mine
end
section
namespace Mine
noncomputable section
/-- what the loop has stored when i bytes are taken -/
noncomputable def stored (bs : List UInt8) (t0 : Nat) (xs : List Value) : Nat → List Value
  | 0 => xs
  | i + 1 => (stored bs t0 xs i).set (bs.getD i 0).toNat (.str ⟨#[(bs.getD i 0).toNat]⟩ (t0 + 3 * i + 2))
theorem stored_len (bs : List UInt8) (t0 : Nat) (xs : List Value) : ∀ i, (stored bs t0 xs i).length = xs.length
  | 0 => rfl
  | i + 1 => by rw [stored, List.length_set, stored_len bs t0 xs i]
theorem items0_len : items0.length = 256 := by decide +kernel
theorem storedB : stored bytesB 1449 items0 67 = items1 := by decide +kernel
theorem storedC : stored bytesC 1654 items0 95 = items3 := by decide +kernel
theorem lenB : bytesB.length = 67 := by decide +kernel
theorem lenC : bytesC.length = 95 := by decide +kernel
theorem getD_arr (bs : List UInt8) (i : Nat) (h : i < bs.length) : bs.toArray[i]? = some (bs.getD i 0) := by
  simp [h]
theorem turnB (w : World) (y : Value) (xs ys : List Value) (i i' tk c t1 : Nat) (hx : PySem.Str) :
    evl w stopSet (denote treeTable cB) (TBi w.params (o3c w.params y) xs i tk)
      [(.ok (.ret (.int ((c : Nat) : Int) t1)), TBi w.params (o3c w.params y) xs i' (tk + 1)), (.ok (.ret (.str hx (tk + 2))), TBi w.params (o3c w.params (.int ((c : Nat) : Int) t1)) xs i' (tk + 3)), (.ok (.ret .none), TBi w.params (o3c w.params (.int ((c : Nat) : Int) t1)) ys i' (tk + 3))] =
    some ((.ok (.again cB), TBi w.params (o3c w.params (.int ((c : Nat) : Int) t1)) ys i' (tk + 3)),
      [(.call (.builtin "bytes_iterator.__next__") ⟨[.ref 71], []⟩, TBi w.params (o3c w.params y) xs i tk), (.call (.builtin "chr") ⟨[.int ((c : Nat) : Int) t1], []⟩, TBi w.params (o3c w.params (.int ((c : Nat) : Int) t1)) xs i' (tk + 2)),
       (.call (.builtin "list.__setitem__") ⟨[.ref 68, .int ((c : Nat) : Int) t1, .str hx (tk + 2)], []⟩, TBi w.params (o3c w.params (.int ((c : Nat) : Int) t1)) xs i' (tk + 3))]) := by
  rcases follow w "special-get-raises" with e | e
  · rw [e]; exact turnBf w y xs ys i i' tk c t1 hx
  · rw [e]; exact turnBt w y xs ys i i' tk c t1 hx
theorem turn0B (w : World) (xs ys : List Value) (i i' c t1 : Nat) (hx : PySem.Str) :
    evl w stopSet (denote treeTable cB) (TBi w.params (o3D w.params) xs i 1449)
      [(.ok (.ret (.int ((c : Nat) : Int) t1)), TBi w.params (o3D w.params) xs i' (1449 + 1)), (.ok (.ret (.str hx (1449 + 2))), TBi w.params (o3c w.params (.int ((c : Nat) : Int) t1)) xs i' (1449 + 3)), (.ok (.ret .none), TBi w.params (o3c w.params (.int ((c : Nat) : Int) t1)) ys i' (1449 + 3))] =
    some ((.ok (.again cB), TBi w.params (o3c w.params (.int ((c : Nat) : Int) t1)) ys i' (1449 + 3)),
      [(.call (.builtin "bytes_iterator.__next__") ⟨[.ref 71], []⟩, TBi w.params (o3D w.params) xs i 1449), (.call (.builtin "chr") ⟨[.int ((c : Nat) : Int) t1], []⟩, TBi w.params (o3c w.params (.int ((c : Nat) : Int) t1)) xs i' (1449 + 2)),
       (.call (.builtin "list.__setitem__") ⟨[.ref 68, .int ((c : Nat) : Int) t1, .str hx (1449 + 2)], []⟩, TBi w.params (o3c w.params (.int ((c : Nat) : Int) t1)) xs i' (1449 + 3))]) := by
  rcases follow w "special-get-raises" with e | e
  · rw [e]; exact turn0Bf w xs ys i i' c t1 hx
  · rw [e]; exact turn0Bt w xs ys i i' c t1 hx
theorem turnC (w : World) (y : Value) (xs ys : List Value) (i i' tk c t1 : Nat) (hx : PySem.Str) :
    evl w stopSet (denote treeTable cC) (TCi w.params (o3c w.params y) xs i tk)
      [(.ok (.ret (.int ((c : Nat) : Int) t1)), TCi w.params (o3c w.params y) xs i' (tk + 1)), (.ok (.ret (.str hx (tk + 2))), TCi w.params (o3c w.params (.int ((c : Nat) : Int) t1)) xs i' (tk + 3)), (.ok (.ret .none), TCi w.params (o3c w.params (.int ((c : Nat) : Int) t1)) ys i' (tk + 3))] =
    some ((.ok (.again cC), TCi w.params (o3c w.params (.int ((c : Nat) : Int) t1)) ys i' (tk + 3)),
      [(.call (.builtin "bytes_iterator.__next__") ⟨[.ref 74], []⟩, TCi w.params (o3c w.params y) xs i tk), (.call (.builtin "chr") ⟨[.int ((c : Nat) : Int) t1], []⟩, TCi w.params (o3c w.params (.int ((c : Nat) : Int) t1)) xs i' (tk + 2)),
       (.call (.builtin "list.__setitem__") ⟨[.ref 70, .int ((c : Nat) : Int) t1, .str hx (tk + 2)], []⟩, TCi w.params (o3c w.params (.int ((c : Nat) : Int) t1)) xs i' (tk + 3))]) := by
  rcases follow w "special-get-raises" with e | e
  · rw [e]; exact turnCf w y xs ys i i' tk c t1 hx
  · rw [e]; exact turnCt w y xs ys i i' tk c t1 hx
theorem chr_code {w : World} {g s : Shared} {A : Around} (t n : Nat) (hn : n < 256) (T : ST) (hA : A.handled = none) (R : Rep g T s) :
    codeAny (model pw w) A (.call (.builtin "chr") ⟨[.int ((n : Nat) : Int) t], []⟩) (fun r' s' => r' = .ok (.ret (.str ⟨#[n]⟩ T.toks)) ∧ Rep g ⟨T.tree, T.n, T.toks + 1⟩ s') s :=
  ev_code R hA (chrC w t n hn T)
theorem byte_lt (bs : List UInt8) (i : Nat) : (bs.getD i 0).toNat < 256 := (bs.getD i 0).toNat_lt
section
variable {w : World} {g : Shared} {A : Around}
noncomputable abbrev EndB (w : World) (g : Shared) : Result → Shared → Prop := fun r s' => r = .ok .next ∧ Rep g (TBe w.params (.int 57 1647) items1 1650) s'
theorem fin_goB {s : Shared} (hA : A.handled = none) (y : Value) (hy : y = .int 57 1647) (R : Rep g (TBi w.params (o3c w.params y) (stored bytesB 1449 items0 67) 67 1650) s) : codeAny (model pw w) A cB (EndB w g) s := by
  subst hy
  rw [storedB] at R
  refine code_of ?_
  have e : ev w (denote treeTable cB) (TBi w.params (o3c w.params (.int 57 1647)) items1 67 1650) = some (.ok (.again (.block [] env0)), TBe w.params (.int 57 1647) items1 1650) := by
    rcases follow w "special-get-raises" with e | e
    · rw [e]; exact endBf w _ _ _
    · rw [e]; exact endBt w _ _ _
  refine ev_any R hA e fun s' R' => ⟨by kernel_rfl, ?_⟩
  exact ev_code R' hA (blockB w _ _ _)
theorem goB (hA : A.handled = none) : ∀ (n i : Nat) (s : Shared), i + 1 + n = 67 →
    Rep g (TBi w.params (o3c w.params (.int (((bytesB.getD i 0).toNat : Nat) : Int) (1449 + 3 * i))) (stored bytesB 1449 items0 (i + 1)) (i + 1) (1449 + 3 * (i + 1))) s → codeAny (model pw w) A cB (EndB w g) s
  | 0, i, s, h, R => by
    obtain rfl : i = 66 := by lia
    exact fin_goB hA _ (by decide +kernel) R
  | n + 1, i, s, h, R => by
    refine code_of ?_
    refine evl_any R hA (turnB w _ _ (stored bytesB 1449 items0 (i + 1 + 1)) (i + 1) (i + 1 + 1) _ (bytesB.getD (i + 1) 0).toNat (1449 + 3 * (i + 1)) ⟨#[(bytesB.getD (i + 1) 0).toNat]⟩) ?_ fun s' R' => ⟨by kernel_rfl, ?_⟩
    · refine ⟨fun s R => nextB _ _ _ _ _ (getD_arr _ _ (by rw [lenB]; lia)) hA R, fun s R => chr_code _ _ (byte_lt _ _) _ hA R, fun s R => ?_, trivial⟩
      exact setB _ _ _ _ _ _ _ (by rw [stored_len, items0_len]; exact byte_lt _ _) (by rw [stored_len, items0_len]) hA R
    · exact goB hA n (i + 1) s' (by lia) R'
theorem loopB {s : Shared} (hA : A.handled = none) (R : Rep g (TBi w.params (o3D w.params) items0 0 1449) s) : codeAny (model pw w) A cB (EndB w g) s := by
  refine code_of ?_
  refine evl_any R hA (turn0B w _ (stored bytesB 1449 items0 1) 0 1 (bytesB.getD 0 0).toNat 1449 ⟨#[(bytesB.getD 0 0).toNat]⟩) ?_ fun s' R' => ⟨by kernel_rfl, ?_⟩
  · refine ⟨fun s R => nextB _ _ _ _ _ (getD_arr _ _ (by rw [lenB]; lia)) hA R, fun s R => chr_code _ _ (byte_lt _ _) _ hA R, fun s R => ?_, trivial⟩
    exact setB _ _ _ _ _ _ _ (by rw [stored_len, items0_len]; exact byte_lt _ _) (by rw [stored_len, items0_len]) hA R
  · exact goB hA 66 0 s' (by lia) R'
noncomputable abbrev EndC (w : World) (g : Shared) : Result → Shared → Prop := fun r s' => r = .ok .next ∧ Rep g (TCe w.params (.int 9 1936) items3 1939) s'
theorem fin_goC {s : Shared} (hA : A.handled = none) (y : Value) (hy : y = .int 9 1936) (R : Rep g (TCi w.params (o3c w.params y) (stored bytesC 1654 items0 95) 95 1939) s) : codeAny (model pw w) A cC (EndC w g) s := by
  subst hy
  rw [storedC] at R
  refine code_of ?_
  have e : ev w (denote treeTable cC) (TCi w.params (o3c w.params (.int 9 1936)) items3 95 1939) = some (.ok (.again (.block [] env0)), TCe w.params (.int 9 1936) items3 1939) := by
    rcases follow w "special-get-raises" with e | e
    · rw [e]; exact endCf w _ _ _
    · rw [e]; exact endCt w _ _ _
  refine ev_any R hA e fun s' R' => ⟨by kernel_rfl, ?_⟩
  exact ev_code R' hA (blockC w _ _ _)
theorem goC (hA : A.handled = none) : ∀ (n i : Nat) (y : Value) (s : Shared), i + n = 95 → (n = 0 → y = .int 9 1936) →
    Rep g (TCi w.params (o3c w.params y) (stored bytesC 1654 items0 i) i (1654 + 3 * i)) s → codeAny (model pw w) A cC (EndC w g) s
  | 0, i, y, s, h, hy, R => by
    obtain rfl : i = 95 := by lia
    exact fin_goC hA _ (hy rfl) R
  | n + 1, i, y, s, h, hy, R => by
    refine code_of ?_
    refine evl_any R hA (turnC w _ _ (stored bytesC 1654 items0 (i + 1)) i (i + 1) _ (bytesC.getD i 0).toNat (1654 + 3 * i) ⟨#[(bytesC.getD i 0).toNat]⟩) ?_ fun s' R' => ⟨by kernel_rfl, ?_⟩
    · refine ⟨fun s R => nextC _ _ _ _ _ (getD_arr _ _ (by rw [lenC]; lia)) hA R, fun s R => chr_code _ _ (byte_lt _ _) _ hA R, fun s R => ?_, trivial⟩
      exact setC _ _ _ _ _ _ _ (by rw [stored_len, items0_len]; exact byte_lt _ _) (by rw [stored_len, items0_len]) hA R
    · refine goC hA n (i + 1) _ s' (by lia) (fun h0 => ?_) R'
      obtain rfl : i = 94 := by lia
      decide +kernel
theorem loopC {s : Shared} (hA : A.handled = none) (R : Rep g (TCi w.params (o3F w.params) items0 0 1654) s) : codeAny (model pw w) A cC (EndC w g) s :=
  goC hA 95 0 (.int 57 1647) s (by lia) (by intro h; cases h) R
theorem stmtB {s : Shared} (hA : A.handled = none) (R : Rep g (TD w.params) s) {Q : Flow → Shared → Prop} {E : Value → Shared → Prop}
    (h : ∀ s', Rep g (TF w.params) s' → Q .next s') : wpAny (model pw w) A (exec (stm 19) env0) Q E s := by
  have e : evo w stopLoop (.ok .next) (TBe w.params (.int 57 1647) items1 1650) (exec (stm 19) env0) (TD w.params) = some ((.ok .next, TF w.params), cB, TBi w.params (o3D w.params) items0 0 1449) := by
    rcases follow w "special-get-raises" with e | e
    · rw [e]; exact stBf w
    · rw [e]; exact stBt w
  exact evo_any R hA e (fun s' R' => loopB hA R') h
theorem stmtC {s : Shared} (hA : A.handled = none) (R : Rep g (TG w.params) s) {Q : Flow → Shared → Prop} {E : Value → Shared → Prop}
    (h : ∀ s', Rep g (TH w.params) s' → Q .next s') : wpAny (model pw w) A (exec (stm 21) env0) Q E s := by
  have e : evo w stopLoop (.ok .next) (TCe w.params (.int 9 1936) items3 1939) (exec (stm 21) env0) (TG w.params) = some ((.ok .next, TH w.params), cC, TCi w.params (o3F w.params) items0 0 1654) := by
    rcases follow w "special-get-raises" with e | e
    · rw [e]; exact stCf w
    · rw [e]; exact stCt w
  exact evo_any R hA e (fun s' R' => loopC hA R') h
end
end
end Mine
end
section
namespace Mine
theorem seg2 (w : World) : ev w (execs ((body.drop 11).take 8) env0) (TC w.params) = some (.ok .next, TD w.params) := by kernel_rfl
theorem seg3 (w : World) : ev w (execs ((body.drop 20).take 1) env0) (TF w.params) = some (.ok .next, TG w.params) := by kernel_rfl
theorem seg4 (w : World) : ev w (execs ((body.drop 22).take 4) env0) (TH w.params) = some (.ok .next, TI w.params) := by kernel_rfl
theorem seg5f (w : World) : ev (w.withFollow "special-get-raises" false) (execs ((body.drop 26).take 1) env0) (TI (w.withFollow "special-get-raises" false).params) = some (.ok .next, TJ (w.withFollow "special-get-raises" false).params) := by kernel_rfl
theorem seg5t (w : World) : ev (w.withFollow "special-get-raises" true) (execs ((body.drop 26).take 1) env0) (TI (w.withFollow "special-get-raises" true).params) = some (.ok .next, TJ (w.withFollow "special-get-raises" true).params) := by kernel_rfl
theorem seg6 (w : World) : ev w (execs ((body.drop 27).take 9) env0) (TJ w.params) = some (.ok .next, TL w.params) := by kernel_rfl
end Mine
end
section
namespace Mine
noncomputable def thenExecs (l : List Stmt) (env : Env) (f : Flow) : Sem Flow := match f with
  | .next => execs l env
  | f => pure f
theorem execs_cons (st : Stmt) (l : List Stmt) (env : Env) : execs (st :: l) env = (exec st env).bind (thenExecs l env) := by
  conv => lhs; unfold execs
  show (exec st env).bind _ = _
  congr
theorem execs_append (l2 : List Stmt) (env : Env) : ∀ l1 : List Stmt, execs (l1 ++ l2) env = (execs l1 env).bind (thenExecs l2 env)
  | [] => by
    have e : execs [] env = .pure .next := by unfold execs; rfl
    rw [e]; rfl
  | st :: l1 => by
    rw [List.cons_append, execs_cons, execs_cons, Sem.bind_assoc]
    congr
    funext f
    cases f with
    | next => exact execs_append l2 env l1
    | _ => rfl
section
variable {w : World} {g : Shared} {A : Around} {Q : Flow → Shared → Prop} {E : Value → Shared → Prop} {s : Shared}
theorem seg_next {l1 l2 : List Stmt} {T T' : ST} (hA : A.handled = none) (R : Rep g T s) (e : ev w (execs l1 env0) T = some (.ok .next, T'))
    (h : ∀ s', Rep g T' s' → wpAny (model pw w) A (execs l2 env0) Q E s') : wpAny (model pw w) A (execs (l1 ++ l2) env0) Q E s := by
  rw [execs_append]
  exact wpAny_bind (ev_any R hA e fun s' R' => h s' R')
theorem st_next {st : Stmt} {l2 : List Stmt} (h : wpAny (model pw w) A (exec st env0) (fun f s' => f = .next ∧ wpAny (model pw w) A (execs l2 env0) Q E s') E s) : wpAny (model pw w) A (execs (st :: l2) env0) Q E s := by
  rw [execs_cons]
  refine wpAny_bind (wpAny_mono h ?_ fun _ _ x => x)
  rintro f s' ⟨rfl, h'⟩
  exact h'
theorem cutBody : behindTheImports pw = (body.drop 1).take 9 ++ (stm 10 :: ((body.drop 11).take 8 ++ (stm 19 :: ((body.drop 20).take 1 ++ (stm 21 :: ((body.drop 22).take 4 ++ ((body.drop 26).take 1 ++ ((body.drop 27).take 9 ++ [])))))))) := by kernel_rfl
theorem seg5 (w : World) : ev w (execs ((body.drop 26).take 1) env0) (TI w.params) = some (.ok .next, TJ w.params) := by
  rcases follow w "special-get-raises" with e | e
  · rw [e]; exact seg5f w
  · rw [e]; exact seg5t w
theorem bodyW (hA : A.handled = none) (R : Rep g (TA w.params) s) (h : ∀ s', Rep g (TL w.params) s' → Q .next s') : wpAny (model pw w) A (execs (behindTheImports pw) env0) Q E s := by
  rw [cutBody]
  refine seg_next hA R (seg1 w) fun s R => ?_
  refine st_next (stmtA hA R fun s R => ⟨rfl, ?_⟩)
  refine seg_next hA R (seg2 w) fun s R => ?_
  refine st_next (stmtB hA R fun s R => ⟨rfl, ?_⟩)
  refine seg_next hA R (seg3 w) fun s R => ?_
  refine st_next (stmtC hA R fun s R => ⟨rfl, ?_⟩)
  refine seg_next hA R (seg4 w) fun s R => ?_
  refine seg_next hA R (seg5 w) fun s R => ?_
  refine seg_next hA R (seg6 w) fun s R => ?_
  have e : execs [] env0 = .pure .next := by unfold execs; rfl
  rw [e]
  exact wpAny_pure (h s R)
noncomputable def stopBody : Code → Bool
  | .body .. => true
  | _ => false
theorem blockT (w : World) : ev w (blockStart (behindTheImports pw) env0) (TA w.params) = some (.ok (), TA w.params) := by kernel_rfl
theorem bodyC (hA : A.handled = none) (R : Rep g (TA w.params) s) : codeAny (model pw w) A (.body (behindTheImports pw) env0) (fun r s' => r = .ok .next ∧ Rep g (TL w.params) s') s := by
  refine code_of ?_
  show wpAny _ _ (do blockStart (behindTheImports pw) env0; return PySem.Fin.done (← (execs (behindTheImports pw) env0).onRaise (leaving env0))) _ _ _
  refine wpAny_bind (ev_any R hA (blockT w) fun s R => ?_)
  refine wpAny_bind (wpAny_onRaise (bodyW hA R fun s R => ?_))
  exact wpAny_pure ⟨rfl, R⟩
theorem topO (w : World) : evo w stopBody (.ok .next) (TL w.params) (topStub pw).cur (TZ w.params) = some ((.ok (.done (.ret .none)), TL w.params), .body (behindTheImports pw) env0, TA w.params) := by kernel_rfl
theorem topW {Q : PySem.Fin → Shared → Prop} (hA : A.handled = none) (R : Rep g (TZ w.params) s) (h : ∀ s', Rep g (TL w.params) s' → Q (.done (.ret .none)) s') : wpAny (model pw w) A (topStub pw).cur Q E s :=
  evo_any R hA (topO w) (fun s' R' => bodyC hA R') h
end
end Mine
end
section
namespace Mine
noncomputable def flat : BT → Nat → Nat → List Obj
  | T, i, n => (List.range n).map fun j => (T.get (i + j)).getD default
noncomputable def heapOf (T : ST) : Heap := ⟨((List.range T.n).map fun j => (T.tree.get j).getD default).toArray, {}⟩
theorem opn (w : World) : fencedOpening treeTable pw w 900 = some ⟨heapOf (TZ w.params), #[], {}, 276, { stdin := #[] }⟩ := by kernel_rfl
end Mine
end
section
namespace Mine
section
variable {den : Code → Sem PySem.Fin} {p : Program} {w : World}
noncomputable def notDone : Step → Bool
  | .halt (.done _) _ => false
  | _ => true
theorem not_done_out {x : Step} (q : notDone x = true) {f : Flow} {s' : Shared} (h : x = .halt (.done f) s') : False := by
  subst h; cases q
theorem halt_done {s s' : Shared} {t : Thread} {f : Flow} (h : step den p w s t = .halt (.done f) s') : through t = true ∧ s' = s := by
  obtain ⟨heap, gens, drawn, toks, os⟩ := s
  obtain ⟨cur, code, pos, stack⟩ := t
  cases cur with
  | pure x =>
    cases x with
    | again c =>
      refine (not_done_out ?_ h).elim
      clear h
      delta step
      dsimp only
      cases code <;> first
        | rfl
        | (cases c <;> first
          | rfl
          | (cases stack with
            | nil => rfl
            | cons fr st => cases fr <;> rfl))
    | done g =>
      cases stack with
      | nil =>
        (delta step finish at h; dsimp only at h)
        split at h
        · cases h
        · cases h; exact ⟨rfl, rfl⟩
      | cons fr st => cases fr <;> ((delta step at h; dsimp only at h); cases h)
  | resume g r lv k =>
    refine (not_done_out ?_ h).elim
    clear h
    delta step
    dsimp only
    cases gens[g]? with
    | none => rfl
    | some st =>
      cases st with
      | fresh c => cases r with
        | send v => cases v <;> rfl
        | _ => rfl
      | _ => cases r <;> rfl
  | _ =>
    refine (not_done_out ?_ h).elim
    clear h
    delta step finish
    dsimp only
    (repeat' split) <;> rfl
theorem before_halt : ∀ {n : Nat} {s s' : Shared} {t : Thread} {f : Flow}, runN den p w n s t = .halted (.done f) s' → ∃ m t₁, runN den p w m s t = .running s' t₁ ∧ through t₁ = true
  | 0, _, _, _, _, h => by cases h
  | n + 1, s, s', t, f, h => by
    simp only [runN] at h
    cases hs : step den p w s t with
    | go s₁ t₁ =>
      rw [hs] at h
      obtain ⟨m, t₂, h1, h2⟩ := before_halt h
      exact ⟨m + 1, t₂, by simp only [runN, hs]; exact h1, h2⟩
    | halt o s₁ =>
      rw [hs] at h
      cases h
      obtain ⟨h1, rfl⟩ := halt_done hs
      exact ⟨0, t, rfl, h1⟩
theorem sched_running : ∀ {m : Nat} {s s' : Shared} {t t' : Thread}, runN den p w m s t = .running s' t' → (∀ k s₁ t₁, runN den p w k s t = .running s₁ t₁ → t₁.calm = true) → s.asleep →
    schedN den p w m (.single s t) = .running (.single s' t')
  | 0, s, s', t, t', h, hc, hz => by cases h; rfl
  | m + 1, s, s', t, t', h, hc, hz => by
    have e := sstep_single den p w s t (hc 0 s t rfl) hz
    simp only [runN] at h
    cases hs : step den p w s t with
    | halt o s₁ => rw [hs] at h; cases h
    | go s₁ t₁ =>
      rw [hs] at h e
      rcases e with e | e
      · simp only [schedN, e, Step.lift]
        exact sched_running h (fun k s₂ t₂ q => hc (k + 1) s₂ t₂ (by simp only [runN, hs]; exact q)) (Shared.asleep_of_life (step_life den p w s s₁ t t₁ hs) hz)
      · cases e
end
/-- a tree that ends, as a run of the scheduler up to its end -/
theorem runs_through {prog : Program} {w : World} {t : Sem PySem.Fin} {s : Shared} {R : Shared → Prop} (hreg : s.asleep)
    (h : wpAny (model prog w) callerA t (fun fin s' => fin = .done (.ret .none) ∧ R s' ∧ s'.gens = #[]) (fun _ _ => False) s) :
    ∃ s', (∃ n t', schedN (denote table) prog w n (.single s ⟨t, .builtin "claim.caller" {}, default, []⟩) = .running (.single s' t') ∧ through t' = true) ∧ R s' ∧ s'.gens = #[] ∧ s'.heap.life = s.heap.life := by
  have h' := wp_of_wpAny_done (R := fun r s' => (r = .ok (.ret .none) ∧ R s' ∧ s'.gens = #[]) ∧ leftWithCleanup s'.gens = false) caller_in
    (wpAny_mono h (fun fin s' ⟨e, a, b⟩ => ⟨.ret .none, e, ⟨rfl, a, b⟩, by rw [b]; simp [leftWithCleanup]⟩) fun _ _ x => x.elim) default
  obtain ⟨n, r, s₁, hn, ⟨rfl, hR, hg⟩⟩ := (wp_iff_halts (M := model prog w) (R := fun r s' => r = .ok (.ret .none) ∧ R s' ∧ s'.gens = #[]) ..).mp h'
  obtain ⟨s₂, hr, hf, hc⟩ := runNI_real _ _ _ hn (outcomeOf_ends _)
  obtain rfl : s₂ = s₁ := Shared.eq_of_forget_eq hf hg
  obtain ⟨m, t₁, h1, h2⟩ := before_halt hr
  exact ⟨s₂, ⟨m, t₁, sched_running h1 hc hreg, h2⟩, hR, hg, runN_life_running h1⟩
noncomputable def inside (n : Nat) : BT → Nat → Nat → Bool
  | .nil, _, _ => true
  | .node _ l r, s, b => Nat.blt b n && inside n l (2 * s) (s + b) && inside n r (2 * s) (2 * s + b)
theorem inside_lt {n : Nat} : ∀ {t : BT} {s b : Nat}, inside n t s b = true → ∀ {j : Nat} {o : Obj}, t.get j = some o → s * j + b < n
  | .nil, _, _, _, _, _, e => by cases e
  | .node v l r, s, b, H, j, o, e => by
    simp only [inside, Bool.and_eq_true] at H
    obtain ⟨⟨H0, H1⟩, H2⟩ := H
    rw [BT.get_node] at e
    by_cases h0 : j = 0
    · subst h0
      rw [Nat.mul_zero, Nat.zero_add]
      exact Nat.le_of_ble_eq_true H0
    · rw [if_neg h0] at e
      by_cases p : j % 2 = 1
      · rw [if_pos p] at e
        have z := inside_lt H1 e
        have : 2 * s * (j / 2) + (s + b) = s * j + b := by
          have hj : j = 2 * (j / 2) + 1 := by lia
          generalize j / 2 = q at hj
          subst hj
          rw [Nat.mul_add, Nat.mul_one, ← Nat.mul_assoc, Nat.mul_comm s 2]; lia
        rw [this] at z; exact z
      · rw [if_neg p] at e
        have z := inside_lt H2 e
        have : 2 * s * (j / 2 - 1) + (2 * s + b) = s * j + b := by
          have hj : j = 2 * (j / 2 - 1) + 2 := by lia
          generalize j / 2 - 1 = q at hj
          subst hj
          rw [Nat.mul_add, ← Nat.mul_assoc, Nat.mul_comm s 2]; lia
        rw [this] at z; exact z
noncomputable def isGood (T : ST) : Bool := inside T.n T.tree 1 0 && (List.range T.n).all fun i => match T.tree.get i with
  | some o => !o.isFreed
  | none => false
theorem get_heapOf {T : ST} (h : isGood T = true) {i : Nat} {o : Obj} (e : T.tree.get i = some o) : (heapOf T).get? i = some o := by
  obtain ⟨h1, h2⟩ := Bool.and_eq_true_iff.mp h
  have hi := inside_lt h1 e
  rw [Nat.one_mul, Nat.add_zero] at hi
  have hf := List.all_eq_true.mp h2 i (List.mem_range.mpr hi)
  rw [e] at hf
  have hg : (heapOf T).objs[i]? = some o := by
    simp [heapOf, hi, e]
  unfold Heap.get?
  rw [hg]
  obtain ⟨c, d, dt, sl⟩ := o
  cases dt <;> first | rfl | (exfalso; revert hf; simp [Obj.isFreed])
theorem rep_heapOf {T : ST} (h : isGood T = true) (os : OsState) : Rep ⟨heapOf T, #[], {}, T.toks, os⟩ T ⟨heapOf T, #[], {}, T.toks, os⟩ :=
  ⟨by simp [heapOf], fun i o e => get_heapOf h e, rfl, rfl, rfl, rfl, rfl⟩
theorem heap_of_rep {g s : Shared} {T : ST} (h : isGood T = true) (R : Rep g T s) (hl : g.heap.life = {}) : s.heap = heapOf T := by
  obtain ⟨h1, h2⟩ := Bool.and_eq_true_iff.mp h
  have key : s.heap.objs = (heapOf T).objs := by
    refine Array.ext (by rw [R.size]; simp [heapOf]) fun i hi hi' => ?_
    have hn : i < T.n := by rw [← R.size]; exact hi
    have hf := List.all_eq_true.mp h2 i (List.mem_range.mpr hn)
    cases e : T.tree.get i with
    | none => rw [e] at hf; cases hf
    | some o =>
      have a := R.has i o e
      have b := get_heapOf h e
      have up : ∀ (hp : Heap), hp.get? i = some o → hp.objs[i]? = some o := fun hp q => by
        unfold Heap.get? at q
        split at q
        · cases q
        · exact q
      have a' := up _ a
      have b' := up _ b
      rw [Array.getElem?_eq_getElem hi] at a'
      rw [Array.getElem?_eq_getElem hi'] at b'
      exact Option.some.inj (a'.trans b'.symm)
  have kl : s.heap.life = (heapOf T).life := by rw [R.life, hl]; rfl
  cases hs : s.heap
  rw [hs] at key kl
  cases hq : heapOf T
  rw [hq] at key kl
  simp only at key kl
  rw [key, kl]
theorem goodZ (P : Params) : isGood (TZ P) = true := by kernel_rfl
theorem goodL (P : Params) : isGood (TL P) = true := by kernel_rfl
noncomputable abbrev s0 (w : World) (os : OsState) : Shared := ⟨heapOf (TZ w.params), #[], {}, 276, os⟩
noncomputable abbrev s1 (w : World) (os : OsState) : Shared := ⟨heapOf (TL w.params), #[], {}, 2040, os⟩
theorem top_runs (w : World) (os : OsState) : ∃ n t', schedN (denote table) pw w n (.single (s0 w os) (topStub pw)) = .running (.single (s1 w os) t') ∧ through t' = true := by
  have R0 : Rep (s0 w os) (TZ w.params) (s0 w os) := rep_heapOf (goodZ _) os
  obtain ⟨s', hrun, hR, hg, hl⟩ := runs_through (prog := pw) (w := w) (t := (topStub pw).cur) (s := s0 w os) (R := fun s' => Rep (s0 w os) (TL w.params) s') ⟨rfl, rfl⟩
    (topW rfl R0 fun s' R' => ⟨rfl, R', R'.gens⟩)
  have e : s' = s1 w os := by
    have h1 := heap_of_rep (goodL _) hR rfl
    have h2 := hR.toks
    have h3 := hR.drawn
    have h4 := hR.os
    cases s'
    simp only at h1 h2 h3 h4 hg
    rw [h1, h2, h3, h4, hg]
    rfl
  rw [e] at hrun
  exact hrun
end Mine
end
section
namespace Mine
theorem k_isNs (P : Params) : (heapOf (TL P)).isNs mainGlobals = true := by kernel_rfl
theorem k_isB (P : Params) : (heapOf (TL P)).isNs builtinsNs = true := by kernel_rfl
theorem k_acc (P : Params) : (heapOf (TL P)).accountedOkI (importedModules pw.main.body) = true := by kernel_rfl
theorem k_stat (P : Params) : staticsOk (importedModules pw.main.body) (heapOf (TZ P)) (heapOf (TL P)) = true := by kernel_rfl
theorem k_names (P : Params) : namesBound pw (heapOf (TL P)) = true := by kernel_rfl
theorem k_laid (P : Params) : laidKept (heapOf (TZ P)) (heapOf (TL P)) = true := by kernel_rfl
theorem k_blt (P : Params) : (heapOf (TL P)).bltView = bltViewBooted := by kernel_rfl
theorem k_bm (P : Params) : globalOf (heapOf (TL P)) "__builtins__" = some (.ref 4) := by kernel_rfl
theorem k_ann (P : Params) : globalOf (heapOf (TZ P)) "__annotations__" = some (.ref 6) := by kernel_rfl
theorem k_size (P : Params) : (heapOf (TZ P)).objs.size = 28 := by kernel_rfl
theorem k_old (P : Params) : ∀ b < 28, b ≠ 3 → b ≠ 2 → b ≠ 6 → (heapOf (TZ P)).get? b = (heapOf (TL P)).get? b
  | 0, _, _, _, _ => by kernel_rfl | 1, _, _, _, _ => by kernel_rfl | 4, _, _, _, _ => by kernel_rfl | 5, _, _, _, _ => by kernel_rfl
  | 7, _, _, _, _ => by kernel_rfl | 8, _, _, _, _ => by kernel_rfl | 9, _, _, _, _ => by kernel_rfl | 10, _, _, _, _ => by kernel_rfl
  | 11, _, _, _, _ => by kernel_rfl | 12, _, _, _, _ => by kernel_rfl | 13, _, _, _, _ => by kernel_rfl | 14, _, _, _, _ => by kernel_rfl
  | 15, _, _, _, _ => by kernel_rfl | 16, _, _, _, _ => by kernel_rfl | 17, _, _, _, _ => by kernel_rfl | 18, _, _, _, _ => by kernel_rfl
  | 19, _, _, _, _ => by kernel_rfl | 20, _, _, _, _ => by kernel_rfl | 21, _, _, _, _ => by kernel_rfl | 22, _, _, _, _ => by kernel_rfl
  | 23, _, _, _, _ => by kernel_rfl | 24, _, _, _, _ => by kernel_rfl | 25, _, _, _, _ => by kernel_rfl | 26, _, _, _, _ => by kernel_rfl
  | 27, _, _, _, _ => by kernel_rfl
  | 2, _, _, h, _ => absurd rfl h
  | 3, _, h, _, _ => absurd rfl h
  | 6, _, _, _, h => absurd rfl h
  | n + 28, h, _, _, _ => absurd h (Nat.not_lt.mpr (Nat.le_add_left 28 n))
theorem topRan (w : World) (os : OsState) : TopRan pw w (s0 w os) (s1 w os) := by
  refine ⟨top_runs w os, rfl, rfl, fun b o hb hn => ?_, Heap.accountedI_of_ok (k_acc _), statics_of_ok (k_stat _), Pin.keysAreStrs_of (k_isNs _),
    fun x hx => (Pin.builtinOf_eq (k_isB _) x).trans (Heap.of_bltView (k_isB _) (k_blt _) x hx), ⟨4, _, k_bm _, get_heapOf (goodL _) (i := 4) (o := o4Z w.params) (by kernel_rfl), rfl, rfl⟩,
    fun g hg => (nomatch hg), names_of_bound (k_names _), laid_of_kept (k_laid _)⟩
  have hlt : b < 28 := k_size w.params ▸ Heap.lt_size hb
  exact (k_old w.params b hlt (fun q => hn (.inl q)) (fun q => hn (.inr (.inl q))) (fun q => hn (.inr (.inr (q ▸ k_ann _))))).symm.trans hb
theorem opened (w : World) : ∃ s, AfterRun (opening pw) w s ∧ fenceModules? pw s = some (s0 w { stdin := #[] }) := by
  have h := opn w
  unfold fencedOpening at h
  rw [← table_eq_tree] at h
  obtain ⟨s, h1, h2⟩ := Option.bind_eq_some_iff.mp h
  exact ⟨s, AfterImport.of_importEnds h1, h2⟩
end Mine
end
section
namespace Mine
/-- All that the top has left stands in h. -/
noncomputable def Up (w : World) (h : Heap) : Prop := ∀ b o, (heapOf (TL w.params)).get? b = some o → h.get? b = some o
noncomputable abbrev Keeps (h h' : Heap) : Prop := ∀ b o, h.get? b = some o → h'.get? b = some o
theorem ints_of {R : WRecords} {cl : PySem.Str → Option Addr} {h : Heap} : ∀ {vs : List Value} {ds : List WData} {as : List Addr}, ReadsAllW R cl h vs ds as → WShape.hasItems R ds .int = true → ∃ ns, IntsAre vs ns
  | _, _, _, .nil, _ => ⟨[], .nil⟩
  | _, _, _, .cons hd tl, hall => by
    simp only [WShape.hasItems, Bool.and_eq_true] at hall
    obtain ⟨i, rfl⟩ := hasW_int hall.1
    obtain ⟨ns, hns⟩ := ints_of tl hall.2
    cases hd
    exact ⟨_, .cons _ _ hns⟩
theorem k_law (P : Params) : globalOf (heapOf (TL P)) (S "law") = some (.ref 150) := by kernel_rfl
theorem k_lawo (P : Params) : (heapOf (TL P)).get? 150 = some (o150L P) := by kernel_rfl
theorem k_ns (w : World) {h : Heap} (U : Up w h) : ∃ mg, h.Ns mainGlobals mg ∧ mg (S "law") = some (.ref 150) := by
  have a : (heapOf (TL w.params)).Ns mainGlobals ((heapOf (TL w.params)).nsMap mainGlobals) := .of_isNs (k_isNs _)
  refine ⟨_, a.keeps U, ?_⟩
  rw [← Pin.globalOf_eq (k_isNs _)]
  exact k_law _
noncomputable abbrev rw0 : OpenLaw := PySem.Challenge.rw_ny0199_01
theorem lay_ok (P : Params) (ord : List DictEntry → List DictEntry) (cl : PySem.Str → Option Addr) (args : List WData) (s : Shared) (h : WShape.hasAll rw0.row.toRowW.records args rw0.row.toRowW.args = true) :
    (layAllW rw0.row.toRowW.records cl P ord args s).isSome = true := layAllW_isSome (by intro c hc; cases hc) args _ s h
end Mine
end
section
namespace Mine
structure Grow (s s' : Shared) : Prop where
  keep : Keeps s.heap s'.heap
  gens : s'.gens = s.gens
  os : s'.os = s.os
/-- plain data that a call hands back -/
inductive D where
  | int (i : Int)
  | str (x : PySem.Str)
  | bytes (b : Array UInt8)
  | bool (b : Bool)
noncomputable def Tell : Value → D → Prop
  | .int i _, .int j => i = j
  | .str x _, .str y => x = y
  | .bytes x _, .bytes y => x = y
  | .bool x, .bool y => x = y
  | _, _ => False
noncomputable def Back (d : D) (s : Shared) (v : Value) (s' : Shared) : Prop := Tell v d ∧ Grow s s'
theorem up_get (w : World) {h : Heap} (U : Up w h) {i : Nat} {o : Obj} (e : (TL w.params).tree.get i = some o) : h.get? i = some o := U _ _ (get_heapOf (goodL _) e)
theorem up_nolimit (w : World) {h : Heap} (U : Up w h) : h.NoLimit :=
  Heap.NoLimit.keeps (h := heapOf (TL w.params)) ⟨_, .of_isNs (by kernel_rfl), by kernel_rfl⟩ U
/-- a call of one of the text's defs without defaults -/
theorem call_of {w : World} {A : Around} {s : Shared} {d : D} (i f c : Nat) (name : PySem.Str) (pm : Value) (vs : List Value) (binds : List (PySem.Str × Value)) (U : Up w s.heap) (hd : A.depth < recursionLimit)
    (ho : (TL w.params).tree.get f = some ⟨.type "function", none, .func (fn i name name 3 [] .none .none .none pm none (.ref c) .none 0), #[]⟩)
    (hc : ∃ o vs t, (TL w.params).tree.get c = some o ∧ o.data = .fields vs ∧ vs[1]? = some (.str name t))
    (hb : bindArgs (Calls.docDef name (fArgs (stm i)) (fBody (stm i)) (fScope (stm i)) pm (.ref c) .none) ⟨vs, []⟩ = pure binds)
    (hl : (binds.all fun x => decide ((fScope (stm i)).names.lookup x.1 = some .local)) = true)
    (hco : (fScope (stm i)).isCoroutine = false) (hgen : (fScope (stm i)).isGenerator = false) (hk : (fScope (stm i)).kind = .function) (hcell : ∀ x ∈ (fScope (stm i)).names, x.2 ≠ .cell)
    (h : ∀ h₁, Fr s.heap s.heap.objs.size h₁ (fun x => binds.reverse.lookup x) → Up w h₁ →
      wpAny (model pw w) (A.deeper (envOf name (fScope (stm i)) s.heap.objs.size f (.ref c))) (execs (fBody (stm i)) (envOf name (fScope (stm i)) s.heap.objs.size f (.ref c)))
        (fun fl s' => Back d s (match fl with | .ret v => v | _ => .none) s') (fun _ _ => False)
        { s with heap := h₁, toks := s.toks + binds.length }) :
    wpAny (model pw w) A (call (.ref f) vs) (Back d s) (fun _ _ => False) s := by
  obtain ⟨oc, cvs, ct, h1, h2, h3⟩ := hc
  refine wpAny_call (call_plain_ret (pm := pm) (cd := .ref c) (doc := .none) hd (up_get w U ho) rfl (up_nolimit w U) ⟨c, oc, cvs, ct, rfl, up_get w U h1, h2, h3⟩ hb (locs hl) (fun h₁ F => ?_) hco hgen hk hcell)
  exact h h₁ F fun b o e => F.keep _ _ (U _ _ e)
noncomputable def wt (c : Int) : Int := if c = 9 ∨ (32 ≤ c ∧ c < 127 ∧ c ≠ 61) then 1 else 3
theorem weight_ok {w : World} {A : Around} {s : Shared} (U : Up w s.heap) (hd : A.depth < recursionLimit) (c : Int) (t : Nat) :
    wpAny (model pw w) A (call (.ref 140) [.int c t]) (Back (.int (wt c)) s) (fun _ _ => False) s := by
  refine call_of 33 140 139 (S "_law_weight") (.str (S "law_ny0199_01") 2019) _ [(S "code", .int c t)] U hd (by kernel_rfl) ⟨o139L w.params, _, _, by kernel_rfl, rfl, rfl⟩ (by kernel_rfl) (by kernel_rfl) (by kernel_rfl) (by kernel_rfl) (by kernel_rfl) (by decide +kernel) fun h₁ F U₁ => ?_
  repeat' (first | (walk1; try dsimp only) | fail "no")
  all_goals (refine ⟨?_, F.keep, rfl, rfl⟩; show (_ : Int) = wt c; unfold wt; first | (rw [if_pos (by lia)]) | (rw [if_neg (by lia)]))
end Mine
end
section
namespace Mine
/-- evaluation that changes nothing but the count of tokens; it may read the objects of K -/
noncomputable def evP {α : Type} (hd : Option Value) (run : Code → Nat → Option (Result × Nat)) (S : Setting) (K : BT) : Sem α → Nat → Option (Except Value α × Nat)
  | .pure a, k => some (.ok a, k)
  | .raise e, k => some (.error e, k)
  | .rule _ f, k => evP hd run S K (f ()) k
  | .at _ f, k => evP hd run S K (f ()) k
  | .load a _ f, k => match K.get a with
    | some o => evP hd run S K (f o) k
    | none => none
  | .point _ f, k => evP hd run S K (f ()) k
  | .fresh f, k => evP hd run S K (f k) (k + 1)
  | .ask f, k => evP hd run S K (f S) k
  | .call c h _ _ f, k => match h with
    | none => match run c k with
      | some (r, k') => evP hd run S K (f r) k'
      | none => none
    | some _ => none
  | .thread f, k => evP hd run S K (f 0) k
  | .handled own f, k => match own with
    | false => evP hd run S K (f hd) k
    | true => none
  | _, _ => none
noncomputable def evPC (hd : Option Value) (den : Code → Sem PySem.Fin) (S : Setting) (K : BT) : Nat → Code → Nat → Option (Result × Nat)
  | 0, _, _ => none
  | n + 1, c, k => match evP hd (evPC hd den S K n) S K (den c) k with
    | some (.ok (.done f), k') => some (.ok f, k')
    | some (.ok (.again c'), k') => match c'.quiet with
      | true => evPC hd den S K n c' k'
      | false => none
    | some (.error e, k') => some (.error e, k')
    | none => none
noncomputable def Knows (K : BT) (h : Heap) : Prop := ∀ i o, K.get i = some o → h.get? i = some o
noncomputable def MeansP (hd : Option Value) (M : Model) (K : BT) (run : Code → Nat → Option (Result × Nat)) : Prop :=
  ∀ c k r k' (s : Shared), Knows K s.heap → s.toks = k → run c k = some (r, k') → ∀ A : Around, A.handled = hd → codeAny M A c (fun r' s' => r' = r ∧ s' = { s with toks := k' }) s
theorem evP_load {α : Type} {hd : Option Value} {run : Code → Nat → Option (Result × Nat)} {S : Setting} {K : BT} {k₀ : Nat} {a p} {k : Obj → Sem α} : evP hd run S K (Sem.load a p k) k₀ = match K.get a with
    | some o => evP hd run S K (k o) k₀
    | none => none := by first | rfl | with_unfolding_all rfl | (set_option smartUnfolding false in rfl) | kernel_rfl
theorem evP_call {α : Type} {hd : Option Value} {run : Code → Nat → Option (Result × Nat)} {S : Setting} {K : BT} {k₀ : Nat} {c gd l} {k : Result → Sem α} : evP hd run S K (Sem.call c none gd l k) k₀ = match run c k₀ with
    | some (r, T') => evP hd run S K (k r) T'
    | none => none := by first | rfl | with_unfolding_all rfl | (set_option smartUnfolding false in rfl) | kernel_rfl
theorem evP_sound {hd : Option Value} {M : Model} {K : BT} {run : Code → Nat → Option (Result × Nat)} (hrun : MeansP hd M K run) {Γ : Ctx} {A : Around} (hA : A.handled = hd) (hΓ : Γ.In A) {α : Type} (t : Sem α) :
    ∀ {p : Pos} {k k' : Nat} {s : Shared} {x : Except Value α}, Knows K s.heap → s.toks = k → evP hd run ⟨M.prog, M.w.params⟩ K t k = some (x, k') →
      Sem.wp M Γ t (fun a _ s' => x = .ok a ∧ s' = { s with toks := k' }) (fun e _ s' => x = .error e ∧ s' = { s with toks := k' }) p s := by
  induction t with
  | pure a => intro p k k' s x R ht e; have e : some _ = some _ := e; simp only [Option.some.injEq, Prod.mk.injEq] at e; obtain ⟨rfl, rfl⟩ := e; subst ht; exact ⟨rfl, rfl⟩
  | raise v => intro p k k' s x R ht e; have e : some _ = some _ := e; simp only [Option.some.injEq, Prod.mk.injEq] at e; obtain ⟨rfl, rfl⟩ := e; subst ht; exact ⟨rfl, rfl⟩
  | rule _ f ih => intro p k k' s x R ht e; exact ih () R ht e
  | «at» _ f ih => intro p k k' s x R ht e; exact ih () R ht e
  | point _ f ih => intro p k k' s x R ht e; exact ih () R ht e
  | ask f ih => intro p k k' s x R ht e; exact ih _ R ht e
  | thread f ih => intro p k k' s x R ht e; exact ih _ R ht e
  | handled own f ih =>
    intro p k k' s x R ht e
    cases own with
    | true => have e : none = some _ := e; cases e
    | false =>

      have q : Γ.handled = hd := hΓ.1.trans hA
      subst q
      exact ih _ R ht e
  | load a _ f ih =>
    intro p k k' s x R ht e
    rw [evP_load] at e
    split at e
    · rename_i o ho; exact ⟨o, R _ _ ho, ih o R ht e⟩
    · cases e
  | fresh f ih =>
    intro p k k' s x R ht e
    subst ht
    exact ih s.toks (p := p) (s := { s with toks := s.toks + 1 }) R rfl e
  | call c h gd l f ih =>
    intro p k k' s x R ht e
    cases h with
    | some _ => have e : none = some _ := e; cases e
    | none =>
      rw [evP_call] at e
      split at e
      · rename_i r k₁ hr
        refine wpCode_mono (fun r' s' ⟨q, q'⟩ => ?_) (hrun _ _ _ _ s R ht hr (A.mark none) (by show none.or A.handled = hd; exact hA) (Γ.enter c none p) p rfl (hΓ.enter c none p (by simp)))
        subst q q'
        exact ih _ (p := p) (s := { s with toks := k₁ }) R rfl e
      · cases e
  | _ => intro p k k' s x R ht e; have e : none = some _ := e; cases e
theorem evPC_sound {hd : Option Value} {M : Model} {K : BT} : ∀ n, MeansP hd M K (evPC hd M.den ⟨M.prog, M.w.params⟩ K n)
  | 0 => fun _ _ _ _ _ _ _ e => by cases e
  | n + 1 => fun c k r k' s R ht e A hA Γ p hc hΓ => by
    rw [wpCode_iff_wp, hc]
    have hIn := hΓ.in
    unfold evPC at e
    split at e
    · rename_i f k₁ h
      cases e
      refine Sem.wp_mono M Γ _ ?_ ?_ p s (evP_sound (A := A.under Γ.code) (evPC_sound n) hA hIn _ R ht h)
      · rintro a q' s' ⟨e, R'⟩; cases e; exact ⟨rfl, R'⟩
      · rintro a q' s' ⟨e, _⟩; cases e
    · rename_i c' k₁ h
      split at e
      · rename_i hq
        refine Sem.wp_mono M Γ _ ?_ ?_ p s (evP_sound (A := A.under Γ.code) (evPC_sound n) hA hIn _ R ht h)
        · rintro a q' s' ⟨e', R'⟩; cases e'; subst R'; exact ⟨hq, evPC_sound n _ _ _ _ { s with toks := k₁ } R rfl e A hA (Γ.goto c') _ rfl (hΓ.goto c')⟩
        · rintro a q' s' ⟨e, _⟩; cases e
      · cases e
    · rename_i v k₁ h
      cases e
      refine Sem.wp_mono M Γ _ ?_ ?_ p s (evP_sound (A := A.under Γ.code) (evPC_sound n) hA hIn _ R ht h)
      · rintro a q' s' ⟨e, _⟩; cases e
      · rintro a q' s' ⟨e, R'⟩; cases e; exact ⟨rfl, R'⟩
    · cases e
noncomputable abbrev evp (w : World) (K : BT) {α : Type} (t : Sem α) (k : Nat) := evP none (evPC none (denote treeTable) ⟨pw, w.params⟩ K 60) ⟨pw, w.params⟩ K t k
theorem evp_any {w : World} {s : Shared} {A : Around} {α : Type} {t : Sem α} {K : BT} {k' : Nat} {a : α} {Q : α → Shared → Prop} {E : Value → Shared → Prop}
    (R : Knows K s.heap) (hA : A.handled = none) (e : evp w K t s.toks = some (.ok a, k')) (h : Q a { s with toks := k' }) :
    wpAny (model pw w) A t Q E s := fun Γ p hΓ => by
  unfold evp at e
  rw [← table_eq_tree] at e
  refine Sem.wp_mono (model pw w) Γ t ?_ ?_ p s (evP_sound (evPC_sound (M := model pw w) 60) hA hΓ t R rfl e)
  · rintro b q s' ⟨e', rfl⟩; cases e'; exact h
  · rintro b q s' ⟨e', _⟩; cases e'
end Mine
end
section
open PySem PySem.W PySem.Calls PySem.NumText PyProof.Rows
namespace Mine
noncomputable def hex2 (n : Nat) : PySem.Str := ⟨#[hexd (n / 16), hexd (n % 16)]⟩
theorem tc2 (a b : Value) : checkTypeCall "int" ⟨[a, b], []⟩ = pure () := by kernel_rfl
theorem nc2 (a b : Value) : checkBuiltinCall "int.__new__" ⟨[.type "int", a, b], []⟩ = pure () := by kernel_rfl
theorem ao2 (o a b : Value) : argsOk "object.__init__" ⟨[o, a, b], []⟩ := by unfold argsOk; kernel_rfl
theorem wp_text16 {M : Model} {A : Around} {E : Value → Shared → Prop} {s : Shared} {Q : Value → Shared → Prop} {v : Value} {text : List Nat} {n : Int}
    (hs : (text.takeWhile (· != 0)).length ≤ 640) (hr : (int_private% "readNumeral") 0 16 (text.takeWhile (· != 0)) = (int_private% "Numeral.value") n)
    (ha : ((text.takeWhile (· != 0)).length == text.length) = true) (h : Q (.int n s.toks) { s with toks := s.toks + 1 }) :
    wpAny M A ((int_private% "intFromText") v text 16) Q E s := by
  obtain ⟨hp, g, d, tk, os⟩ := s
  repeat (any_goals (first
    | assumption
    | (with_reducible refine wpAny_ite_true (decide_eq_true hs) ?_)
    | (with_reducible refine wpAny_ite_true (decide_eq_true ha) ?_)
    | wp_step))
  all_goals (try rw [hr])
  all_goals (try dsimp only)
  repeat (any_goals (first
    | assumption
    | (with_reducible refine wpAny_ite_true (decide_eq_true hs) ?_)
    | (with_reducible refine wpAny_ite_true (decide_eq_true ha) ?_)
    | wp_step))
set_option maxHeartbeats 4000000 in
theorem gives16 {x : PySem.Str} {u v : Tok} {n : Int} (hs : (numSeenOf x).length ≤ 640) (hr : (int_private% "readNumeral") 0 16 (numSeenOf x) = (int_private% "Numeral.value") n) (ha : ((numSeenOf x).length == (numTextOf x).length) = true) :
    Gives (Builtin.«int.__new__» ⟨[.type "int", .str x u, .int 16 v], []⟩) (.int n) :=
  .of_wp fun M A E s Q h => by
    obtain ⟨hp, g, d, tk, os⟩ := s
    have f1 := F.conv_sub_int
    have f2 := F.madeHere_int
    have f6 : typeOf (.str x u) = pure (.type "str") := rfl
    have hk := KIN.Hid.mk (And.intro hs (And.intro hr ha))
    clear hs hr ha
    repeat (any_goals (first
      | assumption
      | ((with_reducible show wpAny _ _ ((int_private% "intFromText") _ _ _) _ _ _); refine wp_text16 hk.out.1 hk.out.2.1 hk.out.2.2 ?_)
      | wp_step))
    all_goals first | exact ⟨_, rfl, h⟩ | trace_state
theorem read16 : ∀ n < 256, ((numSeenOf (hex2 n)).length ≤ 640 ∧ ((numSeenOf (hex2 n)).length == (numTextOf (hex2 n)).length) = true) ∧ (int_private% "readNumeral") 0 16 (numSeenOf (hex2 n)) = (int_private% "Numeral.value") ((n : Nat) : Int) := by
  intro n hn
  refine ⟨⟨of_decide_eq_true (all256 (F := fun n => decide ((numSeenOf (hex2 n)).length ≤ 640)) (G := fun _ => true) ?_ n hn), all256 (F := fun n => ((numSeenOf (hex2 n)).length == (numTextOf (hex2 n)).length)) (G := fun _ => true) ?_ n hn⟩, all256 (F := fun n => (int_private% "readNumeral") 0 16 (numSeenOf (hex2 n))) (G := fun n => (int_private% "Numeral.value") ((n : Nat) : Int)) ?_ n hn⟩
  all_goals kernel_rfl
theorem call16 {w : World} {A : Around} {E : Value → Shared → Prop} {s : Shared} {Q : Value → Shared → Prop} {t u n : Nat} (hn : n < 256) (h : Q (.int ((n : Nat) : Int) s.toks) { s with toks := s.toks + 1 }) :
    wpAny (model pw w) A (call (.type "int") [.str (hex2 n) t, .int 16 u]) Q E s :=
  callType_new F.called_int F.newNe_int (tc2 _ _) (nc2 _ _) (fun obj => ao2 obj _ _) F.entry_int_new (gives16 (read16 n hn).1.1 (read16 n hn).2 (read16 n hn).1.2).meets (show (Made.int ((n : Nat) : Int)).post _ s from ⟨rfl, h⟩)
end Mine
end
section
namespace Mine
/-- the top's global names, the builtins -/
noncomputable def mgL (w : World) : PySem.Str → Option Value := (heapOf (TL w.params)).nsMap mainGlobals
noncomputable def mbL (w : World) : PySem.Str → Option Value := (heapOf (TL w.params)).nsMap builtinsNs
theorem up_mg (w : World) {h : Heap} (U : Up w h) : h.Ns mainGlobals (mgL w) := Heap.Ns.keeps (.of_isNs (k_isNs _)) U
theorem up_mb (w : World) {h : Heap} (U : Up w h) : h.Ns builtinsNs (mbL w) := Heap.Ns.keeps (.of_isNs (k_isB _)) U
theorem name_g {w : World} {A : Around} {E : Value → Shared → Prop} {s : Shared} {h₀ : Heap} {L a : Addr} {m : PySem.Str → Option Value} {name : PySem.Str} {scope : Scope} {cd : Value} {x : PySem.Str} {pos : Pos} {v : Value} {Q : Value → Shared → Prop}
    (F : Fr h₀ L s.heap m) (U : Up w h₀) (hk : scope.kind = .function) (hx : (envOf name scope L a cd).kindOf x = some .globalImplicit) (hv : mgL w x = some v) (hd : (x == ("__debug__" : PySem.Str)) = false) (h : Q v s) :
    wpAny (model pw w) A (eval (.Name x pos) (envOf name scope L a cd)) Q E s := by
  exact Calls.Name_function_global hk hx (Calls.loadGlobal_global (up_mg w fun b o e => F.keep _ _ (U _ _ e)) hv h) hd
theorem name_b {w : World} {A : Around} {E : Value → Shared → Prop} {s : Shared} {h₀ : Heap} {L a : Addr} {m : PySem.Str → Option Value} {name : PySem.Str} {scope : Scope} {cd : Value} {x : PySem.Str} {pos : Pos} {v : Value} {Q : Value → Shared → Prop}
    (F : Fr h₀ L s.heap m) (U : Up w h₀) (hk : scope.kind = .function) (hx : (envOf name scope L a cd).kindOf x = some .globalImplicit) (hm : mgL w x = none) (hv : mbL w x = some v) (hd : (x == ("__debug__" : PySem.Str)) = false) (h : Q v s) :
    wpAny (model pw w) A (eval (.Name x pos) (envOf name scope L a cd)) Q E s :=
  Calls.Name_function_global hk hx (Calls.loadGlobal_builtin (up_mg w fun b o e => F.keep _ _ (U _ _ e)) hm (up_mb w fun b o e => F.keep _ _ (U _ _ e)) hv h) hd
theorem g_chr (w : World) : mgL w (PySem.Str.ofString "chr") = none := by kernel_rfl
theorem b_chr (w : World) : mbL w (PySem.Str.ofString "chr") = some (.builtin "chr") := by kernel_rfl
theorem g_int (w : World) : mgL w (PySem.Str.ofString "int") = none := by kernel_rfl
theorem b_int (w : World) : mbL w (PySem.Str.ofString "int") = some (.type "int") := by kernel_rfl
set_option maxHeartbeats 2000000 in
theorem unquote_ok {w : World} {A : Around} {s : Shared} (U : Up w s.heap) (hd : A.depth < recursionLimit) (x : PySem.Str) (t : Nat) (n : Nat) (hx : x = hexS n) (hn : n < 256) :
    wpAny (model pw w) A (call (.ref 83) [.str x t]) (Back (.str ⟨#[n]⟩) s) (fun _ _ => False) s := by
  refine call_of 22 83 82 (S "unquote") (.str (S "cpy313.email.quoprimime") 1440) _ [(S "s", .str x t)] U hd (by kernel_rfl) ⟨o82I w.params, _, _, by kernel_rfl, rfl, rfl⟩ (by kernel_rfl) (by kernel_rfl) (by kernel_rfl) (by kernel_rfl) (by kernel_rfl) (by decide +kernel) fun h₁ F U₁ => ?_
  have hlen : x.length ≤ 1000 := by rw [hx]; simp [hexS, PySem.Str.length]
  have hsl : Txt.slice x (some 1) (some 3) = hex2 n := by rw [hx]; kernel_rfl
  repeat' (first | ((with_reducible show wpAny _ _ (eval (PySem.Expr.Name _ _) _) _ _ _); (first | ((with_reducible show wpAny _ _ (eval (PySem.Expr.Name (PySem.Str.ofString "chr") _) _) _ _ _); refine name_b (by assumption) (by assumption) (by kernel_rfl) (by kernel_rfl) (g_chr _) (b_chr _) (by decide +kernel) ?_) | ((with_reducible show wpAny _ _ (eval (PySem.Expr.Name (PySem.Str.ofString "int") _) _) _ _ _); refine name_b (by assumption) (by assumption) (by kernel_rfl) (by kernel_rfl) (g_int _) (b_int _) (by decide +kernel) ?_)); try dsimp only) | (walk1; try dsimp only) | ((with_reducible show wpAny _ _ (call (Value.type "int") _) _ _ _); rw [hsl]; refine call16 hn ?_; try dsimp only) | fail "no")
  all_goals (rename Fr _ _ _ _ => FX; exact ⟨rfl, FX.keep, rfl, rfl⟩)
theorem g_ord (w : World) : mgL w (PySem.Str.ofString "ord") = none := by kernel_rfl
theorem b_ord (w : World) : mbL w (PySem.Str.ofString "ord") = some (.builtin "ord") := by kernel_rfl
theorem g_qmap (w : World) : mgL w (PySem.Str.ofString "_QUOPRI_MAP") = some (.ref 63) := by kernel_rfl
/-- an item of one of the top's lists -/
theorem item_top {w : World} {A : Around} {E : Value → Shared → Prop} {s : Shared} {value slice : PySem.Expr} {l : Addr} {vs : List Value} {ep : Nat} {n : Nat} {u : Tok} {v : Value} {Q : Value → Shared → Prop}
    (U : Up w s.heap) (ho : (TL w.params).tree.get l = some (oLst vs ep)) (hn : n < 256) (hx : vs[n]? = some v) (h : Q v s)
    (hs : subscripted slice false (.ref l) (.int ((n : Nat) : Int) u) = operate [.ref l, .int ((n : Nat) : Int) u] (getItem (.ref l) (.int ((n : Nat) : Int) u))) :
    wpAny (model pw w) A (subscriptTail value slice (.ref l) (.int ((n : Nat) : Int) u)) Q E s := by
  have hl : s.heap.IsList l vs.toArray := ⟨_, up_get w U ho, rfl, ep, rfl⟩
  exact tail_any hl.typeIs slot_list_getitem.lookup (wpAny_getItem_list hl (Int.natCast_nonneg n) (fit256 hn) (by simpa using hx) h) hs
theorem items0_get (n : Nat) (hn : n < 256) : items0[n]? = some (.str (hexS n) (403 + 4 * n)) := by
  rw [← itemsA]; simp [hn]
theorem quote_ok {w : World} {A : Around} {s : Shared} (U : Up w s.heap) (hd : A.depth < recursionLimit) (t : Nat) (n : Nat) (hn : n < 256) :
    wpAny (model pw w) A (call (.ref 90) [.str ⟨#[n]⟩ t]) (Back (.str (hexS n)) s) (fun _ _ => False) s := by
  refine call_of 23 90 89 (S "quote") (.str (S "cpy313.email.quoprimime") 1440) _ [(S "c", .str ⟨#[n]⟩ t)] U hd (by kernel_rfl) ⟨o89I w.params, _, _, by kernel_rfl, rfl, rfl⟩ (by kernel_rfl) (by kernel_rfl) (by kernel_rfl) (by kernel_rfl) (by kernel_rfl) (by decide +kernel) fun h₁ F U₁ => ?_
  repeat' (first | ((with_reducible show wpAny _ _ (eval (PySem.Expr.Name _ _) _) _ _ _); (first | ((with_reducible show wpAny _ _ (eval (PySem.Expr.Name (PySem.Str.ofString "ord") _) _) _ _ _); refine name_b (by assumption) (by assumption) (by kernel_rfl) (by kernel_rfl) (g_ord _) (b_ord _) (by decide +kernel) ?_) | ((with_reducible show wpAny _ _ (eval (PySem.Expr.Name (PySem.Str.ofString "_QUOPRI_MAP") _) _) _ _ _); refine name_g (by assumption) (by assumption) (by kernel_rfl) (by kernel_rfl) (g_qmap _) (by decide +kernel) ?_) | ((with_reducible show wpAny _ _ (eval (PySem.Expr.Name (PySem.Str.ofString "chr") _) _) _ _ _); refine name_b (by assumption) (by assumption) (by kernel_rfl) (by kernel_rfl) (g_chr _) (b_chr _) (by decide +kernel) ?_) | ((with_reducible show wpAny _ _ (eval (PySem.Expr.Name (PySem.Str.ofString "int") _) _) _ _ _); refine name_b (by assumption) (by assumption) (by kernel_rfl) (by kernel_rfl) (g_int _) (b_int _) (by decide +kernel) ?_)); try dsimp only) | (walk1; try dsimp only) | fail "no")
  refine item_top (n := n) U₁ (vs := items0) (ep := 256) (by kernel_rfl) hn (items0_get n hn) ?_ (by with_unfolding_all rfl)
  exact ⟨rfl, F.keep, rfl, rfl⟩
end Mine
end
section
open PySem PySem.W PySem.Calls PySem.Builtin PyProof.Rows
namespace Mine
theorem forIn_steps {β : Type} (f : Nat → β → Sem (ForInStep β)) (g : Nat → β) (n : Nat) (hstep : ∀ k < n, ∀ x, f x (g k) = pure (.yield (g (k + 1)))) : ∀ m k a, k + m = n → forIn (List.range' a m 1) (g k) f = pure (g n)
  | 0, k, a, h => by
    obtain rfl : k = n := by lia
    rfl
  | m + 1, k, a, h => by
    rw [List.range'_succ, List.forIn_cons, hstep k (by lia)]
    exact forIn_steps f g n hstep m (k + 1) (a + 1) (by lia)
theorem lat (id : String) (b : Array UInt8) (h : b.size ≤ sizeLine) : _codecs.runDecoder id _codecs.latin1Decoder none true b 0 [] = pure (b.map (·.toNat), b.size) := by
  unfold _codecs.runDecoder
  dsimp only
  rw [KPc.range_list]
  have key := forIn_steps (β := Nat × Array Nat × _codecs.Faults) (fun x __s =>
          if __s.2.1.size > sizeLine then do
            let __r ← unsupported "str:memory"
            (fun (__r : PUnit) => if __s.1 ≥ b.size then pure (ForInStep.done (__s.1, __s.2.1, __s.2.2)) else pure (ForInStep.yield (__s.1 + 1, __s.2.1 ++ [(b.getD __s.1 0).toNat].toArray, __s.2.2))) __r
          else if __s.1 ≥ b.size then pure (ForInStep.done (__s.1, __s.2.1, __s.2.2)) else pure (ForInStep.yield (__s.1 + 1, __s.2.1 ++ [(b.getD __s.1 0).toNat].toArray, __s.2.2)))
    (fun k => (k, ((b.toList.take k).map (·.toNat)).toArray, {})) b.size (fun k hk x => by
      dsimp only
      rw [if_neg (by simp; lia), if_neg (by lia)]
      have e : b.toList.take (k + 1) = b.toList.take k ++ [b.getD k 0] := by
        rw [List.take_add_one]
        simp [hk]
      rw [e]
      simp) b.size 0 0 (by lia)
  have e0 : (((b.toList.take 0).map (·.toNat)).toArray : Array Nat) = #[] := by simp
  rw [e0] at key
  have e1 : (b.toList.take b.size).map (·.toNat) = b.toList.map (·.toNat) := by
    rw [List.take_of_length_le (by simp)]
  rw [e1] at key
  have goal : ∀ (F : Sem (Nat × Array Nat × _codecs.Faults)), F = pure (b.size, (b.toList.map (·.toNat)).toArray, {}) → (F >>= fun __s => pure (__s.2.1, __s.1)) = (pure (b.map (·.toNat), b.size) : Sem (Array Nat × Nat)) := by
    intro F hF
    rw [hF]
    show (Sem.pure ((b.toList.map (·.toNat)).toArray, b.size) : Sem (Array Nat × Nat)) = Sem.pure (b.map (·.toNat), b.size)
    rw [show (b.toList.map (·.toNat)).toArray = b.map (·.toNat) from Array.ext' (by simp)]
  refine goal _ (Eq.trans ?_ key)
  congr 1
theorem road1 {id : String} {b : Array UInt8} : _codecs.decodeRoad id b (PySem.Str.ofString "latin1") none [] = (_codecs.runDecoder id _codecs.latin1Decoder none true b 0 [] >>= fun r => mkStr ⟨r.1⟩) := by kernel_rfl
theorem entry1 {c : UInt8} {cs : List UInt8} {t u : Tok} : «bytes.decode» ⟨[.bytes (c :: cs).toArray t, .str (PySem.Str.ofString "latin1") u], []⟩ = (mkStr (PySem.Str.ofString "utf-8") >>= fun _ => mkStr (PySem.Str.ofString "latin1") >>= fun e => mkStr (PySem.Str.ofString "bytes.decode") >>= fun d =>
    call (.builtin "_codecs.decode.text") [.bytes (c :: cs).toArray t, e, .none, d] >>= fun v => ret v) := by kernel_rfl
theorem meets_text1 {b : Array UInt8} {t t1 t2 : Tok} {d : PySem.Str} (hb : b.size ≤ sizeLine) :
    Meets («_codecs.decode.text» ⟨[.bytes b t, .str (PySem.Str.ofString "latin1") t1, .none, .str d t2], []⟩) (fun _ R s => R (.ok (.ret (.str ⟨b.map (·.toNat)⟩ s.toks))) { s with toks := s.toks + 1 }) := by
  refine .of_wp fun prog w A R s h => ?_
  show wpAny _ _ (Bytes.bytesLike _ (.bytes b t) >>= fun r => _) _ _ s
  refine wpAny_bind (wpAny_of_eq KBd.like_eq ?_)
  refine wpAny_bind (wpAny_of_eq KBd.held_eq ?_)
  show wpAny _ _ (_codecs.decodeRoad _ b (PySem.Str.ofString "latin1") none [] >>= fun v => _) _ _ s
  rw [road1, lat _ _ hb]
  refine wpAny_bind (wpAny_bind (wpAny_pure ?_))
  exact wpAny_mkStr (wpAny_pure ⟨_, rfl, h⟩) (by simpa [PySem.Str.length] using hb)
theorem meets_decode1 {c : UInt8} {cs : List UInt8} {t u : Tok} (hb : (c :: cs).toArray.size ≤ sizeLine) :
    Meets («bytes.decode» ⟨[.bytes (c :: cs).toArray t, .str (PySem.Str.ofString "latin1") u], []⟩) (fun _ R s => ∀ t' k, R (.ok (.ret (.str ⟨(c :: cs).toArray.map (·.toNat)⟩ t'))) { s with toks := k }) := by
  refine .of_wp fun prog w A R s h => ?_
  rw [entry1]
  refine wpAny_bind (wpAny_mkStr ?_ (by decide))
  refine wpAny_bind (wpAny_mkStr ?_ (by decide))
  refine wpAny_bind (wpAny_mkStr ?_ (by decide))
  exact wpAny_bind (call_function_meets KBd.kind_text KBd.plain_text KBd.entry_text (KBd.args_text _ _ _ _) (meets_text1 hb) (wpAny_pure ⟨_, rfl, h _ _⟩))
theorem args2 (a b : Value) : argsOk "bytes.decode" ⟨[a, b], []⟩ := by unfold argsOk; kernel_rfl
theorem latin {w : World} {A : Around} {E : Value → Shared → Prop} {s : Shared} {b : Array UInt8} {t u : Tok} {Q : Value → Shared → Prop} (h0 : b.size ≠ 0) (hb : b.size ≤ sizeLine) (h : ∀ t' k, Q (.str ⟨b.map (·.toNat)⟩ t') { s with toks := k }) :
    wpAny (model pw w) A (call (.builtin "bytes.decode") [.bytes b t, .str (PySem.Str.ofString "latin1") u]) Q E s := by
  obtain ⟨l⟩ := b
  cases l with
  | nil => exact absurd rfl h0
  | cons c cs => exact call_meets FB.slot_bytes_decode (typeIs_bytes _ _ _) FB.entry_bytes_decode (args2 _ _) (meets_decode1 hb) h
end Mine
end
section
open PySem PySem.W PySem.Calls PySem.Builtin PyProof.Rows
namespace Mine
theorem tlook {w : World} {A : Around} {E : Value → Shared → Prop} {s : Shared} {l : Addr} {vs : List Value} {c : Nat} {x : PySem.Str} {t : Tok} {Q : Str.Mapped → Shared → Prop}
    (hl : s.heap.IsList l vs.toArray) (hc : c < 256) (hx : vs[c]? = some (.str x t)) (h : Q (.text x) { s with toks := s.toks + 1 }) :
    wpAny (model pw w) A (Str.tableLookup (.ref l) c) Q E s := by
  unfold Str.tableLookup
  refine wpAny_bind (wpAny_attempt (wpAny_bind (wpAny_mkInt ?_)))
  refine wpAny_getItem_list (s := { s with toks := s.toks + 1 }) hl (Int.natCast_nonneg c) (fit256 hc) (by simpa using hx) ?_
  show wpAny _ _ (asInt? (.str x t) >>= _) _ _ _
  refine wpAny_bind (wpAny_of_eq (a := none) rfl ?_)
  show wpAny _ _ (asStr? (.str x t) >>= _) _ _ _
  refine wpAny_bind (wpAny_of_eq (a := some x) rfl ?_)
  exact wpAny_pure h
theorem plen (ps : List PySem.Str) : (ps.reverse.flatMap fun p => p.cps.toList).length = (ps.map PySem.Str.length).sum := by
  induction ps with
  | nil => rfl
  | cons p r ih =>
    rw [List.reverse_cons, List.flatMap_append, List.length_append, ih]
    simp [PySem.Str.length, Nat.add_comm]
theorem pfold' (acc : Array Nat) : ∀ ps : List PySem.Str, ps.foldl (fun acc p => acc ++ p.cps) acc = acc ++ (ps.flatMap fun p => p.cps.toList).toArray
  | [] => by simp
  | p :: r => by
    rw [List.foldl_cons, pfold' _ r, List.flatMap_cons]
    apply Array.ext'
    simp
theorem pfold (ps : List PySem.Str) : ps.foldl (fun acc p => acc ++ p.cps) #[] = (ps.flatMap fun p => p.cps.toList).toArray := by
  rw [pfold']; simp
theorem one_of : ∀ (x : PySem.Str), x.length = 1 → ∃ d, x = ⟨#[d]⟩
  | ⟨⟨[]⟩⟩, h => by cases h
  | ⟨⟨[d]⟩⟩, _ => ⟨d, rfl⟩
  | ⟨⟨_ :: _ :: _⟩⟩, h => by cases h
structure TrnI (f : Nat → PySem.Str) (whole : List Nat) (s : Shared) (rest : List Nat) (b : List PySem.Str × Nat × Bool × List (Nat × Option Nat) × Bool) (s' : Shared) : Prop where
  st : ∃ k, s' = { s with toks := k }
  ad : b.2.2.2.2 = false
  known : ∀ c a, b.2.2.2.1.lookup c = some a → ∃ d, a = some d ∧ f c = ⟨#[d]⟩
  total : b.2.1 = (b.1.map PySem.Str.length).sum
  whole : (b.1.reverse.flatMap fun p => p.cps.toList) ++ (rest.flatMap fun c => (f c).cps.toList) = whole
  small : ∀ c ∈ rest, c < 256
theorem trn {w : World} {A : Around} {E : Value → Shared → Prop} {s : Shared} {l : Addr} {vs : List Value} {x : PySem.Str} {t : Tok} {f : Nat → PySem.Str} {Q : Fin → Shared → Prop}
    (hl : s.heap.IsList l vs.toArray) (hx : ∀ c ∈ x.cps, c < 256) (hv : ∀ c < 256, ∃ t, vs[c]? = some (.str (f c) t)) (h0 : x.length ≠ 0)
    (hsz : (x.cps.toList.flatMap fun c => (f c).cps.toList).length ≤ sizeLine)
    (h : ∀ t' k, Q (.done (.ret (.str ⟨(x.cps.toList.flatMap fun c => (f c).cps.toList).toArray⟩ t'))) { s with toks := k }) :
    wpAny (model pw w) A («str.translate» ⟨[.str x t, .ref l], []⟩) Q E s := by
  unfold «str.translate»
  refine wpAny_bind (wpAny_of_eq (a := (.str x t, x, .ref l)) (by kernel_rfl) ?_)
  dsimp only
  rw [if_neg (by simpa using h0)]
  refine wpAny_bind (forIn_array_ _ (fun rest (b : List PySem.Str × Nat × Bool × List (Nat × Option Nat) × Bool) s' => TrnI f (x.cps.toList.flatMap fun c => (f c).cps.toList) s rest b s') _ ?_ ?_ x.cps _ ?_)
  · rintro c rest ⟨pieces, total, fast, known, ad⟩ s' I
    obtain ⟨⟨k, rfl⟩, rfl, hk, ht, hw, hc⟩ := I
    dsimp only at hk ht hw ⊢
    have htot : Str.tooLong total = false := by
      have : total ≤ sizeLine := by
        refine Nat.le_trans ?_ hsz
        rw [← hw, ht, List.length_append, plen]
        exact Nat.le_add_right _ _
      simp [Str.tooLong]; lia
    have hc0 := hc c (.head _)
    obtain ⟨tv, hv0⟩ := hv c hc0
    have hl' : ∀ k', ({ s with toks := k' } : Shared).heap.IsList l vs.toArray := fun _ => hl
    have next : ∀ (p : PySem.Str) (fast' : Bool) (known' : List (Nat × Option Nat)) (k' : Nat), p = f c → (∀ c a, known'.lookup c = some a → ∃ d, a = some d ∧ f c = ⟨#[d]⟩) →
        TrnI f (x.cps.toList.flatMap fun c => (f c).cps.toList) s rest (p :: pieces, total + p.length, fast', known', false) { s with toks := k' } := by
      intro p fast' known' k' hp hkn
      subst hp
      refine ⟨⟨k', rfl⟩, rfl, hkn, ?_, ?_, fun c hc' => hc c (.tail _ hc')⟩
      · dsimp only; simp [ht, Nat.add_comm]
      · dsimp only; rw [← hw]; simp
    rw [if_neg (by rw [htot]; exact Bool.false_ne_true)]
    cases fast with
    | false =>
      rw [if_neg Bool.false_ne_true, if_neg Bool.false_ne_true]
      refine wpAny_bind (tlook (hl' k) hc0 hv0 ?_)
      exact wpAny_pure (next (f c) false known _ rfl hk)
    | true =>
      rw [if_pos rfl]
      cases hkc : known.lookup c with
      | some a =>
        obtain ⟨d, rfl, hd⟩ := hk c a hkc
        refine wpAny_bind (wpAny_pure ?_)
        exact wpAny_pure (next ⟨#[d]⟩ true known _ hd.symm hk)
      | none =>
        refine wpAny_bind (tlook (hl' k) hc0 hv0 ?_)
        dsimp only
        by_cases hone : ((f c).length == 1 && (f c).cps.all fun x => decide (x < 128)) = true
        · have hd : ∃ d, f c = ⟨#[d]⟩ := by
            have h1 : (f c).length = 1 := by
              have := (Bool.and_eq_true_iff.mp hone).1
              simpa using this
            exact one_of _ h1
          obtain ⟨d, hd⟩ := hd
          rw [if_pos hone]
          have e : (f c).cps[0]? = some d := by rw [hd]; rfl
          rw [e]
          dsimp only
          refine wpAny_bind (wpAny_pure ?_)
          refine wpAny_pure (next ⟨#[d]⟩ true ((c, some d) :: known) _ hd.symm ?_)
          intro c' a e'
          rw [List.lookup_cons] at e'
          split at e'
          · rename_i q
            cases e'
            rw [beq_iff_eq.mp q]
            exact ⟨d, rfl, hd⟩
          · exact hk c' a e'
        · rw [if_neg hone]
          dsimp only
          refine wpAny_bind (wpAny_pure ?_)
          dsimp only
          refine wpAny_bind (wpAny_rule ?_)
          rw [if_neg Bool.false_ne_true]
          refine wpAny_bind (tlook (hl' _) hc0 hv0 ?_)
          exact wpAny_pure (next (f c) false known _ rfl hk)
  · rintro ⟨pieces, total, fast, known, ad⟩ s' I
    obtain ⟨⟨k, rfl⟩, rfl, hk, ht, hw, hc⟩ := I
    dsimp only at hk ht hw ⊢
    have hw' : (pieces.reverse.flatMap fun p => p.cps.toList) = x.cps.toList.flatMap fun c => (f c).cps.toList := by simpa using hw
    have htot : Str.tooLong total = false := by
      have : total ≤ sizeLine := by
        refine Nat.le_trans ?_ hsz
        rw [← hw', ht, plen]
        exact Nat.le_refl _
      simp [Str.tooLong]; lia
    rw [if_neg (by rw [htot]; exact Bool.false_ne_true), pfold, hw']
    refine wpAny_bind (wpAny_mkStr ?_ (by simpa [PySem.Str.length] using hsz))
    exact wpAny_pure (h _ _)
  · exact ⟨⟨s.toks, rfl⟩, rfl, fun c a e => (by cases e), rfl, by simp, fun c hc => hx c (by simpa using hc)⟩
end Mine
end
section
namespace Mine
open PySem.Builtin.Re
theorem runFor_stay (m : Sre.M) (h : m.outcome.isSome = true) : ∀ k, m.runFor k = m
  | 0 => rfl
  | k + 1 => by rw [Sre.M.runFor, if_pos h]
theorem runFor_add (a b : Nat) : ∀ m : Sre.M, m.runFor (a + b) = (m.runFor a).runFor b := by
  induction a with
  | zero => intro m; rw [Nat.zero_add]; rfl
  | succ a ih =>
    intro m
    rw [show a + 1 + b = (a + b) + 1 from by lia]
    by_cases h : m.outcome.isSome = true
    · rw [runFor_stay m h, runFor_stay m h, runFor_stay m h]
    · rw [Sre.M.runFor, if_neg h, ih, Sre.M.runFor, if_neg h]
theorem runFor_past (m : Sre.M) {a b : Nat} (h : (m.runFor a).outcome.isSome = true) (hab : a ≤ b) : m.runFor b = m.runFor a := by
  rw [show b = a + (b - a) from by lia, runFor_add, runFor_stay _ h]
section
variable {M : Model} {A : Around} {E : Value → Shared → Prop} {s : Shared}
theorem drive (n : Nat) : ∀ (turns : Nat) (m : Sre.M), n ≤ 4 * turns → 0 < turns → (m.runFor n).outcome.isSome = true → ∀ Q : Sre.M → Shared → Prop, Q (m.runFor n) s → wpAny M A (reDrive turns m) Q E s := by
  intro turns
  induction turns generalizing n with
  | zero => intro m _ h; lia
  | succ t ih =>
    intro m h1 h2 h3 Q hQ
    unfold reDrive
    show wpAny M A (if (m.runFor 4).outcome.isSome = true then pure (m.runFor 4) else do rule "sre.turn"; reDrive t (m.runFor 4)) Q E s
    by_cases h : (m.runFor 4).outcome.isSome = true
    · rw [if_pos h]
      have : m.runFor 4 = m.runFor n := by
        rcases Nat.le_total 4 n with q | q
        · exact (runFor_past m h q).symm
        · exact runFor_past m h3 q
      rw [this]; exact wpAny_pure hQ
    · rw [if_neg h]
      have h4 : 4 ≤ n := by
        rcases Nat.le_total 4 n with q | q
        · exact q
        · exact absurd (by rw [runFor_past m h3 q]; exact h3) h
      refine wpAny_bind (wpAny_rule ?_)
      have e : m.runFor n = (m.runFor 4).runFor (n - 4) := by rw [← runFor_add]; congr 1; lia
      refine ih (n - 4) (m.runFor 4) (by lia) ?_ (by rw [← e]; exact h3) Q (by rw [← e]; exact hQ)
      rcases Nat.eq_zero_or_pos t with q | q
      · exfalso
        have : n = 4 := by lia
        rw [this] at h3
        exact h h3
      · exact q
theorem toEnd {b : Nat} {m : Sre.M} {P : Sre.M → Prop} (g : Got b m P) (hb : b ≤ 1000000) {Q : Option Sre.M → Shared → Prop}
    (h : ∀ r, P r → (r.outcome.any (· matches .matched) = true → Q (some r) s) ∧ (r.outcome.any (· matches .failed) = true → Q none s) ∧ (r.outcome.any (· matches .matched) = true ∨ r.outcome.any (· matches .failed) = true)) :
    wpAny M A (reRunToEnd m) Q E s := by
  obtain ⟨n, h0, h1, h2⟩ := g
  unfold reRunToEnd
  refine wpAny_bind (drive n _ m (Nat.le_trans (Nat.le_trans h0 hb) (by decide)) (by decide) h1 _ ?_)
  refine wpAny_bind (wpAny_forIn_list _ (fun _ _ s' => s' = s) _ ?_ (fun _ _ e => ?_) _ _ rfl)
  · rintro x rest b s' rfl
    split
    · exact wpAny_bind (wpAny_rule (wpAny_pure rfl))
    · exact wpAny_pure rfl
  · subst e
    obtain ⟨a1, a2, a3⟩ := h _ h2
    generalize m.runFor n = r at a1 a2 a3 ⊢
    rcases hh : r.outcome with _ | o
    · rw [hh] at a3; simp at a3
    · rw [hh] at a1 a2 a3
      cases o with
      | matched => exact wpAny_pure (a1 rfl)
      | failed => exact wpAny_pure (a2 rfl)
      | stuck w => simp at a3
theorem toEnd_at {b x e : Nat} {m : Sre.M} (g : Got b m (At x e)) (hb : b ≤ 1000000) {Q : Option Sre.M → Shared → Prop}
    (h : ∀ r : Sre.M, r.start = x → r.handed = e → r.lastindex = -1 → Q (some r) s) : wpAny M A (reRunToEnd m) Q E s :=
  toEnd g hb fun r hr => ⟨fun _ => h r hr.2.1 hr.2.2.1 hr.2.2.2, fun q => by
    have := hr.1
    cases hh : r.outcome with
    | none => rw [hh] at q; simp at q
    | some o => rw [hh] at q this; cases o <;> simp at q this, .inl hr.1⟩
theorem toEnd_off {b : Nat} {m : Sre.M} (g : Got b m Off) (hb : b ≤ 1000000) {Q : Option Sre.M → Shared → Prop}
    (h : Q none s) : wpAny M A (reRunToEnd m) Q E s :=
  toEnd g hb fun r hr => ⟨fun q => by
    have := hr
    unfold Off at this
    cases hh : r.outcome with
    | none => rw [hh] at q; simp at q
    | some o => rw [hh] at q this; cases o <;> simp at q this, fun _ => h, .inr hr⟩
end
end Mine
end
section
namespace Mine
/-- a call of one of the text's defs, defaults or not -/
theorem call_of2 {w : World} {A : Around} {s : Shared} {d : D} (i f c : Nat) (name : PySem.Str) (dfl pm : Value) (vs : List Value) (binds : List (PySem.Str × Value)) (U : Up w s.heap) (hd : A.depth < recursionLimit)
    (ho : (TL w.params).tree.get f = some ⟨.type "function", none, .func (fn i name name 3 [] dfl .none .none pm none (.ref c) .none 0), #[]⟩)
    (hc : ∃ o vs t, (TL w.params).tree.get c = some o ∧ o.data = .fields vs ∧ vs[1]? = some (.str name t))
    (hb : BindsTo s (fn i name name 3 [] dfl .none .none pm none (.ref c) .none 0) ⟨vs, []⟩ binds)
    (hl : (binds.all fun x => decide ((fScope (stm i)).names.lookup x.1 = some .local)) = true)
    (hco : (fScope (stm i)).isCoroutine = false) (hgen : (fScope (stm i)).isGenerator = false) (hk : (fScope (stm i)).kind = .function) (hcell : ∀ x ∈ (fScope (stm i)).names, x.2 ≠ .cell)
    (h : ∀ h₁, Fr s.heap s.heap.objs.size h₁ (fun x => binds.reverse.lookup x) → Up w h₁ →
      wpAny (model pw w) (A.deeper (envOf name (fScope (stm i)) s.heap.objs.size f (.ref c))) (execs (fBody (stm i)) (envOf name (fScope (stm i)) s.heap.objs.size f (.ref c)))
        (fun fl s' => Back d s (match fl with | .ret v => v | _ => .none) s') (fun _ _ => False)
        { s with heap := h₁, toks := s.toks + binds.length }) :
    wpAny (model pw w) A (call (.ref f) vs) (Back d s) (fun _ _ => False) s := by
  obtain ⟨oc, cvs, ct, h1, h2, h3⟩ := hc
  refine wpAny_call (codeAny_call_def (fd := fn i name name 3 [] dfl .none .none pm none (.ref c) .none 0) (body := fBody (stm i)) hd (up_get w U ho) rfl (up_nolimit w U) ⟨c, oc, cvs, ct, rfl, up_get w U h1, h2, h3⟩ rfl hb hcell (locs hl) (fun h₁ hns hkp => ?_) hco hgen hk)
  refine wpAny_mono (h h₁ ⟨hns, hkp, Nat.le_refl _⟩ fun b o e => hkp _ _ (U _ _ e)) (fun _ _ x => x) fun _ _ x => x.elim
theorem call_trn {w : World} {A : Around} {E : Value → Shared → Prop} {s : Shared} {l : Addr} {vs : List Value} {x : PySem.Str} {t : Tok} (f : Nat → PySem.Str) {Q : Value → Shared → Prop}
    (hl : s.heap.IsList l vs.toArray) (hx : ∀ c ∈ x.cps, c < 256) (hv : ∀ c < 256, ∃ t, vs[c]? = some (.str (f c) t)) (h0 : x.length ≠ 0)
    (hsz : (x.cps.toList.flatMap fun c => (f c).cps.toList).length ≤ sizeLine)
    (h : ∀ t' k, Q (.str ⟨(x.cps.toList.flatMap fun c => (f c).cps.toList).toArray⟩ t') { s with toks := k }) :
    wpAny (model pw w) A (call (.builtin "str.translate") [.str x t, .ref l]) Q E s := by
  refine wpAny_call_entry F.slot_str_translate (typeIs_str _ _ _) F.entry_str_translate ?_ (F.args_str_translate_2 _ _)
  exact trn hl hx hv h0 hsz fun t' k => ⟨_, rfl, h t' k⟩
theorem noRefS {s : Shared} {x : PySem.Str} {t : Tok} : ∀ a, Value.str x t = .ref a → ∃ o, s.heap.get? a = some o ∧ o.dict = none := fun _ e => nomatch e
theorem m_trn {M : Model} {A : Around} {E : Value → Shared → Prop} {s : Shared} {x : PySem.Str} {t : Tok} {pl : Sem Bool} {Q : Value × List Value → Shared → Prop} (h : Q (.builtin "str.translate", [.str x t]) s) : wpAny M A (getMethod (.str x t) (PySem.Str.ofString "translate") pl) Q E s := by
  with_reducible exact getMethod_builtin (typeIs_str _ _ _) F.plainAttrs_str F.slot_str_translate F.type_str_translate noRefS h
theorem g_hmap (w : World) : mgL w (PySem.Str.ofString "_QUOPRI_HEADER_MAP") = some (.ref 68) := by kernel_rfl
theorem binds_peek {w : World} {s : Shared} (U : Up w s.heap) {fd : FuncData} {vs : List Value} {binds : List (PySem.Str × Value)} (T : Addr) (o : Obj) (ho : (TL w.params).tree.get T = some o)
    (e : ∀ S : Setting, peek [(T, o)] S (bindArgs fd ⟨vs, []⟩) = some binds) : BindsTo s fd ⟨vs, []⟩ binds := fun M A E Q hq => by
  refine Looks.here (Looks.of_peek (K := [(T, o)]) ?_ (e _)) hq
  intro a x h
  simp only [List.lookup] at h
  split at h
  · rename_i q
    cases h
    rw [beq_iff_eq.mp q]
    exact up_get w U ho
  · cases h
theorem bind_henc {w : World} {s : Shared} (U : Up w s.heap) (b : Array UInt8) (t : Nat) (x : PySem.Str) (u : Nat) : BindsTo s (fn 24 (S "header_encode") (S "header_encode") 3 [] (.ref 91) .none .none (.str (S "cpy313.email.quoprimime") 1440) none (.ref 97) .none 0) ⟨[.bytes b t, .str x u], []⟩ [(S "header_bytes", .bytes b t), (S "charset", .str x u)] :=
  binds_peek U 91 (o91I w.params) (by kernel_rfl) fun S => by kernel_rfl
noncomputable def hdrSafe (c : Nat) : Bool := c == 45 || c == 33 || c == 42 || c == 43 || c == 47 || (decide (97 ≤ c) && decide (c ≤ 122)) || (decide (65 ≤ c) && decide (c ≤ 90)) || (decide (48 ≤ c) && decide (c ≤ 57))
noncomputable def hdrS (c : Nat) : PySem.Str := if hdrSafe c then ⟨#[c]⟩ else if c = 32 then ⟨#[95]⟩ else hexS c
theorem items2_all : ((List.range 256).all fun c => match items2[c]? with | some (.str x _) => decide (x = hdrS c) | _ => false) = true := by decide +kernel
theorem items2_get (c : Nat) (hc : c < 256) : ∃ t, items2[c]? = some (.str (hdrS c) t) := by
  have := List.all_eq_true.mp items2_all c (List.mem_range.mpr hc)
  split at this
  · rename_i x t e
    exact ⟨t, by rw [e, of_decide_eq_true this]⟩
  · cases this
noncomputable def wordOf (b : Array UInt8) : PySem.Str := ⟨([61, 63, 120, 63, 113, 63] ++ (b.toList.flatMap fun (c : UInt8) => (hdrS c.toNat).cps.toList) ++ [63, 61]).toArray⟩
theorem hdrS_len (c : Nat) : (hdrS c).cps.toList.length ≤ 3 := by
  unfold hdrS hexS; split
  · simp
  · split <;> simp
theorem flat_len (f : Nat → PySem.Str) (hf : ∀ c, (f c).cps.toList.length ≤ 3) : ∀ l : List Nat, (l.flatMap fun c => (f c).cps.toList).length ≤ 3 * l.length
  | [] => by simp
  | c :: l => by
    rw [List.flatMap_cons, List.length_append]
    have := flat_len f hf l
    have := hf c
    simp only [List.length_cons]
    lia
theorem word_eq (b : Array UInt8) : PySem.Str.empty ++ PySem.Str.ofString "=?" ++ S "x" ++ PySem.Str.ofString "?q?" ++ ⟨((b.map (·.toNat)).toList.flatMap fun c => (hdrS c).cps.toList).toArray⟩ ++ PySem.Str.ofString "?=" = wordOf b := by
  have e1 : PySem.Str.ofString "=?" = ⟨#[61, 63]⟩ := by decide +kernel
  have e2 : PySem.Str.ofString "?q?" = ⟨#[63, 113, 63]⟩ := by decide +kernel
  have e3 : PySem.Str.ofString "?=" = ⟨#[63, 61]⟩ := by decide +kernel
  have e4 : S "x" = ⟨#[120]⟩ := by decide +kernel
  rw [e1, e2, e3, e4]
  apply PySem.Str.ext'
  simp only [PySem.Str.cps_append, PySem.Str.empty, wordOf]
  apply Array.ext'
  simp [List.flatMap_map]
set_option maxHeartbeats 4000000 in
theorem henc_ok {w : World} {A : Around} {s : Shared} (U : Up w s.heap) (hd : A.depth < recursionLimit) (b : Array UInt8) (t u : Nat) (hb : b.size ≤ 1000) (hb0 : b.size ≠ 0) :
    wpAny (model pw w) A (call (.ref 98) [.bytes b t, .str (S "x") u]) (Back (.str (wordOf b)) s) (fun _ _ => False) s := by
  refine call_of2 24 98 97 (S "header_encode") (.ref 91) (.str (S "cpy313.email.quoprimime") 1440) _ _ U hd (by kernel_rfl) ⟨o97I w.params, _, _, by kernel_rfl, rfl, rfl⟩ (bind_henc U b t _ u) (by kernel_rfl) (by kernel_rfl) (by kernel_rfl) (by kernel_rfl) (by decide +kernel) fun h₁ F U₁ => ?_
  have N : News s.heap s.heap.objs.size h₁ [] := News.nil
  have hs1 : b.size ≤ sizeLine := by rw [sizeLine_eq]; lia
  have hl : h₁.IsList 68 items2.toArray := ⟨_, up_get w U₁ (i := 68) (o := o68G w.params) (by kernel_rfl), rfl, _, rfl⟩
  have hlen : (((b.map (·.toNat)).toList.flatMap fun c => (hdrS c).cps.toList)).length ≤ 3000 := by
    have := flat_len hdrS hdrS_len (b.map (·.toNat)).toList
    simp only [Array.length_toList, Array.size_map] at this
    (clear hs1 hb0 hd; lia)
  have hA : ∀ c ∈ (PySem.Str.mk (b.map (·.toNat))).cps, c < 256 := by
    intro c hc
    simp only [Array.mem_map] at hc
    obtain ⟨a, _, rfl⟩ := hc
    exact a.toNat_lt
  have hB : (PySem.Str.mk (b.map (·.toNat))).length ≠ 0 := by simpa [PySem.Str.length] using hb0
  have hC : ((PySem.Str.mk (b.map (·.toNat))).cps.toList.flatMap fun c => (hdrS c).cps.toList).length ≤ sizeLine := by rw [sizeLine_eq]; exact Nat.le_trans hlen (by decide)
  repeat' (first
    | ((with_reducible show wpAny _ _ (eval (PySem.Expr.Name _ _) _) _ _ _); (first | ((with_reducible show wpAny _ _ (eval (PySem.Expr.Name (PySem.Str.ofString "_QUOPRI_HEADER_MAP") _) _) _ _ _); refine name_g (by assumption) (by assumption) (by kernel_rfl) (by kernel_rfl) (g_hmap _) (by decide +kernel) ?_)); try dsimp only)
    | (((with_reducible show wpAny _ _ (getMethod (Value.bytes _ _) _ _) _ _ _); with_reducible refine KBd.method ?_); try dsimp only)
    | (((with_reducible show wpAny _ _ (getMethod (Value.str _ _) _ _) _ _ _); with_reducible refine m_trn ?_); try dsimp only)
    | (walk1; try dsimp only)
    | ((with_reducible show wpAny _ _ (call (Value.builtin "bytes.decode") _) _ _ _); refine latin hb0 hs1 ?_; intro _ _; try dsimp only)
    | ((with_reducible show wpAny _ _ (call (Value.builtin "str.translate") _) _ _ _); refine call_trn hdrS (vs := items2) hl hA items2_get hB hC ?_; intro _ _; try dsimp only)
    | ((with_reducible show wpAny _ _ (joinParts _ (evalEach [] _)) _ _ _); refine joinParts_nilE (joinParts_nil ?_ ?_))
    | ((with_reducible show _ ≤ sizeLine); rw [sizeLine_eq]; simp only [PySem.Str.length_append]; simp only [PySem.Str.length, List.size_toArray]; have e1 : (PySem.Str.ofString "=?").cps.size = 2 := (by decide +kernel); have e2 : (PySem.Str.ofString "?q?").cps.size = 3 := (by decide +kernel); have e3 : (PySem.Str.ofString "?=").cps.size = 2 := (by decide +kernel); have e4 : (S "x").cps.size = 1 := (by decide +kernel); have e5 : PySem.Str.empty.cps.size = 0 := rfl; (clear hC hB hs1 hb0 hb hd; lia))
    | fail "no")
  all_goals first
    | (exfalso; (clear hC hlen hs1 hb hd; lia))
    | (rename Fr _ _ _ _ => FX; exact ⟨word_eq b, FX.keep, rfl, rfl⟩)
end Mine
end
section
namespace Mine
open PySem.Builtin.Re
theorem whole1_ev (w : World) (b : Array UInt8) (t k : Nat) : evp w (TL w.params).tree (reWholeTarget (.ref 36) (.bytes b t)) k = some (.ok { pattern := .ref 36, string := .bytes b t, code := code1, text := b.map (·.toNat), kind := 1, groups := 0, pos := 0, lim := (b.map (·.toNat)).size }, k) := by
  kernel_rfl
theorem whole2_ev (w : World) (b : PySem.Str) (t k : Nat) : evp w (TL w.params).tree (reWholeTarget (.ref 41) (.str b t)) k = some (.ok { pattern := .ref 41, string := .str b t, code := code2, text := b.cps, kind := 0, groups := 0, pos := 0, lim := b.cps.size }, k) := by
  kernel_rfl
theorem whole3_ev (w : World) (b : PySem.Str) (t k : Nat) : evp w (TL w.params).tree (reWholeTarget (.ref 60) (.str b t)) k = some (.ok { pattern := .ref 60, string := .str b t, code := code3, text := b.cps, kind := 0, groups := 0, pos := 0, lim := b.cps.size }, k) := by
  kernel_rfl
end Mine
end
section
namespace Mine
open PySem.Builtin.Re PySem.Builtin
theorem knows (w : World) {h : Heap} (U : Up w h) : Knows (TL w.params).tree h := fun i o e => up_get w U e
theorem lit_ev (w : World) (b : Array UInt8) (t k : Nat) : evp w .nil (reLiteralCannotBeTurned (.bytes b t)) k = some (.ok (), k) := by kernel_rfl
theorem lit_evS (w : World) (b : PySem.Str) (t k : Nat) : evp w .nil (reLiteralCannotBeTurned (.str b t)) k = some (.ok (), k) := by kernel_rfl
theorem knows_nil {h : Heap} : Knows .nil h := fun i o e => nomatch e
/-- a text (kind 0) or bytes (kind 1) of these numbers -/
noncomputable def Val (kind : Nat) (v : Value) (x : List Nat) : Prop := if kind = 0 then ∃ t, v = .str ⟨x.toArray⟩ t else ∃ t, v = .bytes (x.map Nat.toUInt8).toArray t
inductive ValsAre (kind : Nat) : List Value → List (List Nat) → Prop
  | nil : ValsAre kind [] []
  | cons {v y vs ys} : Val kind v y → ValsAre kind vs ys → ValsAre kind (v :: vs) (y :: ys)
theorem ValsAre.snoc {kind : Nat} {vs ys} (h : ValsAre kind vs ys) {v y} (hv : Val kind v y) : ValsAre kind (vs ++ [v]) (ys ++ [y]) := by
  induction h with
  | nil => exact .cons hv .nil
  | cons z _ ih => exact .cons z ih
theorem ValsAre.length {kind : Nat} {vs ys} (h : ValsAre kind vs ys) : vs.length = ys.length := by
  induction h with
  | nil => rfl
  | cons z _ ih => simp [ih]
noncomputable def oL (items : Array Value) (c : Nat) : Obj := ⟨.type "list", none, .seq items c, #[]⟩
section
variable {M : Model} {A : Around} {E : Value → Shared → Prop} {s : Shared}
theorem slice_ok {kind : Nat} {text : Array Nat} {a b : Nat} {Q : Value → Shared → Prop} (hsz : text.size ≤ 100000) (h : ∀ v k, Val kind v (text.extract a b).toList → Q v { s with toks := k }) : wpAny M A (reSlice text kind a b) Q E s := by
  unfold reSlice
  have hz : (text.extract a b).size ≤ sizeLine := by rw [sizeLine_eq, Array.size_extract]; lia
  by_cases hk : kind = 0
  · subst hk
    exact wpAny_mkStr (h _ _ (by unfold Val; rw [if_pos rfl]; exact ⟨_, rfl⟩)) hz
  · rw [if_neg (by simpa using hk)]
    exact wpAny_mkBytes (h _ _ (by unfold Val; rw [if_neg hk]; exact ⟨_, by rw [← Array.toList_map]⟩)) (by rw [Array.size_map]; exact hz)
theorem push_ok {l : Addr} {items : Array Value} {c : Nat} {v : Value} {Q : Unit → Shared → Prop} (hl : s.heap.get? l = some (oL items c)) (hsz : items.size ≤ 200000)
    (h : ∀ h' c', h'.get? l = some (oL (items.push v) c') → Heap.SameBut l s.heap h' → Q () { s with heap := h' }) : wpAny M A (updateSeq l fun x => x.push v) Q E s := by
  refine wpAny_updateSeq hl rfl (h _ (if (items.push v).size == items.size then c else c + 1) ?_ (Heap.SameBut.update ..)) (by rw [sizeLine_eq]; lia) (by rw [sizeLine_eq, Array.size_push]; lia)
  rw [Heap.get?_update_self _ hl rfl]
  rfl
theorem keeps_same {h₀ h h' : Heap} {l : Addr} (k : Keeps h₀ h) (hl : h₀.get? l = none) (hs : Heap.SameBut l h h') : Keeps h₀ h' := fun b o e => by
  rw [hs.2 b (fun q => by rw [q, hl] at e; cases e)]
  exact k b o e
end
/-- the places found from done on -/
inductive Finds (code text : Array Nat) : Nat → List (Nat × Nat) → Prop
  | nil {d b : Nat} : Got b (Sre.forSearch code text 0 d text.size false) Off → b ≤ 1000000 → d ≤ text.size → Finds code text d []
  | cons {d a e b : Nat} {ms} : Got b (Sre.forSearch code text 0 d text.size false) (At a e) → b ≤ 1000000 → d ≤ a → a < e → e ≤ text.size → Finds code text e ms → Finds code text d ((a, e) :: ms)
/-- what is behind done, each found place replaced -/
noncomputable def subOut (text : Array Nat) (rep : Nat → Nat → List Nat) : Nat → List (Nat × Nat) → List Nat
  | d, [] => (text.extract d text.size).toList
  | d, (a, e) :: ms => (text.extract d a).toList ++ rep a e ++ subOut text rep e ms
theorem ent_sub : entryFor table "re.Pattern.sub.loop" = some «re.Pattern.sub.loop» := entryFor_of_fast (by kernel_rfl)
theorem plain_sub : plainId "re.Pattern.sub.loop" = true := by decide +kernel
theorem notNone {kind : Nat} {v : Value} {x : List Nat} (h : Val kind v x) : (v != .none) = true := by
  unfold Val at h
  split at h <;> (obtain ⟨t, rfl⟩ := h; rfl)
theorem ext_nil {text : Array Nat} {d a : Nat} (h : ¬ d < a) : (text.extract d a).toList = [] := by
  apply List.eq_nil_of_length_eq_zero
  rw [Array.length_toList, Array.size_extract]; lia
/-- the join of the pieces -/
noncomputable def Joins (w : World) (kind : Nat) : Prop := ∀ {A : Around} {E : Value → Shared → Prop} {s : Shared} {l : Addr} {items : Array Value} {c : Nat} {xs : List (List Nat)} {j : Value} {Q : Value → Shared → Prop}, A.handled = none →
  s.heap.get? l = some (oL items c) → ValsAre kind items.toList xs → items.size ≤ 200000 → xs.flatten.length ≤ 300000 → Val kind j [] → (∀ v k, Val kind v xs.flatten → Q v { s with toks := k }) →
  wpAny (model pw w) A (call (.builtin (if (kind == 0) = true then "str.join" else "bytes.join")) [j, .ref l]) Q E s
noncomputable def subTail (text : Array Nat) (kind : Nat) (l : Addr) (n : Nat) : Sem PySem.Fin := do
  let joiner ← reSlice text kind 0 0
  let text ← if ((← seqItems? (.ref l)).getD #[]).isEmpty then pure joiner
    else call (.builtin (if kind == 0 then "str.join" else "bytes.join")) [joiner, .ref l]
  if false then ret (← holding [text] do newTuple [text, ← mkInt n]) else ret text
theorem subTail_ok {w : World} {A : Around} {E : Value → Shared → Prop} {s : Shared} (hA : A.handled = none) {text : Array Nat} {kind : Nat} {l : Addr} {n : Nat} {items : Array Value} {c : Nat} {xs : List (List Nat)} {Q : PySem.Fin → Shared → Prop} (hsz : text.size ≤ 100000) (hJ : Joins w kind)
    (hl : s.heap.get? l = some (oL items c)) (hv : ValsAre kind items.toList xs) (hi : items.size ≤ 200000) (hlen : xs.flatten.length ≤ 300000) (h : ∀ v k, Val kind v xs.flatten → Q (.done (.ret v)) { s with toks := k }) :
    wpAny (model pw w) A (subTail text kind l n) Q E s := by
  unfold subTail
  refine wpAny_bind (slice_ok hsz fun j k hj => ?_)
  rw [show (text.extract 0 0).toList = [] from ext_nil (by lia)] at hj
  refine wpAny_bind (wpAny_seqItems (items := items) (n := c) hl rfl ?_)
  dsimp only [Option.getD]
  by_cases he : items.isEmpty = true
  · rw [if_pos he]
    refine wpAny_bind (wpAny_pure ?_)
    rw [if_neg (by decide)]
    refine wpAny_pure (h _ _ ?_)
    have h0 : items.toList = [] := by
      rw [Array.isEmpty_iff.mp he]
    rw [h0] at hv
    cases hv
    exact hj
  · rw [if_neg he]
    refine wpAny_bind (hJ hA hl hv hi hlen hj fun v k hv => ?_)
    rw [if_neg (by decide)]
    exact wpAny_pure (h _ _ hv)
set_option maxHeartbeats 1000000 in
theorem lit_loop {w : World} {A : Around} (hA : A.handled = none) {pat : Addr} {sv rv : Value} {code text : Array Nat} {kind : Nat} {r : List Nat} {l : Addr} (s₀ : Shared) (U₀ : Up w s₀.heap) (hl₀ : s₀.heap.get? l = none)
    (hW : ∀ k, evp w (TL w.params).tree (reWholeTarget (.ref pat) sv) k = some (.ok { pattern := .ref pat, string := sv, code := code, text := text, kind := kind, groups := 0, pos := 0, lim := text.size }, k))
    (hL : ∀ k, evp w .nil (reLiteralCannotBeTurned rv) k = some (.ok (), k)) (hr : Val kind rv r) (hJ : Joins w kind) (hsz : text.size ≤ 100000)
    {R : Result → Shared → Prop} {d : Nat} {ms : List (Nat × Nat)} (hf : Finds code text d ms) : ∀ (n : Nat) (items : Array Value) (c : Nat) (xs : List (List Nat)) (s : Shared),
      Grow s₀ s → s.heap.get? l = some (oL items c) → ValsAre kind items.toList xs → items.size + 2 * ms.length ≤ 199990 → (xs.flatten ++ subOut text (fun _ _ => r) d ms).length ≤ 300000 →
      (∀ v s', Val kind v (xs.flatten ++ subOut text (fun _ _ => r) d ms) → Grow s₀ s' → R (.ok (.ret v)) s') →
    codeAny (model pw w) A (.builtin "re.Pattern.sub.loop" ⟨[.ref pat, sv, rv, rawInt 0, rawInt 0, rawInt n, rawInt d, rawInt d, .bool false, .ref l, .bool false], []⟩) R s := by
  induction hf with
  | @nil d b g hb hd =>
    intro n items c xs s G hl hv hi hlen hR
    refine codeAny_builtin ent_sub ?_
    rw [Around.under_plainId plain_sub]
    unfold «re.Pattern.sub.loop»
    dsimp only
    have U : Up w s.heap := fun b o e => G.keep _ _ (U₀ _ _ e)
    refine wpAny_bind (evp_any (knows w U) (by exact hA) (hW _) ?_)
    dsimp only
    rw [if_pos (by rfl)]
    refine wpAny_bind (evp_any knows_nil (by exact hA) (hL _) ?_)
    rw [if_neg (by simp)]
    refine wpAny_bind (toEnd_off g hb ?_)
    show wpAny _ _ (if d < text.size then (do updateSeq l (·.push (← reSlice text kind d text.size)); subTail text kind l n) else subTail text kind l n) _ _ _
    by_cases h : d < text.size
    · rw [if_pos h]
      refine wpAny_bind (slice_ok hsz fun v k hv' => wpAny_bind (push_ok hl (by simp at hi; lia) fun h' c' hl' hs => ?_))
      have e : (xs ++ [(text.extract d text.size).toList]).flatten = xs.flatten ++ subOut text (fun _ _ => r) d [] := by simp [subOut]
      refine subTail_ok (by exact hA) hsz hJ hl' (by rw [Array.toList_push]; exact hv.snoc hv') (by rw [Array.size_push]; simp at hi; lia) (by rw [e]; exact hlen) fun v k hv => ?_
      rw [e] at hv
      exact hR _ _ hv ⟨keeps_same G.keep hl₀ hs, G.gens, G.os⟩
    · rw [if_neg h]
      have e : xs.flatten = xs.flatten ++ subOut text (fun _ _ => r) d [] := by
        show _ = _ ++ (text.extract d text.size).toList
        rw [ext_nil h, List.append_nil]
      refine subTail_ok (by exact hA) hsz hJ hl hv (by simp at hi; lia) (by rw [e]; exact hlen) fun v k hv => ?_
      rw [e] at hv
      exact hR _ _ hv ⟨G.keep, G.gens, G.os⟩
  | @cons d a e b ms g hb h1 h2 h3 hf ih =>
    intro n items c xs s G hl hv hi hlen hR
    refine codeAny_builtin ent_sub ?_
    rw [Around.under_plainId plain_sub]
    unfold «re.Pattern.sub.loop»
    dsimp only
    have U : Up w s.heap := fun b o e => G.keep _ _ (U₀ _ _ e)
    refine wpAny_bind (evp_any (knows w U) (by exact hA) (hW _) ?_)
    dsimp only
    rw [if_pos (by rfl)]
    refine wpAny_bind (evp_any knows_nil (by exact hA) (hL _) ?_)
    rw [if_neg (by simp)]
    refine wpAny_bind (toEnd_at g hb fun m q1 q2 q3 => ?_)
    have hi' : items.size + 2 * ms.length + 2 ≤ 199990 := by simp only [List.length_cons] at hi; lia
    show wpAny _ _ (if d < m.start then (do updateSeq l (·.push (← reSlice text kind d m.start)); (if (0 == 0) = true then _ else _)) else (if (0 == 0) = true then _ else _)) _ _ _
    rw [q1]
    have key : ∀ (items' : Array Value) (c' : Nat) (xs' : List (List Nat)) (s' : Shared), Grow s₀ s' → s'.heap.get? l = some (oL items' c') → ValsAre kind items'.toList xs' → items'.size ≤ items.size + 1 → xs'.flatten = xs.flatten ++ (text.extract d a).toList →
        wpAny (model pw w) A.in1 (do updateSeq l (·.push rv); again (.builtin "re.Pattern.sub.loop" ⟨[.ref pat, sv, rv, rawInt 0, rawInt 0, rawInt ((n : Int) + 1), rawInt m.handed, rawInt m.handed, .bool (m.handed == a), .ref l, .bool false], []⟩)) (fun fin s' => match fin with | .done f => R (.ok f) s' | .again c' => c'.quiet = true ∧ codeAny (model pw w) A c' R s') (fun e s' => R (.error e) s') s' := by
      intro items' c' xs' s' G' hl' hv' hz hx
      refine wpAny_bind (push_ok hl' (by lia) fun h' c'' hl'' hs => wpAny_pure ⟨plainId_quiet plain_sub _, ?_⟩)
      rw [q2, show (e == a) = false from by simp; lia]
      have e1 : (xs' ++ [r]).flatten ++ subOut text (fun _ _ => r) e ms = xs.flatten ++ subOut text (fun _ _ => r) d ((a, e) :: ms) := by
        simp [subOut, hx]
      exact ih (n + 1) (items'.push rv) c'' (xs' ++ [r]) _ ⟨keeps_same G'.keep hl₀ hs, G'.gens, G'.os⟩ hl'' (by rw [Array.toList_push]; exact hv'.snoc hr) (by rw [Array.size_push]; lia) (by rw [e1]; exact hlen) (by rw [e1]; exact hR)
    by_cases h : d < a
    · rw [if_pos h]
      refine wpAny_bind (slice_ok hsz fun v k hv' => wpAny_bind (push_ok hl (by lia) fun h' c' hl' hs => ?_))
      rw [if_pos (by rfl)]
      refine wpAny_bind (wpAny_pure ?_)
      rw [if_pos (notNone hr)]
      exact key _ _ _ _ ⟨keeps_same G.keep hl₀ hs, G.gens, G.os⟩ hl' (by rw [Array.toList_push]; exact hv.snoc hv') (by rw [Array.size_push]; lia) (by simp)
    · rw [if_neg h]
      rw [if_pos (by rfl)]
      refine wpAny_bind (wpAny_pure ?_)
      rw [if_pos (notNone hr)]
      exact key _ _ _ _ ⟨G.keep, G.gens, G.os⟩ hl hv (by lia) (by rw [ext_nil h, List.append_nil])
end Mine
end
section
namespace Mine
open PySem.Builtin.Re PySem.Builtin
theorem val_str {v : Value} {x : List Nat} (h : Val 0 v x) : ∃ t, v = .str ⟨x.toArray⟩ t := h
theorem val_bytes {v : Value} {x : List Nat} (h : Val 1 v x) : ∃ t, v = .bytes (x.map Nat.toUInt8).toArray t := h
theorem vals_str : ∀ {vs : List Value} {xs : List (List Nat)}, ValsAre 0 vs xs → StrsAre vs (xs.map fun x => ⟨x.toArray⟩)
  | _, _, .nil => .nil
  | _, _, .cons h r => by obtain ⟨t, rfl⟩ := val_str h; exact .cons _ _ (vals_str r)
theorem glued_nil : ∀ xs : List (List Nat), Txt.join ⟨([] : List Nat).toArray⟩ (xs.map fun x => (⟨x.toArray⟩ : PySem.Str)) = ⟨xs.flatten.toArray⟩ := by
  intro xs
  apply PySem.Str.ext'
  show ((xs.map fun x => (⟨x.toArray⟩ : PySem.Str)).drop 1).foldl (fun acc p => acc ++ #[] ++ p.cps) ((xs.map fun x => (⟨x.toArray⟩ : PySem.Str)).headD PySem.Str.empty).cps = xs.flatten.toArray
  have key : ∀ (ys : List (List Nat)) (acc : Array Nat), (ys.map fun x => (⟨x.toArray⟩ : PySem.Str)).foldl (fun acc p => acc ++ #[] ++ p.cps) acc = acc ++ ys.flatten.toArray := by
    intro ys
    induction ys with
    | nil => intro acc; simp
    | cons y ys ih =>
      intro acc
      rw [List.map_cons, List.foldl_cons, ih]
      apply Array.ext'
      simp
  cases xs with
  | nil => rfl
  | cons x xs =>
    rw [List.map_cons]
    show (xs.map fun x => (⟨x.toArray⟩ : PySem.Str)).foldl _ x.toArray = _
    rw [key]
    apply Array.ext'
    simp
theorem joinsS (w : World) : Joins w 0 := by
  intro A E s l items c xs j Q hA hl hv hi hlen hj h
  obtain ⟨t, rfl⟩ := val_str hj
  refine join_list (D := l) (items := items) ⟨_, hl, rfl, _, rfl⟩ (vals_str hv) ?_ fun t' k => ?_
  · have e : (xs.map fun x => (⟨x.toArray⟩ : PySem.Str)).map (·.length) = xs.map List.length := by simp [PySem.Str.length, Function.comp_def]
    rw [e]
    rw [List.length_flatten] at hlen
    show _ + _ * 0 ≤ _
    lia
  · rw [glued_nil]; exact h _ _ ⟨_, rfl⟩
theorem slot_bjoin : Slot "bytes" "join" "bytes.join" :=
  .of (owner := "bytes") (n := "join") (by rw [typeLookup_type, builtinLookup_eq_fast]; kernel_rfl) (by decide +kernel) (by decide +kernel) (by decide +kernel)
    (by first | exact .inl (by decide +kernel) | exact .inr (by decide +kernel)) (by rw [isSubtype_type]; kernel_rfl)
theorem entry_bjoin : entryFor table "bytes.join" = some Builtin.«bytes.join» := entryFor_of_tree (by kernel_rfl)
theorem args_bjoin (a b : Value) : argsOk "bytes.join" ⟨[a, b], []⟩ := by kernel_rfl
theorem take_ev (w : World) (b : Array UInt8) (t k : Nat) : evp w .nil (Bytes.takeBufferQuiet? (toString Bytes.Kind.bytes.name ++ toString ".join") (.bytes b t) 0) k = some (.ok (some (b, none)), k) := by kernel_rfl
theorem self_ev (w : World) (a b : Value) (k : Nat) : evp w .nil (selfAndOne (toString Bytes.Kind.bytes.name ++ toString ".join") ⟨[a, b], []⟩) k = some (.ok (a, b), k) := by kernel_rfl
theorem pay_ev (w : World) (b : Array UInt8) (t k : Nat) : evp w .nil (Bytes.payload (.bytes b t)) k = some (.ok b, k) := by kernel_rfl
theorem ty_ev (w : World) (b : Array UInt8) (t k : Nat) : evp w .nil (typeOf (.bytes b t)) k = some (.ok (.type "bytes"), k) := by kernel_rfl
theorem joinItems_ok {w : World} {A : Around} {E : Value → Shared → Prop} {s : Shared} {l : Addr} {items : Array Value} {c : Nat} {Q : Value → Shared → Prop} (hl : s.heap.get? l = some (oL items c)) (h : Q (.ref l) s) :
    wpAny (model pw w) A (Bytes.joinItems (.ref l)) Q E s := by
  unfold Bytes.joinItems
  refine wpAny_bind (wpAny_typeOf_ref hl ?_)
  exact wpAny_pure h
theorem joined_nil (xs : List (List Nat)) : Bytes.joined ((([] : List Nat).map Nat.toUInt8).toArray) ((xs.map fun x => (x.map Nat.toUInt8).toArray).toArray).toList = (xs.flatten.map Nat.toUInt8).toArray := by
  unfold Bytes.joined
  have key : ∀ (ys : List (List Nat)) (k : Nat) (acc : Array UInt8), ((ys.map fun x => (x.map Nat.toUInt8).toArray).zipIdx k).foldl (fun out (x : Array UInt8 × Nat) => (if x.2 > 0 then out ++ #[] else out) ++ x.1) acc = acc ++ (ys.flatten.map Nat.toUInt8).toArray := by
    intro ys
    induction ys with
    | nil => intro k acc; simp
    | cons y ys ih =>
      intro k acc
      rw [List.map_cons, List.zipIdx_cons, List.foldl_cons, ih]
      apply Array.ext'
      by_cases hk : k > 0 <;> simp [hk]
  have := key xs 0 #[]
  simpa using this
theorem letGo_ok {M : Model} {A : Around} {E : Value → Shared → Prop} {s : Shared} {Q : Unit → Shared → Prop} : ∀ (tk : List (Value × Option Value)) (keep : List Value), (∀ p ∈ tk, p.2 = none) → Q () s → wpAny M A (Bytes.joinLetGo tk keep) Q E s
  | [], keep, _, h => wpAny_pure h
  | (x, o) :: r, keep, hp, h => by
    obtain rfl : o = none := hp (x, o) (.head _)
    unfold Bytes.joinLetGo
    exact wpAny_bind (wpAny_letGo (letGo_ok r keep (fun p q => hp p (.tail _ q)) h))
theorem not_one {M : Model} {A : Around} {α : Type} {E : Value → Shared → Prop} {s : Shared} {Q : α → Shared → Prop} {f : Value → Sem α} {g : Array Value → Sem α} {items : Array Value} (h : ∀ x, items ≠ #[x]) (hw : wpAny M A (g items) Q E s) : wpAny M A (Bytes.joinM.match_1 (fun _ => Sem α) items f g) Q E s := by
  obtain ⟨vs⟩ := items
  rcases vs with _ | ⟨x, _ | ⟨y, r⟩⟩
  · exact hw
  · exact absurd rfl (h x)
  · exact hw
set_option maxHeartbeats 1000000 in
theorem joinsB (w : World) : Joins w 1 := by
  intro A E s l items c xs j Q hA hl hv hi hlen hj h
  obtain ⟨t, rfl⟩ := val_bytes hj
  refine wpAny_call_entry slot_bjoin (typeIs_bytes _ _ _) entry_bjoin ?_ (args_bjoin _ _)
  unfold «bytes.join» Bytes.joinM
  dsimp only
  refine wpAny_bind (evp_any knows_nil (by exact hA) (self_ev w _ _ _) ?_)
  rw [if_pos (by rfl)]
  refine wpAny_bind (joinItems_ok hl (wpAny_bind (wpAny_seqItems hl rfl ?_)))
  dsimp only
  rw [if_pos (by rfl)]
  have hb : ∀ i, i < items.size → ∃ u, items.getD i .none = .bytes ((xs.getD i []).map Nat.toUInt8).toArray u := by
    have gen : ∀ {vs : List Value} {ys : List (List Nat)}, ValsAre 1 vs ys → ∀ i, i < vs.length → ∃ u, vs.getD i .none = .bytes ((ys.getD i []).map Nat.toUInt8).toArray u := by
      intro vs ys hv
      induction hv with
      | nil => intro i hi; cases hi
      | cons hx _ ih =>
        intro i hi
        cases i with
        | zero => obtain ⟨u, rfl⟩ := val_bytes hx; exact ⟨u, rfl⟩
        | succ i =>
          obtain ⟨u, hu⟩ := ih i (by simpa using hi)
          exact ⟨u, by simpa using hu⟩
    intro i hi
    obtain ⟨u, hu⟩ := gen hv i (by simpa using hi)
    exact ⟨u, by rw [← hu]; simp [Array.getD, List.getD, hi]⟩
  by_cases h1 : ∃ x, items = #[x]
  · obtain ⟨x, rfl⟩ := h1
    cases hv with
    | cons hx hr =>
      cases hr
      obtain ⟨u, rfl⟩ := val_bytes hx
      change wpAny _ _ (typeOf _ >>= _) _ _ _
      refine wpAny_bind (evp_any knows_nil (by exact hA) (ty_ev w _ _ _) ?_)
      rw [if_pos (by rfl)]
      refine wpAny_bind (wpAny_rule (wpAny_pure ⟨_, rfl, h _ _ ?_⟩))
      rw [List.flatten_cons, List.flatten_nil, List.append_nil]
      exact hx
  · refine not_one (fun x e => h1 ⟨x, e⟩) ?_
    rw [KPc.range_list]
    refine wpAny_bind (wpAny_forIn_list _ (fun rest (st : Array (Array UInt8) × List (Value × Option Value)) s' => s' = s ∧ ∃ i, i + rest.length = items.size ∧ rest = List.range' i rest.length ∧ st.1 = ((xs.take i).map fun x => (x.map Nat.toUInt8).toArray).toArray ∧ (∀ p ∈ st.2, p.1.onHeap = false ∧ p.2 = none)) _ ?_ ?_ _ _ ?_)
    · rintro i rest ⟨st1, st2⟩ s' ⟨rfl, j, h1, h2, h3, h4⟩
      obtain ⟨rfl, h2'⟩ : i = j ∧ rest = List.range' (j + 1) rest.length := by
        rw [List.length_cons, List.range'_succ] at h2
        exact ⟨(List.cons.inj h2).1, (List.cons.inj h2).2⟩
      rw [List.length_cons] at h1
      obtain ⟨u, hu⟩ := hb i (by lia)
      refine wpAny_bind (wpAny_seqItems hl rfl ?_)
      dsimp only
      rw [if_neg (by simp; exact fun a b hab => (h4 (a, b) hab).1), hu]
      refine wpAny_bind (wpAny_holding (evp_any knows_nil (by exact hA) (take_ev w _ _ _) ?_))
      refine wpAny_bind (wpAny_seqItems hl rfl ?_)
      dsimp only
      rw [if_neg (by simp)]
      refine wpAny_pure ⟨rfl, i + 1, by lia, h2', ?_, ?_⟩
      · have hx : i < xs.length := by rw [← hv.length, Array.length_toList]; lia
        dsimp only at h3 ⊢
        have e1 : xs.getD i [] = xs[i] := by simp [hx]
        rw [h3, List.take_add_one, List.getElem?_eq_getElem hx, e1]
        apply Array.ext'
        simp only [Array.toList_push, Option.toList_some, List.map_append, List.map_cons, List.map_nil]
      · intro p hp
        rcases List.mem_append.mp hp with q | q
        · exact h4 p q
        · rw [List.mem_singleton.mp q]; exact ⟨rfl, rfl⟩
    · rintro ⟨st1, st2⟩ s' ⟨rfl, j, h1, h2, h3, h4⟩
      rw [List.length_nil, Nat.add_zero] at h1
      refine wpAny_bind (evp_any knows_nil (by exact hA) (pay_ev w _ _ _) ?_)
      dsimp only at h3
      have e : xs.take j = xs := List.take_of_length_le (by rw [← hv.length, Array.length_toList]; lia)
      rw [e] at h3
      have hsum : ∀ (ys : List (List Nat)) (n : Nat), (ys.map fun x => (x.map Nat.toUInt8).toArray).foldl (fun a b => a + b.size) n = n + ys.flatten.length := by
        intro ys
        induction ys with
        | nil => intro n; simp
        | cons y ys ih => intro n; rw [List.map_cons, List.foldl_cons, ih]; simp; lia
      have htl : st1.foldl (fun a b => a + b.size) (((([] : List Nat).map Nat.toUInt8).toArray).size * (st1.size - 1)) ≤ 300000 := by
        rw [h3, ← Array.foldl_toList, hsum]
        simp
        simpa using hlen
      rw [if_neg (by
        show ¬ decide (_ > sizeLine) = true
        rw [sizeLine_eq]
        simp only [decide_eq_true_eq]
        exact fun q => absurd (Nat.lt_of_lt_of_le q htl) (by decide))]
      have hj : Bytes.joined ((([] : List Nat).map Nat.toUInt8).toArray) st1.toList = (xs.flatten.map Nat.toUInt8).toArray := by
        rw [h3]
        exact joined_nil xs
      rw [hj]
      refine wpAny_bind (wpAny_mkBytes ?_ ?_)
      · refine wpAny_bind (wpAny_holding (wpAny_point (wpAny_bind (letGo_ok st2 _ (fun p hp => (h4 p hp).2) (wpAny_pure ⟨_, rfl, h _ _ ⟨_, rfl⟩⟩)))))
      · rw [sizeLine_eq]; simp only [List.size_toArray, List.length_map]; exact Nat.le_trans hlen (by decide)
    · refine ⟨rfl, 0, ?_, ?_, ?_, ?_⟩
      · simp
      · simp
      · rfl
      · intro p hp; cases hp
end Mine
end
section
namespace Mine
open PySem.Builtin.Re PySem.Builtin
theorem ent_s : entryFor table "re.Pattern.sub" = some «re.Pattern.sub» := entryFor_of_fast (by kernel_rfl)
theorem plain_s : plainId "re.Pattern.sub" = true := by decide +kernel
theorem chk1 (w : World) (a b : Value) (k : Nat) : evp w (TL w.params).tree (checkBuiltinCall "re.Pattern.sub" ⟨[.ref 36, a, b], []⟩) k = some (.ok (), k) := by kernel_rfl
theorem chk2 (w : World) (a b : Value) (k : Nat) : evp w (TL w.params).tree (checkBuiltinCall "re.Pattern.sub" ⟨[.ref 41, a, b], []⟩) k = some (.ok (), k) := by kernel_rfl
theorem chk3 (w : World) (a b : Value) (k : Nat) : evp w (TL w.params).tree (checkBuiltinCall "re.Pattern.sub" ⟨[.ref 60, a, b], []⟩) k = some (.ok (), k) := by kernel_rfl
theorem meth1 (w : World) (pl : Sem Bool) (k : Nat) : evp w (TL w.params).tree (getMethod (.ref 36) (PySem.Str.ofString "sub") pl) k = some (.ok (.builtin "re.Pattern.sub", [.ref 36]), k) := by kernel_rfl
theorem meth2 (w : World) (pl : Sem Bool) (k : Nat) : evp w (TL w.params).tree (getMethod (.ref 41) (PySem.Str.ofString "sub") pl) k = some (.ok (.builtin "re.Pattern.sub", [.ref 41]), k) := by kernel_rfl
theorem meth3 (w : World) (pl : Sem Bool) (k : Nat) : evp w (TL w.params).tree (getMethod (.ref 60) (PySem.Str.ofString "sub") pl) k = some (.ok (.builtin "re.Pattern.sub", [.ref 60]), k) := by kernel_rfl
theorem named_ev (w : World) (a b : Value) (k : Nat) : evp w .nil (reNamed "re.Pattern.sub" "sub" ["repl", "string", "count"] 2 [a, b] []) k = some (.ok [some a, some b, none], k) := by kernel_rfl
theorem call_evB (w : World) (b : Array UInt8) (t k : Nat) : evp w .nil (specialOf (.bytes b t) (PySem.Str.ofString "__call__")) k = some (.ok none, k) := by kernel_rfl
theorem call_evS (w : World) (b : PySem.Str) (t k : Nat) : evp w .nil (specialOf (.str b t) (PySem.Str.ofString "__call__")) k = some (.ok none, k) := by kernel_rfl
theorem str_evB (w : World) (b : Array UInt8) (t k : Nat) : evp w .nil (asStr? (.bytes b t)) k = some (.ok none, k) := by kernel_rfl
theorem str_evS (w : World) (b : PySem.Str) (t k : Nat) : evp w .nil (asStr? (.str b t)) k = some (.ok (some b), k) := by kernel_rfl
theorem buf_ev (w : World) (id : String) (b : Array UInt8) (t k : Nat) : evp w .nil (Bytes.bufferQuiet? id (.bytes b t)) k = some (.ok (some b), k) := by kernel_rfl
set_option maxHeartbeats 1000000 in
theorem sub1_call {w : World} {A : Around} {E : Value → Shared → Prop} {s : Shared} {Q : Value → Shared → Prop} (hA : A.handled = none) (U : Up w s.heap) {b : Array UInt8} {t u : Tok} {ms : List (Nat × Nat)} (hf : Finds code1 (b.map (·.toNat)) 0 ms)
    (hsz : b.size ≤ 50000) (hm : ms.length ≤ b.size) (hlen : (subOut (b.map (·.toNat)) (fun _ _ => [46, 46]) 0 ms).length ≤ 300000)
    (h : ∀ v s', Val 1 v (subOut (b.map (·.toNat)) (fun _ _ => [46, 46]) 0 ms) → Grow s s' → Q v s') :
    wpAny (model pw w) A (call (.builtin "re.Pattern.sub") [.ref 36, .bytes #[46, 46] u, .bytes b t]) Q E s := by
  refine wpAny_call (codeAny_call_builtin plain_s ent_s (evp_any (knows w U) (by exact hA) (chk1 w _ _ _) ?_))
  unfold «re.Pattern.sub» reSubstitute
  dsimp only
  refine wpAny_bind (evp_any knows_nil (by exact hA) (named_ev w _ _ _) ?_)
  dsimp only
  refine wpAny_bind (wpAny_pure ?_)
  refine wpAny_bind (evp_any knows_nil (by exact hA) (call_evB w _ _ _) ?_)
  rw [if_neg (by decide)]
  refine wpAny_bind (evp_any knows_nil (by exact hA) (str_evB w _ _ _) ?_)
  dsimp only
  refine wpAny_bind (evp_any knows_nil (by exact hA) (buf_ev w _ _ _ _) ?_)
  dsimp only
  refine wpAny_bind (wpAny_pure ?_)
  rw [if_neg (by decide), if_pos (by decide +kernel)]
  refine wpAny_bind (wpAny_pure ?_)
  dsimp only
  refine wpAny_bind (wpAny_holding (evp_any (knows w U) (by exact hA) (whole1_ev w _ _ _) ?_))
  rw [if_neg (by decide)]
  refine wpAny_bind (wpAny_newList ?_ (by decide))
  have hfree : s.heap.get? s.heap.objs.size = none := by
    cases q : s.heap.get? s.heap.objs.size with
    | none => rfl
    | some o => exact absurd (Heap.lt_size q) (Nat.lt_irrefl _)
  refine wpAny_pure ⟨plainId_quiet plain_sub _, ?_⟩
  exact lit_loop hA s U hfree (fun k => whole1_ev w _ _ _) (fun k => lit_ev w _ _ _) (r := [46, 46]) ⟨_, rfl⟩ (joinsB w) (by rw [Array.size_map]; lia) hf 0 #[] 0 [] _ ⟨fun b o e => Heap.get?_push_of_some _ e, rfl, rfl⟩ (Heap.get?_push_size _ rfl) .nil (by simp; lia) (by simpa using hlen) (by simpa using h)
set_option maxHeartbeats 1000000 in
theorem sub2_call {w : World} {A : Around} {E : Value → Shared → Prop} {s : Shared} {Q : Value → Shared → Prop} (hA : A.handled = none) (U : Up w s.heap) {b : PySem.Str} {t u : Tok} {ms : List (Nat × Nat)} (hf : Finds code2 b.cps 0 ms)
    (hsz : b.cps.size ≤ 50000) (hm : ms.length ≤ b.cps.size) (hlen : (subOut b.cps (fun _ _ => [13, 10]) 0 ms).length ≤ 300000)
    (h : ∀ v s', Val 0 v (subOut b.cps (fun _ _ => [13, 10]) 0 ms) → Grow s s' → Q v s') :
    wpAny (model pw w) A (call (.builtin "re.Pattern.sub") [.ref 41, .str ⟨#[13, 10]⟩ u, .str b t]) Q E s := by
  refine wpAny_call (codeAny_call_builtin plain_s ent_s (evp_any (knows w U) (by exact hA) (chk2 w _ _ _) ?_))
  unfold «re.Pattern.sub» reSubstitute
  dsimp only
  refine wpAny_bind (evp_any knows_nil (by exact hA) (named_ev w _ _ _) ?_)
  dsimp only
  refine wpAny_bind (wpAny_pure ?_)
  refine wpAny_bind (evp_any knows_nil (by exact hA) (call_evS w _ _ _) ?_)
  rw [if_neg (by decide)]
  refine wpAny_bind (evp_any knows_nil (by exact hA) (str_evS w _ _ _) ?_)
  dsimp only
  refine wpAny_bind (wpAny_pure ?_)
  rw [if_neg (by decide), if_pos (by decide +kernel)]
  refine wpAny_bind (wpAny_pure ?_)
  dsimp only
  refine wpAny_bind (wpAny_holding (evp_any (knows w U) (by exact hA) (whole2_ev w _ _ _) ?_))
  rw [if_neg (by decide)]
  refine wpAny_bind (wpAny_newList ?_ (by decide))
  have hfree : s.heap.get? s.heap.objs.size = none := by
    cases q : s.heap.get? s.heap.objs.size with
    | none => rfl
    | some o => exact absurd (Heap.lt_size q) (Nat.lt_irrefl _)
  refine wpAny_pure ⟨plainId_quiet plain_sub _, ?_⟩
  exact lit_loop hA s U hfree (fun k => whole2_ev w _ _ _) (fun k => lit_evS w _ _ _) (r := [13, 10]) ⟨_, rfl⟩ (joinsS w) (by lia) hf 0 #[] 0 [] _ ⟨fun b o e => Heap.get?_push_of_some _ e, rfl, rfl⟩ (Heap.get?_push_size _ rfl) .nil (by simp; lia) (by simpa using hlen) (by simpa using h)
end Mine
end
section
namespace Mine
inductive Places (hit : Nat → Prop) (len : Nat → Nat) (size : Nat) : Nat → List (Nat × Nat) → Prop
  | nil {d : Nat} : (∀ j, d ≤ j → j < size → ¬ hit j) → d ≤ size → Places hit len size d []
  | cons {d a : Nat} {ms} : d ≤ a → a < size → hit a → (∀ j, d ≤ j → j < a → ¬ hit j) → a + len a ≤ size → 0 < len a → Places hit len size (a + len a) ms → Places hit len size d ((a, a + len a) :: ms)
theorem Places.back {hit : Nat → Prop} {len : Nat → Nat} {size d : Nat} {ms} (h : ¬ hit d) (p : Places hit len size (d + 1) ms) : Places hit len size d ms := by
  cases p with
  | nil h1 h2 => exact .nil (fun j a b => by rcases Nat.eq_or_lt_of_le a with rfl | q; exact h; exact h1 j q b) (by lia)
  | cons h1 h2 h3 h4 h5 h6 h7 => exact .cons (by lia) h2 h3 (fun j a b => by rcases Nat.eq_or_lt_of_le a with rfl | q; exact h; exact h4 j q b) h5 h6 h7
theorem ext_step {text : Array Nat} {d a : Nat} (h : d < a) (ha : a ≤ text.size) : (text.extract d a).toList = text.getD d 0 :: (text.extract (d + 1) a).toList := by
  have hd : d < text.size := by lia
  rw [Array.toList_extract, Array.toList_extract]
  unfold List.extract
  rw [List.drop_eq_getElem_cons (by simpa using hd), show a - d = (a - (d + 1)) + 1 from by (clear hd ha; lia), List.take_succ_cons]
  congr 1
  simp [Array.getD, hd]
theorem out_back {text : Array Nat} {rep : Nat → Nat → List Nat} {hit : Nat → Prop} {len : Nat → Nat} {d : Nat} {ms} (hd : d < text.size) (p : Places hit len text.size (d + 1) ms) : subOut text rep d ms = text.getD d 0 :: subOut text rep (d + 1) ms := by
  cases p with
  | nil h1 h2 => exact ext_step hd (Nat.le_refl _)
  | cons h1 h2 h3 h4 h5 h6 h7 =>
    simp only [subOut]
    rw [ext_step (by lia) (by lia)]
    rfl
theorem places {text : Array Nat} {rep : Nat → Nat → List Nat} {hit : Nat → Prop} {len : Nat → Nat} (dec : ∀ d, Decidable (hit d)) (F : Nat → List Nat) (h0 : F text.size = [])
    (h1 : ∀ d, d < text.size → hit d → (d + len d ≤ text.size ∧ 0 < len d ∧ F d = rep d (d + len d) ++ F (d + len d))) (h2 : ∀ d, d < text.size → ¬ hit d → F d = text.getD d 0 :: F (d + 1)) :
    ∀ k d, d + k = text.size → ∃ ms, Places hit len text.size d ms ∧ ms.length ≤ k ∧ subOut text rep d ms = F d := by
  intro k
  induction k using Nat.strongRecOn with
  | _ k ih =>
    intro d hd
    by_cases hz : k = 0
    · subst hz
      obtain rfl : d = text.size := hd
      exact ⟨[], .nil (fun j a b => by lia) (Nat.le_refl _), Nat.le_refl _, by rw [h0]; exact ext_nil (by lia)⟩
    · by_cases hh : hit d
      · obtain ⟨a1, a2, a3⟩ := h1 d (by lia) hh
        obtain ⟨ms, p, q, r⟩ := ih (k - len d) (by lia) (d + len d) (by lia)
        refine ⟨(d, d + len d) :: ms, .cons (Nat.le_refl _) (by lia) hh (fun j a b => by (clear q a2 a1 hz; lia)) a1 a2 p, by simp only [List.length_cons]; lia, ?_⟩
        simp only [subOut]
        rw [r, a3, ext_nil (by lia), List.nil_append]
      · obtain ⟨ms, p, q, r⟩ := ih (k - 1) (by (clear hh hd; lia)) (d + 1) (by lia)
        exact ⟨ms, p.back hh, by (clear hh hz hd; lia), by rw [out_back (by (clear q hh; lia)) p, r, h2 d (by (clear q hh; lia)) hh]⟩
/-- pattern 1 -/
noncomputable def scan1 : Bool → List Nat → List Nat
  | _, [] => []
  | b, c :: r => (if b = true ∧ c = 46 then [46, 46] else [c]) ++ scan1 (c == 10) r
theorem drop_step {text : Array Nat} {d : Nat} (hd : d < text.size) : text.toList.drop d = text.getD d 0 :: text.toList.drop (d + 1) := by
  rw [List.drop_eq_getElem_cons (by simpa using hd)]
  congr 1
  simp [Array.getD, hd]
theorem finds1 {text : Array Nat} (hz : text.size ≤ 200000) {d : Nat} {ms} (p : Places (Hit text) (fun _ => 1) text.size d ms) : Finds code1 text d ms := by
  induction p with
  | @nil d h1 h2 => exact .nil (sr1_none text d h2 h1) (by lia) h2
  | @cons d a ms h1 h2 h3 h4 h5 h6 h7 ih => exact .cons (sr1_some text d a h1 h2 h3 h4) (by (clear h6 h5 h2 h1; lia)) h1 (by lia) h5 ih
theorem subs1 (text : Array Nat) (hz : text.size ≤ 200000) : ∃ ms, Finds code1 text 0 ms ∧ ms.length ≤ text.size ∧ subOut text (fun _ _ => [46, 46]) 0 ms = scan1 true text.toList := by
  obtain ⟨ms, p, q, r⟩ := places (text := text) (rep := fun _ _ => [46, 46]) (hit := Hit text) (len := fun _ => 1) (fun d => by unfold Hit; infer_instance) (fun d => scan1 (d == 0 || text.getD (d - 1) 0 == 10) (text.toList.drop d))
    (by rw [List.drop_of_length_le (by simp)]; rfl)
    (fun d hd hh => ⟨by lia, by lia, by
      rw [drop_step hd]
      simp only [scan1]
      rw [if_pos ⟨by have := hh.1; simpa using this, hh.2⟩, show (d + 1 == 0 || text.getD (d + 1 - 1) 0 == 10) = (text.getD d 0 == 10) from by simp]⟩)
    (fun d hd hh => by
      rw [drop_step hd]
      simp only [scan1]
      rw [if_neg (fun x => hh ⟨by simpa using x.1, x.2⟩), show (d + 1 == 0 || text.getD (d + 1 - 1) 0 == 10) = (text.getD d 0 == 10) from by simp]
      rfl) text.size 0 (by lia)
  exact ⟨ms, finds1 hz p, q, r⟩
/-- pattern 2 -/
noncomputable def scan2 : List Nat → List Nat
  | 13 :: 10 :: r => 13 :: 10 :: scan2 r
  | [] => []
  | c :: r => (if c = 10 ∨ c = 13 then [13, 10] else [c]) ++ scan2 r
theorem finds2 {text : Array Nat} (hz : text.size ≤ 200000) {d : Nat} {ms} (p : Places (IsNl text) (eolLen text) text.size d ms) : Finds code2 text d ms := by
  induction p with
  | @nil d h1 h2 => exact .nil (sr2_none text d h2 h1) (by lia) h2
  | @cons d a ms h1 h2 h3 h4 h5 h6 h7 ih => exact .cons (sr2_some text d a h1 h2 h3 h4) (by (clear h6 h5 h2 h1; lia)) h1 (by lia) h5 ih
theorem scan2_two (r : List Nat) : scan2 (13 :: 10 :: r) = 13 :: 10 :: scan2 r := by rw [scan2]
theorem scan2_one {c : Nat} {r : List Nat} (h : ¬ (c = 13 ∧ ∃ r', r = 10 :: r')) : scan2 (c :: r) = (if c = 10 ∨ c = 13 then [13, 10] else [c]) ++ scan2 r := by
  rw [scan2]
  intro r' h1 h2
  exact h ⟨h1, r', h2⟩
theorem subs2 (text : Array Nat) (hz : text.size ≤ 200000) : ∃ ms, Finds code2 text 0 ms ∧ ms.length ≤ text.size ∧ subOut text (fun _ _ => [13, 10]) 0 ms = scan2 text.toList := by
  have hnext : ∀ d, d < text.size → (text.getD d 0 = 13 ∧ ∃ r', text.toList.drop (d + 1) = 10 :: r') → (text.getD d 0 = 13 ∧ d + 1 < text.size ∧ text.getD (d + 1) 0 = 10) := by
    rintro d hd ⟨h1, r', h2⟩
    have h3 : d + 1 < text.size := by
      have := congrArg List.length h2
      simp at this
      lia
    refine ⟨h1, h3, ?_⟩
    rw [drop_step h3] at h2
    exact (List.cons.inj h2).1
  obtain ⟨ms, p, q, r⟩ := places (text := text) (rep := fun _ _ => [13, 10]) (hit := IsNl text) (len := eolLen text) (fun d => by unfold IsNl; infer_instance) (fun d => scan2 (text.toList.drop d))
    (by rw [List.drop_of_length_le (by simp)]; rfl)
    (fun d hd hh => by
      unfold eolLen
      by_cases hc : text.getD d 0 = 13 ∧ d + 1 < text.size ∧ text.getD (d + 1) 0 = 10
      · rw [if_pos hc]
        refine ⟨by lia, by lia, ?_⟩
        rw [drop_step hd, drop_step hc.2.1, hc.1, hc.2.2, scan2_two]; rfl
      · rw [if_neg hc]
        refine ⟨by lia, by (clear hc hd hz; lia), ?_⟩
        rw [drop_step hd, scan2_one (fun x => hc (hnext d hd x)), if_pos (show _ ∨ _ from hh)])
    (fun d hd hh => by
      rw [drop_step hd, scan2_one (fun x => hh (.inr x.1)), if_neg (show ¬ (_ ∨ _) from hh)]; rfl) text.size 0 (by lia)
  exact ⟨ms, finds2 hz p, q, r⟩
end Mine
end
section
namespace Mine
theorem g_re1 (w : World) : mgL w (PySem.Str.ofString "twin_re_1_smtplib") = some (.ref 36) := by kernel_rfl
theorem g_re2 (w : World) : mgL w (PySem.Str.ofString "_twin_re_2") = some (.ref 41) := by kernel_rfl
theorem g_crlf (w : World) : mgL w (PySem.Str.ofString "CRLF_smtplib") = some (.str ⟨#[13, 10]⟩ 342) := by kernel_rfl
theorem scan1_len : ∀ (b : Bool) (l : List Nat), (scan1 b l).length ≤ 2 * l.length
  | _, [] => by simp [scan1]
  | b, c :: r => by
    have := scan1_len (c == 10) r
    simp only [scan1, List.length_append, List.length_cons]
    split <;> simp <;> lia
theorem scan2_len (l : List Nat) : (scan2 l).length ≤ 2 * l.length := by
  fun_induction scan2 l with
  | case1 r ih => simp only [List.length_cons]; lia
  | case2 => simp
  | case3 c r h ih =>
    simp only [List.length_append, List.length_cons]
    split <;> simp <;> lia
set_option maxHeartbeats 2000000 in
theorem quoteP_ok {w : World} {A : Around} {s : Shared} (U : Up w s.heap) (hd : A.depth < recursionLimit) (hA : A.handled = none) (b : Array UInt8) (t : Nat) (hb : b.size ≤ 50000) :
    wpAny (model pw w) A (call (.ref 48) [.bytes b t]) (Back (.bytes ((scan1 true (b.map (·.toNat)).toList).map Nat.toUInt8).toArray) s) (fun _ _ => False) s := by
  refine call_of 5 48 47 (S "_quote_periods") (.str (S "cpy313.smtplib") 282) _ [(S "bindata", .bytes b t)] U hd (by kernel_rfl) ⟨o47B w.params, _, _, by kernel_rfl, rfl, rfl⟩ (by kernel_rfl) (by kernel_rfl) (by kernel_rfl) (by kernel_rfl) (by kernel_rfl) (by decide +kernel) fun h₁ F U₁ => ?_
  obtain ⟨ms, q1, q2, q3⟩ := subs1 (b.map (·.toNat)) (by rw [Array.size_map]; lia)
  have hln : (subOut (b.map (·.toNat)) (fun _ _ => [46, 46]) 0 ms).length ≤ 300000 := by
    rw [q3]
    refine Nat.le_trans (scan1_len true (b.map (·.toNat)).toList) ?_
    rw [Array.length_toList, Array.size_map]
    lia
  repeat' (first
    | ((with_reducible show wpAny _ _ (eval (PySem.Expr.Name _ _) _) _ _ _); (first | ((with_reducible show wpAny _ _ (eval (PySem.Expr.Name (PySem.Str.ofString "twin_re_1_smtplib") _) _) _ _ _); refine name_g (by assumption) (by assumption) (by kernel_rfl) (by kernel_rfl) (g_re1 _) (by decide +kernel) ?_) | ((with_reducible show wpAny _ _ (eval (PySem.Expr.Name (PySem.Str.ofString "_twin_re_2") _) _) _ _ _); refine name_g (by assumption) (by assumption) (by kernel_rfl) (by kernel_rfl) (g_re2 _) (by decide +kernel) ?_) | ((with_reducible show wpAny _ _ (eval (PySem.Expr.Name (PySem.Str.ofString "CRLF_smtplib") _) _) _ _ _); refine name_g (by assumption) (by assumption) (by kernel_rfl) (by kernel_rfl) (g_crlf _) (by decide +kernel) ?_)); try dsimp only)
    | (walk1; try dsimp only)
    | ((with_reducible show wpAny _ _ (getMethod (Value.ref 36) _ _) _ _ _); refine evp_any (knows w U₁) (by exact hA) (meth1 _ _ _) ?_; try dsimp only)
    | ((with_reducible show wpAny _ _ (call (Value.builtin "re.Pattern.sub") _) _ _ _); refine sub1_call (by exact hA) U₁ q1 hb (by simpa using q2) hln ?_; rw [q3]; rintro v s' ⟨tv, rfl⟩ G)
    | fail "no")
  all_goals exact ⟨rfl, fun b o e => G.keep _ _ (F.keep _ _ e), G.gens, G.os⟩
set_option maxHeartbeats 2000000 in
theorem fixE_ok {w : World} {A : Around} {s : Shared} (U : Up w s.heap) (hd : A.depth < recursionLimit) (hA : A.handled = none) (x : PySem.Str) (t : Nat) (hb : x.cps.size ≤ 50000) :
    wpAny (model pw w) A (call (.ref 55) [.str x t]) (Back (.str ⟨(scan2 x.cps.toList).toArray⟩) s) (fun _ _ => False) s := by
  refine call_of 6 55 54 (S "_fix_eols") (.str (S "cpy313.smtplib") 282) _ [(S "data", .str x t)] U hd (by kernel_rfl) ⟨o54B w.params, _, _, by kernel_rfl, rfl, rfl⟩ (by kernel_rfl) (by kernel_rfl) (by kernel_rfl) (by kernel_rfl) (by kernel_rfl) (by decide +kernel) fun h₁ F U₁ => ?_
  obtain ⟨ms, q1, q2, q3⟩ := subs2 x.cps (by lia)
  have hln : (subOut x.cps (fun _ _ => [13, 10]) 0 ms).length ≤ 300000 := by
    rw [q3]
    refine Nat.le_trans (scan2_len x.cps.toList) ?_
    rw [Array.length_toList]
    lia
  repeat' (first
    | ((with_reducible show wpAny _ _ (eval (PySem.Expr.Name _ _) _) _ _ _); (first | ((with_reducible show wpAny _ _ (eval (PySem.Expr.Name (PySem.Str.ofString "twin_re_1_smtplib") _) _) _ _ _); refine name_g (by assumption) (by assumption) (by kernel_rfl) (by kernel_rfl) (g_re1 _) (by decide +kernel) ?_) | ((with_reducible show wpAny _ _ (eval (PySem.Expr.Name (PySem.Str.ofString "_twin_re_2") _) _) _ _ _); refine name_g (by assumption) (by assumption) (by kernel_rfl) (by kernel_rfl) (g_re2 _) (by decide +kernel) ?_) | ((with_reducible show wpAny _ _ (eval (PySem.Expr.Name (PySem.Str.ofString "CRLF_smtplib") _) _) _ _ _); refine name_g (by assumption) (by assumption) (by kernel_rfl) (by kernel_rfl) (g_crlf _) (by decide +kernel) ?_)); try dsimp only)
    | (walk1; try dsimp only)
    | ((with_reducible show wpAny _ _ (getMethod (Value.ref 41) _ _) _ _ _); refine evp_any (knows w U₁) (by exact hA) (meth2 _ _ _) ?_; try dsimp only)
    | ((with_reducible show wpAny _ _ (call (Value.builtin "re.Pattern.sub") _) _ _ _); refine sub2_call (by exact hA) U₁ q1 hb q2 hln ?_; rw [q3]; rintro v s' ⟨tv, rfl⟩ G)
    | fail "no")
  all_goals exact ⟨rfl, fun b o e => G.keep _ _ (F.keep _ _ e), G.gens, G.os⟩
end Mine
end
section
namespace Mine
open PySem.Builtin.Re PySem.Builtin
theorem slot_grp : Slot "re.Match" "group" "re.Match.group" :=
  .of (owner := "re.Match") (n := "group") (by rw [typeLookup_type, builtinLookup_eq_fast]; kernel_rfl) (by decide +kernel) (by decide +kernel) (by decide +kernel)
    (by first | exact .inl (by decide +kernel) | exact .inr (by decide +kernel)) (by rw [isSubtype_type]; kernel_rfl)
theorem entry_grp : entryFor table "re.Match.group" = some «re.Match.group» := entryFor_of_tree (by kernel_rfl)
theorem type_grp : typeOf (.builtin "re.Match.group") = pure (.type "method_descriptor") := by show builtinType _ = _; rw [builtinType_eq_fast]; kernel_rfl
theorem args_grp (a b : Value) : argsOk "re.Match.group" ⟨[a, b], []⟩ := by unfold argsOk; kernel_rfl
theorem plainAttrs_match : PlainAttrs "re.Match" :=
  ⟨⟨"object.__getattribute__", by rw [typeLookup_type, builtinLookup_eq_fast]; kernel_rfl, by decide +kernel⟩, by rw [typeLookup_type, builtinLookup_eq_fast]; kernel_rfl⟩
noncomputable def oT (a e : Nat) : Obj := ⟨.type "tuple", none, .seq #[rawInt a, rawInt e] 0, #[]⟩
noncomputable def oM (x : PySem.Str) (t : Tok) (z : Nat) (T : Addr) : Obj := ⟨.type "re.Match", none, .fields #[.str x t, .ref 60, rawInt 0, rawInt z, rawInt (-1), .ref T], #[]⟩
theorem nokw_ev (w : World) (a b : Value) (k : Nat) : evp w .nil (noKeywords "Match.group" ⟨[a, b], []⟩) k = some (.ok (), k) := by kernel_rfl
theorem asint_ev (w : World) (i : Int) (u k : Nat) : evp w .nil (asInt? (.int i u)) k = some (.ok (some i), k) := by kernel_rfl
theorem asidx_ev (w : World) (i : Int) (u k : Nat) : evp w .nil (asIndex (.int i u)) k = some (.ok i, k) := by kernel_rfl
theorem text_ev (w : World) (x : PySem.Str) (t k : Nat) : evp w .nil (reTextOf (.str x t)) k = some (.ok (x.cps, 0), k) := by kernel_rfl
theorem num_ev (w : World) (fs : Array Value) (a e : Int) (u k : Nat) : evp w .nil (reGroupNumber ⟨fs, #[a, e]⟩ (.int 0 u)) k = some (.ok 0, k) := by kernel_rfl
theorem typeIs_of {s : Shared} {a : Addr} {o : Obj} {T : String} (h : s.heap.get? a = some o) (hc : o.cls = .type T) : s.TypeIs (.ref a) T := by
  exact ⟨_, h, hc⟩
set_option maxHeartbeats 1000000 in
theorem group_ok {w : World} {A : Around} {E : Value → Shared → Prop} {s : Shared} {Q : Value → Shared → Prop} (hA : A.handled = none) {m T : Addr} {x : PySem.Str} {t u : Tok} {z a e : Nat} (h1 : s.heap.get? m = some (oM x t z T)) (h2 : s.heap.get? T = some (oT a e))
    (hz : x.cps.size ≤ 100000) (h : ∀ v k, Val 0 v (x.cps.extract a e).toList → Q v { s with toks := k }) : wpAny (model pw w) A (call (.builtin "re.Match.group") [.ref m, .int 0 u]) Q E s := by
  refine wpAny_call_entry slot_grp (typeIs_of h1 rfl) entry_grp ?_ (args_grp _ _)
  unfold «re.Match.group»
  refine wpAny_bind (evp_any knows_nil (by exact hA) (nokw_ev w _ _ _) ?_)
  dsimp only
  unfold reFound
  refine wpAny_bind (wpAny_bind (wpAny_fieldsOf h1 rfl (wpAny_bind ?_)))
  unfold reRawItems
  refine wpAny_bind (wpAny_seqItems h2 rfl (wpAny_pure (wpAny_pure ?_)))
  have e1 : ((some #[rawInt (a : Int), rawInt (e : Int)]).getD #[]).map reRawOf = #[(a : Int), (e : Int)] := by kernel_rfl
  rw [e1]
  refine wpAny_bind (evp_any knows_nil (by exact hA) (num_ev w _ _ _ _ _) ?_)
  refine wpAny_bind ?_
  show wpAny _ _ (if (decide ((a : Int) < 0) || decide ((e : Int) < 0)) = true then pure .none else (do let (text, kind) ← reTextOf (.str x t); reSlice text kind a e)) _ _ _
  rw [if_neg (by simp)]
  refine wpAny_bind (evp_any knows_nil (by exact hA) (text_ev w _ _ _) ?_)
  exact slice_ok hz fun v k hv => wpAny_pure ⟨_, rfl, h _ _ hv⟩
theorem grp_meth {M : Model} {A : Around} {E : Value → Shared → Prop} {s : Shared} {m T : Addr} {x : PySem.Str} {t : Tok} {z : Nat} {pl : Sem Bool} {Q : Value × List Value → Shared → Prop} (h1 : s.heap.get? m = some (oM x t z T)) (h : Q (.builtin "re.Match.group", [.ref m]) s) : wpAny M A (getMethod (.ref m) (PySem.Str.ofString "group") pl) Q E s := by
  refine getMethod_builtin (typeIs_of h1 rfl) plainAttrs_match slot_grp type_grp ?_ h
  intro a e
  cases e
  exact ⟨_, h1, rfl⟩
/-- a call of one of the top's defs in the text -/
theorem cw_def {w : World} {A : Around} {E : Value → Shared → Prop} {s : Shared} {env : Env} {pos : Pos} {f : Addr} {o : Obj} {fd : FuncData} {e : PySem.Expr} {rest : List PySem.Expr} {Q : Value → Shared → Prop} (ho : (TL w.params).tree.get f = some o) (hdat : o.data = .func fd)
    (h : wpAny (model pw w) A (spliced (backTo pos (starEach (e :: rest) env))) (fun vs s₁ => Up w s₁.heap ∧ wpAny (model pw w) A (call (.ref f) vs) Q E s₁) E s)
    (he : starEach (e :: rest) env = (false, eval e env) :: starEach rest env) :
    wpAny (model pw w) A (callWith pos (.ref f) [] (backTo pos (starEach (e :: rest) env)) []) Q E s :=
  callWith_def hdat (wpAny_mono h (fun vs s₁ x => ⟨up_get w x.1 ho, x.2⟩) fun _ _ x => x) he
theorem g_unq (w : World) : mgL w (PySem.Str.ofString "unquote") = some (.ref 83) := by kernel_rfl
set_option maxHeartbeats 2000000 in
theorem unqM_ok {w : World} {A : Around} {s : Shared} (U : Up w s.heap) (hd : A.depth + 1 < recursionLimit) (hA : A.handled = none) (m T : Addr) (x : PySem.Str) (t : Tok) (z a n : Nat) (h1 : s.heap.get? m = some (oM x t z T)) (h2 : s.heap.get? T = some (oT a (a + 3))) (hz : x.cps.size ≤ 100000)
    (hn : n < 256) (hx : (x.cps.extract a (a + 3)).toList = (hexS n).cps.toList) :
    wpAny (model pw w) A (call (.ref 126) [.ref m]) (Back (.str ⟨#[n]⟩) s) (fun _ _ => False) s := by
  refine call_of 30 126 125 (S "_unquote_match") (.str (S "cpy313.email.quoprimime") 1440) _ [(S "match", .ref m)] U (by lia) (by kernel_rfl) ⟨o125L w.params, _, _, by kernel_rfl, rfl, rfl⟩ (by kernel_rfl) (by kernel_rfl) (by kernel_rfl) (by kernel_rfl) (by kernel_rfl) (by decide +kernel) fun h₁ F U₁ => ?_
  have N : News s.heap s.heap.objs.size h₁ [] := News.nil
  have k1 := F.keep _ _ h1
  have k2 := F.keep _ _ h2
  repeat' (first
    | ((with_reducible show wpAny _ _ (eval (PySem.Expr.Name _ _) _) _ _ _); (first | ((with_reducible show wpAny _ _ (eval (PySem.Expr.Name (PySem.Str.ofString "unquote") _) _) _ _ _); refine name_g (by assumption) (by assumption) (by kernel_rfl) (by kernel_rfl) (g_unq _) (by decide +kernel) ?_)); try dsimp only)
    | (walk1; try dsimp only)
    | ((with_reducible show wpAny _ _ (getMethod (Value.ref _) _ _) _ _ _); refine grp_meth k1 ?_; try dsimp only)
    | ((with_reducible show wpAny _ _ (call (Value.builtin "re.Match.group") _) _ _ _); refine group_ok (by exact hA) k1 k2 hz ?_; rw [hx]; rintro v k ⟨tv, rfl⟩; try dsimp only)
    | ((with_reducible show wpAny _ _ (callWith _ (Value.ref 83) _ _ _) _ _ _); refine cw_def (o := o83I w.params) (by kernel_rfl) rfl ?_ (by rfl))
    | ((with_reducible show Up _ _ ∧ _); rename Fr _ _ _ _ => FX; refine ⟨fun b o e => FX.keep _ _ (U _ _ e), ?_⟩)
    | ((with_reducible show Up _ _); rename Fr _ _ _ _ => FX; exact fun b o e => FX.keep _ _ (U _ _ e))
    | ((with_reducible show wpAny _ _ (call (Value.ref 83) _) _ _ _); rename Fr _ _ _ _ => FX; refine wpAny_mono (unquote_ok (fun b o e => FX.keep _ _ (U _ _ e)) (by exact hd) _ _ n (by rfl) hn) ?_ (fun _ _ x => x.elim); rintro v s' ⟨hv, G⟩; try dsimp only)
    | fail "no")
  all_goals rename Fr _ _ _ _ => FX; exact ⟨hv, fun b o e => G.keep _ _ (FX.keep _ _ e), G.gens, G.os⟩
theorem newMatch_ok {w : World} {A : Around} {E : Value → Shared → Prop} {s : Shared} {Q : Value → Shared → Prop} {x : PySem.Str} {t : Tok} {z a e : Nat} {m : Sre.M} (q1 : m.start = a) (q2 : m.handed = e) (q3 : m.lastindex = -1)
    (h : ∀ h', h'.get? s.heap.objs.size = some (oT a e) → h'.get? (s.heap.objs.size + 1) = some (oM x t z s.heap.objs.size) → Keeps s.heap h' → Q (.ref (s.heap.objs.size + 1)) { s with heap := h' }) :
    wpAny (model pw w) A (reNewMatch (.ref 60) (.str x t) 0 0 z m) Q E s := by
  unfold reNewMatch
  simp only [List.range_zero, List.flatMap_nil, List.any_nil, Bool.false_eq_true, if_false]
  refine wpAny_bind (wpAny_newObj_type ?_ (by show #[_, _].size ≤ sizeLine; rw [sizeLine_eq]; exact Nat.le_of_ble_eq_true rfl))
  refine wpAny_newObj_type ?_ (by show #[_, _, _, _, _, _].size ≤ sizeLine + 2; rw [sizeLine_eq]; exact Nat.le_of_ble_eq_true rfl)
  have k1 : (s.heap.push (oT a e)).get? s.heap.objs.size = some (oT a e) := Heap.get?_push_size _ rfl
  have hsz : (s.heap.push (oT a e)).objs.size = s.heap.objs.size + 1 := by simp [Heap.push]
  rw [q1, q2, q3]
  have := h ((s.heap.push (oT a e)).push (oM x t z s.heap.objs.size)) (Heap.get?_push_of_some _ k1) (by rw [← hsz]; exact Heap.get?_push_size _ rfl) (fun b o e => Heap.get?_push_of_some _ (Heap.get?_push_of_some _ e))
  rw [← hsz] at this
  exact this
set_option maxHeartbeats 1000000 in
theorem call_loop {w : World} {A : Around} (hA : A.handled = none) (hdp : A.depth + 2 < recursionLimit) {x : PySem.Str} {t : Tok} {rep : Nat → Nat → List Nat} {l : Addr} (s₀ : Shared) (U₀ : Up w s₀.heap) (hl₀ : s₀.heap.get? l = none)
    (hsz : x.cps.size ≤ 50000) {R : Result → Shared → Prop} {d : Nat} {ms : List (Nat × Nat)} (hf : Finds code3 x.cps d ms) (hm : ∀ p ∈ ms, ∃ n, n < 256 ∧ p.2 = p.1 + 3 ∧ (x.cps.extract p.1 (p.1 + 3)).toList = (hexS n).cps.toList ∧ rep p.1 p.2 = [n]) : ∀ (n : Nat) (items : Array Value) (c : Nat) (xs : List (List Nat)) (s : Shared),
      Grow s₀ s → s.heap.get? l = some (oL items c) → ValsAre 0 items.toList xs → items.size + 2 * ms.length ≤ 199990 → (xs.flatten ++ subOut x.cps rep d ms).length ≤ 300000 →
      (∀ v s', Val 0 v (xs.flatten ++ subOut x.cps rep d ms) → Grow s₀ s' → R (.ok (.ret v)) s') →
    codeAny (model pw w) A (.builtin "re.Pattern.sub.loop" ⟨[.ref 60, .str x t, .ref 126, rawInt 1, rawInt 0, rawInt n, rawInt d, rawInt d, .bool false, .ref l, .bool false], []⟩) R s := by
  induction hf with
  | @nil d b g hb hd =>
    intro n items c xs s G hl hv hi hlen hR
    refine codeAny_builtin ent_sub ?_
    rw [Around.under_plainId plain_sub]
    unfold «re.Pattern.sub.loop»
    dsimp only
    have U : Up w s.heap := fun b o e => G.keep _ _ (U₀ _ _ e)
    refine wpAny_bind (evp_any (knows w U) (by exact hA) (whole3_ev w _ _ _) ?_)
    dsimp only
    rw [if_neg (by decide), if_neg (by simp)]
    refine wpAny_bind (toEnd_off g hb ?_)
    show wpAny _ _ (if d < x.cps.size then (do updateSeq l (·.push (← reSlice x.cps 0 d x.cps.size)); subTail x.cps 0 l n) else subTail x.cps 0 l n) _ _ _
    by_cases h : d < x.cps.size
    · rw [if_pos h]
      refine wpAny_bind (slice_ok (by (clear h hlen hi hd hb hdp; lia)) fun v k hv' => wpAny_bind (push_ok hl (by simp at hi; (clear h hlen hd hb hsz hdp; lia)) fun h' c' hl' hs => ?_))
      have e : (xs ++ [(x.cps.extract d x.cps.size).toList]).flatten = xs.flatten ++ subOut x.cps rep d [] := by simp [subOut]
      refine subTail_ok (by exact hA) (by (clear h hlen hi hd hb hdp; lia)) (joinsS w) hl' (by rw [Array.toList_push]; exact hv.snoc hv') (by rw [Array.size_push]; simp at hi; (clear h hlen hd hb hsz hdp; lia)) (by rw [e]; exact hlen) fun v k hv => ?_
      rw [e] at hv
      exact hR _ _ hv ⟨keeps_same G.keep hl₀ hs, G.gens, G.os⟩
    · rw [if_neg h]
      have e : xs.flatten = xs.flatten ++ subOut x.cps rep d [] := by
        show _ = _ ++ (x.cps.extract d x.cps.size).toList
        rw [ext_nil h, List.append_nil]
      refine subTail_ok (by exact hA) (by (clear hlen hi hb hdp; lia)) (joinsS w) hl hv (by simp at hi; (clear h hlen hd hb hsz hdp; lia)) (by rw [e]; exact hlen) fun v k hv => ?_
      rw [e] at hv
      exact hR _ _ hv ⟨G.keep, G.gens, G.os⟩
  | @cons d a e b ms g hb h1 h2 h3 hf ih =>
    intro n items c xs s G hl hv hi hlen hR
    refine codeAny_builtin ent_sub ?_
    rw [Around.under_plainId plain_sub]
    unfold «re.Pattern.sub.loop»
    dsimp only
    have U : Up w s.heap := fun b o e => G.keep _ _ (U₀ _ _ e)
    refine wpAny_bind (evp_any (knows w U) (by exact hA) (whole3_ev w _ _ _) ?_)
    dsimp only
    rw [if_neg (by decide), if_neg (by simp)]
    refine wpAny_bind (toEnd_at g hb fun m q1 q2 q3 => ?_)
    have hi' : items.size + 2 * ms.length + 2 ≤ 199990 := by simp only [List.length_cons] at hi; lia
    obtain ⟨nn, n1, n2, n3, n4⟩ := hm (a, e) (.head _)
    dsimp only at n2 n3 n4
    show wpAny _ _ (if d < m.start then (do updateSeq l (·.push (← reSlice x.cps 0 d m.start)); (if (1 == 0) = true then _ else _)) else (if (1 == 0) = true then _ else _)) _ _ _
    rw [q1]
    have key : ∀ (items' : Array Value) (c' : Nat) (xs' : List (List Nat)) (s' : Shared), Grow s₀ s' → s'.heap.get? l = some (oL items' c') → ValsAre 0 items'.toList xs' → items'.size ≤ items.size + 1 → xs'.flatten = xs.flatten ++ (x.cps.extract d a).toList →
        wpAny (model pw w) A.in1 (do
          let found ← reNewMatch (.ref 60) (.str x t) 0 0 x.cps.size m
          let item ← holding [found] (if (1 == 1) = true then call (.ref 126) [found] else do reExpand (.ref 126) (← reFound found))
          if (item != .none) = true then do
            updateSeq l (·.push item)
            again (.builtin "re.Pattern.sub.loop" ⟨[.ref 60, .str x t, .ref 126, rawInt 1, rawInt 0, rawInt ((n : Int) + 1), rawInt m.handed, rawInt m.handed, .bool (m.handed == a), .ref l, .bool false], []⟩)
          else again (.builtin "re.Pattern.sub.loop" ⟨[.ref 60, .str x t, .ref 126, rawInt 1, rawInt 0, rawInt ((n : Int) + 1), rawInt m.handed, rawInt m.handed, .bool (m.handed == a), .ref l, .bool false], []⟩)) (fun fin s' => match fin with | .done f => R (.ok f) s' | .again c' => c'.quiet = true ∧ codeAny (model pw w) A c' R s') (fun e s' => R (.error e) s') s' := by
      intro items' c' xs' s' G' hl' hv' hz hx
      refine wpAny_bind (newMatch_ok q1 q2 q3 fun h' t1 t2 kp => ?_)
      refine wpAny_bind (wpAny_holding ?_)
      rw [if_pos (by decide)]
      refine wpAny_mono (unqM_ok (fun b o e => kp _ _ (G'.keep _ _ (U₀ _ _ e))) (by exact Nat.lt_of_succ_lt hdp) (by exact hA) _ _ x t _ a nn t2 (by rw [← n2]; exact t1) (by (clear hz n2 n1 hi' q3 q2 q1 hlen hi ih h3 h2 h1 hb hdp; lia)) n1 n3) ?_ (fun _ _ x => x.elim)
      rintro v s₂ ⟨hv2, G2⟩
      obtain ⟨tv, rfl⟩ : ∃ tv, v = .str ⟨[nn].toArray⟩ tv := by
        cases v <;> first | exact hv2.elim | exact ⟨_, by rw [show _ = _ from hv2]⟩
      rw [if_pos (by rfl)]
      refine wpAny_bind (push_ok (G2.keep _ _ (kp _ _ hl')) (by (clear n2 n1 q3 q2 q1 hlen hi ih h3 h2 h1 hb hsz hdp; lia)) fun h'' c'' hl'' hs => wpAny_pure ⟨plainId_quiet plain_sub _, ?_⟩)
      rw [q2, show (e == a) = false from by simp; (clear hz n1 hi' q3 hlen hi ih h3 h2 h1 hb hsz hdp; lia)]
      have e1 : (xs' ++ [[nn]]).flatten ++ subOut x.cps rep e ms = xs.flatten ++ subOut x.cps rep d ((a, e) :: ms) := by
        simp [subOut, hx, n4]
      refine ih (fun p hp => hm p (.tail _ hp)) (n + 1) (items'.push _) c'' (xs' ++ [[nn]]) _ ⟨keeps_same (fun b o e => G2.keep _ _ (kp _ _ (G'.keep _ _ e))) hl₀ hs, G2.gens.trans G'.gens, G2.os.trans G'.os⟩ hl'' (by rw [Array.toList_push]; exact hv'.snoc ⟨_, rfl⟩) (by rw [Array.size_push]; (clear n2 n1 q3 q2 q1 hlen hi ih h3 h2 h1 hb hsz hdp; lia)) (by rw [e1]; exact hlen) (by rw [e1]; exact hR)
    by_cases h : d < a
    · rw [if_pos h]
      refine wpAny_bind (slice_ok (by (clear h n2 n1 hi' q3 q2 q1 hlen hi ih h3 h2 h1 hb hdp; lia)) fun v k hv' => wpAny_bind (push_ok hl (by (clear h n2 n1 q3 q2 q1 hlen hi ih h3 h2 h1 hb hsz hdp; lia)) fun h' c' hl' hs => ?_))
      rw [if_neg (by decide)]
      exact key _ _ _ _ ⟨keeps_same G.keep hl₀ hs, G.gens, G.os⟩ hl' (by rw [Array.toList_push]; exact hv.snoc hv') (by rw [Array.size_push]; (clear h n2 n1 hi' q3 q2 q1 hlen hi ih h3 h2 h1 hb hsz hdp; lia)) (by simp)
    · rw [if_neg h]
      rw [if_neg (by decide)]
      exact key _ _ _ _ ⟨G.keep, G.gens, G.os⟩ hl hv (by (clear h n2 n1 hi' q3 q2 q1 hlen hi ih h3 h2 h1 hb hsz hdp; lia)) (by rw [ext_nil h, List.append_nil])
end Mine
end
section
namespace Mine
theorem map_join (c z : Nat) : ∀ parts : List PySem.Str, (∀ p ∈ parts, c ∉ p.cps.toList) → (PySem.Str.join ⟨#[c]⟩ parts).cps.toList.map (fun k => if k = c then z else k) = (PySem.Str.join ⟨#[z]⟩ parts).cps.toList := by
  have free : ∀ l : List Nat, c ∉ l → l.map (fun k => if k = c then z else k) = l := by
    intro l hl
    induction l with
    | nil => rfl
    | cons a l ih =>
      rw [List.map_cons, ih (fun h => hl (.tail _ h)), if_neg (fun (e : a = c) => hl (e ▸ .head _))]
  intro parts
  induction parts with
  | nil => intro _; rfl
  | cons p r ih =>
    intro h
    cases r with
    | nil => exact free _ (h p (.head _))
    | cons q r =>
      have h1 := free _ (h p (.head _))
      have h2 := ih fun x hx => h x (.tail _ hx)
      simp only [PySem.Str.join, PySem.Str.cps_append, Array.toList_append, List.map_append] at h2 ⊢
      rw [h1, h2]
      simp
theorem rep1 (x : PySem.Str) (c z : Nat) : (Txt.replace x ⟨#[c]⟩ ⟨#[z]⟩).cps.toList = x.cps.toList.map (fun k => if k = c then z else k) := by
  rw [StrLaws.replace_one, ← map_join c z _ (StrLaws.split_free x c), StrLaws.join_split]
/-- the encoded header with blanks back -/
noncomputable def hdrT (c : Nat) : List Nat := if hdrSafe c then [c] else if c = 32 then [32] else (hexS c).cps.toList
noncomputable def hv (h : Nat) : Nat := if h < 58 then h - 48 else h - 55
theorem hdr_all : ((List.range 256).all fun c => decide ((hdrS c).cps.toList.map (fun k => if k = 95 then 32 else k) = hdrT c) && decide ((hdrT c = [c] ∧ c ≠ 61) ∨ hdrT c = [61, hexd (c / 16), hexd (c % 16)]) && decide (hv (hexd (c / 16)) * 16 + hv (hexd (c % 16)) = c)) = true := by decide +kernel
theorem hdr_map (c : Nat) (h : c < 256) : (hdrS c).cps.toList.map (fun k => if k = 95 then 32 else k) = hdrT c := by
  have := List.all_eq_true.mp hdr_all c (List.mem_range.mpr h)
  simp only [Bool.and_eq_true, decide_eq_true_eq] at this
  exact this.1.1
theorem hdr_unit (c : Nat) (h : c < 256) : (hdrT c = [c] ∧ c ≠ 61) ∨ hdrT c = [61, hexd (c / 16), hexd (c % 16)] := by
  have := List.all_eq_true.mp hdr_all c (List.mem_range.mpr h)
  simp only [Bool.and_eq_true, decide_eq_true_eq] at this
  exact this.1.2
theorem hdr_val (c : Nat) (h : c < 256) : hv (hexd (c / 16)) * 16 + hv (hexd (c % 16)) = c := by
  have := List.all_eq_true.mp hdr_all c (List.mem_range.mpr h)
  simp only [Bool.and_eq_true, decide_eq_true_eq] at this
  exact this.2
theorem hexd_hex (d : Nat) (h : d < 16) : HexC (hexd d) := by
  unfold HexC hexd
  split <;> lia
theorem hexd_ne (d : Nat) (h : d < 16) : hexd d ≠ 61 := by
  have := hexd_hex d h
  unfold HexC at this
  lia
noncomputable def dec3 : List Nat → List Nat
  | 61 :: a :: b :: r => (hv a * 16 + hv b) :: dec3 r
  | [] => []
  | c :: r => c :: dec3 r
theorem dec3_hit (a b : Nat) (r : List Nat) : dec3 (61 :: a :: b :: r) = (hv a * 16 + hv b) :: dec3 r := by rw [dec3]
theorem dec3_miss {c : Nat} (r : List Nat) (h : c ≠ 61) : dec3 (c :: r) = c :: dec3 r := by
  rw [dec3]
  intro a b r' e
  exact absurd e h
theorem dec3_units : ∀ os : List Nat, (∀ c ∈ os, c < 256) → dec3 (os.flatMap hdrT) = os
  | [], _ => rfl
  | c :: os, h => by
    have ih := dec3_units os fun x hx => h x (.tail _ hx)
    rw [List.flatMap_cons]
    rcases hdr_unit c (h c (.head _)) with ⟨e, hc⟩ | e
    · rw [e, List.cons_append, List.nil_append, dec3_miss _ hc, ih]
    · rw [e]
      show dec3 (61 :: hexd (c / 16) :: hexd (c % 16) :: os.flatMap hdrT) = _
      rw [dec3_hit, ih, hdr_val c (h c (.head _))]
theorem tri : ∀ os : List Nat, (∀ c ∈ os, c < 256) → ∀ d, (os.flatMap hdrT)[d]? = some 61 → ∃ n, n < 256 ∧ ∃ r, (os.flatMap hdrT).drop d = 61 :: hexd (n / 16) :: hexd (n % 16) :: r
  | [], _, d, h => by simp at h
  | c :: os, hh, d, h => by
    have hc := hh c (.head _)
    have ih := tri os fun x hx => hh x (.tail _ hx)
    rw [List.flatMap_cons] at h ⊢
    rcases hdr_unit c hc with ⟨e, hne⟩ | e
    · rw [e] at h ⊢
      cases d with
      | zero => simp at h; exact absurd h hne
      | succ d =>
        rw [List.cons_append, List.nil_append, List.getElem?_cons_succ] at h
        rw [List.cons_append, List.nil_append, List.drop_succ_cons]
        exact ih d h
    · rw [e] at h ⊢
      have h16 : c / 16 < 16 := by lia
      have h17 : c % 16 < 16 := by lia
      match d, h with
      | 0, _ => exact ⟨c, hc, _, rfl⟩
      | 1, h => exact absurd (Option.some.inj h) (hexd_ne _ h16)
      | 2, h => exact absurd (Option.some.inj h) (hexd_ne _ h17)
      | d + 3, h => exact ih d h
theorem places_hits {hit : Nat → Prop} {len : Nat → Nat} {size d : Nat} {ms} (p : Places hit len size d ms) : ∀ q ∈ ms, hit q.1 ∧ q.2 = q.1 + len q.1 ∧ q.1 < size := by
  induction p with
  | nil _ _ => intro q hq; cases hq
  | cons h1 h2 h3 h4 h5 h6 h7 ih =>
    intro q hq
    cases hq with
    | head => exact ⟨h3, rfl, h2⟩
    | tail _ hq => exact ih q hq
theorem getD_of_drop {text : Array Nat} {d : Nat} {c : Nat} {r : List Nat} (h : text.toList.drop d = c :: r) : d < text.size ∧ text.getD d 0 = c ∧ text.toList.drop (d + 1) = r := by
  have hd : d < text.size := by
    have := congrArg List.length h
    simp at this
    lia
  rw [drop_step hd] at h
  exact ⟨hd, (List.cons.inj h).1, (List.cons.inj h).2⟩
/-- pattern 3 on an encoded header -/
theorem subs3 (os : List Nat) (ho : ∀ c ∈ os, c < 256) (text : Array Nat) (ht : text.toList = os.flatMap hdrT) (hz : text.size ≤ 200000) :
    ∃ ms, Finds code3 text 0 ms ∧ ms.length ≤ text.size ∧ (∀ p ∈ ms, ∃ n, n < 256 ∧ p.2 = p.1 + 3 ∧ (text.extract p.1 (p.1 + 3)).toList = (hexS n).cps.toList ∧ [hv (text.getD (p.1 + 1) 0) * 16 + hv (text.getD (p.1 + 2) 0)] = [n]) ∧
      subOut text (fun a _ => [hv (text.getD (a + 1) 0) * 16 + hv (text.getD (a + 2) 0)]) 0 ms = os := by
  have T : ∀ d, d < text.size → text.getD d 0 = 61 → ∃ n, n < 256 ∧ ∃ r, text.toList.drop d = 61 :: hexd (n / 16) :: hexd (n % 16) :: r := by
    intro d hd h
    rw [ht]
    refine tri os ho d ?_
    rw [← ht]
    simp only [Array.getElem?_toList]
    rw [← h]
    simp [Array.getD, hd]
  have T2 : ∀ d, d < text.size → text.getD d 0 = 61 → d + 3 ≤ text.size ∧ ∃ n, n < 256 ∧ text.getD (d + 1) 0 = hexd (n / 16) ∧ text.getD (d + 2) 0 = hexd (n % 16) := by
    intro d hd h
    obtain ⟨n, hn, r, e⟩ := T d hd h
    have e1 := (getD_of_drop e).2.2
    have e2 := getD_of_drop e1
    have e3 := getD_of_drop e2.2.2
    exact ⟨by have := e3.1; lia, n, hn, e2.2.1, e3.2.1⟩
  obtain ⟨ms, p, q, r⟩ := places (text := text) (rep := fun a _ => [hv (text.getD (a + 1) 0) * 16 + hv (text.getD (a + 2) 0)]) (hit := fun d => text.getD d 0 = 61) (len := fun _ => 3) (fun d => by infer_instance) (fun d => dec3 (text.toList.drop d))
    (by rw [List.drop_of_length_le (by simp)]; rfl)
    (fun d hd hh => by
      obtain ⟨h3, n, hn, g1, g2⟩ := T2 d hd hh
      refine ⟨h3, by lia, ?_⟩
      rw [drop_step hd, drop_step (show d + 1 < text.size by lia), drop_step (show d + 1 + 1 < text.size by lia), hh, dec3_hit]
      rfl)
    (fun d hd hh => by rw [drop_step hd, dec3_miss _ hh]) text.size 0 (by lia)
  have hP := places_hits p
  refine ⟨ms, ?_, q, ?_, ?_⟩
  · have fin : ∀ {d ms}, Places (fun d => text.getD d 0 = 61) (fun _ => 3) text.size d ms → Finds code3 text d ms := by
      intro d ms p
      induction p with
      | @nil d h1 h2 => exact .nil (sr3_none text d h2 h1) (by lia) h2
      | @cons d a ms h1 h2 h3 h4 h5 h6 h7 ih =>
        obtain ⟨_, n, hn, g1, g2⟩ := T2 a h2 h3
        exact .cons (sr3_some text d a h1 h5 h3 (by rw [g1]; exact hexd_hex _ (by lia)) (by rw [g2]; exact hexd_hex _ (by lia)) h4) (by lia) h1 (by lia) h5 ih
    exact fin p
  · intro p hp
    obtain ⟨a1, a2, a3⟩ := hP p hp
    obtain ⟨h3, n, hn, g1, g2⟩ := T2 p.1 a3 a1
    refine ⟨n, hn, a2, ?_, ?_⟩
    · rw [ext_step (by lia) h3, ext_step (by lia) h3, ext_step (by lia) h3, ext_nil (by lia), a1, g1, g2]
      rfl
    · rw [g1, g2, hdr_val n hn]
  · rw [r, List.drop_zero, ht, dec3_units os ho]
end Mine
end
section
namespace Mine
open PySem.Builtin.Re PySem.Builtin
theorem g_re3 (w : World) : mgL w (PySem.Str.ofString "twin_re_1_quoprimime") = some (.ref 60) := by kernel_rfl
theorem g_um (w : World) : mgL w (PySem.Str.ofString "_unquote_match") = some (.ref 126) := by kernel_rfl
theorem call_evF (w : World) (k : Nat) : evp w (TL w.params).tree (specialOf (.ref 126) (PySem.Str.ofString "__call__")) k = some (.ok (some (.builtin "function.__call__")), k) := by kernel_rfl
theorem held_ev (w : World) (x : PySem.Str) (t k : Nat) : evp w .nil (reNotHeld "re.Pattern.sub" (.str x t)) k = some (.ok (), k) := by kernel_rfl
theorem hdr_len : ∀ (os : List Nat), (∀ c ∈ os, c < 256) → os.length ≤ (os.flatMap hdrT).length
  | [], _ => by simp
  | c :: os, ho => by
    rw [List.flatMap_cons, List.length_append, List.length_cons]
    have := hdr_len os (fun x hx => ho x (.tail _ hx))
    have : 1 ≤ (hdrT c).length := by
      rcases hdr_unit c (ho c (.head _)) with ⟨e, _⟩ | e <;> rw [e] <;> simp
    lia
set_option maxHeartbeats 1000000 in
theorem sub3_call {w : World} {A : Around} {E : Value → Shared → Prop} {s : Shared} {Q : Value → Shared → Prop} (hA : A.handled = none) (hdp : A.depth + 2 < recursionLimit) (U : Up w s.heap) {x : PySem.Str} {t : Tok} (os : List Nat) (ho : ∀ c ∈ os, c < 256) (ht : x.cps.toList = os.flatMap hdrT)
    (hsz : x.cps.size ≤ 50000) (h : ∀ v s', Val 0 v os → Grow s s' → Q v s') :
    wpAny (model pw w) A (call (.builtin "re.Pattern.sub") [.ref 60, .ref 126, .str x t]) Q E s := by
  obtain ⟨ms, q1, q2, q3, q4⟩ := subs3 os ho x.cps ht (by lia)
  refine wpAny_call (codeAny_call_builtin plain_s ent_s (evp_any (knows w U) (by exact hA) (chk3 w _ _ _) ?_))
  unfold «re.Pattern.sub» reSubstitute
  dsimp only
  refine wpAny_bind (evp_any knows_nil (by exact hA) (named_ev w _ _ _) ?_)
  dsimp only
  refine wpAny_bind (wpAny_pure ?_)
  refine wpAny_bind (evp_any (knows w U) (by exact hA) (call_evF w _) ?_)
  rw [if_pos (by rfl)]
  refine wpAny_bind (wpAny_pure ?_)
  rw [if_pos (by rfl)]
  refine wpAny_bind (wpAny_pure ?_)
  dsimp only
  refine wpAny_bind (wpAny_holding (evp_any (knows w U) (by exact hA) (whole3_ev w _ _ _) ?_))
  rw [if_pos (by decide)]
  refine wpAny_bind (evp_any knows_nil (by exact hA) (held_ev w _ _ _) ?_)
  refine wpAny_bind (wpAny_newList ?_ (by decide))
  have hfree : s.heap.get? s.heap.objs.size = none := by
    cases q : s.heap.get? s.heap.objs.size with
    | none => rfl
    | some o => exact absurd (Heap.lt_size q) (Nat.lt_irrefl _)
  refine wpAny_pure ⟨plainId_quiet plain_sub _, ?_⟩
  have hlen : os.length ≤ 300000 := by
    have h1 := hdr_len os ho
    rw [← ht] at h1
    have h2 : x.cps.toList.length = x.cps.size := Array.length_toList
    lia
  exact call_loop (rep := fun a _ => [hv (x.cps.getD (a + 1) 0) * 16 + hv (x.cps.getD (a + 2) 0)]) hA hdp s U hfree hsz q1 q3 0 #[] 0 [] _ ⟨fun b o e => Heap.get?_push_of_some _ e, rfl, rfl⟩ (Heap.get?_push_size _ rfl) .nil (by simp; lia) (by rw [q4]; exact hlen) (by rw [q4]; exact h)
set_option maxHeartbeats 2000000 in
theorem hdec_ok {w : World} {A : Around} {s : Shared} (U : Up w s.heap) (hd : A.depth + 4 < recursionLimit) (hA : A.handled = none) (x : PySem.Str) (t : Nat) (os : List Nat) (ho : ∀ c ∈ os, c < 256) (hx : x.cps.toList = os.flatMap fun c => (hdrS c).cps.toList) (hz : os.length ≤ 1000) :
    wpAny (model pw w) A (call (.ref 133) [.str x t]) (Back (.str ⟨os.toArray⟩) s) (fun _ _ => False) s := by
  refine call_of 31 133 132 (S "header_decode") (.str (S "cpy313.email.quoprimime") 1440) _ [(S "s", .str x t)] U (by lia) (by kernel_rfl) ⟨o132L w.params, _, _, by kernel_rfl, rfl, rfl⟩ (by kernel_rfl) (by kernel_rfl) (by kernel_rfl) (by kernel_rfl) (by kernel_rfl) (by decide +kernel) fun h₁ F U₁ => ?_
  have N : News s.heap s.heap.objs.size h₁ [] := News.nil
  have hsz : x.cps.size ≤ 3000 := by
    rw [← Array.length_toList, hx]
    have := flat_len hdrS hdrS_len os
    lia
  have e1 : PySem.Str.ofString "_" = ⟨#[95]⟩ := by decide +kernel
  have e2 : PySem.Str.ofString " " = ⟨#[32]⟩ := by decide +kernel
  have ht : (Txt.replace x (PySem.Str.ofString "_") (PySem.Str.ofString " ")).cps.toList = os.flatMap hdrT := by
    rw [e1, e2, rep1, hx, List.map_flatMap]
    clear hx hsz hz
    induction os with
    | nil => rfl
    | cons c os ih =>
      rw [List.flatMap_cons, List.flatMap_cons, ih fun y hy => ho y (.tail _ hy), hdr_map c (ho c (.head _))]
  have hsz2 : (Txt.replace x (PySem.Str.ofString "_") (PySem.Str.ofString " ")).cps.size ≤ 50000 := by
    rw [← Array.length_toList, e1, e2, rep1, List.length_map, Array.length_toList]
    lia
  repeat' (first
    | ((with_reducible show wpAny _ _ (eval (PySem.Expr.Name _ _) _) _ _ _); (first | ((with_reducible show wpAny _ _ (eval (PySem.Expr.Name (PySem.Str.ofString "twin_re_1_quoprimime") _) _) _ _ _); refine name_g (by assumption) (by assumption) (by kernel_rfl) (by kernel_rfl) (g_re3 _) (by decide +kernel) ?_) | ((with_reducible show wpAny _ _ (eval (PySem.Expr.Name (PySem.Str.ofString "_unquote_match") _) _) _ _ _); refine name_g (by assumption) (by assumption) (by kernel_rfl) (by kernel_rfl) (g_um _) (by decide +kernel) ?_)); try dsimp only)
    | (walk1; try dsimp only)
    | ((with_reducible show wpAny _ _ (call (Value.builtin "str.replace") _) _ _ _); refine SC.replaceW (by simp) (by simp) (by simp) (by decide +kernel) (by show x.cps.size ≤ _; lia) (by decide +kernel) ?_; intro _ _; try dsimp only)
    | ((with_reducible show wpAny _ _ (getMethod (Value.ref 60) _ _) _ _ _); rename Fr _ _ _ _ => FX; refine evp_any (knows w (fun b o e => FX.keep _ _ (U _ _ e))) (by exact hA) (meth3 _ _ _) ?_; try dsimp only)
    | ((with_reducible show wpAny _ _ (call (Value.builtin "re.Pattern.sub") _) _ _ _); rename Fr _ _ _ _ => FX; refine sub3_call (by exact hA) (by exact Nat.lt_of_succ_lt hd) (fun b o e => FX.keep _ _ (U _ _ e)) os ho ht hsz2 ?_; rintro v s' ⟨tv, rfl⟩ G)
    | fail "no")
  all_goals rename Fr _ _ _ _ => FX; exact ⟨rfl, fun b o e => G.keep _ _ (FX.keep _ _ e), G.gens, G.os⟩
end Mine
end
section
namespace Mine
/-- the rest of a block, behind a letter -/
noncomputable def GoN {α : Type} (M : Model) (A : Around) (c : Sem α) (Q : α → Shared → Prop) (E : Value → Shared → Prop) (K : Flow → Shared → Prop) : Prop := ∀ s', wpAny M A c Q E s' → K .next s'
noncomputable def GoR (Q K : Flow → Shared → Prop) : Prop := ∀ f s', f ≠ .next → Q f s' → K f s'
noncomputable def GoP (R P : Flow → Shared → Prop) : Prop := ∀ f s', R f s' → P f s'
theorem goN {α : Type} {M : Model} {A : Around} {c : Sem α} {Q : α → Shared → Prop} {E : Value → Shared → Prop} {K : Flow → Shared → Prop} {s' : Shared} (h : GoN M A c Q E K) (hw : wpAny M A c Q E s') : K .next s' := h s' hw
theorem goR {Q K : Flow → Shared → Prop} {v : Value} {s' : Shared} (h : GoR Q K) (hw : Q (.ret v) s') : K (.ret v) s' := h _ s' (fun e => by cases e) hw
theorem goCont {Q K : Flow → Shared → Prop} {s' : Shared} (h : GoR Q K) (hw : Q .cont s') : K .cont s' := h _ s' (fun e => by cases e) hw
theorem cons_gen {M : Model} {A : Around} {E : Value → Shared → Prop} {s : Shared} {st : PySem.Stmt} {rest : List PySem.Stmt} {env : Env} {Q : Flow → Shared → Prop} (h : ∀ K, GoN M A (execs rest env) Q E K → GoR Q K → wpAny M A (exec st env) K E s) : wpAny M A (execs (st :: rest) env) Q E s :=
  wpAny_execs_cons (h _ (fun _ h => h) (fun f s' hf hq => by cases f <;> first | exact absurd rfl hf | exact hq))
theorem cons_one {M : Model} {A : Around} {E : Value → Shared → Prop} {s : Shared} {st : PySem.Stmt} {env : Env} {Q : Flow → Shared → Prop} (h : wpAny M A (exec st env) Q E s) : wpAny M A (execs [st] env) Q E s :=
  wpAny_execs_cons (wpAny_mono h (fun f s' hq => by cases f <;> first | exact wpAny_execs_nil hq | exact hq) fun _ _ x => x)
/-- after a loop's body -/
noncomputable def Turned (h₀ : Heap) (L : Addr) (own : List (Addr × Obj)) (I : Addr) (s : Shared) (J : (PySem.Str → Option Value) → List (Addr × Obj) → Prop) (f : Flow) (s₂ : Shared) : Prop :=
  (f = .next ∨ f = .cont) ∧ ∃ m₂ news₂, Fr h₀ L s₂.heap m₂ ∧ News h₀ L s₂.heap (own ++ news₂) ∧ (∀ p ∈ news₂, p.1 ≠ I) ∧ s₂.gens = s.gens ∧ s₂.os = s.os ∧ J m₂ news₂
theorem for_list {w : World} {A : Around} {s : Shared} {env : Env} {h₀ : Heap} {x : PySem.Str} {px : Pos} {body : List PySem.Stmt} {Q : Flow → Shared → Prop} {D : Addr} {vs : List Value} {c : Nat} {m : PySem.Str → Option Value} {news : List (Addr × Obj)}
    (hx : env.kindOf x = some .local) (hp : (env.scope.kind == .class || (env.scope.kind == .module && env.locals != env.globals)) = false) (hh : A.handled = none)
    (F : Fr h₀ env.locals s.heap m) (N : News h₀ env.locals s.heap ((D, oL vs.toArray c) :: news))
    (J : Nat → (PySem.Str → Option Value) → List (Addr × Obj) → Prop) (h0 : J 0 m news)
    (step : ∀ i v m₁ news₁ I o s₁, vs[i]? = some v → J i m₁ news₁ → (∀ p ∈ news₁, p.1 ≠ I) → I ≠ D → Fr h₀ env.locals s₁.heap (fun y => if y = x then some v else m₁ y) → News h₀ env.locals s₁.heap ([(I, o), (D, oL vs.toArray c)] ++ news₁) → s₁.gens = s.gens → s₁.os = s.os → ∀ P, GoP (Turned h₀ env.locals [(I, o), (D, oL vs.toArray c)] I s (J (i + 1))) P →
      wpAny (model pw w) A (execs body env) P (fun _ _ => False) s₁)
    (fin : ∀ s' m' news', Fr h₀ env.locals s'.heap m' → News h₀ env.locals s'.heap news' → s'.gens = s.gens → s'.os = s.os → J vs.length m' news' → Q .next s') :
    wpAny (model pw w) A (pyIter (.ref D)) (fun it s₂ => codeAny (model pw w) A (.forLoop (.Name x px) it body [] env) (fun r s' => match r with | .ok f => Q f s' | .error e => cameBackBy (model pw w) A env (fun _ _ => False) e s') s₂) (fun _ _ => False) s := by
  have hD := N _ (.head _)
  refine wpAny_pyIter_list (items := vs.toArray) ⟨_, hD.1, rfl, c, rfl⟩ ?_
  have N1 := News.push F N { cls := .type "list_iterator", data := .fields #[.ref D, .int 0 0] }
  have F1 := F.push { cls := .type "list_iterator", data := .fields #[.ref D, .int 0 0] }
  have hfresh : ∀ p ∈ ((D, oL vs.toArray c) :: news), p.1 ≠ s.heap.objs.size := fun p hp e => absurd (Heap.lt_size (N p hp).1) (by rw [e]; exact Nat.lt_irrefl _)
  generalize hI : s.heap.objs.size = I at N1 hfresh ⊢
  have it0 : (s.heap.push { cls := .type "list_iterator", data := .fields #[.ref D, .int 0 0] }).IsListIter I D 0 := ⟨_, (N1 _ (.head _)).1, rfl, rfl⟩
  refine codeAny_forLoop (fun k s' => ∃ i m' news', i ≤ vs.length ∧ k = vs.length + 1 - i ∧ s'.heap.IsListIter I D i ∧ Fr h₀ env.locals s'.heap m' ∧ News h₀ env.locals s'.heap ((D, oL vs.toArray c) :: news') ∧ (∀ p ∈ news', p.1 ≠ I) ∧ I ≠ env.locals ∧ h₀.get? I = none ∧ s'.gens = s.gens ∧ s'.os = s.os ∧ J i m' news') ?_ (vs.length + 1)
    ⟨0, m, news, Nat.zero_le _, rfl, it0, F1, fun p hp => N1 p (.tail _ hp), fun p hp => hfresh p (.tail _ hp), (N1 _ (.head _)).2.1, (N1 _ (.head _)).2.2, rfl, rfl, h0⟩
  rintro k s' ⟨i, m', news', hi, rfl, it', F', N', hn', hIL, hI0, hg, ho, hJ⟩
  have hID : I ≠ D := fun e => hfresh _ (.head _) e.symm
  have next : ∀ h₁ : Heap, (∀ b o, b ≠ I → s'.heap.get? b = some o → h₁.get? b = some o) → Fr h₀ env.locals h₁ m' ∧ News h₀ env.locals h₁ ((D, oL vs.toArray c) :: news') := fun h₁ hk =>
    ⟨⟨F'.ns.at' fun o e => hk _ o hIL.symm e, fun b o e => hk b o (fun q => by rw [q, hI0] at e; cases e) (F'.keep b o e), F'.above⟩, fun p hp => ⟨hk _ _ (by
      rcases List.mem_cons.mp hp with rfl | hp
      · exact hID.symm
      · exact hn' p hp) (N' p hp).1, (N' p hp).2⟩⟩
  have hl : s'.heap.IsList D vs.toArray := ⟨_, (N' _ (.head _)).1, rfl, c, rfl⟩
  by_cases hlt : i < vs.length
  · have hv : vs[i]? = some vs[i] := List.getElem?_eq_getElem hlt
    refine wpAny_pyNext_list_item (x := vs[i]) it' hl (by rw [List.getElem?_toArray]; exact hv) fun h₁ it₁ sb => ?_
    obtain ⟨F₁, N₁⟩ := next h₁ fun b o hb e => (sb.2 b hb).trans e
    refine wpAny_assign_Name (wpAny_storeName_local hx F₁.ns (fun h₂ hn₂ hs₂ => ?_) hp)
    have F₂ := F₁.set hn₂ hs₂
    have N₂ := N₁.set hs₂
    obtain ⟨o, ho₁, hc₁, hd₁⟩ := it₁
    have hI₂ : h₂.get? I = some o := (hs₂.2 I hIL).trans ho₁
    have NN : News h₀ env.locals h₂ ([(I, o), (D, oL vs.toArray c)] ++ news') := fun p hp => by
      rcases List.mem_cons.mp hp with rfl | hp
      · exact ⟨hI₂, hIL, hI0⟩
      · exact N₂ p hp
    refine wpAny_mono (Q := Turned h₀ env.locals [(I, o), (D, oL vs.toArray c)] I s (J (i + 1))) (E := fun _ _ => False) (by refine step i _ m' news' I o _ hv hJ hn' hID F₂ NN ?_ ?_ _ fun _ _ x => x; exact hg; exact ho) (fun f s₃ h₃ => ?_) fun _ _ x => x.elim
    · obtain ⟨hf, m₂, news₂, F₃, N₃, hn₃, hg₃, ho₃, hJ₃⟩ := h₃
      have G : ∃ m, m < vs.length + 1 - i ∧ ∃ i m' news', i ≤ vs.length ∧ m = vs.length + 1 - i ∧ s₃.heap.IsListIter I D i ∧ Fr h₀ env.locals s₃.heap m' ∧ News h₀ env.locals s₃.heap ((D, oL vs.toArray c) :: news') ∧ (∀ p ∈ news', p.1 ≠ I) ∧ I ≠ env.locals ∧ h₀.get? I = none ∧ s₃.gens = s.gens ∧ s₃.os = s.os ∧ J i m' news' :=
        ⟨vs.length + 1 - (i + 1), by lia, i + 1, m₂, news₂, hlt, rfl, ⟨o, (N₃ _ (.head _)).1, hc₁, hd₁⟩, F₃, fun p hp => N₃ p (.tail _ hp), hn₃, hIL, hI0, hg₃, ho₃, hJ₃⟩
      rcases hf with rfl | rfl <;> exact G
  · obtain rfl : i = vs.length := by lia
    refine wpAny_pyNext_list_end hh it' hl (by simp) fun h₁ eb => wpAny_execs_nil ?_
    obtain ⟨F₁, N₁⟩ := next h₁ fun b o hb e => eb b o hb e
    exact fin _ m' news' F₁ (fun p hp => N₁ p (.tail _ hp)) hg ho hJ
end Mine
end
section
namespace Mine
noncomputable def WStep (h₀ : Heap) (L : Addr) (s : Shared) (J : Nat → (PySem.Str → Option Value) → List (Addr × Obj) → Prop) (Q : Flow → Shared → Prop) (n : Nat) (f : Flow) (s₃ : Shared) : Prop :=
  match f with
  | .next | .cont => ∃ m₂ news₂ n', Fr h₀ L s₃.heap m₂ ∧ News h₀ L s₃.heap news₂ ∧ s₃.gens = s.gens ∧ s₃.os = s.os ∧ n' < n ∧ J n' m₂ news₂
  | .brk => Q .next s₃
  | .ret v => Q (.ret v) s₃
theorem goW {h₀ : Heap} {L : Addr} {s : Shared} {J : Nat → (PySem.Str → Option Value) → List (Addr × Obj) → Prop} {Q P : Flow → Shared → Prop} {n : Nat} {v : Value} {s' : Shared} (h : GoP (WStep h₀ L s J Q n) P) (hq : Q (.ret v) s') : P (.ret v) s' := h _ _ hq
theorem while_rule {w : World} {A : Around} {s : Shared} {env : Env} {h₀ : Heap} {L : Addr} {Q : Flow → Shared → Prop} {test : PySem.Expr} {body : List PySem.Stmt} {pos : Pos} {m : PySem.Str → Option Value} {news : List (Addr × Obj)} (J : Nat → (PySem.Str → Option Value) → List (Addr × Obj) → Prop) {n₀ : Nat}
    (F : Fr h₀ L s.heap m) (N : News h₀ L s.heap news) (hJ : J n₀ m news)
    (turn : ∀ n m₁ news₁ s₁, s₁.gens = s.gens → s₁.os = s.os → Fr h₀ L s₁.heap m₁ → News h₀ L s₁.heap news₁ → J n m₁ news₁ → ∀ P, GoP (WStep h₀ L s J Q n) P →
      wpAny (model pw w) A (isTrue test env (eval test env)) (fun b s₂ => if b = true then wpAny (model pw w) A (execs body env) P (fun _ _ => False) s₂ else Q .next s₂) (fun _ _ => False) s₁) :
    wpAny (model pw w) A (exec (.While test body [] pos) env) Q (fun _ _ => False) s := by
  refine wpAny_While (codeAny_whileLoop (fun n s' => ∃ m₁ news₁, s'.gens = s.gens ∧ s'.os = s.os ∧ Fr h₀ L s'.heap m₁ ∧ News h₀ L s'.heap news₁ ∧ J n m₁ news₁) ?_ n₀ ⟨m, news, rfl, rfl, F, N, hJ⟩)
  rintro n s' ⟨m₁, news₁, hg, ho, F₁, N₁, J₁⟩
  refine wpAny_mono (Q := fun b s₂ => if b = true then wpAny (model pw w) A (execs body env) (WStep h₀ L s J Q n) (fun _ _ => False) s₂ else Q .next s₂) (E := fun _ _ => False) (by refine turn n m₁ news₁ s' hg ho F₁ N₁ J₁ _ fun _ _ x => x) (fun b s₂ h₂ => ?_) fun _ _ x => x.elim
  cases b with
  | false =>
    simp only [Bool.false_eq_true, if_false] at h₂ ⊢
    exact wpAny_execs_nil h₂
  | true =>
    simp only [if_true] at h₂ ⊢
    refine wpAny_mono h₂ (fun f s₃ h₃ => ?_) fun _ _ x => x.elim
    cases f with
    | next =>
      obtain ⟨m₂, news₂, n', F₂, N₂, hg₂, ho₂, hn, J₂⟩ := h₃
      exact ⟨n', hn, m₂, news₂, hg₂, ho₂, F₂, N₂, J₂⟩
    | cont =>
      obtain ⟨m₂, news₂, n', F₂, N₂, hg₂, ho₂, hn, J₂⟩ := h₃
      exact ⟨n', hn, m₂, news₂, hg₂, ho₂, F₂, N₂, J₂⟩
    | brk => exact h₃
    | ret v => exact h₃
theorem upd_eq {m : PySem.Str → Option Value} {x : PySem.Str} {v : Value} (h : m x = some v) : (fun y => if y = x then some v else m y) = m := by
  funext y
  by_cases e : y = x
  · rw [if_pos e, e, h]
  · rw [if_neg e]
theorem fr_upd {h₀ : Heap} {L : Addr} {h : Heap} {m : PySem.Str → Option Value} (F : Fr h₀ L h m) {x : PySem.Str} {v : Value} (e : m x = some v) : Fr h₀ L h (fun y => if y = x then some v else m y) := by
  rw [upd_eq e]; exact F
theorem fr_grow {h₀ : Heap} {L : Addr} {h h' : Heap} {m : PySem.Str → Option Value} (F : Fr h₀ L h m) (k : Keeps h h') : Fr h₀ L h' m :=
  ⟨F.ns.at' fun o e => k _ o e, fun b o e => k _ _ (F.keep b o e), F.above⟩
theorem news_grow {h₀ : Heap} {L : Addr} {h h' : Heap} {news : List (Addr × Obj)} (N : News h₀ L h news) (k : Keeps h h') : News h₀ L h' news :=
  fun p hp => ⟨k _ _ (N p hp).1, (N p hp).2⟩
theorem tell_str {v : Value} {x : PySem.Str} (h : Tell v (.str x)) : ∃ t, v = .str x t := by
  cases v <;> first | exact h.elim | exact ⟨_, by rw [show _ = _ from h]⟩
theorem tell_bytes {v : Value} {x : Array UInt8} (h : Tell v (.bytes x)) : ∃ t, v = .bytes x t := by
  cases v <;> first | exact h.elim | exact ⟨_, by rw [show _ = _ from h]⟩
theorem tell_int {v : Value} {x : Int} (h : Tell v (.int x)) : ∃ t, v = .int x t := by
  cases v <;> first | exact h.elim | exact ⟨_, by rw [show _ = _ from h]⟩
end Mine
end
section
namespace Mine
open PySem.Builtin PySem.Builtin.Str
/-- lines at every kind of end, the last one always there -/
noncomputable def spl : List Nat → List (List Nat)
  | [] => [[]]
  | 13 :: 10 :: r => [] :: spl r
  | c :: r => if c = 10 ∨ c = 13 then [] :: spl r else match spl r with
    | h :: t => (c :: h) :: t
    | [] => [[c]]
noncomputable def att (p : List Nat) : List (List Nat) → List (List Nat)
  | [] => [p]
  | h :: t => (p ++ h) :: t
/-- without an empty last line -/
noncomputable def dle : List (List Nat) → List (List Nat)
  | [] => []
  | [h] => if h = [] then [] else [h]
  | h :: t => h :: dle t
noncomputable def lsStep (s : PySem.Str) (st : Array (Nat × Nat × Nat) × Nat) (i : Nat) : Array (Nat × Nat × Nat) × Nat :=
  if (decide (st.2 ≤ i) && Unicode.isLineBreak (s.cps.getD i 0)) = true then
    (st.1.push (st.2, i, if (s.cps.getD i 0 == 13 && s.cps[i + 1]? == some 10) = true then i + 2 else i + 1), if (s.cps.getD i 0 == 13 && s.cps[i + 1]? == some 10) = true then i + 2 else i + 1)
  else st
theorem lineSpans_eq (s : PySem.Str) : lineSpans s = (let st := (List.range' 0 s.length).foldl (lsStep s) (#[], 0); (if st.2 < s.length then st.1.push (st.2, s.length, s.length) else st.1).toList) := by
  unfold lineSpans
  simp only [Std.Legacy.Range.forIn_eq_forIn_range']
  have key : ∀ (l : List Nat) (st : Array (Nat × Nat × Nat) × Nat), l.foldl (lsStep s) st = (forIn (m := Id) l st fun i st => pure (ForInStep.yield (lsStep s st i))).run := by
    intro l
    induction l with
    | nil => intro st; rfl
    | cons a l ih => intro st; rw [List.foldl_cons, ih, List.forIn_cons]; rfl
  rw [key]
  have eb : (fun (i : Nat) (__s : Array (Nat × Nat × Nat) × Nat) => if (decide (__s.snd ≤ i) && Unicode.isLineBreak (s.cps.getD i 0)) = true then
                (pure
                  (ForInStep.yield
                    (__s.fst.push
                        (__s.snd, i,
                          if (s.cps.getD i 0 == 13 && s.cps[i + 1]? == some 10) = true then i + 2 else i + 1),
                      if (s.cps.getD i 0 == 13 && s.cps[i + 1]? == some 10) = true then i + 2 else i + 1)) : Id (ForInStep (Array (Nat × Nat × Nat) × Nat)))
              else pure (ForInStep.yield (__s.fst, __s.snd))) = fun i st => pure (ForInStep.yield (lsStep s st i)) := by
    funext i st
    unfold lsStep
    split <;> rfl
  rw [eb]
  simp [Std.Legacy.Range.size]
theorem spl_ne : ∀ l, spl l ≠ [] := by
  intro l
  fun_cases spl l <;> simp_all
theorem spl_two (r : List Nat) : spl (13 :: 10 :: r) = [] :: spl r := by rw [spl]
theorem spl_nl {c : Nat} {r : List Nat} (h : ¬ (c = 13 ∧ ∃ r', r = 10 :: r')) (hc : c = 10 ∨ c = 13) : spl (c :: r) = [] :: spl r := by
  rw [spl, if_pos hc]
  intro r' h1 h2
  exact h ⟨h1, r', h2⟩
theorem spl_char {c : Nat} {r : List Nat} (hc : ¬ (c = 10 ∨ c = 13)) : spl (c :: r) = att [c] (spl r) := by
  rw [spl, if_neg hc]
  · cases spl r <;> rfl
  · intro r' h1 h2
    exact hc (.inr h1)
theorem att_att (p q : List Nat) (l : List (List Nat)) : att p (att q l) = att (p ++ q) l := by
  cases l <;> simp [att]
theorem att_nil {l : List (List Nat)} (h : l ≠ []) : att [] l = l := by
  cases l with
  | nil => exact absurd rfl h
  | cons a t => rfl
theorem dle_cons (p : List Nat) {l : List (List Nat)} (h : l ≠ []) : dle (p :: l) = p :: dle l := by
  cases l with
  | nil => exact absurd rfl h
  | cons a t => rfl
noncomputable def txts (x : PySem.Str) (a : List (Nat × Nat × Nat)) : List (List Nat) := a.map fun p => (x.cps.extract p.1 p.2.1).toList
theorem dropS {x : PySem.Str} {d : Nat} (hd : d < x.cps.size) : x.cps.toList.drop d = x.cps.getD d 0 :: x.cps.toList.drop (d + 1) := by
  rw [List.drop_eq_getElem_cons (by simpa using hd)]
  congr 1
  simp [Array.getD, hd]
theorem extS {x : PySem.Str} {a d : Nat} (h : a ≤ d) (hd : d < x.cps.size) : (x.cps.extract a (d + 1)).toList = (x.cps.extract a d).toList ++ [x.cps.getD d 0] := by
  rw [Array.toList_extract, Array.toList_extract]
  unfold List.extract
  rw [show d + 1 - a = (d - a) + 1 from by lia, List.take_add_one]
  congr 1
  rw [List.getElem?_drop, show a + (d - a) = d from by lia]
  simp [Array.getD, hd]
theorem lines_go (x : PySem.Str) (hx : ∀ i, i < x.cps.size → Unicode.isLineBreak (x.cps.getD i 0) = (x.cps.getD i 0 == 10 || x.cps.getD i 0 == 13)) (R : List (List Nat)) : ∀ (k i : Nat) (st : Array (Nat × Nat × Nat) × Nat), i + k = x.cps.size →
    ((st.2 ≤ i ∧ txts x st.1.toList ++ dle (att (x.cps.extract st.2 i).toList (spl (x.cps.toList.drop i))) = R) ∨ (st.2 = i + 1 ∧ i < x.cps.size ∧ txts x st.1.toList ++ dle (spl (x.cps.toList.drop (i + 1))) = R)) →
    txts x (let st := (List.range' i k).foldl (lsStep x) st; (if st.2 < x.length then st.1.push (st.2, x.length, x.length) else st.1).toList) = R
  | 0, i, st, hi, h => by
    obtain rfl : i = x.cps.size := hi
    rcases h with ⟨h1, h2⟩ | ⟨_, h2, _⟩
    · show txts x (if st.2 < x.cps.size then st.1.push (st.2, x.cps.size, x.cps.size) else st.1).toList = R
      rw [← h2, List.drop_of_length_le (by simp)]
      by_cases h : st.2 < x.cps.size
      · rw [if_pos h]
        have hne : (x.cps.extract st.2 x.cps.size).toList ≠ [] := by
          intro q
          have := congrArg List.length q
          rw [Array.length_toList, Array.size_extract] at this
          simp at this
          lia
        simp [txts, spl, att, dle, hne]
        lia
      · rw [if_neg h]
        have hne : (x.cps.extract st.2 x.cps.size).toList = [] := by
          apply List.eq_nil_of_length_eq_zero
          rw [Array.length_toList, Array.size_extract]; lia
        rw [hne]
        simp [txts, spl, att, dle]
    · lia
  | k + 1, i, st, hi, h => by
    have hlt : i < x.cps.size := by lia
    rw [List.range'_succ, List.foldl_cons]
    refine lines_go x hx R k (i + 1) (lsStep x st i) (by lia) ?_
    rcases h with ⟨h1, h2⟩ | ⟨h1, h2, h3⟩
    · unfold lsStep
      rw [hx i hlt, decide_eq_true h1, Bool.true_and]
      rw [dropS hlt] at h2
      by_cases hc : x.cps.getD i 0 = 10 ∨ x.cps.getD i 0 = 13
      · have hb : (x.cps.getD i 0 == 10 || x.cps.getD i 0 == 13) = true := by
          rcases hc with q | q <;> rw [q] <;> rfl
        rw [if_pos hb]
        by_cases hn : x.cps.getD i 0 = 13 ∧ x.cps[i + 1]? = some 10
        · have hlt2 : i + 1 < x.cps.size := by
            rw [Array.getElem?_eq_some_iff] at hn
            exact hn.2.1
          have hcr : (x.cps.getD i 0 == 13 && x.cps[i + 1]? == some 10) = true := by rw [hn.1, hn.2]; rfl
          rw [hcr]
          refine .inr ⟨rfl, hlt2, ?_⟩
          have e2 : x.cps.getD (i + 1) 0 = 10 := by
            rw [Array.getD_eq_getD_getElem?, hn.2]; rfl
          rw [dropS hlt2, hn.1, e2, spl_two] at h2
          rw [← h2]
          simp [txts, att, dle_cons _ (spl_ne _)]
        · have hcr : (x.cps.getD i 0 == 13 && x.cps[i + 1]? == some 10) = false := by
            rw [Bool.eq_false_iff]
            intro q
            simp only [Bool.and_eq_true, beq_iff_eq] at q
            exact hn q
          rw [hcr]
          refine .inl ⟨Nat.le_refl _, ?_⟩
          have hn2 : ¬ (x.cps.getD i 0 = 13 ∧ ∃ r', x.cps.toList.drop (i + 1) = 10 :: r') := by
            rintro ⟨q1, r', q2⟩
            refine hn ⟨q1, ?_⟩
            have := congrArg (fun l => l[0]?) q2
            simpa using this
          rw [spl_nl hn2 hc] at h2
          rw [← h2]
          have e0 : (x.cps.extract (i + 1) (i + 1)).toList = [] := by
            apply List.eq_nil_of_length_eq_zero
            rw [Array.length_toList, Array.size_extract]; lia
          show txts x (st.1.push _).toList ++ dle (att (x.cps.extract (i + 1) (i + 1)).toList _) = _
          rw [e0, att_nil (spl_ne _)]
          simp [txts, att, dle_cons _ (spl_ne _)]
      · have hb : (x.cps.getD i 0 == 10 || x.cps.getD i 0 == 13) = false := by
          simpa using hc
        rw [if_neg (by rw [hb]; decide)]
        refine .inl ⟨by lia, ?_⟩
        rw [spl_char hc, att_att] at h2
        rw [extS h1 hlt]
        exact h2
    · unfold lsStep
      rw [if_neg (by simp; lia)]
      refine .inl ⟨by lia, ?_⟩
      have e0 : (x.cps.extract st.2 (i + 1)).toList = [] := by
        apply List.eq_nil_of_length_eq_zero
        rw [Array.length_toList, Array.size_extract]; lia
      rw [e0, att_nil (spl_ne _)]
      exact h3
theorem lines_law (x : PySem.Str) (hx : ∀ i, i < x.cps.size → Unicode.isLineBreak (x.cps.getD i 0) = (x.cps.getD i 0 == 10 || x.cps.getD i 0 == 13)) : (Txt.lines x).map (·.cps.toList) = dle (spl x.cps.toList) := by
  have h := lines_go x hx (dle (spl x.cps.toList)) x.cps.size 0 (#[], 0) (by lia) (.inl ⟨Nat.le_refl _, by
    have e0 : (x.cps.extract 0 0).toList = [] := by
      apply List.eq_nil_of_length_eq_zero
      rw [Array.length_toList, Array.size_extract]; lia
    show [] ++ dle (att (x.cps.extract 0 0).toList _) = _
    rw [e0, att_nil (spl_ne _)]; rfl⟩)
  have h2 : txts x (lineSpans x) = dle (spl x.cps.toList) := by rw [lineSpans_eq]; exact h
  have h3 : (PySem.linesOf x).map (·.cps.toList) = dle (spl x.cps.toList) := by
    rw [← h2]
    unfold PySem.linesOf PySem.lineCuts txts
    rw [List.map_map, List.map_map]
    rfl
  unfold Txt.lines
  split
  · rename_i q
    rw [← h3]
    unfold PySem.linesOf
    rw [beq_iff_eq.mp q]
    show [x.cps.toList] = [(x.cps.extract 0 x.cps.size).toList]
    simp
  · exact h3
end Mine
end
section
namespace Mine
/-- a character and whether it is written quoted -/
noncomputable abbrev UQ := Nat × Bool
noncomputable def encU (u : UQ) : List Nat := if u.2 = true then [61, hexd (u.1 / 16), hexd (u.1 % 16)] else [u.1]
noncomputable abbrev RowU := List UQ × Bool
noncomputable def encRow (r : RowU) : List Nat := r.1.flatMap encU ++ (if r.2 = true then [61] else [])
noncomputable def goodU (u : UQ) : Prop := u.1 < 256 ∧ (u.2 = false → u.1 = 9 ∨ (32 ≤ u.1 ∧ u.1 < 127 ∧ u.1 ≠ 61))
noncomputable def goodRow (r : RowU) : Prop := (∀ u ∈ r.1, goodU u) ∧ (r.2 = false → ∀ u, r.1.getLast? = some u → u.2 = true ∨ (u.1 ≠ 9 ∧ u.1 ≠ 32))
noncomputable def outRow (r : RowU) : List Nat := r.1.map (·.1) ++ (if r.2 = true then [] else [10])
noncomputable def joinE (e : List Nat) : List (List Nat) → List Nat
  | [] => []
  | [r] => r
  | r :: rs => r ++ e ++ joinE e rs
noncomputable def decT : List RowU → List Nat
  | [] => []
  | [r] => r.1.map (·.1)
  | r :: rs => outRow r ++ decT rs
theorem encU_ok {u : UQ} (h : goodU u) : ∀ c ∈ encU u, c = 9 ∨ (32 ≤ c ∧ c < 127) := by
  intro c hc
  unfold encU at hc
  split at hc
  · have h1 := hexd_hex (u.1 / 16) (by have := h.1; lia)
    have h2 := hexd_hex (u.1 % 16) (by lia)
    unfold HexC at h1 h2
    rcases List.mem_cons.mp hc with rfl | hc
    · lia
    · rcases List.mem_cons.mp hc with rfl | hc
      · lia
      · rw [List.mem_singleton.mp hc]; lia
  · rename_i q
    rw [List.mem_singleton.mp hc]
    have := h.2 (by simpa using q)
    lia
theorem encRow_ok {r : RowU} (h : goodRow r) : ∀ c ∈ encRow r, c = 9 ∨ (32 ≤ c ∧ c < 127) := by
  intro c hc
  unfold encRow at hc
  rcases List.mem_append.mp hc with hc | hc
  · obtain ⟨u, hu, hc⟩ := List.mem_flatMap.mp hc
    exact encU_ok (h.1 u hu) c hc
  · split at hc
    · rw [List.mem_singleton.mp hc]; lia
    · cases hc
theorem spl_row : ∀ (l : List Nat), (∀ c ∈ l, c ≠ 10 ∧ c ≠ 13) → ∀ r, spl (l ++ r) = att l (spl r)
  | [], _, r => (att_nil (spl_ne r)).symm
  | c :: l, h, r => by
    rw [List.cons_append, spl_char (fun q => by have := h c (.head _); lia), spl_row l (fun x hx => h x (.tail _ hx)), att_att]
    rfl
theorem spl_join : ∀ (rs : List (List Nat)), rs ≠ [] → (∀ r ∈ rs, ∀ c ∈ r, c ≠ 10 ∧ c ≠ 13) → spl (joinE [13, 10] rs) = rs
  | [], h, _ => absurd rfl h
  | [r], _, h => by
    have := spl_row r (h r (.head _)) []
    rw [List.append_nil] at this
    show spl r = _
    rw [this, spl]
    simp [att]
  | r :: q :: rs, _, h => by
    show spl (r ++ [13, 10] ++ joinE [13, 10] (q :: rs)) = _
    rw [List.append_assoc, spl_row r (h r (.head _))]
    show att r (spl (13 :: 10 :: joinE [13, 10] (q :: rs))) = _
    rw [spl_two, spl_join (q :: rs) (by simp) fun x hx => h x (.tail _ hx)]
    simp [att]
theorem lb_all : ((List.range 128).all fun c => if c = 9 ∨ c = 10 ∨ c = 13 ∨ (32 ≤ c ∧ c < 127) then Unicode.isLineBreak c == (c == 10 || c == 13) else true) = true := by decide +kernel
theorem lb_ok {c : Nat} (h : c = 9 ∨ c = 10 ∨ c = 13 ∨ (32 ≤ c ∧ c < 127)) : Unicode.isLineBreak c = (c == 10 || c == 13) := by
  have := List.all_eq_true.mp lb_all c (List.mem_range.mpr (by lia))
  rw [if_pos h] at this
  exact beq_iff_eq.mp this
/-- the lines of a text of rows -/
theorem lines_rows (x : PySem.Str) (rows : List RowU) (h : rows ≠ []) (hg : ∀ r ∈ rows, goodRow r) (hx : x.cps.toList = joinE [13, 10] (rows.map encRow)) : (Txt.lines x).map (·.cps.toList) = dle (rows.map encRow) := by
  have hc : ∀ c ∈ x.cps.toList, c = 9 ∨ c = 10 ∨ c = 13 ∨ (32 ≤ c ∧ c < 127) := by
    rw [hx]
    clear hx h
    have key : ∀ rs : List (List Nat), (∀ r ∈ rs, ∀ c ∈ r, c = 9 ∨ (32 ≤ c ∧ c < 127)) → ∀ c ∈ joinE [13, 10] rs, c = 9 ∨ c = 10 ∨ c = 13 ∨ (32 ≤ c ∧ c < 127) := by
      intro rs
      induction rs with
      | nil => intro _ c hc; cases hc
      | cons r rs ih =>
        intro h c hc
        cases rs with
        | nil => have := h r (.head _) c hc; lia
        | cons q rs =>
          rcases List.mem_append.mp hc with hc | hc
          · rcases List.mem_append.mp hc with hc | hc
            · have := h r (.head _) c hc; lia
            · rcases List.mem_cons.mp hc with rfl | hc
              · lia
              · rw [List.mem_singleton.mp hc]; lia
          · exact ih (fun x hx => h x (.tail _ hx)) c hc
    refine key _ fun r hr => ?_
    obtain ⟨q, hq, rfl⟩ := List.mem_map.mp hr
    exact encRow_ok (hg q hq)
  rw [lines_law x fun i hi => lb_ok (hc _ (by simp [Array.getD, hi])), hx, spl_join]
  · simpa using h
  · intro r hr c hc'
    obtain ⟨q, hq, rfl⟩ := List.mem_map.mp hr
    have := encRow_ok (hg q hq) c hc'
    lia
end Mine
end
section
namespace Mine
open PySem.Builtin.Str
theorem encRow_last {r : RowU} (h : goodRow r) {c : Nat} (hc : (encRow r).getLast? = some c) : c ≠ 9 ∧ 33 ≤ c ∧ c < 127 := by
  unfold encRow at hc
  by_cases q : r.2 = true
  · rw [if_pos q, List.getLast?_append] at hc
    simp at hc
    lia
  · rw [if_neg q, List.append_nil] at hc
    rcases hl : r.1.getLast? with _ | u
    · have : r.1 = [] := List.getLast?_eq_none_iff.mp hl
      rw [this] at hc
      cases hc
    · obtain ⟨ys, hys⟩ := List.getLast?_eq_some_iff.mp hl
      have hu := h.1 u (by rw [hys]; simp)
      have hq := h.2 (by simpa using q) u hl
      rw [hys, List.flatMap_append, List.flatMap_cons, List.flatMap_nil, List.append_nil, List.getLast?_append] at hc
      unfold encU at hc
      have h2 := hexd_hex (u.1 % 16) (by lia)
      unfold HexC at h2
      by_cases uq : u.2 = true
      · rw [if_pos uq] at hc
        simp at hc
        lia
      · rw [if_neg uq] at hc
        simp at hc
        have := hu.2 (by simpa using uq)
        rcases hq with q | q
        · exact absurd q uq
        · lia
theorem sp_all : ((List.range 127).all fun c => if 33 ≤ c then !spS ⟨#[c]⟩ else true) = true := by decide +kernel
theorem rstrip_row (y : PySem.Str) (r : RowU) (h : goodRow r) (hy : y.cps.toList = encRow r) : Txt.rstrip y = y := by
  have := rstrip_cut (x := y) (fun c hc => by rw [hy] at hc; have := encRow_ok h c hc; lia)
  obtain ⟨hi, h1, h2, h3, _⟩ := this
  by_cases hlt : hi < y.length
  · exfalso
    have hs : y.length = y.cps.size := rfl
    have q := h3 (y.length - 1) (by lia) (by lia)
    have hl : (encRow r).getLast? = some (y.cps.getD (y.length - 1) 0) := by
      have hk : y.length - 1 < y.cps.size := by lia
      rw [← hy, List.getLast?_eq_getElem?, Array.length_toList, Array.getElem?_toList, hs, Array.getElem?_eq_getElem (by lia)]
      simp only [Array.getD, hs] at hk ⊢
      rw [dif_pos hk]
      rfl
    have hc := encRow_last h hl
    have := List.all_eq_true.mp sp_all _ (List.mem_range.mpr hc.2.2)
    rw [if_pos hc.2.1, q] at this
    cases this
  · rw [h2, show hi = y.length from by lia]
    apply PySem.Str.ext'
    show y.cps.extract 0 y.cps.size = y.cps
    simp
end Mine
end
section
namespace Mine
theorem item_eq {x : PySem.Str} {p c : Nat} (h : x.cps[p]? = some c) : Txt.item x ((p : Nat) : Int) = ⟨#[c]⟩ := by
  unfold Txt.item
  have hp : p < x.cps.size := by
    rw [Array.getElem?_eq_some_iff] at h
    exact h.1
  have e : Txt.charAt x ((p : Nat) : Int) = some c := by
    unfold Txt.charAt seqIndex?
    have h1 : ¬ (((p : Nat) : Int) < 0) := by lia
    have hx : x.length = x.cps.size := rfl
    simp [h1, hx, hp]
    exact (Array.getElem?_eq_some_iff.mp h).2
  rw [e]; rfl
theorem char_at {w : World} {A : Around} {E : Value → Shared → Prop} {s : Shared} {value slice : PySem.Expr} {x : PySem.Str} {t u : Tok} {i : Int} {c : Nat} {Q : Value → Shared → Prop} (p : Nat) (hi : i = ((p : Nat) : Int)) (h : x.cps[p]? = some c) (hl : x.cps.size ≤ 100000)
    (hq : Q (.str ⟨#[c]⟩ s.toks) { s with toks := s.toks + 1 })
    (hs : subscripted slice false (.str x t) (.int i u) = operate [.str x t, .int i u] (getItem (.str x t) (.int i u)))
    (ht : ∀ r, letTemporaryGo value (.str x t) r = pure ()) :
    wpAny (model pw w) A (subscriptTail value slice (.str x t) (.int i u)) Q E s := by
  have hp : p < x.cps.size := by
    rw [Array.getElem?_eq_some_iff] at h
    exact h.1
  have hx : x.length = x.cps.size := rfl
  refine item_str (fitsSsize_of (N := 9223372036854775808) (by lia) (by lia) (Int.le_refl _)) (by lia) (by lia) (fun _ => ?_) hs ht
  rw [hi, item_eq h]
  exact hq
theorem iadd_l {w : World} {A : Around} {E : Value → Shared → Prop} {s : Shared} {a b : List Nat} {t u : Tok} {Q : Value → Shared → Prop} (hsz : a.length + b.length ≤ 1000000) (h : ∀ t' k, Q (.str ⟨(a ++ b).toArray⟩ t') { s with toks := k }) :
    wpAny (model pw w) A (inplaceOp .Add (.str ⟨a.toArray⟩ t) (.str ⟨b.toArray⟩ u)) Q E s := by
  refine iadd_str (fun t' k => ?_) ?_
  · have e : (⟨a.toArray⟩ : PySem.Str) ++ ⟨b.toArray⟩ = ⟨(a ++ b).toArray⟩ := by
      apply PySem.Str.ext'
      rw [PySem.Str.cps_append]
      simp
    rw [e]; exact h _ _
  · show a.toArray.size + b.toArray.size ≤ sizeLine
    rw [sizeLine_eq, List.size_toArray, List.size_toArray]
    lia
end Mine
end
section
namespace Mine
noncomputable def posU (r : RowU) (k : Nat) : Nat := ((r.1.take k).flatMap encU).length + (if k = r.1.length + 1 then 1 else 0)
noncomputable def outK (r : RowU) (k : Nat) : List Nat := (r.1.take k).map (·.1) ++ (if k = r.1.length ∧ r.2 = false then [10] else [])
noncomputable def JD (x : PySem.Str) (t : Nat) (y : PySem.Str) (ty tn : Tok) (D0 : List Nat) (r : RowU) (nw : List (Addr × Obj)) (n : Nat) (m : PySem.Str → Option Value) (news : List (Addr × Obj)) : Prop :=
  news = nw ∧ m (S "encoded") = some (.str x t) ∧ m (S "eol") = some (.str ⟨[10].toArray⟩ 395) ∧ m (S "line") = some (.str y ty) ∧ m (S "n") = some (.int ((y.length : Nat) : Int) tn) ∧
  ∃ k ti td, n = r.1.length + 2 - k ∧ k ≤ r.1.length + 1 ∧ (k = r.1.length + 1 → r.2 = true) ∧ m (S "i") = some (.int ((posU r k : Nat) : Int) ti) ∧ m (S "decoded") = some (.str ⟨(D0 ++ outK r k).toArray⟩ td)
theorem encU_pos (u : UQ) : 1 ≤ (encU u).length := by unfold encU; split <;> simp
theorem pos_at {r : RowU} {k : Nat} (hk : k < r.1.length) : posU r k = ((r.1.take k).flatMap encU).length := by
  unfold posU; rw [if_neg (by lia)]; rfl
theorem pos_succ {r : RowU} {k : Nat} (hk : k < r.1.length) : posU r (k + 1) = posU r k + (encU r.1[k]).length := by
  unfold posU
  rw [if_neg (by lia), if_neg (by lia), List.take_add_one, List.getElem?_eq_getElem hk, Option.toList_some, List.flatMap_append, List.length_append, List.flatMap_cons, List.flatMap_nil, List.append_nil]
  lia
theorem pos_full (r : RowU) : posU r r.1.length = (r.1.flatMap encU).length := by
  unfold posU
  rw [if_neg (by lia), List.take_length]; rfl
theorem pos_soft (r : RowU) : posU r (r.1.length + 1) = (r.1.flatMap encU).length + 1 := by
  unfold posU
  rw [if_pos rfl, List.take_of_length_le (by lia)]
theorem row_len (r : RowU) : (encRow r).length = (r.1.flatMap encU).length + (if r.2 = true then 1 else 0) := by
  unfold encRow
  split <;> simp
theorem pos_lt {r : RowU} {k : Nat} (hk : k < r.1.length) : posU r k + (encU r.1[k]).length ≤ (r.1.flatMap encU).length := by
  rw [pos_at hk]
  have e : r.1 = r.1.take k ++ r.1[k] :: r.1.drop (k + 1) := by rw [List.getElem_cons_drop, List.take_append_drop]
  have := congrArg (fun l => (l.flatMap encU).length) e
  simp only [List.flatMap_append, List.flatMap_cons, List.length_append] at this
  lia
theorem row_at {r : RowU} {k : Nat} (hk : k < r.1.length) {y : PySem.Str} (hy : y.cps.toList = encRow r) (j : Nat) (hj : j < (encU r.1[k]).length) : y.cps[posU r k + j]? = (encU r.1[k])[j]? := by
  rw [← Array.getElem?_toList, hy, pos_at hk]
  have e : r.1 = r.1.take k ++ r.1[k] :: r.1.drop (k + 1) := by rw [List.getElem_cons_drop, List.take_append_drop]
  have e2 : encRow r = (r.1.take k).flatMap encU ++ (encU r.1[k] ++ ((r.1.drop (k + 1)).flatMap encU ++ (if r.2 = true then [61] else []))) := by
    have e3 : r.1.flatMap encU = (r.1.take k).flatMap encU ++ (encU r.1[k] ++ (r.1.drop (k + 1)).flatMap encU) := by
      rw [← List.flatMap_cons, ← List.flatMap_append, ← e]
    unfold encRow
    rw [e3]
    simp only [List.append_assoc]
  rw [e2, List.getElem?_append_right (by lia), show (List.flatMap encU (List.take k r.1)).length + j - (List.flatMap encU (List.take k r.1)).length = j from by lia, List.getElem?_append_left hj]
theorem row_soft {r : RowU} (hs : r.2 = true) {y : PySem.Str} (hy : y.cps.toList = encRow r) : y.cps[posU r r.1.length]? = some 61 := by
  rw [← Array.getElem?_toList, hy, pos_full]
  unfold encRow
  rw [if_pos hs, List.getElem?_append_right (Nat.le_refl _), Nat.sub_self]
  rfl
theorem hexin_all : ((List.range 16).all fun d => Txt.contains (S "0123456789abcdefABCDEF") ⟨#[hexd d]⟩) = true := by decide +kernel
theorem hexin (d : Nat) (h : d < 16) : Txt.contains (S "0123456789abcdefABCDEF") ⟨#[hexd d]⟩ = true := List.all_eq_true.mp hexin_all d (List.mem_range.mpr h)
theorem out_succ {r : RowU} {k : Nat} (hk : k < r.1.length) : outK r (k + 1) = outK r k ++ [r.1[k].1] ++ (if k + 1 = r.1.length ∧ r.2 = false then [10] else []) := by
  unfold outK
  rw [if_neg (show ¬ (k = r.1.length ∧ r.2 = false) from fun q => by lia), List.append_nil, List.take_add_one, List.getElem?_eq_getElem hk, Option.toList_some, List.map_append, List.map_cons, List.map_nil]
theorem out_end {r : RowU} {k : Nat} (hk : k = r.1.length ∧ r.2 = false ∨ k = r.1.length + 1 ∧ r.2 = true) : outK r k = outRow r := by
  unfold outK outRow
  rcases hk with ⟨h1, h2⟩ | ⟨h1, h2⟩
  · rw [if_pos ⟨h1, h2⟩, h1, List.take_length, if_neg (by rw [h2]; decide)]
  · rw [if_neg (by lia), h1, List.take_of_length_le (by lia), if_pos h2]
theorem slice_hex {y : PySem.Str} {p : Nat} {a b c : Nat} (h0 : y.cps[p]? = some a) (h1 : y.cps[p + 1]? = some b) (h2 : y.cps[p + 2]? = some c) : Txt.slice y (some ((p : Nat) : Int)) (some (((p : Nat) : Int) + 3)) = ⟨#[a, b, c]⟩ := by
  have hl : p + 2 < y.cps.size := by
    rw [Array.getElem?_eq_some_iff] at h2
    exact h2.1
  have := slice_closes (x := y) (i := ((p : Nat) : Int)) (j := ((p : Nat) : Int) + 3) ⟨by lia, by lia, by rw [Array.length_toList]; lia⟩
  rw [beq_iff_eq.mp this]
  apply PySem.Str.ext'
  show _ = #[a, b, c]
  have e : y.cps.toList.drop p = a :: b :: c :: y.cps.toList.drop (p + 3) := by
    rw [← Array.getElem?_toList] at h0 h1 h2
    have l0 : p < y.cps.toList.length := by rw [Array.length_toList]; lia
    have l1 : p + 1 < y.cps.toList.length := by rw [Array.length_toList]; lia
    have l2 : p + 2 < y.cps.toList.length := by rw [Array.length_toList]; lia
    rw [List.getElem?_eq_getElem l0] at h0
    rw [List.getElem?_eq_getElem l1] at h1
    rw [List.getElem?_eq_getElem l2] at h2
    rw [List.drop_eq_getElem_cons l0, List.drop_eq_getElem_cons l1, List.drop_eq_getElem_cons l2, Option.some.inj h0, Option.some.inj h1, Option.some.inj h2]
  rw [show (((p : Nat) : Int)).toNat = p from by lia, show ((((p : Nat) : Int) + 3) - ((p : Nat) : Int)).toNat = 3 from by lia, e]
  rfl
theorem step_end {r : RowU} {k : Nat} (hk : k < r.1.length) {y : PySem.Str} (hy : y.cps.toList = encRow r) : posU r (k + 1) = y.cps.size ↔ (k + 1 = r.1.length ∧ r.2 = false) := by
  have e : y.cps.size = (r.1.flatMap encU).length + (if r.2 = true then 1 else 0) := by rw [← Array.length_toList, hy, row_len]
  rw [e]
  rcases Nat.lt_or_ge (k + 1) r.1.length with h | h
  · have h1 := pos_lt h
    have h2 := encU_pos r.1[k + 1]
    constructor
    · intro q; lia
    · intro q; lia
  · have h3 : k + 1 = r.1.length := by lia
    rw [h3, pos_full]
    by_cases hs : r.2 = true
    · rw [if_pos hs]
      constructor
      · intro q; lia
      · intro q; rw [hs] at q; exact absurd q.2 (by decide)
    · rw [if_neg hs]
      exact ⟨fun _ => ⟨rfl, by simpa using hs⟩, fun _ => rfl⟩
theorem out_step {r : RowU} {k : Nat} (hk : k < r.1.length) {y : PySem.Str} (hy : y.cps.toList = encRow r) : outK r (k + 1) = outK r k ++ [r.1[k].1] ++ (if posU r (k + 1) = y.cps.size then [10] else []) := by
  rw [out_succ hk]
  congr 1
  by_cases h : posU r (k + 1) = y.cps.size
  · rw [if_pos h, if_pos ((step_end hk hy).mp h)]
  · rw [if_neg h, if_neg fun q => h ((step_end hk hy).mpr q)]
theorem out_len (r : RowU) (k : Nat) : (outK r k).length ≤ (encRow r).length + 1 := by
  unfold outK
  have h1 : ((r.1.take k).map (·.1)).length ≤ r.1.length := by simp; lia
  have h2 : r.1.length ≤ (r.1.flatMap encU).length := by
    generalize r.1 = l
    induction l with
    | nil => simp
    | cons a l ih => rw [List.flatMap_cons, List.length_append, List.length_cons]; have := encU_pos a; lia
  rw [row_len, List.length_append]
  have h3 : (if k = r.1.length ∧ r.2 = false then [10] else ([] : List Nat)).length ≤ 1 := by split <;> simp
  lia
theorem occ_hex (d : Nat) (h : d < 16) : (PySem.Builtin.Str.occurrences (S "0123456789abcdefABCDEF") ⟨#[hexd d]⟩ 0 (S "0123456789abcdefABCDEF").length 1).isEmpty = false := by
  have := hexin d h
  unfold Txt.contains at this
  simpa using this
theorem row_empty {r : RowU} (h : (encRow r).length = 0) : outRow r = [10] := by
  rw [row_len] at h
  have h1 : r.1 = [] := by
    cases hr : r.1 with
    | nil => rfl
    | cons a l =>
      rw [hr, List.flatMap_cons, List.length_append] at h
      have := encU_pos a
      lia
  have h2 : ¬ r.2 = true := by
    intro q
    rw [if_pos q] at h
    lia
  unfold outRow
  rw [h1, if_neg h2]; rfl
/-- the rows that splitlines tells -/
noncomputable def shown (rows : List RowU) : List RowU := if (rows.getLast?.map fun r => (encRow r).length) = some 0 then rows.dropLast else rows
theorem dle_shown : ∀ rows : List RowU, rows ≠ [] → dle (rows.map encRow) = (shown rows).map encRow
  | [], h => absurd rfl h
  | [r], _ => by
    unfold shown
    show (if encRow r = [] then [] else [encRow r]) = _
    by_cases h : encRow r = []
    · rw [if_pos h, if_pos (by simp [h])]; rfl
    · rw [if_neg h, if_neg (by simp [h])]; rfl
  | r :: q :: rs, _ => by
    have ih := dle_shown (q :: rs) (by simp)
    rw [List.map_cons, dle_cons _ (by simp), ih]
    unfold shown
    rw [List.getLast?_cons_cons]
    split <;> simp
theorem shown_sub (rows : List RowU) : ∀ r ∈ shown rows, r ∈ rows := by
  intro r hr
  unfold shown at hr
  split at hr
  · exact List.dropLast_subset _ hr
  · exact hr
end Mine
end
section
namespace Mine
open PySem.Builtin PySem.Builtin.Str
theorem idx_neg (l : Option Int) (n : Nat) (h : 1 ≤ n) : strSliceIndices l (some (-1)) 1 n = strSliceIndices l (some ((n : Int) - 1)) 1 n := by
  have e : (max 0 (min (if (-1 : Int) < 0 then -1 + (n : Int) else -1) n)) = (max 0 (min (if ((n : Int) - 1) < 0 then ((n : Int) - 1) + n else ((n : Int) - 1)) n)) := by
    split <;> split <;> lia
  unfold strSliceIndices
  simp only [show ((1 : Int) > 0) = True from by simp, if_true]
  rw [e]
theorem slice_neg {x : PySem.Str} (l : Option Int) (h : 1 ≤ x.length) : Txt.slice x l (some (-1)) = Txt.slice x l (some ((x.length : Int) - 1)) := by
  unfold Txt.slice
  rw [idx_neg l x.length h]
theorem slice_last {D : List Nat} {c : Nat} : Txt.slice ⟨(D ++ [c]).toArray⟩ none (some (-1)) = ⟨D.toArray⟩ := by
  rw [slice_neg none (by show 1 ≤ (D ++ [c]).toArray.size; simp)]
  have hl : (⟨(D ++ [c]).toArray⟩ : PySem.Str).length = D.length + 1 := by show (D ++ [c]).toArray.size = _; simp
  have := slice_closes_to (x := ⟨(D ++ [c]).toArray⟩) (j := ((⟨(D ++ [c]).toArray⟩ : PySem.Str).length : Int) - 1) ⟨by rw [hl]; lia, by rw [hl]; simp; lia⟩
  rw [beq_iff_eq.mp this, hl]
  apply PySem.Str.ext'
  show ((((D ++ [c]).toArray.toList.drop (0 : Int).toNat).take ((((D.length + 1 : Nat) : Int) - 1) - 0).toNat).toArray) = D.toArray
  rw [show ((((D.length + 1 : Nat) : Int) - 1) - 0).toNat = D.length from by lia]
  simp
theorem item_last {x : PySem.Str} {c : Nat} (h : x.cps.toList.getLast? = some c) : Txt.item x (-1) = ⟨#[c]⟩ := by
  have hs : 1 ≤ x.cps.size := by
    rcases Nat.eq_zero_or_pos x.cps.size with q | q
    · have : x.cps.toList = [] := List.eq_nil_of_length_eq_zero (by rw [Array.length_toList]; exact q)
      rw [this] at h; cases h
    · exact q
  have e : Txt.item x (-1) = Txt.item x ((x.cps.size - 1 : Nat) : Int) := by
    unfold Txt.item Txt.charAt seqIndex?
    have hx : x.length = x.cps.size := rfl
    rw [hx]
    have e1 : (if (-1 : Int) < 0 then (-1 : Int) + (x.cps.size : Nat) else -1) = ((x.cps.size - 1 : Nat) : Int) := by
      rw [if_pos (by decide)]; lia
    have e2 : (if ((x.cps.size - 1 : Nat) : Int) < 0 then ((x.cps.size - 1 : Nat) : Int) + (x.cps.size : Nat) else ((x.cps.size - 1 : Nat) : Int)) = ((x.cps.size - 1 : Nat) : Int) := by
      rw [if_neg (by lia)]
    simp only [e1, e2]
  rw [e]
  refine item_eq ?_
  rw [List.getLast?_eq_getElem?, Array.length_toList, Array.getElem?_toList] at h
  exact h
theorem crlf_all : ((List.range 127).all fun c => if 33 ≤ c then (occurrences (PySem.Str.ofString "\r\n") ⟨#[c]⟩ 0 (PySem.Str.ofString "\r\n").length 1).isEmpty else true) = true := by decide +kernel
theorem crlf_no {c : Nat} (h1 : 33 ≤ c) (h2 : c < 127) : (occurrences (PySem.Str.ofString "\r\n") ⟨#[c]⟩ 0 (PySem.Str.ofString "\r\n").length 1).isEmpty = true := by
  have := List.all_eq_true.mp crlf_all c (List.mem_range.mpr h2)
  rw [if_pos h1] at this
  exact this
theorem crlf_yes : (occurrences (PySem.Str.ofString "\r\n") ⟨#[10]⟩ 0 (PySem.Str.ofString "\r\n").length 1).isEmpty = false := by decide +kernel
theorem ends_nl (D : List Nat) : Txt.endswith ⟨(D ++ [10]).toArray⟩ ⟨#[10]⟩ = true := by
  unfold Txt.endswith subAt
  have h1 : (⟨(D ++ [10]).toArray⟩ : PySem.Str).length = D.length + 1 := by show (D ++ [10]).toArray.size = _; simp
  have h2 : (⟨#[10]⟩ : PySem.Str).length = 1 := rfl
  rw [h1, h2]
  simp
theorem dec_last : ∀ (rows : List RowU) (r : RowU), rows.getLast? = some r → r.2 = false → rows.flatMap outRow = decT rows ++ [10]
  | [], _, h, _ => by cases h
  | [a], r, h, hr => by
    obtain rfl : a = r := Option.some.inj h
    simp [decT, outRow, hr]
  | a :: b :: rs, r, h, hr => by
    rw [List.getLast?_cons_cons] at h
    have := dec_last (b :: rs) r h hr
    rw [List.flatMap_cons, this]
    simp [decT]
theorem dec_drop : ∀ (rows : List RowU) (r : RowU), rows.getLast? = some r → r.1 = [] → rows.dropLast.flatMap outRow = decT rows
  | [], _, h, _ => by cases h
  | [a], r, h, hr => by
    obtain rfl : a = r := Option.some.inj h
    simp [decT, hr]
  | a :: b :: rs, r, h, hr => by
    rw [List.getLast?_cons_cons] at h
    have := dec_drop (b :: rs) r h hr
    rw [List.dropLast_cons_of_ne_nil (by simp), List.flatMap_cons, this]
    simp [decT]
theorem joinE_last (e : List Nat) : ∀ (rs : List (List Nat)) (r : List Nat), rs.getLast? = some r → r ≠ [] → (joinE e rs).getLast? = r.getLast?
  | [], _, h, _ => by cases h
  | [a], r, h, hr => by cases h; rfl
  | a :: b :: rs, r, h, hr => by
    rw [List.getLast?_cons_cons] at h
    have ih := joinE_last e (b :: rs) r h hr
    show (a ++ e ++ joinE e (b :: rs)).getLast? = _
    rw [List.getLast?_append, ih]
    cases hl : r.getLast? with
    | none => exact absurd (List.getLast?_eq_none_iff.mp hl) hr
    | some c => rfl
theorem joinE_nl : ∀ (rs : List (List Nat)), rs.getLast? = some [] → joinE [13, 10] rs ≠ [] → (joinE [13, 10] rs).getLast? = some 10
  | [], h, _ => by cases h
  | [a], h, hn => by cases h; exact absurd rfl hn
  | a :: b :: rs, h, hn => by
    rw [List.getLast?_cons_cons] at h
    show (a ++ [13, 10] ++ joinE [13, 10] (b :: rs)).getLast? = _
    by_cases q : joinE [13, 10] (b :: rs) = []
    · rw [q]; simp
    · rw [List.getLast?_append, joinE_nl (b :: rs) h q]; rfl
end Mine
end
section
namespace Mine
/-- where body_encode cuts -/
noncomputable def cutN (room : Nat) (e : List Nat) : Nat := if e.getD (room - 3) 0 = 61 then room - 3 else if e.getD (room - 2) 0 = 61 then room - 2 else room - 1
theorem cutN_pos {room : Nat} (h : 4 ≤ room) (e : List Nat) : 1 ≤ cutN room e ∧ cutN room e ≤ room - 1 := by
  unfold cutN
  split
  · lia
  · split <;> lia
noncomputable def softs (room : Nat) (e : List Nat) : List (List Nat) × List Nat :=
  if h : e.length ≤ room ∨ room < 4 then ([], e)
  else ((e.take (cutN room e) ++ [61]) :: (softs room (e.drop (cutN room e))).1, (softs room (e.drop (cutN room e))).2)
termination_by e.length
decreasing_by all_goals (have := cutN_pos (room := room) (by lia) e; simp; lia)
theorem softs_end {room : Nat} {e : List Nat} (h : e.length ≤ room) : softs room e = ([], e) := by
  rw [softs, dif_pos (.inl h)]
theorem softs_cut {room : Nat} {e : List Nat} (hr : 4 ≤ room) (h : room < e.length) : softs room e = ((e.take (cutN room e) ++ [61]) :: (softs room (e.drop (cutN room e))).1, (softs room (e.drop (cutN room e))).2) := by
  rw [softs, dif_neg (by lia)]
noncomputable def isBlank (c : Nat) : Bool := c == 32 || c == 9
/-- the last entry of a line -/
noncomputable def lastEnt (room : Nat) (el rest : List Nat) : List Nat :=
  match rest.getLast? with
  | none => []
  | some c => if isBlank c then (if rest.length + 2 ≤ room then rest.dropLast ++ (hexS c).cps.toList else if rest.length + 1 = room then rest.dropLast ++ [c] ++ [61] ++ el else rest.dropLast ++ [61] ++ el ++ (hexS c).cps.toList) else rest
noncomputable def entries (room : Nat) (el e : List Nat) : List (List Nat) := (softs room e).1 ++ [lastEnt room el (softs room e).2]
theorem softs_len {room : Nat} (hr : 4 ≤ room) : ∀ (n : Nat) (e : List Nat), e.length ≤ n → (softs room e).1.length ≤ e.length ∧ ((softs room e).1.flatten).length ≤ 2 * e.length ∧ (softs room e).2.length ≤ e.length ∧ (softs room e).2.length ≤ room
  | 0, e, h => by
    rw [softs_end (by lia)]; simp; lia
  | n + 1, e, h => by
    by_cases hl : e.length ≤ room
    · rw [softs_end hl]; simp; lia
    · rw [softs_cut hr (by lia)]
      have hc := cutN_pos hr e
      have ih := softs_len hr n (e.drop (cutN room e)) (by rw [List.length_drop]; lia)
      rw [List.length_drop] at ih
      simp only [List.length_cons, List.flatten_cons, List.length_append, List.length_take, List.length_nil]
      lia
theorem slice_take {y : PySem.Str} {i j : Int} {p k : Nat} (hi : i = ((p : Nat) : Int)) (hj : j = ((p + k : Nat) : Int)) (hk : p + k ≤ y.cps.size) : Txt.slice y (some i) (some j) = ⟨((y.cps.toList.drop p).take k).toArray⟩ := by
  subst hi hj
  have := slice_closes (x := y) (i := ((p : Nat) : Int)) (j := ((p + k : Nat) : Int)) ⟨by lia, by lia, by rw [Array.length_toList]; lia⟩
  rw [beq_iff_eq.mp this, show (((p : Nat) : Int)).toNat = p from by lia, show (((p + k : Nat) : Int) - ((p : Nat) : Int)).toNat = k from by lia]
theorem take_snoc {l : List Nat} {k c : Nat} (h : l.getD k 0 = c) (hk : k < l.length) : l.take (k + 1) = l.take k ++ [c] := by
  rw [List.take_add_one, List.getElem?_eq_getElem hk]
  have : l[k] = c := by rw [← h]; simp [hk]
  rw [this]; rfl
theorem getD_drop {y : PySem.Str} {p k : Nat} (h : p + k < y.cps.size) : y.cps[p + k]? = some ((y.cps.toList.drop p).getD k 0) := by
  have hl : p + k < y.cps.toList.length := by rw [Array.length_toList]; exact h
  rw [← Array.getElem?_toList, List.getElem?_eq_getElem hl]
  simp [List.getD, List.getElem?_drop, h]
end Mine
end
section
namespace Mine
noncomputable def bodySafe (c : Nat) : Bool := c == 9 || c == 10 || c == 13 || (decide (32 ≤ c) && decide (c < 127) && c != 61)
noncomputable def bodyS (c : Nat) : PySem.Str := if bodySafe c then ⟨#[c]⟩ else hexS c
theorem bodyS_len (c : Nat) : (bodyS c).cps.toList.length ≤ 3 := by
  unfold bodyS hexS; split <;> simp
theorem bodyS_ok (c : Nat) (h : c < 256) : ∀ k ∈ (bodyS c).cps.toList, k = 9 ∨ k = 10 ∨ k = 13 ∨ (32 ≤ k ∧ k < 127) := by
  have a : ((List.range 256).all fun c => (bodyS c).cps.toList.all fun k => decide (k = 9 ∨ k = 10 ∨ k = 13 ∨ (32 ≤ k ∧ k < 127))) = true := by decide +kernel
  exact fun k hk => of_decide_eq_true (List.all_eq_true.mp (List.all_eq_true.mp a c (List.mem_range.mpr h)) k hk)
theorem att_mem {p : List Nat} {l : List (List Nat)} {r : List Nat} (h : r ∈ att p l) {k : Nat} (hk : k ∈ r) : k ∈ p ∨ ∃ q ∈ l, k ∈ q := by
  cases l with
  | nil => rw [att, List.mem_singleton] at h; subst h; exact .inl hk
  | cons a t =>
    rcases List.mem_cons.mp h with rfl | h
    · rcases List.mem_append.mp hk with q | q
      · exact .inl q
      · exact .inr ⟨a, .head _, q⟩
    · exact .inr ⟨r, .tail _ h, hk⟩
theorem spl_mem : ∀ (n : Nat) (b : List Nat), b.length ≤ n → ∀ r ∈ spl b, ∀ k ∈ r, k ∈ b
  | _, [], _, r, hr, k, hk => by
    rw [spl, List.mem_singleton] at hr; subst hr; cases hk
  | 0, c :: b, h, _, _, _, _ => by simp at h
  | n + 1, c :: b, h, r, hr, k, hk => by
    have hb : b.length ≤ n := by simpa using h
    by_cases h2 : c = 13 ∧ ∃ r', b = 10 :: r'
    · obtain ⟨rfl, r', rfl⟩ := h2
      rw [spl_two] at hr
      rcases List.mem_cons.mp hr with rfl | hr
      · cases hk
      · exact .tail _ (.tail _ (spl_mem n r' (by simp at hb; lia) r hr k hk))
    · by_cases hc : c = 10 ∨ c = 13
      · rw [spl_nl h2 hc] at hr
        rcases List.mem_cons.mp hr with rfl | hr
        · cases hk
        · exact .tail _ (spl_mem n b hb r hr k hk)
      · rw [spl_char hc] at hr
        rcases att_mem hr hk with q | ⟨r₂, q1, q2⟩
        · rw [List.mem_singleton.mp q]; exact .head _
        · exact .tail _ (spl_mem n b hb r₂ q1 k q2)
theorem dle_sub : ∀ (l : List (List Nat)), ∀ r ∈ dle l, r ∈ l
  | [], _, h => by cases h
  | [a], r, h => by
    unfold dle at h
    split at h
    · cases h
    · exact h
  | a :: b :: t, r, h => by
    rw [dle_cons _ (by simp)] at h
    rcases List.mem_cons.mp h with rfl | h
    · exact .head _
    · exact .tail _ (dle_sub (b :: t) r h)
/-- number of entries -/
theorem entries_len {room : Nat} (hr : 4 ≤ room) (el e : List Nat) : (entries room el e).length ≤ e.length + 1 := by
  unfold entries
  have := softs_len hr e.length e (Nat.le_refl _)
  rw [List.length_append, List.length_singleton]
  lia
theorem spl_sum : ∀ (n : Nat) (b : List Nat), b.length ≤ n → ((spl b).map List.length).sum ≤ b.length ∧ (spl b).length ≤ b.length + 1
  | _, [], _ => by rw [spl]; simp
  | 0, c :: b, h => by simp at h
  | n + 1, c :: b, h => by
    have hb : b.length ≤ n := by simpa using h
    by_cases h2 : c = 13 ∧ ∃ r', b = 10 :: r'
    · obtain ⟨rfl, r', rfl⟩ := h2
      have ih := spl_sum n r' (by simp at hb; lia)
      rw [spl_two]
      simp only [List.map_cons, List.sum_cons, List.length_cons, List.length_nil]
      (clear h hb; lia)
    · have ih := spl_sum n b hb
      by_cases hc : c = 10 ∨ c = 13
      · rw [spl_nl h2 hc]
        simp only [List.map_cons, List.sum_cons, List.length_cons, List.length_nil]
        (clear hc h2 hb h; lia)
      · rw [spl_char hc]
        cases hs : spl b with
        | nil => exact absurd hs (spl_ne b)
        | cons a t =>
          rw [hs] at ih
          simp only [att, List.map_cons, List.sum_cons, List.length_cons, List.length_append, List.length_nil] at ih ⊢
          (clear hc h2 hb h; lia)
end Mine
end
section
namespace Mine
/-! The plain law: how a line is cut, and how the cuts are taken back. -/
noncomputable def isSafe (c : Nat) : Bool := c == 9 || (decide (32 ≤ c) && decide (c < 127) && c != 61)
noncomputable def wtN (c : Nat) : Nat := if isSafe c then 1 else 3
noncomputable def weight (l : List Nat) : Nat := (l.map wtN).sum
theorem wtN_le (c : Nat) : wtN c ≤ 3 := by unfold wtN; split <;> lia
theorem wtN_pos (c : Nat) : 1 ≤ wtN c := by unfold wtN; split <;> lia
@[simp] theorem weight_nil : weight [] = 0 := rfl
@[simp] theorem weight_cons (c : Nat) (l : List Nat) : weight (c :: l) = wtN c + weight l := rfl
@[simp] theorem weight_append (a b : List Nat) : weight (a ++ b) = weight a + weight b := by simp [weight]
/-- the longest beginning of weight below room (size is counted already) and the rest -/
noncomputable def cutAt (room : Nat) : Nat → List Nat → List Nat × List Nat
  | _, [] => ([], [])
  | size, c :: r => if size + wtN c < room then (c :: (cutAt room (size + wtN c) r).1, (cutAt room (size + wtN c) r).2) else ([], c :: r)
theorem cutAt_app (room : Nat) : ∀ (size : Nat) (l : List Nat), (cutAt room size l).1 ++ (cutAt room size l).2 = l
  | _, [] => rfl
  | size, c :: r => by
    unfold cutAt
    split
    · simp [cutAt_app room (size + wtN c) r]
    · rfl
/-- no more goes in -/
noncomputable def Full (room size : Nat) (b : List Nat) : Prop := ∀ c r, b = c :: r → room ≤ size + wtN c
theorem cutAt_full (room : Nat) : ∀ (size : Nat) (l : List Nat), Full room (size + weight (cutAt room size l).1) (cutAt room size l).2
  | _, [] => fun c r e => by simp [cutAt] at e
  | size, c :: r => by
    unfold cutAt
    split
    · have := cutAt_full room (size + wtN c) r
      simp only [weight_cons]
      rw [Nat.add_assoc] at this
      exact this
    · rename_i h
      intro c' r' e
      simp only [weight_nil, Nat.add_zero]
      cases e
      lia
theorem cutAt_lt (room : Nat) : ∀ (size : Nat) (l : List Nat), size < room → size + weight (cutAt room size l).1 < room
  | _, [], h => by simpa [cutAt] using h
  | size, c :: r, h => by
    unfold cutAt
    split
    · rename_i h1
      have := cutAt_lt room (size + wtN c) r h1
      simp only [weight_cons]
      lia
    · simpa using h
theorem cutAt_of (room : Nat) : ∀ (a b : List Nat) (size : Nat), size + weight a < room → Full room (size + weight a) b → cutAt room size (a ++ b) = (a, b)
  | [], b, size, h, hb => by
    cases b with
    | nil => rfl
    | cons c r =>
      have := hb c r rfl
      simp only [weight_nil, Nat.add_zero] at this
      simp only [List.nil_append, cutAt]
      rw [if_neg (by lia)]
  | c :: a, b, size, h, hb => by
    simp only [weight_cons] at h hb
    simp only [List.cons_append, cutAt]
    rw [if_pos (by lia)]
    rw [cutAt_of room a b (size + wtN c) (by lia) (by rw [Nat.add_assoc]; exact hb)]
noncomputable def dot (l : List Nat) : List Nat := match l with
  | 46 :: _ => 46 :: l
  | _ => l
theorem dot_head (l : List Nat) : (dot l).head? = l.head? := by
  unfold dot
  split <;> simp
theorem dot_weight (l : List Nat) : weight l ≤ weight (dot l) := by
  unfold dot
  split <;> simp
/-- what a server makes of a line -/
noncomputable def fRoom (room : Nat) : Nat → List Nat → List Nat
  | 0, l => l
  | n + 1, l => if weight l ≤ room then dot l else dot (cutAt room 0 l).1 ++ fRoom room n (cutAt room 0 l).2
/-- what the law makes of it -/
noncomputable def unF (room : Nat) : Nat → List Nat → Nat → List Nat
  | 0, _, _ => []
  | n + 1, l, left => match l with
    | [] => []
    | c :: r => if c = 46 then (if r.head? = some 46 then (if left - 1 ≤ room then r else (cutAt room 0 r).1 ++ unF room n (cutAt room 0 r).2 (left - 1 - weight (cutAt room 0 r).1)) else [10])
      else (if left ≤ room then l else (cutAt room 0 l).1 ++ unF room n (cutAt room 0 l).2 (left - weight (cutAt room 0 l).1))
theorem unF_cons (room n c : Nat) (r : List Nat) (left : Nat) : unF room (n + 1) (c :: r) left = if c = 46 then (if r.head? = some 46 then (if left - 1 ≤ room then r else (cutAt room 0 r).1 ++ unF room n (cutAt room 0 r).2 (left - 1 - weight (cutAt room 0 r).1)) else [10])
      else (if left ≤ room then c :: r else (cutAt room 0 (c :: r)).1 ++ unF room n (cutAt room 0 (c :: r)).2 (left - weight (cutAt room 0 (c :: r)).1)) := rfl
theorem fRoom_succ (room n : Nat) (l : List Nat) : fRoom room (n + 1) l = if weight l ≤ room then dot l else dot (cutAt room 0 l).1 ++ fRoom room n (cutAt room 0 l).2 := rfl
theorem cut_ne (room : Nat) (hr : 4 ≤ room) (c : Nat) (r : List Nat) : ∃ a, (cutAt room 0 (c :: r)).1 = c :: a := by
  unfold cutAt
  have := wtN_le c
  rw [if_pos (by lia)]
  exact ⟨_, rfl⟩
theorem rest_ne (room : Nat) (l : List Nat) (hr : 4 ≤ room) (h : room < weight l) : (cutAt room 0 l).2 ≠ [] := by
  intro e
  have h1 := cutAt_app room 0 l
  have h2 := cutAt_lt room 0 l (by lia)
  rw [e, List.append_nil] at h1
  rw [h1] at h2
  lia
theorem fRoom_head (room : Nat) (hr : 4 ≤ room) : ∀ (n : Nat) (l : List Nat), (fRoom room n l).head? = l.head?
  | 0, l => rfl
  | n + 1, l => by
    unfold fRoom
    split
    · exact dot_head l
    · rename_i h
      cases l with
      | nil => simp at h
      | cons c r =>
        obtain ⟨a, ha⟩ := cut_ne room hr c r
        rw [ha]
        have : (dot (c :: a)).head? = some c := dot_head _
        cases hd : dot (c :: a) with
        | nil => rw [hd] at this; cases this
        | cons x y => rw [hd] at this; simpa using this
theorem fRoom_weight (room : Nat) : ∀ (n : Nat) (l : List Nat), weight l ≤ weight (fRoom room n l)
  | 0, l => Nat.le_refl _
  | n + 1, l => by
    unfold fRoom
    split
    · exact dot_weight l
    · have h1 := cutAt_app room 0 l
      have h2 := fRoom_weight room n (cutAt room 0 l).2
      have h3 := dot_weight (cutAt room 0 l).1
      have h4 : weight l = weight (cutAt room 0 l).1 + weight (cutAt room 0 l).2 := by rw [← weight_append, h1]
      rw [weight_append]
      lia
theorem unF_fRoom (room : Nat) (hr : 4 ≤ room) : ∀ (n m k : Nat) (l : List Nat), l.length ≤ n → l.length ≤ m → l.length ≤ k → unF room (k + 1) (fRoom room m l) (weight (fRoom room m l)) = l
  | n, m, k, [], _, _, _ => by
    have : fRoom room m [] = [] := by cases m <;> simp [fRoom, dot]
    rw [this]; rfl
  | 0, m, k, c :: r, h, _, _ => by simp at h
  | n + 1, 0, k, c :: r, _, h, _ => by simp at h
  | n + 1, m + 1, k, c :: r, h1, h2, h3 => by
    by_cases hw : weight (c :: r) ≤ room
    · have e : fRoom room (m + 1) (c :: r) = dot (c :: r) := by rw [fRoom_succ, if_pos hw]
      rw [e]
      by_cases hc : c = 46
      · subst hc
        show unF room (k + 1) (46 :: 46 :: r) (weight (46 :: 46 :: r)) = _
        have h46 : wtN 46 = 1 := by decide
        have hw' : weight (46 :: 46 :: r) - 1 ≤ room := by simp only [weight_cons] at hw ⊢; lia
        rw [unF_cons, if_pos rfl, if_pos (by rfl), if_pos hw']
      · have e2 : dot (c :: r) = c :: r := by unfold dot; split <;> simp_all
        rw [e2]
        rw [unF_cons, if_neg hc, if_pos hw]
    · have e : fRoom room (m + 1) (c :: r) = dot (cutAt room 0 (c :: r)).1 ++ fRoom room m (cutAt room 0 (c :: r)).2 := by rw [fRoom_succ, if_neg hw]
      obtain ⟨a, ha⟩ := cut_ne room hr c r
      have happ := cutAt_app room 0 (c :: r)
      have hfull := cutAt_full room 0 (c :: r)
      have hlt := cutAt_lt room 0 (c :: r) (by lia)
      have hne := rest_ne room (c :: r) hr (by lia)
      generalize hb : (cutAt room 0 (c :: r)).2 = b at *
      rw [ha] at happ hfull hlt e
      simp only [Nat.zero_add] at hfull hlt
      have hlen : b.length ≤ r.length := by
        have := congrArg List.length happ
        simp at this
        lia
      have hn : b.length ≤ n := by simp at h1; lia
      have hm : b.length ≤ m := by simp at h2; lia
      cases k with
      | zero => simp at h3
      | succ k =>
      have hk : b.length ≤ k := by simp at h3; lia
      have ih := unF_fRoom room hr n m k b hn hm hk
      generalize hg : fRoom room m b = g at *
      have hgh : g.head? = b.head? := by rw [← hg]; exact fRoom_head room hr m b
      have hgw : weight b ≤ weight g := by rw [← hg]; exact fRoom_weight room m b
      have hfg : Full room (weight (c :: a)) g := by
        intro x y e
        rw [e] at hgh
        cases b with
        | nil => exact absurd rfl hne
        | cons z t =>
          have : x = z := by simpa using hgh
          subst this
          exact hfull x t rfl
      have hcut : cutAt room 0 ((c :: a) ++ g) = (c :: a, g) := cutAt_of room _ _ 0 (by simpa using hlt) (by simpa using hfg)
      have hwl : room < weight ((c :: a) ++ g) := by
        rw [weight_append]
        have : weight (c :: r) = weight (c :: a) + weight b := by rw [← happ, weight_append]
        lia
      rw [e]
      by_cases hc : c = 46
      · subst hc
        show unF room (k + 1 + 1) (46 :: ((46 :: a) ++ g)) (weight (46 :: ((46 :: a) ++ g))) = _
        have h46 : wtN 46 = 1 := by decide
        rw [unF_cons, if_pos rfl, if_pos (by rfl), weight_cons, h46, Nat.add_sub_cancel_left, if_neg (by lia), hcut]
        dsimp only
        rw [weight_append, Nat.add_sub_cancel_left, ih]
        exact happ
      · have e2 : dot (c :: a) = c :: a := by unfold dot; split <;> simp_all
        rw [e2]
        show unF room (k + 1 + 1) (c :: (a ++ g)) (weight ((c :: a) ++ g)) = _
        rw [unF_cons, if_neg hc, if_neg (by lia)]
        have hcut' : cutAt room 0 (c :: (a ++ g)) = (c :: a, g) := hcut
        rw [hcut']
        dsimp only
        rw [weight_append, Nat.add_sub_cancel_left, ih]
        exact happ
end Mine
end
section
namespace Mine
noncomputable def unitOf (c : Nat) : UQ := (c, !isSafe c)
noncomputable def encC (c : Nat) : List Nat := encU (unitOf c)
noncomputable def encL (l : List Nat) : List Nat := l.flatMap encC
theorem encC_safe {c : Nat} (h : isSafe c = true) : encC c = [c] := by simp [encC, encU, unitOf, h]
theorem encC_not {c : Nat} (h : isSafe c = false) : encC c = [61, hexd (c / 16), hexd (c % 16)] := by simp [encC, encU, unitOf, h]
theorem isSafe_iff (c : Nat) : isSafe c = true ↔ (c = 9 ∨ (32 ≤ c ∧ c < 127 ∧ c ≠ 61)) := by
  unfold isSafe; simp; lia
theorem encC_len (c : Nat) : (encC c).length = wtN c := by
  unfold wtN
  cases h : isSafe c
  · rw [encC_not h]; rfl
  · rw [encC_safe h]; rfl
theorem encL_app (a b : List Nat) : encL (a ++ b) = encL a ++ encL b := List.flatMap_append
theorem encL_cons (c : Nat) (b : List Nat) : encL (c :: b) = encC c ++ encL b := rfl
theorem encL_one (c : Nat) : encL [c] = encC c := by simp [encL]
theorem encL_len (l : List Nat) : (encL l).length = weight l := by
  induction l with
  | nil => rfl
  | cons c l ih => rw [encL_cons, List.length_append, encC_len, ih]; rfl
theorem snoc_of {l : List Nat} (h : l ≠ []) : ∃ a c, l = a ++ [c] := by
  rcases List.eq_nil_or_concat l with rfl | ⟨a, c, rfl⟩
  · exact absurd rfl h
  · exact ⟨a, c, by simp⟩
theorem tail1 {a : List Nat} (h : a ≠ []) (h256 : ∀ c ∈ a, c < 256) : ∃ p d, encL a = p ++ [d] ∧ d ≠ 61 := by
  obtain ⟨a', c, rfl⟩ := snoc_of h
  have hc : c < 256 := h256 c (by simp)
  cases hs : isSafe c
  · exact ⟨encL a' ++ [61, hexd (c / 16)], hexd (c % 16), by rw [encL_app, encL_one, encC_not hs]; simp, hexd_ne _ (by lia)⟩
  · exact ⟨encL a', c, by rw [encL_app, encL_one, encC_safe hs], by have := (isSafe_iff c).mp hs; lia⟩
theorem tail2 {a : List Nat} (h : 2 ≤ weight a) (h256 : ∀ c ∈ a, c < 256) : ∃ p d e, encL a = p ++ [d, e] ∧ d ≠ 61 ∧ e ≠ 61 := by
  have hne : a ≠ [] := by rintro rfl; simp at h
  obtain ⟨a', c, rfl⟩ := snoc_of hne
  have hc : c < 256 := h256 c (by simp)
  cases hs : isSafe c
  · exact ⟨encL a' ++ [61], hexd (c / 16), hexd (c % 16), by rw [encL_app, encL_one, encC_not hs]; simp, hexd_ne _ (by (clear hne h; lia)), hexd_ne _ (by (clear hc hne h; lia))⟩
  · have hw : wtN c = 1 := by unfold wtN; rw [if_pos hs]
    have hne' : a' ≠ [] := by rintro rfl; simp [hw] at h
    obtain ⟨p, d, e1, e2⟩ := tail1 hne' fun c hc => h256 c (by simp [hc])
    exact ⟨p, d, c, by rw [encL_app, encL_one, encC_safe hs, e1]; simp, e2, by have := (isSafe_iff c).mp hs; (clear e2 hne' hw hc hne h; lia)⟩
theorem getD_at {p : List Nat} {d : Nat} {r : List Nat} {k : Nat} (hk : k = p.length) : (p ++ d :: r).getD k 0 = d := by subst hk; simp [List.getD]
theorem cutN_enc {room : Nat} (hr : 4 ≤ room) {l : List Nat} (h256 : ∀ c ∈ l, c < 256) (hw : room < weight l) : cutN room (encL l) = weight (cutAt room 0 l).1 := by
  have happ := cutAt_app room 0 l
  have hfull := cutAt_full room 0 l
  have hlt := cutAt_lt room 0 l (by lia)
  have hne := rest_ne room l hr hw
  generalize (cutAt room 0 l).1 = a at *
  generalize (cutAt room 0 l).2 = b at *
  subst happ
  simp only [Nat.zero_add] at hfull hlt
  cases b with
  | nil => exact absurd rfl hne
  | cons c r =>
  have hf := hfull c r rfl
  have hwc := wtN_le c
  have ha : a ≠ [] := by rintro rfl; simp at hf; lia
  have h256a : ∀ c ∈ a, c < 256 := fun c hc => h256 c (by simp [hc])
  have hla := encL_len a
  unfold cutN
  rw [encL_app, encL_cons]
  cases hs : isSafe c
  · have h3 : wtN c = 3 := by unfold wtN; rw [hs]; rfl
    rw [encC_not hs]
    simp only [List.cons_append, List.nil_append]
    by_cases e3 : weight a = room - 3
    · rw [if_pos (getD_at (by (clear h3 ha hwc hf hw hne hlt hr; lia))), e3]
    · obtain ⟨p, d, e1, e2⟩ := tail1 ha h256a
      by_cases e4 : weight a = room - 2
      · have hlp : p.length + 1 = room - 2 := by rw [← e4, ← hla, e1]; simp
        have hx : (encL a ++ 61 :: hexd (c / 16) :: hexd (c % 16) :: encL r).getD (room - 3) 0 = d := by
          rw [e1, List.append_assoc]; exact getD_at (by (clear e2 e3 ha hwc hw hne; lia))
        rw [if_neg (fun q => e2 (hx.symm.trans q)), if_pos (getD_at (by (clear hx hlp e2 e3 h3 ha hwc hf hw hne hlt hr; lia))), e4]
      · have e5 : weight a = room - 1 := by (clear ha hwc hw hne; lia)
        obtain ⟨p, d, e, f1, f2, f3⟩ := tail2 (a := a) (by (clear e4 e2 e3 h3 ha hwc hf hw hne hlt; lia)) h256a
        have hlp : p.length + 2 = room - 1 := by rw [← e5, ← hla, f1]; simp
        have hx : (encL a ++ 61 :: hexd (c / 16) :: hexd (c % 16) :: encL r).getD (room - 3) 0 = d := by
          rw [f1, List.append_assoc]; exact getD_at (by (clear e4 e2 e3 ha hwc hw hne; lia))
        have hy : (encL a ++ 61 :: hexd (c / 16) :: hexd (c % 16) :: encL r).getD (room - 2) 0 = e := by
          rw [f1, show p ++ [d, e] = (p ++ [d]) ++ [e] from by simp, List.append_assoc]; exact getD_at (by simp; (clear hx e4 e2 e3 ha hwc hw hne; lia))
        rw [if_neg (fun q => f2 (hx.symm.trans q)), if_neg (fun q => f3 (hy.symm.trans q)), e5]
  · have h1 : wtN c = 1 := by unfold wtN; rw [hs]; rfl
    have e5 : weight a = room - 1 := by (clear ha hwc hw hne; lia)
    obtain ⟨p, d, e, f1, f2, f3⟩ := tail2 (a := a) (by (clear ha hwc hw hne; lia)) h256a
    have hlp : p.length + 2 = room - 1 := by rw [← e5, ← hla, f1]; simp
    have hx : (encL a ++ (encC c ++ encL r)).getD (room - 3) 0 = d := by
      rw [f1, List.append_assoc]; exact getD_at (by (clear f3 f2 ha hwc hw hne; lia))
    have hy : (encL a ++ (encC c ++ encL r)).getD (room - 2) 0 = e := by
      rw [f1, show p ++ [d, e] = (p ++ [d]) ++ [e] from by simp, List.append_assoc]; exact getD_at (by simp; (clear hx f3 f2 ha hwc hw hne; lia))
    rw [if_neg (fun q => f2 (hx.symm.trans q)), if_neg (fun q => f3 (hy.symm.trans q)), e5]
theorem cut_enc {room : Nat} (hr : 4 ≤ room) {l : List Nat} (h256 : ∀ c ∈ l, c < 256) (hw : room < weight l) : (encL l).take (cutN room (encL l)) = encL (cutAt room 0 l).1 ∧ (encL l).drop (cutN room (encL l)) = encL (cutAt room 0 l).2 := by
  rw [cutN_enc hr h256 hw, ← encL_len]
  have e : encL l = encL (cutAt room 0 l).1 ++ encL (cutAt room 0 l).2 := by rw [← encL_app, cutAt_app]
  rw [e]
  exact ⟨List.take_left, List.drop_left⟩
noncomputable def softU (room : Nat) : Nat → List Nat → List (List Nat) × List Nat
  | 0, l => ([], l)
  | n + 1, l => if weight l ≤ room then ([], l) else ((cutAt room 0 l).1 :: (softU room n (cutAt room 0 l).2).1, (softU room n (cutAt room 0 l).2).2)
theorem cut_mem (room : Nat) (l : List Nat) : (∀ c ∈ (cutAt room 0 l).1, c ∈ l) ∧ ∀ c ∈ (cutAt room 0 l).2, c ∈ l := by
  have := cutAt_app room 0 l
  constructor
  · intro c hc; rw [← this]; exact List.mem_append_left _ hc
  · intro c hc; rw [← this]; exact List.mem_append_right _ hc
theorem cut_less {room : Nat} (hr : 4 ≤ room) {l : List Nat} (hw : room < weight l) : (cutAt room 0 l).2.length < l.length := by
  cases l with
  | nil => simp at hw
  | cons c r =>
    obtain ⟨a, ha⟩ := cut_ne room hr c r
    have := congrArg List.length (cutAt_app room 0 (c :: r))
    rw [ha] at this
    simp at this ⊢
    (clear hw hr; lia)
theorem softs_enc {room : Nat} (hr : 4 ≤ room) : ∀ (n : Nat) (l : List Nat), l.length ≤ n → (∀ c ∈ l, c < 256) → softs room (encL l) = ((softU room n l).1.map (fun a => encL a ++ [61]), encL (softU room n l).2)
  | 0, l, h, _ => by
    have : l = [] := List.eq_nil_of_length_eq_zero (by lia)
    subst this
    rw [softs_end (by simp [encL])]; rfl
  | n + 1, l, h, h256 => by
    unfold softU
    by_cases hw : weight l ≤ room
    · rw [if_pos hw, softs_end (by rw [encL_len]; exact hw)]; rfl
    · have hl := cut_less hr (l := l) (by lia)
      rw [if_neg hw, softs_cut hr (by rw [encL_len]; (clear hl h hr; lia)), (cut_enc hr h256 (by (clear hl h hr; lia))).1, (cut_enc hr h256 (by (clear hl h hr; lia))).2, softs_enc hr n _ (by (clear hw hr; lia)) fun c hc => h256 c ((cut_mem room l).2 c hc)]
      rfl
theorem softU_le {room : Nat} (hr : 4 ≤ room) : ∀ (n : Nat) (l : List Nat), l.length ≤ n → weight (softU room n l).2 ≤ room
  | 0, l, h => by
    have : l = [] := List.eq_nil_of_length_eq_zero (by (clear hr; lia))
    subst this; simp [softU]
  | n + 1, l, h => by
    unfold softU
    by_cases hw : weight l ≤ room
    · rw [if_pos hw]; exact hw
    · have hl := cut_less hr (l := l) (by (clear h hr; lia))
      rw [if_neg hw]
      exact softU_le hr n _ (by lia)
noncomputable def lastRows (room : Nat) (l : List Nat) : List RowU :=
  match l.getLast? with
  | none => [([], false)]
  | some c => if isBlank c then (if weight l + 2 ≤ room then [(l.dropLast.map unitOf ++ [(c, true)], false)] else if weight l + 1 = room then [(l.map unitOf, true), ([], false)] else [(l.dropLast.map unitOf, true), ([(c, true)], false)]) else [(l.map unitOf, false)]
noncomputable def rowsOf (room : Nat) (l : List Nat) : List RowU := (softU room l.length l).1.map (fun a => (a.map unitOf, true)) ++ lastRows room (softU room l.length l).2
theorem encRow_soft (a : List Nat) : encRow (a.map unitOf, true) = encL a ++ [61] := by
  simp only [encRow, List.flatMap_map, if_true]; rfl
theorem encRow_hard (a : List Nat) : encRow (a.map unitOf, false) = encL a := by
  simp only [encRow, List.flatMap_map]; simp; rfl
theorem joinE_cons (e r : List Nat) {rs : List (List Nat)} (h : rs ≠ []) : joinE e (r :: rs) = r ++ e ++ joinE e rs := by
  cases rs with
  | nil => exact absurd rfl h
  | cons a t => rfl
theorem joinE_app (e : List Nat) : ∀ (a b : List (List Nat)), a ≠ [] → b ≠ [] → joinE e (a ++ b) = joinE e a ++ e ++ joinE e b
  | [], _, h, _ => absurd rfl h
  | [r], b, _, hb => by rw [List.cons_append, List.nil_append, joinE_cons e r hb]; rfl
  | r :: q :: t, b, _, hb => by
    rw [List.cons_append, joinE_cons e r (by simp), joinE_app e (q :: t) b (by simp) hb, joinE_cons e r (by simp)]
    simp [List.append_assoc]
theorem joinE_flat (e : List Nat) : ∀ (ls : List (List (List Nat))), (∀ l ∈ ls, l ≠ []) → joinE e ls.flatten = joinE e (ls.map (joinE e))
  | [], _ => rfl
  | [l], _ => by simp [joinE]
  | l :: q :: t, h => by
    have hq : (q :: t).flatten ≠ [] := by
      have := h q (by simp)
      simp [this]
    rw [List.flatten_cons, joinE_app e l _ (h l (.head _)) hq, joinE_flat e (q :: t) fun x hx => h x (.tail _ hx)]
    exact (joinE_cons e (joinE e l) (by simp)).symm
theorem joinE_lastE (e : List Nat) (a : List (List Nat)) {z : List (List Nat)} (hz : z ≠ []) : joinE e (a ++ [joinE e z]) = joinE e (a ++ z) := by
  cases a with
  | nil => simp [joinE]
  | cons r a => rw [joinE_app e _ _ (by simp) (by simp), joinE_app e _ _ (by simp) hz]; rfl
theorem lastRows_ne (room : Nat) (l : List Nat) : lastRows room l ≠ [] := by
  unfold lastRows
  split
  · simp
  · split
    · split
      · simp
      · split <;> simp
    · simp
theorem blank_safe {c : Nat} (h : isBlank c = true) : isSafe c = true := by
  unfold isBlank at h
  rw [isSafe_iff]
  simp at h
  lia
theorem lastEnt_enc {room : Nat} (el l : List Nat) (h256 : ∀ c ∈ l, c < 256) : lastEnt room el (encL l) = joinE el ((lastRows room l).map encRow) := by
  rcases List.eq_nil_or_concat l with rfl | ⟨a, c, rfl⟩
  · rfl
  · rw [List.concat_eq_append] at *
    have hc : c < 256 := h256 c (by simp)
    have hlast : (a ++ [c]).getLast? = some c := by simp
    have hdrop : (a ++ [c]).dropLast = a := by simp
    have hlen := encL_len (a ++ [c])
    cases hs : isSafe c
    · have hb : isBlank c = false := by
        cases q : isBlank c
        · rfl
        · rw [blank_safe q] at hs; cases hs
      have he : encL (a ++ [c]) = (encL a ++ [61, hexd (c / 16)]) ++ [hexd (c % 16)] := by rw [encL_app, encL_one, encC_not hs]; simp
      have hh := hexd_hex (c % 16) (by (clear hlen hc; lia))
      have hb2 : isBlank (hexd (c % 16)) = false := by
        unfold HexC at hh
        unfold isBlank
        simp; (clear hlen hc; lia)
      have hle : lastEnt room el (encL (a ++ [c])) = encL (a ++ [c]) := by
        unfold lastEnt
        have : (encL (a ++ [c])).getLast? = some (hexd (c % 16)) := by rw [he]; simp
        rw [this]
        simp only [hb2]
        rfl
      rw [hle]
      unfold lastRows
      rw [hlast]
      simp only [hb]
      show _ = encRow ((a ++ [c]).map unitOf, false)
      rw [encRow_hard]
    · have he : encL (a ++ [c]) = encL a ++ [c] := by rw [encL_app, encL_one, encC_safe hs]
      have hl2 : (encL (a ++ [c])).getLast? = some c := by rw [he]; simp
      have hd2 : (encL (a ++ [c])).dropLast = encL a := by rw [he]; simp
      unfold lastEnt lastRows
      rw [hl2, hlast]
      simp only
      cases hb : isBlank c
      · show _ = encRow ((a ++ [c]).map unitOf, false)
        rw [encRow_hard]; rfl
      · simp only [if_true]
        rw [hlen, hd2, hdrop]
        by_cases h1 : weight (a ++ [c]) + 2 ≤ room
        · rw [if_pos h1, if_pos h1]
          show _ = encRow (a.map unitOf ++ [(c, true)], false)
          have e0 : encRow (a.map unitOf ++ [(c, true)], false) = encRow (a.map unitOf, false) ++ encU (c, true) := by simp [encRow]
          rw [e0, encRow_hard]; rfl
        · rw [if_neg h1, if_neg h1]
          by_cases h2 : weight (a ++ [c]) + 1 = room
          · rw [if_pos h2, if_pos h2]
            show _ = encRow ((a ++ [c]).map unitOf, true) ++ el ++ encRow ([], false)
            rw [encRow_soft, he]
            simp [encRow]
          · rw [if_neg h2, if_neg h2]
            show _ = encRow (a.map unitOf, true) ++ el ++ encRow ([(c, true)], false)
            rw [encRow_soft]
            simp [encRow, encU, hexS]
theorem softU_mem (room : Nat) : ∀ (n : Nat) (l : List Nat), (∀ a ∈ (softU room n l).1, ∀ c ∈ a, c ∈ l) ∧ ∀ c ∈ (softU room n l).2, c ∈ l
  | 0, l => ⟨fun a ha => (by cases ha), fun c hc => hc⟩
  | n + 1, l => by
    unfold softU
    by_cases hw : weight l ≤ room
    · rw [if_pos hw]; exact ⟨fun a ha => (by cases ha), fun c hc => hc⟩
    · rw [if_neg hw]
      have ih := softU_mem room n (cutAt room 0 l).2
      have hm := cut_mem room l
      refine ⟨fun a ha c hc => ?_, fun c hc => hm.2 c (ih.2 c hc)⟩
      rcases List.mem_cons.mp ha with rfl | ha
      · exact hm.1 c hc
      · exact hm.2 c (ih.1 a ha c hc)
theorem entries_enc {room : Nat} (hr : 4 ≤ room) (el l : List Nat) (h256 : ∀ c ∈ l, c < 256) : joinE el (entries room el (encL l)) = joinE el ((rowsOf room l).map encRow) := by
  unfold entries rowsOf
  rw [softs_enc hr l.length l (Nat.le_refl _) h256]
  dsimp only
  rw [lastEnt_enc el _ fun c hc => h256 c ((softU_mem room l.length l).2 c hc), joinE_lastE _ _ (by simpa using lastRows_ne room _), List.map_append, List.map_map]
  congr 2
  apply List.map_congr_left
  intro a _
  exact (encRow_soft a).symm
end Mine
end
section
namespace Mine
noncomputable def noNl (r : List Nat) : Prop := ∀ c ∈ r, c ≠ 10 ∧ c ≠ 13
/-! the ends of the lines -/
theorem scan2_row : ∀ (r : List Nat), noNl r → ∀ z, scan2 (r ++ z) = r ++ scan2 z
  | [], _, z => rfl
  | c :: r, h, z => by
    have hc := h c (.head _)
    rw [List.cons_append, scan2_one (fun q => hc.2 q.1), if_neg (by lia), scan2_row r (fun x hx => h x (.tail _ hx))]
    rfl
theorem joinE_head (e : List Nat) : ∀ (rs : List (List Nat)), (∀ r ∈ rs, noNl r) → (∀ r', e ≠ 10 :: r') → ∀ r', joinE e rs ≠ 10 :: r'
  | [], _, _, r' => by simp [joinE]
  | [r], h, _, r' => by
    rintro q
    have := h r (.head _) 10 (by show 10 ∈ r; have q' : r = 10 :: r' := q; rw [q']; exact .head _)
    lia
  | [] :: q :: t, h, he, r' => by
    rw [joinE_cons e [] (by simp), List.nil_append]
    cases e with
    | nil =>
      exact joinE_head [] (q :: t) (fun x hx => h x (.tail _ hx)) he r'
    | cons x e =>
      intro w
      exact he e (by rw [(List.cons.inj w).1])
  | (c :: r) :: q :: t, h, _, r' => by
    rw [joinE_cons e _ (by simp)]
    intro w
    have := h _ (.head _) c (.head _)
    have e1 : c = 10 := (List.cons.inj w).1
    lia
theorem scan2_join (el : List Nat) (hel : el = [10] ∨ el = [13, 10] ∨ el = [13]) : ∀ (rs : List (List Nat)), (∀ r ∈ rs, noNl r) → scan2 (joinE el rs) = joinE [13, 10] rs
  | [], _ => rfl
  | [r], h => by
    have := scan2_row r (h r (.head _)) []
    rw [List.append_nil] at this
    show scan2 r = r
    rw [this]; simp [scan2]
  | r :: q :: t, h => by
    have ih := scan2_join el hel (q :: t) fun x hx => h x (.tail _ hx)
    rw [joinE_cons el r (by simp), joinE_cons _ r (by simp), List.append_assoc, scan2_row r (h r (.head _)), List.append_assoc, ← ih]
    congr 1
    rcases hel with rfl | rfl | rfl
    · rw [List.singleton_append, scan2_one (by rintro ⟨q, _⟩; cases q), if_pos (.inl rfl)]
    · show scan2 (13 :: 10 :: _) = _
      rw [scan2_two]; rfl
    · rw [List.singleton_append, scan2_one (by rintro ⟨_, r', w⟩; exact joinE_head [13] (q :: t) (fun x hx => h x (.tail _ hx)) (by simp) r' w), if_pos (.inr rfl)]
/-! the full stops -/
theorem scan1_row : ∀ (r : List Nat), noNl r → ∀ z, scan1 false (r ++ 13 :: z) = r ++ scan1 false (13 :: z)
  | [], _, z => rfl
  | c :: r, h, z => by
    have hc := h c (.head _)
    have hcb : (c == 10) = false := by simpa using hc.1
    rw [List.cons_append, scan1, hcb, scan1_row r fun x hx => h x (.tail _ hx)]
    simp
theorem scan1_end : ∀ (r : List Nat), noNl r → scan1 false r = r
  | [], _ => rfl
  | c :: r, h => by
    have hc := h c (.head _)
    have hcb : (c == 10) = false := by simpa using hc.1
    rw [scan1, hcb, scan1_end r fun x hx => h x (.tail _ hx)]
    simp
theorem scan1_first (r z : List Nat) (h : noNl r) (hz : ∀ r', noNl r' → scan1 false (r' ++ z) = r' ++ scan1 false z) (hz2 : scan1 true z = scan1 false z) : scan1 true (r ++ z) = dot r ++ scan1 false z := by
  cases r with
  | nil => exact hz2
  | cons c r =>
    have hc := h c (.head _)
    have hcb : (c == 10) = false := by simpa using hc.1
    rw [List.cons_append, scan1, hcb, hz r fun x hx => h x (.tail _ hx)]
    by_cases q : c = 46
    · subst q; rfl
    · have hd : dot (c :: r) = c :: r := by unfold dot; split <;> simp_all
      rw [hd, if_neg (by simp [q])]; rfl
theorem scan1_join : ∀ (rs : List (List Nat)), (∀ r ∈ rs, noNl r) → scan1 true (joinE [13, 10] rs) = joinE [13, 10] (rs.map dot)
  | [], _ => rfl
  | [r], h => by
    have := scan1_first r [] (h r (.head _)) (fun r' hr' => by rw [List.append_nil, scan1_end r' hr']; simp [scan1]) rfl
    rw [List.append_nil] at this
    show scan1 true r = dot r
    rw [this]; simp [scan1]
  | r :: q :: t, h => by
    have ih := scan1_join (q :: t) fun x hx => h x (.tail _ hx)
    rw [joinE_cons _ r (by simp), List.map_cons, joinE_cons _ (dot r) (by simp), List.append_assoc, List.append_assoc]
    rw [show ([13, 10] : List Nat) ++ joinE [13, 10] (q :: t) = 13 :: (10 :: joinE [13, 10] (q :: t)) from rfl, scan1_first r _ (h r (.head _)) (fun r' hr' => scan1_row r' hr' _) (by simp [scan1])]
    rw [← ih]
    congr 1
/-! rows with full stops laid in -/
noncomputable def dotRow (r : RowU) : RowU := match r.1 with
  | (46, false) :: _ => ((46, false) :: r.1, r.2)
  | _ => r
theorem dotRow_of {us : List UQ} {b : Bool} (h : ∀ t, us ≠ (46, false) :: t) : dotRow (us, b) = (us, b) := by
  unfold dotRow
  split
  · rename_i t e
    exact absurd e (h t)
  · rfl
theorem hexd_ne46 (d : Nat) : hexd d ≠ 46 := by unfold hexd; split <;> lia
theorem dotRow_enc (r : RowU) (hg : goodRow r) : encRow (dotRow r) = dot (encRow r) := by
  obtain ⟨us, b⟩ := r
  by_cases h : ∃ t, us = (46, false) :: t
  · obtain ⟨t, rfl⟩ := h
    rfl
  · have h' : ∀ t, us ≠ (46, false) :: t := fun t e => h ⟨t, e⟩
    rw [dotRow_of h']
    have hh : ∀ t, encRow (us, b) ≠ 46 :: t := by
      intro t e
      cases us with
      | nil => cases b <;> simp [encRow] at e
      | cons u us =>
        obtain ⟨c, q⟩ := u
        cases q with
        | true => simp [encRow, encU] at e
        | false =>
          have e1 : c = 46 := by
            simp [encRow, encU] at e
            exact e.1
          subst e1
          exact h' us rfl
    unfold dot
    split
    · rename_i t e; exact absurd e (hh _)
    · rfl
theorem dotRow_good (r : RowU) (h : goodRow r) : goodRow (dotRow r) := by
  obtain ⟨us, b⟩ := r
  by_cases h' : ∃ t, us = (46, false) :: t
  · obtain ⟨t, rfl⟩ := h'
    refine ⟨fun u hu => ?_, fun hb u hu => ?_⟩
    · rcases List.mem_cons.mp hu with rfl | hu
      · exact ⟨by decide, fun _ => .inr (by decide)⟩
      · exact h.1 u hu
    · refine h.2 hb u ?_
      have : ((46, false) :: (46, false) :: t).getLast? = some u := hu
      rw [List.getLast?_cons_cons] at this
      exact this
  · rw [dotRow_of fun t e => h' ⟨t, e⟩]; exact h
theorem dotRow_soft (r : RowU) : (dotRow r).2 = r.2 := by
  obtain ⟨us, b⟩ := r
  by_cases h' : ∃ t, us = (46, false) :: t
  · obtain ⟨t, rfl⟩ := h'; rfl
  · rw [dotRow_of fun t e => h' ⟨t, e⟩]
noncomputable def chars (r : RowU) : List Nat := r.1.map (·.1)
noncomputable def charsOf (R : List RowU) : List Nat := R.flatMap chars
theorem chars_units (a : List Nat) (b : Bool) : chars (a.map unitOf, b) = a := by
  unfold chars unitOf
  simp only [List.map_map]
  exact List.map_id' a
theorem chars_dot (a : List Nat) (b : Bool) : chars (dotRow (a.map unitOf, b)) = dot a := by
  cases a with
  | nil => rfl
  | cons c t =>
    by_cases hc : c = 46
    · subst hc
      have : chars (dotRow ((46 :: t).map unitOf, b)) = 46 :: chars ((46 :: t).map unitOf, b) := rfl
      rw [this, chars_units]; rfl
    · rw [dotRow_of, chars_units]
      · unfold dot; split <;> simp_all
      · intro t' e
        simp [unitOf] at e
        exact hc e.1.1
noncomputable def LineRows (R : List RowU) : Prop := ∃ S h, R = S ++ [h] ∧ (∀ r ∈ S, r.2 = true) ∧ h.2 = false
theorem decT_cons (r : RowU) {rs : List RowU} (h : rs ≠ []) : decT (r :: rs) = outRow r ++ decT rs := by
  cases rs with
  | nil => exact absurd rfl h
  | cons a t => rfl
theorem decT_softs : ∀ (S : List RowU), (∀ r ∈ S, r.2 = true) → ∀ rest, rest ≠ [] → decT (S ++ rest) = charsOf S ++ decT rest
  | [], _, rest, _ => rfl
  | r :: S, h, rest, hr => by
    rw [List.cons_append, decT_cons r (by simp [hr]), decT_softs S (fun x hx => h x (.tail _ hx)) rest hr]
    have : outRow r = chars r := by unfold outRow; rw [if_pos (h r (.head _))]; exact List.append_nil _
    rw [this]
    simp [charsOf]
theorem decT_lines : ∀ (Ls : List (List RowU)), (∀ R ∈ Ls, LineRows R) → decT Ls.flatten = joinE [10] (Ls.map charsOf)
  | [], _ => rfl
  | [R], h => by
    obtain ⟨S, x, rfl, hs, hx⟩ := h R (.head _)
    simp only [List.flatten_cons, List.flatten_nil, List.append_nil]
    rw [decT_softs S hs [x] (by simp)]
    simp [joinE, charsOf, decT, chars]
  | R :: Q :: t, h => by
    have ih := decT_lines (Q :: t) fun x hx => h x (.tail _ hx)
    obtain ⟨S, x, rfl, hs, hx⟩ := h R (.head _)
    have hq : (Q :: t).flatten ≠ [] := by
      obtain ⟨S', x', rfl, _, _⟩ := h Q (by simp)
      simp
    rw [List.flatten_cons, List.append_assoc, decT_softs S hs _ (by simp), List.singleton_append, decT_cons x hq, ih, show joinE [10] (List.map charsOf ((S ++ [x]) :: Q :: t)) = charsOf (S ++ [x]) ++ [10] ++ joinE [10] (List.map charsOf (Q :: t)) from joinE_cons _ _ (by simp)]
    have : outRow x = chars x ++ [10] := by unfold outRow; rw [hx]; rfl
    rw [this]
    simp [charsOf]
/-! what a server makes of a line -/
theorem lastRows_line (room : Nat) (l : List Nat) : LineRows (lastRows room l) := by
  unfold lastRows
  split
  · exact ⟨[], _, rfl, by simp, rfl⟩
  · split
    · split
      · exact ⟨[], _, rfl, by simp, rfl⟩
      · split
        · exact ⟨[_], _, rfl, by simp, rfl⟩
        · exact ⟨[_], _, rfl, by simp, rfl⟩
    · exact ⟨[], _, rfl, by simp, rfl⟩
theorem rowsOf_line (room : Nat) (l : List Nat) : LineRows (rowsOf room l) := by
  unfold rowsOf
  obtain ⟨S, h, e, hs, hh⟩ := lastRows_line room (softU room l.length l).2
  rw [e]
  refine ⟨_ ++ S, h, (List.append_assoc _ _ _).symm, fun r hr => ?_, hh⟩
  rcases List.mem_append.mp hr with hr | hr
  · obtain ⟨a, _, rfl⟩ := List.mem_map.mp hr; rfl
  · exact hs r hr
theorem dotted_line {R : List RowU} (h : LineRows R) : LineRows (R.map dotRow) := by
  obtain ⟨S, x, rfl, hs, hx⟩ := h
  refine ⟨S.map dotRow, dotRow x, by simp, fun r hr => ?_, by rw [dotRow_soft]; exact hx⟩
  obtain ⟨a, ha, rfl⟩ := List.mem_map.mp hr
  rw [dotRow_soft]; exact hs a ha
theorem lastRows_chars (room : Nat) (l : List Nat) : charsOf ((lastRows room l).map dotRow) = dot l := by
  rcases List.eq_nil_or_concat l with rfl | ⟨a, c, rfl⟩
  · rfl
  · rw [List.concat_eq_append]
    have hlast : (a ++ [c]).getLast? = some c := by simp
    have hdrop : (a ++ [c]).dropLast = a := by simp
    unfold lastRows
    rw [hlast, hdrop]
    simp only
    cases hb : isBlank c
    · show chars (dotRow ((a ++ [c]).map unitOf, false)) ++ [] = _
      rw [chars_dot, List.append_nil]
    · have hc46 : c ≠ 46 := by rintro rfl; revert hb; decide
      have hap : dot (a ++ [c]) = dot a ++ [c] := by
        cases a with
        | nil => unfold dot; simp [hc46]
        | cons x t => by_cases q : x = 46
                      · subst q; rfl
                      · have h1 : dot (x :: t) = x :: t := by unfold dot; split <;> simp_all
                        have h2 : dot (x :: t ++ [c]) = x :: t ++ [c] := by rw [List.cons_append]; unfold dot; split <;> simp_all
                        rw [h1, h2]
      have hone : ∀ b, dotRow ([(c, true)], b) = ([(c, true)], b) := fun b => dotRow_of (by intro t e; simp at e)
      simp only [if_true]
      split
      · show chars (dotRow (a.map unitOf ++ [(c, true)], false)) ++ [] = _
        rw [List.append_nil, hap]
        cases a with
        | nil => show chars (dotRow ([(c, true)], false)) = _; rw [hone]; rfl
        | cons x t =>
          by_cases q : x = 46
          · subst q
            have : chars (dotRow ((46 :: t).map unitOf ++ [(c, true)], false)) = 46 :: chars ((46 :: t).map unitOf ++ [(c, true)], false) := rfl
            rw [this]
            have h2 : chars ((46 :: t).map unitOf ++ [(c, true)], false) = chars ((46 :: t).map unitOf, false) ++ [c] := by simp [chars]
            rw [h2, chars_units]; rfl
          · rw [dotRow_of]
            · have h2 : chars ((x :: t).map unitOf ++ [(c, true)], false) = chars ((x :: t).map unitOf, false) ++ [c] := by simp [chars]
              rw [h2, chars_units]
              have h1 : dot (x :: t) = x :: t := by unfold dot; split <;> simp_all
              rw [h1]
            · intro t' e
              simp [unitOf] at e
              exact q e.1.1
      · split
        · show chars (dotRow ((a ++ [c]).map unitOf, true)) ++ (chars (dotRow ([], false)) ++ []) = _
          rw [chars_dot]; simp [dotRow, chars]
        · show chars (dotRow (a.map unitOf, true)) ++ (chars (dotRow ([(c, true)], false)) ++ []) = _
          rw [chars_dot, hone, hap]; rfl
theorem fRoom_rows (room : Nat) (hr : 4 ≤ room) : ∀ (n : Nat) (l : List Nat), l.length ≤ n → charsOf (((softU room n l).1.map (fun a => ((a.map unitOf, true) : RowU)) ++ lastRows room (softU room n l).2).map dotRow) = fRoom room n l
  | 0, l, h => by
    have : l = [] := List.eq_nil_of_length_eq_zero (by lia)
    subst this
    exact lastRows_chars room []
  | n + 1, l, h => by
    unfold softU fRoom
    by_cases hw : weight l ≤ room
    · rw [if_pos hw, if_pos hw]
      exact lastRows_chars room l
    · have hl := cut_less hr (l := l) (by lia)
      rw [if_neg hw, if_neg hw, ← fRoom_rows room hr n _ (by lia)]
      simp only [List.map_cons, List.cons_append]
      show chars (dotRow _) ++ _ = _
      rw [chars_dot]; rfl
noncomputable def FL (room : Nat) (l : List Nat) : List Nat := fRoom room l.length l
theorem FL_rows {room : Nat} (hr : 4 ≤ room) (l : List Nat) : charsOf ((rowsOf room l).map dotRow) = FL room l := fRoom_rows room hr l.length l (Nat.le_refl _)
/-! rows are good -/
theorem unit_good {c : Nat} (h : c < 256) : goodU (unitOf c) := ⟨h, fun q => (isSafe_iff c).mp (by simpa [unitOf] using q)⟩
theorem lastRows_good (room : Nat) (l : List Nat) (h : ∀ c ∈ l, c < 256) : ∀ r ∈ lastRows room l, goodRow r := by
  have hu : ∀ a : List Nat, (∀ c ∈ a, c < 256) → ∀ u ∈ a.map unitOf, goodU u := fun a ha u hu => by
    obtain ⟨c, hc, rfl⟩ := List.mem_map.mp hu
    exact unit_good (ha c hc)
  have hempty : goodRow ([], false) := ⟨by simp, by simp⟩
  rcases List.eq_nil_or_concat l with rfl | ⟨a, c, rfl⟩
  · intro r hr; rw [List.mem_singleton.mp hr]; exact hempty
  · rw [List.concat_eq_append] at *
    have hlast : (a ++ [c]).getLast? = some c := by simp
    have hdrop : (a ++ [c]).dropLast = a := by simp
    have hc : c < 256 := h c (by simp)
    have ha : ∀ c ∈ a, c < 256 := fun x hx => h x (by simp [hx])
    unfold lastRows
    rw [hlast, hdrop]
    simp only
    have h1 : goodU (c, true) := ⟨hc, by simp⟩
    cases hb : isBlank c
    · intro r hr
      rw [List.mem_singleton.mp hr]
      refine ⟨hu _ h, fun _ u hu' => .inr ?_⟩
      have : u = unitOf c := by
        simp at hu'; exact hu'.symm
      rw [this]
      unfold isBlank at hb
      simp at hb
      exact ⟨hb.2, hb.1⟩
    · simp only [if_true]
      split
      · intro r hr
        rw [List.mem_singleton.mp hr]
        refine ⟨fun u hu' => ?_, fun _ u hu' => .inl ?_⟩
        · rcases List.mem_append.mp hu' with q | q
          · exact hu a ha u q
          · rw [List.mem_singleton.mp q]; exact h1
        · simp at hu'; rw [← hu']
      · split
        · intro r hr
          rcases List.mem_cons.mp hr with rfl | hr
          · exact ⟨hu _ h, by simp⟩
          · rw [List.mem_singleton.mp hr]; exact hempty
        · intro r hr
          rcases List.mem_cons.mp hr with rfl | hr
          · exact ⟨hu _ ha, by simp⟩
          · rw [List.mem_singleton.mp hr]
            refine ⟨fun u hu' => ?_, fun _ u hu' => .inl ?_⟩
            · rw [List.mem_singleton.mp hu']; exact h1
            · simp at hu'; rw [← hu']
theorem rowsOf_good (room : Nat) (l : List Nat) (h : ∀ c ∈ l, c < 256) : ∀ r ∈ rowsOf room l, goodRow r := by
  intro r hr
  have hm := softU_mem room l.length l
  rcases List.mem_append.mp hr with hr | hr
  · obtain ⟨a, ha, rfl⟩ := List.mem_map.mp hr
    refine ⟨fun u hu => ?_, by simp⟩
    obtain ⟨c, hc, rfl⟩ := List.mem_map.mp hu
    exact unit_good (h c (hm.1 a ha c hc))
  · exact lastRows_good room _ (fun c hc => h c (hm.2 c hc)) r hr
end Mine
end
section
namespace Mine
open PySem.Builtin PySem.Builtin.Str
theorem dle_snoc (l : List Nat) : ∀ q : List (List Nat), dle (q ++ [l]) = if l = [] then q else q ++ [l]
  | [] => by
    show dle [l] = _
    unfold dle; split <;> simp_all
  | a :: q => by
    rw [List.cons_append, dle_cons a (by simp), dle_snoc l q]
    split <;> rfl
theorem spl_lastc : ∀ (n : Nat) (b : List Nat), b.length ≤ n → ∀ c, b.getLast? = some c → ((c = 10 ∨ c = 13) → ∃ a q, spl b = (a :: q) ++ [[]]) ∧ (¬ (c = 10 ∨ c = 13) → ∃ q l, l ≠ [] ∧ spl b = q ++ [l])
  | _, [], _, c, h => by cases h
  | 0, x :: b, h, _, _ => by simp at h
  | n + 1, x :: b, h, c, hc => by
    have hb : b.length ≤ n := by simpa using h
    by_cases h2 : x = 13 ∧ ∃ r', b = 10 :: r'
    · obtain ⟨rfl, r', rfl⟩ := h2
      rw [spl_two]
      rw [List.getLast?_cons_cons] at hc
      cases r' with
      | nil =>
        obtain rfl : 10 = c := by simpa using hc
        exact ⟨fun _ => ⟨[], [], by rw [spl]; rfl⟩, fun q => absurd (.inl rfl) q⟩
      | cons z r' =>
        rw [List.getLast?_cons_cons] at hc
        have ih := spl_lastc n (z :: r') (by simp at hb ⊢; lia) c hc
        refine ⟨fun q => ?_, fun q => ?_⟩
        · obtain ⟨a, q, e⟩ := ih.1 q
          exact ⟨[], a :: q, by rw [e]; rfl⟩
        · obtain ⟨q, l, hl, e⟩ := ih.2 q
          exact ⟨[] :: q, l, hl, by rw [e]; rfl⟩
    · by_cases hx : x = 10 ∨ x = 13
      · rw [spl_nl h2 hx]
        cases b with
        | nil =>
          obtain rfl : x = c := by simpa using hc
          exact ⟨fun _ => ⟨[], [], by rw [spl]; rfl⟩, fun q => absurd hx q⟩
        | cons z b =>
          rw [List.getLast?_cons_cons] at hc
          have ih := spl_lastc n (z :: b) hb c hc
          refine ⟨fun q => ?_, fun q => ?_⟩
          · obtain ⟨a, q, e⟩ := ih.1 q
            exact ⟨[], a :: q, by rw [e]; rfl⟩
          · obtain ⟨q, l, hl, e⟩ := ih.2 q
            exact ⟨[] :: q, l, hl, by rw [e]; rfl⟩
      · rw [spl_char hx]
        cases b with
        | nil =>
          obtain rfl : x = c := by simpa using hc
          exact ⟨fun q => absurd q hx, fun _ => ⟨[], [x], by simp, by rw [spl]; rfl⟩⟩
        | cons z b =>
          rw [List.getLast?_cons_cons] at hc
          have ih := spl_lastc n (z :: b) hb c hc
          refine ⟨fun q => ?_, fun q => ?_⟩
          · obtain ⟨a, q, e⟩ := ih.1 q
            exact ⟨x :: a, q, by rw [e]; rfl⟩
          · obtain ⟨q, l, hl, e⟩ := ih.2 q
            rw [e]
            cases q with
            | nil => exact ⟨[], x :: l, by simp, rfl⟩
            | cons a q => exact ⟨(x :: a) :: q, l, hl, rfl⟩
theorem entries_nil (room : Nat) (el : List Nat) : entries room el [] = [[]] := by
  unfold entries
  rw [softs_end (by simp)]; rfl
theorem spl_dle {b : List Nat} {c : Nat} (h : b.getLast? = some c) (room : Nat) (el : List Nat) : (spl b).flatMap (entries room el) = (dle (spl b)).flatMap (entries room el) ++ (if c = 10 ∨ c = 13 then [[]] else []) := by
  have := spl_lastc b.length b (Nat.le_refl _) c h
  by_cases hc : c = 10 ∨ c = 13
  · obtain ⟨a, q, e⟩ := this.1 hc
    rw [if_pos hc, e, dle_snoc, if_pos rfl, List.flatMap_append, List.flatMap_cons (x := []), List.flatMap_nil, entries_nil]
    simp
  · obtain ⟨q, l, hl, e⟩ := this.2 hc
    rw [if_neg hc, e, dle_snoc, if_neg hl, List.append_nil]
theorem joinE_txt (el : List Nat) (xs : List (List Nat)) : Txt.join ⟨el.toArray⟩ (xs.map fun x => (⟨x.toArray⟩ : PySem.Str)) = ⟨(joinE el xs).toArray⟩ := by
  apply PySem.Str.ext'
  show ((xs.map fun x => (⟨x.toArray⟩ : PySem.Str)).drop 1).foldl (fun acc p => acc ++ el.toArray ++ p.cps) ((xs.map fun x => (⟨x.toArray⟩ : PySem.Str)).headD PySem.Str.empty).cps = (joinE el xs).toArray
  have key : ∀ (ys : List (List Nat)) (x : List Nat) (acc : List Nat), (ys.map fun x => (⟨x.toArray⟩ : PySem.Str)).foldl (fun acc p => acc ++ el.toArray ++ p.cps) (acc ++ x).toArray = (acc ++ joinE el (x :: ys)).toArray := by
    intro ys
    induction ys with
    | nil => intro x acc; rfl
    | cons y ys ih =>
      intro x acc
      rw [List.map_cons, List.foldl_cons]
      have e : (acc ++ x).toArray ++ el.toArray ++ (⟨y.toArray⟩ : PySem.Str).cps = ((acc ++ x ++ el) ++ y).toArray := by
        apply Array.ext'; simp
      rw [e, ih]
      show _ = (acc ++ (x ++ el ++ joinE el (y :: ys))).toArray
      congr 1
      simp [List.append_assoc]
  cases xs with
  | nil => rfl
  | cons x xs =>
    have := key xs x []
    rw [List.map_cons]
    exact this
theorem crlfq_all : ((List.range 127).all fun c => (occurrences (PySem.Str.ofString "\r\n") ⟨#[c]⟩ 0 (PySem.Str.ofString "\r\n").length 1).isEmpty == !(c == 10 || c == 13)) = true := by decide +kernel
theorem crlfq {c : Nat} (h : c < 127) : (occurrences (PySem.Str.ofString "\r\n") ⟨#[c]⟩ 0 (PySem.Str.ofString "\r\n").length 1).isEmpty = !(c == 10 || c == 13) := beq_iff_eq.mp (List.all_eq_true.mp crlfq_all c (List.mem_range.mpr h))
/-! sizes -/
theorem sub_sum {f : List Nat → Nat} : ∀ (l : List (List Nat)), ((dle l).map f).sum ≤ (l.map f).sum
  | [] => Nat.le_refl _
  | [a] => by unfold dle; split <;> simp
  | a :: b :: t => by
    rw [dle_cons a (by simp)]
    have := sub_sum (f := f) (b :: t)
    simp only [List.map_cons, List.sum_cons] at this ⊢
    lia
theorem take_sum {f : List Nat → Nat} : ∀ (i : Nat) (l : List (List Nat)), ((l.take i).map f).sum ≤ (l.map f).sum
  | 0, l => by simp
  | i + 1, [] => by simp
  | i + 1, a :: l => by
    have := take_sum (f := f) i l
    simp only [List.take_succ_cons, List.map_cons, List.sum_cons]
    lia
theorem sum_le {f g : List Nat → Nat} (h : ∀ x, f x ≤ g x) : ∀ l : List (List Nat), (l.map f).sum ≤ (l.map g).sum
  | [] => Nat.le_refl _
  | a :: l => by
    have := sum_le h l
    have := h a
    simp only [List.map_cons, List.sum_cons]
    lia
theorem sum_lin (a b : Nat) : ∀ l : List (List Nat), (l.map fun x => a * x.length + b).sum = a * (l.map List.length).sum + b * l.length
  | [] => rfl
  | x :: l => by
    have := sum_lin a b l
    simp only [List.map_cons, List.sum_cons, List.length_cons, Nat.mul_add, Nat.mul_one] at this ⊢
    lia
theorem lastEnt_len {room : Nat} {el rest : List Nat} (hr : rest.length ≤ room) (hroom : room ≤ 8) (hel : el.length ≤ 2) : (lastEnt room el rest).length ≤ 13 := by
  unfold lastEnt
  split
  · simp
  · split
    · split
      · simp [hexS]; lia
      · split
        · simp; lia
        · simp [hexS]; lia
    · lia
theorem entries_flat {room : Nat} (h4 : 4 ≤ room) (hroom : room ≤ 8) (el e : List Nat) (hel : el.length ≤ 2) : ((entries room el e).flatten).length ≤ 2 * e.length + 13 := by
  unfold entries
  have := softs_len h4 e.length e (Nat.le_refl _)
  have := lastEnt_len (el := el) this.2.2.2 hroom hel
  rw [List.flatten_append, List.length_append, List.flatten_cons, List.flatten_nil, List.append_nil]
  (clear hel hroom h4; lia)
theorem flatMap_len (f : List Nat → List (List Nat)) : ∀ l : List (List Nat), (l.flatMap f).length = (l.map fun x => (f x).length).sum
  | [] => rfl
  | x :: l => by rw [List.flatMap_cons, List.length_append, flatMap_len f l]; rfl
theorem flatMap_flat (f : List Nat → List (List Nat)) : ∀ l : List (List Nat), ((l.flatMap f).flatten).length = (l.map fun x => ((f x).flatten).length).sum
  | [] => rfl
  | x :: l => by rw [List.flatMap_cons, List.flatten_append, List.length_append, flatMap_flat f l]; rfl
theorem pre_len {room : Nat} (h4 : 4 ≤ room) (el bd : List Nat) (i : Nat) : (((dle (spl bd)).take i).flatMap (entries room el)).length ≤ 2 * bd.length + 1 := by
  rw [flatMap_len]
  refine Nat.le_trans (take_sum i _) (Nat.le_trans (sub_sum _) (Nat.le_trans (sum_le (g := fun x => 1 * x.length + 1) (fun x => by have := entries_len h4 el x; lia) _) ?_))
  rw [sum_lin]
  have := spl_sum bd.length bd (Nat.le_refl _)
  (clear h4; lia)
theorem all_flat {room : Nat} (h4 : 4 ≤ room) (hroom : room ≤ 8) (el bd : List Nat) (hel : el.length ≤ 2) : (((spl bd).flatMap (entries room el)).flatten).length ≤ 15 * bd.length + 13 := by
  rw [flatMap_flat]
  refine Nat.le_trans (sum_le (g := fun x => 2 * x.length + 13) (fun x => entries_flat h4 hroom el x hel) _) ?_
  rw [sum_lin]
  have := spl_sum bd.length bd (Nat.le_refl _)
  (clear hel hroom h4; lia)
theorem all_len {room : Nat} (h4 : 4 ≤ room) (el bd : List Nat) : ((spl bd).flatMap (entries room el)).length ≤ 2 * bd.length + 1 := by
  rw [flatMap_len]
  refine Nat.le_trans (sum_le (g := fun x => 1 * x.length + 1) (fun x => by have := entries_len h4 el x; lia) _) ?_
  rw [sum_lin]
  have := spl_sum bd.length bd (Nat.le_refl _)
  (clear h4; lia)
theorem len_map (xs : List (List Nat)) : ((xs.map fun x => (⟨x.toArray⟩ : PySem.Str)).map (·.length)).sum = xs.flatten.length := by
  rw [List.length_flatten]
  simp [PySem.Str.length, Function.comp_def]
end Mine
end
section
namespace Mine
theorem hexd_ge (d : Nat) : 48 ≤ hexd d := by unfold hexd; split <;> lia
theorem bodySafe_eq {c : Nat} (h : ¬ (c = 10 ∨ c = 13)) : bodySafe c = isSafe c := by
  have h1 : (c == 10) = false := by simp; lia
  have h2 : (c == 13) = false := by simp; lia
  unfold bodySafe isSafe
  rw [h1, h2]; simp
theorem bodyS_char {c : Nat} (h : ¬ (c = 10 ∨ c = 13)) : (bodyS c).cps.toList = encC c := by
  unfold bodyS
  rw [bodySafe_eq h]
  cases hs : isSafe c
  · rw [encC_not hs]; rfl
  · rw [encC_safe hs]; rfl
theorem bodyS_nl {c : Nat} (h : c = 10 ∨ c = 13) : (bodyS c).cps.toList = [c] := by
  rcases h with rfl | rfl <;> rfl
theorem encC_noNl {c : Nat} (h : ¬ (c = 10 ∨ c = 13)) : noNl (encC c) := by
  intro k hk
  cases hs : isSafe c
  · rw [encC_not hs] at hk
    have h1 := hexd_ge (c / 16)
    have h2 := hexd_ge (c % 16)
    simp at hk
    lia
  · rw [encC_safe hs] at hk
    rw [List.mem_singleton.mp hk]; lia
theorem body_head : ∀ (r r' : List Nat), (r.flatMap fun c => (bodyS c).cps.toList) = 10 :: r' → ∃ r'', r = 10 :: r''
  | [], r', h => by cases h
  | c :: r, r', h => by
    by_cases hc : c = 10 ∨ c = 13
    · rw [List.flatMap_cons, bodyS_nl hc] at h
      have : c = 10 := (List.cons.inj h).1
      exact ⟨r, by rw [this]⟩
    · rw [List.flatMap_cons, bodyS_char hc] at h
      exfalso
      have hn := encC_noNl hc
      cases he : encC c with
      | nil => have := encC_len c; rw [he] at this; have := wtN_pos c; simp at *; lia
      | cons k t =>
        rw [he] at h hn
        have e1 : k = 10 := (List.cons.inj h).1
        have := hn k (.head _)
        lia
theorem map_att (p : List Nat) : ∀ X : List (List Nat), X ≠ [] → (att p X).map encL = att (encL p) (X.map encL)
  | [], h => absurd rfl h
  | a :: t, _ => by
    show encL (p ++ a) :: t.map encL = (encL p ++ encL a) :: t.map encL
    rw [encL_app]
theorem spl_body : ∀ (n : Nat) (b : List Nat), b.length ≤ n → spl (b.flatMap fun c => (bodyS c).cps.toList) = (spl b).map encL
  | _, [], _ => by rw [List.flatMap_nil, spl]; rfl
  | 0, c :: b, h => by simp at h
  | n + 1, c :: b, h => by
    have hb : b.length ≤ n := by simpa using h
    by_cases h2 : c = 13 ∧ ∃ r', b = 10 :: r'
    · obtain ⟨rfl, r', rfl⟩ := h2
      rw [spl_two, List.flatMap_cons, List.flatMap_cons, bodyS_nl (.inr rfl), bodyS_nl (.inl rfl)]
      show spl (13 :: 10 :: (r'.flatMap fun c => (bodyS c).cps.toList)) = _
      rw [spl_two, spl_body n r' (by simp at hb; lia)]
      rfl
    · by_cases hc : c = 10 ∨ c = 13
      · rw [spl_nl h2 hc, List.flatMap_cons, bodyS_nl hc, List.singleton_append, spl_nl ?_ hc, spl_body n b hb]
        · rfl
        · rintro ⟨q, r', hr'⟩
          exact h2 ⟨q, body_head b r' hr'⟩
      · rw [spl_char hc, List.flatMap_cons, bodyS_char hc, spl_row _ (encC_noNl hc), spl_body n b hb, map_att _ _ (spl_ne b)]
        rw [encL_one]
theorem flatMap_flatten {α : Type} (f : List Nat → List α) (l : List (List Nat)) : l.flatMap f = (l.map f).flatten := List.flatMap_def
/-- what body_encode writes, as rows -/
theorem rows_enc {room : Nat} (hr : 4 ≤ room) (el mail : List Nat) (h256 : ∀ c ∈ mail, c < 256) : joinE el ((spl (mail.flatMap fun c => (bodyS c).cps.toList)).flatMap (entries room el)) = joinE el (((spl mail).flatMap (rowsOf room)).map encRow) := by
  rw [spl_body mail.length mail (Nat.le_refl _), List.flatMap_map, List.map_flatMap, List.flatMap_def, List.flatMap_def]
  rw [joinE_flat el ((spl mail).map fun l => entries room el (encL l)) ?_, joinE_flat el ((spl mail).map fun l => (rowsOf room l).map encRow) ?_]
  · rw [List.map_map, List.map_map]
    congr 1
    apply List.map_congr_left
    intro l hl
    exact entries_enc hr el l fun c hc => h256 c (spl_mem mail.length mail (Nat.le_refl _) l hl c hc)
  · intro r hr'
    obtain ⟨l, _, rfl⟩ := List.mem_map.mp hr'
    unfold rowsOf
    have := lastRows_ne room (softU room l.length l).2
    simp [this]
  · intro r hr'
    obtain ⟨l, _, rfl⟩ := List.mem_map.mp hr'
    unfold entries
    simp
theorem rows_good {room : Nat} {mail : List Nat} (h256 : ∀ c ∈ mail, c < 256) : ∀ r ∈ (spl mail).flatMap (rowsOf room), goodRow r := by
  intro r hr
  obtain ⟨l, hl, hr⟩ := List.mem_flatMap.mp hr
  exact rowsOf_good room l (fun c hc => h256 c (spl_mem mail.length mail (Nat.le_refl _) l hl c hc)) r hr
theorem noNl_good {r : RowU} (h : goodRow r) : noNl (encRow r) := fun c hc => by have := encRow_ok h c hc; lia
theorem fRoom_len {room : Nat} (hr : 4 ≤ room) : ∀ (n : Nat) (l : List Nat), l.length ≤ n → (fRoom room n l).length ≤ 2 * l.length
  | 0, l, h => by
    have : l = [] := List.eq_nil_of_length_eq_zero (by lia)
    subst this; simp [fRoom]
  | n + 1, l, h => by
    have hdot : ∀ a : List Nat, (dot a).length ≤ a.length + (if a = [] then 0 else 1) := by
      intro a
      cases a with
      | nil => simp [dot]
      | cons c t => unfold dot; split <;> simp
    by_cases hw : weight l ≤ room
    · rw [fRoom_succ, if_pos hw]
      have := hdot l
      cases l with
      | nil => simp [dot]
      | cons c t => rw [if_neg (by simp)] at this; simp at this ⊢; (clear hw h hr; lia)
    · have hl := cut_less hr (l := l) (by lia)
      rw [fRoom_succ, if_neg hw, List.length_append]
      have h1 := hdot (cutAt room 0 l).1
      have h2 := fRoom_len hr n (cutAt room 0 l).2 (by (clear h1 hw hr; lia))
      have h3 := congrArg List.length (cutAt_app room 0 l)
      rw [List.length_append] at h3
      have h4 : (cutAt room 0 l).1 ≠ [] := by
        intro q; rw [q] at h3; simp at h3; (clear h2 h1 hw h hr; lia)
      rw [if_neg h4] at h1
      (clear h4 hw h hr; lia)
theorem FL_len {room : Nat} (hr : 4 ≤ room) (l : List Nat) : (FL room l).length ≤ 2 * l.length := fRoom_len hr l.length l (Nat.le_refl _)
theorem softU_count {room : Nat} (hr : 4 ≤ room) : ∀ (n : Nat) (l : List Nat), l.length ≤ n → (softU room n l).1.length ≤ l.length
  | 0, l, h => by simp [softU]
  | n + 1, l, h => by
    unfold softU
    by_cases hw : weight l ≤ room
    · rw [if_pos hw]; simp
    · have hl := cut_less hr (l := l) (by (clear h hr; lia))
      rw [if_neg hw]
      have := softU_count hr n (cutAt room 0 l).2 (by lia)
      simp only [List.length_cons]; (clear hw h hr; lia)
theorem rows_count {room : Nat} (hr : 4 ≤ room) (l : List Nat) : (rowsOf room l).length ≤ l.length + 2 := by
  unfold rowsOf
  have h1 := softU_count hr l.length l (Nat.le_refl _)
  have h2 : (lastRows room (softU room l.length l).2).length ≤ 2 := by
    unfold lastRows
    split
    · simp
    · split
      · split
        · simp
        · split <;> simp
      · simp
  rw [List.length_append, List.length_map]
  lia
theorem encU_len (u : UQ) : (encU u).length ≤ 3 := by unfold encU; split <;> simp
theorem encRow_len (r : RowU) : (encRow r).length ≤ 3 * (chars r).length + 1 := by
  unfold encRow chars
  rw [List.length_append, List.length_map]
  have h1 : ∀ us : List UQ, (us.flatMap encU).length ≤ 3 * us.length := by
    intro us
    induction us with
    | nil => simp
    | cons u us ih =>
      have := encU_len u
      rw [List.flatMap_cons, List.length_append, List.length_cons]; lia
    
  have := h1 r.1
  split
  · show _ + 1 ≤ _
    lia
  · show _ + 0 ≤ _
    lia
theorem charsOf_cons (r : RowU) (R : List RowU) : charsOf (r :: R) = chars r ++ charsOf R := rfl
theorem join_len (e : List Nat) (he : e.length ≤ 2) : ∀ R : List RowU, (joinE e (R.map encRow)).length ≤ 3 * (charsOf R).length + 3 * R.length
  | [] => by simp [joinE]
  | [r] => by
    have := encRow_len r
    show (encRow r).length ≤ _
    rw [charsOf_cons, List.length_append]; simp only [List.length_cons, List.length_nil]; (clear he; lia)
  | r :: q :: R => by
    have ih := join_len e he (q :: R)
    have := encRow_len r
    rw [List.map_cons, joinE_cons e _ (by simp), List.length_append, List.length_append, charsOf_cons, List.length_append, List.length_cons]
    lia
theorem chars_dot_le (r : RowU) : (chars r).length ≤ (chars (dotRow r)).length := by
  obtain ⟨us, b⟩ := r
  by_cases h' : ∃ t, us = (46, false) :: t
  · obtain ⟨t, rfl⟩ := h'
    show _ ≤ (46 :: chars ((46, false) :: t, b)).length
    simp
  · rw [dotRow_of fun t e => h' ⟨t, e⟩]; exact Nat.le_refl _
theorem charsOf_dot_le : ∀ R : List RowU, (charsOf R).length ≤ (charsOf (R.map dotRow)).length
  | [] => Nat.le_refl _
  | r :: R => by
    have h1 := chars_dot_le r
    have h2 := charsOf_dot_le R
    rw [List.map_cons, charsOf_cons, charsOf_cons, List.length_append, List.length_append]; lia
theorem charsOf_flat (f : List Nat → List RowU) : ∀ Ls : List (List Nat), charsOf (Ls.flatMap f) = (Ls.map fun l => charsOf (f l)).flatten
  | [] => rfl
  | l :: Ls => by
    rw [List.flatMap_cons, List.map_cons, List.flatten_cons, ← charsOf_flat f Ls]
    unfold charsOf
    rw [List.flatMap_append]
theorem flat_le {f g : List Nat → List Nat} {k : Nat} (h : ∀ l, (f l).length ≤ k * l.length) : ∀ Ls : List (List Nat), ((Ls.map f).flatten).length ≤ k * (Ls.map List.length).sum
  | [] => by simp
  | l :: Ls => by
    have h1 := h l
    have h2 := flat_le (f := f) (g := g) h Ls
    rw [List.map_cons, List.flatten_cons, List.length_append, List.map_cons, List.sum_cons, Nat.mul_add]; lia
theorem count_le {room : Nat} (hr : 4 ≤ room) : ∀ Ls : List (List Nat), (Ls.flatMap (rowsOf room)).length ≤ (Ls.map List.length).sum + 2 * Ls.length
  | [] => by simp
  | l :: Ls => by
    have h1 := rows_count hr l
    have h2 := count_le hr Ls
    rw [List.flatMap_cons, List.length_append, List.map_cons, List.sum_cons, List.length_cons]; (clear hr; lia)
/-- no text on the way is long -/
theorem sizes {room : Nat} (hr : 4 ≤ room) (e mail : List Nat) (he : e.length ≤ 2) : (joinE e ((((spl mail).flatMap (rowsOf room)).map dotRow).map encRow)).length ≤ 15 * mail.length + 6 ∧ (joinE e (((spl mail).flatMap (rowsOf room)).map encRow)).length ≤ 15 * mail.length + 6 := by
  have hs := spl_sum mail.length mail (Nat.le_refl _)
  have hc := count_le hr (spl mail)
  have h1 := join_len e he (((spl mail).flatMap (rowsOf room)).map dotRow)
  have h2 := join_len e he ((spl mail).flatMap (rowsOf room))
  have h3 := charsOf_dot_le ((spl mail).flatMap (rowsOf room))
  have h4 : (charsOf (((spl mail).flatMap (rowsOf room)).map dotRow)).length ≤ 2 * ((spl mail).map List.length).sum := by
    rw [List.map_flatMap, charsOf_flat]
    refine flat_le (g := id) (fun l => ?_) _
    rw [FL_rows hr]
    exact FL_len hr l
  rw [List.length_map] at h1
  (clear he hr; lia)
theorem lines_flat (room : Nat) (Ls : List (List Nat)) : (Ls.flatMap (rowsOf room)).map dotRow = (Ls.map fun l => (rowsOf room l).map dotRow).flatten := by
  rw [List.map_flatMap, List.flatMap_def]
/-- what is read back -/
theorem dec_rows {room : Nat} (hr : 4 ≤ room) (mail : List Nat) : decT (((spl mail).flatMap (rowsOf room)).map dotRow) = joinE [10] ((spl mail).map (FL room)) := by
  rw [lines_flat, decT_lines, List.map_map]
  · congr 1
    apply List.map_congr_left
    intro l _
    exact FL_rows hr l
  · intro R hR
    obtain ⟨l, _, rfl⟩ := List.mem_map.mp hR
    exact dotted_line (rowsOf_line room l)
theorem last_hard (room : Nat) {mail : List Nat} : ∀ r, (((spl mail).flatMap (rowsOf room)).map dotRow).getLast? = some r → r.2 = false := by
  intro r hr
  obtain ⟨a, ⟨q, hq⟩⟩ : ∃ l, ∃ q, spl mail = q ++ [l] := by
    rcases List.eq_nil_or_concat (spl mail) with h | ⟨q, l, h⟩
    · exact absurd h (spl_ne mail)
    · exact ⟨l, q, by rw [h]; simp⟩
  obtain ⟨S, h, e, _, hh⟩ := rowsOf_line room a
  rw [hq, List.flatMap_append, List.flatMap_cons, List.flatMap_nil, List.append_nil, e, List.map_append, List.map_append, ← List.append_assoc] at hr
  simp at hr
  rw [← hr, dotRow_soft]; exact hh
theorem rows_ne {room : Nat} {mail : List Nat} : ((spl mail).flatMap (rowsOf room)).map dotRow ≠ [] := by
  intro h
  have h1 := spl_ne mail
  cases hs : spl mail with
  | nil => exact h1 hs
  | cons l t =>
    rw [hs, List.flatMap_cons, List.map_append] at h
    have h2 := (List.append_eq_nil_iff.mp h).1
    have h3 : rowsOf room l = [] := List.map_eq_nil_iff.mp h2
    unfold rowsOf at h3
    exact lastRows_ne _ _ (List.append_eq_nil_iff.mp h3).2
theorem fRoom_mem {room : Nat} : ∀ (n : Nat) (l : List Nat), ∀ c ∈ fRoom room n l, c ∈ l
  | 0, l, c, h => h
  | n + 1, l, c, h => by
    have hdot : ∀ (a : List Nat) (c : Nat), c ∈ dot a → c ∈ a := by
      intro a c hc
      unfold dot at hc
      split at hc
      · rcases List.mem_cons.mp hc with rfl | q
        · exact .head _
        · exact q
      · exact hc
    rw [fRoom_succ] at h
    have hm := cut_mem room l
    split at h
    · exact hdot l c h
    · rcases List.mem_append.mp h with q | q
      · exact hm.1 c (hdot _ c q)
      · exact hm.2 c (fRoom_mem n _ c q)
theorem FL_mem {room : Nat} {l : List Nat} {c : Nat} (h : c ∈ FL room l) : c ∈ l := fRoom_mem _ _ c h
theorem spl_noNl : ∀ (n : Nat) (b : List Nat), b.length ≤ n → ∀ r ∈ spl b, noNl r
  | _, [], _, r, h => by rw [spl, List.mem_singleton] at h; subst h; intro c hc; cases hc
  | 0, c :: b, h, _, _ => by simp at h
  | n + 1, c :: b, h, r, hr => by
    have hb : b.length ≤ n := by simpa using h
    by_cases h2 : c = 13 ∧ ∃ r', b = 10 :: r'
    · obtain ⟨rfl, r', rfl⟩ := h2
      rw [spl_two] at hr
      rcases List.mem_cons.mp hr with rfl | hr
      · intro c hc; cases hc
      · exact spl_noNl n r' (by simp at hb; lia) r hr
    · by_cases hc : c = 10 ∨ c = 13
      · rw [spl_nl h2 hc] at hr
        rcases List.mem_cons.mp hr with rfl | hr
        · intro c hc; cases hc
        · exact spl_noNl n b hb r hr
      · rw [spl_char hc] at hr
        cases hs : spl b with
        | nil => exact absurd hs (spl_ne b)
        | cons a t =>
          rw [hs] at hr
          have ih := spl_noNl n b hb
          rw [hs] at ih
          rcases List.mem_cons.mp hr with rfl | hr
          · intro k hk
            rcases List.mem_append.mp hk with q | q
            · rw [List.mem_singleton.mp q]; (clear h2 hb h; lia)
            · exact ih a (.head _) k q
          · exact ih r (.tail _ hr)
/-- joined lines fall into the same lines -/
theorem spl_join10 : ∀ (rs : List (List Nat)), rs ≠ [] → (∀ r ∈ rs, noNl r) → spl (joinE [10] rs) = rs
  | [], h, _ => absurd rfl h
  | [r], _, h => by
    have := spl_row r (h r (.head _)) []
    rw [List.append_nil] at this
    show spl r = _
    rw [this, spl]
    simp [att]
  | r :: q :: rs, _, h => by
    rw [joinE_cons [10] r (by simp), List.append_assoc, spl_row r (h r (.head _))]
    show att r (spl (10 :: joinE [10] (q :: rs))) = _
    rw [spl_nl (by rintro ⟨q, _⟩; cases q) (.inl rfl), spl_join10 (q :: rs) (by simp) fun x hx => h x (.tail _ hx)]
    simp [att]
theorem next_lines (room : Nat) (mail : List Nat) : spl (joinE [10] ((spl mail).map (FL room))) = (spl mail).map (FL room) := by
  refine spl_join10 _ (by simpa using spl_ne mail) fun r hr => ?_
  obtain ⟨l, hl, rfl⟩ := List.mem_map.mp hr
  intro c hc
  exact spl_noNl mail.length mail (Nat.le_refl _) l hl c (FL_mem hc)
theorem joinE_mem {e : List Nat} : ∀ {rs : List (List Nat)} {c : Nat}, c ∈ joinE e rs → c ∈ e ∨ ∃ r ∈ rs, c ∈ r
  | [], c, h => by cases h
  | [r], c, h => .inr ⟨r, .head _, h⟩
  | r :: q :: rs, c, h => by
    rw [joinE_cons e r (by simp)] at h
    rcases List.mem_append.mp h with h | h
    · rcases List.mem_append.mp h with h | h
      · exact .inr ⟨r, .head _, h⟩
      · exact .inl h
    · rcases joinE_mem h with h | ⟨r', h1, h2⟩
      · exact .inl h
      · exact .inr ⟨r', .tail _ h1, h2⟩
theorem next_256 {room : Nat} {mail : List Nat} (h : ∀ c ∈ mail, c < 256) : ∀ c ∈ joinE [10] ((spl mail).map (FL room)), c < 256 := by
  intro c hc
  rcases joinE_mem hc with q | ⟨r, hr, hc⟩
  · rw [List.mem_singleton.mp q]; decide
  · obtain ⟨l, hl, rfl⟩ := List.mem_map.mp hr
    exact h c (spl_mem mail.length mail (Nat.le_refl _) l hl c (FL_mem hc))
theorem joinE_len (e : List Nat) : ∀ rs : List (List Nat), rs ≠ [] → (joinE e rs).length + e.length = (rs.map fun r => r.length + e.length).sum
  | [], h => absurd rfl h
  | [r], _ => by show r.length + _ = _; simp
  | r :: q :: rs, _ => by
    have ih := joinE_len e (q :: rs) (by simp)
    rw [joinE_cons e r (by simp), List.map_cons, List.sum_cons, ← ih]
    simp only [List.length_append]; lia
theorem next_len {room : Nat} (hr : 4 ≤ room) (mail : List Nat) : (joinE [10] ((spl mail).map (FL room))).length + 1 ≤ 2 * (mail.length + 1) := by
  have h1 := joinE_len [10] ((spl mail).map (FL room)) (by simpa using spl_ne mail)
  have e1 : ([10] : List Nat).length = 1 := rfl
  rw [e1, List.map_map] at h1
  have h2 : ((spl mail).map ((fun r => r.length + 1) ∘ FL room)).sum ≤ ((spl mail).map fun r => 2 * r.length + 1).sum := sum_le (fun x => by have := FL_len hr x; simp only [Function.comp]; (clear e1 h1 hr; lia)) _
  rw [sum_lin] at h2
  have h3 : ((spl mail).map List.length).sum + (spl mail).length ≤ mail.length + 1 := by
    clear h1 h2
    have key : ∀ (n : Nat) (b : List Nat), b.length ≤ n → ((spl b).map List.length).sum + (spl b).length ≤ b.length + 1 := by
      intro n
      induction n with
      | zero =>
        intro b hb
        have : b = [] := List.eq_nil_of_length_eq_zero (by (clear e1 hr; lia))
        subst this; rw [spl]; simp
      | succ n ih =>
        intro b hb
        cases b with
        | nil => rw [spl]; simp
        | cons c b =>
          have hb' : b.length ≤ n := by simpa using hb
          by_cases h2 : c = 13 ∧ ∃ r', b = 10 :: r'
          · obtain ⟨rfl, r', rfl⟩ := h2
            have := ih r' (by simp at hb'; (clear hb e1 hr; lia))
            rw [spl_two]; simp only [List.map_cons, List.sum_cons, List.length_cons, List.length_nil]; (clear hb hb' e1 hr; lia)
          · have := ih b hb'
            by_cases hc : c = 10 ∨ c = 13
            · rw [spl_nl h2 hc]; simp only [List.map_cons, List.sum_cons, List.length_cons, List.length_nil]; (clear hc h2 hb' hb e1 hr; lia)
            · rw [spl_char hc]
              cases hs : spl b with
              | nil => exact absurd hs (spl_ne b)
              | cons a t =>
                rw [hs] at this
                simp only [att, List.map_cons, List.sum_cons, List.length_cons, List.length_append, List.length_nil] at this ⊢
                (clear hc h2 hb' hb e1 hr; lia)
    exact key mail.length mail (Nat.le_refl _)
  (clear e1 hr; lia)
theorem join_two {a b : List Nat} {t : List (List Nat)} : joinE [10] (a :: b :: t) ≠ [] := by
  rw [joinE_cons [10] a (by simp)]; simp
end Mine
end
section
namespace Mine
open PySem.Builtin
noncomputable def oB (a : Addr) : Obj := { cls := .type "builtin_function_or_method", data := .fields #[.builtin "list.append", .ref a] }
theorem md_get : typeLookup (.type "method_descriptor") (PySem.Str.ofString "__get__") = pure (some (.builtin "method_descriptor.__get__")) := by rw [typeLookup_type, builtinLookup_eq_fast]; kernel_rfl
theorem md_set : typeLookup (.type "method_descriptor") (PySem.Str.ofString "__set__") = pure none := by rw [typeLookup_type, builtinLookup_eq_fast]; kernel_rfl
theorem md_del : typeLookup (.type "method_descriptor") (PySem.Str.ofString "__delete__") = pure none := by rw [typeLookup_type, builtinLookup_eq_fast]; kernel_rfl
theorem slot_mdget : Slot "method_descriptor" "__get__" "method_descriptor.__get__" :=
  .of (owner := "method_descriptor") (n := "__get__") (by rw [typeLookup_type, builtinLookup_eq_fast]; kernel_rfl) (by decide +kernel) (by decide +kernel) (by decide +kernel)
    (by first | exact .inl (by decide +kernel) | exact .inr (by decide +kernel)) (by rw [isSubtype_type]; kernel_rfl)
theorem entry_mdget : entryFor table "method_descriptor.__get__" = some «method_descriptor.__get__» := entryFor_of_tree (by kernel_rfl)
theorem args_mdget (a b c : Value) : argsOk "method_descriptor.__get__" ⟨[a, b, c], []⟩ := by unfold argsOk; kernel_rfl
theorem sub_app : isSubtype (.type "list") (.type (".".intercalate ("list.append".cutAt '.').dropLast)) = pure true := by
  have e : ".".intercalate ("list.append".cutAt '.').dropLast = "list" := by decide +kernel
  rw [e, isSubtype_type]; kernel_rfl
set_option maxHeartbeats 400000 in
theorem meets_mdget (a : Addr) (xs : Array Value) (k : Nat) :
    Meets (Builtin.«method_descriptor.__get__» ⟨[.builtin "list.append", .ref a, .type "list"], []⟩) (fun A R s => s.heap.get? a = some { cls := .type "list", dict := none, data := .seq xs k, slots := #[] } ∧ R (.ok (.ret (.ref s.heap.objs.size))) { s with heap := s.heap.push (oB a) }) :=
  Meets.of_wp fun prog w A R s hs => by
    obtain ⟨hp, g, d, tk, os⟩ := s
    obtain ⟨hx, hs⟩ := hs
    have hT : (⟨hp, g, d, tk, os⟩ : Shared).TypeIs (.ref a) "list" := ⟨_, hx, rfl⟩
    have f2 := F.type_list_append
    have f6 := sub_app
    unfold Builtin.«method_descriptor.__get__»
    repeat (any_goals (first | assumption | wp_step))
    exact ⟨_, rfl, hs⟩
set_option maxHeartbeats 400000 in
theorem meets_append (a : Addr) (xs : Array Value) (k : Nat) (u : Tok) :
    Meets (Builtin.«object.__getattribute__» ⟨[.ref a, .str (PySem.Str.ofString "append") u], []⟩) (fun A R s => s.heap.get? a = some { cls := .type "list", dict := none, data := .seq xs k, slots := #[] } ∧ R (.ok (.ret (.ref s.heap.objs.size))) { s with heap := s.heap.push (oB a) }) :=
  Meets.of_wp fun prog w A R s hs => by
    obtain ⟨hp, g, d, tk, os⟩ := s
    obtain ⟨hx, hs⟩ := hs
    have hT : (⟨hp, g, d, tk, os⟩ : Shared).TypeIs (.ref a) "list" := ⟨_, hx, rfl⟩
    have f1 := F.slot_list_append.lookup
    have f2 := F.type_list_append
    have f3 := md_get
    have f4 := md_set
    have f5 := md_del
    unfold Builtin.«object.__getattribute__»
    repeat (any_goals (first | assumption | ((with_reducible show wpAny _ _ (call (Value.builtin "method_descriptor.__get__") _) _ _ _); refine call_meets slot_mdget (by exact f2) entry_mdget (args_mdget _ _ _) (meets_mdget a xs k) ⟨hx, ?_⟩) | wp_step))
    exact wpAny_pure ⟨_, rfl, hs⟩
set_option maxHeartbeats 400000 in
theorem getAttr_append {w : World} {A : Around} {E : Value → Shared → Prop} {s : Shared} {a : Addr} {xs : Array Value} {k : Nat} {Q : Value → Shared → Prop} (hx : s.heap.get? a = some { cls := .type "list", dict := none, data := .seq xs k, slots := #[] })
    (h : ∀ tk, Q (.ref s.heap.objs.size) { s with heap := s.heap.push (oB a), toks := tk }) : wpAny (model pw w) A (getAttr (.ref a) (PySem.Str.ofString "append") true) Q E s := by
  obtain ⟨hp, g, d, tk, os⟩ := s
  have hT : ∀ tk', (⟨hp, g, d, tk', os⟩ : Shared).TypeIs (.ref a) "list" := fun _ => ⟨_, hx, rfl⟩
  have f3 := F.slot_list_getattribute.lookup
  have f4 := F.slot_list_getattribute.bind (.ref a)
  unfold getAttr getAttrBy
  repeat (any_goals (first | assumption | exact hT _ | ((with_reducible show wpAny _ _ (call (Value.builtin "list.__getattribute__") _ _) _ _ _); refine call_meets F.slot_list_getattribute (hT _) am_entry_list_getattribute (F.args_list_getattribute_2 _ _) (meets_append a xs k _) ⟨hx, ?_⟩) | wp_step))
  have hB : (hp.push (oB a)).get? hp.objs.size = some (oB a) := Heap.get?_push_size _ rfl
  show wpAny _ _ (handedOut (.ref hp.objs.size)) Q E { heap := hp.push (oB a), gens := g, drawn := d, toks := tk + 1, os := os }
  have hT2 : (⟨hp.push (oB a), g, d, tk + 1, os⟩ : Shared).TypeIs (.ref hp.objs.size) "builtin_function_or_method" := ⟨_, hB, rfl⟩
  unfold handedOut
  repeat (any_goals (first | assumption | wp_step))
  exact h _
end Mine
end
section
namespace Mine
open PySem.Builtin
theorem plain_app : plainId "list.append" = true := by decide +kernel
set_option maxHeartbeats 400000 in
theorem call_bound {w : World} {A : Around} {E : Value → Shared → Prop} {s : Shared} {B a : Addr} {xs : Array Value} {k : Nat} {v : Value} {Q : Value → Shared → Prop} (hB : s.heap.get? B = some (oB a)) (hx : s.heap.get? a = some (oL xs k)) (hz : xs.size ≤ 100000)
    (h : ∀ h' c', h'.get? a = some (oL (xs.push v) c') → Heap.SameBut a s.heap h' → Q .none { s with heap := h' }) : wpAny (model pw w) A (call (.ref B) [v]) Q E s := by
  refine wpAny_call (codeAny_of_tree ?_)
  show wpAny _ A.in1 (callAny (.ref B) ⟨[v], []⟩) _ _ s
  simp only [callAny]
  refine wpAny_bind (wpAny_load hB ?_)
  show wpAny _ _ (do checkBoundCall "list.append" ⟨[.ref a, v], []⟩; again (.builtin "list.append" ⟨[.ref a, v], []⟩)) _ _ s
  have hT : s.TypeIs (.ref a) "list" := ⟨_, hx, rfl⟩
  refine wpAny_bind ?_
  unfold checkBoundCall
  obtain ⟨hp, g, d, tk, os⟩ := s
  have f1 : isSubtype (.type "list") (.type "module") = pure false := by rw [isSubtype_type]; kernel_rfl
  have f2 : Manifest.varargsMethods.contains "list.append" = false := by decide +kernel
  repeat (any_goals (first | assumption | wp_step))
  refine ⟨plainId_quiet plain_app _, codeAny_builtin F.entry_list_append ?_⟩
  rw [Around.under_plainId plain_app]
  unfold «list.append»
  clear hB f1 f2 hT
  repeat (any_goals (first | assumption | ((with_reducible show wpAny _ _ (updateSeq _ _) _ _ _); refine push_ok hx (by lia) ?_; intro h' c' e1 e2) | wp_step))
  exact h h' c' e1 e2
/-- a call of a bound append in the text -/
theorem cw_bound {w : World} {A : Around} {E : Value → Shared → Prop} {s : Shared} {env : Env} {pos : Pos} {B a : Addr} {e : PySem.Expr} {rest : List PySem.Expr} {Q : Value → Shared → Prop}
    (h : wpAny (model pw w) A (spliced (backTo pos (starEach (e :: rest) env))) (fun vs s₁ => s₁.heap.get? B = some (oB a) ∧ wpAny (model pw w) A (call (.ref B) vs) Q E s₁) E s)
    (he : starEach (e :: rest) env = (false, eval e env) :: starEach rest env) (hst : ((backTo pos ((false, eval e env) :: starEach rest env)).any (·.1) || ([] : List (Option PySem.Str × Sem Value)).any (·.1.isNone)) = false) :
    wpAny (model pw w) A (callWith pos (.ref B) [] (backTo pos (starEach (e :: rest) env)) []) Q E s := by
  rw [he] at h ⊢
  unfold callWith
  refine wpAny_bind (wpAny_holding (Calls.evalArgs_plain (wpAny_mono h (fun vs s₁ h₁ => ?_) fun _ _ x => x)))
  refine wpAny_bind (wpAny_standAt ?_)
  dsimp only
  rw [hst]
  unfold keeperOf
  refine wpAny_bind (wpAny_bind (wpAny_load h₁.1 ?_))
  show wpAny _ _ (pure Keeper.machine) _ _ _
  refine wpAny_pure ?_
  refine wpAny_bind (wpAny_mono h₁.2 (fun r s₂ h₂ => ?_) fun _ _ x => x)
  exact wpAny_bind (wpAny_holding (wpAny_point (wpAny_pure h₂)))
end Mine
end
section
namespace Mine
theorem fr_same {h₀ : Heap} {L a : Addr} {h h' : Heap} {m : PySem.Str → Option Value} (F : Fr h₀ L h m) (sb : Heap.SameBut a h h') (hL : a ≠ L) (h0 : h₀.get? a = none) : Fr h₀ L h' m :=
  ⟨F.ns.at' fun o e => (sb.2 L hL.symm).trans e, fun b o e => (sb.2 b fun q => by rw [q, h0] at e; cases e).trans (F.keep b o e), F.above⟩
theorem app_call {w : World} {A : Around} {E : Value → Shared → Prop} {s : Shared} {h₀ : Heap} {L I D B a : Addr} {o1 o2 : Obj} {m : PySem.Str → Option Value} {items : Array Value} {c : Nat} {v : Value} {Q : Value → Shared → Prop}
    (F : Fr h₀ L s.heap m) (N : News h₀ L s.heap [(I, o1), (D, o2), (B, oB a), (a, oL items c)]) (hI : I ≠ a) (hD : D ≠ a) (hB : B ≠ a) (hz : items.size ≤ 100000)
    (h : ∀ h' c', Fr h₀ L h' m → News h₀ L h' [(I, o1), (D, o2), (B, oB a), (a, oL (items.push v) c')] → Q .none { s with heap := h' }) : wpAny (model pw w) A (call (.ref B) [v]) Q E s := by
  have nI := N (I, o1) (.head _)
  have nD := N (D, o2) (.tail _ (.head _))
  have nB := N (B, oB a) (.tail _ (.tail _ (.head _)))
  have na := N (a, oL items c) (.tail _ (.tail _ (.tail _ (.head _))))
  refine call_bound nB.1 na.1 hz fun h' c' e1 e2 => h h' c' (fr_same F e2 na.2.1 na.2.2) ?_
  intro p hp
  simp only [List.mem_cons, List.not_mem_nil, or_false] at hp
  rcases hp with rfl | rfl | rfl | rfl
  · exact ⟨(e2.2 _ hI).trans nI.1, nI.2⟩
  · exact ⟨(e2.2 _ hD).trans nD.1, nD.2⟩
  · exact ⟨(e2.2 _ hB).trans nB.1, nB.2⟩
  · exact ⟨e1, na.2⟩
/-- the call in the text -/
theorem app_text {w : World} {A : Around} {E : Value → Shared → Prop} {s : Shared} {env : Env} {pos : Pos} {B a : Addr} {e : PySem.Expr} {Q : Value → Shared → Prop}
    (h : wpAny (model pw w) A (spliced (backTo pos (starEach [e] env))) (fun vs s₁ => s₁.heap.get? B = some (oB a) ∧ wpAny (model pw w) A (call (.ref B) vs) Q E s₁) E s)
    (he : starEach [e] env = (false, eval e env) :: starEach [] env) (hst : ((backTo pos ((false, eval e env) :: starEach [] env)).any (·.1) || ([] : List (Option PySem.Str × Sem Value)).any (·.1.isNone)) = false) :
    wpAny (model pw w) A (callWith pos (.ref B) [] (backTo pos (starEach [e] env)) []) Q E s := cw_bound h he hst
theorem app_textN {w : World} {A : Around} {E : Value → Shared → Prop} {s : Shared} {h₀ : Heap} {L I D : Addr} {o1 o2 : Obj} {items : Array Value} {c : Nat} {env : Env} {pos : Pos} {B a : Addr} {e : PySem.Expr} {Q : Value → Shared → Prop} (N : News h₀ L s.heap [(I, o1), (D, o2), (B, oB a), (a, oL items c)])
    (h : wpAny (model pw w) A (spliced (backTo pos (starEach [e] env))) (fun vs s₁ => s₁.heap.get? B = some (oB a) ∧ wpAny (model pw w) A (call (.ref B) vs) Q E s₁) E s)
    (he : starEach [e] env = (false, eval e env) :: starEach [] env) (hst : ((backTo pos ((false, eval e env) :: starEach [] env)).any (·.1) || ([] : List (Option PySem.Str × Sem Value)).any (·.1.isNone)) = false) :
    wpAny (model pw w) A (callWith pos (.ref B) [] (backTo pos (starEach [e] env)) []) Q E s := cw_bound h he hst
end Mine
end
section
namespace Mine
/-- what a turn of a comprehension gives -/
noncomputable def EltPost (hb : Heap) (C : Addr) (R : Nat → Value → Value → List (Addr × Obj) → Prop) (i : Nat) (v : Value) (K : List (Addr × Obj)) (s : Shared) (y : Value) (s₄ : Shared) : Prop :=
  ∃ own m₄, R i v y own ∧ Fr hb C s₄.heap m₄ ∧ News hb C s₄.heap (own ++ K) ∧ (∀ p ∈ own, ∀ q ∈ K, p.1 ≠ q.1) ∧ s₄.gens = s.gens ∧ s₄.os = s.os
noncomputable abbrev Items := List (Value × List (Addr × Obj))
noncomputable def AllBy (P : Nat → Value → Prop) (R : Nat → Value → Value → List (Addr × Obj) → Prop) (yo : Items) : Prop := ∀ j p, yo[j]? = some p → ∃ v, P j v ∧ R j v p.1 p.2
theorem AllBy.snoc {P : Nat → Value → Prop} {R : Nat → Value → Value → List (Addr × Obj) → Prop} {yo : Items} (h : AllBy P R yo) {v y : Value} {own : List (Addr × Obj)} (hp : P yo.length v) (hr : R yo.length v y own) : AllBy P R (yo ++ [(y, own)]) := by
  intro j p hj
  rcases Nat.lt_trichotomy j yo.length with q | q | q
  · exact h j p (by rwa [List.getElem?_append_left q] at hj)
  · subst q; simp at hj; subst hj; exact ⟨v, hp, hr⟩
  · have hnone : (yo ++ [(y, own)])[j]? = none := List.getElem?_eq_none (by rw [List.length_append, List.length_singleton]; lia)
    rw [hnone] at hj; cases hj
theorem comp_loop {w : World} {A : Around} {Rr : Result → Shared → Prop} {s : Shared} {hb : Heap} {elt iter : PySem.Expr} {x : PySem.Str} {px : Pos} {scope : Scope} {pos : Pos} {I D : Addr} {fp : List Addr} {n : Nat} {P : Nat → Value → Prop} {St : Nat → Heap → Prop}
    {cenv : Env} {m : PySem.Str → Option Value} {oI : Obj} {k : Nat} (W : Walks pw w A I fp [I] n P St) (R : Nat → Value → Value → List (Addr × Obj) → Prop) (hlive : ∀ i h, St i h → ∃ o, h.get? I = some o) (hfp : ∀ b ∈ fp, b = I ∨ ∃ o, hb.get? b = some o)
    (hx : cenv.kindOf x = some .local) (hp : (cenv.scope.kind == .class || (cenv.scope.kind == .module && cenv.locals != cenv.globals)) = false)
    (hID : I ≠ D) (hst : St 0 s.heap) (F : Fr hb cenv.locals s.heap m) (N : News hb cenv.locals s.heap [(D, oL #[] k), (I, oI)])
    (helt : ∀ i v s₂ m₂ K, i < n → P i v → Fr hb cenv.locals s₂.heap m₂ → m₂ x = some v → News hb cenv.locals s₂.heap K → s₂.gens = s.gens → s₂.os = s.os → wpAny (model pw w) A (eval elt cenv) (EltPost hb cenv.locals R i v K s) (fun _ _ => False) s₂)
    (hR : ∀ s' m' (yo : Items) k, Fr hb cenv.locals s'.heap m' → News hb cenv.locals s'.heap ((D, oL (yo.map (·.1)).toArray k) :: yo.flatMap (·.2)) → yo.length = n → AllBy P R yo → s'.gens = s.gens → s'.os = s.os → Rr (.ok .next) s')
    (hsz : n ≤ sizeLine) :
    codeAny (model pw w) A (.compLoop (.ListComp elt [⟨.Name x px, iter, [], 0⟩] scope pos) 0 (.ref I) (.ref D) cenv) Rr s := by
  refine codeAny_compLoop_list
    (fun j s' => ∃ m' yo oI k, St yo.length s'.heap ∧ Fr hb cenv.locals s'.heap m' ∧ News hb cenv.locals s'.heap ((D, oL (yo.map (·.1)).toArray k) :: (I, oI) :: yo.flatMap (·.2)) ∧ (∀ p ∈ yo.flatMap (·.2), p.1 ≠ D ∧ p.1 ≠ I) ∧ AllBy P R yo ∧ yo.length ≤ n ∧ j = n + 1 - yo.length ∧ s'.gens = s.gens ∧ s'.os = s.os) ?_ (n + 1)
    ⟨m, [], oI, k, hst, F, N, (by intro p hp; cases hp), (by intro j p hj; cases hj), Nat.zero_le _, rfl, rfl, rfl⟩
  rintro j ⟨H, g, d, tk, o'⟩ ⟨m', yo, oI, k, hst', F', N', hown, hA, hle, rfl, hg, ho⟩
  dsimp only at hst' F' N' hg ho
  have nD := N' _ (.head _)
  have nI := N' _ (.tail _ (.head _))
  have hCfp : ∀ b ∈ fp, b ≠ cenv.locals := fun b hb' q => by
    rcases hfp b hb' with rfl | ⟨o, e⟩
    · exact nI.2.1 q
    · exact absurd (Nat.lt_of_lt_of_le (Heap.lt_size e) F'.above) (by rw [q]; exact Nat.lt_irrefl _)
  by_cases hlt : yo.length < n
  · refine W.item yo.length _ _ _ hlt hst' fun v h₁ tk₁ hPv hst₁ hk₁ => ?_
    have hk₁' : ∀ b o, b ≠ I → H.get? b = some o → h₁.get? b = some o := fun b o hbI e => hk₁ b o (by simpa using hbI) e
    have F₁ : Fr hb cenv.locals h₁ m' := ⟨F'.ns.at' fun o e => hk₁' _ o nI.2.1.symm e, fun b o e => hk₁' b o (fun q => by have h3 := nI.2.2; dsimp only at h3; rw [q, h3] at e; cases e) (F'.keep b o e), F'.above⟩
    obtain ⟨oI', eI⟩ := hlive _ _ hst₁
    have N₁ : News hb cenv.locals h₁ ((D, oL (yo.map (·.1)).toArray k) :: (I, oI') :: yo.flatMap (·.2)) := by
      intro p hp
      rcases List.mem_cons.mp hp with rfl | hp
      · exact ⟨hk₁' _ _ hID.symm nD.1, nD.2⟩
      · rcases List.mem_cons.mp hp with rfl | hp
        · exact ⟨eI, nI.2⟩
        · have e := N' p (.tail _ (.tail _ hp))
          exact ⟨hk₁' _ _ (hown p hp).2 e.1, e.2⟩
    refine wpAny_assign_Name (wpAny_storeName_local hx F₁.ns (fun h₂ hn₂ hs₂ => ?_) hp)
    have F₂ := F₁.set hn₂ hs₂
    have N₂ := N₁.set hs₂
    have hst₂ : St (yo.length + 1) h₂ := W.frame _ _ _ hst₁ fun b hb' o e => hs₂.extBut b o (hCfp b hb') e
    refine wpAny_mono (helt yo.length v _ _ _ hlt hPv F₂ (by simp) N₂ hg ho) (fun y s₃ h₃ => ?_) fun _ _ x => x.elim
    obtain ⟨own, m₄, hRy, F₄, N₄, hdis, G2, G3⟩ := h₃
    obtain ⟨h₃, g₃, d₃, k₃, o₃⟩ := s₃
    dsimp only at F₄ N₄ G2 G3
    have nD₄ := N₄ (D, oL (yo.map (·.1)).toArray k) (List.mem_append_right _ (.head _))
    have hys : ((yo.map (·.1)).toArray).size ≤ sizeLine := by simp; lia
    refine wpAny_list_append_plain (hsz := hys) ⟨k, nD₄.1⟩ fun h₅ hl₅ hs₅ => ?_
    obtain ⟨k', e₅⟩ := hl₅
    have hoD : ∀ p ∈ own, p.1 ≠ D ∧ p.1 ≠ I := fun p hp => ⟨hdis p hp _ (.head _), hdis p hp _ (.tail _ (.head _))⟩
    have F₅ := fr_same F₄ hs₅ nD₄.2.1 nD₄.2.2
    refine ⟨n + 1 - (yo.length + 1), by lia, m₄, yo ++ [(y, own)], oI', k', ?_, F₅, ?_, ?_, hA.snoc hPv hRy, by rw [List.length_append, List.length_singleton]; lia, by rw [List.length_append, List.length_singleton], G2, G3⟩
    · have := W.frame _ _ h₅ hst₂ fun b hb' o e => by
        have hbD : b ≠ D := by
          rcases hfp b hb' with rfl | ⟨o, e⟩
          · exact hID
          · intro q
            have h3 := nD₄.2.2; dsimp only at h3
            rw [q, h3] at e; cases e
        refine (hs₅.2 b hbD).trans ?_
        rcases hfp b hb' with rfl | ⟨ob, eb⟩
        · have e1 := (N₂ _ (.tail _ (.head _))).1
          have e2 := (N₄ (b, oI') (List.mem_append_right _ (.tail _ (.head _)))).1
          try dsimp only at e1 e2 e
          rw [e1] at e
          rw [e2]; exact e
        · have e1 := F₂.keep _ _ eb
          have e2 := F₄.keep _ _ eb
          try dsimp only at e1 e2 e
          rw [e1] at e
          rw [e2]; exact e
      simpa using this
    · intro p hp
      rcases List.mem_cons.mp hp with rfl | hp
      · refine ⟨?_, nD₄.2⟩
        rw [List.map_append]
        simpa [oL] using e₅
      · have hin : p ∈ own ++ ((D, oL (yo.map (·.1)).toArray k) :: (I, oI') :: yo.flatMap (·.2)) ∧ p.1 ≠ D := by
          rcases List.mem_cons.mp hp with rfl | hp
          · exact ⟨List.mem_append_right _ (.tail _ (.head _)), hID⟩
          · rw [List.flatMap_append] at hp
            rcases List.mem_append.mp hp with q | q
            · exact ⟨List.mem_append_right _ (.tail _ (.tail _ q)), (hown p q).1⟩
            · have q' : p ∈ own := by simpa using q
              exact ⟨List.mem_append_left _ q', (hoD p q').1⟩
        have e := N₄ p hin.1
        exact ⟨(hs₅.2 p.1 hin.2).trans e.1, e.2⟩
    · intro p hp
      rw [List.flatMap_append] at hp
      rcases List.mem_append.mp hp with q | q
      · exact hown p q
      · exact hoD p (by simpa using q)
  · have hin : yo.length = n := by lia
    refine W.done _ _ _ (hin ▸ hst') fun h₁ tk₁ hk₁ => ?_
    have hk₁' : ∀ b o, b ≠ I → H.get? b = some o → h₁.get? b = some o := fun b o hbI e => hk₁ b o (by simpa using hbI) e
    refine hR _ m' yo k ⟨F'.ns.at' fun o e => hk₁' _ o nI.2.1.symm e, fun b o e => hk₁' b o (fun q => by have h3 := nI.2.2; dsimp only at h3; rw [q, h3] at e; cases e) (F'.keep b o e), F'.above⟩ ?_ hin hA hg ho
    intro p hp
    rcases List.mem_cons.mp hp with rfl | hp
    · exact ⟨hk₁' _ _ hID.symm nD.1, nD.2⟩
    · have e := N' p (.tail _ (.tail _ hp))
      exact ⟨hk₁' _ _ (hown p hp).2 e.1, e.2⟩
theorem comp_block {w : World} {A : Around} {env : Env} {E : Value → Shared → Prop} {elt iter : PySem.Expr} {x : PySem.Str} {px : Pos} {scope : Scope} {cl : List (PySem.Str × Addr)} {pos : Pos} {s₁ : Shared} {o : Obj} {fp : List Addr} {n : Nat} {P : Nat → Value → Prop} {St : Nat → Heap → Prop}
    (W : Walks pw w A s₁.heap.objs.size fp [s₁.heap.objs.size] n P St) (hsz : n ≤ sizeLine) (R : Nat → Value → Value → List (Addr × Obj) → Prop) (hlive : ∀ i h, St i h → ∃ o, h.get? s₁.heap.objs.size = some o) (hfp : ∀ b ∈ fp, b = s₁.heap.objs.size ∨ ∃ o, s₁.heap.get? b = some o) {RR : Value → Addr → Result → Shared → Prop}
    (hcell : ∀ y ∈ scope.names, y.2 ≠ .cell) (hkind : scope.kind = .function) (hx : scope.names.lookup x = some .local) (hst : St 0 (s₁.heap.push o))
    (helt : ∀ C i v s₃ m₃ K, i < n → P i v → Fr s₁.heap C s₃.heap m₃ → m₃ x = some v → News s₁.heap C s₃.heap K → s₃.gens = s₁.gens → s₃.os = s₁.os →
      wpAny (model pw w) A (eval elt (compEnvC scope cl C env)) (EltPost s₁.heap C R i v K s₁) (fun _ _ => False) s₃)
    (hRR : ∀ D C s' m' (yo : Items) k, Fr s₁.heap C s'.heap m' → News s₁.heap C s'.heap ((D, oL (yo.map (·.1)).toArray k) :: yo.flatMap (·.2)) → yo.length = n → AllBy P R yo → s'.gens = s₁.gens → s'.os = s₁.os → RR (.ref D) C (.ok .next) s') :
    wpAny (model pw w) A (newList []) (fun acc s₃ => wpAny (model pw w) A (newFunctionEnv scope env.globals cl [] env.qual none .none (some env)) (fun cenv s₄ =>
      codeAny (model pw w) A (.compStart (.ListComp elt [⟨.Name x px, iter, [], 0⟩] scope pos) 0 (.ref s₁.heap.objs.size) acc { cenv with scope := relabel scope env }) (RR acc cenv.locals) s₄) E s₃) E { s₁ with heap := s₁.heap.push o } := by
  refine wpAny_newObj_type (wpAny_newFunctionEnv hcell (by intro y hy; simp at hy) (fun h₁ hns₁ hsb₁ => ?_) hkind)
  dsimp only at hns₁ hsb₁ ⊢
  have hIs : (s₁.heap.push o).objs.size = s₁.heap.objs.size + 1 := Heap.size_push ..
  generalize hH2 : (s₁.heap.push o).push { cls := .type "list", dict := none, data := .seq ([] : List Value).toArray } = H2 at hns₁ hsb₁ ⊢
  have hC : H2.objs.size = s₁.heap.objs.size + 2 := by rw [← hH2, Heap.size_push, hIs]
  have hlt0 : s₁.heap.objs.size < H2.objs.size := by rw [hC]; exact Nat.lt_add_of_pos_right (by decide)
  have hlt1 : s₁.heap.objs.size + 1 < H2.objs.size := by rw [hC]; exact Nat.lt_succ_self _
  have old : ∀ b o', b ≠ H2.objs.size → H2.get? b = some o' → h₁.get? b = some o' := fun b o' hb e => (hsb₁.2 b hb).trans (Heap.get?_push_of_some _ e)
  have up : ∀ b o', (s₁.heap.push o).get? b = some o' → H2.get? b = some o' := fun b o' e => hH2 ▸ Heap.get?_push_of_some _ e
  have none₁ : ∀ a, s₁.heap.objs.size ≤ a → s₁.heap.get? a = none := fun a ha => by
    cases e : s₁.heap.get? a with
    | none => rfl
    | some o' => exact absurd (Heap.lt_size e) (Nat.not_lt.mpr ha)
  have hFr : Fr s₁.heap H2.objs.size h₁ _ := ⟨hns₁, fun b o' e => old b o' (Nat.ne_of_lt (Nat.lt_trans (Heap.lt_size e) hlt0)) (up _ _ (Heap.get?_push_of_some _ e)), Nat.le_of_lt hlt0⟩
  obtain ⟨oI, eI⟩ := hlive 0 _ hst
  have hI₁ : h₁.get? s₁.heap.objs.size = some oI := old _ _ (Nat.ne_of_lt hlt0) (up _ _ eI)
  have hD₁ : h₁.get? (s₁.heap.objs.size + 1) = some (oL #[] 0) := by
    refine old _ _ (Nat.ne_of_lt hlt1) ?_
    rw [← hH2, ← hIs]
    exact Heap.get?_push_size _ rfl
  have N₁ : News s₁.heap H2.objs.size h₁ [(s₁.heap.objs.size + 1, oL #[] 0), (s₁.heap.objs.size, oI)] := by
    intro p hp
    simp only [List.mem_cons, List.not_mem_nil, or_false] at hp
    rcases hp with rfl | rfl
    · exact ⟨hD₁, Nat.ne_of_lt hlt1, none₁ _ (Nat.le_succ _)⟩
    · exact ⟨hI₁, Nat.ne_of_lt hlt0, none₁ _ (Nat.le_refl _)⟩
  have hst₁ : St 0 h₁ := W.frame _ _ _ hst fun b hb o' e => old b o' (by
    rcases hfp b hb with rfl | ⟨ob, eb⟩
    · exact Nat.ne_of_lt hlt0
    · exact Nat.ne_of_lt (Nat.lt_trans (Heap.lt_size eb) hlt0)) (up _ _ e)
  have hDe : (s₁.heap.push o).objs.size = s₁.heap.objs.size + 1 := hIs
  rw [hDe]
  have loop : ∀ s₃ : Shared, s₃ = { s₁ with heap := h₁, toks := s₁.toks + ([] : List (PySem.Str × Value)).length } →
      codeAny (model pw w) A (.compLoop (.ListComp elt [⟨.Name x px, iter, [], 0⟩] scope pos) 0 (.ref s₁.heap.objs.size) (.ref (s₁.heap.objs.size + 1)) (compEnvC scope cl H2.objs.size env))
        (RR (.ref (s₁.heap.objs.size + 1)) H2.objs.size) s₃ := by
    rintro s₃ rfl
    exact comp_loop (hsz := hsz) (cenv := compEnvC scope cl H2.objs.size env) W R hlive hfp (lookup_relabel_local hx) (by simp [compEnvC, relabel, hkind]) (Nat.ne_of_lt (Nat.lt_succ_self _)) hst₁ hFr N₁
      (fun i v s₃ m₃ K hi hv hF hm hN hg ho => helt _ i v s₃ m₃ K hi hv hF hm hN hg ho) fun s' m' yo k hF hN hlen hA hg ho => hRR _ _ s' m' yo k hF hN hlen hA hg ho
  exact codeAny_compStart_list (loop _ rfl) (W.self 0 _ _ _ hst₁ (loop _ rfl))
/-- something that a comprehension may go over -/
noncomputable def Src (w : World) (A : Around) (xv : Value) (n : Nat) (P : Nat → Value → Prop) (s₁ : Shared) : Prop :=
  ∀ (E : Value → Shared → Prop) (Q : Value → Shared → Prop), (∀ o fp St, Walks pw w A s₁.heap.objs.size fp [s₁.heap.objs.size] n P St → (∀ b ∈ fp, b = s₁.heap.objs.size ∨ ∃ o, s₁.heap.get? b = some o) → St 0 (s₁.heap.push o) → (∀ i h, St i h → ∃ o, h.get? s₁.heap.objs.size = some o) →
    Q (.ref s₁.heap.objs.size) { s₁ with heap := s₁.heap.push o }) → wpAny (model pw w) A (pyIter xv) Q E s₁
theorem src_list {w : World} {A : Around} {s₁ : Shared} {ax : Addr} {items : Array Value} (hh : A.handled = none) (hl : s₁.heap.IsList ax items) : Src w A (.ref ax) items.size (fun i v => items[i]? = some v) s₁ := by
  intro E Q hQ
  have hlt : ax < s₁.heap.objs.size := by obtain ⟨_, e, _⟩ := hl; exact Heap.lt_size e
  refine wpAny_pyIter_list hl (hQ _ [s₁.heap.objs.size, ax] _ (Walks.list hh _ _ (Nat.ne_of_lt hlt) items) ?_ ⟨⟨_, Heap.get?_push_size _ rfl, rfl, rfl⟩, hl.push _⟩ ?_)
  · intro b hb
    rcases List.mem_cons.mp hb with rfl | hb
    · exact .inl rfl
    · rw [List.mem_singleton.mp hb]
      obtain ⟨o, e, _⟩ := hl
      exact .inr ⟨o, e⟩
  · rintro i h ⟨⟨o, e, _⟩, _⟩; exact ⟨o, e⟩
theorem src_str {w : World} {A : Around} {s₁ : Shared} {x : PySem.Str} {t : Tok} (hh : A.handled = none) : Src w A (.str x t) x.cps.size (SignAt x) s₁ := by
  intro E Q hQ
  have hfp : ∀ b ∈ [s₁.heap.objs.size], b = s₁.heap.objs.size ∨ ∃ o, s₁.heap.get? b = some o := fun b hb => .inl (List.mem_singleton.mp hb)
  cases ha : x.cps.all (· < 128)
  · exact wpAny_pyIter_wide ha (hQ _ _ _ (Walks.strWide hh _ x t) hfp ⟨_, Heap.get?_push_size _ rfl, rfl, rfl⟩ (by rintro i h ⟨o, e, _⟩; exact ⟨o, e⟩))
  · exact wpAny_pyIter_ascii ha (hQ _ _ _ (Walks.strAscii hh _ x t) hfp ⟨_, Heap.get?_push_size _ rfl, rfl, rfl⟩ (by rintro i h ⟨o, e, _⟩; exact ⟨o, e⟩))
theorem src_bytes {w : World} {A : Around} {s₁ : Shared} {b : Array UInt8} {t : Tok} (hh : A.handled = none) : Src w A (.bytes b t) b.size (fun i v => ∃ c u, b[i]? = some c ∧ v = .int (c.toNat : Int) u) s₁ := by
  intro E Q hQ
  refine KBw.pyIter_bytes (hQ _ [s₁.heap.objs.size] _ (KBw.walks hh _ b t) ?_ ⟨_, Heap.get?_push_size _ rfl, rfl, rfl⟩ ?_)
  · intro c hc
    exact .inl (List.mem_singleton.mp hc)
  · rintro i h ⟨o, e, _⟩; exact ⟨o, e⟩
/-- what is to be shown once the source stands -/
noncomputable def CompG (w : World) (A : Around) (env : Env) (h₀ : Heap) (m : PySem.Str → Option Value) (elt : PySem.Expr) (x : PySem.Str) (scope : Scope) (cl : List (PySem.Str × Addr)) (m' : Addr → PySem.Str → Option Value) (Q' : Addr → Shared → Prop) (xv : Value) (s₁ : Shared) : Prop :=
  ∃ n P news R, Src w A xv n P s₁ ∧ n ≤ sizeLine ∧ Fr h₀ env.locals s₁.heap m ∧ News h₀ env.locals s₁.heap news ∧
      (∀ C i v s₃ m₃ K, i < n → P i v → Fr s₁.heap C s₃.heap m₃ → m₃ x = some v → News s₁.heap C s₃.heap K → s₃.gens = s₁.gens → s₃.os = s₁.os → wpAny (model pw w) A (eval elt (compEnvC scope cl C env)) (EltPost s₁.heap C R i v K s₁) (fun _ _ => False) s₃) ∧
      (∀ D s' (yo : Items) k, yo.length = n → AllBy P R yo → Fr h₀ env.locals s'.heap (m' D) → News h₀ env.locals s'.heap ((D, oL (yo.map (·.1)).toArray k) :: (yo.flatMap (·.2) ++ news)) → s'.gens = s₁.gens → s'.os = s₁.os → Q' D s')
theorem comp_out {h₀ : Heap} {L C D : Addr} {s₁ h' h'' : Heap} {m m₁ : PySem.Str → Option Value} {news : List (Addr × Obj)} {yo : Items} {k : Nat} (F : Fr h₀ L s₁ m) (N : News h₀ L s₁ news) (F' : Fr s₁ C h' m₁) (N' : News s₁ C h' ((D, oL (yo.map (·.1)).toArray k) :: yo.flatMap (·.2)))
    (hs : ∀ b o', b ≠ C → b ≠ L → h'.get? b = some o' → h''.get? b = some o') : News h₀ L h'' ((D, oL (yo.map (·.1)).toArray k) :: (yo.flatMap (·.2) ++ news)) := by
  have out : ∀ b, s₁.get? b = none → b ≠ L ∧ h₀.get? b = none := fun b hb => by
    refine ⟨fun q => ?_, ?_⟩
    · obtain ⟨o', _, _, e, _⟩ := F.ns
      rw [q, e] at hb; cases hb
    · cases e : h₀.get? b with
      | none => rfl
      | some o' => rw [F.keep _ _ e] at hb; cases hb
  have key : ∀ p ∈ ((D, oL (yo.map (·.1)).toArray k) :: yo.flatMap (·.2)), h''.get? p.1 = some p.2 ∧ p.1 ≠ L ∧ h₀.get? p.1 = none := fun p hp => by
    have e := N' p hp
    exact ⟨hs _ _ e.2.1 (out _ e.2.2).1 e.1, out _ e.2.2⟩
  intro p hp
  rcases List.mem_cons.mp hp with rfl | hp
  · exact key _ (.head _)
  · rcases List.mem_append.mp hp with q | q
    · exact key p (.tail _ q)
    · have e := N p q
      refine ⟨hs _ _ (fun z => ?_) e.2.1 (F'.keep _ _ e.1), e.2⟩
      have := Nat.lt_of_lt_of_le (Heap.lt_size e.1) F'.above
      rw [z] at this; exact Nat.lt_irrefl _ this
/-- a comprehension as an expression -/
theorem comp_expr {w : World} {A : Around} {env : Env} {s : Shared} {h₀ : Heap} {m : PySem.Str → Option Value} {elt iter : PySem.Expr} {x : PySem.Str} {px : Pos} {scope : Scope} {cl : List (PySem.Str × Addr)} {pos : Pos} {Q : Value → Shared → Prop}
    (F₀ : Fr h₀ env.locals s.heap m) (hclos : closureFor scope env = pure cl) (hcell : ∀ y ∈ scope.names, y.2 ≠ .cell) (hkind : scope.kind = .function)
    (hnames : ∀ y ∈ scope.names, y.2 = .local → scope.names.lookup y.1 = some .local) (hx : scope.names.lookup x = some .local)
    (h : wpAny (model pw w) A (eval iter env) (CompG w A env h₀ m elt x scope cl (fun _ => m) (fun D => Q (.ref D))) (fun _ _ => False) s)
    (hs : ∀ x, foldedSetIterable iter env x = pure x := by intro _; rfl) :
    wpAny (model pw w) A (eval (.ListComp elt [⟨.Name x px, iter, [], 0⟩] scope pos) env) Q (fun _ _ => False) s := by
  rw [eval_ListComp]
  refine wpAny_comprehension_free (use := none) rfl hs hclos hkind hnames (wpAny_mono h (fun xv s₁ h₁ => ?_) fun _ _ e => e)
  obtain ⟨n, P, news, R, hsrc, hsz, F, N, helt, hQ⟩ := h₁
  refine hsrc _ _ fun o fp St W hfp hst hli => ?_
  refine comp_block (RR := fun acc C => compPost (model pw w) A (fun _ _ => False) none Q acc C) W hsz R hli hfp hcell hkind hx hst helt ?_
  intro D C s' m' yo k hF hN hlen hA hg ho
  refine ⟨m', hF.ns, fun h'' hs'' => ?_⟩
  have hCn : ∀ b o', s₁.heap.get? b = some o' → b ≠ C := fun b o' e z => by
    have := Nat.lt_of_lt_of_le (Heap.lt_size e) hF.above
    rw [z] at this; exact Nat.lt_irrefl _ this
  exact hQ D _ yo k hlen hA (fr_grow F fun b o' e => hs''.extBut b o' (hCn b o' e) (hF.keep _ _ e)) (comp_out (h'' := h'') F N hF hN fun b o' hb _ e => hs''.extBut b o' hb e) hg ho
/-- name = a comprehension -/
theorem comp_assign {w : World} {A : Around} {env : Env} {s : Shared} {h₀ : Heap} {m : PySem.Str → Option Value} {elt iter : PySem.Expr} {x y : PySem.Str} {px py : Pos} {scope : Scope} {cl : List (PySem.Str × Addr)} {pos spos : Pos} {Q : Flow → Shared → Prop}
    (F₀ : Fr h₀ env.locals s.heap m) (hsw : swapsWith (.ListComp elt [⟨.Name x px, iter, [], 0⟩] scope pos) (some (.Name y py)) spos.line env = pure true)
    (hclos : closureFor scope env = pure cl) (hcell : ∀ y ∈ scope.names, y.2 ≠ .cell) (hkind : scope.kind = .function)
    (hnames : ∀ y ∈ scope.names, y.2 = .local → scope.names.lookup y.1 = some .local) (hx : scope.names.lookup x = some .local)
    (hy : env.kindOf y = some .local) (hp : (env.scope.kind == .class || (env.scope.kind == .module && env.locals != env.globals)) = false)
    (h : wpAny (model pw w) A (eval iter env) (CompG w A env h₀ m elt x scope cl (fun D z => if z = y then some (.ref D) else m z) (fun _ => Q .next)) (fun _ _ => False) s)
    (hs : ∀ x, foldedSetIterable iter env x = pure x := by intro _; rfl) :
    wpAny (model pw w) A (exec (.Assign [.Name y py] (.ListComp elt [⟨.Name x px, iter, [], 0⟩] scope pos) spos) env) Q (fun _ _ => False) s := by
  rw [exec_Assign_Name_used _ _ _ _ hsw]
  refine wpAny_bind (wpAny_standAt (wpAny_bind ?_))
  show wpAny _ A (do let _ ← comprehension (.ListComp elt [⟨.Name x px, iter, [], 0⟩] scope pos) scope env _ (newList []) false (eval iter env) (some (assign (.Name y py) env))) _ _ s
  refine wpAny_bind (wpAny_mono (wpAny_comprehension_free (use := some (assign (.Name y py) env)) (Q := fun _ s' => Q .next s') rfl hs hclos hkind hnames
    (wpAny_mono h (fun xv s₁ h₁ => ?_) fun _ _ e => e)) (fun _ s' hq => wpAny_pure (wpAny_pure hq)) fun _ _ e => e)
  obtain ⟨n, P, news, R, hsrc, hsz, F, N, helt, hQ⟩ := h₁
  refine hsrc _ _ fun o fp St W hfp hst hli => ?_
  refine comp_block (RR := fun acc C => compPost (model pw w) A (fun _ _ => False) (some (assign (.Name y py) env)) (fun _ s' => Q .next s') acc C) W hsz R hli hfp hcell hkind hx hst helt ?_
  rintro D C ⟨hp1, hp2, hp3, hp4, hp5⟩ m' yo k hF hN hlen hA hg ho
  dsimp only at hF hN hg ho
  have hCn : ∀ b o', s₁.heap.get? b = some o' → b ≠ C := fun b o' e z => by
    have := Nat.lt_of_lt_of_le (Heap.lt_size e) hF.above
    rw [z] at this; exact Nat.lt_irrefl _ this
  have hLC : env.locals ≠ C := by obtain ⟨o', _, _, e, _⟩ := F.ns; exact hCn _ _ e
  have F1 := fr_grow F hF.keep
  show wpAny _ A (assign (.Name y py) env (.ref D)) _ _ _
  refine wpAny_assign_Name (wpAny_storeName_local hy F1.ns (fun h₂ hn₂ hs₂ => ?_) hp)
  refine ⟨m', hF.ns.sameBut hs₂ hLC.symm, fun h'' hs'' => ?_⟩
  have F2 := F1.set hn₂ hs₂
  have F3 : Fr h₀ env.locals h'' (fun z => if z = y then some (.ref D) else m z) := ⟨F2.ns.sameBut hs'' hLC, fun b o' e => hs''.extBut b o' (hCn b o' (F.keep _ _ e)) (F2.keep _ _ e), F2.above⟩
  exact hQ D _ yo k hlen hA F3 (comp_out (h'' := h'') F N hF hN fun b o' hb hbL e => hs''.extBut b o' hb (hs₂.extBut b o' hbL e)) hg ho
end Mine
end
section
namespace Mine
open PySem.Builtin.Re PySem.Builtin
theorem bind_dec {w : World} {s : Shared} (U : Up w s.heap) (x : PySem.Str) (t : Nat) : BindsTo s (fn 29 (S "decode") (S "decode") 3 [] (.ref 112) .none .none (.str (S "cpy313.email.quoprimime") 1440) none (.ref 118) .none 0) ⟨[.str x t], []⟩ [(S "encoded", .str x t), (S "eol", .str ⟨[10].toArray⟩ 395)] :=
  binds_peek U 112 (o112L w.params) (by kernel_rfl) fun S => by kernel_rfl
theorem g_unq' (w : World) : mgL w (PySem.Str.ofString "unquote") = some (.ref 83) := by kernel_rfl
theorem g_hexd (w : World) : mgL w (PySem.Str.ofString "hexdigits") = some (.str (S "0123456789abcdefABCDEF") 1438) := by kernel_rfl
theorem g_len (w : World) : mgL w (PySem.Str.ofString "len") = none := by kernel_rfl
theorem b_len (w : World) : mbL w (PySem.Str.ofString "len") = some (.builtin "len") := by kernel_rfl
theorem flat_take (rl : List RowU) (i : Nat) : ((rl.take i).flatMap outRow).length ≤ (rl.flatMap outRow).length := by
  have e := List.take_append_drop i rl
  have := congrArg (fun l => (l.flatMap outRow).length) e
  simp only [List.flatMap_append, List.length_append] at this
  lia
theorem out_row_len (r : RowU) : (outRow r).length ≤ (encRow r).length + 1 := by
  unfold outRow
  have : (outK r (r.1.length)).length ≤ (encRow r).length + 1 := out_len r _
  unfold outK at this
  rw [List.take_length] at this
  by_cases hs : r.2 = true
  · rw [if_pos hs]
    rw [List.length_append] at this ⊢
    simp at this ⊢
    lia
  · rw [if_neg hs]
    rw [if_pos ⟨rfl, by simpa using hs⟩] at this
    exact this
theorem flat_rows : ∀ rows : List RowU, (rows.flatMap outRow).length ≤ 2 * (joinE [13, 10] (rows.map encRow)).length + 1
  | [] => by simp
  | [r] => by
    have h1 := out_row_len r
    have e : joinE [13, 10] ([r].map encRow) = encRow r := rfl
    rw [e, List.flatMap_cons, List.flatMap_nil, List.append_nil]
    lia
  | r :: q :: rs => by
    have ih := flat_rows (q :: rs)
    have h1 := out_row_len r
    have e : joinE [13, 10] ((r :: q :: rs).map encRow) = encRow r ++ [13, 10] ++ joinE [13, 10] ((q :: rs).map encRow) := rfl
    rw [e, List.flatMap_cons, List.length_append, List.length_append, List.length_append]
    have h4 : ([13, 10] : List Nat).length = 2 := rfl
    lia
theorem flat_shown (rows : List RowU) : ((shown rows).flatMap outRow).length ≤ 2 * (joinE [13, 10] (rows.map encRow)).length + 1 := by
  refine Nat.le_trans ?_ (flat_rows rows)
  unfold shown
  split
  · rw [List.dropLast_eq_take]; exact flat_take rows _
  · exact Nat.le_refl _
noncomputable def J7 (x : PySem.Str) (t : Nat) (rows : List RowU) (i : Nat) (m : PySem.Str → Option Value) (news : List (Addr × Obj)) : Prop :=
  m (S "encoded") = some (.str x t) ∧ m (S "eol") = some (.str ⟨[10].toArray⟩ 395) ∧ ∃ td, m (S "decoded") = some (.str ⟨((rows.take i).flatMap outRow).toArray⟩ td)
set_option maxHeartbeats 4000000 in
theorem dec_ok {w : World} {A : Around} {s : Shared} (U : Up w s.heap) (hd : A.depth + 4 < recursionLimit) (hA : A.handled = none) (x : PySem.Str) (t : Nat) (rows : List RowU) (hx : x.cps.size ≤ 49000) (hx0 : x.cps.size ≠ 0) (hr : rows ≠ []) (hlast : ∀ r, rows.getLast? = some r → r.2 = false) (hg : ∀ r ∈ rows, goodRow r) (he : x.cps.toList = joinE [13, 10] (rows.map encRow)) :
    wpAny (model pw w) A (call (.ref 119) [.str x t]) (Back (.str ⟨(decT rows).toArray⟩) s) (fun _ _ => False) s := by
  refine call_of2 29 119 118 (S "decode") (.ref 112) (.str (S "cpy313.email.quoprimime") 1440) _ _ U (by lia) (by kernel_rfl) ⟨o118L w.params, _, _, by kernel_rfl, rfl, rfl⟩ (bind_dec U x t) (by kernel_rfl) (by kernel_rfl) (by kernel_rfl) (by kernel_rfl) (by decide +kernel) fun h₁ F U₁ => ?_
  have N : News s.heap s.heap.objs.size h₁ [] := News.nil
  have hlen : x.length ≤ 50000 := Nat.le_trans hx (by decide)
  repeat' (first
    | ((with_reducible show wpAny _ _ (eval (PySem.Expr.Name _ _) _) _ _ _); (first | ((with_reducible show wpAny _ _ (eval (PySem.Expr.Name (PySem.Str.ofString "len") _) _) _ _ _); refine name_b (by assumption) (by assumption) (by kernel_rfl) (by kernel_rfl) (g_len _) (b_len _) (by decide +kernel) ?_) | ((with_reducible show wpAny _ _ (eval (PySem.Expr.Name (PySem.Str.ofString "unquote") _) _) _ _ _); refine name_g (by assumption) (by assumption) (by kernel_rfl) (by kernel_rfl) (g_unq' _) (by decide +kernel) ?_) | ((with_reducible show wpAny _ _ (eval (PySem.Expr.Name (PySem.Str.ofString "hexdigits") _) _) _ _ _); refine name_g (by assumption) (by assumption) (by kernel_rfl) (by kernel_rfl) (g_hexd _) (by decide +kernel) ?_)); try dsimp only)
    | ((with_reducible show wpAny _ _ (loadName (envOf _ _ _ _ _) _) _ _ _); (with_reducible refine ldn (by assumption) (by (with_unfolding_all first | rfl | exact e1 | exact e2 | exact e3 | exact q1 | exact q2 | exact q3 | exact q4 | exact q5 | exact q6)) ?_ (by kernel_rfl!) (by kernel_rfl!)))
    | ((with_reducible show wpAny _ _ (eval (PySem.Expr.Name _ _) (envOf _ _ _ _ _)) _ _ _); (with_reducible refine ld (by assumption) (by (with_unfolding_all first | rfl | exact e1 | exact e2 | exact e3 | exact q1 | exact q2 | exact q3 | exact q4 | exact q5 | exact q6)) ?_ (by kernel_rfl!) (by kernel_rfl!) (by decide +kernel)))
    | ((with_reducible show wpAny _ _ (execs [_] _) _ _ _); refine cons_one ?_)
    | ((with_reducible show wpAny _ _ (execs (_ :: _) _) _ _ _); refine cons_gen fun _ _ _ => ?_)
    | ((rename GoN _ _ _ _ _ _ => hKN); (rename GoR _ _ => hKR); (with_reducible refine goN hKN ?_); clear hKN hKR)
    | ((rename GoN _ _ _ _ _ _ => hKN); (rename GoR _ _ => hKR); (with_reducible first | refine goR hKR ?_ | refine goCont hKR ?_); clear hKN hKR)
    | ((with_reducible show wpAny _ _ (exec (PySem.Stmt.For _ _ _ _ _) _) _ _ _); refine wpAny_For ?_ (by intro _; rfl))
    | ((with_reducible show wpAny _ _ (pyIter _) _ _ _); fail_if_success skip)
    | (walk1; try dsimp only)
    | fail "no")
  case refine_2 =>
    exfalso
    rename_i q
    exact hx0 (by exact_mod_cast q)
  case refine_1 =>
    rename_i l h₂ k₂ hl1 hl2 hl3 hl4 F₂ N₂
    have hrl1 : (Txt.lines x).map (·.cps.toList) = (shown rows).map encRow := by rw [lines_rows x rows hr hg he, dle_shown rows hr]
    have hrl2 : ∀ r ∈ shown rows, goodRow r := fun r q => hg r (shown_sub rows r q)
    generalize hrl3 : shown rows = rl at hrl1 hrl2
    have hflat : (rl.flatMap outRow).length ≤ 100000 := by
      rw [← hrl3]
      refine Nat.le_trans (flat_shown rows) ?_
      rw [← he, Array.length_toList]
      (clear hfact hlen hr hx0 hd; lia)
    refine for_list (vs := strValues l) (c := 0) (news := []) (by kernel_rfl) (by kernel_rfl) (by exact hA) F₂ N₂ (J7 x t rl) ⟨by with_unfolding_all rfl, by with_unfolding_all rfl, _, by with_unfolding_all rfl⟩ ?_ ?_
    · intro i v m₁ news₁ I o s₁ hv hJ hnI hID F₁ N₁ hg₁ ho₁ P hP
      obtain ⟨e1, e2, td, e3⟩ := hJ
      have F₁' : Fr _ s.heap.objs.size _ _ := F₁
      clear F₁
      obtain ⟨y, ty, r, rfl, hy, hri, hgr, hyl⟩ : ∃ y ty r, v = .str y ty ∧ y.cps.toList = encRow r ∧ rl[i]? = some r ∧ goodRow r ∧ y.length ≤ 50000 := by
        unfold strValues at hv
        rw [List.getElem?_map] at hv
        cases hli : l[i]? with
        | none => rw [hli] at hv; cases hv
        | some p =>
          rw [hli] at hv
          have h5 : (l.map (·.1))[i]? = some p.1 := by rw [List.getElem?_map, hli]; rfl
          have h6 : p.1 ∈ l.map (·.1) := List.mem_of_getElem? h5
          have h7 : (rl.map encRow)[i]? = some p.1.cps.toList := by rw [← hrl1, List.getElem?_map, ← hl1, h5]; rfl
          rw [List.getElem?_map] at h7
          cases hri : rl[i]? with
          | none => rw [hri] at h7; cases h7
          | some r =>
            rw [hri] at h7
            exact ⟨p.1, p.2, r, (Option.some.inj hv).symm, (Option.some.inj h7).symm, rfl, hrl2 r (List.mem_of_getElem? hri), Nat.le_trans (hl3 _ h6) hlen⟩
      have hout : (rl.take (i + 1)).flatMap outRow = (rl.take i).flatMap outRow ++ outRow r := by
        rw [List.take_add_one, hri]; simp
      have hdl : ((rl.take i).flatMap outRow).length ≤ 100000 := Nat.le_trans (flat_take rl i) hflat
      generalize hD0 : (rl.take i).flatMap outRow = D0 at hout hdl e3
      obtain ⟨h₁', g₁', d₁', k₁', os₁'⟩ := s₁
      dsimp only at hg₁ ho₁ F₁' N₁ ⊢
      repeat' (first
        | ((with_reducible show wpAny _ _ (eval (PySem.Expr.Name _ _) _) _ _ _); (first | ((with_reducible show wpAny _ _ (eval (PySem.Expr.Name (PySem.Str.ofString "len") _) _) _ _ _); refine name_b (by assumption) (by assumption) (by kernel_rfl) (by kernel_rfl) (g_len _) (b_len _) (by decide +kernel) ?_) | ((with_reducible show wpAny _ _ (eval (PySem.Expr.Name (PySem.Str.ofString "unquote") _) _) _ _ _); refine name_g (by assumption) (by assumption) (by kernel_rfl) (by kernel_rfl) (g_unq' _) (by decide +kernel) ?_) | ((with_reducible show wpAny _ _ (eval (PySem.Expr.Name (PySem.Str.ofString "hexdigits") _) _) _ _ _); refine name_g (by assumption) (by assumption) (by kernel_rfl) (by kernel_rfl) (g_hexd _) (by decide +kernel) ?_)); try dsimp only)
        | ((with_reducible show wpAny _ _ (loadName (envOf _ _ _ _ _) _) _ _ _); (with_reducible refine ldn (by assumption) (by (with_unfolding_all first | rfl | exact e1 | exact e2 | exact e3 | exact q1 | exact q2 | exact q3 | exact q4 | exact q5 | exact q6)) ?_ (by kernel_rfl!) (by kernel_rfl!)))
        | ((with_reducible show wpAny _ _ (eval (PySem.Expr.Name _ _) (envOf _ _ _ _ _)) _ _ _); (with_reducible refine ld (by assumption) (by (with_unfolding_all first | rfl | exact e1 | exact e2 | exact e3 | exact q1 | exact q2 | exact q3 | exact q4 | exact q5 | exact q6)) ?_ (by kernel_rfl!) (by kernel_rfl!) (by decide +kernel)))
        | ((with_reducible show wpAny _ _ (execs [_] _) _ _ _); refine cons_one ?_)
        | ((with_reducible show wpAny _ _ (execs (_ :: _) _) _ _ _); refine cons_gen fun _ _ _ => ?_)
        | ((rename GoN _ _ _ _ _ _ => hKN); (rename GoR _ _ => hKR); (with_reducible refine goN hKN ?_); clear hKN hKR)
        | ((rename GoN _ _ _ _ _ _ => hKN); (rename GoR _ _ => hKR); (with_reducible first | refine goR hKR ?_ | refine goCont hKR ?_); clear hKN hKR)
        | ((with_reducible show wpAny _ _ (call (Value.builtin "str.rstrip") _) _ _ _); refine SCL.rstrip ?_ (by rw [sizeLine_eq]; (clear hdl hID hflat hfact hlen hr hx0 hx hd; lia)); rw [rstrip_row y r hgr hy]; intro _ _ _; try dsimp only)
        | ((with_reducible show wpAny _ _ (inplaceOp Operator.Add (Value.str _ _) (Value.str _ _)) _ _ _); refine iadd_l (by simp; (clear hyl hID hflat hfact hlen hr hx0 hx hd; lia)) ?_; intro _ _; try dsimp only)
        | ((fail_if_success (with_reducible show wpAny _ _ (exec (PySem.Stmt.While _ _ _ _) _) _ _ _)); walk1; try dsimp only)
        | fail "no")
      · -- the while loop
        rename Fr _ _ _ _ => FW
        rename News _ _ _ _ => NW
        rename (_ : Int) ≠ 0 => hne
        clear F₁' N₁
        have hys : y.cps.size = (encRow r).length := by rw [← hy, Array.length_toList]
        have hyn : y.length = y.cps.size := rfl
        have hrl' := row_len r
        have h0 : D0 ++ outK r 0 = D0 := by
          unfold outK
          rw [if_neg, List.take_zero]
          · simp
          · rintro ⟨z1, z2⟩
            have : r.1 = [] := List.eq_nil_of_length_eq_zero z1.symm
            rw [this, if_neg (by rw [z2]; decide)] at hrl'
            simp only [List.flatMap_nil, List.length_nil] at hrl'
            (clear z1 hdl hyl hID hflat hfact hlen hr hx0 hx hd; lia)
        have h1 : posU r 0 = 0 := by unfold posU; simp
        refine while_rule (JD x t y _ _ D0 r _) (n₀ := r.1.length + 2) FW NW ⟨rfl, by (with_unfolding_all first | rfl | exact e1 | exact e2 | exact e3 | exact q1 | exact q2 | exact q3 | exact q4 | exact q5 | exact q6), by (with_unfolding_all first | rfl | exact e1 | exact e2 | exact e3 | exact q1 | exact q2 | exact q3 | exact q4 | exact q5 | exact q6), by (with_unfolding_all first | rfl | exact e1 | exact e2 | exact e3 | exact q1 | exact q2 | exact q3 | exact q4 | exact q5 | exact q6), by (with_unfolding_all first | rfl | exact e1 | exact e2 | exact e3 | exact q1 | exact q2 | exact q3 | exact q4 | exact q5 | exact q6), 0, _, _, rfl, by (clear h1 hrl' hyn hys hne hdl hyl hID hflat hfact hlen hr hx0 hx hd; lia), by (clear h1 hrl' hyn hys hne hdl hyl hID hflat hfact hlen hr hx0 hx hd; lia), by rw [h1]; (with_unfolding_all first | rfl | exact e1 | exact e2 | exact e3 | exact q1 | exact q2 | exact q3 | exact q4 | exact q5 | exact q6), by rw [h0]; (with_unfolding_all first | rfl | exact e1 | exact e2 | exact e3 | exact q1 | exact q2 | exact q3 | exact q4 | exact q5 | exact q6)⟩ ?_
        · rintro n m₂ news₂ ⟨h₃, g₃, d₃, k₃, os₃⟩ hg₃ ho₃ F₃ N₃ ⟨rfl, q1, q2, q3, q4, k, ti, td', rfl, hk1, hk2, q5, q6⟩ W hW
          dsimp only at hg₃ ho₃ F₃ N₃
          have F₃' := F₃
          clear F₃ FW NW
          have hol : (outK r k).length ≤ 50001 := by
            have := out_len r k
            (clear hk2 hk1 h1 hne hdl hID hflat hfact hlen hr hx0 hx hd; lia)
          rcases Nat.lt_or_ge k r.1.length with hk | hk
          · have hps := pos_succ hk
            have hpl := pos_lt hk
            have hos := out_step hk hy
            have hra := fun j hj => row_at hk hy j hj
            have hgu := hgr.1 r.1[k] (List.getElem_mem hk)
            generalize hu : r.1[k] = u at *
            obtain ⟨c, q⟩ := u
            cases q with
            | false =>
              have he : encU (c, false) = [c] := rfl
              rw [he] at hps hpl hra
              have hc0 : y.cps[posU r k]? = some c := hra 0 (by simp)
              have hc61 : c ≠ 61 := by have := hgu.2 rfl; dsimp only at this; (clear hpl hps hol hk2 hk1 h1 hrl' hyn hys hne hdl hyl hID hflat hfact hlen hr hx0 hx hd; lia)
              have hcb : ((⟨#[c]⟩ : PySem.Str) != PySem.Str.ofString "=") = true := by
                have e : PySem.Str.ofString "=" = ⟨#[61]⟩ := by decide +kernel
                rw [e]
                simp [hc61]
              dsimp only at hos
              rw [List.length_singleton] at hps hpl
              repeat' (first
                | ((with_reducible show wpAny _ _ (eval (PySem.Expr.Name _ _) _) _ _ _); (first | ((with_reducible show wpAny _ _ (eval (PySem.Expr.Name (PySem.Str.ofString "len") _) _) _ _ _); refine name_b (by assumption) (by assumption) (by kernel_rfl) (by kernel_rfl) (g_len _) (b_len _) (by decide +kernel) ?_) | ((with_reducible show wpAny _ _ (eval (PySem.Expr.Name (PySem.Str.ofString "unquote") _) _) _ _ _); refine name_g (by assumption) (by assumption) (by kernel_rfl) (by kernel_rfl) (g_unq' _) (by decide +kernel) ?_) | ((with_reducible show wpAny _ _ (eval (PySem.Expr.Name (PySem.Str.ofString "hexdigits") _) _) _ _ _); refine name_g (by assumption) (by assumption) (by kernel_rfl) (by kernel_rfl) (g_hexd _) (by decide +kernel) ?_)); try dsimp only)
                | ((with_reducible show wpAny _ _ (loadName (envOf _ _ _ _ _) _) _ _ _); (with_reducible refine ldn (by assumption) (by (with_unfolding_all first | rfl | exact e1 | exact e2 | exact e3 | exact q1 | exact q2 | exact q3 | exact q4 | exact q5 | exact q6)) ?_ (by kernel_rfl!) (by kernel_rfl!)))
                | ((with_reducible show wpAny _ _ (eval (PySem.Expr.Name _ _) (envOf _ _ _ _ _)) _ _ _); (with_reducible refine ld (by assumption) (by (with_unfolding_all first | rfl | exact e1 | exact e2 | exact e3 | exact q1 | exact q2 | exact q3 | exact q4 | exact q5 | exact q6)) ?_ (by kernel_rfl!) (by kernel_rfl!) (by decide +kernel)))
                | ((with_reducible show wpAny _ _ (execs [_] _) _ _ _); refine cons_one ?_)
                | ((with_reducible show wpAny _ _ (execs (_ :: _) _) _ _ _); refine cons_gen fun _ _ _ => ?_)
                | ((rename GoN _ _ _ _ _ _ => hKN); (rename GoR _ _ => hKR); (with_reducible refine goN hKN ?_); clear hKN hKR)
                | ((rename GoN _ _ _ _ _ _ => hKN); (rename GoR _ _ => hKR); (with_reducible first | refine goR hKR ?_ | refine goCont hKR ?_); clear hKN hKR)
                | (exfalso; rename (_ != _) = false => hb; rw [hcb] at hb; cases hb; done)
                | ((with_reducible show wpAny _ _ (subscriptTail _ _ (Value.str _ _) (Value.int _ _)) _ _ _); refine char_at (posU r k) rfl hc0 (by (clear hc61 hpl hps hol hk2 hk1 h1 hne hdl hID hflat hfact hlen hr hx0 hx hd; lia)) ?_ (by with_unfolding_all rfl) (by intro _; with_unfolding_all rfl); try dsimp only)
                | ((with_reducible show wpAny _ _ (inplaceOp Operator.Add (Value.str _ _) (Value.str _ _)) _ _ _); refine iadd_l (by simp; (clear hc61 hpl hps hk2 hk1 h1 hrl' hyn hys hne hyl hID hflat hfact hlen hr hx0 hx hd; lia)) ?_; intro _ _; try dsimp only)
                | (walk1; try dsimp only)
                | fail "no")
              · rename Fr _ _ _ _ => FZ
                rename News _ _ _ _ => NZ
                rename _ = ((y.length : Nat) : Int) => hz
                rw [hps, if_pos (by (clear hc61 hpl hps hol hk2 hk1 h1 hne hdl hyl hID hflat hfact hlen hr hx0 hx hd; lia))] at hos
                exact hW _ _ ⟨_, _, r.1.length + 2 - (k + 1), FZ, NZ, hg₃, ho₃, by (clear hz hc61 hpl hps hol hk2 hk1 h1 hrl' hyn hys hne hdl hyl hID hflat hfact hlen hr hx0 hx hd; lia), rfl, by (with_unfolding_all first | rfl | exact e1 | exact e2 | exact e3 | exact q1 | exact q2 | exact q3 | exact q4 | exact q5 | exact q6), by (with_unfolding_all first | rfl | exact e1 | exact e2 | exact e3 | exact q1 | exact q2 | exact q3 | exact q4 | exact q5 | exact q6), by (with_unfolding_all first | rfl | exact e1 | exact e2 | exact e3 | exact q1 | exact q2 | exact q3 | exact q4 | exact q5 | exact q6), by (with_unfolding_all first | rfl | exact e1 | exact e2 | exact e3 | exact q1 | exact q2 | exact q3 | exact q4 | exact q5 | exact q6), k + 1, _, _, rfl, by (clear hz hc61 hpl hps hol hk2 hk1 h1 hrl' hyn hys hne hdl hyl hID hflat hfact hlen hr hx0 hx hd; lia), by (clear hz hc61 hpl hps hol hk2 hk1 h1 hrl' hyn hys hne hdl hyl hID hflat hfact hlen hr hx0 hx hd; lia), by rw [hps]; (with_unfolding_all first | rfl | exact e1 | exact e2 | exact e3 | exact q1 | exact q2 | exact q3 | exact q4 | exact q5 | exact q6), by rw [hos, ← List.append_assoc, ← List.append_assoc]; (with_unfolding_all first | rfl | exact e1 | exact e2 | exact e3 | exact q1 | exact q2 | exact q3 | exact q4 | exact q5 | exact q6)⟩
              · rename Fr _ _ _ _ => FZ
                rename News _ _ _ _ => NZ
                rename _ ≠ ((y.length : Nat) : Int) => hz
                rw [hps, if_neg (by (clear hc61 hpl hps hol hk2 hk1 h1 hne hdl hyl hID hflat hfact hlen hr hx0 hx hd; lia)), List.append_nil] at hos
                exact hW _ _ ⟨_, _, r.1.length + 2 - (k + 1), FZ, NZ, hg₃, ho₃, by (clear hz hc61 hpl hps hol hk2 hk1 h1 hrl' hyn hys hne hdl hyl hID hflat hfact hlen hr hx0 hx hd; lia), rfl, by (with_unfolding_all first | rfl | exact e1 | exact e2 | exact e3 | exact q1 | exact q2 | exact q3 | exact q4 | exact q5 | exact q6), by (with_unfolding_all first | rfl | exact e1 | exact e2 | exact e3 | exact q1 | exact q2 | exact q3 | exact q4 | exact q5 | exact q6), by (with_unfolding_all first | rfl | exact e1 | exact e2 | exact e3 | exact q1 | exact q2 | exact q3 | exact q4 | exact q5 | exact q6), by (with_unfolding_all first | rfl | exact e1 | exact e2 | exact e3 | exact q1 | exact q2 | exact q3 | exact q4 | exact q5 | exact q6), k + 1, _, _, rfl, by (clear hz hc61 hpl hps hol hk2 hk1 h1 hrl' hyn hys hne hdl hyl hID hflat hfact hlen hr hx0 hx hd; lia), by (clear hz hc61 hpl hps hol hk2 hk1 h1 hrl' hyn hys hne hdl hyl hID hflat hfact hlen hr hx0 hx hd; lia), by rw [hps]; (with_unfolding_all first | rfl | exact e1 | exact e2 | exact e3 | exact q1 | exact q2 | exact q3 | exact q4 | exact q5 | exact q6), by rw [hos, ← List.append_assoc]; (with_unfolding_all first | rfl | exact e1 | exact e2 | exact e3 | exact q1 | exact q2 | exact q3 | exact q4 | exact q5 | exact q6)⟩
              · exfalso
                rename ¬ ((_ : Int) < _) => hz
                (clear hc61 hps hol hk2 hk1 h1 hne hdl hID hflat hfact hlen hr hx0 hx hd; lia)
            | true =>
              have he : encU (c, true) = [61, hexd (c / 16), hexd (c % 16)] := rfl
              rw [he] at hps hpl hra
              have hc0 : y.cps[posU r k]? = some 61 := hra 0 (by simp)
              have hc1 : y.cps[posU r k + 1]? = some (hexd (c / 16)) := hra 1 (by simp)
              have hc2 : y.cps[posU r k + 2]? = some (hexd (c % 16)) := hra 2 (by simp)
              have hc256 : c < 256 := hgu.1
              have ho1 := occ_hex (c / 16) (by (clear hpl hps hol hk2 hk1 h1 hrl' hyn hys hne hdl hyl hID hflat hfact hlen hr hx0 hx hd; lia))
              have ho2 := occ_hex (c % 16) (by (clear hc256 hpl hps hol hk2 hk1 h1 hrl' hyn hys hne hdl hyl hID hflat hfact hlen hr hx0 hx hd; lia))
              have hcb : ((⟨#[61]⟩ : PySem.Str) != PySem.Str.ofString "=") = false := by decide +kernel
              have hsl : Txt.slice y (some ((posU r k : Nat) : Int)) (some (((posU r k : Nat) : Int) + 3)) = hexS c := slice_hex hc0 hc1 hc2
              dsimp only at hos
              have h3 : [61, hexd (c / 16), hexd (c % 16)].length = 3 := rfl
              rw [h3] at hps hpl
              repeat' (first
                | ((with_reducible show wpAny _ _ (eval (PySem.Expr.Name _ _) _) _ _ _); (first | ((with_reducible show wpAny _ _ (eval (PySem.Expr.Name (PySem.Str.ofString "len") _) _) _ _ _); refine name_b (by assumption) (by assumption) (by kernel_rfl) (by kernel_rfl) (g_len _) (b_len _) (by decide +kernel) ?_) | ((with_reducible show wpAny _ _ (eval (PySem.Expr.Name (PySem.Str.ofString "unquote") _) _) _ _ _); refine name_g (by assumption) (by assumption) (by kernel_rfl) (by kernel_rfl) (g_unq' _) (by decide +kernel) ?_) | ((with_reducible show wpAny _ _ (eval (PySem.Expr.Name (PySem.Str.ofString "hexdigits") _) _) _ _ _); refine name_g (by assumption) (by assumption) (by kernel_rfl) (by kernel_rfl) (g_hexd _) (by decide +kernel) ?_)); try dsimp only)
                | ((with_reducible show wpAny _ _ (loadName (envOf _ _ _ _ _) _) _ _ _); (with_reducible refine ldn (by assumption) (by (with_unfolding_all first | rfl | exact e1 | exact e2 | exact e3 | exact q1 | exact q2 | exact q3 | exact q4 | exact q5 | exact q6)) ?_ (by kernel_rfl!) (by kernel_rfl!)))
                | ((with_reducible show wpAny _ _ (eval (PySem.Expr.Name _ _) (envOf _ _ _ _ _)) _ _ _); (with_reducible refine ld (by assumption) (by (with_unfolding_all first | rfl | exact e1 | exact e2 | exact e3 | exact q1 | exact q2 | exact q3 | exact q4 | exact q5 | exact q6)) ?_ (by kernel_rfl!) (by kernel_rfl!) (by decide +kernel)))
                | ((with_reducible show wpAny _ _ (execs [_] _) _ _ _); refine cons_one ?_)
                | ((with_reducible show wpAny _ _ (execs (_ :: _) _) _ _ _); refine cons_gen fun _ _ _ => ?_)
                | ((rename GoN _ _ _ _ _ _ => hKN); (rename GoR _ _ => hKR); (with_reducible refine goN hKN ?_); clear hKN hKR)
                | ((rename GoN _ _ _ _ _ _ => hKN); (rename GoR _ _ => hKR); (with_reducible first | refine goR hKR ?_ | refine goCont hKR ?_); clear hKN hKR)
                | (exfalso; rename (_ != _) = true => hb; rw [hcb] at hb; cases hb; done)
                | (exfalso; rename List.isEmpty _ = true => hb; (first | rw [ho1] at hb | rw [ho2] at hb); cases hb; done)
                | ((with_reducible show wpAny _ _ (subscriptTail _ _ (Value.str _ _) (Value.int _ _)) _ _ _); (first | refine char_at (posU r k) rfl hc0 (by (clear h3 hc256 hpl hps hol hk2 hk1 h1 hne hdl hID hflat hfact hlen hr hx0 hx hd; lia)) ?_ (by with_unfolding_all rfl) (by intro _; with_unfolding_all rfl) | refine char_at (posU r k + 1) (by (clear h3 hc256 hpl hps hol hk2 hk1 h1 hrl' hyn hys hne hdl hyl hID hflat hfact hlen hr hx0 hx hd; lia)) hc1 (by (clear h3 hc256 hpl hps hol hk2 hk1 h1 hne hdl hID hflat hfact hlen hr hx0 hx hd; lia)) ?_ (by with_unfolding_all rfl) (by intro _; with_unfolding_all rfl) | refine char_at (posU r k + 2) (by (clear h3 hc256 hpl hps hol hk2 hk1 h1 hrl' hyn hys hne hdl hyl hID hflat hfact hlen hr hx0 hx hd; lia)) hc2 (by (clear h3 hc256 hpl hps hol hk2 hk1 h1 hne hdl hID hflat hfact hlen hr hx0 hx hd; lia)) ?_ (by with_unfolding_all rfl) (by intro _; with_unfolding_all rfl)); try dsimp only)
                | ((with_reducible show wpAny _ _ (callWith _ (Value.ref 83) _ _ _) _ _ _); refine cw_def (o := o83I w.params) (by kernel_rfl) rfl ?_ (by rfl))
                | ((with_reducible show Up _ _ ∧ _); rename Fr _ _ _ _ => FX; refine ⟨fun b o e => FX.keep _ _ (U _ _ e), ?_⟩)
                | ((with_reducible show Up _ _); rename Fr _ _ _ _ => FX; exact fun b o e => FX.keep _ _ (U _ _ e))
                | ((with_reducible show wpAny _ _ (call (Value.ref 83) _) _ _ _); rename Fr _ _ _ _ => FX; rename News _ _ _ _ => NX; refine wpAny_mono (unquote_ok (fun b o e => FX.keep _ _ (U _ _ e)) (Nat.lt_of_le_of_lt (Nat.le_add_right (A.depth + 1) 3) hd) _ _ c hsl hc256) ?_ (fun _ _ x => x.elim); rintro v ⟨h₉, g₉, d₉, k₉, os₉⟩ ⟨hv, G⟩; obtain ⟨tv, rfl⟩ := tell_str hv; have FY := fr_grow FX G.keep; have NY := news_grow NX G.keep; clear FX NX; obtain rfl : g₉ = _ := G.gens; obtain rfl : os₉ = _ := G.os; clear G; try dsimp only)
                | ((with_reducible show wpAny _ _ (inplaceOp Operator.Add (Value.str _ _) (Value.str _ _)) _ _ _); refine iadd_l (by simp; (clear h3 hc256 hpl hps hk2 hk1 h1 hrl' hyn hys hne hyl hID hflat hfact hlen hr hx0 hx hd; lia)) ?_; intro _ _; try dsimp only)
                | (walk1; try dsimp only)
                | fail "no")
              all_goals first
                | (exfalso; (clear h3 hc256 hps hol hk2 hk1 h1 hne hdl hID hflat hfact hlen hr hx0 hx hd; lia))
                | (rename Fr _ _ _ _ => FZ
                   rename News _ _ _ _ => NZ
                   rename _ = ((y.length : Nat) : Int) => hz
                   rw [hps, if_pos (by (clear h3 hc256 hpl hps hol hk2 hk1 h1 hne hdl hyl hID hflat hfact hlen hr hx0 hx hd; lia))] at hos
                   exact hW _ _ ⟨_, _, r.1.length + 2 - (k + 1), FZ, NZ, hg₃, ho₃, by (clear hz h3 hc256 hpl hps hol hk2 hk1 h1 hrl' hyn hys hne hdl hyl hID hflat hfact hlen hr hx0 hx hd; lia), rfl, by (with_unfolding_all first | rfl | exact e1 | exact e2 | exact e3 | exact q1 | exact q2 | exact q3 | exact q4 | exact q5 | exact q6), by (with_unfolding_all first | rfl | exact e1 | exact e2 | exact e3 | exact q1 | exact q2 | exact q3 | exact q4 | exact q5 | exact q6), by (with_unfolding_all first | rfl | exact e1 | exact e2 | exact e3 | exact q1 | exact q2 | exact q3 | exact q4 | exact q5 | exact q6), by (with_unfolding_all first | rfl | exact e1 | exact e2 | exact e3 | exact q1 | exact q2 | exact q3 | exact q4 | exact q5 | exact q6), k + 1, _, _, rfl, by (clear hz h3 hc256 hpl hps hol hk2 hk1 h1 hrl' hyn hys hne hdl hyl hID hflat hfact hlen hr hx0 hx hd; lia), by (clear hz h3 hc256 hpl hps hol hk2 hk1 h1 hrl' hyn hys hne hdl hyl hID hflat hfact hlen hr hx0 hx hd; lia), by rw [hps]; (with_unfolding_all first | rfl | exact e1 | exact e2 | exact e3 | exact q1 | exact q2 | exact q3 | exact q4 | exact q5 | exact q6), by rw [hos, ← List.append_assoc, ← List.append_assoc]; (with_unfolding_all first | rfl | exact e1 | exact e2 | exact e3 | exact q1 | exact q2 | exact q3 | exact q4 | exact q5 | exact q6)⟩)
                | (rename Fr _ _ _ _ => FZ
                   rename News _ _ _ _ => NZ
                   rename _ ≠ ((y.length : Nat) : Int) => hz
                   rw [hps, if_neg (by (clear h3 hc256 hpl hps hol hk2 hk1 h1 hne hdl hyl hID hflat hfact hlen hr hx0 hx hd; lia)), List.append_nil] at hos
                   exact hW _ _ ⟨_, _, r.1.length + 2 - (k + 1), FZ, NZ, hg₃, ho₃, by (clear hz h3 hc256 hpl hps hol hk2 hk1 h1 hrl' hyn hys hne hdl hyl hID hflat hfact hlen hr hx0 hx hd; lia), rfl, by (with_unfolding_all first | rfl | exact e1 | exact e2 | exact e3 | exact q1 | exact q2 | exact q3 | exact q4 | exact q5 | exact q6), by (with_unfolding_all first | rfl | exact e1 | exact e2 | exact e3 | exact q1 | exact q2 | exact q3 | exact q4 | exact q5 | exact q6), by (with_unfolding_all first | rfl | exact e1 | exact e2 | exact e3 | exact q1 | exact q2 | exact q3 | exact q4 | exact q5 | exact q6), by (with_unfolding_all first | rfl | exact e1 | exact e2 | exact e3 | exact q1 | exact q2 | exact q3 | exact q4 | exact q5 | exact q6), k + 1, _, _, rfl, by (clear hz h3 hc256 hpl hps hol hk2 hk1 h1 hrl' hyn hys hne hdl hyl hID hflat hfact hlen hr hx0 hx hd; lia), by (clear hz h3 hc256 hpl hps hol hk2 hk1 h1 hrl' hyn hys hne hdl hyl hID hflat hfact hlen hr hx0 hx hd; lia), by rw [hps]; (with_unfolding_all first | rfl | exact e1 | exact e2 | exact e3 | exact q1 | exact q2 | exact q3 | exact q4 | exact q5 | exact q6), by rw [hos, ← List.append_assoc]; (with_unfolding_all first | rfl | exact e1 | exact e2 | exact e3 | exact q1 | exact q2 | exact q3 | exact q4 | exact q5 | exact q6)⟩)
          · by_cases hend : k = r.1.length ∧ r.2 = true
            · obtain ⟨rfl, hsoft⟩ := hend
              have hc0 := row_soft hsoft hy
              have hpf := pos_full r
              have hpS := pos_soft r
              rw [if_pos hsoft] at hrl'
              have hcb : ((⟨#[61]⟩ : PySem.Str) != PySem.Str.ofString "=") = false := by decide +kernel
              have hoS : outK r (r.1.length + 1) = outK r r.1.length := by
                unfold outK
                rw [if_neg (by (clear hpS hpf hk hol hk2 hk1 h1 hrl' hyn hys hne hdl hyl hID hflat hfact hlen hr hx0 hx hd; lia)), if_neg (by rw [hsoft]; rintro ⟨_, h⟩; cases h), List.take_length, List.take_of_length_le (by lia)]
              repeat' (first
                | ((with_reducible show wpAny _ _ (eval (PySem.Expr.Name _ _) _) _ _ _); (first | ((with_reducible show wpAny _ _ (eval (PySem.Expr.Name (PySem.Str.ofString "len") _) _) _ _ _); refine name_b (by assumption) (by assumption) (by kernel_rfl) (by kernel_rfl) (g_len _) (b_len _) (by decide +kernel) ?_) | ((with_reducible show wpAny _ _ (eval (PySem.Expr.Name (PySem.Str.ofString "unquote") _) _) _ _ _); refine name_g (by assumption) (by assumption) (by kernel_rfl) (by kernel_rfl) (g_unq' _) (by decide +kernel) ?_) | ((with_reducible show wpAny _ _ (eval (PySem.Expr.Name (PySem.Str.ofString "hexdigits") _) _) _ _ _); refine name_g (by assumption) (by assumption) (by kernel_rfl) (by kernel_rfl) (g_hexd _) (by decide +kernel) ?_)); try dsimp only)
                | ((with_reducible show wpAny _ _ (loadName (envOf _ _ _ _ _) _) _ _ _); (with_reducible refine ldn (by assumption) (by (with_unfolding_all first | rfl | exact e1 | exact e2 | exact e3 | exact q1 | exact q2 | exact q3 | exact q4 | exact q5 | exact q6)) ?_ (by kernel_rfl!) (by kernel_rfl!)))
                | ((with_reducible show wpAny _ _ (eval (PySem.Expr.Name _ _) (envOf _ _ _ _ _)) _ _ _); (with_reducible refine ld (by assumption) (by (with_unfolding_all first | rfl | exact e1 | exact e2 | exact e3 | exact q1 | exact q2 | exact q3 | exact q4 | exact q5 | exact q6)) ?_ (by kernel_rfl!) (by kernel_rfl!) (by decide +kernel)))
                | ((with_reducible show wpAny _ _ (execs [_] _) _ _ _); refine cons_one ?_)
                | ((with_reducible show wpAny _ _ (execs (_ :: _) _) _ _ _); refine cons_gen fun _ _ _ => ?_)
                | ((rename GoN _ _ _ _ _ _ => hKN); (rename GoR _ _ => hKR); (with_reducible refine goN hKN ?_); clear hKN hKR)
                | ((rename GoN _ _ _ _ _ _ => hKN); (rename GoR _ _ => hKR); (with_reducible first | refine goR hKR ?_ | refine goCont hKR ?_); clear hKN hKR)
                | (exfalso; rename (_ != _) = true => hb; rw [hcb] at hb; cases hb; done)
                | (exfalso; rename _ ≠ ((y.length : Nat) : Int) => hz; (clear hpS hk hol hk2 hk1 h1 hne hdl hyl hID hflat hfact hlen hr hx0 hx hd; lia))
                | ((with_reducible show wpAny _ _ (subscriptTail _ _ (Value.str _ _) (Value.int _ _)) _ _ _); refine char_at _ rfl hc0 (by (clear hk hol hk2 hk1 h1 hne hdl hID hflat hfact hlen hr hx0 hx hd; lia)) ?_ (by with_unfolding_all rfl) (by intro _; with_unfolding_all rfl); try dsimp only)
                | (walk1; try dsimp only)
                | fail "no")
              all_goals first
                | (exfalso; rename ¬ ((_ : Int) < _) => hz; (clear hpS hk hol hk2 hk1 h1 hne hdl hyl hID hflat hfact hlen hr hx0 hx hd; lia))
                | (rename Fr _ _ _ _ => FZ
                   rename News _ _ _ _ => NZ
                   exact hW _ _ ⟨_, _, r.1.length + 2 - (r.1.length + 1), FZ, NZ, hg₃, ho₃, by (clear hpS hpf hk hol hk2 hk1 h1 hrl' hyn hys hne hdl hyl hID hflat hfact hlen hr hx0 hx hd; lia), rfl, by (with_unfolding_all first | rfl | exact e1 | exact e2 | exact e3 | exact q1 | exact q2 | exact q3 | exact q4 | exact q5 | exact q6), by (with_unfolding_all first | rfl | exact e1 | exact e2 | exact e3 | exact q1 | exact q2 | exact q3 | exact q4 | exact q5 | exact q6), by (with_unfolding_all first | rfl | exact e1 | exact e2 | exact e3 | exact q1 | exact q2 | exact q3 | exact q4 | exact q5 | exact q6), by (with_unfolding_all first | rfl | exact e1 | exact e2 | exact e3 | exact q1 | exact q2 | exact q3 | exact q4 | exact q5 | exact q6), r.1.length + 1, _, _, rfl, by (clear hpS hpf hk hol hk2 hk1 h1 hrl' hyn hys hne hdl hyl hID hflat hfact hlen hr hx0 hx hd; lia), fun _ => hsoft, by rw [hpS, ← hpf]; (with_unfolding_all first | rfl | exact e1 | exact e2 | exact e3 | exact q1 | exact q2 | exact q3 | exact q4 | exact q5 | exact q6), by rw [hoS]; (with_unfolding_all first | rfl | exact e1 | exact e2 | exact e3 | exact q1 | exact q2 | exact q3 | exact q4 | exact q5 | exact q6)⟩)
            · have hk' : k = r.1.length ∧ r.2 = false ∨ k = r.1.length + 1 ∧ r.2 = true := by
                rcases Nat.lt_or_ge k (r.1.length + 1) with q | q
                · have : k = r.1.length := by (clear hend hol hk2 h1 hrl' hyn hys hne hdl hyl hID hflat hfact hlen hr hx0 hx hd; lia)
                  refine .inl ⟨this, ?_⟩
                  cases hs : r.2 with
                  | false => rfl
                  | true => exact absurd ⟨this, hs⟩ hend
                · exact .inr ⟨by (clear hend hol hk2 h1 hrl' hyn hys hne hdl hyl hID hflat hfact hlen hr hx0 hx hd; lia), hk2 (by (clear hend hol hk2 h1 hrl' hyn hys hne hdl hyl hID hflat hfact hlen hr hx0 hx hd; lia))⟩
              have hpe : posU r k = y.cps.size := by
                rw [hys, hrl']
                rcases hk' with ⟨z1, z2⟩ | ⟨z1, z2⟩
                · rw [z1, pos_full, if_neg (by rw [z2]; decide)]; rfl
                · rw [z1, pos_soft, if_pos z2]
              have hoe := out_end hk'
              repeat' (first
                | ((with_reducible show wpAny _ _ (eval (PySem.Expr.Name _ _) _) _ _ _); (first | ((with_reducible show wpAny _ _ (eval (PySem.Expr.Name (PySem.Str.ofString "len") _) _) _ _ _); refine name_b (by assumption) (by assumption) (by kernel_rfl) (by kernel_rfl) (g_len _) (b_len _) (by decide +kernel) ?_) | ((with_reducible show wpAny _ _ (eval (PySem.Expr.Name (PySem.Str.ofString "unquote") _) _) _ _ _); refine name_g (by assumption) (by assumption) (by kernel_rfl) (by kernel_rfl) (g_unq' _) (by decide +kernel) ?_) | ((with_reducible show wpAny _ _ (eval (PySem.Expr.Name (PySem.Str.ofString "hexdigits") _) _) _ _ _); refine name_g (by assumption) (by assumption) (by kernel_rfl) (by kernel_rfl) (g_hexd _) (by decide +kernel) ?_)); try dsimp only)
                | ((with_reducible show wpAny _ _ (loadName (envOf _ _ _ _ _) _) _ _ _); (with_reducible refine ldn (by assumption) (by (with_unfolding_all first | rfl | exact e1 | exact e2 | exact e3 | exact q1 | exact q2 | exact q3 | exact q4 | exact q5 | exact q6)) ?_ (by kernel_rfl!) (by kernel_rfl!)))
                | ((with_reducible show wpAny _ _ (eval (PySem.Expr.Name _ _) (envOf _ _ _ _ _)) _ _ _); (with_reducible refine ld (by assumption) (by (with_unfolding_all first | rfl | exact e1 | exact e2 | exact e3 | exact q1 | exact q2 | exact q3 | exact q4 | exact q5 | exact q6)) ?_ (by kernel_rfl!) (by kernel_rfl!) (by decide +kernel)))
                | ((with_reducible show wpAny _ _ (execs [_] _) _ _ _); refine cons_one ?_)
                | ((with_reducible show wpAny _ _ (execs (_ :: _) _) _ _ _); refine cons_gen fun _ _ _ => ?_)
                | ((rename GoN _ _ _ _ _ _ => hKN); (rename GoR _ _ => hKR); (with_reducible refine goN hKN ?_); clear hKN hKR)
                | ((rename GoN _ _ _ _ _ _ => hKN); (rename GoR _ _ => hKR); (with_reducible first | refine goR hKR ?_ | refine goCont hKR ?_); clear hKN hKR)
                | (exfalso; rename (_ : Int) < _ => hz; (clear hk' hend hk hol hk2 hk1 h1 hne hdl hyl hID hflat hfact hlen hr hx0 hx hd; lia))
                | (walk1; try dsimp only)
                | fail "no")
              exact hP _ _ ⟨.inl rfl, _, news₁, F₃', N₃, hnI, hg₃.trans hg₁, ho₃.trans ho₁, by (with_unfolding_all first | rfl | exact e1 | exact e2 | exact e3 | exact q1 | exact q2 | exact q3 | exact q4 | exact q5 | exact q6), by (with_unfolding_all first | rfl | exact e1 | exact e2 | exact e3 | exact q1 | exact q2 | exact q3 | exact q4 | exact q5 | exact q6), _, by rw [hout, ← hoe]; (with_unfolding_all first | rfl | exact e1 | exact e2 | exact e3 | exact q1 | exact q2 | exact q3 | exact q4 | exact q5 | exact q6)⟩
      · rename Fr _ _ _ _ => FZ
        rename News _ _ _ _ => NZ
        rename (_ : Int) = 0 => hz
        have hys : y.cps.size = (encRow r).length := by rw [← hy, Array.length_toList]
        have hyn : y.length = y.cps.size := rfl
        have hoe := row_empty (r := r) (by (clear hdl hyl hID hflat hfact hlen hr hx0 hx hd; lia))
        exact hP _ _ ⟨.inr rfl, _, news₁, FZ, NZ, hnI, hg₁, ho₁, by (with_unfolding_all first | rfl | exact e1 | exact e2 | exact e3 | exact q1 | exact q2 | exact q3 | exact q4 | exact q5 | exact q6), by (with_unfolding_all first | rfl | exact e1 | exact e2 | exact e3 | exact q1 | exact q2 | exact q3 | exact q4 | exact q5 | exact q6), _, by rw [hout, hoe]; (with_unfolding_all first | rfl | exact e1 | exact e2 | exact e3 | exact q1 | exact q2 | exact q3 | exact q4 | exact q5 | exact q6)⟩
    · intro s' m' news' F' N' hg' ho' hJ
      obtain ⟨e1, e2, td, e3⟩ := hJ
      have hln : (strValues l).length = rl.length := by
        have h5 := congrArg List.length hrl1
        rw [← hl1] at h5
        simpa [strValues] using h5
      rw [hln, List.take_length] at e3
      obtain ⟨rz, hrz⟩ : ∃ rz, rows.getLast? = some rz := by
        cases q : rows.getLast? with
        | none => exact absurd (List.getLast?_eq_none_iff.mp q) hr
        | some z => exact ⟨z, rfl⟩
      have hrm : (rows.map encRow).getLast? = some (encRow rz) := by rw [List.getLast?_map, hrz]; rfl
      have hxn : joinE [13, 10] (rows.map encRow) ≠ [] := by
        rw [← he]
        intro q
        have := congrArg List.length q
        rw [Array.length_toList] at this
        exact hx0 this
      obtain ⟨h₁', g₁', d₁', k₁', os₁'⟩ := s'
      dsimp only at F' N' hg' ho' ⊢
      by_cases hz : (encRow rz).length = 0
      · have hsh : rl = rows.dropLast := by
          rw [← hrl3]; unfold shown
          rw [hrz, if_pos (by simp only [Option.map_some]; rw [hz])]
        have h6 : encRow rz = [] := List.eq_nil_of_length_eq_zero hz
        have h7 : rz.1 = [] := by
          rw [row_len] at hz
          cases q : rz.1 with
          | nil => rfl
          | cons a l =>
            rw [q, List.flatMap_cons, List.length_append] at hz
            have := encU_pos a
            (clear hxn hln hflat hfact hlen hr hx0 hx hd; lia)
        rw [hsh, dec_drop rows rz hrz h7] at e3
        have hlc : x.cps.toList.getLast? = some 10 := by
          rw [he]
          rw [h6] at hrm
          exact joinE_nl _ hrm hxn
        have hit := item_last hlc
        have hcr := crlf_yes
        rw [← hit] at hcr
        have F'' : Fr _ s.heap.objs.size _ _ := F'
        have N'' : News _ s.heap.objs.size _ _ := N'
        clear F' N'
        repeat' (first
          | ((with_reducible show wpAny _ _ (eval (PySem.Expr.Name _ _) _) _ _ _); (first | ((with_reducible show wpAny _ _ (eval (PySem.Expr.Name (PySem.Str.ofString "len") _) _) _ _ _); refine name_b (by assumption) (by assumption) (by kernel_rfl) (by kernel_rfl) (g_len _) (b_len _) (by decide +kernel) ?_) | ((with_reducible show wpAny _ _ (eval (PySem.Expr.Name (PySem.Str.ofString "unquote") _) _) _ _ _); refine name_g (by assumption) (by assumption) (by kernel_rfl) (by kernel_rfl) (g_unq' _) (by decide +kernel) ?_) | ((with_reducible show wpAny _ _ (eval (PySem.Expr.Name (PySem.Str.ofString "hexdigits") _) _) _ _ _); refine name_g (by assumption) (by assumption) (by kernel_rfl) (by kernel_rfl) (g_hexd _) (by decide +kernel) ?_)); try dsimp only)
          | ((with_reducible show wpAny _ _ (loadName (envOf _ _ _ _ _) _) _ _ _); (with_reducible refine ldn (by assumption) (by (with_unfolding_all first | rfl | exact e1 | exact e2 | exact e3 | exact q1 | exact q2 | exact q3 | exact q4 | exact q5 | exact q6)) ?_ (by kernel_rfl!) (by kernel_rfl!)))
          | ((with_reducible show wpAny _ _ (eval (PySem.Expr.Name _ _) (envOf _ _ _ _ _)) _ _ _); (with_reducible refine ld (by assumption) (by (with_unfolding_all first | rfl | exact e1 | exact e2 | exact e3 | exact q1 | exact q2 | exact q3 | exact q4 | exact q5 | exact q6)) ?_ (by kernel_rfl!) (by kernel_rfl!) (by decide +kernel)))
          | ((with_reducible show wpAny _ _ (execs [_] _) _ _ _); refine cons_one ?_)
          | ((with_reducible show wpAny _ _ (execs (_ :: _) _) _ _ _); refine cons_gen fun _ _ _ => ?_)
          | ((rename GoN _ _ _ _ _ _ => hKN); (rename GoR _ _ => hKR); (with_reducible refine goN hKN ?_); clear hKN hKR)
          | ((rename GoN _ _ _ _ _ _ => hKN); (rename GoR _ _ => hKR); (with_reducible first | refine goR hKR ?_ | refine goCont hKR ?_); clear hKN hKR)
          | (exfalso; rename List.isEmpty _ = true => hb; rw [hcr] at hb; cases hb; done)
          | (walk1; try dsimp only)
          | fail "no")
        all_goals exact ⟨rfl, F''.keep, hg', ho'⟩
      · have hsh : rl = rows := by
          rw [← hrl3]; unfold shown
          rw [hrz, if_neg (by simp only [Option.map_some]; intro q; exact hz (Option.some.inj q))]
        rw [hsh, dec_last rows rz hrz (hlast rz hrz)] at e3
        have hD : (⟨(decT rows ++ [10]).toArray⟩ : PySem.Str).length ≤ 100000 := by
          have h8 := hflat
          rw [hsh, dec_last rows rz hrz (hlast rz hrz)] at h8
          show (decT rows ++ [10]).toArray.size ≤ _
          simpa using h8
        have hne : encRow rz ≠ [] := fun q => hz (by rw [q]; rfl)
        obtain ⟨lc, hlc0⟩ : ∃ lc, (encRow rz).getLast? = some lc := by
          cases q : (encRow rz).getLast? with
          | none => exact absurd (List.getLast?_eq_none_iff.mp q) hne
          | some z => exact ⟨z, rfl⟩
        have hlc : x.cps.toList.getLast? = some lc := by
          rw [he, joinE_last _ _ _ hrm hne, hlc0]
        have hlr := encRow_last (hg rz (List.mem_of_getLast? hrz)) hlc0
        have hit := item_last hlc
        have hcr := crlf_no hlr.2.1 hlr.2.2
        rw [← hit] at hcr
        have hen := ends_nl (decT rows)
        have F'' : Fr _ s.heap.objs.size _ _ := F'
        have N'' : News _ s.heap.objs.size _ _ := N'
        clear F' N'
        repeat' (first
          | ((with_reducible show wpAny _ _ (eval (PySem.Expr.Name _ _) _) _ _ _); (first | ((with_reducible show wpAny _ _ (eval (PySem.Expr.Name (PySem.Str.ofString "len") _) _) _ _ _); refine name_b (by assumption) (by assumption) (by kernel_rfl) (by kernel_rfl) (g_len _) (b_len _) (by decide +kernel) ?_) | ((with_reducible show wpAny _ _ (eval (PySem.Expr.Name (PySem.Str.ofString "unquote") _) _) _ _ _); refine name_g (by assumption) (by assumption) (by kernel_rfl) (by kernel_rfl) (g_unq' _) (by decide +kernel) ?_) | ((with_reducible show wpAny _ _ (eval (PySem.Expr.Name (PySem.Str.ofString "hexdigits") _) _) _ _ _); refine name_g (by assumption) (by assumption) (by kernel_rfl) (by kernel_rfl) (g_hexd _) (by decide +kernel) ?_)); try dsimp only)
          | ((with_reducible show wpAny _ _ (loadName (envOf _ _ _ _ _) _) _ _ _); (with_reducible refine ldn (by assumption) (by (with_unfolding_all first | rfl | exact e1 | exact e2 | exact e3 | exact q1 | exact q2 | exact q3 | exact q4 | exact q5 | exact q6)) ?_ (by kernel_rfl!) (by kernel_rfl!)))
          | ((with_reducible show wpAny _ _ (eval (PySem.Expr.Name _ _) (envOf _ _ _ _ _)) _ _ _); (with_reducible refine ld (by assumption) (by (with_unfolding_all first | rfl | exact e1 | exact e2 | exact e3 | exact q1 | exact q2 | exact q3 | exact q4 | exact q5 | exact q6)) ?_ (by kernel_rfl!) (by kernel_rfl!) (by decide +kernel)))
          | ((with_reducible show wpAny _ _ (execs [_] _) _ _ _); refine cons_one ?_)
          | ((with_reducible show wpAny _ _ (execs (_ :: _) _) _ _ _); refine cons_gen fun _ _ _ => ?_)
          | ((rename GoN _ _ _ _ _ _ => hKN); (rename GoR _ _ => hKR); (with_reducible refine goN hKN ?_); clear hKN hKR)
          | ((rename GoN _ _ _ _ _ _ => hKN); (rename GoR _ _ => hKR); (with_reducible first | refine goR hKR ?_ | refine goCont hKR ?_); clear hKN hKR)
          | (exfalso; rename List.isEmpty _ = false => hb; rw [hcr] at hb; cases hb; done)
          | (exfalso; rename Txt.endswith _ _ = false => hb; rw [hen] at hb; cases hb; done)
          | (walk1; try dsimp only)
          | fail "no")
        all_goals (rename Fr _ _ _ _ => FZ; exact ⟨slice_last, FZ.keep, hg', ho'⟩)
end Mine
end
section
namespace Mine
open PySem.Builtin PySem.Builtin.Str
theorem slice_from {y : PySem.Str} {i : Int} {p : Nat} (hi : i = ((p : Nat) : Int)) (hp : p ≤ y.cps.size) : Txt.slice y (some i) none = ⟨(y.cps.toList.drop p).toArray⟩ := by
  subst hi
  have := slice_closes_from (x := y) (i := ((p : Nat) : Int)) ⟨by lia, by rw [Array.length_toList]; lia⟩
  rw [beq_iff_eq.mp this, show (((p : Nat) : Int)).toNat = p from by lia, Array.length_toList, show (((y.cps.size : Nat) : Int) - ((p : Nat) : Int)).toNat = y.cps.size - p from by lia, List.take_of_length_le (by rw [List.length_drop, Array.length_toList]; lia)]
theorem slice_but {y : PySem.Str} {i : Int} {p : Nat} (hi : i = ((p : Nat) : Int)) (hp : p < y.cps.size) : Txt.slice y (some i) (some (-1)) = ⟨((y.cps.toList.drop p).dropLast).toArray⟩ := by
  rw [slice_neg (some i) (by show 1 ≤ y.cps.size; lia)]
  rw [slice_take (p := p) (k := y.cps.size - 1 - p) hi (by show ((y.cps.size : Nat) : Int) - 1 = _; lia) (by lia), List.dropLast_eq_take, List.length_drop, Array.length_toList]
  congr 3
  lia
theorem blank_all : ((List.range 127).all fun c => (occurrences (PySem.Str.ofString " \t") ⟨#[c]⟩ 0 (PySem.Str.ofString " \t").length 1).isEmpty == !isBlank c) = true := by decide +kernel
theorem blank_occ {c : Nat} (h : c < 127) : (occurrences (PySem.Str.ofString " \t") ⟨#[c]⟩ 0 (PySem.Str.ofString " \t").length 1).isEmpty = !isBlank c := beq_iff_eq.mp (List.all_eq_true.mp blank_all c (List.mem_range.mpr h))
theorem last_drop {l : List Nat} {p c : Nat} (h : l.getLast? = some c) (hp : p < l.length) : (l.drop p).getLast? = some c := by
  rw [List.getLast?_drop, if_neg (by lia), h]
end Mine
end
section
namespace Mine
open PySem.Builtin.Re PySem.Builtin
theorem bind_benc {w : World} {s : Shared} (U : Up w s.heap) (x : PySem.Str) (t : Nat) (room : Int) (tr : Nat) (e : PySem.Str) (te : Nat) : BindsTo s (fn 28 (S "body_encode") (S "body_encode") 3 [] (.ref 104) .none .none (.str (S "cpy313.email.quoprimime") 1440) none (.ref 110) .none 0) ⟨[.str x t, .int room tr, .str e te], []⟩ [(S "body", .str x t), (S "maxlinelen", .int room tr), (S "eol", .str e te)] :=
  binds_peek U 104 (o104L w.params) (by kernel_rfl) fun S => by kernel_rfl
theorem g_bmap (w : World) : mgL w (PySem.Str.ofString "_QUOPRI_BODY_ENCODE_MAP") = some (.ref 100) := by kernel_rfl
theorem g_crlfq (w : World) : mgL w (PySem.Str.ofString "CRLF_quoprimime") = some (.str (S "\r\n") 393) := by kernel_rfl
theorem g_quote (w : World) : mgL w (PySem.Str.ofString "quote") = some (.ref 90) := by kernel_rfl
theorem items4_all : ((List.range 256).all fun c => match items4[c]? with | some (.str x _) => decide (x = bodyS c) | _ => false) = true := by decide +kernel
theorem items4_get (c : Nat) (hc : c < 256) : ∃ t, items4[c]? = some (.str (bodyS c) t) := by
  have := List.all_eq_true.mp items4_all c (List.mem_range.mpr hc)
  split at this
  · rename_i x t e
    exact ⟨t, by rw [e, of_decide_eq_true this]⟩
  · cases this
theorem badd_l {w : World} {A : Around} {E : Value → Shared → Prop} {s : Shared} {a b : List Nat} {t u : Tok} {Q : Value → Shared → Prop} (hsz : a.length + b.length ≤ 1000000) (h : ∀ t' k, Q (.str ⟨(a ++ b).toArray⟩ t') { s with toks := k }) :
    wpAny (model pw w) A (binaryOp .Add (.str ⟨a.toArray⟩ t) (.str ⟨b.toArray⟩ u)) Q E s := by
  refine add_str (fun t' k => ?_) ?_
  · have e : (⟨a.toArray⟩ : PySem.Str) ++ ⟨b.toArray⟩ = ⟨(a ++ b).toArray⟩ := by
      apply PySem.Str.ext'
      rw [PySem.Str.cps_append]
      simp
    rw [e]; exact h _ _
  · show a.toArray.size + b.toArray.size ≤ sizeLine
    rw [sizeLine_eq, List.size_toArray, List.size_toArray]
    lia
noncomputable def J8 (bd el : List Nat) (room tr te : Nat) (ls : List (List Nat)) (B a : Addr) (i : Nat) (m : PySem.Str → Option Value) (news : List (Addr × Obj)) : Prop :=
  (∃ tb, m (S "body") = some (.str ⟨bd.toArray⟩ tb)) ∧ m (S "eol") = some (.str ⟨el.toArray⟩ te) ∧ m (S "maxlinelen") = some (.int ((room : Nat) : Int) tr) ∧ (∃ t1, m (S "maxlinelen1") = some (.int (((room : Nat) : Int) - 1) t1)) ∧
  (∃ ts, m (S "soft_break") = some (.str ⟨([61] ++ el).toArray⟩ ts)) ∧ m (S "append") = some (.ref B) ∧ m (S "encoded_body") = some (.ref a) ∧
  ∃ items c, news = [(B, oB a), (a, oL items c)] ∧ ValsAre 0 items.toList ((ls.take i).flatMap (entries room el))
/-- inside the while of body_encode -/
noncomputable def JB (bd el : List Nat) (room tr te : Nat) (y : PySem.Str) (ty tb t1 ts tl : Tok) (B a I D : Addr) (o1 o2 : Obj) (pre : List (List Nat)) (n : Nat) (m : PySem.Str → Option Value) (news : List (Addr × Obj)) : Prop :=
  m (S "body") = some (.str ⟨bd.toArray⟩ tb) ∧ m (S "eol") = some (.str ⟨el.toArray⟩ te) ∧ m (S "maxlinelen") = some (.int ((room : Nat) : Int) tr) ∧ m (S "maxlinelen1") = some (.int (((room : Nat) : Int) - 1) t1) ∧
  m (S "soft_break") = some (.str ⟨([61] ++ el).toArray⟩ ts) ∧ m (S "append") = some (.ref B) ∧ m (S "encoded_body") = some (.ref a) ∧ m (S "line") = some (.str y ty) ∧ m (S "laststart") = some (.int (((y.length : Nat) : Int) - 1 - ((room : Nat) : Int)) tl) ∧
  ∃ p tp items c rows, n = y.cps.size - p ∧ (p < y.cps.size ∨ y.cps.size = 0 ∧ p = 0) ∧ m (S "start") = some (.int ((p : Nat) : Int) tp) ∧ news = [(I, o1), (D, o2), (B, oB a), (a, oL items c)] ∧
    ValsAre 0 items.toList (pre ++ rows) ∧ rows ++ (softs room (y.cps.toList.drop p)).1 = (softs room y.cps.toList).1 ∧ (softs room (y.cps.toList.drop p)).2 = (softs room y.cps.toList).2
theorem val0_eq {a b : List Nat} {t : Tok} (h : a = b) : Val 0 (.str ⟨a.toArray⟩ t) b := ⟨t, by rw [h]⟩
theorem two_ne {B a I : Addr} (h1 : B ≠ I) (h2 : a ≠ I) {o₁ o₂ : Obj} : ∀ p ∈ [(B, o₁), (a, o₂)], p.1 ≠ I := by
  intro p hp
  rcases List.mem_cons.mp hp with rfl | hp
  · exact h1
  · rw [List.mem_singleton.mp hp]; exact h2
theorem str_app (a b : List Nat) : (⟨a.toArray⟩ : PySem.Str) ++ ⟨b.toArray⟩ = ⟨(a ++ b).toArray⟩ := by
  apply PySem.Str.ext'
  rw [PySem.Str.cps_append]
  simp
theorem ga_app {w : World} {A : Around} {E : Value → Shared → Prop} {s : Shared} {h₀ : Heap} {L a : Addr} {m : PySem.Str → Option Value} {news : List (Addr × Obj)} {Q : Value → Shared → Prop} (F : Fr h₀ L s.heap m) (N : News h₀ L s.heap ((a, { cls := .type "list", data := .seq #[] }) :: news))
    (h : ∀ h' tk B, Fr h₀ L h' m → News h₀ L h' ((B, oB a) :: (a, oL #[] 0) :: news) → Q (.ref B) { s with heap := h', toks := tk }) : wpAny (model pw w) A (getAttr (.ref a) (PySem.Str.ofString "append") true) Q E s :=
  getAttr_append (xs := #[]) (k := 0) ((N _ (.head _)).1) fun tk => h _ tk _ (F.push _) (News.push F N _)
theorem app_callG {w : World} {A : Around} {E : Value → Shared → Prop} {s : Shared} {h₀ : Heap} {L B a : Addr} {m : PySem.Str → Option Value} {items : Array Value} {c : Nat} {v : Value} {Q : Value → Shared → Prop}
    (F : Fr h₀ L s.heap m) (N : News h₀ L s.heap [(B, oB a), (a, oL items c)]) (hB : B ≠ a) (hz : items.size ≤ 100000)
    (h : ∀ h' c', Fr h₀ L h' m → News h₀ L h' [(B, oB a), (a, oL (items.push v) c')] → Q .none { s with heap := h' }) : wpAny (model pw w) A (call (.ref B) [v]) Q E s := by
  have nB := N (B, oB a) (.head _)
  have na := N (a, oL items c) (.tail _ (.head _))
  refine call_bound nB.1 na.1 hz fun h' c' e1 e2 => h h' c' (fr_same F e2 na.2.1 na.2.2) ?_
  intro p hp
  simp only [List.mem_cons, List.not_mem_nil, or_false] at hp
  rcases hp with rfl | rfl
  · exact ⟨(e2.2 _ hB).trans nB.1, nB.2⟩
  · exact ⟨e1, na.2⟩
theorem app_textG {w : World} {A : Around} {E : Value → Shared → Prop} {s : Shared} {h₀ : Heap} {L : Addr} {items : Array Value} {c : Nat} {env : Env} {pos : Pos} {B a : Addr} {e : PySem.Expr} {Q : Value → Shared → Prop} (N : News h₀ L s.heap [(B, oB a), (a, oL items c)])
    (h : wpAny (model pw w) A (spliced (backTo pos (starEach [e] env))) (fun vs s₁ => s₁.heap.get? B = some (oB a) ∧ wpAny (model pw w) A (call (.ref B) vs) Q E s₁) E s)
    (he : starEach [e] env = (false, eval e env) :: starEach [] env) (hst : ((backTo pos ((false, eval e env) :: starEach [] env)).any (·.1) || ([] : List (Option PySem.Str × Sem Value)).any (·.1.isNone)) = false) :
    wpAny (model pw w) A (callWith pos (.ref B) [] (backTo pos (starEach [e] env)) []) Q E s := cw_bound h he hst
set_option maxHeartbeats 8000000 in
theorem benc_ok {w : World} {A : Around} {s : Shared} (U : Up w s.heap) (hd : A.depth + 4 < recursionLimit) (hA : A.handled = none) (x : PySem.Str) (t : Nat) (room : Nat) (tr : Nat) (hroom : 4 ≤ room) (hroom2 : room ≤ 8) (el : List Nat) (te : Nat) (hel : el = [10] ∨ el = [13, 10] ∨ el = [13]) (hx : x.cps.size ≤ 5000) (hx0 : x.cps.size ≠ 0) (hx256 : ∀ c ∈ x.cps, c < 256) :
    wpAny (model pw w) A (call (.ref 111) [.str x t, .int ((room : Nat) : Int) tr, .str ⟨el.toArray⟩ te]) (Back (.str ⟨(joinE el ((spl (x.cps.toList.flatMap fun c => (bodyS c).cps.toList)).flatMap (entries room el))).toArray⟩) s) (fun _ _ => False) s := by
  refine call_of2 28 111 110 (S "body_encode") (.ref 104) (.str (S "cpy313.email.quoprimime") 1440) _ _ U (by lia) (by kernel_rfl) ⟨o110L w.params, _, _, by kernel_rfl, rfl, rfl⟩ (bind_benc U x t _ tr _ te) (by kernel_rfl) (by kernel_rfl) (by kernel_rfl) (by kernel_rfl) (by decide +kernel) fun h₁ F U₁ => ?_
  have N : News s.heap s.heap.objs.size h₁ [] := News.nil
  have hlen : x.length ≤ 5000 := hx
  have hB : x.length ≠ 0 := hx0
  have hl : h₁.IsList 100 items4.toArray := ⟨_, up_get w U₁ (i := 100) (o := o100J w.params) (by kernel_rfl), rfl, _, rfl⟩
  have hflat : (x.cps.toList.flatMap fun c => (bodyS c).cps.toList).length ≤ 15000 := by
    have h3 := flat_len bodyS bodyS_len x.cps.toList
    have h4 : x.cps.toList.length = x.cps.size := Array.length_toList
    (clear hB hlen hx0 hel hroom2 hroom hd; lia)
  have hC : (x.cps.toList.flatMap fun c => (bodyS c).cps.toList).length ≤ sizeLine := by rw [sizeLine_eq]; exact Nat.le_trans hflat (by decide)
  have hbc : ∀ k ∈ (x.cps.toList.flatMap fun c => (bodyS c).cps.toList), k = 9 ∨ k = 10 ∨ k = 13 ∨ (32 ≤ k ∧ k < 127) := by
    intro k hk
    obtain ⟨c, hc, hk⟩ := List.mem_flatMap.mp hk
    exact bodyS_ok c (hx256 c (by simpa using hc)) k hk
  have hbne : (x.cps.toList.flatMap fun c => (bodyS c).cps.toList) ≠ [] := by
    intro q
    have h0 := List.flatMap_eq_nil_iff.mp q
    cases hz : x.cps.toList with
    | nil => exact hx0 (by rw [← Array.length_toList, hz]; rfl)
    | cons c r =>
      have h1 := h0 c (by rw [hz]; exact .head _)
      unfold bodyS hexS at h1
      split at h1 <;> cases h1
  generalize hb : (x.cps.toList.flatMap fun c => (bodyS c).cps.toList) = bd at hflat hC hbc hbne ⊢
  have hbl : (⟨bd.toArray⟩ : PySem.Str).length ≤ 15000 := by show bd.toArray.size ≤ _; simpa using hflat
  have he61 : PySem.Str.ofString "=" = ⟨[61].toArray⟩ := by decide +kernel
  have hell : el.length ≤ 2 := by rcases hel with q | q | q <;> rw [q] <;> decide
  repeat' (first
    | ((with_reducible show wpAny _ _ (eval (PySem.Expr.Name _ _) _) _ _ _); (first | ((with_reducible show wpAny _ _ (eval (PySem.Expr.Name (PySem.Str.ofString "len") _) _) _ _ _); refine name_b (by assumption) (by assumption) (by kernel_rfl) (by kernel_rfl) (g_len _) (b_len _) (by decide +kernel) ?_) | ((with_reducible show wpAny _ _ (eval (PySem.Expr.Name (PySem.Str.ofString "_QUOPRI_BODY_ENCODE_MAP") _) _) _ _ _); refine name_g (by assumption) (by assumption) (by kernel_rfl) (by kernel_rfl) (g_bmap _) (by decide +kernel) ?_) | ((with_reducible show wpAny _ _ (eval (PySem.Expr.Name (PySem.Str.ofString "CRLF_quoprimime") _) _) _ _ _); refine name_g (by assumption) (by assumption) (by kernel_rfl) (by kernel_rfl) (g_crlfq _) (by decide +kernel) ?_) | ((with_reducible show wpAny _ _ (eval (PySem.Expr.Name (PySem.Str.ofString "quote") _) _) _ _ _); refine name_g (by assumption) (by assumption) (by kernel_rfl) (by kernel_rfl) (g_quote _) (by decide +kernel) ?_)); try dsimp only)
    | (((with_reducible show wpAny _ _ (getMethod (Value.str _ _) _ _) _ _ _); with_reducible refine m_trn ?_); try dsimp only)
    | ((with_reducible show wpAny _ _ (execs [_] _) _ _ _); refine cons_one ?_)
    | ((with_reducible show wpAny _ _ (execs (_ :: _) _) _ _ _); refine cons_gen fun _ _ _ => ?_)
    | ((rename GoN _ _ _ _ _ _ => hKN); (rename GoR _ _ => hKR); (with_reducible refine goN hKN ?_); clear hKN hKR)
    | ((rename GoN _ _ _ _ _ _ => hKN); (rename GoR _ _ => hKR); (with_reducible first | refine goR hKR ?_ | refine goCont hKR ?_); clear hKN hKR)
    | (exfalso; (clear hell hbl hbne hC hflat hlen hx0 hx hel hd; lia))
    | ((with_reducible show wpAny _ _ (binaryOp Operator.Add (Value.str _ _) (Value.str _ _)) _ _ _); (try rw [he61]); refine badd_l (by simp; (clear hbl hbne hC hflat hB hlen hx0 hx hel hroom2 hroom hd; lia)) ?_; intro _ _; try dsimp only)
    | ((with_reducible show wpAny _ _ (getAttr (Value.ref _) _ _) _ _ _); rename Fr _ _ _ _ => FX; rename News _ _ _ _ => NX; refine ga_app FX NX ?_; clear FX NX; intro h₅ k₅ B₅ FY NY; try dsimp only)
    | ((with_reducible show wpAny _ _ (exec (PySem.Stmt.For _ _ _ _ _) _) _ _ _); refine wpAny_For ?_ (by intro _; rfl))
    | ((with_reducible show wpAny _ _ (call (Value.builtin "str.translate") _) _ _ _); refine call_trn bodyS (vs := items4) hl hx256 items4_get hB (by rw [hb]; exact hC) ?_; rw [hb]; intro _ _; try dsimp only)
    | ((fail_if_success (with_reducible show wpAny _ _ (pyIter _) _ _ _)); walk1; try dsimp only)
    | fail "no")
  rename_i l h₂ k₂ hl1 hl2 hl3 hl4 F₂ N₂
  rename News _ _ _ [(B₅, oB _), (_, oL #[] 0)] => NE
  have hls : ∃ ls : List (List Nat), (Txt.lines ⟨bd.toArray⟩).map (·.cps.toList) = ls := ⟨_, rfl⟩
  obtain ⟨ls, hls⟩ := hls
  have hlsd : ls = dle (spl bd) := by
    rw [← hls]
    refine lines_law _ fun i hi => lb_ok (hbc _ ?_)
    have hi' : i < bd.length := by simpa using hi
    have e1 : Array.getD bd.toArray i 0 = bd[i] := by simp [Array.getD, hi']
    rw [e1]
    exact List.getElem_mem hi'
  have hBE : B₅ ≠ _ := News.twoPlaces NE (.head _) (.tail _ (.head _)) (by intro q; have h := congrArg Obj.cls q; simp [oB, oL] at h)
  have hDE := Nat.ne_of_gt (Heap.lt_size (NE _ (.tail _ (.head _))).1)
  refine for_list (vs := strValues l) (c := 0) (by kernel_rfl) (by kernel_rfl) (by exact hA) F₂ N₂ (J8 bd el room tr te ls B₅ _) ⟨⟨_, by with_unfolding_all rfl⟩, by with_unfolding_all rfl, by with_unfolding_all rfl, ⟨_, by with_unfolding_all rfl⟩, ⟨_, by with_unfolding_all rfl⟩, by with_unfolding_all rfl, by with_unfolding_all rfl, #[], 0, rfl, .nil⟩ ?_ ?_
  · rintro i v m₁ news₁ I o ⟨h₁', g₁', d₁', k₁', os₁'⟩ hv ⟨⟨tb, q1⟩, q2, q3, ⟨t1, q4⟩, ⟨ts, q5⟩, q6, q7, items, c, rfl, hvals⟩ hnI hID F₁ N₁ hg₁ ho₁ P hP
    have hIB : B₅ ≠ I := hnI _ (.head _)
    have hIE := hnI _ (.tail _ (.head _))
    dsimp only at hg₁ ho₁ F₁ N₁ hIE
    have F₁' : Fr _ s.heap.objs.size _ _ := F₁
    clear F₁
    obtain ⟨y, ty, e, rfl, hy, hei, hyl, hyc⟩ : ∃ y ty e, v = .str y ty ∧ y.cps.toList = e ∧ ls[i]? = some e ∧ y.length ≤ 15000 ∧ (∀ c ∈ y.cps.toList, c < 127) := by
      unfold strValues at hv
      rw [List.getElem?_map] at hv
      cases hli : l[i]? with
      | none => rw [hli] at hv; cases hv
      | some p =>
        rw [hli] at hv
        have h5 : (l.map (·.1))[i]? = some p.1 := by rw [List.getElem?_map, hli]; rfl
        have h6 : p.1 ∈ l.map (·.1) := List.mem_of_getElem? h5
        have h7 : ls[i]? = some p.1.cps.toList := by rw [← hls, List.getElem?_map, ← hl1, h5]; rfl
        refine ⟨p.1, p.2, p.1.cps.toList, (Option.some.inj hv).symm, rfl, h7, Nat.le_trans (hl3 _ h6) hbl, fun c hc => ?_⟩
        have h8 : p.1.cps.toList ∈ ls := List.mem_of_getElem? h7
        rw [hlsd] at h8
        have := hbc c (spl_mem bd.length bd (Nat.le_refl _) _ (dle_sub _ _ h8) c hc)
        (clear hIE hIB hID hDE hBE hfact hell hbl hbne hC hflat hB hlen hx0 hx hel hroom2 hroom hd; lia)
    repeat' (first
      | ((with_reducible show wpAny _ _ (eval (PySem.Expr.Name _ _) _) _ _ _); (first | ((with_reducible show wpAny _ _ (eval (PySem.Expr.Name (PySem.Str.ofString "len") _) _) _ _ _); refine name_b (by assumption) (by assumption) (by kernel_rfl) (by kernel_rfl) (g_len _) (b_len _) (by decide +kernel) ?_) | ((with_reducible show wpAny _ _ (eval (PySem.Expr.Name (PySem.Str.ofString "_QUOPRI_BODY_ENCODE_MAP") _) _) _ _ _); refine name_g (by assumption) (by assumption) (by kernel_rfl) (by kernel_rfl) (g_bmap _) (by decide +kernel) ?_) | ((with_reducible show wpAny _ _ (eval (PySem.Expr.Name (PySem.Str.ofString "CRLF_quoprimime") _) _) _ _ _); refine name_g (by assumption) (by assumption) (by kernel_rfl) (by kernel_rfl) (g_crlfq _) (by decide +kernel) ?_) | ((with_reducible show wpAny _ _ (eval (PySem.Expr.Name (PySem.Str.ofString "quote") _) _) _ _ _); refine name_g (by assumption) (by assumption) (by kernel_rfl) (by kernel_rfl) (g_quote _) (by decide +kernel) ?_)); try dsimp only)
      | (((with_reducible show wpAny _ _ (getMethod (Value.str _ _) _ _) _ _ _); with_reducible refine m_trn ?_); try dsimp only)
      | ((with_reducible show wpAny _ _ (loadName (envOf _ _ _ _ _) _) _ _ _); (with_reducible refine ldn (by assumption) (by (with_unfolding_all first | rfl | exact q1 | exact q2 | exact q3 | exact q4 | exact q5 | exact q6 | exact q7 | exact r1 | exact r2 | exact r3 | exact r4 | exact r5 | exact r6 | exact r7 | exact r8 | exact r9 | exact r10)) ?_ (by kernel_rfl!) (by kernel_rfl!)))
      | ((with_reducible show wpAny _ _ (eval (PySem.Expr.Name _ _) (envOf _ _ _ _ _)) _ _ _); (with_reducible refine ld (by assumption) (by (with_unfolding_all first | rfl | exact q1 | exact q2 | exact q3 | exact q4 | exact q5 | exact q6 | exact q7 | exact r1 | exact r2 | exact r3 | exact r4 | exact r5 | exact r6 | exact r7 | exact r8 | exact r9 | exact r10)) ?_ (by kernel_rfl!) (by kernel_rfl!) (by decide +kernel)))
      | ((with_reducible show wpAny _ _ (execs [_] _) _ _ _); refine cons_one ?_)
      | ((with_reducible show wpAny _ _ (execs (_ :: _) _) _ _ _); refine cons_gen fun _ _ _ => ?_)
      | ((rename GoN _ _ _ _ _ _ => hKN); (rename GoR _ _ => hKR); (with_reducible refine goN hKN ?_); clear hKN hKR)
      | ((rename GoN _ _ _ _ _ _ => hKN); (rename GoR _ _ => hKR); (with_reducible first | refine goR hKR ?_ | refine goCont hKR ?_); clear hKN hKR)
      | ((fail_if_success (with_reducible show wpAny _ _ (exec (PySem.Stmt.While _ _ _ _) _) _ _ _)); walk1; try dsimp only)
      | fail "no")
    case' _ => skip
    · rename Fr _ _ _ _ => FW
      rename News _ _ _ _ => NW
      have hyn : y.length = y.cps.size := rfl
      have hpre : ((ls.take i).flatMap (entries room el)).length ≤ 60000 := by
        rw [hlsd]
        have := pre_len hroom el bd i
        (clear hyn hyl hIE hIB hID hDE hBE hfact hell hbl hbne hC hB hlen hx0 hx hel hroom2 hroom hd; lia)
      have hsl := softs_len hroom y.cps.toList.length y.cps.toList (Nat.le_refl _)
      rw [Array.length_toList] at hsl
      clear F₁' N₁
      refine while_rule (JB bd el room tr te y _ _ _ _ _ B₅ _ I _ o _ ((ls.take i).flatMap (entries room el))) (n₀ := y.cps.size) FW NW ⟨by (with_unfolding_all first | rfl | exact q1 | exact q2 | exact q3 | exact q4 | exact q5 | exact q6 | exact q7 | exact r1 | exact r2 | exact r3 | exact r4 | exact r5 | exact r6 | exact r7 | exact r8 | exact r9 | exact r10), by (with_unfolding_all first | rfl | exact q1 | exact q2 | exact q3 | exact q4 | exact q5 | exact q6 | exact q7 | exact r1 | exact r2 | exact r3 | exact r4 | exact r5 | exact r6 | exact r7 | exact r8 | exact r9 | exact r10), by (with_unfolding_all first | rfl | exact q1 | exact q2 | exact q3 | exact q4 | exact q5 | exact q6 | exact q7 | exact r1 | exact r2 | exact r3 | exact r4 | exact r5 | exact r6 | exact r7 | exact r8 | exact r9 | exact r10), by (with_unfolding_all first | rfl | exact q1 | exact q2 | exact q3 | exact q4 | exact q5 | exact q6 | exact q7 | exact r1 | exact r2 | exact r3 | exact r4 | exact r5 | exact r6 | exact r7 | exact r8 | exact r9 | exact r10), by (with_unfolding_all first | rfl | exact q1 | exact q2 | exact q3 | exact q4 | exact q5 | exact q6 | exact q7 | exact r1 | exact r2 | exact r3 | exact r4 | exact r5 | exact r6 | exact r7 | exact r8 | exact r9 | exact r10), by (with_unfolding_all first | rfl | exact q1 | exact q2 | exact q3 | exact q4 | exact q5 | exact q6 | exact q7 | exact r1 | exact r2 | exact r3 | exact r4 | exact r5 | exact r6 | exact r7 | exact r8 | exact r9 | exact r10), by (with_unfolding_all first | rfl | exact q1 | exact q2 | exact q3 | exact q4 | exact q5 | exact q6 | exact q7 | exact r1 | exact r2 | exact r3 | exact r4 | exact r5 | exact r6 | exact r7 | exact r8 | exact r9 | exact r10), by (with_unfolding_all first | rfl | exact q1 | exact q2 | exact q3 | exact q4 | exact q5 | exact q6 | exact q7 | exact r1 | exact r2 | exact r3 | exact r4 | exact r5 | exact r6 | exact r7 | exact r8 | exact r9 | exact r10), by (with_unfolding_all first | rfl | exact q1 | exact q2 | exact q3 | exact q4 | exact q5 | exact q6 | exact q7 | exact r1 | exact r2 | exact r3 | exact r4 | exact r5 | exact r6 | exact r7 | exact r8 | exact r9 | exact r10), 0, _, items, c, [], rfl, by (clear hsl hpre hIE hIB hID hDE hBE hfact hell hbl hbne hC hflat hB hlen hx0 hx hel hroom2 hroom hd; lia), by (with_unfolding_all first | rfl | exact q1 | exact q2 | exact q3 | exact q4 | exact q5 | exact q6 | exact q7 | exact r1 | exact r2 | exact r3 | exact r4 | exact r5 | exact r6 | exact r7 | exact r8 | exact r9 | exact r10), rfl, by rw [List.append_nil]; exact hvals, rfl, rfl⟩ ?_
      rintro n m₂ news₂ ⟨h₃, g₃, d₃, k₃, os₃⟩ hg₃ ho₃ F₃ N₃ ⟨r1, r2, r3, r4, r5, r6, r7, r8, r9, p, tp, items', c', rows, rfl, hp, r10, rfl, hvals', hrows, hrest⟩ W hW
      dsimp only at hg₃ ho₃ F₃ N₃
      have F₃' : Fr _ s.heap.objs.size _ _ := F₃
      clear F₃ FW NW
      have hvl := hvals'.length
      rw [Array.length_toList, List.length_append] at hvl
      have hrl : rows.length ≤ y.cps.size := by
        have := congrArg List.length hrows
        rw [List.length_append] at this
        (clear hvl hp hpre hyn hyl hIE hIB hID hDE hBE hfact hell hbl hbne hC hflat hB hlen hx0 hx hel hroom2 hroom hd; lia)
      have hisz : items'.size ≤ 100000 := by (clear hp hsl hIE hIB hID hDE hBE hfact hell hbl hbne hC hflat hB hlen hx0 hx hel hroom2 hroom hd; lia)
      rcases Nat.lt_or_ge (p + room) y.cps.size with hq | hq
      · have hdl : (y.cps.toList.drop p).length = y.cps.size - p := by rw [List.length_drop, Array.length_toList]
        have hcut := softs_cut hroom (e := y.cps.toList.drop p) (by (clear hisz hrl hvl hp hpre hyn hyl hIE hIB hID hDE hBE hfact hell hbl hbne hC hflat hB hlen hx0 hx hel hroom2 hroom hd; lia))
        rw [List.drop_drop] at hcut
        rw [hcut] at hrows hrest
        dsimp only at hrows hrest
        have hc1 := getD_drop (y := y) (p := p) (k := room - 3) (by (clear hdl hisz hrl hvl hp hsl hpre hyn hyl hIE hIB hID hDE hBE hfact hell hbl hbne hC hflat hB hlen hx0 hx hel hd; lia))
        have hc2 := getD_drop (y := y) (p := p) (k := room - 2) (by (clear hdl hisz hrl hvl hp hsl hpre hyn hyl hIE hIB hID hDE hBE hfact hell hbl hbne hC hflat hB hlen hx0 hx hel hd; lia))
        by_cases hz1 : (y.cps.toList.drop p).getD (room - 3) 0 = 61
        · have hcn : cutN room (y.cps.toList.drop p) = room - 3 := by unfold cutN; rw [if_pos hz1]
          rw [hz1] at hc1
          have hb1 : ((⟨#[61]⟩ : PySem.Str) == PySem.Str.ofString "=") = true := by decide +kernel
          have hsl1 : Txt.slice y (some ((p : Nat) : Int)) (some (((p : Nat) : Int) + (((room : Nat) : Int) - 1) - 1)) = ⟨((y.cps.toList.drop p).take (room - 3) ++ [61]).toArray⟩ := by
            rw [slice_take (p := p) (k := room - 3 + 1) rfl (by (clear hcn hz1 hdl hq hisz hrl hvl hp hsl hpre hyn hyl hIE hIB hID hDE hBE hfact hell hbl hbne hC hflat hB hlen hx0 hx hel hd; lia)) (by (clear hcn hz1 hdl hisz hrl hvl hp hsl hpre hyn hyl hIE hIB hID hDE hBE hfact hell hbl hbne hC hflat hB hlen hx0 hx hel hd; lia)), take_snoc hz1 (by (clear hcn hz1 hisz hrl hvl hp hsl hpre hyn hyl hIE hIB hID hDE hBE hfact hell hbl hbne hC hflat hB hlen hx0 hx hel hd; lia))]
          rw [hcn] at hrows hrest
          repeat' (first
            | ((with_reducible show wpAny _ _ (eval (PySem.Expr.Name _ _) _) _ _ _); (first | ((with_reducible show wpAny _ _ (eval (PySem.Expr.Name (PySem.Str.ofString "len") _) _) _ _ _); refine name_b (by assumption) (by assumption) (by kernel_rfl) (by kernel_rfl) (g_len _) (b_len _) (by decide +kernel) ?_) | ((with_reducible show wpAny _ _ (eval (PySem.Expr.Name (PySem.Str.ofString "_QUOPRI_BODY_ENCODE_MAP") _) _) _ _ _); refine name_g (by assumption) (by assumption) (by kernel_rfl) (by kernel_rfl) (g_bmap _) (by decide +kernel) ?_) | ((with_reducible show wpAny _ _ (eval (PySem.Expr.Name (PySem.Str.ofString "CRLF_quoprimime") _) _) _ _ _); refine name_g (by assumption) (by assumption) (by kernel_rfl) (by kernel_rfl) (g_crlfq _) (by decide +kernel) ?_) | ((with_reducible show wpAny _ _ (eval (PySem.Expr.Name (PySem.Str.ofString "quote") _) _) _ _ _); refine name_g (by assumption) (by assumption) (by kernel_rfl) (by kernel_rfl) (g_quote _) (by decide +kernel) ?_)); try dsimp only)
            | (((with_reducible show wpAny _ _ (getMethod (Value.str _ _) _ _) _ _ _); with_reducible refine m_trn ?_); try dsimp only)
            | ((with_reducible show wpAny _ _ (loadName (envOf _ _ _ _ _) _) _ _ _); (with_reducible refine ldn (by assumption) (by (with_unfolding_all first | rfl | exact q1 | exact q2 | exact q3 | exact q4 | exact q5 | exact q6 | exact q7 | exact r1 | exact r2 | exact r3 | exact r4 | exact r5 | exact r6 | exact r7 | exact r8 | exact r9 | exact r10)) ?_ (by kernel_rfl!) (by kernel_rfl!)))
            | ((with_reducible show wpAny _ _ (eval (PySem.Expr.Name _ _) (envOf _ _ _ _ _)) _ _ _); (with_reducible refine ld (by assumption) (by (with_unfolding_all first | rfl | exact q1 | exact q2 | exact q3 | exact q4 | exact q5 | exact q6 | exact q7 | exact r1 | exact r2 | exact r3 | exact r4 | exact r5 | exact r6 | exact r7 | exact r8 | exact r9 | exact r10)) ?_ (by kernel_rfl!) (by kernel_rfl!) (by decide +kernel)))
            | ((with_reducible show wpAny _ _ (execs [_] _) _ _ _); refine cons_one ?_)
            | ((with_reducible show wpAny _ _ (execs (_ :: _) _) _ _ _); refine cons_gen fun _ _ _ => ?_)
            | ((rename GoN _ _ _ _ _ _ => hKN); (rename GoR _ _ => hKR); (with_reducible refine goN hKN ?_); clear hKN hKR)
            | ((rename GoN _ _ _ _ _ _ => hKN); (rename GoR _ _ => hKR); (with_reducible first | refine goR hKR ?_ | refine goCont hKR ?_); clear hKN hKR)
            | (exfalso; rename (_ == _) = false => hb; rw [hb1] at hb; cases hb; done)
            | ((with_reducible show wpAny _ _ (subscriptTail _ _ (Value.str _ _) (Value.int _ _)) _ _ _); refine char_at (p + (room - 3)) (by (clear hcn hz1 hdl hq hisz hrl hvl hp hsl hpre hyn hyl hIE hIB hID hDE hBE hfact hell hbl hbne hC hflat hB hlen hx0 hx hel hd; lia)) hc1 (by (clear hcn hz1 hdl hq hisz hrl hvl hp hsl hpre hIE hIB hID hDE hBE hfact hell hbl hbne hC hflat hB hlen hx0 hx hel hroom2 hroom hd; lia)) ?_ (by with_unfolding_all rfl) (by intro _; with_unfolding_all rfl); try dsimp only)
            | (exfalso; rename ¬ ((_ : Int) ≤ _) => hb; (clear hcn hz1 hdl hisz hrl hvl hp hsl hpre hyl hIE hIB hID hDE hBE hfact hell hbl hbne hC hflat hB hlen hx0 hx hel hroom2 hroom hd; lia))
            | ((with_reducible show wpAny _ _ (callWith _ (Value.ref _) _ _ _) _ _ _); rename News _ _ _ _ => NX; refine app_textN NX ?_ (by rfl) (by rfl))
            | ((with_reducible show _ ∧ wpAny _ _ (call (Value.ref _) _) _ _ _); rename News _ _ _ _ => NX; refine ⟨(NX _ (.tail _ (.tail _ (.head _)))).1, ?_⟩)
            | ((with_reducible show wpAny _ _ (call (Value.ref _) _) _ _ _); rename Fr _ _ _ _ => FX; rename News _ _ _ _ => NX; refine app_call FX NX hIE.symm hDE hBE hisz ?_; clear FX NX; intro h₇ c₇ FY NY; try dsimp only)
            | (walk1; try dsimp only)
            | fail "no")
          rename Fr _ _ _ _ => FZ
          rename News _ _ _ _ => NZ
          exact hW _ _ ⟨_, _, y.cps.size - (p + (room - 3)), FZ, NZ, hg₃, ho₃, by (clear hcn hz1 hdl hisz hrl hvl hp hsl hpre hyn hyl hIE hIB hID hDE hBE hfact hell hbl hbne hC hflat hB hlen hx0 hx hel hd; lia), by (with_unfolding_all first | rfl | exact q1 | exact q2 | exact q3 | exact q4 | exact q5 | exact q6 | exact q7 | exact r1 | exact r2 | exact r3 | exact r4 | exact r5 | exact r6 | exact r7 | exact r8 | exact r9 | exact r10), by (with_unfolding_all first | rfl | exact q1 | exact q2 | exact q3 | exact q4 | exact q5 | exact q6 | exact q7 | exact r1 | exact r2 | exact r3 | exact r4 | exact r5 | exact r6 | exact r7 | exact r8 | exact r9 | exact r10), by (with_unfolding_all first | rfl | exact q1 | exact q2 | exact q3 | exact q4 | exact q5 | exact q6 | exact q7 | exact r1 | exact r2 | exact r3 | exact r4 | exact r5 | exact r6 | exact r7 | exact r8 | exact r9 | exact r10), by (with_unfolding_all first | rfl | exact q1 | exact q2 | exact q3 | exact q4 | exact q5 | exact q6 | exact q7 | exact r1 | exact r2 | exact r3 | exact r4 | exact r5 | exact r6 | exact r7 | exact r8 | exact r9 | exact r10), by (with_unfolding_all first | rfl | exact q1 | exact q2 | exact q3 | exact q4 | exact q5 | exact q6 | exact q7 | exact r1 | exact r2 | exact r3 | exact r4 | exact r5 | exact r6 | exact r7 | exact r8 | exact r9 | exact r10), by (with_unfolding_all first | rfl | exact q1 | exact q2 | exact q3 | exact q4 | exact q5 | exact q6 | exact q7 | exact r1 | exact r2 | exact r3 | exact r4 | exact r5 | exact r6 | exact r7 | exact r8 | exact r9 | exact r10), by (with_unfolding_all first | rfl | exact q1 | exact q2 | exact q3 | exact q4 | exact q5 | exact q6 | exact q7 | exact r1 | exact r2 | exact r3 | exact r4 | exact r5 | exact r6 | exact r7 | exact r8 | exact r9 | exact r10), by (with_unfolding_all first | rfl | exact q1 | exact q2 | exact q3 | exact q4 | exact q5 | exact q6 | exact q7 | exact r1 | exact r2 | exact r3 | exact r4 | exact r5 | exact r6 | exact r7 | exact r8 | exact r9 | exact r10), by (with_unfolding_all first | rfl | exact q1 | exact q2 | exact q3 | exact q4 | exact q5 | exact q6 | exact q7 | exact r1 | exact r2 | exact r3 | exact r4 | exact r5 | exact r6 | exact r7 | exact r8 | exact r9 | exact r10), p + (room - 3), _, _, _, rows ++ [(y.cps.toList.drop p).take (room - 3) ++ [61]], rfl, by (clear hz1 hdl hisz hrl hvl hp hsl hpre hIE hIB hID hDE hBE hfact hell hbl hbne hC hflat hB hlen hx0 hx hel hd; lia), by rw [show ((p + (room - 3) : Nat) : Int) = ((p : Nat) : Int) + (((room : Nat) : Int) - 1) - 2 from by (clear hcn hz1 hdl hq hisz hrl hvl hp hsl hpre hyn hyl hIE hIB hID hDE hBE hfact hell hbl hbne hC hflat hB hlen hx0 hx hel hd; lia)]; (with_unfolding_all first | rfl | exact q1 | exact q2 | exact q3 | exact q4 | exact q5 | exact q6 | exact q7 | exact r1 | exact r2 | exact r3 | exact r4 | exact r5 | exact r6 | exact r7 | exact r8 | exact r9 | exact r10), rfl, by rw [Array.toList_push, ← List.append_assoc]; exact hvals'.snoc ⟨_, by rw [hsl1]⟩, by rw [List.append_assoc]; exact hrows, hrest⟩
        · have hbf1 : ((⟨#[(y.cps.toList.drop p).getD (room - 3) 0]⟩ : PySem.Str) == PySem.Str.ofString "=") = false := by
            rw [he61]
            have : ¬ ((⟨#[(y.cps.toList.drop p).getD (room - 3) 0]⟩ : PySem.Str) = ⟨[61].toArray⟩) := fun q => hz1 (by
              have := congrArg (fun z => z.cps.toList) q
              simpa using this)
            simpa using this
          have hbg1 : ((⟨#[(y.cps.toList.drop p).getD (room - 3) 0]⟩ : PySem.Str) == ⟨#[61]⟩) = false := by rw [he61] at hbf1; exact hbf1
          by_cases hz2 : (y.cps.toList.drop p).getD (room - 2) 0 = 61
          · have hcn : cutN room (y.cps.toList.drop p) = room - 2 := by unfold cutN; rw [if_neg hz1, if_pos hz2]
            rw [hz2] at hc2
            have hb1 : ((⟨#[61]⟩ : PySem.Str) == PySem.Str.ofString "=") = true := by decide +kernel
            have hsl1 : Txt.slice y (some ((p : Nat) : Int)) (some (((p : Nat) : Int) + (((room : Nat) : Int) - 1))) = ⟨((y.cps.toList.drop p).take (room - 2) ++ [61]).toArray⟩ := by
              rw [slice_take (p := p) (k := room - 2 + 1) rfl (by (clear hcn hz2 hz1 hdl hq hisz hrl hvl hp hsl hpre hyn hyl hIE hIB hID hDE hBE hfact hell hbl hbne hC hflat hB hlen hx0 hx hel hd; lia)) (by (clear hcn hz2 hz1 hdl hisz hrl hvl hp hsl hpre hyn hyl hIE hIB hID hDE hBE hfact hell hbl hbne hC hflat hB hlen hx0 hx hel hd; lia)), take_snoc hz2 (by (clear hcn hz2 hisz hrl hvl hp hsl hpre hyn hyl hIE hIB hID hDE hBE hfact hell hbl hbne hC hflat hB hlen hx0 hx hel hd; lia))]
            have hb2 : ((⟨#[61]⟩ : PySem.Str) == ⟨#[61]⟩) = true := by decide +kernel
            rw [hcn] at hrows hrest
            generalize hgd : (y.cps.toList.drop p).getD (room - 3) 0 = cc1 at hc1 hbf1 hz1 hbg1
            repeat' (first
              | ((with_reducible show wpAny _ _ (eval (PySem.Expr.Name _ _) _) _ _ _); (first | ((with_reducible show wpAny _ _ (eval (PySem.Expr.Name (PySem.Str.ofString "len") _) _) _ _ _); refine name_b (by assumption) (by assumption) (by kernel_rfl) (by kernel_rfl) (g_len _) (b_len _) (by decide +kernel) ?_) | ((with_reducible show wpAny _ _ (eval (PySem.Expr.Name (PySem.Str.ofString "_QUOPRI_BODY_ENCODE_MAP") _) _) _ _ _); refine name_g (by assumption) (by assumption) (by kernel_rfl) (by kernel_rfl) (g_bmap _) (by decide +kernel) ?_) | ((with_reducible show wpAny _ _ (eval (PySem.Expr.Name (PySem.Str.ofString "CRLF_quoprimime") _) _) _ _ _); refine name_g (by assumption) (by assumption) (by kernel_rfl) (by kernel_rfl) (g_crlfq _) (by decide +kernel) ?_) | ((with_reducible show wpAny _ _ (eval (PySem.Expr.Name (PySem.Str.ofString "quote") _) _) _ _ _); refine name_g (by assumption) (by assumption) (by kernel_rfl) (by kernel_rfl) (g_quote _) (by decide +kernel) ?_)); try dsimp only)
              | (((with_reducible show wpAny _ _ (getMethod (Value.str _ _) _ _) _ _ _); with_reducible refine m_trn ?_); try dsimp only)
              | ((with_reducible show wpAny _ _ (loadName (envOf _ _ _ _ _) _) _ _ _); (with_reducible refine ldn (by assumption) (by (with_unfolding_all first | rfl | exact q1 | exact q2 | exact q3 | exact q4 | exact q5 | exact q6 | exact q7 | exact r1 | exact r2 | exact r3 | exact r4 | exact r5 | exact r6 | exact r7 | exact r8 | exact r9 | exact r10)) ?_ (by kernel_rfl!) (by kernel_rfl!)))
              | ((with_reducible show wpAny _ _ (eval (PySem.Expr.Name _ _) (envOf _ _ _ _ _)) _ _ _); (with_reducible refine ld (by assumption) (by (with_unfolding_all first | rfl | exact q1 | exact q2 | exact q3 | exact q4 | exact q5 | exact q6 | exact q7 | exact r1 | exact r2 | exact r3 | exact r4 | exact r5 | exact r6 | exact r7 | exact r8 | exact r9 | exact r10)) ?_ (by kernel_rfl!) (by kernel_rfl!) (by decide +kernel)))
              | ((with_reducible show wpAny _ _ (execs [_] _) _ _ _); refine cons_one ?_)
              | ((with_reducible show wpAny _ _ (execs (_ :: _) _) _ _ _); refine cons_gen fun _ _ _ => ?_)
              | ((rename GoN _ _ _ _ _ _ => hKN); (rename GoR _ _ => hKR); (with_reducible refine goN hKN ?_); clear hKN hKR)
              | ((rename GoN _ _ _ _ _ _ => hKN); (rename GoR _ _ => hKR); (with_reducible first | refine goR hKR ?_ | refine goCont hKR ?_); clear hKN hKR)
              | (exfalso; rename (_ == _) = false => hb; (first | rw [hb1] at hb | rw [hb2] at hb); cases hb; done)
              | (exfalso; rename (_ == _) = true => hb; (first | rw [hbf1] at hb | rw [hbg1] at hb); cases hb; done)
              | (exfalso; rename ¬ ((_ : Int) ≤ _) => hb; (clear hz1 hgd hcn hz2 hdl hisz hrl hvl hp hsl hpre hyl hIE hIB hID hDE hBE hfact hell hbl hbne hC hflat hB hlen hx0 hx hel hroom2 hroom hd; lia))
              | ((with_reducible show wpAny _ _ (subscriptTail _ _ (Value.str _ _) (Value.int _ _)) _ _ _); (first | refine char_at (p + (room - 3)) (by (clear hz1 hgd hcn hz2 hdl hq hisz hrl hvl hp hsl hpre hyn hyl hIE hIB hID hDE hBE hfact hell hbl hbne hC hflat hB hlen hx0 hx hel hd; lia)) hc1 (by (clear hz1 hgd hcn hz2 hdl hq hisz hrl hvl hp hsl hpre hIE hIB hID hDE hBE hfact hell hbl hbne hC hflat hB hlen hx0 hx hel hroom2 hroom hd; lia)) ?_ (by with_unfolding_all rfl) (by intro _; with_unfolding_all rfl) | refine char_at (p + (room - 2)) (by (clear hgd hcn hz2 hdl hq hisz hrl hvl hp hsl hpre hyn hyl hIE hIB hID hDE hBE hfact hell hbl hbne hC hflat hB hlen hx0 hx hel hd; lia)) hc2 (by (clear hz1 hgd hcn hz2 hdl hq hisz hrl hvl hp hsl hpre hIE hIB hID hDE hBE hfact hell hbl hbne hC hflat hB hlen hx0 hx hel hroom2 hroom hd; lia)) ?_ (by with_unfolding_all rfl) (by intro _; with_unfolding_all rfl)); try dsimp only)
              | ((with_reducible show wpAny _ _ (callWith _ (Value.ref _) _ _ _) _ _ _); rename News _ _ _ _ => NX; refine app_textN NX ?_ (by rfl) (by rfl))
              | ((with_reducible show _ ∧ wpAny _ _ (call (Value.ref _) _) _ _ _); rename News _ _ _ _ => NX; refine ⟨(NX _ (.tail _ (.tail _ (.head _)))).1, ?_⟩)
              | ((with_reducible show wpAny _ _ (call (Value.ref _) _) _ _ _); rename Fr _ _ _ _ => FX; rename News _ _ _ _ => NX; refine app_call FX NX hIE.symm hDE hBE hisz ?_; clear FX NX; intro h₇ c₇ FY NY; try dsimp only)
              | (walk1; try dsimp only)
              | fail "no")
            rename Fr _ _ _ _ => FZ
            rename News _ _ _ _ => NZ
            exact hW _ _ ⟨_, _, y.cps.size - (p + (room - 2)), FZ, NZ, hg₃, ho₃, by (clear hgd hcn hz2 hdl hisz hrl hvl hp hsl hpre hyn hyl hIE hIB hID hDE hBE hfact hell hbl hbne hC hflat hB hlen hx0 hx hel hd; lia), by (with_unfolding_all first | rfl | exact q1 | exact q2 | exact q3 | exact q4 | exact q5 | exact q6 | exact q7 | exact r1 | exact r2 | exact r3 | exact r4 | exact r5 | exact r6 | exact r7 | exact r8 | exact r9 | exact r10), by (with_unfolding_all first | rfl | exact q1 | exact q2 | exact q3 | exact q4 | exact q5 | exact q6 | exact q7 | exact r1 | exact r2 | exact r3 | exact r4 | exact r5 | exact r6 | exact r7 | exact r8 | exact r9 | exact r10), by (with_unfolding_all first | rfl | exact q1 | exact q2 | exact q3 | exact q4 | exact q5 | exact q6 | exact q7 | exact r1 | exact r2 | exact r3 | exact r4 | exact r5 | exact r6 | exact r7 | exact r8 | exact r9 | exact r10), by (with_unfolding_all first | rfl | exact q1 | exact q2 | exact q3 | exact q4 | exact q5 | exact q6 | exact q7 | exact r1 | exact r2 | exact r3 | exact r4 | exact r5 | exact r6 | exact r7 | exact r8 | exact r9 | exact r10), by (with_unfolding_all first | rfl | exact q1 | exact q2 | exact q3 | exact q4 | exact q5 | exact q6 | exact q7 | exact r1 | exact r2 | exact r3 | exact r4 | exact r5 | exact r6 | exact r7 | exact r8 | exact r9 | exact r10), by (with_unfolding_all first | rfl | exact q1 | exact q2 | exact q3 | exact q4 | exact q5 | exact q6 | exact q7 | exact r1 | exact r2 | exact r3 | exact r4 | exact r5 | exact r6 | exact r7 | exact r8 | exact r9 | exact r10), by (with_unfolding_all first | rfl | exact q1 | exact q2 | exact q3 | exact q4 | exact q5 | exact q6 | exact q7 | exact r1 | exact r2 | exact r3 | exact r4 | exact r5 | exact r6 | exact r7 | exact r8 | exact r9 | exact r10), by (with_unfolding_all first | rfl | exact q1 | exact q2 | exact q3 | exact q4 | exact q5 | exact q6 | exact q7 | exact r1 | exact r2 | exact r3 | exact r4 | exact r5 | exact r6 | exact r7 | exact r8 | exact r9 | exact r10), by (with_unfolding_all first | rfl | exact q1 | exact q2 | exact q3 | exact q4 | exact q5 | exact q6 | exact q7 | exact r1 | exact r2 | exact r3 | exact r4 | exact r5 | exact r6 | exact r7 | exact r8 | exact r9 | exact r10), p + (room - 2), _, _, _, rows ++ [(y.cps.toList.drop p).take (room - 2) ++ [61]], rfl, by (clear hgd hz2 hdl hisz hrl hvl hp hsl hpre hIE hIB hID hDE hBE hfact hell hbl hbne hC hflat hB hlen hx0 hx hel hd; lia), by rw [show ((p + (room - 2) : Nat) : Int) = ((p : Nat) : Int) + (((room : Nat) : Int) - 1) - 1 from by (clear hgd hcn hz2 hdl hq hisz hrl hvl hp hsl hpre hyn hyl hIE hIB hID hDE hBE hfact hell hbl hbne hC hflat hB hlen hx0 hx hel hd; lia)]; (with_unfolding_all first | rfl | exact q1 | exact q2 | exact q3 | exact q4 | exact q5 | exact q6 | exact q7 | exact r1 | exact r2 | exact r3 | exact r4 | exact r5 | exact r6 | exact r7 | exact r8 | exact r9 | exact r10), rfl, by rw [Array.toList_push, ← List.append_assoc]; exact hvals'.snoc ⟨_, by rw [hsl1]⟩, by rw [List.append_assoc]; exact hrows, hrest⟩
          · have hcn : cutN room (y.cps.toList.drop p) = room - 1 := by unfold cutN; rw [if_neg hz1, if_neg hz2]
            have hbf2 : ((⟨#[(y.cps.toList.drop p).getD (room - 2) 0]⟩ : PySem.Str) == PySem.Str.ofString "=") = false := by
              rw [he61]
              have : ¬ ((⟨#[(y.cps.toList.drop p).getD (room - 2) 0]⟩ : PySem.Str) = ⟨[61].toArray⟩) := fun q => hz2 (by
                have := congrArg (fun z => z.cps.toList) q
                simpa using this)
              simpa using this
            have hbg2 : ((⟨#[(y.cps.toList.drop p).getD (room - 2) 0]⟩ : PySem.Str) == ⟨#[61]⟩) = false := by rw [he61] at hbf2; exact hbf2
            have hsl1 : Txt.slice y (some ((p : Nat) : Int)) (some (((p : Nat) : Int) + (((room : Nat) : Int) - 1))) = ⟨((y.cps.toList.drop p).take (room - 1)).toArray⟩ := by
              rw [slice_take (p := p) (k := room - 1) rfl (by (clear hcn hz2 hz1 hdl hq hisz hrl hvl hp hsl hpre hyn hyl hIE hIB hID hDE hBE hfact hell hbl hbne hC hflat hB hlen hx0 hx hel hd; lia)) (by (clear hcn hz2 hz1 hdl hisz hrl hvl hp hsl hpre hyn hyl hIE hIB hID hDE hBE hfact hell hbl hbne hC hflat hB hlen hx0 hx hel hd; lia))]
            rw [hcn] at hrows hrest
            generalize hgd : (y.cps.toList.drop p).getD (room - 3) 0 = cc1 at hc1 hbf1 hz1 hbg1
            generalize hgd2 : (y.cps.toList.drop p).getD (room - 2) 0 = cc2 at hc2 hbf2 hz2 hbg2
            repeat' (first
              | ((with_reducible show wpAny _ _ (eval (PySem.Expr.Name _ _) _) _ _ _); (first | ((with_reducible show wpAny _ _ (eval (PySem.Expr.Name (PySem.Str.ofString "len") _) _) _ _ _); refine name_b (by assumption) (by assumption) (by kernel_rfl) (by kernel_rfl) (g_len _) (b_len _) (by decide +kernel) ?_) | ((with_reducible show wpAny _ _ (eval (PySem.Expr.Name (PySem.Str.ofString "_QUOPRI_BODY_ENCODE_MAP") _) _) _ _ _); refine name_g (by assumption) (by assumption) (by kernel_rfl) (by kernel_rfl) (g_bmap _) (by decide +kernel) ?_) | ((with_reducible show wpAny _ _ (eval (PySem.Expr.Name (PySem.Str.ofString "CRLF_quoprimime") _) _) _ _ _); refine name_g (by assumption) (by assumption) (by kernel_rfl) (by kernel_rfl) (g_crlfq _) (by decide +kernel) ?_) | ((with_reducible show wpAny _ _ (eval (PySem.Expr.Name (PySem.Str.ofString "quote") _) _) _ _ _); refine name_g (by assumption) (by assumption) (by kernel_rfl) (by kernel_rfl) (g_quote _) (by decide +kernel) ?_)); try dsimp only)
              | (((with_reducible show wpAny _ _ (getMethod (Value.str _ _) _ _) _ _ _); with_reducible refine m_trn ?_); try dsimp only)
              | ((with_reducible show wpAny _ _ (loadName (envOf _ _ _ _ _) _) _ _ _); (with_reducible refine ldn (by assumption) (by (with_unfolding_all first | rfl | exact q1 | exact q2 | exact q3 | exact q4 | exact q5 | exact q6 | exact q7 | exact r1 | exact r2 | exact r3 | exact r4 | exact r5 | exact r6 | exact r7 | exact r8 | exact r9 | exact r10)) ?_ (by kernel_rfl!) (by kernel_rfl!)))
              | ((with_reducible show wpAny _ _ (eval (PySem.Expr.Name _ _) (envOf _ _ _ _ _)) _ _ _); (with_reducible refine ld (by assumption) (by (with_unfolding_all first | rfl | exact q1 | exact q2 | exact q3 | exact q4 | exact q5 | exact q6 | exact q7 | exact r1 | exact r2 | exact r3 | exact r4 | exact r5 | exact r6 | exact r7 | exact r8 | exact r9 | exact r10)) ?_ (by kernel_rfl!) (by kernel_rfl!) (by decide +kernel)))
              | ((with_reducible show wpAny _ _ (execs [_] _) _ _ _); refine cons_one ?_)
              | ((with_reducible show wpAny _ _ (execs (_ :: _) _) _ _ _); refine cons_gen fun _ _ _ => ?_)
              | ((rename GoN _ _ _ _ _ _ => hKN); (rename GoR _ _ => hKR); (with_reducible refine goN hKN ?_); clear hKN hKR)
              | ((rename GoN _ _ _ _ _ _ => hKN); (rename GoR _ _ => hKR); (with_reducible first | refine goR hKR ?_ | refine goCont hKR ?_); clear hKN hKR)
              | (exfalso; rename (_ == _) = true => hb; (first | rw [hbf1] at hb | rw [hbf2] at hb | rw [hbg1] at hb | rw [hbg2] at hb); cases hb; done)
              | (exfalso; rename ¬ ((_ : Int) ≤ _) => hb; (clear hz2 hgd2 hz1 hgd hcn hdl hisz hrl hvl hp hsl hpre hyl hIE hIB hID hDE hBE hfact hell hbl hbne hC hflat hB hlen hx0 hx hel hroom2 hroom hd; lia))
              | ((with_reducible show wpAny _ _ (subscriptTail _ _ (Value.str _ _) (Value.int _ _)) _ _ _); (first | refine char_at (p + (room - 3)) (by (clear hz2 hgd2 hz1 hgd hcn hdl hq hisz hrl hvl hp hsl hpre hyn hyl hIE hIB hID hDE hBE hfact hell hbl hbne hC hflat hB hlen hx0 hx hel hd; lia)) hc1 (by (clear hz2 hgd2 hz1 hgd hcn hdl hq hisz hrl hvl hp hsl hpre hIE hIB hID hDE hBE hfact hell hbl hbne hC hflat hB hlen hx0 hx hel hroom2 hroom hd; lia)) ?_ (by with_unfolding_all rfl) (by intro _; with_unfolding_all rfl) | refine char_at (p + (room - 2)) (by (clear hz2 hgd2 hz1 hgd hcn hdl hq hisz hrl hvl hp hsl hpre hyn hyl hIE hIB hID hDE hBE hfact hell hbl hbne hC hflat hB hlen hx0 hx hel hd; lia)) hc2 (by (clear hz2 hgd2 hz1 hgd hcn hdl hq hisz hrl hvl hp hsl hpre hIE hIB hID hDE hBE hfact hell hbl hbne hC hflat hB hlen hx0 hx hel hroom2 hroom hd; lia)) ?_ (by with_unfolding_all rfl) (by intro _; with_unfolding_all rfl)); try dsimp only)
              | ((with_reducible show wpAny _ _ (binaryOp Operator.Add (Value.str _ _) (Value.str _ _)) _ _ _); rw [he61, hsl1]; refine badd_l (by simp; lia) ?_; intro _ _; try dsimp only)
              | ((with_reducible show wpAny _ _ (callWith _ (Value.ref _) _ _ _) _ _ _); rename News _ _ _ _ => NX; refine app_textN NX ?_ (by rfl) (by rfl))
              | ((with_reducible show _ ∧ wpAny _ _ (call (Value.ref _) _) _ _ _); rename News _ _ _ _ => NX; refine ⟨(NX _ (.tail _ (.tail _ (.head _)))).1, ?_⟩)
              | ((with_reducible show wpAny _ _ (call (Value.ref _) _) _ _ _); rename Fr _ _ _ _ => FX; rename News _ _ _ _ => NX; refine app_call FX NX hIE.symm hDE hBE hisz ?_; clear FX NX; intro h₇ c₇ FY NY; try dsimp only)
              | (walk1; try dsimp only)
              | fail "no")
            rename Fr _ _ _ _ => FZ
            rename News _ _ _ _ => NZ
            exact hW _ _ ⟨_, _, y.cps.size - (p + (room - 1)), FZ, NZ, hg₃, ho₃, by (clear hgd2 hgd hcn hdl hisz hrl hvl hp hsl hpre hyn hyl hIE hIB hID hDE hBE hfact hell hbl hbne hC hflat hB hlen hx0 hx hel hd; lia), by (with_unfolding_all first | rfl | exact q1 | exact q2 | exact q3 | exact q4 | exact q5 | exact q6 | exact q7 | exact r1 | exact r2 | exact r3 | exact r4 | exact r5 | exact r6 | exact r7 | exact r8 | exact r9 | exact r10), by (with_unfolding_all first | rfl | exact q1 | exact q2 | exact q3 | exact q4 | exact q5 | exact q6 | exact q7 | exact r1 | exact r2 | exact r3 | exact r4 | exact r5 | exact r6 | exact r7 | exact r8 | exact r9 | exact r10), by (with_unfolding_all first | rfl | exact q1 | exact q2 | exact q3 | exact q4 | exact q5 | exact q6 | exact q7 | exact r1 | exact r2 | exact r3 | exact r4 | exact r5 | exact r6 | exact r7 | exact r8 | exact r9 | exact r10), by (with_unfolding_all first | rfl | exact q1 | exact q2 | exact q3 | exact q4 | exact q5 | exact q6 | exact q7 | exact r1 | exact r2 | exact r3 | exact r4 | exact r5 | exact r6 | exact r7 | exact r8 | exact r9 | exact r10), by (with_unfolding_all first | rfl | exact q1 | exact q2 | exact q3 | exact q4 | exact q5 | exact q6 | exact q7 | exact r1 | exact r2 | exact r3 | exact r4 | exact r5 | exact r6 | exact r7 | exact r8 | exact r9 | exact r10), by (with_unfolding_all first | rfl | exact q1 | exact q2 | exact q3 | exact q4 | exact q5 | exact q6 | exact q7 | exact r1 | exact r2 | exact r3 | exact r4 | exact r5 | exact r6 | exact r7 | exact r8 | exact r9 | exact r10), by (with_unfolding_all first | rfl | exact q1 | exact q2 | exact q3 | exact q4 | exact q5 | exact q6 | exact q7 | exact r1 | exact r2 | exact r3 | exact r4 | exact r5 | exact r6 | exact r7 | exact r8 | exact r9 | exact r10), by (with_unfolding_all first | rfl | exact q1 | exact q2 | exact q3 | exact q4 | exact q5 | exact q6 | exact q7 | exact r1 | exact r2 | exact r3 | exact r4 | exact r5 | exact r6 | exact r7 | exact r8 | exact r9 | exact r10), by (with_unfolding_all first | rfl | exact q1 | exact q2 | exact q3 | exact q4 | exact q5 | exact q6 | exact q7 | exact r1 | exact r2 | exact r3 | exact r4 | exact r5 | exact r6 | exact r7 | exact r8 | exact r9 | exact r10), p + (room - 1), _, _, _, rows ++ [(y.cps.toList.drop p).take (room - 1) ++ [61]], rfl, by (clear hgd2 hgd hdl hisz hrl hvl hp hsl hpre hIE hIB hID hDE hBE hfact hell hbl hbne hC hflat hB hlen hx0 hx hel hd; lia), by rw [show ((p + (room - 1) : Nat) : Int) = ((p : Nat) : Int) + (((room : Nat) : Int) - 1) from by (clear hgd2 hgd hcn hdl hq hisz hrl hvl hp hsl hpre hyn hyl hIE hIB hID hDE hBE hfact hell hbl hbne hC hflat hB hlen hx0 hx hel hd; lia)]; (with_unfolding_all first | rfl | exact q1 | exact q2 | exact q3 | exact q4 | exact q5 | exact q6 | exact q7 | exact r1 | exact r2 | exact r3 | exact r4 | exact r5 | exact r6 | exact r7 | exact r8 | exact r9 | exact r10), rfl, by rw [Array.toList_push, ← List.append_assoc]; exact hvals'.snoc ⟨_, by first | rfl | rw [hsl1]; exact congrArg (fun z => Value.str z _) (str_app _ [61])⟩, by rw [List.append_assoc]; exact hrows, hrest⟩
      · have hdl : (y.cps.toList.drop p).length = y.cps.size - p := by rw [List.length_drop, Array.length_toList]
        have hse := softs_end (room := room) (e := y.cps.toList.drop p) (by (clear hisz hrl hvl hp hpre hyn hyl hIE hIB hID hDE hBE hfact hell hbl hbne hC hflat hB hlen hx0 hx hel hroom2 hroom hd; lia))
        rw [hse] at hrows hrest
        dsimp only at hrows hrest
        rw [List.append_nil] at hrows
        have hent : entries room el y.cps.toList = rows ++ [lastEnt room el (y.cps.toList.drop p)] := by
          unfold entries
          rw [← hrows, ← hrest]
        have htk : (ls.take (i + 1)).flatMap (entries room el) = (ls.take i).flatMap (entries room el) ++ (rows ++ [lastEnt room el (y.cps.toList.drop p)]) := by
          rw [List.take_add_one, hei, Option.toList_some, List.flatMap_append, List.flatMap_cons, List.flatMap_nil, List.append_nil, ← hy, hent]
        rcases hyg : y.cps.toList.getLast? with _ | c
        · have hy0 : y.cps.size = 0 := by
            rw [← Array.length_toList, List.getLast?_eq_none_iff.mp hyg]; rfl
          have hsf := slice_from (y := y) (i := ((p : Nat) : Int)) (p := p) rfl (by (clear hdl hq hisz hrl hvl hsl hpre hyn hyl hIE hIB hID hDE hBE hfact hell hbl hbne hC hflat hB hlen hx0 hx hel hroom2 hroom hd; lia))
          have hle : lastEnt room el (y.cps.toList.drop p) = y.cps.toList.drop p := by
            have : y.cps.toList = [] := List.getLast?_eq_none_iff.mp hyg
            rw [this]; simp [lastEnt]
          repeat' (first
            | ((with_reducible show wpAny _ _ (eval (PySem.Expr.Name _ _) _) _ _ _); (first | ((with_reducible show wpAny _ _ (eval (PySem.Expr.Name (PySem.Str.ofString "len") _) _) _ _ _); refine name_b (by assumption) (by assumption) (by kernel_rfl) (by kernel_rfl) (g_len _) (b_len _) (by decide +kernel) ?_) | ((with_reducible show wpAny _ _ (eval (PySem.Expr.Name (PySem.Str.ofString "_QUOPRI_BODY_ENCODE_MAP") _) _) _ _ _); refine name_g (by assumption) (by assumption) (by kernel_rfl) (by kernel_rfl) (g_bmap _) (by decide +kernel) ?_) | ((with_reducible show wpAny _ _ (eval (PySem.Expr.Name (PySem.Str.ofString "CRLF_quoprimime") _) _) _ _ _); refine name_g (by assumption) (by assumption) (by kernel_rfl) (by kernel_rfl) (g_crlfq _) (by decide +kernel) ?_) | ((with_reducible show wpAny _ _ (eval (PySem.Expr.Name (PySem.Str.ofString "quote") _) _) _ _ _); refine name_g (by assumption) (by assumption) (by kernel_rfl) (by kernel_rfl) (g_quote _) (by decide +kernel) ?_)); try dsimp only)
            | (((with_reducible show wpAny _ _ (getMethod (Value.str _ _) _ _) _ _ _); with_reducible refine m_trn ?_); try dsimp only)
            | ((with_reducible show wpAny _ _ (loadName (envOf _ _ _ _ _) _) _ _ _); (with_reducible refine ldn (by assumption) (by (with_unfolding_all first | rfl | exact q1 | exact q2 | exact q3 | exact q4 | exact q5 | exact q6 | exact q7 | exact r1 | exact r2 | exact r3 | exact r4 | exact r5 | exact r6 | exact r7 | exact r8 | exact r9 | exact r10)) ?_ (by kernel_rfl!) (by kernel_rfl!)))
            | ((with_reducible show wpAny _ _ (eval (PySem.Expr.Name _ _) (envOf _ _ _ _ _)) _ _ _); (with_reducible refine ld (by assumption) (by (with_unfolding_all first | rfl | exact q1 | exact q2 | exact q3 | exact q4 | exact q5 | exact q6 | exact q7 | exact r1 | exact r2 | exact r3 | exact r4 | exact r5 | exact r6 | exact r7 | exact r8 | exact r9 | exact r10)) ?_ (by kernel_rfl!) (by kernel_rfl!) (by decide +kernel)))
            | ((with_reducible show wpAny _ _ (execs [_] _) _ _ _); refine cons_one ?_)
            | ((with_reducible show wpAny _ _ (execs (_ :: _) _) _ _ _); refine cons_gen fun _ _ _ => ?_)
            | ((rename GoN _ _ _ _ _ _ => hKN); (rename GoR _ _ => hKR); (with_reducible refine goN hKN ?_); clear hKN hKR)
            | ((rename GoN _ _ _ _ _ _ => hKN); (rename GoR _ _ => hKR); (with_reducible first | refine goR hKR ?_ | refine goCont hKR ?_); clear hKN hKR)
            | (exfalso; rename (_ : Int) ≤ _ => hb; (clear hdl hisz hrl hvl hp hsl hpre hyl hIE hIB hID hDE hBE hfact hell hbl hbne hC hflat hB hlen hx0 hx hel hroom2 hroom hd; lia))
            | (exfalso; rename (_ : Int) ≠ 0 => hb; (clear htie hfact hdl hq hisz hrl hvl hp hsl hpre hyl hIE hIB hID hDE hBE hell hbl hbne hC hflat hB hlen hx0 hx hel hroom2 hroom hd; lia))
            | ((with_reducible show wpAny _ _ (callWith _ (Value.ref _) _ _ _) _ _ _); rename News _ _ _ _ => NX; refine app_textN NX ?_ (by rfl) (by rfl))
            | ((with_reducible show _ ∧ wpAny _ _ (call (Value.ref _) _) _ _ _); rename News _ _ _ _ => NX; refine ⟨(NX _ (.tail _ (.tail _ (.head _)))).1, ?_⟩)
            | ((with_reducible show wpAny _ _ (call (Value.ref _) _) _ _ _); rename Fr _ _ _ _ => FX; rename News _ _ _ _ => NX; refine app_call FX NX hIE.symm hDE hBE hisz ?_; clear FX NX; intro h₇ c₇ FY NY; try dsimp only)
            | (walk1; try dsimp only)
            | fail "no")
          rename Fr _ _ _ _ => FZ
          rename News _ _ _ _ => NZ
          exact hP _ _ ⟨.inl rfl, _, _, FZ, NZ, two_ne hIB hIE, hg₃.trans hg₁, ho₃.trans ho₁, ⟨_, by (with_unfolding_all first | rfl | exact q1 | exact q2 | exact q3 | exact q4 | exact q5 | exact q6 | exact q7 | exact r1 | exact r2 | exact r3 | exact r4 | exact r5 | exact r6 | exact r7 | exact r8 | exact r9 | exact r10)⟩, by (with_unfolding_all first | rfl | exact q1 | exact q2 | exact q3 | exact q4 | exact q5 | exact q6 | exact q7 | exact r1 | exact r2 | exact r3 | exact r4 | exact r5 | exact r6 | exact r7 | exact r8 | exact r9 | exact r10), by (with_unfolding_all first | rfl | exact q1 | exact q2 | exact q3 | exact q4 | exact q5 | exact q6 | exact q7 | exact r1 | exact r2 | exact r3 | exact r4 | exact r5 | exact r6 | exact r7 | exact r8 | exact r9 | exact r10), ⟨_, by (with_unfolding_all first | rfl | exact q1 | exact q2 | exact q3 | exact q4 | exact q5 | exact q6 | exact q7 | exact r1 | exact r2 | exact r3 | exact r4 | exact r5 | exact r6 | exact r7 | exact r8 | exact r9 | exact r10)⟩, ⟨_, by (with_unfolding_all first | rfl | exact q1 | exact q2 | exact q3 | exact q4 | exact q5 | exact q6 | exact q7 | exact r1 | exact r2 | exact r3 | exact r4 | exact r5 | exact r6 | exact r7 | exact r8 | exact r9 | exact r10)⟩, by (with_unfolding_all first | rfl | exact q1 | exact q2 | exact q3 | exact q4 | exact q5 | exact q6 | exact q7 | exact r1 | exact r2 | exact r3 | exact r4 | exact r5 | exact r6 | exact r7 | exact r8 | exact r9 | exact r10), by (with_unfolding_all first | rfl | exact q1 | exact q2 | exact q3 | exact q4 | exact q5 | exact q6 | exact q7 | exact r1 | exact r2 | exact r3 | exact r4 | exact r5 | exact r6 | exact r7 | exact r8 | exact r9 | exact r10), _, _, rfl, by rw [htk, hle, Array.toList_push, ← List.append_assoc]; exact hvals'.snoc ⟨_, by rw [hsf]⟩⟩
        · have hy0 : y.cps.size ≠ 0 := by
            intro q
            have hnil : y.cps.toList = [] := List.eq_nil_of_length_eq_zero (by rw [Array.length_toList]; exact q)
            rw [hnil] at hyg
            cases hyg
          have hc127 : c < 127 := hyc c (List.mem_of_getLast? hyg)
          have hit := item_last hyg
          have hsf := slice_from (y := y) (i := ((p : Nat) : Int)) (p := p) rfl (by (clear hc127 hdl hq hisz hrl hvl hsl hpre hIE hIB hID hDE hBE hfact hell hbl hbne hC hflat hB hlen hx0 hx hel hroom2 hroom hd; lia))
          have hsb := slice_but (y := y) (i := ((p : Nat) : Int)) (p := p) rfl (by (clear hc127 hdl hq hisz hrl hvl hsl hpre hIE hIB hID hDE hBE hfact hell hbl hbne hC hflat hB hlen hx0 hx hel hroom2 hroom hd; lia))
          have hld := last_drop (p := p) hyg (by rw [Array.length_toList]; (clear hc127 hdl hq hisz hrl hvl hsl hpre hIE hIB hID hDE hBE hfact hell hbl hbne hC hflat hB hlen hx0 hx hel hroom2 hroom hd; lia))
          have hoc := blank_occ hc127
          rw [← hit] at hoc
          cases hbl : isBlank c with
          | false =>
            rw [hbl] at hoc
            have hle : lastEnt room el (y.cps.toList.drop p) = y.cps.toList.drop p := by
              unfold lastEnt; rw [hld]; simp [hbl]
            repeat' (first
              | ((with_reducible show wpAny _ _ (eval (PySem.Expr.Name _ _) _) _ _ _); (first | ((with_reducible show wpAny _ _ (eval (PySem.Expr.Name (PySem.Str.ofString "len") _) _) _ _ _); refine name_b (by assumption) (by assumption) (by kernel_rfl) (by kernel_rfl) (g_len _) (b_len _) (by decide +kernel) ?_) | ((with_reducible show wpAny _ _ (eval (PySem.Expr.Name (PySem.Str.ofString "_QUOPRI_BODY_ENCODE_MAP") _) _) _ _ _); refine name_g (by assumption) (by assumption) (by kernel_rfl) (by kernel_rfl) (g_bmap _) (by decide +kernel) ?_) | ((with_reducible show wpAny _ _ (eval (PySem.Expr.Name (PySem.Str.ofString "CRLF_quoprimime") _) _) _ _ _); refine name_g (by assumption) (by assumption) (by kernel_rfl) (by kernel_rfl) (g_crlfq _) (by decide +kernel) ?_) | ((with_reducible show wpAny _ _ (eval (PySem.Expr.Name (PySem.Str.ofString "quote") _) _) _ _ _); refine name_g (by assumption) (by assumption) (by kernel_rfl) (by kernel_rfl) (g_quote _) (by decide +kernel) ?_)); try dsimp only)
              | (((with_reducible show wpAny _ _ (getMethod (Value.str _ _) _ _) _ _ _); with_reducible refine m_trn ?_); try dsimp only)
              | ((with_reducible show wpAny _ _ (loadName (envOf _ _ _ _ _) _) _ _ _); (with_reducible refine ldn (by assumption) (by (with_unfolding_all first | rfl | exact q1 | exact q2 | exact q3 | exact q4 | exact q5 | exact q6 | exact q7 | exact r1 | exact r2 | exact r3 | exact r4 | exact r5 | exact r6 | exact r7 | exact r8 | exact r9 | exact r10)) ?_ (by kernel_rfl!) (by kernel_rfl!)))
              | ((with_reducible show wpAny _ _ (eval (PySem.Expr.Name _ _) (envOf _ _ _ _ _)) _ _ _); (with_reducible refine ld (by assumption) (by (with_unfolding_all first | rfl | exact q1 | exact q2 | exact q3 | exact q4 | exact q5 | exact q6 | exact q7 | exact r1 | exact r2 | exact r3 | exact r4 | exact r5 | exact r6 | exact r7 | exact r8 | exact r9 | exact r10)) ?_ (by kernel_rfl!) (by kernel_rfl!) (by decide +kernel)))
              | ((with_reducible show wpAny _ _ (execs [_] _) _ _ _); refine cons_one ?_)
              | ((with_reducible show wpAny _ _ (execs (_ :: _) _) _ _ _); refine cons_gen fun _ _ _ => ?_)
              | ((rename GoN _ _ _ _ _ _ => hKN); (rename GoR _ _ => hKR); (with_reducible refine goN hKN ?_); clear hKN hKR)
              | ((rename GoN _ _ _ _ _ _ => hKN); (rename GoR _ _ => hKR); (with_reducible first | refine goR hKR ?_ | refine goCont hKR ?_); clear hKN hKR)
              | (exfalso; rename (_ : Int) ≤ _ => hb; (clear hc127 hy0 hdl hisz hrl hvl hp hsl hpre hyl hIE hIB hID hDE hBE hfact hell hbne hC hflat hB hlen hx0 hx hel hroom2 hroom hd; lia))
              | (exfalso; rename (_ : Int) = 0 => hb; (clear htie hfact hc127 hdl hq hisz hrl hvl hp hsl hpre hyl hIE hIB hID hDE hBE hell hbne hC hflat hB hlen hx0 hx hel hroom2 hroom hd; lia))
              | (exfalso; rename List.isEmpty _ = false => hb; rw [hoc] at hb; cases hb; done)
              | ((with_reducible show wpAny _ _ (callWith _ (Value.ref _) _ _ _) _ _ _); rename News _ _ _ _ => NX; refine app_textN NX ?_ (by rfl) (by rfl))
              | ((with_reducible show _ ∧ wpAny _ _ (call (Value.ref _) _) _ _ _); rename News _ _ _ _ => NX; refine ⟨(NX _ (.tail _ (.tail _ (.head _)))).1, ?_⟩)
              | ((with_reducible show wpAny _ _ (call (Value.ref _) _) _ _ _); rename Fr _ _ _ _ => FX; rename News _ _ _ _ => NX; refine app_call FX NX hIE.symm hDE hBE hisz ?_; clear FX NX; intro h₇ c₇ FY NY; try dsimp only)
              | (walk1; try dsimp only)
              | fail "no")
            rename Fr _ _ _ _ => FZ
            rename News _ _ _ _ => NZ
            exact hP _ _ ⟨.inl rfl, _, _, FZ, NZ, two_ne hIB hIE, hg₃.trans hg₁, ho₃.trans ho₁, ⟨_, by (with_unfolding_all first | rfl | exact q1 | exact q2 | exact q3 | exact q4 | exact q5 | exact q6 | exact q7 | exact r1 | exact r2 | exact r3 | exact r4 | exact r5 | exact r6 | exact r7 | exact r8 | exact r9 | exact r10)⟩, by (with_unfolding_all first | rfl | exact q1 | exact q2 | exact q3 | exact q4 | exact q5 | exact q6 | exact q7 | exact r1 | exact r2 | exact r3 | exact r4 | exact r5 | exact r6 | exact r7 | exact r8 | exact r9 | exact r10), by (with_unfolding_all first | rfl | exact q1 | exact q2 | exact q3 | exact q4 | exact q5 | exact q6 | exact q7 | exact r1 | exact r2 | exact r3 | exact r4 | exact r5 | exact r6 | exact r7 | exact r8 | exact r9 | exact r10), ⟨_, by (with_unfolding_all first | rfl | exact q1 | exact q2 | exact q3 | exact q4 | exact q5 | exact q6 | exact q7 | exact r1 | exact r2 | exact r3 | exact r4 | exact r5 | exact r6 | exact r7 | exact r8 | exact r9 | exact r10)⟩, ⟨_, by (with_unfolding_all first | rfl | exact q1 | exact q2 | exact q3 | exact q4 | exact q5 | exact q6 | exact q7 | exact r1 | exact r2 | exact r3 | exact r4 | exact r5 | exact r6 | exact r7 | exact r8 | exact r9 | exact r10)⟩, by (with_unfolding_all first | rfl | exact q1 | exact q2 | exact q3 | exact q4 | exact q5 | exact q6 | exact q7 | exact r1 | exact r2 | exact r3 | exact r4 | exact r5 | exact r6 | exact r7 | exact r8 | exact r9 | exact r10), by (with_unfolding_all first | rfl | exact q1 | exact q2 | exact q3 | exact q4 | exact q5 | exact q6 | exact q7 | exact r1 | exact r2 | exact r3 | exact r4 | exact r5 | exact r6 | exact r7 | exact r8 | exact r9 | exact r10), _, _, rfl, by rw [htk, hle, Array.toList_push, ← List.append_assoc]; exact hvals'.snoc ⟨_, by rw [hsf]⟩⟩
          | true =>
            rw [hbl] at hoc
            have hdl' : ((y.cps.toList.drop p).dropLast).length ≤ 15000 := by rw [List.length_dropLast, hdl]; (clear hc127 hy0 hdl hisz hrl hvl hp hsl hpre hyn hyl hIE hIB hID hDE hBE hfact hell hbne hC hflat hB hlen hx0 hx hel hd; lia)
            have hx3 : (hexS c).cps.toList.length = 3 := rfl
            by_cases hR3 : y.cps.size - p + 2 ≤ room
            · have hle : lastEnt room el (y.cps.toList.drop p) = (y.cps.toList.drop p).dropLast ++ (hexS c).cps.toList := by
                unfold lastEnt; rw [hld]; simp only [hbl, if_true]; rw [hdl, if_pos hR3]
              repeat' (first
                | ((with_reducible show wpAny _ _ (eval (PySem.Expr.Name _ _) _) _ _ _); (first | ((with_reducible show wpAny _ _ (eval (PySem.Expr.Name (PySem.Str.ofString "len") _) _) _ _ _); refine name_b (by assumption) (by assumption) (by kernel_rfl) (by kernel_rfl) (g_len _) (b_len _) (by decide +kernel) ?_) | ((with_reducible show wpAny _ _ (eval (PySem.Expr.Name (PySem.Str.ofString "_QUOPRI_BODY_ENCODE_MAP") _) _) _ _ _); refine name_g (by assumption) (by assumption) (by kernel_rfl) (by kernel_rfl) (g_bmap _) (by decide +kernel) ?_) | ((with_reducible show wpAny _ _ (eval (PySem.Expr.Name (PySem.Str.ofString "CRLF_quoprimime") _) _) _ _ _); refine name_g (by assumption) (by assumption) (by kernel_rfl) (by kernel_rfl) (g_crlfq _) (by decide +kernel) ?_) | ((with_reducible show wpAny _ _ (eval (PySem.Expr.Name (PySem.Str.ofString "quote") _) _) _ _ _); refine name_g (by assumption) (by assumption) (by kernel_rfl) (by kernel_rfl) (g_quote _) (by decide +kernel) ?_)); try dsimp only)
                | (((with_reducible show wpAny _ _ (getMethod (Value.str _ _) _ _) _ _ _); with_reducible refine m_trn ?_); try dsimp only)
                | ((with_reducible show wpAny _ _ (loadName (envOf _ _ _ _ _) _) _ _ _); (with_reducible refine ldn (by assumption) (by (with_unfolding_all first | rfl | exact q1 | exact q2 | exact q3 | exact q4 | exact q5 | exact q6 | exact q7 | exact r1 | exact r2 | exact r3 | exact r4 | exact r5 | exact r6 | exact r7 | exact r8 | exact r9 | exact r10)) ?_ (by kernel_rfl!) (by kernel_rfl!)))
                | ((with_reducible show wpAny _ _ (eval (PySem.Expr.Name _ _) (envOf _ _ _ _ _)) _ _ _); (with_reducible refine ld (by assumption) (by (with_unfolding_all first | rfl | exact q1 | exact q2 | exact q3 | exact q4 | exact q5 | exact q6 | exact q7 | exact r1 | exact r2 | exact r3 | exact r4 | exact r5 | exact r6 | exact r7 | exact r8 | exact r9 | exact r10)) ?_ (by kernel_rfl!) (by kernel_rfl!) (by decide +kernel)))
                | ((with_reducible show wpAny _ _ (execs [_] _) _ _ _); refine cons_one ?_)
                | ((with_reducible show wpAny _ _ (execs (_ :: _) _) _ _ _); refine cons_gen fun _ _ _ => ?_)
                | ((rename GoN _ _ _ _ _ _ => hKN); (rename GoR _ _ => hKR); (with_reducible refine goN hKN ?_); clear hKN hKR)
                | ((rename GoN _ _ _ _ _ _ => hKN); (rename GoR _ _ => hKR); (with_reducible first | refine goR hKR ?_ | refine goCont hKR ?_); clear hKN hKR)
                | (exfalso; rename (_ : Int) = 0 => hb; (clear htie hfact hR3 hx3 hdl' hc127 hdl hq hisz hrl hvl hp hsl hpre hyl hIE hIB hID hDE hBE hell hbne hC hflat hB hlen hx0 hx hel hroom2 hroom hd; lia))
                | (exfalso; rename List.isEmpty _ = true => hb; rw [hoc] at hb; cases hb; done)
                | (exfalso; rename (_ : Int) ≤ _ => hb; (clear hR3 hx3 hdl' hc127 hy0 hdl hisz hrl hvl hp hsl hpre hyl hIE hIB hID hDE hBE hfact hell hbne hC hflat hB hlen hx0 hx hel hroom2 hroom hd; lia))
                | (exfalso; rename ¬ ((_ : Int) ≤ _) => hb; (clear htie hfact hx3 hdl' hc127 hdl hisz hrl hvl hp hsl hpre hIE hIB hID hDE hBE hell hbne hC hflat hB hlen hx0 hx hel hd; lia))
                | ((with_reducible show wpAny _ _ (callWith _ (Value.ref 90) _ _ _) _ _ _); refine cw_def (o := o90I w.params) (by kernel_rfl) rfl ?_ (by rfl))
                | ((with_reducible show Up _ _ ∧ _); rename Fr _ _ _ _ => FX; refine ⟨fun b o e => FX.keep _ _ (U _ _ e), ?_⟩)
                | ((with_reducible show Up _ _); rename Fr _ _ _ _ => FX; exact fun b o e => FX.keep _ _ (U _ _ e))
                | ((with_reducible show wpAny _ _ (call (Value.ref 90) _) _ _ _); rw [hit]; rename Fr _ _ _ _ => FX; rename News _ _ _ _ => NX; refine wpAny_mono (quote_ok (fun b o e => FX.keep _ _ (U _ _ e)) (Nat.lt_of_le_of_lt (Nat.le_add_right (A.depth + 1) 3) hd) _ c (by (clear htie hfact hR3 hx3 hdl' hy0 hdl hq hisz hrl hvl hp hsl hpre hyn hyl hIE hIB hID hDE hBE hell hbne hC hflat hB hlen hx0 hx hel hroom2 hroom hd; lia))) ?_ (fun _ _ x => x.elim); rintro v ⟨h₉, g₉, d₉, k₉, os₉⟩ ⟨hv9, G⟩; obtain ⟨tv, rfl⟩ := tell_str hv9; have FY := fr_grow FX G.keep; have NY := news_grow NX G.keep; clear FX NX; obtain rfl : g₉ = _ := G.gens; obtain rfl : os₉ = _ := G.os; clear G; try dsimp only)
                | ((with_reducible show wpAny _ _ (binaryOp Operator.Add (Value.str _ _) (Value.str _ _)) _ _ _); (try rw [hit]); (try rw [hsb]); refine badd_l (by simp; (clear htie hfact hR3 hx3 hdl' hc127 hy0 hdl hq hisz hrl hvl hp hsl hpre hyl hIE hIB hID hDE hBE hell hbne hC hflat hB hlen hx0 hx hel hd; lia)) ?_; intro _ _; try dsimp only)
                | ((with_reducible show wpAny _ _ (callWith _ (Value.ref _) _ _ _) _ _ _); rename News _ _ _ _ => NX; refine app_textN NX ?_ (by rfl) (by rfl))
                | ((with_reducible show _ ∧ wpAny _ _ (call (Value.ref _) _) _ _ _); rename News _ _ _ _ => NX; refine ⟨(NX _ (.tail _ (.tail _ (.head _)))).1, ?_⟩)
                | ((with_reducible show wpAny _ _ (call (Value.ref _) _) _ _ _); rename Fr _ _ _ _ => FX; rename News _ _ _ _ => NX; refine app_call FX NX hIE.symm hDE hBE hisz ?_; clear FX NX; intro h₇ c₇ FY NY; try dsimp only)
                | (walk1; try dsimp only)
                | fail "no")
              rename Fr _ _ _ _ => FZ
              rename News _ _ _ _ => NZ
              exact hP _ _ ⟨.inl rfl, _, _, FZ, NZ, two_ne hIB hIE, hg₃.trans hg₁, ho₃.trans ho₁, ⟨_, by (with_unfolding_all first | rfl | exact q1 | exact q2 | exact q3 | exact q4 | exact q5 | exact q6 | exact q7 | exact r1 | exact r2 | exact r3 | exact r4 | exact r5 | exact r6 | exact r7 | exact r8 | exact r9 | exact r10)⟩, by (with_unfolding_all first | rfl | exact q1 | exact q2 | exact q3 | exact q4 | exact q5 | exact q6 | exact q7 | exact r1 | exact r2 | exact r3 | exact r4 | exact r5 | exact r6 | exact r7 | exact r8 | exact r9 | exact r10), by (with_unfolding_all first | rfl | exact q1 | exact q2 | exact q3 | exact q4 | exact q5 | exact q6 | exact q7 | exact r1 | exact r2 | exact r3 | exact r4 | exact r5 | exact r6 | exact r7 | exact r8 | exact r9 | exact r10), ⟨_, by (with_unfolding_all first | rfl | exact q1 | exact q2 | exact q3 | exact q4 | exact q5 | exact q6 | exact q7 | exact r1 | exact r2 | exact r3 | exact r4 | exact r5 | exact r6 | exact r7 | exact r8 | exact r9 | exact r10)⟩, ⟨_, by (with_unfolding_all first | rfl | exact q1 | exact q2 | exact q3 | exact q4 | exact q5 | exact q6 | exact q7 | exact r1 | exact r2 | exact r3 | exact r4 | exact r5 | exact r6 | exact r7 | exact r8 | exact r9 | exact r10)⟩, by (with_unfolding_all first | rfl | exact q1 | exact q2 | exact q3 | exact q4 | exact q5 | exact q6 | exact q7 | exact r1 | exact r2 | exact r3 | exact r4 | exact r5 | exact r6 | exact r7 | exact r8 | exact r9 | exact r10), by (with_unfolding_all first | rfl | exact q1 | exact q2 | exact q3 | exact q4 | exact q5 | exact q6 | exact q7 | exact r1 | exact r2 | exact r3 | exact r4 | exact r5 | exact r6 | exact r7 | exact r8 | exact r9 | exact r10), _, _, rfl, by rw [htk, hle, Array.toList_push, ← List.append_assoc]; exact hvals'.snoc ⟨_, rfl⟩⟩
            · by_cases hR2 : y.cps.size - p + 1 = room
              · have hle : lastEnt room el (y.cps.toList.drop p) = (y.cps.toList.drop p).dropLast ++ [c] ++ [61] ++ el := by
                  unfold lastEnt; rw [hld]; simp only [hbl, if_true]; rw [hdl, if_neg hR3, if_pos hR2]
                repeat' (first
                  | ((with_reducible show wpAny _ _ (eval (PySem.Expr.Name _ _) _) _ _ _); (first | ((with_reducible show wpAny _ _ (eval (PySem.Expr.Name (PySem.Str.ofString "len") _) _) _ _ _); refine name_b (by assumption) (by assumption) (by kernel_rfl) (by kernel_rfl) (g_len _) (b_len _) (by decide +kernel) ?_) | ((with_reducible show wpAny _ _ (eval (PySem.Expr.Name (PySem.Str.ofString "_QUOPRI_BODY_ENCODE_MAP") _) _) _ _ _); refine name_g (by assumption) (by assumption) (by kernel_rfl) (by kernel_rfl) (g_bmap _) (by decide +kernel) ?_) | ((with_reducible show wpAny _ _ (eval (PySem.Expr.Name (PySem.Str.ofString "CRLF_quoprimime") _) _) _ _ _); refine name_g (by assumption) (by assumption) (by kernel_rfl) (by kernel_rfl) (g_crlfq _) (by decide +kernel) ?_) | ((with_reducible show wpAny _ _ (eval (PySem.Expr.Name (PySem.Str.ofString "quote") _) _) _ _ _); refine name_g (by assumption) (by assumption) (by kernel_rfl) (by kernel_rfl) (g_quote _) (by decide +kernel) ?_)); try dsimp only)
                  | (((with_reducible show wpAny _ _ (getMethod (Value.str _ _) _ _) _ _ _); with_reducible refine m_trn ?_); try dsimp only)
                  | ((with_reducible show wpAny _ _ (loadName (envOf _ _ _ _ _) _) _ _ _); (with_reducible refine ldn (by assumption) (by (with_unfolding_all first | rfl | exact q1 | exact q2 | exact q3 | exact q4 | exact q5 | exact q6 | exact q7 | exact r1 | exact r2 | exact r3 | exact r4 | exact r5 | exact r6 | exact r7 | exact r8 | exact r9 | exact r10)) ?_ (by kernel_rfl!) (by kernel_rfl!)))
                  | ((with_reducible show wpAny _ _ (eval (PySem.Expr.Name _ _) (envOf _ _ _ _ _)) _ _ _); (with_reducible refine ld (by assumption) (by (with_unfolding_all first | rfl | exact q1 | exact q2 | exact q3 | exact q4 | exact q5 | exact q6 | exact q7 | exact r1 | exact r2 | exact r3 | exact r4 | exact r5 | exact r6 | exact r7 | exact r8 | exact r9 | exact r10)) ?_ (by kernel_rfl!) (by kernel_rfl!) (by decide +kernel)))
                  | ((with_reducible show wpAny _ _ (execs [_] _) _ _ _); refine cons_one ?_)
                  | ((with_reducible show wpAny _ _ (execs (_ :: _) _) _ _ _); refine cons_gen fun _ _ _ => ?_)
                  | ((rename GoN _ _ _ _ _ _ => hKN); (rename GoR _ _ => hKR); (with_reducible refine goN hKN ?_); clear hKN hKR)
                  | ((rename GoN _ _ _ _ _ _ => hKN); (rename GoR _ _ => hKR); (with_reducible first | refine goR hKR ?_ | refine goCont hKR ?_); clear hKN hKR)
                  | (exfalso; rename (_ : Int) = 0 => hb; (clear htie hfact hR2 hR3 hx3 hdl' hc127 hdl hq hisz hrl hvl hp hsl hpre hyl hIE hIB hID hDE hBE hell hbne hC hflat hB hlen hx0 hx hel hroom2 hroom hd; lia))
                  | (exfalso; rename List.isEmpty _ = true => hb; rw [hoc] at hb; cases hb; done)
                  | (exfalso; rename (_ : Int) ≤ _ => hb; (clear hR3 hx3 hdl' hc127 hdl hisz hrl hvl hp hsl hpre hIE hIB hID hDE hBE hfact hell hbne hC hflat hB hlen hx0 hx hel hd; lia))
                  | (exfalso; rename (_ : Int) ≠ 2 => hb; (clear htie hfact hR3 hx3 hdl' hc127 hdl hisz hrl hvl hp hsl hpre hIE hIB hID hDE hBE hell hbne hC hflat hB hlen hx0 hx hel hd; lia))
                  | ((with_reducible show wpAny _ _ (callWith _ (Value.ref 90) _ _ _) _ _ _); refine cw_def (o := o90I w.params) (by kernel_rfl) rfl ?_ (by rfl))
                  | ((with_reducible show Up _ _ ∧ _); rename Fr _ _ _ _ => FX; refine ⟨fun b o e => FX.keep _ _ (U _ _ e), ?_⟩)
                  | ((with_reducible show Up _ _); rename Fr _ _ _ _ => FX; exact fun b o e => FX.keep _ _ (U _ _ e))
                  | ((with_reducible show wpAny _ _ (call (Value.ref 90) _) _ _ _); rw [hit]; rename Fr _ _ _ _ => FX; rename News _ _ _ _ => NX; refine wpAny_mono (quote_ok (fun b o e => FX.keep _ _ (U _ _ e)) (Nat.lt_of_le_of_lt (Nat.le_add_right (A.depth + 1) 3) hd) _ c (by lia)) ?_ (fun _ _ x => x.elim); rintro v ⟨h₉, g₉, d₉, k₉, os₉⟩ ⟨hv9, G⟩; obtain ⟨tv, rfl⟩ := tell_str hv9; have FY := fr_grow FX G.keep; have NY := news_grow NX G.keep; clear FX NX; obtain rfl : g₉ = _ := G.gens; obtain rfl : os₉ = _ := G.os; clear G; try dsimp only)
                  | ((with_reducible show wpAny _ _ (binaryOp Operator.Add (Value.str _ _) (Value.str _ _)) _ _ _); (try rw [hit]); (try rw [hsb]); refine badd_l (by simp; (clear htie hfact hR3 hx3 hdl' hc127 hy0 hdl hq hisz hrl hvl hp hsl hpre hyl hIE hIB hID hDE hBE hbne hC hflat hB hlen hx0 hx hel hd; lia)) ?_; intro _ _; try dsimp only)
                  | ((with_reducible show wpAny _ _ (callWith _ (Value.ref _) _ _ _) _ _ _); rename News _ _ _ _ => NX; refine app_textN NX ?_ (by rfl) (by rfl))
                  | ((with_reducible show _ ∧ wpAny _ _ (call (Value.ref _) _) _ _ _); rename News _ _ _ _ => NX; refine ⟨(NX _ (.tail _ (.tail _ (.head _)))).1, ?_⟩)
                  | ((with_reducible show wpAny _ _ (call (Value.ref _) _) _ _ _); rename Fr _ _ _ _ => FX; rename News _ _ _ _ => NX; refine app_call FX NX hIE.symm hDE hBE hisz ?_; clear FX NX; intro h₇ c₇ FY NY; try dsimp only)
                  | (walk1; try dsimp only)
                  | fail "no")
                rename Fr _ _ _ _ => FZ
                rename News _ _ _ _ => NZ
                exact hP _ _ ⟨.inl rfl, _, _, FZ, NZ, two_ne hIB hIE, hg₃.trans hg₁, ho₃.trans ho₁, ⟨_, by (with_unfolding_all first | rfl | exact q1 | exact q2 | exact q3 | exact q4 | exact q5 | exact q6 | exact q7 | exact r1 | exact r2 | exact r3 | exact r4 | exact r5 | exact r6 | exact r7 | exact r8 | exact r9 | exact r10)⟩, by (with_unfolding_all first | rfl | exact q1 | exact q2 | exact q3 | exact q4 | exact q5 | exact q6 | exact q7 | exact r1 | exact r2 | exact r3 | exact r4 | exact r5 | exact r6 | exact r7 | exact r8 | exact r9 | exact r10), by (with_unfolding_all first | rfl | exact q1 | exact q2 | exact q3 | exact q4 | exact q5 | exact q6 | exact q7 | exact r1 | exact r2 | exact r3 | exact r4 | exact r5 | exact r6 | exact r7 | exact r8 | exact r9 | exact r10), ⟨_, by (with_unfolding_all first | rfl | exact q1 | exact q2 | exact q3 | exact q4 | exact q5 | exact q6 | exact q7 | exact r1 | exact r2 | exact r3 | exact r4 | exact r5 | exact r6 | exact r7 | exact r8 | exact r9 | exact r10)⟩, ⟨_, by (with_unfolding_all first | rfl | exact q1 | exact q2 | exact q3 | exact q4 | exact q5 | exact q6 | exact q7 | exact r1 | exact r2 | exact r3 | exact r4 | exact r5 | exact r6 | exact r7 | exact r8 | exact r9 | exact r10)⟩, by (with_unfolding_all first | rfl | exact q1 | exact q2 | exact q3 | exact q4 | exact q5 | exact q6 | exact q7 | exact r1 | exact r2 | exact r3 | exact r4 | exact r5 | exact r6 | exact r7 | exact r8 | exact r9 | exact r10), by (with_unfolding_all first | rfl | exact q1 | exact q2 | exact q3 | exact q4 | exact q5 | exact q6 | exact q7 | exact r1 | exact r2 | exact r3 | exact r4 | exact r5 | exact r6 | exact r7 | exact r8 | exact r9 | exact r10), _, _, rfl, by rw [htk, hle, Array.toList_push, ← List.append_assoc]; exact hvals'.snoc (val0_eq (by simp [List.append_assoc]))⟩
              · have hle : lastEnt room el (y.cps.toList.drop p) = (y.cps.toList.drop p).dropLast ++ [61] ++ el ++ (hexS c).cps.toList := by
                  unfold lastEnt; rw [hld]; simp only [hbl, if_true]; rw [hdl, if_neg hR3, if_neg hR2]
                repeat' (first
                  | ((with_reducible show wpAny _ _ (eval (PySem.Expr.Name _ _) _) _ _ _); (first | ((with_reducible show wpAny _ _ (eval (PySem.Expr.Name (PySem.Str.ofString "len") _) _) _ _ _); refine name_b (by assumption) (by assumption) (by kernel_rfl) (by kernel_rfl) (g_len _) (b_len _) (by decide +kernel) ?_) | ((with_reducible show wpAny _ _ (eval (PySem.Expr.Name (PySem.Str.ofString "_QUOPRI_BODY_ENCODE_MAP") _) _) _ _ _); refine name_g (by assumption) (by assumption) (by kernel_rfl) (by kernel_rfl) (g_bmap _) (by decide +kernel) ?_) | ((with_reducible show wpAny _ _ (eval (PySem.Expr.Name (PySem.Str.ofString "CRLF_quoprimime") _) _) _ _ _); refine name_g (by assumption) (by assumption) (by kernel_rfl) (by kernel_rfl) (g_crlfq _) (by decide +kernel) ?_) | ((with_reducible show wpAny _ _ (eval (PySem.Expr.Name (PySem.Str.ofString "quote") _) _) _ _ _); refine name_g (by assumption) (by assumption) (by kernel_rfl) (by kernel_rfl) (g_quote _) (by decide +kernel) ?_)); try dsimp only)
                  | (((with_reducible show wpAny _ _ (getMethod (Value.str _ _) _ _) _ _ _); with_reducible refine m_trn ?_); try dsimp only)
                  | ((with_reducible show wpAny _ _ (loadName (envOf _ _ _ _ _) _) _ _ _); (with_reducible refine ldn (by assumption) (by (with_unfolding_all first | rfl | exact q1 | exact q2 | exact q3 | exact q4 | exact q5 | exact q6 | exact q7 | exact r1 | exact r2 | exact r3 | exact r4 | exact r5 | exact r6 | exact r7 | exact r8 | exact r9 | exact r10)) ?_ (by kernel_rfl!) (by kernel_rfl!)))
                  | ((with_reducible show wpAny _ _ (eval (PySem.Expr.Name _ _) (envOf _ _ _ _ _)) _ _ _); (with_reducible refine ld (by assumption) (by (with_unfolding_all first | rfl | exact q1 | exact q2 | exact q3 | exact q4 | exact q5 | exact q6 | exact q7 | exact r1 | exact r2 | exact r3 | exact r4 | exact r5 | exact r6 | exact r7 | exact r8 | exact r9 | exact r10)) ?_ (by kernel_rfl!) (by kernel_rfl!) (by decide +kernel)))
                  | ((with_reducible show wpAny _ _ (execs [_] _) _ _ _); refine cons_one ?_)
                  | ((with_reducible show wpAny _ _ (execs (_ :: _) _) _ _ _); refine cons_gen fun _ _ _ => ?_)
                  | ((rename GoN _ _ _ _ _ _ => hKN); (rename GoR _ _ => hKR); (with_reducible refine goN hKN ?_); clear hKN hKR)
                  | ((rename GoN _ _ _ _ _ _ => hKN); (rename GoR _ _ => hKR); (with_reducible first | refine goR hKR ?_ | refine goCont hKR ?_); clear hKN hKR)
                  | (exfalso; rename (_ : Int) = 0 => hb; lia)
                  | (exfalso; rename List.isEmpty _ = true => hb; rw [hoc] at hb; cases hb; done)
                  | (exfalso; rename (_ : Int) ≤ _ => hb; (clear hx3 hdl' hc127 hdl hisz hrl hvl hp hsl hpre hIE hIB hID hDE hBE hfact hell hbne hC hflat hB hlen hx0 hx hel hd; lia))
                  | (exfalso; rename (_ : Int) = 2 => hb; (clear htie hfact hx3 hdl' hc127 hdl hq hisz hrl hvl hp hsl hpre hIE hIB hID hDE hBE hell hbne hC hflat hB hlen hx0 hx hel hd; lia))
                  | ((with_reducible show wpAny _ _ (callWith _ (Value.ref 90) _ _ _) _ _ _); refine cw_def (o := o90I w.params) (by kernel_rfl) rfl ?_ (by rfl))
                  | ((with_reducible show Up _ _ ∧ _); rename Fr _ _ _ _ => FX; refine ⟨fun b o e => FX.keep _ _ (U _ _ e), ?_⟩)
                  | ((with_reducible show Up _ _); rename Fr _ _ _ _ => FX; exact fun b o e => FX.keep _ _ (U _ _ e))
                  | ((with_reducible show wpAny _ _ (call (Value.ref 90) _) _ _ _); rw [hit]; rename Fr _ _ _ _ => FX; rename News _ _ _ _ => NX; refine wpAny_mono (quote_ok (fun b o e => FX.keep _ _ (U _ _ e)) (Nat.lt_of_le_of_lt (Nat.le_add_right (A.depth + 1) 3) hd) _ c (by (clear htie hfact hR2 hR3 hx3 hdl' hy0 hdl hq hisz hrl hvl hp hsl hpre hyn hyl hIE hIB hID hDE hBE hell hbne hC hflat hB hlen hx0 hx hel hroom2 hroom hd; lia))) ?_ (fun _ _ x => x.elim); rintro v ⟨h₉, g₉, d₉, k₉, os₉⟩ ⟨hv9, G⟩; obtain ⟨tv, rfl⟩ := tell_str hv9; have FY := fr_grow FX G.keep; have NY := news_grow NX G.keep; clear FX NX; obtain rfl : g₉ = _ := G.gens; obtain rfl : os₉ = _ := G.os; clear G; try dsimp only)
                  | ((with_reducible show wpAny _ _ (binaryOp Operator.Add (Value.str _ _) (Value.str _ _)) _ _ _); (try rw [hit]); (try rw [hsb]); refine badd_l (by simp; (clear htie hfact hR2 hR3 hx3 hdl' hc127 hy0 hdl hq hisz hrl hvl hp hsl hpre hIE hIB hID hDE hBE hbne hC hflat hB hlen hx0 hx hel hroom2 hroom hd; lia)) ?_; intro _ _; try dsimp only)
                  | ((with_reducible show wpAny _ _ (callWith _ (Value.ref _) _ _ _) _ _ _); rename News _ _ _ _ => NX; refine app_textN NX ?_ (by rfl) (by rfl))
                  | ((with_reducible show _ ∧ wpAny _ _ (call (Value.ref _) _) _ _ _); rename News _ _ _ _ => NX; refine ⟨(NX _ (.tail _ (.tail _ (.head _)))).1, ?_⟩)
                  | ((with_reducible show wpAny _ _ (call (Value.ref _) _) _ _ _); rename Fr _ _ _ _ => FX; rename News _ _ _ _ => NX; refine app_call FX NX hIE.symm hDE hBE hisz ?_; clear FX NX; intro h₇ c₇ FY NY; try dsimp only)
                  | (walk1; try dsimp only)
                  | fail "no")
                rename Fr _ _ _ _ => FZ
                rename News _ _ _ _ => NZ
                exact hP _ _ ⟨.inl rfl, _, _, FZ, NZ, two_ne hIB hIE, hg₃.trans hg₁, ho₃.trans ho₁, ⟨_, by (with_unfolding_all first | rfl | exact q1 | exact q2 | exact q3 | exact q4 | exact q5 | exact q6 | exact q7 | exact r1 | exact r2 | exact r3 | exact r4 | exact r5 | exact r6 | exact r7 | exact r8 | exact r9 | exact r10)⟩, by (with_unfolding_all first | rfl | exact q1 | exact q2 | exact q3 | exact q4 | exact q5 | exact q6 | exact q7 | exact r1 | exact r2 | exact r3 | exact r4 | exact r5 | exact r6 | exact r7 | exact r8 | exact r9 | exact r10), by (with_unfolding_all first | rfl | exact q1 | exact q2 | exact q3 | exact q4 | exact q5 | exact q6 | exact q7 | exact r1 | exact r2 | exact r3 | exact r4 | exact r5 | exact r6 | exact r7 | exact r8 | exact r9 | exact r10), ⟨_, by (with_unfolding_all first | rfl | exact q1 | exact q2 | exact q3 | exact q4 | exact q5 | exact q6 | exact q7 | exact r1 | exact r2 | exact r3 | exact r4 | exact r5 | exact r6 | exact r7 | exact r8 | exact r9 | exact r10)⟩, ⟨_, by (with_unfolding_all first | rfl | exact q1 | exact q2 | exact q3 | exact q4 | exact q5 | exact q6 | exact q7 | exact r1 | exact r2 | exact r3 | exact r4 | exact r5 | exact r6 | exact r7 | exact r8 | exact r9 | exact r10)⟩, by (with_unfolding_all first | rfl | exact q1 | exact q2 | exact q3 | exact q4 | exact q5 | exact q6 | exact q7 | exact r1 | exact r2 | exact r3 | exact r4 | exact r5 | exact r6 | exact r7 | exact r8 | exact r9 | exact r10), by (with_unfolding_all first | rfl | exact q1 | exact q2 | exact q3 | exact q4 | exact q5 | exact q6 | exact q7 | exact r1 | exact r2 | exact r3 | exact r4 | exact r5 | exact r6 | exact r7 | exact r8 | exact r9 | exact r10), _, _, rfl, by rw [htk, hle, Array.toList_push, ← List.append_assoc]; exact hvals'.snoc (val0_eq (by simp [List.append_assoc, hexS]))⟩
  · intro s' m' news' F' N' hg' ho' hJ
    obtain ⟨⟨tb, q1⟩, q2, q3, ⟨t1, q4⟩, ⟨ts, q5⟩, q6, q7, items, c, rfl, hvals⟩ := hJ
    have hln : (strValues l).length = ls.length := by
      have h5 := congrArg List.length hls
      rw [← hl1] at h5
      simpa [strValues] using h5
    rw [hln, List.take_length] at hvals
    have F'' : Fr _ s.heap.objs.size _ _ := F'
    clear F' F₂ N₂
    obtain ⟨h₁', g₁', d₁', k₁', os₁'⟩ := s'
    dsimp only at F'' N' hg' ho' ⊢
    obtain ⟨cz, hcz⟩ : ∃ cz, bd.getLast? = some cz := by
      cases q : bd.getLast? with
      | none => exact absurd (List.getLast?_eq_none_iff.mp q) hbne
      | some z => exact ⟨z, rfl⟩
    have hc127 : cz < 127 := by have := hbc cz (List.mem_of_getLast? hcz); (clear hln hDE hBE hfact hell hbl hbne hC hflat hB hlen hx0 hx hel hroom2 hroom hd; lia)
    have hit := item_last (x := ⟨bd.toArray⟩) hcz
    have hcr := crlfq hc127
    rw [← hit] at hcr
    have hres := spl_dle hcz room el
    have he0 : PySem.Str.ofString "" = ⟨([] : List Nat).toArray⟩ := by decide +kernel
    have hA1 := all_flat hroom hroom2 el bd hell
    have hA2 := all_len hroom el bd
    have hil : items.size ≤ 100000 := by
      have h1 := hvals.length
      rw [Array.length_toList] at h1
      have h2 := pre_len hroom el bd ls.length
      rw [← hlsd, List.take_length] at h2
      (clear hA2 hA1 hc127 hln hDE hBE hfact hell hbl hbne hC hB hlen hx0 hx hel hroom2 hroom hd; lia)
    have hblp : 0 < bd.length := by rcases Nat.eq_zero_or_pos bd.length with q | q; exact absurd (List.eq_nil_of_length_eq_zero q) hbne; exact q
    have hjoin : ∀ (items' : Array Value) (c' : Nat) (te' : Tok) (a₈ : Addr) (s₈ : Shared), s₈.heap.get? a₈ = some (oL items' c') → ValsAre 0 items'.toList ((spl bd).flatMap (entries room el)) → (∀ t' k, Back (.str ⟨(joinE el ((spl bd).flatMap (entries room el))).toArray⟩) s (.str ⟨(joinE el ((spl bd).flatMap (entries room el))).toArray⟩ t') { s₈ with toks := k }) →
      wpAny (model pw w) (A.deeper (envOf (S "body_encode") (fScope (stm 28)) s.heap.objs.size 111 (.ref 110))) (call (.builtin "str.join") [.str ⟨el.toArray⟩ te', .ref a₈]) (Back (.str ⟨(joinE el ((spl bd).flatMap (entries room el))).toArray⟩) s) (fun _ _ => False) s₈ := by
      intro items' c' te' a₈ s₈ hl₈ hv₈ hQ
      refine join_list (D := a₈) (items := items') ⟨_, hl₈, rfl, _, rfl⟩ (vals_str hv₈) ?_ fun t' k => ?_
      · rw [len_map, List.length_map]
        have : (⟨el.toArray⟩ : PySem.Str).length = el.length := by show el.toArray.size = _; simp
        rw [this]
        have h3 : (List.flatMap (entries room el) (spl bd)).length * el.length ≤ (List.flatMap (entries room el) (spl bd)).length * 2 := Nat.mul_le_mul_left _ hell
        (clear this hil hc127 hln hDE hBE hfact hell hbl hbne hC hB hlen hx0 hx hel hroom2 hroom hd; lia)
      · rw [joinE_txt]; exact hQ t' k
    by_cases hcn : cz = 10 ∨ cz = 13
    · have hcb : (cz == 10 || cz == 13) = true := by simpa using hcn
      rw [hcb, Bool.not_true] at hcr
      rw [if_pos hcn, ← hlsd] at hres
      repeat' (first
        | ((with_reducible show wpAny _ _ (eval (PySem.Expr.Name _ _) _) _ _ _); (first | ((with_reducible show wpAny _ _ (eval (PySem.Expr.Name (PySem.Str.ofString "len") _) _) _ _ _); refine name_b (by assumption) (by assumption) (by kernel_rfl) (by kernel_rfl) (g_len _) (b_len _) (by decide +kernel) ?_) | ((with_reducible show wpAny _ _ (eval (PySem.Expr.Name (PySem.Str.ofString "_QUOPRI_BODY_ENCODE_MAP") _) _) _ _ _); refine name_g (by assumption) (by assumption) (by kernel_rfl) (by kernel_rfl) (g_bmap _) (by decide +kernel) ?_) | ((with_reducible show wpAny _ _ (eval (PySem.Expr.Name (PySem.Str.ofString "CRLF_quoprimime") _) _) _ _ _); refine name_g (by assumption) (by assumption) (by kernel_rfl) (by kernel_rfl) (g_crlfq _) (by decide +kernel) ?_) | ((with_reducible show wpAny _ _ (eval (PySem.Expr.Name (PySem.Str.ofString "quote") _) _) _ _ _); refine name_g (by assumption) (by assumption) (by kernel_rfl) (by kernel_rfl) (g_quote _) (by decide +kernel) ?_)); try dsimp only)
        | (((with_reducible show wpAny _ _ (getMethod (Value.str _ _) _ _) _ _ _); with_reducible refine m_trn ?_); try dsimp only)
        | ((with_reducible show wpAny _ _ (loadName (envOf _ _ _ _ _) _) _ _ _); (with_reducible refine ldn (by assumption) (by (with_unfolding_all first | rfl | exact q1 | exact q2 | exact q3 | exact q4 | exact q5 | exact q6 | exact q7 | exact r1 | exact r2 | exact r3 | exact r4 | exact r5 | exact r6 | exact r7 | exact r8 | exact r9 | exact r10)) ?_ (by kernel_rfl!) (by kernel_rfl!)))
        | ((with_reducible show wpAny _ _ (eval (PySem.Expr.Name _ _) (envOf _ _ _ _ _)) _ _ _); (with_reducible refine ld (by assumption) (by (with_unfolding_all first | rfl | exact q1 | exact q2 | exact q3 | exact q4 | exact q5 | exact q6 | exact q7 | exact r1 | exact r2 | exact r3 | exact r4 | exact r5 | exact r6 | exact r7 | exact r8 | exact r9 | exact r10)) ?_ (by kernel_rfl!) (by kernel_rfl!) (by decide +kernel)))
        | ((with_reducible show wpAny _ _ (execs [_] _) _ _ _); refine cons_one ?_)
        | ((with_reducible show wpAny _ _ (execs (_ :: _) _) _ _ _); refine cons_gen fun _ _ _ => ?_)
        | ((rename GoN _ _ _ _ _ _ => hKN); (rename GoR _ _ => hKR); (with_reducible refine goN hKN ?_); clear hKN hKR)
        | ((rename GoN _ _ _ _ _ _ => hKN); (rename GoR _ _ => hKR); (with_reducible first | refine goR hKR ?_ | refine goCont hKR ?_); clear hKN hKR)
        | (exfalso; rename List.isEmpty _ = true => hb; rw [hcr] at hb; cases hb; done)
        | ((with_reducible show wpAny _ _ (callWith _ (Value.ref _) _ _ _) _ _ _); rename News _ _ _ _ => NX; refine app_textG NX ?_ (by rfl) (by rfl))
        | ((with_reducible show _ ∧ wpAny _ _ (call (Value.ref _) _) _ _ _); rename News _ _ _ _ => NX; refine ⟨(NX _ (.head _)).1, ?_⟩)
        | ((with_reducible show wpAny _ _ (call (Value.ref _) _) _ _ _); rename Fr _ _ _ _ => FX; rename News _ _ _ _ => NX; refine app_callG FX NX hBE hil ?_; clear FX NX; intro h₇ c₇ FY NY; try dsimp only)
        | (walk1; try dsimp only)
        | fail "no")
      rename Fr _ _ _ _ => FZ
      rename News _ _ _ _ => NZ
      exact hjoin _ _ _ _ _ (NZ _ (.tail _ (.head _))).1 (by rw [hres, Array.toList_push]; exact hvals.snoc ⟨_, by rw [he0]⟩) (fun t' k => ⟨rfl, fun b o e => FZ.keep _ _ e, hg', ho'⟩)
    · have hcb : (cz == 10 || cz == 13) = false := by simpa using hcn
      rw [hcb, Bool.not_false] at hcr
      rw [if_neg hcn, ← hlsd, List.append_nil] at hres
      repeat' (first
        | ((with_reducible show wpAny _ _ (eval (PySem.Expr.Name _ _) _) _ _ _); (first | ((with_reducible show wpAny _ _ (eval (PySem.Expr.Name (PySem.Str.ofString "len") _) _) _ _ _); refine name_b (by assumption) (by assumption) (by kernel_rfl) (by kernel_rfl) (g_len _) (b_len _) (by decide +kernel) ?_) | ((with_reducible show wpAny _ _ (eval (PySem.Expr.Name (PySem.Str.ofString "_QUOPRI_BODY_ENCODE_MAP") _) _) _ _ _); refine name_g (by assumption) (by assumption) (by kernel_rfl) (by kernel_rfl) (g_bmap _) (by decide +kernel) ?_) | ((with_reducible show wpAny _ _ (eval (PySem.Expr.Name (PySem.Str.ofString "CRLF_quoprimime") _) _) _ _ _); refine name_g (by assumption) (by assumption) (by kernel_rfl) (by kernel_rfl) (g_crlfq _) (by decide +kernel) ?_) | ((with_reducible show wpAny _ _ (eval (PySem.Expr.Name (PySem.Str.ofString "quote") _) _) _ _ _); refine name_g (by assumption) (by assumption) (by kernel_rfl) (by kernel_rfl) (g_quote _) (by decide +kernel) ?_)); try dsimp only)
        | (((with_reducible show wpAny _ _ (getMethod (Value.str _ _) _ _) _ _ _); with_reducible refine m_trn ?_); try dsimp only)
        | ((with_reducible show wpAny _ _ (loadName (envOf _ _ _ _ _) _) _ _ _); (with_reducible refine ldn (by assumption) (by (with_unfolding_all first | rfl | exact q1 | exact q2 | exact q3 | exact q4 | exact q5 | exact q6 | exact q7 | exact r1 | exact r2 | exact r3 | exact r4 | exact r5 | exact r6 | exact r7 | exact r8 | exact r9 | exact r10)) ?_ (by kernel_rfl!) (by kernel_rfl!)))
        | ((with_reducible show wpAny _ _ (eval (PySem.Expr.Name _ _) (envOf _ _ _ _ _)) _ _ _); (with_reducible refine ld (by assumption) (by (with_unfolding_all first | rfl | exact q1 | exact q2 | exact q3 | exact q4 | exact q5 | exact q6 | exact q7 | exact r1 | exact r2 | exact r3 | exact r4 | exact r5 | exact r6 | exact r7 | exact r8 | exact r9 | exact r10)) ?_ (by kernel_rfl!) (by kernel_rfl!) (by decide +kernel)))
        | ((with_reducible show wpAny _ _ (execs [_] _) _ _ _); refine cons_one ?_)
        | ((with_reducible show wpAny _ _ (execs (_ :: _) _) _ _ _); refine cons_gen fun _ _ _ => ?_)
        | ((rename GoN _ _ _ _ _ _ => hKN); (rename GoR _ _ => hKR); (with_reducible refine goN hKN ?_); clear hKN hKR)
        | ((rename GoN _ _ _ _ _ _ => hKN); (rename GoR _ _ => hKR); (with_reducible first | refine goR hKR ?_ | refine goCont hKR ?_); clear hKN hKR)
        | (exfalso; rename List.isEmpty _ = false => hb; rw [hcr] at hb; cases hb; done)
        | (walk1; try dsimp only)
        | fail "no")
      rename Fr _ _ _ _ => FZ
      rename News _ _ _ _ => NZ
      exact hjoin _ _ _ _ _ (NZ _ (.tail _ (.head _))).1 (by rw [hres]; exact hvals) (fun t' k => ⟨rfl, fun b o e => FZ.keep _ _ e, hg', ho'⟩)
end Mine
end
section
namespace Mine
theorem name_gE {w : World} {A : Around} {E : Value → Shared → Prop} {s : Shared} {h₀ : Heap} {L : Addr} {m : PySem.Str → Option Value} {env : Env} {x : PySem.Str} {pos : Pos} {v : Value} {Q : Value → Shared → Prop}
    (F : Fr h₀ L s.heap m) (U : Up w h₀) (hk : env.scope.kind = .function) (hx : env.kindOf x = some .globalImplicit) (hg : env.globals = mainGlobals) (hv : mgL w x = some v) (hd : (x == ("__debug__" : PySem.Str)) = false) (h : Q v s) :
    wpAny (model pw w) A (eval (.Name x pos) env) Q E s := by
  exact Calls.Name_function_global hk hx (Calls.loadGlobal_global (by rw [hg]; exact up_mg w fun b o e => F.keep _ _ (U _ _ e)) hv h) hd
theorem name_bE {w : World} {A : Around} {E : Value → Shared → Prop} {s : Shared} {h₀ : Heap} {L : Addr} {m : PySem.Str → Option Value} {env : Env} {x : PySem.Str} {pos : Pos} {v : Value} {Q : Value → Shared → Prop}
    (F : Fr h₀ L s.heap m) (U : Up w h₀) (hk : env.scope.kind = .function) (hx : env.kindOf x = some .globalImplicit) (hg : env.globals = mainGlobals) (hb : env.builtins = builtinsNs) (hm : mgL w x = none) (hv : mbL w x = some v) (hd : (x == ("__debug__" : PySem.Str)) = false) (h : Q v s) :
    wpAny (model pw w) A (eval (.Name x pos) env) Q E s := by
  exact Calls.Name_function_global hk hx (Calls.loadGlobal_builtin (by rw [hg]; exact up_mg w fun b o e => F.keep _ _ (U _ _ e)) hm (by rw [hb]; exact up_mb w fun b o e => F.keep _ _ (U _ _ e)) hv h) hd
theorem name_lE {w : World} {A : Around} {E : Value → Shared → Prop} {s : Shared} {h₀ : Heap} {m : PySem.Str → Option Value} {env : Env} {x : PySem.Str} {pos : Pos} {v : Value} {Q : Value → Shared → Prop}
    (F : Fr h₀ env.locals s.heap m) (hk : env.scope.kind = .function) (hx : env.kindOf x = some .local) (hv : m x = some v) (hd : (x == ("__debug__" : PySem.Str)) = false) (h : Q v s) :
    wpAny (model pw w) A (eval (.Name x pos) env) Q E s := wpAny_Name (wpAny_loadName_local hk hx F.ns hv h) hd
theorem g_lw (w : World) : mgL w (PySem.Str.ofString "_law_weight") = some (.ref 140) := by kernel_rfl
theorem g_sum (w : World) : mgL w (PySem.Str.ofString "sum") = none := by kernel_rfl
theorem b_sum (w : World) : mbL w (PySem.Str.ofString "sum") = some (.builtin "sum") := by kernel_rfl
theorem own_nil {P : Nat → Value → Prop} {R : Nat → Value → Value → List (Addr × Obj) → Prop} {yo : Items} (h : AllBy P R yo) (hn : ∀ i v y own, R i v y own → own = []) : yo.flatMap (·.2) = [] := by
  rw [List.flatMap_eq_nil_iff]
  intro p hp
  obtain ⟨j, hj, rfl⟩ := List.getElem_of_mem hp
  obtain ⟨v, _, hr⟩ := h j yo[j] (List.getElem?_eq_getElem hj)
  exact hn _ _ _ _ hr
theorem ints_by : ∀ (yo : Items) (ns : List Int), yo.length = ns.length → (∀ (j : Nat) (p : Value × List (Addr × Obj)), yo[j]? = some p → ∃ t, p.1 = .int (ns.getD j 0) t) → IntsAre (yo.map (·.1)) ns
  | [], [], _, _ => .nil
  | [], _ :: _, h, _ => by simp at h
  | _ :: _, [], h, _ => by simp at h
  | p :: yo, i :: ns, h, hj => by
    obtain ⟨t, e⟩ := hj 0 p rfl
    have e' : p.1 = .int i t := by simpa using e
    rw [List.map_cons, e']
    exact .cons _ _ (ints_by yo ns (by simpa using h) fun j q hq => by
      obtain ⟨t, e⟩ := hj (j + 1) q (by simpa using hq)
      exact ⟨t, by simpa using e⟩)
theorem strs_by : ∀ (yo : Items) (xs : List (List Nat)), yo.length = xs.length → (∀ (j : Nat) (p : Value × List (Addr × Obj)), yo[j]? = some p → ∃ t, p.1 = .str ⟨(xs.getD j []).toArray⟩ t) → ValsAre 0 (yo.map (·.1)) xs
  | [], [], _, _ => .nil
  | [], _ :: _, h, _ => by simp at h
  | _ :: _, [], h, _ => by simp at h
  | p :: yo, x :: xs, h, hj => by
    obtain ⟨t, e⟩ := hj 0 p rfl
    have e' : p.1 = .str ⟨x.toArray⟩ t := by simpa using e
    rw [List.map_cons, e']
    exact .cons ⟨t, rfl⟩ (strs_by yo xs (by simpa using h) fun j q hq => by
      obtain ⟨t, e⟩ := hj (j + 1) q (by simpa using hq)
      exact ⟨t, by simpa using e⟩)
theorem ints_get {vs : List Value} {ns : List Int} (h : IntsAre vs ns) : ∀ {n : Nat} {i : Int}, ns[n]? = some i → ∃ t, vs[n]? = some (.int i t) := by
  induction h with
  | nil => intro n i e; simp at e
  | cons i t _ ih =>
    intro n j e
    cases n with
    | zero => simp at e; subst e; exact ⟨t, rfl⟩
    | succ n => exact ih (by simpa using e)
theorem item_int {w : World} {A : Around} {E : Value → Shared → Prop} {s : Shared} {value slice : PySem.Expr} {l : Addr} {items : Array Value} {n : Nat} {i : Int} {u : Tok} {v : Value} {Q : Value → Shared → Prop}
    (hl : s.heap.IsList l items) (hi : i = ((n : Nat) : Int)) (hn : n ≤ 100000) (hx : items[n]? = some v) (h : Q v s)
    (hs : subscripted slice false (.ref l) (.int i u) = operate [.ref l, .int i u] (getItem (.ref l) (.int i u))) :
    wpAny (model pw w) A (subscriptTail value slice (.ref l) (.int i u)) Q E s := by
  subst hi
  exact tail_any hl.typeIs slot_list_getitem.lookup (wpAny_getItem_list hl (Int.natCast_nonneg n) (Int.lt_of_le_of_lt (Int.ofNat_le.mpr hn) (by decide)) (by simpa using hx) h) hs
theorem wt_nat (c : Nat) : wt ((c : Nat) : Int) = ((wtN c : Nat) : Int) := by
  unfold wt wtN
  by_cases h : isSafe c = true
  · have := (isSafe_iff c).mp h
    rw [if_pos (by lia), if_pos h]; rfl
  · have : ¬ (c = 9 ∨ (32 ≤ c ∧ c < 127 ∧ c ≠ 61)) := fun q => h ((isSafe_iff c).mpr q)
    rw [if_neg (by lia), if_neg h]; rfl
theorem wt_sum (g : List Nat) : (g.map fun c => wt ((c : Nat) : Int)).sum = ((weight g : Nat) : Int) := by
  induction g with
  | nil => rfl
  | cons c g ih => rw [List.map_cons, List.sum_cons, ih, wt_nat, weight_cons]; lia
noncomputable def Joins2 (R : Shared → Prop) (f : Flow) (s' : Shared) : Prop := f = .next ∧ R s'
theorem cons_join {w : World} {A : Around} {E : Value → Shared → Prop} {s : Shared} {st : PySem.Stmt} {rest : List PySem.Stmt} {env : Env} {Q : Flow → Shared → Prop} (R : Shared → Prop) (h1 : ∀ P, GoP (Joins2 R) P → wpAny (model pw w) A (exec st env) P E s) (h2 : ∀ s', R s' → wpAny (model pw w) A (execs rest env) Q E s') :
    wpAny (model pw w) A (execs (st :: rest) env) Q E s := wpAny_execs_cons (wpAny_mono (h1 _ fun _ _ x => x) (fun f s' ⟨e, r⟩ => by subst e; exact h2 s' r) fun _ _ x => x)
/-- one turn of a server's cutting -/
theorem turn_big {room : Nat} (hr : 4 ≤ room) (m c : Nat) (r : List Nat) (hw : room < weight (c :: r)) : ∃ a b gg, fRoom room (m + 1) (c :: r) = dot (c :: a) ++ gg ∧ gg = fRoom room m b ∧ c :: r = (c :: a) ++ b ∧ weight (c :: a) < room ∧ Full room (weight (c :: a)) gg ∧ gg ≠ [] ∧ room < weight ((c :: a) ++ gg) := by
  have e : fRoom room (m + 1) (c :: r) = dot (cutAt room 0 (c :: r)).1 ++ fRoom room m (cutAt room 0 (c :: r)).2 := by rw [fRoom_succ, if_neg (by lia)]
  obtain ⟨a, ha⟩ := cut_ne room hr c r
  have happ := cutAt_app room 0 (c :: r)
  have hfull := cutAt_full room 0 (c :: r)
  have hlt := cutAt_lt room 0 (c :: r) (by lia)
  have hne := rest_ne room (c :: r) hr (by lia)
  generalize hb : (cutAt room 0 (c :: r)).2 = b at *
  rw [ha] at happ hfull hlt e
  simp only [Nat.zero_add] at hfull hlt
  have hgh : (fRoom room m b).head? = b.head? := fRoom_head room hr m b
  have hgw : weight b ≤ weight (fRoom room m b) := fRoom_weight room m b
  refine ⟨a, b, fRoom room m b, e, rfl, happ.symm, hlt, ?_, ?_, ?_⟩
  · intro x y e
    rw [e] at hgh
    cases b with
    | nil => exact absurd rfl hne
    | cons z t =>
      have : x = z := by simpa using hgh
      subst this
      exact hfull x t rfl
  · intro q
    rw [q] at hgh
    cases b with
    | nil => exact hne rfl
    | cons z t => simp at hgh
  · rw [weight_append]
    have : weight (c :: r) = weight (c :: a) + weight b := by rw [← happ, weight_append]
    lia
theorem weight_take {a : List Nat} : ∀ {j : Nat} {c : Nat}, a[j]? = some c → weight (a.take (j + 1)) = weight (a.take j) + wtN c ∧ weight (a.take (j + 1)) ≤ weight a := by
  induction a with
  | nil => intro j c h; simp at h
  | cons x a ih =>
    intro j c h
    cases j with
    | zero => simp at h; subst h; simp
    | succ j =>
      have := ih (j := j) (c := c) (by simpa using h)
      simp only [List.take_succ_cons, weight_cons]
      lia
theorem dot_app (c : Nat) (a gg : List Nat) : dot (c :: a) ++ gg = dot (c :: (a ++ gg)) := by
  by_cases h : c = 46
  · subst h; rfl
  · have h1 : ∀ z, dot (c :: z) = c :: z := fun z => by unfold dot; split <;> simp_all
    rw [h1, h1]; rfl
theorem drop_get {g : List Nat} {p c : Nat} {X : List Nat} (h : g.drop p = c :: X) : g[p]? = some c ∧ p < g.length ∧ g.drop (p + 1) = X := by
  have h1 : p < g.length := by
    rcases Nat.lt_or_ge p g.length with q | q
    · exact q
    · rw [List.drop_of_length_le q] at h; cases h
  refine ⟨?_, h1, ?_⟩
  · have := congrArg (·[0]?) h
    simpa using this
  · have := congrArg (·.drop 1) h
    simpa [List.drop_drop] using this
/-- what stands in the frame of _law_bare -/
noncomputable def JF (g : List Nat) (room : Nat) (t tr : Tok) (D : Addr) (bare : List Nat) (q lf : Nat) (m : PySem.Str → Option Value) : Prop :=
  m (S "line") = some (.str ⟨g.toArray⟩ t) ∧ m (S "room") = some (.int ((room : Nat) : Int) tr) ∧ m (S "weights") = some (.ref D) ∧ (∃ tb, m (S "bare") = some (.str ⟨bare.toArray⟩ tb)) ∧ (∃ tp, m (S "place") = some (.int ((q : Nat) : Int) tp)) ∧ (∃ tl, m (S "left") = some (.int ((lf : Nat) : Int) tl))
theorem jf_fr {g : List Nat} {room : Nat} {t tr : Tok} {D : Addr} {bare : List Nat} {q lf : Nat} {m : PySem.Str → Option Value} {h₀ h : Heap} {L : Addr} (J : JF g room t tr D bare q lf m) (F : Fr h₀ L h m) : ∃ tb tp tl, Fr h₀ L h (fun y => if y = S "left" then some (.int ((lf : Nat) : Int) tl) else if y = S "place" then some (.int ((q : Nat) : Int) tp) else if y = S "bare" then some (.str ⟨bare.toArray⟩ tb) else if y = S "weights" then some (.ref D) else if y = S "room" then some (.int ((room : Nat) : Int) tr) else if y = S "line" then some (.str ⟨g.toArray⟩ t) else m y) := by
  obtain ⟨q1, q2, q3, ⟨tb, q4⟩, ⟨tp, q5⟩, ⟨tl, q6⟩⟩ := J
  exact ⟨tb, tp, tl, fr_upd (fr_upd (fr_upd (fr_upd (fr_upd (fr_upd F q1) (x := S "room") (by with_unfolding_all exact q2)) (x := S "weights") (by with_unfolding_all exact q3)) (x := S "bare") (by with_unfolding_all exact q4)) (x := S "place") (by with_unfolding_all exact q5)) (x := S "left") (by with_unfolding_all exact q6)⟩
/-- the outer loop of _law_bare -/
noncomputable def JO (l g : List Nat) (room : Nat) (t tr : Tok) (D : Addr) (ys : Array Value) (k : Nat) (n : Nat) (m : PySem.Str → Option Value) (news : List (Addr × Obj)) : Prop :=
  news = [(D, oL ys k)] ∧ ∃ p bare l' k', JF g room t tr D bare p (weight (g.drop p)) m ∧ g.drop p = fRoom room k' l' ∧ l'.length ≤ k' ∧ bare ++ l' = l ∧ n = l'.length
/-- the inner loop -/
noncomputable def JI (g : List Nat) (room : Nat) (t tr : Tok) (D : Addr) (ys : Array Value) (k : Nat) (bare : List Nat) (q lf : Nat) (a : List Nat) (n : Nat) (m : PySem.Str → Option Value) (news : List (Addr × Obj)) : Prop :=
  news = [(D, oL ys k)] ∧ ∃ j, j ≤ a.length ∧ n = a.length - j ∧ JF g room t tr D bare (q + j) lf m ∧ (∃ ts, m (S "start") = some (.int ((q : Nat) : Int) ts)) ∧ (∃ tz, m (S "size") = some (.int ((weight (a.take j) : Nat) : Int) tz))
noncomputable def RW (g : List Nat) (i : Nat) (v y : Value) (own : List (Addr × Obj)) : Prop := own = [] ∧ ∃ t, y = .int (wt ((g.getD i 0 : Nat) : Int)) t
set_option maxHeartbeats 4000000 in
theorem bare_ok {w : World} {A : Around} {s : Shared} (U : Up w s.heap) (hd : A.depth + 4 < recursionLimit) (hA : A.handled = none) (l : List Nat) (room t tr : Nat) (hroom : 4 ≤ room) (hroom2 : room ≤ 8) (hl : l.length ≤ 1000) (hl2 : (FL room l).length ≤ 2000) :
    wpAny (model pw w) A (call (.ref 145) [.str ⟨(FL room l).toArray⟩ t, .int ((room : Nat) : Int) tr]) (Back (.str ⟨l.toArray⟩) s) (fun _ _ => False) s := by
  refine call_of 34 145 144 (S "_law_bare") (.str (S "law_ny0199_01") 2019) _ [(S "line", .str ⟨(FL room l).toArray⟩ t), (S "room", .int ((room : Nat) : Int) tr)] U (by lia) (by kernel_rfl) ⟨o144L w.params, _, _, by kernel_rfl, rfl, rfl⟩ (by kernel_rfl) (by kernel_rfl) (by kernel_rfl) (by kernel_rfl) (by kernel_rfl) (by decide +kernel) fun h₁ F U₁ => ?_
  have N : News s.heap s.heap.objs.size h₁ [] := News.nil
  generalize hg : FL room l = g at *
  have hgl : (⟨g.toArray⟩ : PySem.Str).length = g.length := by show g.toArray.size = _; simp
  have hgs : g.toArray.size = g.length := by simp
  have hsl : 2000 ≤ sizeLine := by rw [sizeLine_eq]; decide
  repeat' (first
    | ((with_reducible show wpAny _ _ (eval (PySem.Expr.Name _ _) _) _ _ _); (first | ((with_reducible show wpAny _ _ (eval (PySem.Expr.Name (PySem.Str.ofString "len") _) _) _ _ _); refine name_b (by assumption) (by assumption) (by kernel_rfl) (by kernel_rfl) (g_len _) (b_len _) (by decide +kernel) ?_) | ((with_reducible show wpAny _ _ (eval (PySem.Expr.Name (PySem.Str.ofString "sum") _) _) _ _ _); refine name_b (by assumption) (by assumption) (by kernel_rfl) (by kernel_rfl) (g_sum _) (b_sum _) (by decide +kernel) ?_) | ((with_reducible show wpAny _ _ (eval (PySem.Expr.Name (PySem.Str.ofString "_law_weight") _) (compEnvC _ _ _ _)) _ _ _); refine name_gE (by assumption) (by assumption) (by kernel_rfl) (by kernel_rfl) (by rfl) (g_lw _) (by decide +kernel) ?_) | ((with_reducible show wpAny _ _ (eval (PySem.Expr.Name (PySem.Str.ofString "ord") _) (compEnvC _ _ _ _)) _ _ _); refine name_bE (by assumption) (by assumption) (by kernel_rfl) (by kernel_rfl) (by rfl) (by rfl) (g_ord _) (b_ord _) (by decide +kernel) ?_) | ((with_reducible show wpAny _ _ (eval (PySem.Expr.Name _ _) (compEnvC _ _ _ _)) _ _ _); rename Fr _ _ _ _ => FX; refine name_lE FX (by kernel_rfl) (by kernel_rfl) (by assumption) (by decide +kernel) ?_)); try dsimp only)
    | ((with_reducible show wpAny _ _ (execs [_] _) _ _ _); refine cons_one ?_)
    | ((with_reducible show wpAny _ _ (execs (_ :: _) _) _ _ _); refine cons_gen fun _ _ _ => ?_)
    | ((rename GoN _ _ _ _ _ _ => hKN); (rename GoR _ _ => hKR); (with_reducible refine goN hKN ?_); clear hKN hKR)
    | ((rename GoN _ _ _ _ _ _ => hKN); (rename GoR _ _ => hKR); (with_reducible first | refine goR hKR ?_ | refine goCont hKR ?_); clear hKN hKR)
    | ((fail_if_success (with_reducible show wpAny _ _ (exec (PySem.Stmt.Assign _ (PySem.Expr.ListComp _ _ _ _) _) _) _ _ _)); walk1; try dsimp only)
    | fail "no")
  refine comp_assign F (cl := []) ?a1 ?a2 ?a3 ?a4 ?a5 ?a6 ?a7 ?a8 ?_ ?a9
  case a1 => with_unfolding_all rfl
  case a2 => with_unfolding_all rfl
  case a3 => decide +kernel
  case a4 => rfl
  case a5 => decide +kernel
  case a6 => decide +kernel
  case a7 => kernel_rfl
  case a8 => kernel_rfl
  case a9 => intro _; rfl
  repeat' (first
    | ((with_reducible show wpAny _ _ (eval (PySem.Expr.Name _ _) _) _ _ _); (first | ((with_reducible show wpAny _ _ (eval (PySem.Expr.Name (PySem.Str.ofString "len") _) _) _ _ _); refine name_b (by assumption) (by assumption) (by kernel_rfl) (by kernel_rfl) (g_len _) (b_len _) (by decide +kernel) ?_) | ((with_reducible show wpAny _ _ (eval (PySem.Expr.Name (PySem.Str.ofString "sum") _) _) _ _ _); refine name_b (by assumption) (by assumption) (by kernel_rfl) (by kernel_rfl) (g_sum _) (b_sum _) (by decide +kernel) ?_) | ((with_reducible show wpAny _ _ (eval (PySem.Expr.Name (PySem.Str.ofString "_law_weight") _) (compEnvC _ _ _ _)) _ _ _); refine name_gE (by assumption) (by assumption) (by kernel_rfl) (by kernel_rfl) (by rfl) (g_lw _) (by decide +kernel) ?_) | ((with_reducible show wpAny _ _ (eval (PySem.Expr.Name (PySem.Str.ofString "ord") _) (compEnvC _ _ _ _)) _ _ _); refine name_bE (by assumption) (by assumption) (by kernel_rfl) (by kernel_rfl) (by rfl) (by rfl) (g_ord _) (b_ord _) (by decide +kernel) ?_) | ((with_reducible show wpAny _ _ (eval (PySem.Expr.Name _ _) (compEnvC _ _ _ _)) _ _ _); rename Fr _ _ _ _ => FX; refine name_lE FX (by kernel_rfl) (by kernel_rfl) (by assumption) (by decide +kernel) ?_)); try dsimp only)
    | ((with_reducible show wpAny _ _ (execs [_] _) _ _ _); refine cons_one ?_)
    | ((with_reducible show wpAny _ _ (execs (_ :: _) _) _ _ _); refine cons_gen fun _ _ _ => ?_)
    | ((rename GoN _ _ _ _ _ _ => hKN); (rename GoR _ _ => hKR); (with_reducible refine goN hKN ?_); clear hKN hKR)
    | ((rename GoN _ _ _ _ _ _ => hKN); (rename GoR _ _ => hKR); (with_reducible first | refine goR hKR ?_ | refine goCont hKR ?_); clear hKN hKR)
    | (walk1; try dsimp only)
    | fail "no")
  refine ⟨_, _, [], RW g, src_str (by exact hA), by rw [hgs]; (clear hl hroom2 hroom hd; lia), F, N, ?_, ?_⟩
  · rintro C i v s₃ m₃ K hi ⟨c, u, hc, rfl⟩ F₃ hm NK hg₃ ho₃
    rw [List.getElem?_toArray] at hc
    have hgd : g.getD i 0 = c := by simp [List.getD, hc]
    have U₃ : Up w s₃.heap := fun b o e => F₃.keep _ _ (U₁ _ _ e)
    repeat' (first
      | ((with_reducible show wpAny _ _ (eval (PySem.Expr.Name _ _) _) _ _ _); (first | ((with_reducible show wpAny _ _ (eval (PySem.Expr.Name (PySem.Str.ofString "len") _) _) _ _ _); refine name_b (by assumption) (by assumption) (by kernel_rfl) (by kernel_rfl) (g_len _) (b_len _) (by decide +kernel) ?_) | ((with_reducible show wpAny _ _ (eval (PySem.Expr.Name (PySem.Str.ofString "sum") _) _) _ _ _); refine name_b (by assumption) (by assumption) (by kernel_rfl) (by kernel_rfl) (g_sum _) (b_sum _) (by decide +kernel) ?_) | ((with_reducible show wpAny _ _ (eval (PySem.Expr.Name (PySem.Str.ofString "_law_weight") _) (compEnvC _ _ _ _)) _ _ _); refine name_gE (by assumption) (by assumption) (by kernel_rfl) (by kernel_rfl) (by rfl) (g_lw _) (by decide +kernel) ?_) | ((with_reducible show wpAny _ _ (eval (PySem.Expr.Name (PySem.Str.ofString "ord") _) (compEnvC _ _ _ _)) _ _ _); refine name_bE (by assumption) (by assumption) (by kernel_rfl) (by kernel_rfl) (by rfl) (by rfl) (g_ord _) (b_ord _) (by decide +kernel) ?_) | ((with_reducible show wpAny _ _ (eval (PySem.Expr.Name _ _) (compEnvC _ _ _ _)) _ _ _); rename Fr _ _ _ _ => FX; refine name_lE FX (by kernel_rfl) (by kernel_rfl) (by assumption) (by decide +kernel) ?_)); try dsimp only)
      | ((with_reducible show wpAny _ _ (execs [_] _) _ _ _); refine cons_one ?_)
      | ((with_reducible show wpAny _ _ (execs (_ :: _) _) _ _ _); refine cons_gen fun _ _ _ => ?_)
      | ((rename GoN _ _ _ _ _ _ => hKN); (rename GoR _ _ => hKR); (with_reducible refine goN hKN ?_); clear hKN hKR)
      | ((rename GoN _ _ _ _ _ _ => hKN); (rename GoR _ _ => hKR); (with_reducible first | refine goR hKR ?_ | refine goCont hKR ?_); clear hKN hKR)
      | ((with_reducible show wpAny _ _ (callWith _ (Value.ref 140) _ _ _) _ _ _); refine cw_def (o := o140L w.params) (by kernel_rfl) rfl ?_ (by rfl))
      | ((with_reducible show Up _ _ ∧ _); rename Fr _ _ _ _ => FX; refine ⟨fun b o e => FX.keep _ _ (U₁ _ _ e), ?_⟩)
      | ((with_reducible show Up _ _); rename Fr _ _ _ _ => FX; exact fun b o e => FX.keep _ _ (U₁ _ _ e))
      | (walk1; try dsimp only)
      | fail "no")
    refine wpAny_mono (weight_ok (s := { heap := s₃.heap, gens := s₃.gens, drawn := s₃.drawn, toks := s₃.toks + 1, os := s₃.os }) U₃ (Nat.lt_of_le_of_lt (Nat.le_add_right (A.depth + 1) 3) hd) _ _) ?_ (fun _ _ (x : False) => x.elim)
    rintro v s' ⟨hv, G⟩
    obtain ⟨tv, rfl⟩ := tell_int hv
    rename Fr _ _ _ _ => FZ
    exact ⟨[], m₃, ⟨rfl, tv, by rw [hgd]⟩, fr_grow FZ G.keep, news_grow NK G.keep, (by intro p hp; cases hp), G.gens.trans hg₃, G.os.trans ho₃⟩
  · intro D s' yo k hlen hyo F' N' hg' ho'
    rw [own_nil hyo (fun _ _ _ _ h => h.1)] at N'
    have hI : IntsAre (yo.map (·.1)) (g.map fun c => wt ((c : Nat) : Int)) := ints_by yo _ (by rw [hlen]; simp) fun j p hj => by
      obtain ⟨v, ⟨c, u, hc, rfl⟩, _, t, e⟩ := hyo j p hj
      rw [List.getElem?_toArray] at hc
      exact ⟨t, by rw [e]; simp [List.getD, hc]⟩
    generalize (yo.map (·.1)) = ys at hI N'
    obtain ⟨h₂, g₂, d₂, k₂, o₂⟩ := s'
    dsimp only at F' N' hg' ho' ⊢
    clear F N
    repeat' (first
      | ((with_reducible show wpAny _ _ (eval (PySem.Expr.Name _ _) _) _ _ _); (first | ((with_reducible show wpAny _ _ (eval (PySem.Expr.Name (PySem.Str.ofString "len") _) _) _ _ _); refine name_b (by assumption) (by assumption) (by kernel_rfl) (by kernel_rfl) (g_len _) (b_len _) (by decide +kernel) ?_) | ((with_reducible show wpAny _ _ (eval (PySem.Expr.Name (PySem.Str.ofString "sum") _) _) _ _ _); refine name_b (by assumption) (by assumption) (by kernel_rfl) (by kernel_rfl) (g_sum _) (b_sum _) (by decide +kernel) ?_) | ((with_reducible show wpAny _ _ (eval (PySem.Expr.Name (PySem.Str.ofString "_law_weight") _) (compEnvC _ _ _ _)) _ _ _); refine name_gE (by assumption) (by assumption) (by kernel_rfl) (by kernel_rfl) (by rfl) (g_lw _) (by decide +kernel) ?_) | ((with_reducible show wpAny _ _ (eval (PySem.Expr.Name (PySem.Str.ofString "ord") _) (compEnvC _ _ _ _)) _ _ _); refine name_bE (by assumption) (by assumption) (by kernel_rfl) (by kernel_rfl) (by rfl) (by rfl) (g_ord _) (b_ord _) (by decide +kernel) ?_) | ((with_reducible show wpAny _ _ (eval (PySem.Expr.Name _ _) (compEnvC _ _ _ _)) _ _ _); rename Fr _ _ _ _ => FX; refine name_lE FX (by kernel_rfl) (by kernel_rfl) (by assumption) (by decide +kernel) ?_)); try dsimp only)
      | ((with_reducible show wpAny _ _ (execs [_] _) _ _ _); refine cons_one ?_)
      | ((with_reducible show wpAny _ _ (execs (_ :: _) _) _ _ _); refine cons_gen fun _ _ _ => ?_)
      | ((rename GoN _ _ _ _ _ _ => hKN); (rename GoR _ _ => hKR); (with_reducible refine goN hKN ?_); clear hKN hKR)
      | ((rename GoN _ _ _ _ _ _ => hKN); (rename GoR _ _ => hKR); (with_reducible first | refine goR hKR ?_ | refine goCont hKR ?_); clear hKN hKR)
      | ((with_reducible show wpAny _ _ (call (Value.builtin "sum") _) _ _ _); rename Fr _ _ _ _ => FX; rename News _ _ _ _ => NX; refine LSm.sum_ints FX NX (by exact hA) ⟨_, (NX _ (.head _)).1, rfl, _, rfl⟩ hI ?_; clear FX NX; intro h₃ k₃ t₃ F₃ N₃; rw [wt_sum]; try dsimp only)
      | ((fail_if_success (with_reducible show wpAny _ _ (exec (PySem.Stmt.While _ _ _ _) _) _ _ _)); walk1; try dsimp only)
      | fail "no")
    rename Fr _ _ _ _ => FW
    rename News _ _ _ _ => NW
    have he46 : PySem.Str.ofString "." = ⟨[46].toArray⟩ := by decide +kernel

    refine while_rule (JO l g room t tr D ys.toArray k) (n₀ := l.length) FW NW ⟨rfl, 0, [], l, l.length, ⟨by (with_unfolding_all first | rfl | exact s1 | exact s2 | exact s3 | exact s4 | exact s5 | exact s6 | exact u1 | exact u2 | exact u3 | exact u4 | exact u5 | exact u6 | exact v1 | exact v2 | exact v3 | exact v4 | exact v5 | exact v6 | exact j1 | exact j2), by (with_unfolding_all first | rfl | exact s1 | exact s2 | exact s3 | exact s4 | exact s5 | exact s6 | exact u1 | exact u2 | exact u3 | exact u4 | exact u5 | exact u6 | exact v1 | exact v2 | exact v3 | exact v4 | exact v5 | exact v6 | exact j1 | exact j2), by (with_unfolding_all first | rfl | exact s1 | exact s2 | exact s3 | exact s4 | exact s5 | exact s6 | exact u1 | exact u2 | exact u3 | exact u4 | exact u5 | exact u6 | exact v1 | exact v2 | exact v3 | exact v4 | exact v5 | exact v6 | exact j1 | exact j2), ⟨_, by (with_unfolding_all first | rfl | exact s1 | exact s2 | exact s3 | exact s4 | exact s5 | exact s6 | exact u1 | exact u2 | exact u3 | exact u4 | exact u5 | exact u6 | exact v1 | exact v2 | exact v3 | exact v4 | exact v5 | exact v6 | exact j1 | exact j2)⟩, ⟨_, by (with_unfolding_all first | rfl | exact s1 | exact s2 | exact s3 | exact s4 | exact s5 | exact s6 | exact u1 | exact u2 | exact u3 | exact u4 | exact u5 | exact u6 | exact v1 | exact v2 | exact v3 | exact v4 | exact v5 | exact v6 | exact j1 | exact j2)⟩, ⟨_, by (with_unfolding_all first | rfl | exact s1 | exact s2 | exact s3 | exact s4 | exact s5 | exact s6 | exact u1 | exact u2 | exact u3 | exact u4 | exact u5 | exact u6 | exact v1 | exact v2 | exact v3 | exact v4 | exact v5 | exact v6 | exact j1 | exact j2)⟩⟩, hg.symm, Nat.le_refl _, rfl, rfl⟩ ?_
    clear FW NW
    rintro n m₁ news₁ ⟨h₄, g₄, d₄, k₄, o₄⟩ hg₄ ho₄ F₄ N₄ ⟨rfl, p, bare, l', k', J, hdr, hlk, hbl, rfl⟩ W hW
    dsimp only at hg₄ ho₄ F₄ N₄
    obtain ⟨s1, s2, s3, ⟨tb, s4⟩, ⟨tp, s5⟩, ⟨tl, s6⟩⟩ := J
    have F₅ : Fr _ s.heap.objs.size _ _ := F₄
    clear F₄
    have hpd : (g.drop p).length = g.length - p := List.length_drop
    have hbs : bare.length ≤ 1000 := by
      have := congrArg List.length hbl
      rw [List.length_append] at this
      (clear hpd hlk hlen hsl hgs hgl hl2 hroom2 hroom hd; lia)
    cases l' with
    | nil =>
      have h0 : g.drop p = [] := by rw [hdr]; cases k' <;> simp [fRoom, dot]
      rw [h0] at hpd
      simp only [List.length_nil] at hpd
      repeat' (first
        | ((with_reducible show wpAny _ _ (eval (PySem.Expr.Name _ _) _) _ _ _); (first | ((with_reducible show wpAny _ _ (eval (PySem.Expr.Name (PySem.Str.ofString "len") _) _) _ _ _); refine name_b (by assumption) (by assumption) (by kernel_rfl) (by kernel_rfl) (g_len _) (b_len _) (by decide +kernel) ?_) | ((with_reducible show wpAny _ _ (eval (PySem.Expr.Name (PySem.Str.ofString "sum") _) _) _ _ _); refine name_b (by assumption) (by assumption) (by kernel_rfl) (by kernel_rfl) (g_sum _) (b_sum _) (by decide +kernel) ?_) | ((with_reducible show wpAny _ _ (eval (PySem.Expr.Name (PySem.Str.ofString "_law_weight") _) (compEnvC _ _ _ _)) _ _ _); refine name_gE (by assumption) (by assumption) (by kernel_rfl) (by kernel_rfl) (by rfl) (g_lw _) (by decide +kernel) ?_) | ((with_reducible show wpAny _ _ (eval (PySem.Expr.Name (PySem.Str.ofString "ord") _) (compEnvC _ _ _ _)) _ _ _); refine name_bE (by assumption) (by assumption) (by kernel_rfl) (by kernel_rfl) (by rfl) (by rfl) (g_ord _) (b_ord _) (by decide +kernel) ?_) | ((with_reducible show wpAny _ _ (eval (PySem.Expr.Name _ _) (compEnvC _ _ _ _)) _ _ _); rename Fr _ _ _ _ => FX; refine name_lE FX (by kernel_rfl) (by kernel_rfl) (by assumption) (by decide +kernel) ?_)); try dsimp only)
        | ((with_reducible show wpAny _ _ (loadName (envOf _ _ _ _ _) _) _ _ _); (with_reducible refine ldn (by assumption) (by (with_unfolding_all first | rfl | exact s1 | exact s2 | exact s3 | exact s4 | exact s5 | exact s6 | exact u1 | exact u2 | exact u3 | exact u4 | exact u5 | exact u6 | exact v1 | exact v2 | exact v3 | exact v4 | exact v5 | exact v6 | exact j1 | exact j2)) ?_ (by kernel_rfl!) (by kernel_rfl!)))
        | ((with_reducible show wpAny _ _ (eval (PySem.Expr.Name _ _) (envOf _ _ _ _ _)) _ _ _); (with_reducible refine ld (by assumption) (by (with_unfolding_all first | rfl | exact s1 | exact s2 | exact s3 | exact s4 | exact s5 | exact s6 | exact u1 | exact u2 | exact u3 | exact u4 | exact u5 | exact u6 | exact v1 | exact v2 | exact v3 | exact v4 | exact v5 | exact v6 | exact j1 | exact j2)) ?_ (by kernel_rfl!) (by kernel_rfl!) (by decide +kernel)))
        | ((with_reducible refine goW hW ?_))
        | ((with_reducible show wpAny _ _ (execs [_] _) _ _ _); refine cons_one ?_)
        | ((with_reducible show wpAny _ _ (execs (_ :: _) _) _ _ _); refine cons_gen fun _ _ _ => ?_)
        | ((rename GoN _ _ _ _ _ _ => hKN); (rename GoR _ _ => hKR); (with_reducible refine goN hKN ?_); clear hKN hKR)
        | ((rename GoN _ _ _ _ _ _ => hKN); (rename GoR _ _ => hKR); (with_reducible first | refine goR hKR ?_ | refine goCont hKR ?_); clear hKN hKR)
        | (exfalso; rename (_ : Int) < _ => hz; (clear hlk hbs hlen hsl hl2 hl hroom2 hroom hd; lia))
        | (walk1; try dsimp only)
        | fail "no")
      all_goals (rename Fr _ _ _ _ => FX; exact ⟨by show (⟨bare.toArray⟩ : PySem.Str) = ⟨l.toArray⟩; rw [← hbl, List.append_nil], FX.keep, hg₄.trans hg', ho₄.trans ho'⟩)
    | cons c r =>
      obtain ⟨k'', rfl⟩ : ∃ k'', k' = k'' + 1 := ⟨k' - 1, by simp at hlk; (clear hbs hpd hlen hsl hgs hgl hl2 hl hroom2 hroom hd; lia)⟩
      have hX : ∃ X, g.drop p = dot (c :: X) ∧ (weight (c :: r) ≤ room → X = r) ∧ (room < weight (c :: r) → ∃ a b gg, X = a ++ gg ∧ gg = fRoom room k'' b ∧ c :: r = (c :: a) ++ b ∧ weight (c :: a) < room ∧ Full room (weight (c :: a)) gg ∧ gg ≠ [] ∧ room < weight ((c :: a) ++ gg)) := by
        by_cases hw : weight (c :: r) ≤ room
        · exact ⟨r, by rw [hdr, fRoom_succ, if_pos hw], fun _ => rfl, fun q => by (clear hlk hbs hpd hlen hsl hgs hgl hl2 hl hroom2 hroom hd; lia)⟩
        · obtain ⟨a, b, gg, e1, e2, e3, e4, e5, e6, e7⟩ := turn_big hroom k'' c r (by (clear hlk hbs hpd hlen hsl hgs hgl hl2 hl hroom2 hroom hd; lia))
          exact ⟨a ++ gg, by rw [hdr, e1, dot_app], fun q => by (clear e7 e6 e4 hlk hbs hpd hlen hsl hgs hgl hl2 hl hroom2 hroom hd; lia), fun _ => ⟨a, b, gg, rfl, e2, e3, e4, e5, e6, e7⟩⟩
      obtain ⟨X, hdX, hX1, hX2⟩ := hX
      have hpl : p < g.length := by
        have := dot_head (c :: X)
        rcases Nat.lt_or_ge p g.length with q | q
        · exact q
        · rw [List.drop_of_length_le q] at hdX; rw [← hdX] at this; cases this
      have hgc : g.toArray[p]? = some c := by
        rw [List.getElem?_toArray]
        have := dot_head (c :: X)
        rw [← hdX] at this
        simpa using this
      have hq : ∃ q, g.drop q = c :: X ∧ (c = 46 → q = p + 1) ∧ (c ≠ 46 → q = p) ∧ q ≤ p + 1 := by
        by_cases h46 : c = 46
        · subst h46
          exact ⟨p + 1, (drop_get (X := 46 :: X) hdX).2.2, fun _ => rfl, fun q => absurd rfl q, Nat.le_refl _⟩
        · refine ⟨p, ?_, fun q => absurd q h46, fun _ => rfl, by (clear h46 hpl hX2 hX1 hlk hbs hpd hlen hsl hgs hgl hl2 hl hroom2 hroom hd; lia)⟩
          rw [hdX]; unfold dot; split <;> simp_all
      obtain ⟨q, hdq, hq1, hq2, hq3⟩ := hq
      have hql := drop_get hdq
      repeat' (first
        | ((with_reducible show wpAny _ _ (eval (PySem.Expr.Name _ _) _) _ _ _); (first | ((with_reducible show wpAny _ _ (eval (PySem.Expr.Name (PySem.Str.ofString "len") _) _) _ _ _); refine name_b (by assumption) (by assumption) (by kernel_rfl) (by kernel_rfl) (g_len _) (b_len _) (by decide +kernel) ?_) | ((with_reducible show wpAny _ _ (eval (PySem.Expr.Name (PySem.Str.ofString "sum") _) _) _ _ _); refine name_b (by assumption) (by assumption) (by kernel_rfl) (by kernel_rfl) (g_sum _) (b_sum _) (by decide +kernel) ?_) | ((with_reducible show wpAny _ _ (eval (PySem.Expr.Name (PySem.Str.ofString "_law_weight") _) (compEnvC _ _ _ _)) _ _ _); refine name_gE (by assumption) (by assumption) (by kernel_rfl) (by kernel_rfl) (by rfl) (g_lw _) (by decide +kernel) ?_) | ((with_reducible show wpAny _ _ (eval (PySem.Expr.Name (PySem.Str.ofString "ord") _) (compEnvC _ _ _ _)) _ _ _); refine name_bE (by assumption) (by assumption) (by kernel_rfl) (by kernel_rfl) (by rfl) (by rfl) (g_ord _) (b_ord _) (by decide +kernel) ?_) | ((with_reducible show wpAny _ _ (eval (PySem.Expr.Name _ _) (compEnvC _ _ _ _)) _ _ _); rename Fr _ _ _ _ => FX; refine name_lE FX (by kernel_rfl) (by kernel_rfl) (by assumption) (by decide +kernel) ?_)); try dsimp only)
        | ((with_reducible show wpAny _ _ (loadName (envOf _ _ _ _ _) _) _ _ _); (with_reducible refine ldn (by assumption) (by (with_unfolding_all first | rfl | exact s1 | exact s2 | exact s3 | exact s4 | exact s5 | exact s6 | exact u1 | exact u2 | exact u3 | exact u4 | exact u5 | exact u6 | exact v1 | exact v2 | exact v3 | exact v4 | exact v5 | exact v6 | exact j1 | exact j2)) ?_ (by kernel_rfl!) (by kernel_rfl!)))
        | ((with_reducible show wpAny _ _ (eval (PySem.Expr.Name _ _) (envOf _ _ _ _ _)) _ _ _); (with_reducible refine ld (by assumption) (by (with_unfolding_all first | rfl | exact s1 | exact s2 | exact s3 | exact s4 | exact s5 | exact s6 | exact u1 | exact u2 | exact u3 | exact u4 | exact u5 | exact u6 | exact v1 | exact v2 | exact v3 | exact v4 | exact v5 | exact v6 | exact j1 | exact j2)) ?_ (by kernel_rfl!) (by kernel_rfl!) (by decide +kernel)))
        | ((with_reducible refine goW hW ?_))
        | (exfalso; rename ¬ ((_ : Int) < _) => hz; (clear hql hq3 hq2 hq1 hX2 hX1 hlk hbs hpd hlen hsl hl2 hl hroom2 hroom hd; lia))
        | ((fail_if_success (with_reducible show wpAny _ _ (execs _ _) _ _ _)); walk1; try dsimp only)
        | fail "no")
      all_goals (rename Fr _ _ _ _ => FX; rename News _ _ _ _ => NX)
      refine cons_join (fun s' => ∃ mm, Fr s.heap s.heap.objs.size s'.heap mm ∧ News s.heap s.heap.objs.size s'.heap [(D, oL ys.toArray k)] ∧ s'.gens = g₄ ∧ s'.os = o₄ ∧ JF g room t tr D bare q (weight (c :: X)) mm) ?_ ?_
      · intro P hP
        have hwp : weight (g.drop p) = weight (dot (c :: X)) := by rw [hdX]
        by_cases h46 : c = 46
        · subst h46
          obtain rfl := hq1 rfl
          have hw46 : weight (g.drop p) = 1 + weight (46 :: X) := by rw [hwp]; rfl
          have hsl1 : Txt.slice ⟨g.toArray⟩ (some (((p : Nat) : Int) + 1)) (some (((p : Nat) : Int) + 2)) = ⟨[46].toArray⟩ := by
            rw [slice_take (p := p + 1) (k := 1) (by (clear hw46 hql hq2 hq1 hq3 hwp hX2 hX1 hlk hpl hbs hpd hlen hsl hgs hgl hl2 hl hroom2 hroom hd; lia)) (by (clear hw46 hql hq2 hq1 hq3 hwp hX2 hX1 hlk hpl hbs hpd hlen hsl hgs hgl hl2 hl hroom2 hroom hd; lia)) (by rw [hgs]; have := hql.2.1; (clear this hw46 hq2 hq1 hq3 hwp hX2 hX1 hlk hpl hbs hpd hlen hsl hl2 hl hroom2 hroom hd; lia))]
            show (⟨((g.drop (p + 1)).take 1).toArray⟩ : PySem.Str) = _
            rw [hdq]; rfl
          have hb1 : ((⟨#[46]⟩ : PySem.Str) == PySem.Str.ofString ".") = true := by decide +kernel
          have hb2 : ((⟨#[46]⟩ : PySem.Str) != PySem.Str.ofString ".") = false := by decide +kernel
          repeat' (first
            | ((with_reducible show wpAny _ _ (eval (PySem.Expr.Name _ _) _) _ _ _); (first | ((with_reducible show wpAny _ _ (eval (PySem.Expr.Name (PySem.Str.ofString "len") _) _) _ _ _); refine name_b (by assumption) (by assumption) (by kernel_rfl) (by kernel_rfl) (g_len _) (b_len _) (by decide +kernel) ?_) | ((with_reducible show wpAny _ _ (eval (PySem.Expr.Name (PySem.Str.ofString "sum") _) _) _ _ _); refine name_b (by assumption) (by assumption) (by kernel_rfl) (by kernel_rfl) (g_sum _) (b_sum _) (by decide +kernel) ?_) | ((with_reducible show wpAny _ _ (eval (PySem.Expr.Name (PySem.Str.ofString "_law_weight") _) (compEnvC _ _ _ _)) _ _ _); refine name_gE (by assumption) (by assumption) (by kernel_rfl) (by kernel_rfl) (by rfl) (g_lw _) (by decide +kernel) ?_) | ((with_reducible show wpAny _ _ (eval (PySem.Expr.Name (PySem.Str.ofString "ord") _) (compEnvC _ _ _ _)) _ _ _); refine name_bE (by assumption) (by assumption) (by kernel_rfl) (by kernel_rfl) (by rfl) (by rfl) (g_ord _) (b_ord _) (by decide +kernel) ?_) | ((with_reducible show wpAny _ _ (eval (PySem.Expr.Name _ _) (compEnvC _ _ _ _)) _ _ _); rename Fr _ _ _ _ => FX; refine name_lE FX (by kernel_rfl) (by kernel_rfl) (by assumption) (by decide +kernel) ?_)); try dsimp only)
            | ((with_reducible show wpAny _ _ (loadName (envOf _ _ _ _ _) _) _ _ _); (with_reducible refine ldn (by assumption) (by (with_unfolding_all first | rfl | exact s1 | exact s2 | exact s3 | exact s4 | exact s5 | exact s6 | exact u1 | exact u2 | exact u3 | exact u4 | exact u5 | exact u6 | exact v1 | exact v2 | exact v3 | exact v4 | exact v5 | exact v6 | exact j1 | exact j2)) ?_ (by kernel_rfl!) (by kernel_rfl!)))
            | ((with_reducible show wpAny _ _ (eval (PySem.Expr.Name _ _) (envOf _ _ _ _ _)) _ _ _); (with_reducible refine ld (by assumption) (by (with_unfolding_all first | rfl | exact s1 | exact s2 | exact s3 | exact s4 | exact s5 | exact s6 | exact u1 | exact u2 | exact u3 | exact u4 | exact u5 | exact u6 | exact v1 | exact v2 | exact v3 | exact v4 | exact v5 | exact v6 | exact j1 | exact j2)) ?_ (by kernel_rfl!) (by kernel_rfl!) (by decide +kernel)))
            | ((with_reducible refine goW hW ?_))
            | ((with_reducible show wpAny _ _ (execs [_] _) _ _ _); refine cons_one ?_)
            | ((with_reducible show wpAny _ _ (execs (_ :: _) _) _ _ _); refine cons_gen fun _ _ _ => ?_)
            | ((rename GoN _ _ _ _ _ _ => hKN); (rename GoR _ _ => hKR); (with_reducible refine goN hKN ?_); clear hKN hKR)
            | ((rename GoN _ _ _ _ _ _ => hKN); (rename GoR _ _ => hKR); (with_reducible first | refine goR hKR ?_ | refine goCont hKR ?_); clear hKN hKR)
            | (exfalso; rename (_ == _) = false => hb; rw [hb1] at hb; cases hb; done)
            | (exfalso; rename (_ != _) = true => hb; rw [hsl1, hb2] at hb; cases hb; done)
            | ((with_reducible show wpAny _ _ (subscriptTail _ _ (Value.str _ _) (Value.int _ _)) _ _ _); refine char_at p rfl hgc (by rw [hgs]; (clear hw46 hql hq2 hq1 hq3 hwp hX2 hX1 hlk hpl hbs hpd hlen hsl hl hroom2 hroom hd; lia)) ?_ (by with_unfolding_all rfl) (by intro _; with_unfolding_all rfl); try dsimp only)
            | (walk1; try dsimp only)
            | fail "no")
          all_goals (rename Fr _ _ _ _ => FZ; rename News _ _ _ _ => NZ)
          exact hP _ _ ⟨rfl, _, FZ, NZ, rfl, rfl, by (with_unfolding_all first | rfl | exact s1 | exact s2 | exact s3 | exact s4 | exact s5 | exact s6 | exact u1 | exact u2 | exact u3 | exact u4 | exact u5 | exact u6 | exact v1 | exact v2 | exact v3 | exact v4 | exact v5 | exact v6 | exact j1 | exact j2), by (with_unfolding_all first | rfl | exact s1 | exact s2 | exact s3 | exact s4 | exact s5 | exact s6 | exact u1 | exact u2 | exact u3 | exact u4 | exact u5 | exact u6 | exact v1 | exact v2 | exact v3 | exact v4 | exact v5 | exact v6 | exact j1 | exact j2), by (with_unfolding_all first | rfl | exact s1 | exact s2 | exact s3 | exact s4 | exact s5 | exact s6 | exact u1 | exact u2 | exact u3 | exact u4 | exact u5 | exact u6 | exact v1 | exact v2 | exact v3 | exact v4 | exact v5 | exact v6 | exact j1 | exact j2), ⟨_, by (with_unfolding_all first | rfl | exact s1 | exact s2 | exact s3 | exact s4 | exact s5 | exact s6 | exact u1 | exact u2 | exact u3 | exact u4 | exact u5 | exact u6 | exact v1 | exact v2 | exact v3 | exact v4 | exact v5 | exact v6 | exact j1 | exact j2)⟩, ⟨_, by rw [show ((p + 1 : Nat) : Int) = ((p : Nat) : Int) + 1 from by (clear hw46 hql hq2 hq1 hq3 hwp hX2 hX1 hlk hpl hbs hpd hlen hsl hgs hgl hl2 hl hroom2 hroom hd; lia)]; (with_unfolding_all first | rfl | exact s1 | exact s2 | exact s3 | exact s4 | exact s5 | exact s6 | exact u1 | exact u2 | exact u3 | exact u4 | exact u5 | exact u6 | exact v1 | exact v2 | exact v3 | exact v4 | exact v5 | exact v6 | exact j1 | exact j2)⟩, ⟨_, by rw [show ((weight (46 :: X) : Nat) : Int) = ((weight (g.drop p) : Nat) : Int) - 1 from by (clear hql hq2 hq1 hq3 hX2 hX1 hlk hpl hbs hpd hlen hsl hgs hgl hl2 hl hroom2 hroom hd; lia)]; (with_unfolding_all first | rfl | exact s1 | exact s2 | exact s3 | exact s4 | exact s5 | exact s6 | exact u1 | exact u2 | exact u3 | exact u4 | exact u5 | exact u6 | exact v1 | exact v2 | exact v3 | exact v4 | exact v5 | exact v6 | exact j1 | exact j2)⟩⟩
        · obtain rfl := hq2 h46
          have hb1 : ((⟨#[c]⟩ : PySem.Str) == PySem.Str.ofString ".") = false := by
            rw [he46]
            have : ¬ ((⟨#[c]⟩ : PySem.Str) = ⟨[46].toArray⟩) := fun q => h46 (by
              have := congrArg (fun z => z.cps.toList) q
              simpa using this)
            simpa using this
          repeat' (first
            | ((with_reducible show wpAny _ _ (eval (PySem.Expr.Name _ _) _) _ _ _); (first | ((with_reducible show wpAny _ _ (eval (PySem.Expr.Name (PySem.Str.ofString "len") _) _) _ _ _); refine name_b (by assumption) (by assumption) (by kernel_rfl) (by kernel_rfl) (g_len _) (b_len _) (by decide +kernel) ?_) | ((with_reducible show wpAny _ _ (eval (PySem.Expr.Name (PySem.Str.ofString "sum") _) _) _ _ _); refine name_b (by assumption) (by assumption) (by kernel_rfl) (by kernel_rfl) (g_sum _) (b_sum _) (by decide +kernel) ?_) | ((with_reducible show wpAny _ _ (eval (PySem.Expr.Name (PySem.Str.ofString "_law_weight") _) (compEnvC _ _ _ _)) _ _ _); refine name_gE (by assumption) (by assumption) (by kernel_rfl) (by kernel_rfl) (by rfl) (g_lw _) (by decide +kernel) ?_) | ((with_reducible show wpAny _ _ (eval (PySem.Expr.Name (PySem.Str.ofString "ord") _) (compEnvC _ _ _ _)) _ _ _); refine name_bE (by assumption) (by assumption) (by kernel_rfl) (by kernel_rfl) (by rfl) (by rfl) (g_ord _) (b_ord _) (by decide +kernel) ?_) | ((with_reducible show wpAny _ _ (eval (PySem.Expr.Name _ _) (compEnvC _ _ _ _)) _ _ _); rename Fr _ _ _ _ => FX; refine name_lE FX (by kernel_rfl) (by kernel_rfl) (by assumption) (by decide +kernel) ?_)); try dsimp only)
            | ((with_reducible show wpAny _ _ (loadName (envOf _ _ _ _ _) _) _ _ _); (with_reducible refine ldn (by assumption) (by (with_unfolding_all first | rfl | exact s1 | exact s2 | exact s3 | exact s4 | exact s5 | exact s6 | exact u1 | exact u2 | exact u3 | exact u4 | exact u5 | exact u6 | exact v1 | exact v2 | exact v3 | exact v4 | exact v5 | exact v6 | exact j1 | exact j2)) ?_ (by kernel_rfl!) (by kernel_rfl!)))
            | ((with_reducible show wpAny _ _ (eval (PySem.Expr.Name _ _) (envOf _ _ _ _ _)) _ _ _); (with_reducible refine ld (by assumption) (by (with_unfolding_all first | rfl | exact s1 | exact s2 | exact s3 | exact s4 | exact s5 | exact s6 | exact u1 | exact u2 | exact u3 | exact u4 | exact u5 | exact u6 | exact v1 | exact v2 | exact v3 | exact v4 | exact v5 | exact v6 | exact j1 | exact j2)) ?_ (by kernel_rfl!) (by kernel_rfl!) (by decide +kernel)))
            | ((with_reducible refine goW hW ?_))
            | ((with_reducible show wpAny _ _ (execs [_] _) _ _ _); refine cons_one ?_)
            | ((with_reducible show wpAny _ _ (execs (_ :: _) _) _ _ _); refine cons_gen fun _ _ _ => ?_)
            | ((rename GoN _ _ _ _ _ _ => hKN); (rename GoR _ _ => hKR); (with_reducible refine goN hKN ?_); clear hKN hKR)
            | ((rename GoN _ _ _ _ _ _ => hKN); (rename GoR _ _ => hKR); (with_reducible first | refine goR hKR ?_ | refine goCont hKR ?_); clear hKN hKR)
            | (exfalso; rename (_ == _) = true => hb; rw [hb1] at hb; cases hb; done)
            | ((with_reducible show wpAny _ _ (subscriptTail _ _ (Value.str _ _) (Value.int _ _)) _ _ _); refine char_at q rfl hgc (by rw [hgs]; (clear hwp hq3 hq2 hq1 hpl hpd h46 hql hX2 hX1 hlk hbs hlen hsl hl hroom2 hroom hd; lia)) ?_ (by with_unfolding_all rfl) (by intro _; with_unfolding_all rfl); try dsimp only)
            | (walk1; try dsimp only)
            | fail "no")
          all_goals (rename Fr _ _ _ _ => FZ; rename News _ _ _ _ => NZ)
          exact hP _ _ ⟨rfl, _, FZ, NZ, rfl, rfl, by (with_unfolding_all first | rfl | exact s1 | exact s2 | exact s3 | exact s4 | exact s5 | exact s6 | exact u1 | exact u2 | exact u3 | exact u4 | exact u5 | exact u6 | exact v1 | exact v2 | exact v3 | exact v4 | exact v5 | exact v6 | exact j1 | exact j2), by (with_unfolding_all first | rfl | exact s1 | exact s2 | exact s3 | exact s4 | exact s5 | exact s6 | exact u1 | exact u2 | exact u3 | exact u4 | exact u5 | exact u6 | exact v1 | exact v2 | exact v3 | exact v4 | exact v5 | exact v6 | exact j1 | exact j2), by (with_unfolding_all first | rfl | exact s1 | exact s2 | exact s3 | exact s4 | exact s5 | exact s6 | exact u1 | exact u2 | exact u3 | exact u4 | exact u5 | exact u6 | exact v1 | exact v2 | exact v3 | exact v4 | exact v5 | exact v6 | exact j1 | exact j2), ⟨_, by (with_unfolding_all first | rfl | exact s1 | exact s2 | exact s3 | exact s4 | exact s5 | exact s6 | exact u1 | exact u2 | exact u3 | exact u4 | exact u5 | exact u6 | exact v1 | exact v2 | exact v3 | exact v4 | exact v5 | exact v6 | exact j1 | exact j2)⟩, ⟨_, by (with_unfolding_all first | rfl | exact s1 | exact s2 | exact s3 | exact s4 | exact s5 | exact s6 | exact u1 | exact u2 | exact u3 | exact u4 | exact u5 | exact u6 | exact v1 | exact v2 | exact v3 | exact v4 | exact v5 | exact v6 | exact j1 | exact j2)⟩, ⟨_, by rw [← hdq]; (with_unfolding_all first | rfl | exact s1 | exact s2 | exact s3 | exact s4 | exact s5 | exact s6 | exact u1 | exact u2 | exact u3 | exact u4 | exact u5 | exact u6 | exact v1 | exact v2 | exact v3 | exact v4 | exact v5 | exact v6 | exact j1 | exact j2)⟩⟩
      · clear FX NX
        rintro ⟨h₅, g₅, d₅, k₅, o₅⟩ ⟨mm, F₆, N₆, rfl, rfl, J₆⟩
        dsimp only at F₆ N₆
        obtain ⟨u1, u2, u3, ⟨tb', u4⟩, ⟨tp', u5⟩, ⟨tl', u6⟩⟩ := J₆
        have F₇ : Fr _ s.heap.objs.size _ _ := F₆
        clear F₆
        by_cases hw : weight (c :: r) ≤ room
        · obtain rfl := hX1 hw
          have hsl2 := slice_from (y := ⟨g.toArray⟩) (i := ((q : Nat) : Int)) (p := q) rfl (by rw [hgs]; (clear hw hX2 hX1 hlk hq3 hq2 hq1 hpl hbs hpd hlen hsl hl2 hl hroom2 hroom hd; lia))
          have hcrl : (c :: X).length ≤ 2000 := by rw [← hdq, List.length_drop]; (clear hw hX2 hX1 hlk hq3 hq2 hq1 hbs hpd hlen hsl hl hroom2 hroom hd; lia)
          repeat' (first
            | ((with_reducible show wpAny _ _ (eval (PySem.Expr.Name _ _) _) _ _ _); (first | ((with_reducible show wpAny _ _ (eval (PySem.Expr.Name (PySem.Str.ofString "len") _) _) _ _ _); refine name_b (by assumption) (by assumption) (by kernel_rfl) (by kernel_rfl) (g_len _) (b_len _) (by decide +kernel) ?_) | ((with_reducible show wpAny _ _ (eval (PySem.Expr.Name (PySem.Str.ofString "sum") _) _) _ _ _); refine name_b (by assumption) (by assumption) (by kernel_rfl) (by kernel_rfl) (g_sum _) (b_sum _) (by decide +kernel) ?_) | ((with_reducible show wpAny _ _ (eval (PySem.Expr.Name (PySem.Str.ofString "_law_weight") _) (compEnvC _ _ _ _)) _ _ _); refine name_gE (by assumption) (by assumption) (by kernel_rfl) (by kernel_rfl) (by rfl) (g_lw _) (by decide +kernel) ?_) | ((with_reducible show wpAny _ _ (eval (PySem.Expr.Name (PySem.Str.ofString "ord") _) (compEnvC _ _ _ _)) _ _ _); refine name_bE (by assumption) (by assumption) (by kernel_rfl) (by kernel_rfl) (by rfl) (by rfl) (g_ord _) (b_ord _) (by decide +kernel) ?_) | ((with_reducible show wpAny _ _ (eval (PySem.Expr.Name _ _) (compEnvC _ _ _ _)) _ _ _); rename Fr _ _ _ _ => FX; refine name_lE FX (by kernel_rfl) (by kernel_rfl) (by assumption) (by decide +kernel) ?_)); try dsimp only)
            | ((with_reducible show wpAny _ _ (loadName (envOf _ _ _ _ _) _) _ _ _); (with_reducible refine ldn (by assumption) (by (with_unfolding_all first | rfl | exact s1 | exact s2 | exact s3 | exact s4 | exact s5 | exact s6 | exact u1 | exact u2 | exact u3 | exact u4 | exact u5 | exact u6 | exact v1 | exact v2 | exact v3 | exact v4 | exact v5 | exact v6 | exact j1 | exact j2)) ?_ (by kernel_rfl!) (by kernel_rfl!)))
            | ((with_reducible show wpAny _ _ (eval (PySem.Expr.Name _ _) (envOf _ _ _ _ _)) _ _ _); (with_reducible refine ld (by assumption) (by (with_unfolding_all first | rfl | exact s1 | exact s2 | exact s3 | exact s4 | exact s5 | exact s6 | exact u1 | exact u2 | exact u3 | exact u4 | exact u5 | exact u6 | exact v1 | exact v2 | exact v3 | exact v4 | exact v5 | exact v6 | exact j1 | exact j2)) ?_ (by kernel_rfl!) (by kernel_rfl!) (by decide +kernel)))
            | ((with_reducible refine goW hW ?_))
            | ((with_reducible show wpAny _ _ (execs [_] _) _ _ _); refine cons_one ?_)
            | ((with_reducible show wpAny _ _ (execs (_ :: _) _) _ _ _); refine cons_gen fun _ _ _ => ?_)
            | ((rename GoN _ _ _ _ _ _ => hKN); (rename GoR _ _ => hKR); (with_reducible refine goN hKN ?_); clear hKN hKR)
            | ((rename GoN _ _ _ _ _ _ => hKN); (rename GoR _ _ => hKR); (with_reducible first | refine goR hKR ?_ | refine goCont hKR ?_); clear hKN hKR)
            | (exfalso; rename ¬ ((_ : Int) ≤ _) => hz; (clear hcrl hX2 hX1 hlk hql hq3 hq2 hq1 hpl hbs hpd hlen hsl hgs hgl hl2 hl hroom2 hroom hd; lia))
            | ((with_reducible show wpAny _ _ (binaryOp Operator.Add (Value.str _ _) (Value.str _ _)) _ _ _); rw [hsl2]; refine badd_l (by show bare.length + (g.drop q).length ≤ _; rw [hdq]; (clear hw hX2 hX1 hlk hql hq3 hq2 hq1 hpl hpd hlen hsl hgs hgl hl2 hl hroom2 hroom hd; lia)) ?_; intro _ _; try dsimp only)
            | (walk1; try dsimp only)
            | fail "no")
          all_goals (rename Fr _ _ _ _ => FZ)
          exact ⟨by show (⟨(bare ++ g.drop q).toArray⟩ : PySem.Str) = ⟨l.toArray⟩; rw [hdq, hbl], FZ.keep, hg₄.trans hg', ho₄.trans ho'⟩
        · obtain ⟨a, b, gg, rfl, rfl, hcr, hwa, hfl, hgn, hwg⟩ := hX2 (by (clear hql hq3 hq2 hq1 hpl hX2 hX1 hlk hbs hpd hlen hsl hgs hgl hl2 hl hroom2 hroom hd; lia))
          have hwg' : room < weight (c :: (a ++ fRoom room k'' b)) := hwg
          repeat' (first
            | ((with_reducible show wpAny _ _ (eval (PySem.Expr.Name _ _) _) _ _ _); (first | ((with_reducible show wpAny _ _ (eval (PySem.Expr.Name (PySem.Str.ofString "len") _) _) _ _ _); refine name_b (by assumption) (by assumption) (by kernel_rfl) (by kernel_rfl) (g_len _) (b_len _) (by decide +kernel) ?_) | ((with_reducible show wpAny _ _ (eval (PySem.Expr.Name (PySem.Str.ofString "sum") _) _) _ _ _); refine name_b (by assumption) (by assumption) (by kernel_rfl) (by kernel_rfl) (g_sum _) (b_sum _) (by decide +kernel) ?_) | ((with_reducible show wpAny _ _ (eval (PySem.Expr.Name (PySem.Str.ofString "_law_weight") _) (compEnvC _ _ _ _)) _ _ _); refine name_gE (by assumption) (by assumption) (by kernel_rfl) (by kernel_rfl) (by rfl) (g_lw _) (by decide +kernel) ?_) | ((with_reducible show wpAny _ _ (eval (PySem.Expr.Name (PySem.Str.ofString "ord") _) (compEnvC _ _ _ _)) _ _ _); refine name_bE (by assumption) (by assumption) (by kernel_rfl) (by kernel_rfl) (by rfl) (by rfl) (g_ord _) (b_ord _) (by decide +kernel) ?_) | ((with_reducible show wpAny _ _ (eval (PySem.Expr.Name _ _) (compEnvC _ _ _ _)) _ _ _); rename Fr _ _ _ _ => FX; refine name_lE FX (by kernel_rfl) (by kernel_rfl) (by assumption) (by decide +kernel) ?_)); try dsimp only)
            | ((with_reducible show wpAny _ _ (loadName (envOf _ _ _ _ _) _) _ _ _); (with_reducible refine ldn (by assumption) (by (with_unfolding_all first | rfl | exact s1 | exact s2 | exact s3 | exact s4 | exact s5 | exact s6 | exact u1 | exact u2 | exact u3 | exact u4 | exact u5 | exact u6 | exact v1 | exact v2 | exact v3 | exact v4 | exact v5 | exact v6 | exact j1 | exact j2)) ?_ (by kernel_rfl!) (by kernel_rfl!)))
            | ((with_reducible show wpAny _ _ (eval (PySem.Expr.Name _ _) (envOf _ _ _ _ _)) _ _ _); (with_reducible refine ld (by assumption) (by (with_unfolding_all first | rfl | exact s1 | exact s2 | exact s3 | exact s4 | exact s5 | exact s6 | exact u1 | exact u2 | exact u3 | exact u4 | exact u5 | exact u6 | exact v1 | exact v2 | exact v3 | exact v4 | exact v5 | exact v6 | exact j1 | exact j2)) ?_ (by kernel_rfl!) (by kernel_rfl!) (by decide +kernel)))
            | ((with_reducible refine goW hW ?_))
            | ((with_reducible show wpAny _ _ (execs [_] _) _ _ _); refine cons_one ?_)
            | ((with_reducible show wpAny _ _ (execs (_ :: _) _) _ _ _); refine cons_gen fun _ _ _ => ?_)
            | ((rename GoN _ _ _ _ _ _ => hKN); (rename GoR _ _ => hKR); (with_reducible refine goN hKN ?_); clear hKN hKR)
            | ((rename GoN _ _ _ _ _ _ => hKN); (rename GoR _ _ => hKR); (with_reducible first | refine goR hKR ?_ | refine goCont hKR ?_); clear hKN hKR)
            | (exfalso; rename (_ : Int) ≤ _ => hz; (clear hwg hgn hwa hql hX2 hX1 hw hq3 hq2 hq1 hpl hlk hbs hpd hlen hsl hgs hgl hl2 hl hroom2 hroom hd; lia))
            | ((fail_if_success (with_reducible show wpAny _ _ (exec (PySem.Stmt.While _ _ _ _) _) _ _ _)); walk1; try dsimp only)
            | fail "no")
          all_goals (rename Fr _ _ _ _ => FZ; rename News _ _ _ _ => NZ)
          have hdq' : g.drop q = (c :: a) ++ fRoom room k'' b := hdq
          have hla : (c :: a).length ≤ 2000 := by
            have := congrArg List.length hdq'
            rw [List.length_append, List.length_drop] at this
            (clear hwg' hwg hgn hwa hX2 hX1 hw hq3 hq2 hq1 hlk hbs hpd hlen hsl hl hroom2 hroom hd; lia)
          refine while_rule (JI g room t tr D ys.toArray k bare q (weight ((c :: a) ++ fRoom room k'' b)) (c :: a)) (n₀ := (c :: a).length) FZ NZ ⟨rfl, 0, Nat.zero_le _, rfl, ⟨by (with_unfolding_all first | rfl | exact s1 | exact s2 | exact s3 | exact s4 | exact s5 | exact s6 | exact u1 | exact u2 | exact u3 | exact u4 | exact u5 | exact u6 | exact v1 | exact v2 | exact v3 | exact v4 | exact v5 | exact v6 | exact j1 | exact j2), by (with_unfolding_all first | rfl | exact s1 | exact s2 | exact s3 | exact s4 | exact s5 | exact s6 | exact u1 | exact u2 | exact u3 | exact u4 | exact u5 | exact u6 | exact v1 | exact v2 | exact v3 | exact v4 | exact v5 | exact v6 | exact j1 | exact j2), by (with_unfolding_all first | rfl | exact s1 | exact s2 | exact s3 | exact s4 | exact s5 | exact s6 | exact u1 | exact u2 | exact u3 | exact u4 | exact u5 | exact u6 | exact v1 | exact v2 | exact v3 | exact v4 | exact v5 | exact v6 | exact j1 | exact j2), ⟨_, by (with_unfolding_all first | rfl | exact s1 | exact s2 | exact s3 | exact s4 | exact s5 | exact s6 | exact u1 | exact u2 | exact u3 | exact u4 | exact u5 | exact u6 | exact v1 | exact v2 | exact v3 | exact v4 | exact v5 | exact v6 | exact j1 | exact j2)⟩, ⟨_, by (with_unfolding_all first | rfl | exact s1 | exact s2 | exact s3 | exact s4 | exact s5 | exact s6 | exact u1 | exact u2 | exact u3 | exact u4 | exact u5 | exact u6 | exact v1 | exact v2 | exact v3 | exact v4 | exact v5 | exact v6 | exact j1 | exact j2)⟩, ⟨_, by (with_unfolding_all first | rfl | exact s1 | exact s2 | exact s3 | exact s4 | exact s5 | exact s6 | exact u1 | exact u2 | exact u3 | exact u4 | exact u5 | exact u6 | exact v1 | exact v2 | exact v3 | exact v4 | exact v5 | exact v6 | exact j1 | exact j2)⟩⟩, ⟨_, by (with_unfolding_all first | rfl | exact s1 | exact s2 | exact s3 | exact s4 | exact s5 | exact s6 | exact u1 | exact u2 | exact u3 | exact u4 | exact u5 | exact u6 | exact v1 | exact v2 | exact v3 | exact v4 | exact v5 | exact v6 | exact j1 | exact j2)⟩, ⟨_, by (with_unfolding_all first | rfl | exact s1 | exact s2 | exact s3 | exact s4 | exact s5 | exact s6 | exact u1 | exact u2 | exact u3 | exact u4 | exact u5 | exact u6 | exact v1 | exact v2 | exact v3 | exact v4 | exact v5 | exact v6 | exact j1 | exact j2)⟩⟩ ?_
          clear FZ NZ
          rintro n m₃ news₃ ⟨h₇, g₇, d₇, k₇, o₇⟩ hg₇ ho₇ F₈ N₈ ⟨rfl, j, hj, rfl, J₈, ⟨ts, j1⟩, ⟨tz, j2⟩⟩ V hV
          dsimp only at hg₇ ho₇ F₈ N₈
          obtain ⟨v1, v2, v3, ⟨tb₂, v4⟩, ⟨tp₂, v5⟩, ⟨tl₂, v6⟩⟩ := J₈
          have F₉ : Fr _ s.heap.objs.size _ _ := F₈
          clear F₈
          obtain ⟨z, hz⟩ : ∃ z, g[q + j]? = some z := by
            have h1 : q + j < g.length := by
              have := congrArg List.length hdq'
              rw [List.length_append, List.length_drop] at this
              have h2 : 0 < (fRoom room k'' b).length := List.length_pos_iff.mpr hgn
              (clear hla hwg' hwg hgn hwa hX2 hX1 hw hq3 hq2 hq1 hpl hlk hbs hpd hlen hsl hl2 hl hroom2 hroom hd; lia)
            exact ⟨g[q + j], List.getElem?_eq_getElem h1⟩
          have hzd : ((c :: a) ++ fRoom room k'' b)[j]? = some z := by
            rw [← hdq', List.getElem?_drop]; exact hz
          have hzi : ∃ tv, ys[q + j]? = some (.int ((wtN z : Nat) : Int) tv) := by
            refine ints_get hI ?_
            rw [List.getElem?_map, hz, ← wt_nat]; rfl
          obtain ⟨tv, hzi⟩ := hzi
          have hzi' : ys.toArray[q + j]? = some (.int ((wtN z : Nat) : Int) tv) := by rw [List.getElem?_toArray]; exact hzi
          have hqj : q + j ≤ 100000 := by
            have h1 : q + j < g.length := (List.getElem?_eq_some_iff.mp hz).1
            (clear hj hla hwg' hwg hgn hwa hql hX2 hX1 hw hq3 hq2 hq1 hpl hlk hbs hpd hlen hsl hl hroom2 hroom hd; lia)
          have hyl : s.heap.get? D = none := (N₈ _ (.head _)).2.2
          rcases Nat.lt_or_ge j (c :: a).length with hjl | hjl
          · have haj : (c :: a)[j]? = some z := by rw [List.getElem?_append_left hjl] at hzd; exact hzd
            have hwt := weight_take haj
            repeat' (first
              | ((with_reducible show wpAny _ _ (eval (PySem.Expr.Name _ _) _) _ _ _); (first | ((with_reducible show wpAny _ _ (eval (PySem.Expr.Name (PySem.Str.ofString "len") _) _) _ _ _); refine name_b (by assumption) (by assumption) (by kernel_rfl) (by kernel_rfl) (g_len _) (b_len _) (by decide +kernel) ?_) | ((with_reducible show wpAny _ _ (eval (PySem.Expr.Name (PySem.Str.ofString "sum") _) _) _ _ _); refine name_b (by assumption) (by assumption) (by kernel_rfl) (by kernel_rfl) (g_sum _) (b_sum _) (by decide +kernel) ?_) | ((with_reducible show wpAny _ _ (eval (PySem.Expr.Name (PySem.Str.ofString "_law_weight") _) (compEnvC _ _ _ _)) _ _ _); refine name_gE (by assumption) (by assumption) (by kernel_rfl) (by kernel_rfl) (by rfl) (g_lw _) (by decide +kernel) ?_) | ((with_reducible show wpAny _ _ (eval (PySem.Expr.Name (PySem.Str.ofString "ord") _) (compEnvC _ _ _ _)) _ _ _); refine name_bE (by assumption) (by assumption) (by kernel_rfl) (by kernel_rfl) (by rfl) (by rfl) (g_ord _) (b_ord _) (by decide +kernel) ?_) | ((with_reducible show wpAny _ _ (eval (PySem.Expr.Name _ _) (compEnvC _ _ _ _)) _ _ _); rename Fr _ _ _ _ => FX; refine name_lE FX (by kernel_rfl) (by kernel_rfl) (by assumption) (by decide +kernel) ?_)); try dsimp only)
              | ((with_reducible show wpAny _ _ (loadName (envOf _ _ _ _ _) _) _ _ _); (with_reducible refine ldn (by assumption) (by (with_unfolding_all first | rfl | exact s1 | exact s2 | exact s3 | exact s4 | exact s5 | exact s6 | exact u1 | exact u2 | exact u3 | exact u4 | exact u5 | exact u6 | exact v1 | exact v2 | exact v3 | exact v4 | exact v5 | exact v6 | exact j1 | exact j2)) ?_ (by kernel_rfl!) (by kernel_rfl!)))
              | ((with_reducible show wpAny _ _ (eval (PySem.Expr.Name _ _) (envOf _ _ _ _ _)) _ _ _); (with_reducible refine ld (by assumption) (by (with_unfolding_all first | rfl | exact s1 | exact s2 | exact s3 | exact s4 | exact s5 | exact s6 | exact u1 | exact u2 | exact u3 | exact u4 | exact u5 | exact u6 | exact v1 | exact v2 | exact v3 | exact v4 | exact v5 | exact v6 | exact j1 | exact j2)) ?_ (by kernel_rfl!) (by kernel_rfl!) (by decide +kernel)))
              | ((with_reducible refine goW hW ?_))
              | ((with_reducible show wpAny _ _ (execs [_] _) _ _ _); refine cons_one ?_)
              | ((with_reducible show wpAny _ _ (execs (_ :: _) _) _ _ _); refine cons_gen fun _ _ _ => ?_)
              | ((rename GoN _ _ _ _ _ _ => hKN); (rename GoR _ _ => hKR); (with_reducible refine goN hKN ?_); clear hKN hKR)
              | ((rename GoN _ _ _ _ _ _ => hKN); (rename GoR _ _ => hKR); (with_reducible first | refine goR hKR ?_ | refine goCont hKR ?_); clear hKN hKR)
              | (exfalso; rename ¬ ((_ : Int) < _) => hz; (clear hjl hqj hj hla hwg' hwg hgn hql hX2 hX1 hw hq3 hq2 hq1 hpl hlk hbs hpd hlen hsl hgs hgl hl2 hl hroom2 hroom hd; lia))
              | ((with_reducible show wpAny _ _ (subscriptTail _ _ (Value.ref _) (Value.int _ _)) _ _ _); rename News _ _ _ _ => NX; refine item_int (n := q + j) ⟨_, (NX _ (.head _)).1, rfl, _, rfl⟩ rfl hqj hzi' ?_ (by with_unfolding_all rfl); try dsimp only)
              | (walk1; try dsimp only)
              | fail "no")
            rename Fr _ _ _ _ => FZ
            rename News _ _ _ _ => NZ
            exact hV _ _ ⟨_, _, (c :: a).length - (j + 1), FZ, NZ, hg₇, ho₇, by (clear hwt hqj hj hla hwg' hwg hgn hwa hql hX2 hX1 hw hq3 hq2 hq1 hpl hlk hbs hpd hlen hsl hgs hgl hl2 hl hroom2 hroom hd; lia), rfl, j + 1, hjl, rfl, ⟨by (with_unfolding_all first | rfl | exact s1 | exact s2 | exact s3 | exact s4 | exact s5 | exact s6 | exact u1 | exact u2 | exact u3 | exact u4 | exact u5 | exact u6 | exact v1 | exact v2 | exact v3 | exact v4 | exact v5 | exact v6 | exact j1 | exact j2), by (with_unfolding_all first | rfl | exact s1 | exact s2 | exact s3 | exact s4 | exact s5 | exact s6 | exact u1 | exact u2 | exact u3 | exact u4 | exact u5 | exact u6 | exact v1 | exact v2 | exact v3 | exact v4 | exact v5 | exact v6 | exact j1 | exact j2), by (with_unfolding_all first | rfl | exact s1 | exact s2 | exact s3 | exact s4 | exact s5 | exact s6 | exact u1 | exact u2 | exact u3 | exact u4 | exact u5 | exact u6 | exact v1 | exact v2 | exact v3 | exact v4 | exact v5 | exact v6 | exact j1 | exact j2), ⟨_, by (with_unfolding_all first | rfl | exact s1 | exact s2 | exact s3 | exact s4 | exact s5 | exact s6 | exact u1 | exact u2 | exact u3 | exact u4 | exact u5 | exact u6 | exact v1 | exact v2 | exact v3 | exact v4 | exact v5 | exact v6 | exact j1 | exact j2)⟩, ⟨_, by rw [show ((q + (j + 1) : Nat) : Int) = ((q + j : Nat) : Int) + 1 from by (clear hwt hjl hqj hj hla hwg' hwg hgn hwa hql hX2 hX1 hw hq3 hq2 hq1 hpl hlk hbs hpd hlen hsl hgs hgl hl2 hl hroom2 hroom hd; lia)]; (with_unfolding_all first | rfl | exact s1 | exact s2 | exact s3 | exact s4 | exact s5 | exact s6 | exact u1 | exact u2 | exact u3 | exact u4 | exact u5 | exact u6 | exact v1 | exact v2 | exact v3 | exact v4 | exact v5 | exact v6 | exact j1 | exact j2)⟩, ⟨_, by (with_unfolding_all first | rfl | exact s1 | exact s2 | exact s3 | exact s4 | exact s5 | exact s6 | exact u1 | exact u2 | exact u3 | exact u4 | exact u5 | exact u6 | exact v1 | exact v2 | exact v3 | exact v4 | exact v5 | exact v6 | exact j1 | exact j2)⟩⟩, ⟨_, by (with_unfolding_all first | rfl | exact s1 | exact s2 | exact s3 | exact s4 | exact s5 | exact s6 | exact u1 | exact u2 | exact u3 | exact u4 | exact u5 | exact u6 | exact v1 | exact v2 | exact v3 | exact v4 | exact v5 | exact v6 | exact j1 | exact j2)⟩, ⟨_, by rw [hwt.1, show ((weight ((c :: a).take j) + wtN z : Nat) : Int) = ((weight ((c :: a).take j) : Nat) : Int) + ((wtN z : Nat) : Int) from by (clear hwt hjl hqj hj hla hwg' hwg hgn hwa hql hX2 hX1 hw hq3 hq2 hq1 hpl hlk hbs hpd hlen hsl hgs hgl hl2 hl hroom2 hroom hd; lia)]; (with_unfolding_all first | rfl | exact s1 | exact s2 | exact s3 | exact s4 | exact s5 | exact s6 | exact u1 | exact u2 | exact u3 | exact u4 | exact u5 | exact u6 | exact v1 | exact v2 | exact v3 | exact v4 | exact v5 | exact v6 | exact j1 | exact j2)⟩⟩
          · have hje : j = (c :: a).length := by (clear hqj hla hwg' hwg hgn hwa hql hX2 hX1 hw hq3 hq2 hq1 hpl hlk hbs hpd hlen hsl hgs hgl hl2 hl hroom2 hroom hd; lia)
            have hzg : ∃ rr, fRoom room k'' b = z :: rr := by
              rw [List.getElem?_append_right hjl, hje, Nat.sub_self] at hzd
              cases hzz : fRoom room k'' b with
              | nil => rw [hzz] at hzd; cases hzd
              | cons y rr => rw [hzz] at hzd; simp at hzd; exact ⟨rr, by rw [hzd]⟩
            obtain ⟨rr, hzg⟩ := hzg
            have hfz := hfl z rr hzg
            have htk : (c :: a).take j = c :: a := List.take_of_length_le (by lia)
            rw [htk] at j2
            have hsl3 : Txt.slice ⟨g.toArray⟩ (some ((q : Nat) : Int)) (some ((q + j : Nat) : Int)) = ⟨(c :: a).toArray⟩ := by
              rw [slice_take (p := q) (k := j) rfl rfl (by show q + j ≤ g.toArray.size; rw [hgs]; have := (List.getElem?_eq_some_iff.mp hz).1; (clear hfz hje hjl hqj hj hla hwg' hwg hgn hwa hql hX2 hX1 hw hq3 hq2 hq1 hpl hlk hbs hpd hlen hsl hl2 hl hroom2 hroom hd; lia))]
              show (⟨((g.drop q).take j).toArray⟩ : PySem.Str) = _
              rw [hdq', List.take_append_of_le_length hj, htk]
            repeat' (first
              | ((with_reducible show wpAny _ _ (eval (PySem.Expr.Name _ _) _) _ _ _); (first | ((with_reducible show wpAny _ _ (eval (PySem.Expr.Name (PySem.Str.ofString "len") _) _) _ _ _); refine name_b (by assumption) (by assumption) (by kernel_rfl) (by kernel_rfl) (g_len _) (b_len _) (by decide +kernel) ?_) | ((with_reducible show wpAny _ _ (eval (PySem.Expr.Name (PySem.Str.ofString "sum") _) _) _ _ _); refine name_b (by assumption) (by assumption) (by kernel_rfl) (by kernel_rfl) (g_sum _) (b_sum _) (by decide +kernel) ?_) | ((with_reducible show wpAny _ _ (eval (PySem.Expr.Name (PySem.Str.ofString "_law_weight") _) (compEnvC _ _ _ _)) _ _ _); refine name_gE (by assumption) (by assumption) (by kernel_rfl) (by kernel_rfl) (by rfl) (g_lw _) (by decide +kernel) ?_) | ((with_reducible show wpAny _ _ (eval (PySem.Expr.Name (PySem.Str.ofString "ord") _) (compEnvC _ _ _ _)) _ _ _); refine name_bE (by assumption) (by assumption) (by kernel_rfl) (by kernel_rfl) (by rfl) (by rfl) (g_ord _) (b_ord _) (by decide +kernel) ?_) | ((with_reducible show wpAny _ _ (eval (PySem.Expr.Name _ _) (compEnvC _ _ _ _)) _ _ _); rename Fr _ _ _ _ => FX; refine name_lE FX (by kernel_rfl) (by kernel_rfl) (by assumption) (by decide +kernel) ?_)); try dsimp only)
              | ((with_reducible show wpAny _ _ (loadName (envOf _ _ _ _ _) _) _ _ _); (with_reducible refine ldn (by assumption) (by (with_unfolding_all first | rfl | exact s1 | exact s2 | exact s3 | exact s4 | exact s5 | exact s6 | exact u1 | exact u2 | exact u3 | exact u4 | exact u5 | exact u6 | exact v1 | exact v2 | exact v3 | exact v4 | exact v5 | exact v6 | exact j1 | exact j2)) ?_ (by kernel_rfl!) (by kernel_rfl!)))
              | ((with_reducible show wpAny _ _ (eval (PySem.Expr.Name _ _) (envOf _ _ _ _ _)) _ _ _); (with_reducible refine ld (by assumption) (by (with_unfolding_all first | rfl | exact s1 | exact s2 | exact s3 | exact s4 | exact s5 | exact s6 | exact u1 | exact u2 | exact u3 | exact u4 | exact u5 | exact u6 | exact v1 | exact v2 | exact v3 | exact v4 | exact v5 | exact v6 | exact j1 | exact j2)) ?_ (by kernel_rfl!) (by kernel_rfl!) (by decide +kernel)))
              | ((with_reducible refine goW hW ?_))
              | ((with_reducible show wpAny _ _ (execs [_] _) _ _ _); refine cons_one ?_)
              | ((with_reducible show wpAny _ _ (execs (_ :: _) _) _ _ _); refine cons_gen fun _ _ _ => ?_)
              | ((rename GoN _ _ _ _ _ _ => hKN); (rename GoR _ _ => hKR); (with_reducible refine goN hKN ?_); clear hKN hKR)
              | ((rename GoN _ _ _ _ _ _ => hKN); (rename GoR _ _ => hKR); (with_reducible first | refine goR hKR ?_ | refine goCont hKR ?_); clear hKN hKR)
              | (exfalso; rename (_ : Int) < _ => hz; (clear hje hjl hqj hj hla hwg' hwg hgn hwa hql hX2 hX1 hw hq3 hq2 hq1 hpl hlk hbs hpd hlen hsl hgs hgl hl2 hl hroom2 hroom hd; lia))
              | ((with_reducible show wpAny _ _ (subscriptTail _ _ (Value.ref _) (Value.int _ _)) _ _ _); rename News _ _ _ _ => NX; refine item_int (n := q + j) ⟨_, (NX _ (.head _)).1, rfl, _, rfl⟩ rfl hqj hzi' ?_ (by with_unfolding_all rfl); try dsimp only)
              | ((with_reducible show wpAny _ _ (binaryOp Operator.Add (Value.str _ _) (Value.str _ _)) _ _ _); rw [hsl3]; refine badd_l (by (clear hfz hje hqj hwg' hwg hgn hwa hql hX2 hX1 hw hq3 hq2 hq1 hpl hlk hpd hlen hsl hgs hgl hl2 hl hroom2 hroom hd; lia)) ?_; intro _ _; try dsimp only)
              | (walk1; try dsimp only)
              | fail "no")
            rename Fr _ _ _ _ => FZ
            rename News _ _ _ _ => NZ
            have hdn : g.drop (q + j) = fRoom room k'' b := by rw [← List.drop_drop, hdq', hje, List.drop_left]
            have hwn : ((weight (g.drop (q + j)) : Nat) : Int) = ((weight ((c :: a) ++ fRoom room k'' b) : Nat) : Int) - ((weight (c :: a) : Nat) : Int) := by
              rw [hdn, weight_append]; (clear hfz hje hjl hqj hj hla hwg' hwg hgn hwa hql hX2 hX1 hw hq3 hq2 hq1 hpl hlk hbs hpd hlen hsl hgs hgl hl2 hl hroom2 hroom hd; lia)
            have hcl := congrArg List.length hcr
            rw [List.length_append, List.length_cons, List.length_cons] at hcl
            rw [List.length_cons] at hlk
            refine hW _ _ ⟨_, _, b.length, FZ, NZ, hg₇.trans hg₄, ho₇.trans ho₄, by rw [List.length_cons]; (clear hwn hfz hje hjl hqj hj hla hwg' hwg hgn hwa hql hX2 hX1 hw hq3 hq2 hq1 hpl hlk hbs hpd hlen hsl hgs hgl hl2 hl hroom2 hroom hd; lia), rfl, q + j, bare ++ (c :: a), b, k'', ⟨by (with_unfolding_all first | rfl | exact s1 | exact s2 | exact s3 | exact s4 | exact s5 | exact s6 | exact u1 | exact u2 | exact u3 | exact u4 | exact u5 | exact u6 | exact v1 | exact v2 | exact v3 | exact v4 | exact v5 | exact v6 | exact j1 | exact j2), by (with_unfolding_all first | rfl | exact s1 | exact s2 | exact s3 | exact s4 | exact s5 | exact s6 | exact u1 | exact u2 | exact u3 | exact u4 | exact u5 | exact u6 | exact v1 | exact v2 | exact v3 | exact v4 | exact v5 | exact v6 | exact j1 | exact j2), by (with_unfolding_all first | rfl | exact s1 | exact s2 | exact s3 | exact s4 | exact s5 | exact s6 | exact u1 | exact u2 | exact u3 | exact u4 | exact u5 | exact u6 | exact v1 | exact v2 | exact v3 | exact v4 | exact v5 | exact v6 | exact j1 | exact j2), ⟨_, by (with_unfolding_all first | rfl | exact s1 | exact s2 | exact s3 | exact s4 | exact s5 | exact s6 | exact u1 | exact u2 | exact u3 | exact u4 | exact u5 | exact u6 | exact v1 | exact v2 | exact v3 | exact v4 | exact v5 | exact v6 | exact j1 | exact j2)⟩, ⟨_, by (with_unfolding_all first | rfl | exact s1 | exact s2 | exact s3 | exact s4 | exact s5 | exact s6 | exact u1 | exact u2 | exact u3 | exact u4 | exact u5 | exact u6 | exact v1 | exact v2 | exact v3 | exact v4 | exact v5 | exact v6 | exact j1 | exact j2)⟩, ⟨_, by rw [hwn]; (with_unfolding_all first | rfl | exact s1 | exact s2 | exact s3 | exact s4 | exact s5 | exact s6 | exact u1 | exact u2 | exact u3 | exact u4 | exact u5 | exact u6 | exact v1 | exact v2 | exact v3 | exact v4 | exact v5 | exact v6 | exact j1 | exact j2)⟩⟩, hdn, by (clear hwn hfz hje hjl hqj hj hla hwg' hwg hgn hwa hql hX2 hX1 hw hq3 hq2 hq1 hpl hbs hpd hlen hsl hgs hgl hl2 hl hroom2 hroom hd; lia), by rw [List.append_assoc, ← hcr, hbl], rfl⟩
end Mine
end
section
namespace Mine
/-- a for whose target may be a tuple -/
theorem for_turns {w : World} {A : Around} {s : Shared} {R : Result → Shared → Prop} {target : PySem.Expr} {it : Value} {body orelse : List PySem.Stmt} {env : Env} (I : Nat → Shared → Prop)
    (turn : ∀ n s, I n s → wpAny (model pw w) A (pyNext it) (fun r s₁ => match r with
      | none => wpAny (model pw w) A (execs orelse env) (fun f s₃ => R (.ok f) s₃) (notedBy (model pw w) A env fun e s' => R (.error e) s') s₁
      | some v => wpAny (model pw w) A (letOwnedTupleGo target it v) (fun _ s₀ => wpAny (model pw w) A (assign target env v) (fun _ s₂ => wpAny (model pw w) A (execs body env) (fun f s₃ => match f with
          | .next | .cont => ∃ m, m < n ∧ I m s₃
          | .brk => R (.ok .next) s₃
          | .ret v => R (.ok (.ret v)) s₃) (notedBy (model pw w) A env fun e s' => R (.error e) s') s₂) (notedBy (model pw w) A env fun e s' => R (.error e) s') s₀) (notedBy (model pw w) A env fun e s' => R (.error e) s') s₁) (notedBy (model pw w) A env fun e s' => R (.error e) s') s)
    (n : Nat) (h : I n s) : codeAny (model pw w) A (.forLoop target it body orelse env) R s := by
  refine codeAny_loop' rfl I (fun n s hI => ?_) n h
  change wpAny _ _ ((forTurn target it body orelse env).onRaise (fun x => do noteFrame x env; theTreesLotGoes x)) _ _ s
  apply wpAny_noted
  unfold forTurn
  refine wpAny_bind (wpAny_standAt (wpAny_bind (wpAny_onRaise ?_)))
  refine wpAny_mono (turn n s hI) ?_ fun _ _ q => wpAny_standAt q
  rintro (_ | v) s₁ h₁
  · exact wpAny_pure (.inr ⟨rfl, codeAny_block h₁⟩)
  · refine wpAny_bind (wpAny_mono h₁ (fun _ s₀ h₀ => wpAny_bind (wpAny_mono h₀ (fun _ s₂ h₂ => wpAny_bind (wpAny_mono h₂ (fun f s₃ h₃ => ?_) fun _ _ q => q)) fun _ _ q => q)) fun _ _ q => q)
    cases f
    case next => exact wpAny_pure (.inl ⟨rfl, h₃⟩)
    case cont => exact wpAny_pure (.inl ⟨rfl, h₃⟩)
    case brk => exact wpAny_pure h₃
    case ret => exact wpAny_pure h₃
theorem for_listT {w : World} {A : Around} {s : Shared} {env : Env} {h₀ : Heap} {elts : List PySem.Expr} {x1 : Nat} {tpos : Pos} {body : List PySem.Stmt} {Q : Flow → Shared → Prop} {D : Addr} {vs : List Value} {c : Nat} {m : PySem.Str → Option Value} {news : List (Addr × Obj)}
    (hh : A.handled = none)
    (F : Fr h₀ env.locals s.heap m) (N : News h₀ env.locals s.heap ((D, oL vs.toArray c) :: news))
    (hrefs : ∀ v ∈ vs, ∃ T, v = .ref T) (J : Nat → (PySem.Str → Option Value) → List (Addr × Obj) → Prop) (h0 : J 0 m news)
    (step : ∀ i T m₁ news₁ I o s₁, vs[i]? = some (.ref T) → J i m₁ news₁ → (∀ p ∈ news₁, p.1 ≠ I) → I ≠ D → Fr h₀ env.locals s₁.heap m₁ → News h₀ env.locals s₁.heap ([(I, o), (D, oL vs.toArray c)] ++ news₁) → s₁.gens = s.gens → s₁.os = s.os →
      wpAny (model pw w) A (assign (.Tuple elts x1 tpos) env (.ref T)) (fun _ s₂ => wpAny (model pw w) A (execs body env) (Turned h₀ env.locals [(I, o), (D, oL vs.toArray c)] I s (J (i + 1))) (fun _ _ => False) s₂) (fun _ _ => False) s₁)
    (fin : ∀ s' m' news', Fr h₀ env.locals s'.heap m' → News h₀ env.locals s'.heap ((D, oL vs.toArray c) :: news') → s'.gens = s.gens → s'.os = s.os → J vs.length m' news' → Q .next s') :
    wpAny (model pw w) A (pyIter (.ref D)) (fun it s₂ => codeAny (model pw w) A (.forLoop (.Tuple elts x1 tpos) it body [] env) (fun r s' => match r with | .ok f => Q f s' | .error e => cameBackBy (model pw w) A env (fun _ _ => False) e s') s₂) (fun _ _ => False) s := by
  have hD := N _ (.head _)
  refine wpAny_pyIter_list (items := vs.toArray) ⟨_, hD.1, rfl, c, rfl⟩ ?_
  have N1 := News.push F N { cls := .type "list_iterator", data := .fields #[.ref D, .int 0 0] }
  have F1 := F.push { cls := .type "list_iterator", data := .fields #[.ref D, .int 0 0] }
  have hfresh : ∀ p ∈ ((D, oL vs.toArray c) :: news), p.1 ≠ s.heap.objs.size := fun p hp e => absurd (Heap.lt_size (N p hp).1) (by rw [e]; exact Nat.lt_irrefl _)
  generalize hI : s.heap.objs.size = I at N1 hfresh ⊢
  have it0 : (s.heap.push { cls := .type "list_iterator", data := .fields #[.ref D, .int 0 0] }).IsListIter I D 0 := ⟨_, (N1 _ (.head _)).1, rfl, rfl⟩
  refine for_turns (fun k s' => ∃ i m' news', i ≤ vs.length ∧ k = vs.length + 1 - i ∧ s'.heap.IsListIter I D i ∧ Fr h₀ env.locals s'.heap m' ∧ News h₀ env.locals s'.heap ((D, oL vs.toArray c) :: news') ∧ (∀ p ∈ news', p.1 ≠ I) ∧ I ≠ env.locals ∧ h₀.get? I = none ∧ s'.gens = s.gens ∧ s'.os = s.os ∧ J i m' news') ?_ (vs.length + 1)
    ⟨0, m, news, Nat.zero_le _, rfl, it0, F1, fun p hp => N1 p (.tail _ hp), fun p hp => hfresh p (.tail _ hp), (N1 _ (.head _)).2.1, (N1 _ (.head _)).2.2, rfl, rfl, h0⟩
  rintro k s' ⟨i, m', news', hi, rfl, it', F', N', hn', hIL, hI0, hg, ho, hJ⟩
  have hID : I ≠ D := fun e => hfresh _ (.head _) e.symm
  have next : ∀ h₁ : Heap, (∀ b o, b ≠ I → s'.heap.get? b = some o → h₁.get? b = some o) → Fr h₀ env.locals h₁ m' ∧ News h₀ env.locals h₁ ((D, oL vs.toArray c) :: news') := fun h₁ hk =>
    ⟨⟨F'.ns.at' fun o e => hk _ o hIL.symm e, fun b o e => hk b o (fun q => by rw [q, hI0] at e; cases e) (F'.keep b o e), F'.above⟩, fun p hp => ⟨hk _ _ (by
      rcases List.mem_cons.mp hp with rfl | hp
      · exact hID.symm
      · exact hn' p hp) (N' p hp).1, (N' p hp).2⟩⟩
  have hl : s'.heap.IsList D vs.toArray := ⟨_, (N' _ (.head _)).1, rfl, c, rfl⟩
  by_cases hlt : i < vs.length
  · obtain ⟨T, hT⟩ := hrefs vs[i] (List.getElem_mem hlt)
    have hv : vs[i]? = some (.ref T) := by rw [← hT]; exact List.getElem?_eq_getElem hlt
    refine wpAny_pyNext_list_item (x := .ref T) it' hl (by rw [List.getElem?_toArray]; exact hv) fun h₁ it₁ sb => ?_
    obtain ⟨F₁, N₁⟩ := next h₁ fun b o hb e => (sb.2 b hb).trans e
    refine wpAny_letOwnedTupleGo_listiter it₁ ?_
    obtain ⟨o, ho₁, hc₁, hd₁⟩ := it₁
    refine wpAny_mono (step i T m' news' I o _ hv hJ hn' hID F₁ (fun p hp => ?_) hg ho) (fun _ s₂ h₂ => wpAny_mono h₂ (fun f s₃ h₃ => ?_) fun _ _ x => x.elim) fun _ _ x => x.elim
    · rcases List.mem_cons.mp hp with rfl | hp
      · exact ⟨ho₁, hIL, hI0⟩
      · exact N₁ p hp
    · obtain ⟨hf, m₂, news₂, F₃, N₃, hn₃, hg₃, ho₃, hJ₃⟩ := h₃
      have G : ∃ m, m < vs.length + 1 - i ∧ ∃ i m' news', i ≤ vs.length ∧ m = vs.length + 1 - i ∧ s₃.heap.IsListIter I D i ∧ Fr h₀ env.locals s₃.heap m' ∧ News h₀ env.locals s₃.heap ((D, oL vs.toArray c) :: news') ∧ (∀ p ∈ news', p.1 ≠ I) ∧ I ≠ env.locals ∧ h₀.get? I = none ∧ s₃.gens = s.gens ∧ s₃.os = s.os ∧ J i m' news' :=
        ⟨vs.length + 1 - (i + 1), by lia, i + 1, m₂, news₂, hlt, rfl, ⟨o, (N₃ _ (.head _)).1, hc₁, hd₁⟩, F₃, fun p hp => N₃ p (.tail _ hp), hn₃, hIL, hI0, hg₃, ho₃, hJ₃⟩
      rcases hf with rfl | rfl <;> exact G
  · obtain rfl : i = vs.length := by lia
    refine wpAny_pyNext_list_end hh it' hl (by simp) fun h₁ eb => wpAny_execs_nil ?_
    obtain ⟨F₁, N₁⟩ := next h₁ fun b o hb e => eb b o hb e
    exact fin _ m' news' F₁ N₁ hg ho hJ

/-- what holds after a turn of a for over a range -/
theorem for_range {w : World} {A : Around} {s : Shared} {env : Env} {h₀ : Heap} {x : PySem.Str} {px : Pos} {body : List PySem.Stmt} {Q : Flow → Shared → Prop} {r : Addr} {a b c : Int} {t u v : Tok} {n : Nat} {m : PySem.Str → Option Value} {news : List (Addr × Obj)}
    (hh : A.handled = none) (F : Fr h₀ env.locals s.heap m) (N : News h₀ env.locals s.heap news) (hr : IsRange s.heap r a b c t u v) (hsmall : Builtin.Range.small a b c = true) (hn : Builtin.Range.rangeSize a b c = ((n : Nat) : Int))
    (J : Nat → (PySem.Str → Option Value) → List (Addr × Obj) → Prop) (h0 : J 0 m news)
    (step : ∀ i tk m₁ news₁ I o s₁, i < n → J i m₁ news₁ → (∀ p ∈ news₁, p.1 ≠ I) → Fr h₀ env.locals s₁.heap m₁ → News h₀ env.locals s₁.heap ([(I, o)] ++ news₁) → s₁.gens = s.gens → s₁.os = s.os →
      wpAny (model pw w) A (assign (.Name x px) env (.int (a + i * c) tk)) (fun _ s₂ => wpAny (model pw w) A (execs body env) (Turned h₀ env.locals [(I, o)] I s (J (i + 1))) (fun _ _ => False) s₂) (fun _ _ => False) s₁)
    (fin : ∀ s' m' news', Fr h₀ env.locals s'.heap m' → News h₀ env.locals s'.heap news' → s'.gens = s.gens → s'.os = s.os → J n m' news' → Q .next s') :
    wpAny (model pw w) A (pyIter (.ref r)) (fun it s₂ => codeAny (model pw w) A (.forLoop (.Name x px) it body [] env) (fun r s' => match r with | .ok f => Q f s' | .error e => cameBackBy (model pw w) A env (fun _ _ => False) e s') s₂) (fun _ _ => False) s := by
  refine wpAny_pyIter_range hr hsmall ?_
  rw [hn]
  have N1 := News.push F N { cls := .type "range_iterator", data := .fields #[rawInt a, rawInt ((n : Nat) : Int), rawInt c] }
  have F1 := F.push { cls := .type "range_iterator", data := .fields #[rawInt a, rawInt ((n : Nat) : Int), rawInt c] }
  have hfresh : ∀ p ∈ news, p.1 ≠ s.heap.objs.size := fun p hp e => absurd (Heap.lt_size (N p hp).1) (by rw [e]; exact Nat.lt_irrefl _)
  generalize hI : s.heap.objs.size = I at N1 hfresh ⊢
  have it0 : IsRangeIter (s.heap.push { cls := .type "range_iterator", data := .fields #[rawInt a, rawInt ((n : Nat) : Int), rawInt c] }) I a ((n : Nat) : Int) c := (N1 _ (.head _)).1
  refine codeAny_forLoop (fun k s' => ∃ i m' news', i ≤ n ∧ k = n + 1 - i ∧ IsRangeIter s'.heap I (a + (i : Nat) * c) ((n : Int) - (i : Nat)) c ∧ Fr h₀ env.locals s'.heap m' ∧ News h₀ env.locals s'.heap news' ∧ (∀ p ∈ news', p.1 ≠ I) ∧ I ≠ env.locals ∧ h₀.get? I = none ∧ s'.gens = s.gens ∧ s'.os = s.os ∧ J i m' news') ?_ (n + 1)
    ⟨0, m, news, Nat.zero_le _, rfl, by simpa using it0, F1, fun p hp => N1 p (.tail _ hp), hfresh, (N1 _ (.head _)).2.1, (N1 _ (.head _)).2.2, rfl, rfl, h0⟩
  rintro k s' ⟨i, m', news', hi, rfl, it', F', N', hn', hIL, hI0, hg, ho, hJ⟩
  have next : ∀ h₁ : Heap, (∀ b o, b ≠ I → s'.heap.get? b = some o → h₁.get? b = some o) → Fr h₀ env.locals h₁ m' ∧ News h₀ env.locals h₁ news' := fun h₁ hk =>
    ⟨⟨F'.ns.at' fun o e => hk _ o hIL.symm e, fun b o e => hk b o (fun q => by rw [q, hI0] at e; cases e) (F'.keep b o e), F'.above⟩, fun p hp => ⟨hk _ _ (hn' p hp) (N' p hp).1, (N' p hp).2⟩⟩
  by_cases hlt : i < n
  · refine wpAny_pyNext_range_item it' (by lia) fun h₁ it₁ sb => ?_
    obtain ⟨F₁, N₁⟩ := next h₁ fun b o hb e => (sb.2 b hb).trans e
    refine wpAny_mono (step i _ m' news' I { cls := .type "range_iterator", dict := none, data := .fields #[rawInt (a + (i : Nat) * c + c), rawInt ((n : Int) - (i : Nat) - 1), rawInt c], slots := #[] } _ hlt hJ hn' F₁ (fun p hp => ?_) hg ho) (fun _ s₂ h₂ => wpAny_mono h₂ (fun f s₃ h₃ => ?_) fun _ _ x => x.elim) fun _ _ x => x.elim
    · rcases List.mem_cons.mp hp with rfl | hp
      · exact ⟨it₁, hIL, hI0⟩
      · exact N₁ p hp
    · obtain ⟨hf, m₂, news₂, F₃, N₃, hn₃, hg₃, ho₃, hJ₃⟩ := h₃
      have e1 : a + ((i + 1 : Nat) : Int) * c = a + (i : Int) * c + c := by push_cast; rw [Int.add_mul, Int.one_mul, Int.add_assoc]
      have e2 : (n : Int) - ((i + 1 : Nat) : Int) = (n : Int) - (i : Int) - 1 := by push_cast; lia
      have G : ∃ k, k < n + 1 - i ∧ ∃ i m' news', i ≤ n ∧ k = n + 1 - i ∧ IsRangeIter s₃.heap I (a + (i : Nat) * c) ((n : Int) - (i : Nat)) c ∧ Fr h₀ env.locals s₃.heap m' ∧ News h₀ env.locals s₃.heap news' ∧ (∀ p ∈ news', p.1 ≠ I) ∧ I ≠ env.locals ∧ h₀.get? I = none ∧ s₃.gens = s.gens ∧ s₃.os = s.os ∧ J i m' news' :=
        ⟨n + 1 - (i + 1), by lia, i + 1, m₂, news₂, hlt, rfl, by rw [e1, e2]; exact (N₃ _ (.head _)).1, F₃, fun p hp => N₃ p (.tail _ hp), hn₃, hIL, hI0, hg₃, ho₃, hJ₃⟩
      rcases hf with rfl | rfl <;> exact G
  · obtain rfl : i = n := by lia
    refine wpAny_pyNext_range_end hh it' (by lia) fun h₁ eb => wpAny_execs_nil ?_
    obtain ⟨F₁, N₁⟩ := next h₁ fun b o hb e => eb b o hb e
    exact fin _ m' news' F₁ N₁ hg ho hJ
end Mine
end
section
namespace Mine
noncomputable abbrev envL (L : Addr) : Env := envOfC (S "law") (fScope (stm 35)) L 150 (.ref 149)
noncomputable def oC (v : Option Value) : Obj := { cls := .type "cell", data := .cell v }
theorem cells_L (L : Nat) : cellsFrom (L + 1) (fScope (stm 35)).names [] = [(S "back", L + 2), (S "servers", L + 1)] := by with_unfolding_all rfl
theorem cells_0 : cellsFrom 0 (fScope (stm 35)).names [] = [(S "back", 1), (S "servers", 0)] := by with_unfolding_all rfl
/-- the call of the law -/
theorem law_enter {w : World} {A : Around} {s : Shared} {Q : Value → Shared → Prop} (U : Up w s.heap) (hd : A.depth < recursionLimit) (a : Addr)
    (h : ∀ h₁ tk m o1 o2, Fr s.heap s.heap.objs.size h₁ m → m (S "script") = some (.ref a) → News s.heap s.heap.objs.size h₁ [(s.heap.objs.size + 2, o2), (s.heap.objs.size + 1, o1)] → o1.data = .cell none → o2.data = .cell none →
      wpAny (model pw w) (A.deeper (envL s.heap.objs.size)) (execs (fBody (stm 35)) (envL s.heap.objs.size)) (fun fl s' => Q (match fl with | .ret v => v | _ => .none) s') (fun _ _ => False) { s with heap := h₁, toks := tk }) :
    wpAny (model pw w) A (call (.ref 150) [.ref a]) Q (fun _ _ => False) s := by
  refine wpAny_call ?_
  refine call_cellsN_ret (name := S "law") (params := fArgs (stm 35)) (body := fBody (stm 35)) (scope := fScope (stm 35)) (pm := .str (S "law_ny0199_01") 2019) (cd := .ref 149) (doc := .none) (o := o150L w.params) (binds := [(S "script", .ref a)])
    hd (up_get w U (by kernel_rfl)) rfl (up_nolimit w U) ⟨149, o149L w.params, _, _, rfl, up_get w U (by kernel_rfl), rfl, rfl⟩ (by kernel_rfl) ?_ ?_ (fun h₁ tk cells F N X => ?_) (by kernel_rfl) (by kernel_rfl) (by kernel_rfl)
  · intro x hx
    rw [List.mem_singleton.mp hx]
    exact .inl (by kernel_rfl)
  · rw [cells_0]; decide +kernel
  · rw [cells_L] at X
    obtain ⟨o2, o1, rfl, d2, d1⟩ := X.two
    exact h h₁ tk _ o1 o2 F (by with_unfolding_all rfl) N (d1.trans (by with_unfolding_all rfl)) (d2.trans (by with_unfolding_all rfl))
end Mine
end
section
namespace Mine
theorem g_henc (w : World) : mgL w (PySem.Str.ofString "header_encode") = some (.ref 98) := by kernel_rfl
theorem g_fix (w : World) : mgL w (PySem.Str.ofString "_fix_eols") = some (.ref 55) := by kernel_rfl
theorem g_benc (w : World) : mgL w (PySem.Str.ofString "body_encode") = some (.ref 111) := by kernel_rfl
theorem g_quo (w : World) : mgL w (PySem.Str.ofString "_quote_periods") = some (.ref 48) := by kernel_rfl
theorem g_dec (w : World) : mgL w (PySem.Str.ofString "decode") = some (.ref 119) := by kernel_rfl
theorem g_hdec (w : World) : mgL w (PySem.Str.ofString "header_decode") = some (.ref 133) := by kernel_rfl
theorem g_bytes (w : World) : mgL w (PySem.Str.ofString "bytes") = none := by kernel_rfl
theorem b_bytes (w : World) : mbL w (PySem.Str.ofString "bytes") = some (.type "bytes") := by kernel_rfl
theorem g_range (w : World) : mgL w (PySem.Str.ofString "range") = none := by kernel_rfl
theorem b_range (w : World) : mbL w (PySem.Str.ofString "range") = some (.type "range") := by kernel_rfl
theorem g_bare (w : World) : mgL w (PySem.Str.ofString "_law_bare") = some (.ref 145) := by kernel_rfl
noncomputable def octN (x : Int) : Nat := if (x.fdiv 5).fmod 8 = 7 then ((x.fdiv 40).fmod 256).toNat else [46, 46, 46, 61, 13, 10, 32].getD ((x.fdiv 5).fmod 8).toNat 0
theorem fmod_nat (x : Int) (b : Nat) (hb : 0 < b) : ∃ k : Nat, k < b ∧ x.fmod ((b : Nat) : Int) = ((k : Nat) : Int) := by
  have h1 := Int.fmod_nonneg_of_pos x (b := ((b : Nat) : Int)) (by lia)
  have h2 := Int.fmod_lt_of_pos x (b := ((b : Nat) : Int)) (by (clear h1; lia))
  exact ⟨(x.fmod ((b : Nat) : Int)).toNat, by lia, by (clear h2 hb; lia)⟩
theorem oct_item (x : Int) (t0 t1 t2 t3 t4 t5 t6 t7 : Tok) : ∃ k : Nat, k ≤ 100000 ∧ (x.fdiv 5).fmod 8 = ((k : Nat) : Int) ∧ ∃ tv, (#[Value.int 46 t0, .int 46 t1, .int 46 t2, .int 61 t3, .int 13 t4, .int 10 t5, .int 32 t6, .int ((x.fdiv 40).fmod 256) t7] : Array Value)[k]? = some (.int ((octN x : Nat) : Int) tv) := by
  obtain ⟨k, hk, e⟩ := fmod_nat (x.fdiv 5) 8 (by decide)
  obtain ⟨z, hz, e2⟩ := fmod_nat (x.fdiv 40) 256 (by decide)
  refine ⟨k, by lia, e, ?_⟩
  have e' : (x.fdiv 5).fmod 8 = ((k : Nat) : Int) := e
  have e2' : (x.fdiv 40).fmod 256 = ((z : Nat) : Int) := e2
  unfold octN
  rw [e', e2']
  have hc : k = 0 ∨ k = 1 ∨ k = 2 ∨ k = 3 ∨ k = 4 ∨ k = 5 ∨ k = 6 ∨ k = 7 := by (clear e2' e2 hz; lia)
  rcases hc with rfl | rfl | rfl | rfl | rfl | rfl | rfl | rfl
  · exact ⟨t0, rfl⟩
  · exact ⟨t1, rfl⟩
  · exact ⟨t2, rfl⟩
  · exact ⟨t3, rfl⟩
  · exact ⟨t4, rfl⟩
  · exact ⟨t5, rfl⟩
  · exact ⟨t6, rfl⟩
  · exact ⟨t7, rfl⟩
theorem octN_lt (x : Int) : octN x < 256 := by
  obtain ⟨k, hk, e⟩ := fmod_nat (x.fdiv 5) 8 (by decide)
  obtain ⟨z, hz, e2⟩ := fmod_nat (x.fdiv 40) 256 (by decide)
  have e' : (x.fdiv 5).fmod 8 = ((k : Nat) : Int) := e
  have e2' : (x.fdiv 40).fmod 256 = ((z : Nat) : Int) := e2
  unfold octN
  rw [e', e2']
  have hc : k = 0 ∨ k = 1 ∨ k = 2 ∨ k = 3 ∨ k = 4 ∨ k = 5 ∨ k = 6 ∨ k = 7 := by (clear e2' e2 hz; lia)
  rcases hc with rfl | rfl | rfl | rfl | rfl | rfl | rfl | rfl <;> first | (show z < 256; exact hz) | (rw [if_neg (by decide)]; decide)
noncomputable def octs (ns : List Int) : List Nat := (ns.take 9).map octN ++ [46, 46, 46, 46, 46, 61, 13, 46, 32]
noncomputable def RO (ns : List Int) (i : Nat) (v y : Value) (own : List (Addr × Obj)) : Prop := own = [] ∧ ∃ t, y = .int ((octN (ns.getD i 0) : Nat) : Int) t
theorem add_ints {w : World} {A : Around} {E : Value → Shared → Prop} {s : Shared} {h₀ : Heap} {L l b : Addr} {m : PySem.Str → Option Value} {news : List (Addr × Obj)} {vs ws : List Value} {ns ms : List Int} {Q : Value → Shared → Prop} (F : Fr h₀ L s.heap m) (N : News h₀ L s.heap news) (hl : s.heap.IsList l vs.toArray) (hb : s.heap.IsList b ws.toArray)
    (hi : IntsAre vs ns) (hj : IntsAre ws ms)
    (h : ∀ h' zs, Fr h₀ L h' m → News h₀ L h' ((s.heap.objs.size, oL (List.toArray zs) 0) :: news) → IntsAre zs (ns ++ ms) → Q (.ref s.heap.objs.size) { s with heap := h' })
    (hsz : ns.length + ms.length ≤ sizeLine) : wpAny (model pw w) A (binaryOp .Add (.ref l) (.ref b)) Q E s :=
  add_lists_ints F N hl hb hi hj (fun h' F' N' I => h h' _ F' N' I) hsz
set_option maxHeartbeats 4000000 in
theorem law_one {w : World} {A : Around} {s : Shared} {h₀ : Heap} {L : Addr} {m : PySem.Str → Option Value} {o1 o2 : Obj} {a : Addr} {vs : List Value} {ns : List Int} {n : Nat} {o : Obj} {Q : Flow → Shared → Prop} (hA : A.handled = none) (U : Up w h₀)
    (F : Fr h₀ L s.heap m) (hm : m (S "script") = some (.ref a)) (N : News h₀ L s.heap [(L + 2, o2), (L + 1, o1)]) (ho : h₀.get? a = some o) (hc : o.cls = .type "list") (hdt : o.data = .seq vs.toArray n) (hi : IntsAre vs ns) (hvl : vs.length ≤ 63)
    (K : ∀ s' m' O osv c, Fr h₀ L s'.heap m' → m' (S "script") = some (.ref a) → m' (S "octets") = some (.ref O) → News h₀ L s'.heap [(O, oL (List.toArray osv) c), (L + 2, o2), (L + 1, o1)] → IntsAre osv ((octs ns).map fun c => ((c : Nat) : Int)) → s'.gens = s.gens → s'.os = s.os →
      wpAny (model pw w) A (execs ((fBody (stm 35)).drop 2) (envL L)) Q (fun _ _ => False) s') :
    wpAny (model pw w) A (execs (fBody (stm 35)) (envL L)) Q (fun _ _ => False) s := by
  have FS := fr_upd F hm
  clear F
  repeat' (first
    | ((with_reducible show wpAny _ _ (eval (PySem.Expr.Name _ _) _) _ _ _); (first | ((with_reducible show wpAny _ _ (eval (PySem.Expr.Name _ _) _) _ _ _); refine name_lE (by assumption) (by kernel_rfl) (by kernel_rfl) (by first | assumption | with_unfolding_all rfl) (by decide +kernel) ?_)); try dsimp only)
    | ((fail_if_success (with_reducible show wpAny _ _ (exec (PySem.Stmt.Assign _ (PySem.Expr.ListComp _ _ _ _) _) _) _ _ _)); walk1; try dsimp only)
    | fail "no")
  refine comp_assign FS (cl := []) ?a1 ?a2 ?a3 ?a4 ?a5 ?a6 ?a7 ?a8 ?_ ?a9
  case a1 => with_unfolding_all rfl
  case a2 => with_unfolding_all rfl
  case a3 => decide +kernel
  case a4 => rfl
  case a5 => decide +kernel
  case a6 => decide +kernel
  case a7 => kernel_rfl
  case a8 => kernel_rfl
  case a9 => intro _; rfl
  repeat' (first
    | ((with_reducible show wpAny _ _ (eval (PySem.Expr.Name _ _) _) _ _ _); (first | ((with_reducible show wpAny _ _ (eval (PySem.Expr.Name _ _) _) _ _ _); refine name_lE (by assumption) (by kernel_rfl) (by kernel_rfl) (by first | assumption | with_unfolding_all rfl) (by decide +kernel) ?_)); try dsimp only)
    | (walk1; try dsimp only)
    | fail "no")
  have hl0 : s.heap.IsList a vs.toArray := ⟨o, FS.keep _ _ ho, hc, n, hdt⟩
  have hvs : vs.toArray.size ≤ sizeLine := by rw [sizeLine_eq, List.size_toArray]; exact Nat.le_trans hvl (by decide)
  refine kmk_slice_ints (s := { s with toks := s.toks + 1 }) FS N hl0 (.none) (.int _ _) hi (kmk_upto (y := 9) hi (by decide)) rfl ?_ ?hs ?ht hvs
  case hs => with_unfolding_all rfl
  case ht => intro _; with_unfolding_all rfl
  intro D1 ws h₂ F₂ N₂ hD1 hws _ hwl
  have hwl9 : (ns.take (9 : Int).toNat).length ≤ 9 := by rw [List.length_take]; exact Nat.min_le_left _ _
  generalize hms : ns.take (9 : Int).toNat = ms at *
  have hlm : ws.toArray.size = ms.length := by rw [List.size_toArray, hws.length]
  refine ⟨_, _, _, RO ms, src_list (by exact hA) ⟨_, (N₂ _ (.head _)).1, rfl, 0, rfl⟩, ?_, F₂, N₂, ?_, ?_⟩
  · rw [sizeLine_eq, hlm]; exact Nat.le_trans hwl9 (by decide)
  · intro C i v s₃ m₃ K hi3 hv F₃ hm3 N₃ hg₃ ho₃
    have hil : i < ms.length := by rw [← hlm]; exact hi3
    obtain ⟨t, hv2⟩ := ints_get hws (List.getElem?_eq_getElem hil)
    rw [List.getElem?_toArray, hv2] at hv
    obtain rfl := Option.some.inj hv
    have hx : ms.getD i 0 = ms[i] := by simp [List.getD, hil]
    generalize ms[i] = x at hx hm3 ⊢
    repeat' (first
      | ((with_reducible show wpAny _ _ (eval (PySem.Expr.Name _ _) _) _ _ _); (first | ((with_reducible show wpAny _ _ (eval (PySem.Expr.Name _ _) _) _ _ _); refine name_lE (by assumption) (by kernel_rfl) (by kernel_rfl) (by first | assumption | with_unfolding_all rfl) (by decide +kernel) ?_)); try dsimp only)
      | (walk1; try dsimp only)
      | fail "no")
    rename News _ _ _ _ => NZ
    rename Fr _ _ _ _ => FZ
    obtain ⟨k, hk1, hk2, tv, hk3⟩ := oct_item x s₃.toks (s₃.toks + 1) (s₃.toks + 1 + 1) (s₃.toks + 1 + 1 + 1) (s₃.toks + 1 + 1 + 1 + 1) (s₃.toks + 1 + 1 + 1 + 1 + 1) (s₃.toks + 1 + 1 + 1 + 1 + 1 + 1) (s₃.toks + 1 + 1 + 1 + 1 + 1 + 1 + 1 + 1 + 1 + 1)
    refine item_int (n := k) ⟨_, (NZ _ (.head _)).1, rfl, _, rfl⟩ hk2 hk1 hk3 ?_ (by with_unfolding_all rfl)
    exact ⟨[], _, ⟨rfl, tv, by rw [hx]⟩, FZ, fun p hp => NZ p (.tail _ hp), (by intro p hp; cases hp), hg₃, ho₃⟩
  · intro D s' yo k hlen hyo F' N' hg' ho'
    rw [own_nil hyo (fun _ _ _ _ h => h.1)] at N'
    rw [hlm] at hlen
    have hI : IntsAre (yo.map (·.1)) (ms.map fun x => ((octN x : Nat) : Int)) := ints_by yo _ (by rw [hlen]; simp) fun j p hj => by
      obtain ⟨v, hv, _, t, e⟩ := hyo j p hj
      have hjl : j < ms.length := by
        rw [← hlen]
        exact (List.getElem?_eq_some_iff.mp hj).1
      exact ⟨t, by rw [e]; simp [List.getD, hjl]⟩
    generalize (yo.map (·.1)) = ys at hI N'
    obtain ⟨h₃, g₃, d₃, k₃, o₃⟩ := s'
    dsimp only at F' N' hg' ho' ⊢
    repeat' (first
      | ((with_reducible show wpAny _ _ (eval (PySem.Expr.Name _ _) _) _ _ _); (first | ((with_reducible show wpAny _ _ (eval (PySem.Expr.Name _ _) _) _ _ _); refine name_lE (by assumption) (by kernel_rfl) (by kernel_rfl) (by first | assumption | with_unfolding_all rfl) (by decide +kernel) ?_)); try dsimp only)
      | ((fail_if_success (with_reducible show wpAny _ _ (exec (PySem.Stmt.Assign _ (PySem.Expr.ListComp _ _ _ _) _) _) _ _ _)); walk1; try dsimp only)
      | fail "no")
    rename News _ _ _ _ => NZ
    rename Fr _ _ _ _ => FZ
    refine add_ints (vs := ys) FZ NZ ⟨_, (NZ _ (.tail _ (.head _))).1, rfl, _, rfl⟩ ⟨_, (NZ _ (.head _)).1, rfl, _, rfl⟩ hI (.cons _ _ (.cons _ _ (.cons _ _ (.cons _ _ (.cons _ _ (.cons _ _ (.cons _ _ (.cons _ _ (.cons _ _ .nil))))))))) ?_ ?_
    rotate_left
    · rw [List.length_map, sizeLine_eq]; simp only [List.length_cons, List.length_nil]; exact Nat.le_trans (Nat.add_le_add_right hwl9 9) (by decide)
    clear FZ NZ F' N'
    intro h₄ osv F₄ N₄ hI₄
    repeat' (first
      | ((with_reducible show wpAny _ _ (eval (PySem.Expr.Name _ _) _) _ _ _); (first | ((with_reducible show wpAny _ _ (eval (PySem.Expr.Name _ _) _) _ _ _); refine name_lE (by assumption) (by kernel_rfl) (by kernel_rfl) (by first | assumption | with_unfolding_all rfl) (by decide +kernel) ?_)); try dsimp only)
      | ((with_reducible show wpAny _ _ (storeName (envOfC _ _ _ _ _) _ _) _ _ _); refine stLocN (by assumption) (by assumption) ?_ (by kernel_rfl) (by kernel_rfl); intro _ _ _; try dsimp only)
      | ((fail_if_success (with_reducible show wpAny _ _ (execs _ _) _ _ _)); walk1; try dsimp only)
      | fail "no")
    rename News _ _ _ _ => NZ
    rename Fr _ _ _ _ => FZ
    refine K _ _ _ osv 0 FZ (by with_unfolding_all rfl) (by with_unfolding_all rfl) ?_ ?_ ?_ ?_
    · intro p hp
      simp only [List.mem_cons, List.not_mem_nil, or_false] at hp
      rcases hp with rfl | rfl | rfl
      · exact NZ _ (.head _)
      · exact NZ _ (by simp)
      · exact NZ _ (by simp)
    · unfold octs
      rw [List.map_append, List.map_map]
      have hms' : ns.take 9 = ms := hms
      rw [hms']
      exact hI₄
    · exact hg'
    · exact ho'
end Mine
end
section
namespace Mine

noncomputable def eolN (i : Nat) : List Nat := [[10], [13, 10], [13]].getD i []
noncomputable def srvN (x : Int) : Nat × List Nat := (4 + (x.fmod 5).toNat, eolN ((x.fdiv 5).fmod 3).toNat)
noncomputable def nums (ns : List Int) : List Int := if ns.take 3 = [] then [11] else ns.take 3
noncomputable def srvs (ns : List Int) : List (Nat × List Nat) := (nums ns).map srvN
theorem eol_item (x : Int) (t0 t1 t2 : Tok) : ∃ k : Nat, k ≤ 100000 ∧ (x.fdiv 5).fmod 3 = ((k : Nat) : Int) ∧ ∃ tv, (#[Value.str (PySem.Str.ofString "\n") t0, .str (PySem.Str.ofString "\r\n") t1, .str (PySem.Str.ofString "\r") t2] : Array Value)[k]? = some (.str ⟨(srvN x).2.toArray⟩ tv) := by
  obtain ⟨k, hk, e⟩ := fmod_nat (x.fdiv 5) 3 (by decide)
  have e' : (x.fdiv 5).fmod 3 = ((k : Nat) : Int) := e
  refine ⟨k, by lia, e', ?_⟩
  unfold srvN
  rw [e']
  have z1 : PySem.Str.ofString "\n" = ⟨#[10]⟩ := by decide +kernel
  have z2 : PySem.Str.ofString "\r\n" = ⟨#[13, 10]⟩ := by decide +kernel
  have z3 : PySem.Str.ofString "\r" = ⟨#[13]⟩ := by decide +kernel
  rw [z1, z2, z3]
  have hc : k = 0 ∨ k = 1 ∨ k = 2 := by lia
  rcases hc with rfl | rfl | rfl
  · exact ⟨t0, rfl⟩
  · exact ⟨t1, rfl⟩
  · exact ⟨t2, rfl⟩
theorem room_int (x : Int) : 4 + x.fmod 5 = (((srvN x).1 : Nat) : Int) := by
  obtain ⟨k, hk, e⟩ := fmod_nat x 5 (by decide)
  have e' : x.fmod 5 = ((k : Nat) : Int) := e
  unfold srvN
  dsimp only
  rw [e']
  lia
noncomputable def oTp (vs : Array Value) : Obj := ⟨.type "tuple", none, .seq vs 0, #[]⟩
noncomputable def RS (ks : List Int) (i : Nat) (v y : Value) (own : List (Addr × Obj)) : Prop := ∃ T t1 t2, y = .ref T ∧ own = [(T, oTp #[.int (((srvN (ks.getD i 0)).1 : Nat) : Int) t1, .str ⟨(srvN (ks.getD i 0)).2.toArray⟩ t2])]
set_option maxHeartbeats 4000000 in
theorem law_two {w : World} {A : Around} {s : Shared} {h₀ : Heap} {L : Addr} {m : PySem.Str → Option Value} {o1 o2 : Obj} {a O : Addr} {vs osv : List Value} {ns : List Int} {n c : Nat} {o : Obj} {Q : Flow → Shared → Prop} (hA : A.handled = none) (hu : A.units + 64 < cLine) (U : Up w h₀)
    (F : Fr h₀ L s.heap m) (hm : m (S "script") = some (.ref a)) (hm2 : m (S "octets") = some (.ref O)) (N : News h₀ L s.heap [(O, oL (List.toArray osv) c), (L + 2, o2), (L + 1, o1)]) (ho : h₀.get? a = some o) (hc : o.cls = .type "list") (hdt : o.data = .seq vs.toArray n) (hi : IntsAre vs ns) (hvl : vs.length ≤ 63) (hd1 : o1.data = .cell none)
    (K : ∀ s' m' SV its k tups oc, Fr h₀ L s'.heap m' → m' (S "octets") = some (.ref O) → oc.data = .cell (some (.ref SV)) → News h₀ L s'.heap ((SV, oL (List.toArray its) k) :: (L + 1, oc) :: (O, oL (List.toArray osv) c) :: (L + 2, o2) :: tups) → its.length = (srvs ns).length →
      (∀ j v, its[j]? = some v → ∃ T t1 t2, v = .ref T ∧ (T, oTp #[.int ((((srvs ns).getD j (4, [])).1 : Nat) : Int) t1, .str ⟨((srvs ns).getD j (4, [])).2.toArray⟩ t2]) ∈ tups) → (∀ p ∈ tups, ∃ a k, p.2.data = .seq a k) → s'.gens = s.gens → s'.os = s.os → wpAny (model pw w) A (execs ((fBody (stm 35)).drop 5) (envL L)) Q (fun _ _ => False) s') :
    wpAny (model pw w) A (execs ((fBody (stm 35)).drop 2) (envL L)) Q (fun _ _ => False) s := by
  obtain ⟨h₁, g₁, d₁, k₁, os₁⟩ := s
  dsimp only at F N ⊢
  have F := fr_upd (fr_upd F hm) (x := S "octets") (by with_unfolding_all exact hm2)
  have hvs : vs.toArray.size ≤ sizeLine := by rw [sizeLine_eq, List.size_toArray]; exact Nat.le_trans hvl (by decide)
  repeat' (first
    | ((with_reducible show wpAny _ _ (eval (PySem.Expr.Name _ _) _) _ _ _); (first | ((with_reducible show wpAny _ _ (eval (PySem.Expr.Name _ _) _) _ _ _); refine name_lE (by assumption) (by kernel_rfl) (by kernel_rfl) (by first | assumption | with_unfolding_all rfl) (by decide +kernel) ?_)); try dsimp only)
    | ((with_reducible show wpAny _ _ (storeName (envOfC _ _ _ _ _) _ _) _ _ _); refine stLocN (by assumption) (by assumption) ?_ (by kernel_rfl) (by kernel_rfl); intro _ _ _; try dsimp only)
    | (walk1; try dsimp only)
    | fail "no")
  rename News _ _ _ _ => NZ
  rename Fr _ _ _ _ => FZ
  refine kmk_slice_ints (s := { heap := h₁, gens := g₁, drawn := d₁, toks := k₁ + 1, os := os₁ }) FZ NZ ⟨_, FZ.keep _ _ ho, hc, n, hdt⟩ (.none) (.int _ _) hi (kmk_upto (y := 3) hi (by decide)) rfl ?_ ?hs2 ?ht2 hvs
  case hs2 => with_unfolding_all rfl
  case ht2 => intro _; with_unfolding_all rfl
  clear FZ NZ
  intro D1 ws h₂ F₂ N₂ hD1 hws _ hwl
  have hwl3 : (ns.take (3 : Int).toNat).length ≤ 3 := by rw [List.length_take]; exact Nat.min_le_left _ _
  have hnum : nums ns = if ns.take (3 : Int).toNat = [] then [11] else ns.take (3 : Int).toNat := rfl
  generalize hms : ns.take (3 : Int).toNat = ms at *
  repeat' (first
    | ((with_reducible show wpAny _ _ (eval (PySem.Expr.Name _ _) _) _ _ _); (first | ((with_reducible show wpAny _ _ (eval (PySem.Expr.Name _ _) _) _ _ _); refine name_lE (by assumption) (by kernel_rfl) (by kernel_rfl) (by first | assumption | with_unfolding_all rfl) (by decide +kernel) ?_)); try dsimp only)
    | ((with_reducible show wpAny _ _ (storeName (envOfC _ _ _ _ _) _ _) _ _ _); refine stLocN (by assumption) (by assumption) ?_ (by kernel_rfl) (by kernel_rfl); intro _ _ _; try dsimp only)
    | ((fail_if_success (with_reducible show wpAny _ _ (execs (PySem.Stmt.If _ _ _ _ :: _) _) _ _ _)); walk1; try dsimp only)
    | fail "no")
  refine cons_join (fun s' => ∃ mm NU nv c', Fr h₀ L s'.heap mm ∧ mm (S "numbers") = some (.ref NU) ∧ mm (S "octets") = some (.ref O) ∧ News h₀ L s'.heap [(NU, oL (List.toArray nv) c'), (O, oL (List.toArray osv) c), (L + 2, o2), (L + 1, o1)] ∧ IntsAre nv (nums ns) ∧ s'.gens = g₁ ∧ s'.os = os₁) ?_ ?_
  · intro P hP
    repeat' (first
      | ((with_reducible show wpAny _ _ (eval (PySem.Expr.Name _ _) _) _ _ _); (first | ((with_reducible show wpAny _ _ (eval (PySem.Expr.Name _ _) _) _ _ _); refine name_lE (by assumption) (by kernel_rfl) (by kernel_rfl) (by first | assumption | with_unfolding_all rfl) (by decide +kernel) ?_)); try dsimp only)
      | ((with_reducible show wpAny _ _ (storeName (envOfC _ _ _ _ _) _ _) _ _ _); refine stLocN (by assumption) (by assumption) ?_ (by kernel_rfl) (by kernel_rfl); intro _ _ _; try dsimp only)
      | ((with_reducible show wpAny _ _ (compareOp CmpOp.Eq (Value.ref _) (Value.ref _)) _ _ _); rename News _ _ _ _ => NX; refine eq_intsK (vs := ws) (us := []) ⟨_, (NX _ (.tail _ (.head _))).1, rfl, _, rfl⟩ hws ⟨_, (NX _ (.head _)).1, rfl, _, rfl⟩ .nil hu ?_; try dsimp only)
      | (walk1; try dsimp only)
      | fail "no")
    · rename Fr _ _ _ _ => FZ
      rename News _ _ _ _ => NZ
      rename (_ = true) => hd
      have hms0 : ms = [] := by simpa using hd
      refine hP _ _ ⟨rfl, _, _, [.int 11 (k₁ + 1 + 1)], 0, FZ, by with_unfolding_all rfl, by with_unfolding_all rfl, ?_, (by rw [hnum, if_pos hms0]; exact .cons _ _ .nil), rfl, rfl⟩
      intro p hp
      simp only [List.mem_cons, List.not_mem_nil, or_false] at hp
      rcases hp with rfl | rfl | rfl | rfl
      · exact NZ _ (.head _)
      · exact NZ _ (by simp)
      · exact NZ _ (by simp)
      · exact NZ _ (by simp)
    · rename Fr _ _ _ _ => FZ
      rename News _ _ _ _ => NZ
      rename (_ = false) => hd
      have hms0 : ms ≠ [] := by simpa using hd
      refine hP _ _ ⟨rfl, _, _, _, 0, FZ, by with_unfolding_all rfl, by with_unfolding_all rfl, ?_, (by rw [hnum, if_neg hms0]; exact hws), rfl, rfl⟩
      intro p hp
      simp only [List.mem_cons, List.not_mem_nil, or_false] at hp
      rcases hp with rfl | rfl | rfl | rfl
      · exact NZ (_, W.listOf ws.toArray 0) (by simp)
      · exact NZ _ (by simp)
      · exact NZ _ (by simp)
      · exact NZ _ (by simp)
  · rintro ⟨h₅, g₅, d₅, k₅, o₅⟩ ⟨mm, NU, nv, c', F₅, e1, e2, N₅, hnv, rfl, rfl⟩
    dsimp only at F₅ N₅
    have F₅ := fr_upd (fr_upd F₅ e1) (x := S "octets") (by with_unfolding_all exact e2)
    repeat' (first
      | ((with_reducible show wpAny _ _ (eval (PySem.Expr.Name _ _) _) _ _ _); (first | ((with_reducible show wpAny _ _ (eval (PySem.Expr.Name _ _) _) _ _ _); refine name_lE (by assumption) (by kernel_rfl) (by kernel_rfl) (by first | assumption | with_unfolding_all rfl) (by decide +kernel) ?_)); try dsimp only)
      | ((fail_if_success (with_reducible show wpAny _ _ (exec (PySem.Stmt.Assign _ (PySem.Expr.ListComp _ _ _ _) _) _) _ _ _)); walk1; try dsimp only)
      | fail "no")
    refine wpAny_Assign_Name ?_ (by with_unfolding_all rfl)
    refine comp_expr F₅ (cl := []) ?a2 ?a3 ?a4 ?a5 ?a6 ?_ ?a10
    case a2 => with_unfolding_all rfl
    case a3 => decide +kernel
    case a4 => rfl
    case a5 => decide +kernel
    case a6 => decide +kernel
    case a10 => intro _; rfl
    repeat' (first
      | ((with_reducible show wpAny _ _ (eval (PySem.Expr.Name _ _) _) _ _ _); (first | ((with_reducible show wpAny _ _ (eval (PySem.Expr.Name _ _) _) _ _ _); refine name_lE (by assumption) (by kernel_rfl) (by kernel_rfl) (by first | assumption | with_unfolding_all rfl) (by decide +kernel) ?_)); try dsimp only)
      | (walk1; try dsimp only)
      | fail "no")
    have hnl : nv.toArray.size = (nums ns).length := by rw [List.size_toArray, hnv.length]
    have hn3 : (nums ns).length ≤ 3 := by rw [hnum]; split; · decide
                                          · exact hwl3
    refine ⟨_, _, _, RS (nums ns), src_list (by exact hA) ⟨_, (N₅ _ (.head _)).1, rfl, c', rfl⟩, ?_, F₅, N₅, ?_, ?_⟩
    · rw [sizeLine_eq, hnl]; exact Nat.le_trans hn3 (by decide)
    · intro C i v s₃ m₃ K hi3 hv F₃ hm3 N₃ hg₃ ho₃
      have hil : i < (nums ns).length := by rw [← hnl]; exact hi3
      obtain ⟨t, hv2⟩ := ints_get hnv (List.getElem?_eq_getElem hil)
      rw [List.getElem?_toArray, hv2] at hv
      obtain rfl := Option.some.inj hv
      have hx : (nums ns).getD i 0 = (nums ns)[i] := by simp [List.getD, hil]
      generalize (nums ns)[i] = x at hx hm3 ⊢
      repeat' (first
        | ((with_reducible show wpAny _ _ (eval (PySem.Expr.Name _ _) _) _ _ _); (first | ((with_reducible show wpAny _ _ (eval (PySem.Expr.Name _ _) _) _ _ _); refine name_lE (by assumption) (by kernel_rfl) (by kernel_rfl) (by first | assumption | with_unfolding_all rfl) (by decide +kernel) ?_)); try dsimp only)
        | (walk1; try dsimp only)
        | fail "no")
      rename News _ _ _ _ => NZ
      obtain ⟨k, hk1, hk2, tv, hk3⟩ := eol_item x (s₃.toks + 1 + 1 + 1 + 1) (s₃.toks + 1 + 1 + 1 + 1 + 1) (s₃.toks + 1 + 1 + 1 + 1 + 1 + 1)
      refine item_int (n := k) ⟨_, (NZ _ (.head _)).1, rfl, _, rfl⟩ hk2 hk1 hk3 ?_ (by with_unfolding_all rfl)
      repeat' (first
        | ((with_reducible show wpAny _ _ (eval (PySem.Expr.Name _ _) _) _ _ _); (first | ((with_reducible show wpAny _ _ (eval (PySem.Expr.Name _ _) _) _ _ _); refine name_lE (by assumption) (by kernel_rfl) (by kernel_rfl) (by first | assumption | with_unfolding_all rfl) (by decide +kernel) ?_)); try dsimp only)
        | (walk1; try dsimp only)
        | fail "no")
      rename Fr _ _ _ _ => FZ2
      rename News _ _ _ _ => NZ2
      refine ⟨[(_, oTp #[.int (4 + x.fmod 5) (s₃.toks + 1 + 1 + 1), .str ⟨(srvN x).2.toArray⟩ tv])], _, ⟨_, _, _, rfl, by rw [hx, ← room_int]⟩, FZ2, ?_, ?_, hg₃, ho₃⟩
      · intro p hp
        rcases List.mem_cons.mp hp with rfl | hp
        · exact NZ2 _ (.head _)
        · exact NZ2 p (.tail _ (.tail _ hp))
      · intro p hp q hq
        rw [List.mem_singleton.mp hp]
        exact (Nat.ne_of_lt (Heap.lt_size (NZ q (.tail _ hq)).1)).symm
    · intro D s' yo k hlen hyo F' N' hg' ho'
      dsimp only at F' hg' ho'
      rw [hnl] at hlen
      have hall : ∀ j v, (yo.map (·.1))[j]? = some v → ∃ T t1 t2, v = .ref T ∧ (T, oTp #[.int ((((srvs ns).getD j (4, [])).1 : Nat) : Int) t1, .str ⟨((srvs ns).getD j (4, [])).2.toArray⟩ t2]) ∈ yo.flatMap (·.2) := by
        intro j v hj
        rw [List.getElem?_map] at hj
        cases hyj : yo[j]? with
        | none => rw [hyj] at hj; cases hj
        | some p =>
          rw [hyj] at hj
          obtain rfl := Option.some.inj hj
          obtain ⟨v', _, T, t1, t2, e1, e2⟩ := hyo j p hyj
          have hjl : j < (nums ns).length := by rw [← hlen]; exact (List.getElem?_eq_some_iff.mp hyj).1
          have hsj : (srvs ns).getD j (4, []) = srvN ((nums ns).getD j 0) := by simp [srvs, List.getD, hjl]
          refine ⟨T, t1, t2, e1, List.mem_flatMap.mpr ⟨p, List.mem_of_getElem? hyj, ?_⟩⟩
          rw [e2, hsj]
          exact .head _
      have hcls : ∀ p ∈ yo.flatMap (·.2), ∃ a k, p.2.data = .seq a k := by
        intro p hp
        obtain ⟨q, hq, hpq⟩ := List.mem_flatMap.mp hp
        obtain ⟨j, hj, rfl⟩ := List.getElem_of_mem hq
        obtain ⟨v', _, T, t1, t2, e1, e2⟩ := hyo j yo[j] (List.getElem?_eq_getElem hj)
        rw [e2, List.mem_singleton] at hpq
        rw [hpq]
        exact ⟨_, _, rfl⟩
      have hyl : (yo.map (·.1)).length = (srvs ns).length := by rw [List.length_map, hlen]; simp [srvs]
      generalize (yo.map (·.1)) = its at N' hall hyl
      generalize yo.flatMap (·.2) = tups at N' hall hcls
      have hsub : ∀ p ∈ [(D, oL its.toArray k), (O, oL osv.toArray c), (L + 2, o2)] ++ tups, p ∈ ((D, oL its.toArray k) :: (tups ++ [(NU, oL nv.toArray c'), (O, oL osv.toArray c), (L + 2, o2), (L + 1, o1)])) := by
        intro p hp
        simp only [List.mem_append, List.mem_cons, List.not_mem_nil, or_false] at hp ⊢
        rcases hp with (q | q | q) | q
        · exact .inl q
        · exact .inr (.inr (.inr (.inl q)))
        · exact .inr (.inr (.inr (.inr (.inl q))))
        · exact .inr (.inl q)
      have n1 := N' (L + 1, o1) (by simp)
      have hne : ∀ p ∈ [(D, oL its.toArray k), (O, oL osv.toArray c), (L + 2, o2)] ++ tups, p.1 ≠ L + 1 := by
        intro p hp q
        have np := N' p (hsub p hp)
        have e1 : p.2 = o1 := by
          have h1 := np.1
          rw [q] at h1
          exact Option.some.inj (h1.symm.trans n1.1)
        have hseq : (∃ a k, p.2.data = .seq a k) ∨ p.1 = L + 2 := by
          simp only [List.mem_append, List.mem_cons, List.not_mem_nil, or_false] at hp
          rcases hp with (z | z | z) | z
          · rw [z]; exact .inl ⟨_, _, rfl⟩
          · rw [z]; exact .inl ⟨_, _, rfl⟩
          · rw [z]; exact .inr rfl
          · exact .inl (hcls p z)
        rcases hseq with ⟨a, k, z⟩ | z
        · rw [e1, hd1] at z; cases z
        · rw [z] at q; exact absurd (Nat.succ.inj q) (Nat.succ_ne_self L)
      have N'' : News h₀ L s'.heap ([] ++ (L + 1, o1) :: ([(D, oL its.toArray k), (O, oL osv.toArray c), (L + 2, o2)] ++ tups)) := by
        intro p hp
        rcases List.mem_cons.mp hp with rfl | hp
        · exact n1
        · exact N' p (hsub p hp)
      refine stCN (c := L + 1) F' N'' (by with_unfolding_all rfl) hd1 (by simp) hne ?_ (by kernel_rfl) (by kernel_rfl)
      intro h₆ oc F₆ N₆ hoc
      refine K _ _ D its k tups oc F₆ (by with_unfolding_all rfl) hoc ?_ hyl hall hcls hg' ho'
      intro p hp
      simp only [List.mem_cons] at hp
      rcases hp with rfl | rfl | rfl | rfl | q
      · exact N₆ _ (by simp)
      · exact N₆ _ (by simp)
      · exact N₆ _ (by simp)
      · exact N₆ _ (by simp)
      · exact N₆ _ (by simp [q])
end Mine
end
section
namespace Mine

/-- the comprehension [chr(x) for x in a list] : its element -/
noncomputable def RC (cs : List Nat) (i : Nat) (v y : Value) (own : List (Addr × Obj)) : Prop := own = [] ∧ ∃ t, y = .str ⟨#[cs.getD i 0]⟩ t
noncomputable def RD (cs : List Nat) (i : Nat) (v y : Value) (own : List (Addr × Obj)) : Prop := own = [] ∧ ∃ t, y = .int ((cs.getD i 0 : Nat) : Int) t
theorem octs_lt (ns : List Int) : ∀ c ∈ octs ns, c < 256 := by
  intro c hc
  rcases List.mem_append.mp hc with q | q
  · obtain ⟨x, _, rfl⟩ := List.mem_map.mp q; exact octN_lt x
  · simp at q; lia
theorem octs_len (ns : List Int) : (octs ns).length ≤ 18 := by
  unfold octs
  rw [List.length_append, List.length_map, List.length_take]
  simp only [List.length_cons, List.length_nil]
  lia
theorem octs_pos (ns : List Int) : 9 ≤ (octs ns).length := by
  unfold octs
  rw [List.length_append]
  simp only [List.length_cons, List.length_nil]
  lia
theorem singles_flat (cs : List Nat) : (cs.map fun c => [c]).flatten = cs := by
  induction cs with
  | nil => rfl
  | cons c cs ih => rw [List.map_cons, List.flatten_cons, ih]; rfl
theorem join_singles (cs : List Nat) : Txt.join (PySem.Str.ofString "") ((cs.map fun c => [c]).map fun x => (⟨x.toArray⟩ : PySem.Str)) = ⟨cs.toArray⟩ := by
  have he0 : PySem.Str.ofString "" = ⟨([] : List Nat).toArray⟩ := by decide +kernel
  rw [he0, glued_nil, singles_flat]
/-- the word of header_encode -/
noncomputable def wordL (cs : List Nat) : List Nat := [61, 63, 120, 63, 113, 63] ++ (cs.flatMap fun c => (hdrS c).cps.toList) ++ [63, 61]
theorem u8_back {c : Nat} (h : c < 256) : c.toUInt8.toNat = c := by
  show c % 256 = c
  lia
theorem word_of (cs : List Nat) (h : ∀ c ∈ cs, c < 256) (b : Array UInt8) (hb : b.toList = cs.map fun c => c.toUInt8) : wordOf b = ⟨(wordL cs).toArray⟩ := by
  unfold wordOf wordL
  rw [hb, List.flatMap_map]
  have e : (cs.flatMap fun c => (hdrS c.toUInt8.toNat).cps.toList) = cs.flatMap fun c => (hdrS c).cps.toList := by
    rw [List.flatMap_def, List.flatMap_def]
    congr 1
    exact List.map_congr_left fun c hc => by rw [u8_back (h c hc)]
  rw [e]
set_option maxHeartbeats 4000000 in
theorem law_three {w : World} {A : Around} {s : Shared} {h₀ : Heap} {L : Addr} {m : PySem.Str → Option Value} {O : Addr} {osv : List Value} {ns : List Int} {c : Nat} {news : List (Addr × Obj)} {Q : Flow → Shared → Prop} (hA : A.handled = none) (hd : A.depth + 4 < recursionLimit) (U : Up w h₀)
    (F : Fr h₀ L s.heap m) (hm2 : m (S "octets") = some (.ref O)) (N : News h₀ L s.heap ((O, oL (List.toArray osv) c) :: news)) (hI : IntsAre osv ((octs ns).map fun c => ((c : Nat) : Int)))
    (K : ∀ s' m', Fr h₀ L s'.heap m' → (∃ t, m' (S "text") = some (.str ⟨(octs ns).toArray⟩ t)) → (∃ t, m' (S "word") = some (.str ⟨(wordL (octs ns)).toArray⟩ t)) → (∃ t, m' (S "mail") = some (.str ⟨(wordL (octs ns) ++ [10] ++ octs ns).toArray⟩ t)) → News h₀ L s'.heap news → s'.gens = s.gens → s'.os = s.os →
      wpAny (model pw w) A (execs ((fBody (stm 35)).drop 8) (envL L)) Q (fun _ _ => False) s') :
    wpAny (model pw w) A (execs ((fBody (stm 35)).drop 5) (envL L)) Q (fun _ _ => False) s := by
  obtain ⟨h₁, g₁, d₁, k₁, os₁⟩ := s
  dsimp only at F N K ⊢
  have F := fr_upd F hm2
  have hol := octs_len ns
  have hop := octs_pos ns
  have hlt := octs_lt ns
  generalize octs ns = cs at *
  have hoz : osv.toArray.size = cs.length := by rw [List.size_toArray, hI.length, List.length_map]
  repeat' (first
    | ((with_reducible show wpAny _ _ (eval (PySem.Expr.Name _ _) _) _ _ _); (first | ((with_reducible show wpAny _ _ (eval (PySem.Expr.Name (PySem.Str.ofString "header_encode") _) _) _ _ _); refine name_gE (by assumption) (by assumption) (by kernel_rfl) (by kernel_rfl) (by rfl) (g_henc _) (by decide +kernel) ?_) | ((with_reducible show wpAny _ _ (eval (PySem.Expr.Name (PySem.Str.ofString "bytes") _) _) _ _ _); refine name_bE (by assumption) (by assumption) (by kernel_rfl) (by kernel_rfl) (by rfl) (by rfl) (g_bytes _) (b_bytes _) (by decide +kernel) ?_) | ((with_reducible show wpAny _ _ (eval (PySem.Expr.Name (PySem.Str.ofString "chr") _) _) _ _ _); refine name_bE (by assumption) (by assumption) (by kernel_rfl) (by kernel_rfl) (by rfl) (by rfl) (g_chr _) (b_chr _) (by decide +kernel) ?_) | ((with_reducible show wpAny _ _ (eval (PySem.Expr.Name _ _) _) _ _ _); refine name_lE (by assumption) (by kernel_rfl) (by kernel_rfl) (by first | assumption | with_unfolding_all rfl) (by decide +kernel) ?_)); try dsimp only)
    | ((with_reducible show wpAny _ _ (storeName (envOfC _ _ _ _ _) _ _) _ _ _); refine stLocN (by assumption) (by assumption) ?_ (by kernel_rfl) (by kernel_rfl); intro _ _ _; try dsimp only)
    | ((fail_if_success (with_reducible show wpAny _ _ (eval (PySem.Expr.ListComp _ _ _ _) _) _ _ _)); walk1; try dsimp only)
    | fail "no")
  refine comp_expr (by assumption) (cl := []) ?a2 ?a3 ?a4 ?a5 ?a6 ?_ ?a10
  case a2 => with_unfolding_all rfl
  case a3 => decide +kernel
  case a4 => rfl
  case a5 => decide +kernel
  case a6 => decide +kernel
  case a10 => intro _; rfl
  repeat' (first
    | ((with_reducible show wpAny _ _ (eval (PySem.Expr.Name _ _) _) _ _ _); (first | ((with_reducible show wpAny _ _ (eval (PySem.Expr.Name (PySem.Str.ofString "header_encode") _) _) _ _ _); refine name_gE (by assumption) (by assumption) (by kernel_rfl) (by kernel_rfl) (by rfl) (g_henc _) (by decide +kernel) ?_) | ((with_reducible show wpAny _ _ (eval (PySem.Expr.Name (PySem.Str.ofString "bytes") _) _) _ _ _); refine name_bE (by assumption) (by assumption) (by kernel_rfl) (by kernel_rfl) (by rfl) (by rfl) (g_bytes _) (b_bytes _) (by decide +kernel) ?_) | ((with_reducible show wpAny _ _ (eval (PySem.Expr.Name (PySem.Str.ofString "chr") _) _) _ _ _); refine name_bE (by assumption) (by assumption) (by kernel_rfl) (by kernel_rfl) (by rfl) (by rfl) (g_chr _) (b_chr _) (by decide +kernel) ?_) | ((with_reducible show wpAny _ _ (eval (PySem.Expr.Name _ _) _) _ _ _); refine name_lE (by assumption) (by kernel_rfl) (by kernel_rfl) (by first | assumption | with_unfolding_all rfl) (by decide +kernel) ?_)); try dsimp only)
    | (walk1; try dsimp only)
    | fail "no")
  rename Fr _ _ _ _ => FZ
  rename News _ _ _ _ => NZ
  refine ⟨_, _, _, RC cs, src_list (by exact hA) ⟨_, (NZ _ (.head _)).1, rfl, _, rfl⟩, ?_, FZ, NZ, ?_, ?_⟩
  · rw [sizeLine_eq, hoz]; exact Nat.le_trans hol (by decide)
  · intro C i v s₃ m₃ K hi3 hv F₃ hm3 N₃ hg₃ ho₃
    have hil : i < cs.length := by rw [← hoz]; exact hi3
    obtain ⟨t, hv2⟩ := ints_get hI (n := i) (i := ((cs[i] : Nat) : Int)) (by rw [List.getElem?_map, List.getElem?_eq_getElem hil]; rfl)
    rw [List.getElem?_toArray, hv2] at hv
    obtain rfl := Option.some.inj hv
    have hx : cs.getD i 0 = cs[i] := by simp [List.getD, hil]
    have hx2 : cs[i] < 256 := hlt _ (List.getElem_mem hil)
    generalize cs[i] = x at hx hm3 hx2 ⊢
    have U₃ : Up w h₁ := fun b o e => FZ.keep _ _ (U _ _ e)
    try dsimp only at F₃ N₃ hg₃ ho₃
    repeat' (first
      | ((with_reducible show wpAny _ _ (eval (PySem.Expr.Name _ _) _) _ _ _); (first | ((with_reducible show wpAny _ _ (eval (PySem.Expr.Name (PySem.Str.ofString "header_encode") _) _) _ _ _); refine name_gE (by assumption) (by assumption) (by kernel_rfl) (by kernel_rfl) (by rfl) (g_henc _) (by decide +kernel) ?_) | ((with_reducible show wpAny _ _ (eval (PySem.Expr.Name (PySem.Str.ofString "bytes") _) _) _ _ _); refine name_bE (by assumption) (by assumption) (by kernel_rfl) (by kernel_rfl) (by rfl) (by rfl) (g_bytes _) (b_bytes _) (by decide +kernel) ?_) | ((with_reducible show wpAny _ _ (eval (PySem.Expr.Name (PySem.Str.ofString "chr") _) _) _ _ _); refine name_bE (by assumption) (by assumption) (by kernel_rfl) (by kernel_rfl) (by rfl) (by rfl) (g_chr _) (b_chr _) (by decide +kernel) ?_) | ((with_reducible show wpAny _ _ (eval (PySem.Expr.Name _ _) _) _ _ _); refine name_lE (by assumption) (by kernel_rfl) (by kernel_rfl) (by first | assumption | with_unfolding_all rfl) (by decide +kernel) ?_)); try dsimp only)
      | ((with_reducible show wpAny _ _ (call (Value.builtin "chr") _) _ _ _); refine chr_of_range (by (clear hi3 hoz hop hol hd; lia)) (by (clear hi3 hoz hop hol hd; lia)) ?_; try dsimp only)
      | (walk1; try dsimp only)
      | fail "no")
    rename Fr _ _ _ _ => FY
    rename News _ _ _ _ => NY
    exact ⟨[], _, ⟨rfl, _, by rw [hx]; rfl⟩, FY, NY, (by intro p hp; cases hp), hg₃, ho₃⟩
  · intro D s' yo k hlen hyo F' N' hg' ho'
    dsimp only at F' hg' ho'
    rw [own_nil hyo (fun _ _ _ _ h => h.1)] at N'
    rw [hoz] at hlen
    have hS : ValsAre 0 (yo.map (·.1)) (cs.map fun c => [c]) := strs_by yo _ (by rw [hlen]; simp) fun j p hj => by
      obtain ⟨v, hv, _, t, e⟩ := hyo j p hj
      have hjl : j < cs.length := by rw [← hlen]; exact (List.getElem?_eq_some_iff.mp hj).1
      exact ⟨t, by rw [e]; simp [List.getD, hjl]⟩
    generalize (yo.map (·.1)) = ys at hS N'
    obtain ⟨h₃, g₃, d₃, k₃, o₃⟩ := s'
    dsimp only at F' N' hg' ho' ⊢
    have hb256 : ∀ n ∈ (cs.map fun c => ((c : Nat) : Int)), 0 ≤ n ∧ n < 256 := by
      intro n hn
      obtain ⟨c, hc, rfl⟩ := List.mem_map.mp hn
      have := hlt c hc
      (clear hlen hoz hop hol hd; lia)
    have hbs1 : (((cs.map fun c => ((c : Nat) : Int)).map fun n => n.toNat.toUInt8).toArray).size ≤ 1000 := by simp; (clear hd; lia)
    have hbs2 : (((cs.map fun c => ((c : Nat) : Int)).map fun n => n.toNat.toUInt8).toArray).size ≠ 0 := by simp; intro q; rw [q] at hop; simp at hop
    have hwo := word_of cs hlt (((cs.map fun c => ((c : Nat) : Int)).map fun n => n.toNat.toUInt8).toArray) (by simp [Function.comp_def])
    have he10 : PySem.Str.ofString "\n" = ⟨[10].toArray⟩ := by decide +kernel
    have hwl : (wordL cs).length ≤ 100 := by
      have h3 := flat_len hdrS hdrS_len cs
      unfold wordL
      simp only [List.length_append, List.length_cons, List.length_nil]
      (clear hbs2 hbs1 hd; lia)
    repeat' (first
      | ((with_reducible show wpAny _ _ (eval (PySem.Expr.Name _ _) _) _ _ _); (first | ((with_reducible show wpAny _ _ (eval (PySem.Expr.Name (PySem.Str.ofString "header_encode") _) _) _ _ _); refine name_gE (by assumption) (by assumption) (by kernel_rfl) (by kernel_rfl) (by rfl) (g_henc _) (by decide +kernel) ?_) | ((with_reducible show wpAny _ _ (eval (PySem.Expr.Name (PySem.Str.ofString "bytes") _) _) _ _ _); refine name_bE (by assumption) (by assumption) (by kernel_rfl) (by kernel_rfl) (by rfl) (by rfl) (g_bytes _) (b_bytes _) (by decide +kernel) ?_) | ((with_reducible show wpAny _ _ (eval (PySem.Expr.Name (PySem.Str.ofString "chr") _) _) _ _ _); refine name_bE (by assumption) (by assumption) (by kernel_rfl) (by kernel_rfl) (by rfl) (by rfl) (g_chr _) (b_chr _) (by decide +kernel) ?_) | ((with_reducible show wpAny _ _ (eval (PySem.Expr.Name _ _) _) _ _ _); refine name_lE (by assumption) (by kernel_rfl) (by kernel_rfl) (by first | assumption | with_unfolding_all rfl) (by decide +kernel) ?_)); try dsimp only)
      | ((with_reducible show wpAny _ _ (storeName (envOfC _ _ _ _ _) _ _) _ _ _); refine stLocN (by assumption) (by assumption) ?_ (by kernel_rfl) (by kernel_rfl); intro _ _ _; try dsimp only)
      | ((with_reducible show wpAny _ _ (call (Value.builtin "str.join") _) _ _ _); rename News _ _ _ _ => NX; refine join_list (D := D) (items := ys.toArray) ⟨_, (NX _ (.head _)).1, rfl, _, rfl⟩ (vals_str hS) ?_ ?_; rotate_left; intro _ _; rw [join_singles]; try dsimp only)
      | ((with_reducible show wpAny _ _ (call (Value.type "bytes") _) _ _ _); rename Fr _ _ _ _ => FX; rename News _ _ _ _ => NX; refine bytes_K FX NX ⟨_, (NX (O, oL osv.toArray c) (by simp)).1, rfl, _, rfl⟩ hI hb256 (by rw [sizeLine_eq, hI.length, List.length_map]; exact Nat.le_trans hol (by decide)) (by exact hA) ?_; intro _ _ _ _ _ _; try dsimp only)
      | ((with_reducible show wpAny _ _ (callWith _ (Value.ref 98) _ _ _) _ _ _); refine cw_def (o := o98I w.params) (by kernel_rfl) rfl ?_ (by rfl))
      | ((with_reducible show Up _ _ ∧ _); rename Fr _ _ _ _ => FX; refine ⟨fun b o e => FX.keep _ _ (U _ _ e), ?_⟩)
      | ((with_reducible show wpAny _ _ (call (Value.ref 98) _) _ _ _); rename Fr _ _ _ _ => FX; rename News _ _ _ _ => NX; refine wpAny_mono (henc_ok (fun b o e => FX.keep _ _ (U _ _ e)) (Nat.lt_of_le_of_lt (Nat.le_add_right A.depth 4) hd) _ _ _ hbs1 hbs2) ?_ (fun _ _ (x : False) => x.elim); rw [hwo]; rintro v ⟨h₉, g₉, d₉, k₉, os₉⟩ ⟨hv9, G⟩; obtain ⟨tv, rfl⟩ := tell_str hv9; have FY := fr_grow FX G.keep; have NY := news_grow NX G.keep; clear FX NX; obtain rfl : g₉ = _ := G.gens; obtain rfl : os₉ = _ := G.os; clear G; try dsimp only)
      | ((with_reducible show wpAny _ _ (binaryOp Operator.Add (Value.str _ _) (Value.str _ _)) _ _ _); (try rw [he10]); refine badd_l (by simp only [List.length_append, List.length_cons, List.length_nil]; (clear hbs2 hbs1 hd; lia)) ?_; intro _ _; try dsimp only)
      | ((fail_if_success (with_reducible show wpAny _ _ (execs (PySem.Stmt.For _ _ _ _ _ :: _) _) _ _ _)); walk1; try dsimp only)
      | fail "no")
    · rename Fr _ _ _ _ => FZ
      rename News _ _ _ _ => NZ
      refine K _ _ FZ ⟨_, by with_unfolding_all rfl⟩ ⟨_, by with_unfolding_all rfl⟩ ⟨_, by with_unfolding_all rfl⟩ (fun p hp => NZ p (by simp [hp])) hg' ho'
    · rw [len_map, singles_flat, List.length_map, List.length_map]
      have e0 : (PySem.Str.ofString "").length = 0 := by decide +kernel
      rw [e0]; (clear e0 hwl hbs2 hbs1 hd; lia)
end Mine
end
section
namespace Mine

theorem rows_two {room : Nat} (mail : List Nat) (h : 2 ≤ (spl mail).length) : 2 ≤ ((spl mail).flatMap (rowsOf room)).length := by
  have hpos : ∀ l, 1 ≤ (rowsOf room l).length := fun l => by
    unfold rowsOf
    rw [List.length_append]
    have := List.length_pos_iff.mpr (lastRows_ne room (softU room l.length l).2)
    lia
  cases hs : spl mail with
  | nil => rw [hs] at h; simp at h
  | cons a t =>
    cases t with
    | nil => rw [hs] at h; simp at h
    | cons b t =>
      rw [List.flatMap_cons, List.flatMap_cons, List.length_append, List.length_append]
      have := hpos a
      have := hpos b
      (clear h; lia)
theorem joinE_two (e : List Nat) (he : e ≠ []) : ∀ rs : List (List Nat), 2 ≤ rs.length → joinE e rs ≠ []
  | [], h => by simp at h
  | [a], h => by simp at h
  | a :: b :: t, _ => by rw [joinE_cons e a (by simp)]; simp [he]
noncomputable def mailS (Ls : List (List Nat)) (sv : List (Nat × List Nat)) : List (List Nat) := sv.foldl (fun ls p => ls.map (FL p.1)) Ls
theorem mailS_snoc (Ls : List (List Nat)) (sv : List (Nat × List Nat)) (p : Nat × List Nat) : mailS Ls (sv ++ [p]) = (mailS Ls sv).map (FL p.1) := by
  unfold mailS; rw [List.foldl_append]; rfl
noncomputable def mail0 (cs : List Nat) : List Nat := wordL cs ++ [10] ++ cs
noncomputable def JM (cs : List Nat) (sv : List (Nat × List Nat)) (i : Nat) (mail : List Nat) : Prop :=
  spl mail = mailS (spl (mail0 cs)) (sv.take i) ∧ (0 < i → mail = joinE [10] (mailS (spl (mail0 cs)) (sv.take i))) ∧ mail.length + 1 ≤ 82 * 2 ^ i ∧ (∀ c ∈ mail, c < 256) ∧ 2 ≤ (spl mail).length ∧ mail ≠ []
noncomputable def J9 (L : Addr) (cs : List Nat) (sv : List (Nat × List Nat)) (oc o2 : Obj) (tups : List (Addr × Obj)) (i : Nat) (m : PySem.Str → Option Value) (news : List (Addr × Obj)) : Prop :=
  (∃ tt, m (S "text") = some (.str ⟨cs.toArray⟩ tt)) ∧ (∃ tw, m (S "word") = some (.str ⟨(wordL cs).toArray⟩ tw)) ∧ news = (L + 1, oc) :: (L + 2, o2) :: tups ∧ ∃ mail t, m (S "mail") = some (.str ⟨mail.toArray⟩ t) ∧ JM cs sv i mail
theorem jm_next {cs : List Nat} {sv : List (Nat × List Nat)} {i : Nat} {mail : List Nat} {p : Nat × List Nat} (h : JM cs sv i mail) (hp : sv[i]? = some p) (hr : 4 ≤ p.1) : JM cs sv (i + 1) (joinE [10] ((spl mail).map (FL p.1))) := by
  obtain ⟨h1, h2, h3, h4, h5, h6⟩ := h
  have e : mailS (spl (mail0 cs)) (sv.take (i + 1)) = (spl mail).map (FL p.1) := by
    rw [List.take_add_one, hp, Option.toList_some, mailS_snoc, ← h1]
  have hl := next_len hr mail
  refine ⟨by rw [next_lines, e], fun _ => by rw [e], by rw [Nat.pow_succ]; (clear h6 h5 h2 hr; lia), next_256 h4, by rw [next_lines, List.length_map]; exact h5, ?_⟩
  exact joinE_two [10] (by simp) _ (by rw [List.length_map]; exact h5)
theorem srv_ok (x : Int) : 4 ≤ (srvN x).1 ∧ (srvN x).1 ≤ 8 ∧ ((srvN x).2 = [10] ∨ (srvN x).2 = [13, 10] ∨ (srvN x).2 = [13]) := by
  obtain ⟨k, hk, e⟩ := fmod_nat x 5 (by decide)
  obtain ⟨z, hz, e2⟩ := fmod_nat (x.fdiv 5) 3 (by decide)
  have e' : x.fmod 5 = ((k : Nat) : Int) := e
  have e2' : (x.fdiv 5).fmod 3 = ((z : Nat) : Int) := e2
  unfold srvN
  dsimp only
  rw [e', e2']
  refine ⟨by (clear e2' e2 hz; lia), by (clear e2' e2 hz; lia), ?_⟩
  have hc : z = 0 ∨ z = 1 ∨ z = 2 := by (clear e' e hk; lia)
  rcases hc with rfl | rfl | rfl
  · exact .inl rfl
  · exact .inr (.inl rfl)
  · exact .inr (.inr rfl)
theorem srvs_len (ns : List Int) : 1 ≤ (srvs ns).length ∧ (srvs ns).length ≤ 3 := by
  unfold srvs nums
  rw [List.length_map]
  split
  · simp
  · rename_i h
    have h1 : (ns.take 3).length ≤ 3 := by rw [List.length_take]; lia
    have h2 := List.length_pos_iff.mpr h
    lia
theorem srvs_ok (ns : List Int) : ∀ p ∈ srvs ns, 4 ≤ p.1 ∧ p.1 ≤ 8 ∧ (p.2 = [10] ∨ p.2 = [13, 10] ∨ p.2 = [13]) := by
  intro p hp
  obtain ⟨x, _, rfl⟩ := List.mem_map.mp hp
  exact srv_ok x
theorem benc_rows {w : World} {A : Around} {s : Shared} (U : Up w s.heap) (hd : A.depth + 4 < recursionLimit) (hA : A.handled = none) (mail : List Nat) (t : Nat) (room tr : Nat) (hroom : 4 ≤ room) (hroom2 : room ≤ 8) (el : List Nat) (te : Nat) (hel : el = [10] ∨ el = [13, 10] ∨ el = [13]) (hx : mail.length ≤ 400) (hx0 : mail ≠ []) (h256 : ∀ c ∈ mail, c < 256) :
    wpAny (model pw w) A (call (.ref 111) [.str ⟨mail.toArray⟩ t, .int ((room : Nat) : Int) tr, .str ⟨el.toArray⟩ te]) (Back (.str ⟨(joinE el (((spl mail).flatMap (rowsOf room)).map encRow)).toArray⟩) s) (fun _ _ => False) s := by
  rw [← rows_enc hroom el mail h256]
  exact benc_ok U hd hA ⟨mail.toArray⟩ t room tr hroom hroom2 el te hel (by simp; (clear hx0 hel hroom2 hroom hd; lia)) (by simpa using hx0) (by simpa using h256)
theorem fix_rows {w : World} {A : Around} {s : Shared} (U : Up w s.heap) (hd : A.depth < recursionLimit) (hA : A.handled = none) (el : List Nat) (R : List RowU) (t : Nat) (hel : el = [10] ∨ el = [13, 10] ∨ el = [13]) (hg : ∀ r ∈ R, goodRow r) (hx : (joinE el (R.map encRow)).length ≤ 50000) :
    wpAny (model pw w) A (call (.ref 55) [.str ⟨(joinE el (R.map encRow)).toArray⟩ t]) (Back (.str ⟨(joinE [13, 10] (R.map encRow)).toArray⟩) s) (fun _ _ => False) s := by
  have h := fixE_ok U hd hA ⟨(joinE el (R.map encRow)).toArray⟩ t (by simpa using hx)
  have e : scan2 (⟨(joinE el (R.map encRow)).toArray⟩ : PySem.Str).cps.toList = joinE [13, 10] (R.map encRow) := by
    refine scan2_join el hel _ fun r hr => ?_
    obtain ⟨q, hq, rfl⟩ := List.mem_map.mp hr
    exact noNl_good (hg q hq)
  rw [e] at h
  exact h
theorem back_list (l : List Nat) (h : ∀ c ∈ l, c < 256) : (((l.map Nat.toUInt8).toArray).map (·.toNat)).toList = l := by
  have e : (((l.map Nat.toUInt8).toArray).map (·.toNat)).toList = l.map fun c => c.toUInt8.toNat := by simp [Function.comp_def]
  rw [e]
  conv => rhs; rw [← List.map_id l]
  exact List.map_congr_left fun c hc => u8_back (h c hc)
theorem quote_rows {w : World} {A : Around} {s : Shared} (U : Up w s.heap) (hd : A.depth < recursionLimit) (hA : A.handled = none) (R : List RowU) (t : Nat) (hg : ∀ r ∈ R, goodRow r) (hx : (joinE [13, 10] (R.map encRow)).length ≤ 50000) (h256 : ∀ c ∈ joinE [13, 10] (R.map encRow), c < 256) :
    wpAny (model pw w) A (call (.ref 48) [.bytes ((joinE [13, 10] (R.map encRow)).map Nat.toUInt8).toArray t]) (Back (.bytes ((joinE [13, 10] ((R.map dotRow).map encRow)).map Nat.toUInt8).toArray) s) (fun _ _ => False) s := by
  have h := quoteP_ok U hd hA ((joinE [13, 10] (R.map encRow)).map Nat.toUInt8).toArray t (by simpa using hx)
  rw [back_list _ h256, scan1_join _ (fun r hr => by obtain ⟨q, hq, rfl⟩ := List.mem_map.mp hr; exact noNl_good (hg q hq)), List.map_map] at h
  have e : R.map (dot ∘ encRow) = (R.map dotRow).map encRow := by
    rw [List.map_map]
    exact List.map_congr_left fun r hr => (dotRow_enc r (hg r hr)).symm
  rw [e] at h
  exact h
theorem enc_256 {R : List RowU} (hg : ∀ r ∈ R, goodRow r) : ∀ c ∈ joinE [13, 10] (R.map encRow), c < 256 := by
  intro c hc
  rcases joinE_mem hc with q | ⟨r, hr, hc⟩
  · simp at q; lia
  · obtain ⟨q, hq, rfl⟩ := List.mem_map.mp hr
    have := encRow_ok (hg q hq) c hc
    lia
theorem dec_mail {w : World} {A : Around} {s : Shared} (U : Up w s.heap) (hd : A.depth + 4 < recursionLimit) (hA : A.handled = none) (mail : List Nat) (t : Nat) (room : Nat) (hroom : 4 ≤ room) (hx : mail.length ≤ 400) (h256 : ∀ c ∈ mail, c < 256) (h2 : 2 ≤ (spl mail).length) :
    wpAny (model pw w) A (call (.ref 119) [.str ⟨(joinE [13, 10] ((((spl mail).flatMap (rowsOf room)).map dotRow).map encRow)).toArray⟩ t]) (Back (.str ⟨(joinE [10] ((spl mail).map (FL room))).toArray⟩) s) (fun _ _ => False) s := by
  rw [← dec_rows hroom mail]
  have hgR := rows_good (room := room) h256
  have hsz2 := sizes hroom [13, 10] mail (by decide)
  have hrt := rows_two (room := room) mail h2
  refine dec_ok U hd hA ⟨(joinE [13, 10] ((((spl mail).flatMap (rowsOf room)).map dotRow).map encRow)).toArray⟩ t (((spl mail).flatMap (rowsOf room)).map dotRow) (by simp only [List.size_toArray]; (clear hrt h2 hroom hd; lia)) ?_ rows_ne (last_hard room) ?_ rfl
  · have := joinE_two [13, 10] (by simp) ((((spl mail).flatMap (rowsOf room)).map dotRow).map encRow) (by rw [List.length_map, List.length_map]; exact hrt)
    intro q
    exact this (List.eq_nil_of_length_eq_zero (by simpa using q))
  · intro r hr
    obtain ⟨q, hq, rfl⟩ := List.mem_map.mp hr
    exact dotRow_good q (hgR q hq)
set_option maxHeartbeats 4000000 in
theorem law_four {w : World} {A : Around} {s : Shared} {h₀ : Heap} {L : Addr} {m : PySem.Str → Option Value} {SV : Addr} {its : List Value} {cs : List Nat} {sv : List (Nat × List Nat)} {k : Nat} {oc o2 : Obj} {tups : List (Addr × Obj)} {Q : Flow → Shared → Prop} (hA : A.handled = none) (hd : A.depth + 4 < recursionLimit) (U : Up w h₀)
    (F : Fr h₀ L s.heap m) (hoc : oc.data = .cell (some (.ref SV))) (N : News h₀ L s.heap ((SV, oL (List.toArray its) k) :: (L + 1, oc) :: (L + 2, o2) :: tups)) (hln : its.length = sv.length) (hsl : sv.length ≤ 3)
    (hits : ∀ j v, its[j]? = some v → ∃ T t1 t2, v = .ref T ∧ (T, oTp #[.int (((sv.getD j (4, [])).1 : Nat) : Int) t1, .str ⟨(sv.getD j (4, [])).2.toArray⟩ t2]) ∈ tups)
    (hsv : ∀ p ∈ sv, 4 ≤ p.1 ∧ p.1 ≤ 8 ∧ (p.2 = [10] ∨ p.2 = [13, 10] ∨ p.2 = [13]))
    (hm1 : ∃ t, m (S "text") = some (.str ⟨cs.toArray⟩ t)) (hm2 : ∃ t, m (S "word") = some (.str ⟨(wordL cs).toArray⟩ t)) (hm3 : ∃ t, m (S "mail") = some (.str ⟨(wordL cs ++ [10] ++ cs).toArray⟩ t)) (hj0 : JM cs sv 0 (mail0 cs))
    (K : ∀ s' m' news', Fr h₀ L s'.heap m' → News h₀ L s'.heap ((SV, oL (List.toArray its) k) :: news') → J9 L cs sv oc o2 tups sv.length m' news' → s'.gens = s.gens → s'.os = s.os → wpAny (model pw w) A (execs ((fBody (stm 35)).drop 9) (envL L)) Q (fun _ _ => False) s') :
    wpAny (model pw w) A (execs ((fBody (stm 35)).drop 8) (envL L)) Q (fun _ _ => False) s := by
  repeat' (first
    | ((with_reducible show wpAny _ _ (eval (PySem.Expr.Name _ _) _) _ _ _); (first | ((with_reducible show wpAny _ _ (eval (PySem.Expr.Name (PySem.Str.ofString "_fix_eols") _) _) _ _ _); refine name_gE (by assumption) (by assumption) (by kernel_rfl) (by kernel_rfl) (by rfl) (g_fix _) (by decide +kernel) ?_) | ((with_reducible show wpAny _ _ (eval (PySem.Expr.Name (PySem.Str.ofString "body_encode") _) _) _ _ _); refine name_gE (by assumption) (by assumption) (by kernel_rfl) (by kernel_rfl) (by rfl) (g_benc _) (by decide +kernel) ?_) | ((with_reducible show wpAny _ _ (eval (PySem.Expr.Name (PySem.Str.ofString "_quote_periods") _) _) _ _ _); refine name_gE (by assumption) (by assumption) (by kernel_rfl) (by kernel_rfl) (by rfl) (g_quo _) (by decide +kernel) ?_) | ((with_reducible show wpAny _ _ (eval (PySem.Expr.Name (PySem.Str.ofString "decode") _) _) _ _ _); refine name_gE (by assumption) (by assumption) (by kernel_rfl) (by kernel_rfl) (by rfl) (g_dec _) (by decide +kernel) ?_) | ((with_reducible show wpAny _ _ (eval (PySem.Expr.Name (PySem.Str.ofString "bytes") _) _) _ _ _); refine name_bE (by assumption) (by assumption) (by kernel_rfl) (by kernel_rfl) (by rfl) (by rfl) (g_bytes _) (b_bytes _) (by decide +kernel) ?_) | ((with_reducible show wpAny _ _ (eval (PySem.Expr.Name (PySem.Str.ofString "ord") _) _) _ _ _); refine name_bE (by assumption) (by assumption) (by kernel_rfl) (by kernel_rfl) (by rfl) (by rfl) (g_ord _) (b_ord _) (by decide +kernel) ?_) | ((with_reducible show wpAny _ _ (eval (PySem.Expr.Name (PySem.Str.ofString "chr") _) _) _ _ _); refine name_bE (by assumption) (by assumption) (by kernel_rfl) (by kernel_rfl) (by rfl) (by rfl) (g_chr _) (b_chr _) (by decide +kernel) ?_) | ((with_reducible show wpAny _ _ (eval (PySem.Expr.Name _ _) _) _ _ _); refine name_lE (by assumption) (by kernel_rfl) (by kernel_rfl) (by first | assumption | with_unfolding_all rfl) (by decide +kernel) ?_)); try dsimp only)
    | ((with_reducible show wpAny _ _ (exec (PySem.Stmt.For _ _ _ _ _) _) _ _ _); refine wpAny_For ?_ (by intro _; rfl))
    | ((with_reducible show wpAny _ _ (eval (PySem.Expr.Name (PySem.Str.ofString "servers") _) (envOfC _ _ _ _ _)) _ _ _); rename News _ _ _ _ => NX; refine ldCN (c := L + 1) (o := oc) NX (by with_unfolding_all rfl) (by simp) hoc ?_ (by kernel_rfl) (by kernel_rfl))
    | ((fail_if_success (with_reducible show wpAny _ _ (pyIter _) _ _ _)); walk1; try dsimp only)
    | fail "no")
  rename Fr _ _ _ _ => FZ
  rename News _ _ _ _ => NZ
  have hrefs : ∀ v ∈ its, ∃ T, v = .ref T := by
    intro v hv
    obtain ⟨j, hj, rfl⟩ := List.getElem_of_mem hv
    obtain ⟨T, _, _, e, _⟩ := hits j its[j] (List.getElem?_eq_getElem hj)
    exact ⟨T, e⟩
  refine for_listT (vs := its) (c := k) (by exact hA) FZ NZ hrefs (J9 L cs sv oc o2 tups) ⟨hm1, hm2, rfl, mail0 cs, hm3.choose, hm3.choose_spec, hj0⟩ ?_ ?_
  · rintro i T m₁ news₁ I o ⟨h₁, g₁, d₁, k₁, os₁⟩ hv ⟨⟨tt, q1⟩, ⟨tw, q2⟩, rfl, mail, t, q3, hJM⟩ hnI hID F₁ N₁ hg₁ ho₁
    dsimp only at hg₁ ho₁ F₁ N₁
    have F₁' := fr_upd (fr_upd (fr_upd F₁ q1) (x := S "word") (by with_unfolding_all exact q2)) (x := S "mail") (by with_unfolding_all exact q3)
    clear F₁ FZ NZ
    obtain ⟨T', t1, t2, eT, hT⟩ := hits i _ hv
    obtain rfl : T = T' := by cases eT; rfl
    have hil : i < sv.length := by rw [← hln]; exact (List.getElem?_eq_some_iff.mp hv).1
    have hsi : sv[i]? = some (sv.getD i (4, [])) := by simp [List.getD, hil]
    have hok := hsv _ (List.mem_of_getElem? hsi)
    generalize sv.getD i (4, []) = p at hT hsi hok
    obtain ⟨room, el⟩ := p
    dsimp only at hT hok
    obtain ⟨hr4, hr8, hel⟩ := hok
    have htup : IsTup h₁ T #[.int ((room : Nat) : Int) t1, .str ⟨el.toArray⟩ t2] := ⟨_, (N₁ (T, oTp #[.int ((room : Nat) : Int) t1, .str ⟨el.toArray⟩ t2]) (by simp [hT])).1, rfl, 0, rfl⟩
    refine assign_Tuple_tuple (by exact hA) htup (by rfl) (by rfl) fun h₂ he => ?_
    have k₂ : Keeps h₁ h₂ := fun b o' e => he b o' (Nat.ne_of_lt (Heap.lt_size e)) e
    have F₂ := fr_grow F₁' k₂
    have N₂ := news_grow N₁ k₂
    refine assignInOrder_cons ?_
    dsimp only
    refine wpAny_assign_Name (stLocN F₂ N₂ (fun h₃ F₃ N₃ => ?_) (by kernel_rfl) (by kernel_rfl))
    refine assignInOrder_cons ?_
    dsimp only
    refine wpAny_assign_Name (stLocN F₃ N₃ (fun h₄ F₄ N₄ => ?_) (by kernel_rfl) (by kernel_rfl))
    refine assignInOrder_nil ?_
    clear F₂ N₂ F₃ N₃ F₁' N₁
    have hnext := jm_next hJM hsi hr4
    obtain ⟨j1, j2, j3, j4, j5, j6⟩ := hJM
    have hml : mail.length ≤ 400 := by
      have h2 : 2 ^ i ≤ 2 ^ 2 := Nat.pow_le_pow_right (by decide) (by (clear j6 j5 j3 j2 hel hr8 hr4 hID hd; lia))
      (clear j6 j5 j2 hel hr8 hr4 hil hID hsl hln hd; lia)
    have hgR := rows_good (room := room) j4
    have hsz1 := sizes hr4 el mail (by rcases hel with q | q | q <;> rw [q] <;> decide)
    have hsz2 := sizes hr4 [13, 10] mail (by decide)
    have hX256 := enc_256 hgR
    have hgD : ∀ r ∈ ((spl mail).flatMap (rowsOf room)).map dotRow, goodRow r := by
      intro r hr
      obtain ⟨q, hq, rfl⟩ := List.mem_map.mp hr
      exact dotRow_good q (hgR q hq)
    have hY256 := enc_256 hgD
    repeat' (first
      | ((with_reducible show wpAny _ _ (eval (PySem.Expr.Name _ _) _) _ _ _); (first | ((with_reducible show wpAny _ _ (eval (PySem.Expr.Name (PySem.Str.ofString "_fix_eols") _) _) _ _ _); refine name_gE (by assumption) (by assumption) (by kernel_rfl) (by kernel_rfl) (by rfl) (g_fix _) (by decide +kernel) ?_) | ((with_reducible show wpAny _ _ (eval (PySem.Expr.Name (PySem.Str.ofString "body_encode") _) _) _ _ _); refine name_gE (by assumption) (by assumption) (by kernel_rfl) (by kernel_rfl) (by rfl) (g_benc _) (by decide +kernel) ?_) | ((with_reducible show wpAny _ _ (eval (PySem.Expr.Name (PySem.Str.ofString "_quote_periods") _) _) _ _ _); refine name_gE (by assumption) (by assumption) (by kernel_rfl) (by kernel_rfl) (by rfl) (g_quo _) (by decide +kernel) ?_) | ((with_reducible show wpAny _ _ (eval (PySem.Expr.Name (PySem.Str.ofString "decode") _) _) _ _ _); refine name_gE (by assumption) (by assumption) (by kernel_rfl) (by kernel_rfl) (by rfl) (g_dec _) (by decide +kernel) ?_) | ((with_reducible show wpAny _ _ (eval (PySem.Expr.Name (PySem.Str.ofString "bytes") _) _) _ _ _); refine name_bE (by assumption) (by assumption) (by kernel_rfl) (by kernel_rfl) (by rfl) (by rfl) (g_bytes _) (b_bytes _) (by decide +kernel) ?_) | ((with_reducible show wpAny _ _ (eval (PySem.Expr.Name (PySem.Str.ofString "ord") _) _) _ _ _); refine name_bE (by assumption) (by assumption) (by kernel_rfl) (by kernel_rfl) (by rfl) (by rfl) (g_ord _) (b_ord _) (by decide +kernel) ?_) | ((with_reducible show wpAny _ _ (eval (PySem.Expr.Name (PySem.Str.ofString "chr") _) _) _ _ _); refine name_bE (by assumption) (by assumption) (by kernel_rfl) (by kernel_rfl) (by rfl) (by rfl) (g_chr _) (b_chr _) (by decide +kernel) ?_) | ((with_reducible show wpAny _ _ (eval (PySem.Expr.Name _ _) _) _ _ _); refine name_lE (by assumption) (by kernel_rfl) (by kernel_rfl) (by first | assumption | with_unfolding_all rfl) (by decide +kernel) ?_)); try dsimp only)
      | ((with_reducible show wpAny _ _ (storeName (envOfC _ _ _ _ _) _ _) _ _ _); refine stLocN (by assumption) (by assumption) ?_ (by kernel_rfl) (by kernel_rfl); intro _ _ _; try dsimp only)
      | ((with_reducible show wpAny _ _ (callWith _ (Value.ref 111) _ _ _) _ _ _); refine cw_def (o := o111L w.params) (by kernel_rfl) rfl ?_ (by rfl))
      | ((with_reducible show wpAny _ _ (callWith _ (Value.ref 55) _ _ _) _ _ _); refine cw_def (o := o55B w.params) (by kernel_rfl) rfl ?_ (by rfl))
      | ((with_reducible show wpAny _ _ (callWith _ (Value.ref 48) _ _ _) _ _ _); refine cw_def (o := o48B w.params) (by kernel_rfl) rfl ?_ (by rfl))
      | ((with_reducible show wpAny _ _ (callWith _ (Value.ref 119) _ _ _) _ _ _); refine cw_def (o := o119L w.params) (by kernel_rfl) rfl ?_ (by rfl))
      | ((with_reducible show Up _ _ ∧ _); rename Fr _ _ _ _ => FX; refine ⟨fun b o e => FX.keep _ _ (U _ _ e), ?_⟩)
      | ((with_reducible show wpAny _ _ (call (Value.ref 111) _) _ _ _); rename Fr _ _ _ _ => FX; rename News _ _ _ _ => NX; refine wpAny_mono (benc_rows (fun b o e => FX.keep _ _ (U _ _ e)) hd (by exact hA) mail _ room _ hr4 hr8 el _ hel hml j6 j4) ?_ (fun _ _ (x : False) => x.elim); rintro v ⟨h₉, g₉, d₉, k₉, os₉⟩ ⟨hv9, G⟩; obtain ⟨tv, rfl⟩ := tell_str hv9; have FY := fr_grow FX G.keep; have NY := news_grow NX G.keep; clear FX NX; obtain rfl : g₉ = _ := G.gens; obtain rfl : os₉ = _ := G.os; clear G; try dsimp only)
      | ((with_reducible show wpAny _ _ (call (Value.ref 55) _) _ _ _); rename Fr _ _ _ _ => FX; rename News _ _ _ _ => NX; refine wpAny_mono (fix_rows (fun b o e => FX.keep _ _ (U _ _ e)) (Nat.lt_of_le_of_lt (Nat.le_add_right A.depth 4) hd) (by exact hA) el _ _ hel hgR (by (clear hsz2 j6 j5 j3 j2 hel hr8 hr4 hil hID hsl hln hd; lia))) ?_ (fun _ _ (x : False) => x.elim); rintro v ⟨h₉, g₉, d₉, k₉, os₉⟩ ⟨hv9, G⟩; obtain ⟨tv, rfl⟩ := tell_str hv9; have FY := fr_grow FX G.keep; have NY := news_grow NX G.keep; clear FX NX; obtain rfl : g₉ = _ := G.gens; obtain rfl : os₉ = _ := G.os; clear G; try dsimp only)
      | ((with_reducible show wpAny _ _ (call (Value.ref 48) _) _ _ _); rename Fr _ _ _ _ => FX; rename News _ _ _ _ => NX; refine wpAny_mono (quote_rows (fun b o e => FX.keep _ _ (U _ _ e)) (Nat.lt_of_le_of_lt (Nat.le_add_right A.depth 4) hd) (by exact hA) _ _ hgR (by lia) (enc_256 hgR)) ?_ (fun _ _ (x : False) => x.elim); rintro v ⟨h₉, g₉, d₉, k₉, os₉⟩ ⟨hv9, G⟩; obtain ⟨tv, rfl⟩ := tell_bytes hv9; have FY := fr_grow FX G.keep; have NY := news_grow NX G.keep; clear FX NX; obtain rfl : g₉ = _ := G.gens; obtain rfl : os₉ = _ := G.os; clear G; try dsimp only)
      | ((with_reducible show wpAny _ _ (call (Value.ref 119) _) _ _ _); rename Fr _ _ _ _ => FX; rename News _ _ _ _ => NX; refine wpAny_mono (dec_mail (fun b o e => FX.keep _ _ (U _ _ e)) hd (by exact hA) mail _ room hr4 (by lia) j4 j5) ?_ (fun _ _ (x : False) => x.elim); rintro v ⟨h₉, g₉, d₉, k₉, os₉⟩ ⟨hv9, G⟩; obtain ⟨tv, rfl⟩ := tell_str hv9; have FY := fr_grow FX G.keep; have NY := news_grow NX G.keep; clear FX NX; obtain rfl : g₉ = _ := G.gens; obtain rfl : os₉ = _ := G.os; clear G; try dsimp only)
      | ((fail_if_success (with_reducible show wpAny _ _ (eval (PySem.Expr.ListComp _ _ _ _) _) _ _ _)); (fail_if_success (with_reducible show wpAny _ _ (call (Value.ref _) _) _ _ _)); walk1; try dsimp only)
      | fail "no")

    refine comp_expr (by assumption) (cl := []) ?a2 ?a3 ?a4 ?a5 ?a6 ?_ ?a10
    case a2 => with_unfolding_all rfl
    case a3 => decide +kernel
    case a4 => rfl
    case a5 => decide +kernel
    case a6 => decide +kernel
    case a10 => intro _; rfl
    repeat' (first
      | ((with_reducible show wpAny _ _ (eval (PySem.Expr.Name _ _) _) _ _ _); (first | ((with_reducible show wpAny _ _ (eval (PySem.Expr.Name (PySem.Str.ofString "_fix_eols") _) _) _ _ _); refine name_gE (by assumption) (by assumption) (by kernel_rfl) (by kernel_rfl) (by rfl) (g_fix _) (by decide +kernel) ?_) | ((with_reducible show wpAny _ _ (eval (PySem.Expr.Name (PySem.Str.ofString "body_encode") _) _) _ _ _); refine name_gE (by assumption) (by assumption) (by kernel_rfl) (by kernel_rfl) (by rfl) (g_benc _) (by decide +kernel) ?_) | ((with_reducible show wpAny _ _ (eval (PySem.Expr.Name (PySem.Str.ofString "_quote_periods") _) _) _ _ _); refine name_gE (by assumption) (by assumption) (by kernel_rfl) (by kernel_rfl) (by rfl) (g_quo _) (by decide +kernel) ?_) | ((with_reducible show wpAny _ _ (eval (PySem.Expr.Name (PySem.Str.ofString "decode") _) _) _ _ _); refine name_gE (by assumption) (by assumption) (by kernel_rfl) (by kernel_rfl) (by rfl) (g_dec _) (by decide +kernel) ?_) | ((with_reducible show wpAny _ _ (eval (PySem.Expr.Name (PySem.Str.ofString "bytes") _) _) _ _ _); refine name_bE (by assumption) (by assumption) (by kernel_rfl) (by kernel_rfl) (by rfl) (by rfl) (g_bytes _) (b_bytes _) (by decide +kernel) ?_) | ((with_reducible show wpAny _ _ (eval (PySem.Expr.Name (PySem.Str.ofString "ord") _) _) _ _ _); refine name_bE (by assumption) (by assumption) (by kernel_rfl) (by kernel_rfl) (by rfl) (by rfl) (g_ord _) (b_ord _) (by decide +kernel) ?_) | ((with_reducible show wpAny _ _ (eval (PySem.Expr.Name (PySem.Str.ofString "chr") _) _) _ _ _); refine name_bE (by assumption) (by assumption) (by kernel_rfl) (by kernel_rfl) (by rfl) (by rfl) (g_chr _) (b_chr _) (by decide +kernel) ?_) | ((with_reducible show wpAny _ _ (eval (PySem.Expr.Name _ _) _) _ _ _); refine name_lE (by assumption) (by kernel_rfl) (by kernel_rfl) (by first | assumption | with_unfolding_all rfl) (by decide +kernel) ?_)); try dsimp only)
      | (walk1; try dsimp only)
      | fail "no")
    rename Fr _ _ _ _ => FZ
    rename News _ _ _ _ => NZ
    have hXs : ∀ X : List Nat, X.length ≤ 50000 → X.toArray.size ≤ sizeLine := fun X h => by rw [sizeLine_eq, List.size_toArray]; exact Nat.le_trans h (by decide)
    refine ⟨_, _, _, RD (joinE [13, 10] (((spl mail).flatMap (rowsOf room)).map encRow)), src_str (by exact hA), hXs _ (by (clear hsz1 j6 j5 j3 j2 hel hr8 hr4 hil hID hsl hln hd; lia)), FZ, NZ, ?_, ?_⟩
    · rintro C i₃ v s₃ m₃ K₃ hi3 ⟨c, u, hc, rfl⟩ F₃ hm3 N₃ hg₃ ho₃
      rw [List.getElem?_toArray] at hc
      have hx : (joinE [13, 10] (((spl mail).flatMap (rowsOf room)).map encRow)).getD i₃ 0 = c := by simp [List.getD, hc]
      have U₃ : Up w _ := fun b o e => FZ.keep _ _ (U _ _ e)
      try dsimp only at F₃ N₃ hg₃ ho₃
      repeat' (first
        | ((with_reducible show wpAny _ _ (eval (PySem.Expr.Name _ _) _) _ _ _); (first | ((with_reducible show wpAny _ _ (eval (PySem.Expr.Name (PySem.Str.ofString "_fix_eols") _) _) _ _ _); refine name_gE (by assumption) (by assumption) (by kernel_rfl) (by kernel_rfl) (by rfl) (g_fix _) (by decide +kernel) ?_) | ((with_reducible show wpAny _ _ (eval (PySem.Expr.Name (PySem.Str.ofString "body_encode") _) _) _ _ _); refine name_gE (by assumption) (by assumption) (by kernel_rfl) (by kernel_rfl) (by rfl) (g_benc _) (by decide +kernel) ?_) | ((with_reducible show wpAny _ _ (eval (PySem.Expr.Name (PySem.Str.ofString "_quote_periods") _) _) _ _ _); refine name_gE (by assumption) (by assumption) (by kernel_rfl) (by kernel_rfl) (by rfl) (g_quo _) (by decide +kernel) ?_) | ((with_reducible show wpAny _ _ (eval (PySem.Expr.Name (PySem.Str.ofString "decode") _) _) _ _ _); refine name_gE (by assumption) (by assumption) (by kernel_rfl) (by kernel_rfl) (by rfl) (g_dec _) (by decide +kernel) ?_) | ((with_reducible show wpAny _ _ (eval (PySem.Expr.Name (PySem.Str.ofString "bytes") _) _) _ _ _); refine name_bE (by assumption) (by assumption) (by kernel_rfl) (by kernel_rfl) (by rfl) (by rfl) (g_bytes _) (b_bytes _) (by decide +kernel) ?_) | ((with_reducible show wpAny _ _ (eval (PySem.Expr.Name (PySem.Str.ofString "ord") _) _) _ _ _); refine name_bE (by assumption) (by assumption) (by kernel_rfl) (by kernel_rfl) (by rfl) (by rfl) (g_ord _) (b_ord _) (by decide +kernel) ?_) | ((with_reducible show wpAny _ _ (eval (PySem.Expr.Name (PySem.Str.ofString "chr") _) _) _ _ _); refine name_bE (by assumption) (by assumption) (by kernel_rfl) (by kernel_rfl) (by rfl) (by rfl) (g_chr _) (b_chr _) (by decide +kernel) ?_) | ((with_reducible show wpAny _ _ (eval (PySem.Expr.Name _ _) _) _ _ _); refine name_lE (by assumption) (by kernel_rfl) (by kernel_rfl) (by first | assumption | with_unfolding_all rfl) (by decide +kernel) ?_)); try dsimp only)
        | (walk1; try dsimp only)
        | fail "no")
      rename Fr _ _ _ _ => FY
      rename News _ _ _ _ => NY
      exact ⟨[], _, ⟨rfl, _, by rw [hx]⟩, FY, NY, (by intro p hp; cases hp), hg₃, ho₃⟩
    · intro D s' yo k₃ hlen hyo F' N' hg' ho'
      dsimp only at F' hg' ho'
      rw [own_nil hyo (fun _ _ _ _ h => h.1)] at N'
      have hI : IntsAre (yo.map (·.1)) ((joinE [13, 10] (((spl mail).flatMap (rowsOf room)).map encRow)).map fun c => ((c : Nat) : Int)) := ints_by yo _ (by rw [hlen]; simp) fun j p hj => by
        obtain ⟨v, ⟨c, u, hc, rfl⟩, _, t, e⟩ := hyo j p hj
        rw [List.getElem?_toArray] at hc
        exact ⟨t, by rw [e]; simp [List.getD, hc]⟩
      have hlen' : (yo.map (·.1)).length ≤ 50000 := by rw [List.length_map, hlen]; simp only [List.size_toArray]; (clear hlen hsz1 j6 j5 j3 j2 hel hr8 hr4 hil hID hsl hln hd; lia)
      generalize (yo.map (·.1)) = ys at hI N' hlen'
      have hbx : ∀ X : List Nat, ((X.map fun c => ((c : Nat) : Int)).map fun n => n.toNat.toUInt8) = X.map Nat.toUInt8 := fun X => by simp [Function.comp_def]
      have hb256 : ∀ n ∈ ((joinE [13, 10] (((spl mail).flatMap (rowsOf room)).map encRow)).map fun c => ((c : Nat) : Int)), 0 ≤ n ∧ n < 256 := by
        intro n hn
        obtain ⟨c, hc, rfl⟩ := List.mem_map.mp hn
        have := hX256 c hc
        (clear hlen' hlen hsz2 hsz1 hml j6 j5 j3 j2 hel hr8 hr4 hil hID hsl hln hd; lia)
      obtain ⟨h₃, g₃, d₃, k₃', o₃⟩ := s'
      dsimp only at F' N' hg' ho' ⊢
      repeat' (first
        | ((with_reducible show wpAny _ _ (eval (PySem.Expr.Name _ _) _) _ _ _); (first | ((with_reducible show wpAny _ _ (eval (PySem.Expr.Name (PySem.Str.ofString "_fix_eols") _) _) _ _ _); refine name_gE (by assumption) (by assumption) (by kernel_rfl) (by kernel_rfl) (by rfl) (g_fix _) (by decide +kernel) ?_) | ((with_reducible show wpAny _ _ (eval (PySem.Expr.Name (PySem.Str.ofString "body_encode") _) _) _ _ _); refine name_gE (by assumption) (by assumption) (by kernel_rfl) (by kernel_rfl) (by rfl) (g_benc _) (by decide +kernel) ?_) | ((with_reducible show wpAny _ _ (eval (PySem.Expr.Name (PySem.Str.ofString "_quote_periods") _) _) _ _ _); refine name_gE (by assumption) (by assumption) (by kernel_rfl) (by kernel_rfl) (by rfl) (g_quo _) (by decide +kernel) ?_) | ((with_reducible show wpAny _ _ (eval (PySem.Expr.Name (PySem.Str.ofString "decode") _) _) _ _ _); refine name_gE (by assumption) (by assumption) (by kernel_rfl) (by kernel_rfl) (by rfl) (g_dec _) (by decide +kernel) ?_) | ((with_reducible show wpAny _ _ (eval (PySem.Expr.Name (PySem.Str.ofString "bytes") _) _) _ _ _); refine name_bE (by assumption) (by assumption) (by kernel_rfl) (by kernel_rfl) (by rfl) (by rfl) (g_bytes _) (b_bytes _) (by decide +kernel) ?_) | ((with_reducible show wpAny _ _ (eval (PySem.Expr.Name (PySem.Str.ofString "ord") _) _) _ _ _); refine name_bE (by assumption) (by assumption) (by kernel_rfl) (by kernel_rfl) (by rfl) (by rfl) (g_ord _) (b_ord _) (by decide +kernel) ?_) | ((with_reducible show wpAny _ _ (eval (PySem.Expr.Name (PySem.Str.ofString "chr") _) _) _ _ _); refine name_bE (by assumption) (by assumption) (by kernel_rfl) (by kernel_rfl) (by rfl) (by rfl) (g_chr _) (b_chr _) (by decide +kernel) ?_) | ((with_reducible show wpAny _ _ (eval (PySem.Expr.Name _ _) _) _ _ _); refine name_lE (by assumption) (by kernel_rfl) (by kernel_rfl) (by first | assumption | with_unfolding_all rfl) (by decide +kernel) ?_)); try dsimp only)
        | ((with_reducible show wpAny _ _ (call (Value.type "bytes") _) _ _ _); rename Fr _ _ _ _ => FX; rename News _ _ _ _ => NX; refine bytes_K FX NX ⟨_, (NX (D, oL ys.toArray k₃) (by simp)).1, rfl, _, rfl⟩ hI hb256 (by rw [sizeLine_eq]; exact Nat.le_trans hlen' (by decide)) (by exact hA) ?_; intro _ _ _ _ _ _; rw [hbx]; try dsimp only)
        | ((with_reducible show wpAny _ _ (storeName (envOfC _ _ _ _ _) _ _) _ _ _); refine stLocN (by assumption) (by assumption) ?_ (by kernel_rfl) (by kernel_rfl); intro _ _ _; try dsimp only)
        | ((with_reducible show wpAny _ _ (callWith _ (Value.ref 111) _ _ _) _ _ _); refine cw_def (o := o111L w.params) (by kernel_rfl) rfl ?_ (by rfl))
        | ((with_reducible show wpAny _ _ (callWith _ (Value.ref 55) _ _ _) _ _ _); refine cw_def (o := o55B w.params) (by kernel_rfl) rfl ?_ (by rfl))
        | ((with_reducible show wpAny _ _ (callWith _ (Value.ref 48) _ _ _) _ _ _); refine cw_def (o := o48B w.params) (by kernel_rfl) rfl ?_ (by rfl))
        | ((with_reducible show wpAny _ _ (callWith _ (Value.ref 119) _ _ _) _ _ _); refine cw_def (o := o119L w.params) (by kernel_rfl) rfl ?_ (by rfl))
        | ((with_reducible show Up _ _ ∧ _); rename Fr _ _ _ _ => FX; refine ⟨fun b o e => FX.keep _ _ (U _ _ e), ?_⟩)
        | ((with_reducible show wpAny _ _ (call (Value.ref 111) _) _ _ _); rename Fr _ _ _ _ => FX; rename News _ _ _ _ => NX; refine wpAny_mono (benc_rows (fun b o e => FX.keep _ _ (U _ _ e)) hd (by exact hA) mail _ room _ hr4 hr8 el _ hel hml j6 j4) ?_ (fun _ _ (x : False) => x.elim); rintro v ⟨h₉, g₉, d₉, k₉, os₉⟩ ⟨hv9, G⟩; obtain ⟨tv, rfl⟩ := tell_str hv9; have FY := fr_grow FX G.keep; have NY := news_grow NX G.keep; clear FX NX; obtain rfl : g₉ = _ := G.gens; obtain rfl : os₉ = _ := G.os; clear G; try dsimp only)
        | ((with_reducible show wpAny _ _ (call (Value.ref 55) _) _ _ _); rename Fr _ _ _ _ => FX; rename News _ _ _ _ => NX; refine wpAny_mono (fix_rows (fun b o e => FX.keep _ _ (U _ _ e)) (Nat.lt_of_le_of_lt (Nat.le_add_right A.depth 4) hd) (by exact hA) el _ _ hel hgR (by lia)) ?_ (fun _ _ (x : False) => x.elim); rintro v ⟨h₉, g₉, d₉, k₉, os₉⟩ ⟨hv9, G⟩; obtain ⟨tv, rfl⟩ := tell_str hv9; have FY := fr_grow FX G.keep; have NY := news_grow NX G.keep; clear FX NX; obtain rfl : g₉ = _ := G.gens; obtain rfl : os₉ = _ := G.os; clear G; try dsimp only)
        | ((with_reducible show wpAny _ _ (call (Value.ref 48) _) _ _ _); rename Fr _ _ _ _ => FX; rename News _ _ _ _ => NX; refine wpAny_mono (quote_rows (fun b o e => FX.keep _ _ (U _ _ e)) (Nat.lt_of_le_of_lt (Nat.le_add_right A.depth 4) hd) (by exact hA) _ _ hgR (by (clear hlen' hlen hsz1 j6 j5 j3 j2 hel hr8 hr4 hil hID hsl hln hd; lia)) (enc_256 hgR)) ?_ (fun _ _ (x : False) => x.elim); rintro v ⟨h₉, g₉, d₉, k₉, os₉⟩ ⟨hv9, G⟩; obtain ⟨tv, rfl⟩ := tell_bytes hv9; have FY := fr_grow FX G.keep; have NY := news_grow NX G.keep; clear FX NX; obtain rfl : g₉ = _ := G.gens; obtain rfl : os₉ = _ := G.os; clear G; try dsimp only)
        | ((with_reducible show wpAny _ _ (call (Value.ref 119) _) _ _ _); rename Fr _ _ _ _ => FX; rename News _ _ _ _ => NX; refine wpAny_mono (dec_mail (fun b o e => FX.keep _ _ (U _ _ e)) hd (by exact hA) mail _ room hr4 (by lia) j4 j5) ?_ (fun _ _ (x : False) => x.elim); rintro v ⟨h₉, g₉, d₉, k₉, os₉⟩ ⟨hv9, G⟩; obtain ⟨tv, rfl⟩ := tell_str hv9; have FY := fr_grow FX G.keep; have NY := news_grow NX G.keep; clear FX NX; obtain rfl : g₉ = _ := G.gens; obtain rfl : os₉ = _ := G.os; clear G; try dsimp only)
        | ((fail_if_success (with_reducible show wpAny _ _ (eval (PySem.Expr.ListComp _ _ _ _) _) _ _ _)); (fail_if_success (with_reducible show wpAny _ _ (call (Value.ref _) _) _ _ _)); walk1; try dsimp only)
        | fail "no")

      refine comp_expr (by assumption) (cl := []) ?a2 ?a3 ?a4 ?a5 ?a6 ?_ ?a10
      case a2 => with_unfolding_all rfl
      case a3 => decide +kernel
      case a4 => rfl
      case a5 => decide +kernel
      case a6 => decide +kernel
      case a10 => intro _; rfl
      repeat' (first
        | ((with_reducible show wpAny _ _ (eval (PySem.Expr.Name _ _) _) _ _ _); (first | ((with_reducible show wpAny _ _ (eval (PySem.Expr.Name (PySem.Str.ofString "_fix_eols") _) _) _ _ _); refine name_gE (by assumption) (by assumption) (by kernel_rfl) (by kernel_rfl) (by rfl) (g_fix _) (by decide +kernel) ?_) | ((with_reducible show wpAny _ _ (eval (PySem.Expr.Name (PySem.Str.ofString "body_encode") _) _) _ _ _); refine name_gE (by assumption) (by assumption) (by kernel_rfl) (by kernel_rfl) (by rfl) (g_benc _) (by decide +kernel) ?_) | ((with_reducible show wpAny _ _ (eval (PySem.Expr.Name (PySem.Str.ofString "_quote_periods") _) _) _ _ _); refine name_gE (by assumption) (by assumption) (by kernel_rfl) (by kernel_rfl) (by rfl) (g_quo _) (by decide +kernel) ?_) | ((with_reducible show wpAny _ _ (eval (PySem.Expr.Name (PySem.Str.ofString "decode") _) _) _ _ _); refine name_gE (by assumption) (by assumption) (by kernel_rfl) (by kernel_rfl) (by rfl) (g_dec _) (by decide +kernel) ?_) | ((with_reducible show wpAny _ _ (eval (PySem.Expr.Name (PySem.Str.ofString "bytes") _) _) _ _ _); refine name_bE (by assumption) (by assumption) (by kernel_rfl) (by kernel_rfl) (by rfl) (by rfl) (g_bytes _) (b_bytes _) (by decide +kernel) ?_) | ((with_reducible show wpAny _ _ (eval (PySem.Expr.Name (PySem.Str.ofString "ord") _) _) _ _ _); refine name_bE (by assumption) (by assumption) (by kernel_rfl) (by kernel_rfl) (by rfl) (by rfl) (g_ord _) (b_ord _) (by decide +kernel) ?_) | ((with_reducible show wpAny _ _ (eval (PySem.Expr.Name (PySem.Str.ofString "chr") _) _) _ _ _); refine name_bE (by assumption) (by assumption) (by kernel_rfl) (by kernel_rfl) (by rfl) (by rfl) (g_chr _) (b_chr _) (by decide +kernel) ?_) | ((with_reducible show wpAny _ _ (eval (PySem.Expr.Name _ _) _) _ _ _); refine name_lE (by assumption) (by kernel_rfl) (by kernel_rfl) (by first | assumption | with_unfolding_all rfl) (by decide +kernel) ?_)); try dsimp only)
        | (walk1; try dsimp only)
        | fail "no")
      rename Fr _ _ _ _ => FV
      rename News _ _ _ _ => NV
      have hYl : (joinE [13, 10] ((((spl mail).flatMap (rowsOf room)).map dotRow).map encRow)).length ≤ 50000 := by (clear hlen' hlen hsz1 j6 j5 j3 j2 hel hr8 hr4 hil hID hsl hln hd; lia)
      generalize hYe : joinE [13, 10] ((((spl mail).flatMap (rowsOf room)).map dotRow).map encRow) = Y at FV hY256 hYl ⊢
      refine ⟨_, _, _, RC Y, src_bytes (by exact hA), by rw [sizeLine_eq, List.size_toArray, List.length_map]; exact Nat.le_trans hYl (by decide), FV, NV, ?_, ?_⟩
      · rintro C i₃ v s₃ m₃ K₃ hi3 ⟨c, u, hc, rfl⟩ F₃ hm3 N₃ hg₃ ho₃
        rw [List.getElem?_toArray, List.getElem?_map] at hc
        obtain ⟨y, hy, hyc⟩ : ∃ y, Y[i₃]? = some y ∧ y.toUInt8 = c := by
          cases hq : Y[i₃]? with
          | none => rw [hq] at hc; cases hc
          | some y => rw [hq] at hc; exact ⟨y, rfl, Option.some.inj hc⟩
        have hy256 : y < 256 := hY256 y (List.mem_of_getElem? hy)
        have hcy : c.toNat = y := by rw [← hyc]; exact u8_back hy256
        have hx : Y.getD i₃ 0 = y := by simp [List.getD, hy]
        rw [hcy] at hm3 ⊢
        have U₃ : Up w _ := fun b o e => FV.keep _ _ (U _ _ e)
        try dsimp only at F₃ N₃ hg₃ ho₃
        repeat' (first
          | ((with_reducible show wpAny _ _ (eval (PySem.Expr.Name _ _) _) _ _ _); (first | ((with_reducible show wpAny _ _ (eval (PySem.Expr.Name (PySem.Str.ofString "_fix_eols") _) _) _ _ _); refine name_gE (by assumption) (by assumption) (by kernel_rfl) (by kernel_rfl) (by rfl) (g_fix _) (by decide +kernel) ?_) | ((with_reducible show wpAny _ _ (eval (PySem.Expr.Name (PySem.Str.ofString "body_encode") _) _) _ _ _); refine name_gE (by assumption) (by assumption) (by kernel_rfl) (by kernel_rfl) (by rfl) (g_benc _) (by decide +kernel) ?_) | ((with_reducible show wpAny _ _ (eval (PySem.Expr.Name (PySem.Str.ofString "_quote_periods") _) _) _ _ _); refine name_gE (by assumption) (by assumption) (by kernel_rfl) (by kernel_rfl) (by rfl) (g_quo _) (by decide +kernel) ?_) | ((with_reducible show wpAny _ _ (eval (PySem.Expr.Name (PySem.Str.ofString "decode") _) _) _ _ _); refine name_gE (by assumption) (by assumption) (by kernel_rfl) (by kernel_rfl) (by rfl) (g_dec _) (by decide +kernel) ?_) | ((with_reducible show wpAny _ _ (eval (PySem.Expr.Name (PySem.Str.ofString "bytes") _) _) _ _ _); refine name_bE (by assumption) (by assumption) (by kernel_rfl) (by kernel_rfl) (by rfl) (by rfl) (g_bytes _) (b_bytes _) (by decide +kernel) ?_) | ((with_reducible show wpAny _ _ (eval (PySem.Expr.Name (PySem.Str.ofString "ord") _) _) _ _ _); refine name_bE (by assumption) (by assumption) (by kernel_rfl) (by kernel_rfl) (by rfl) (by rfl) (g_ord _) (b_ord _) (by decide +kernel) ?_) | ((with_reducible show wpAny _ _ (eval (PySem.Expr.Name (PySem.Str.ofString "chr") _) _) _ _ _); refine name_bE (by assumption) (by assumption) (by kernel_rfl) (by kernel_rfl) (by rfl) (by rfl) (g_chr _) (b_chr _) (by decide +kernel) ?_) | ((with_reducible show wpAny _ _ (eval (PySem.Expr.Name _ _) _) _ _ _); refine name_lE (by assumption) (by kernel_rfl) (by kernel_rfl) (by first | assumption | with_unfolding_all rfl) (by decide +kernel) ?_)); try dsimp only)
          | ((with_reducible show wpAny _ _ (call (Value.builtin "chr") _) _ _ _); refine chr_of_range (by (clear hi3 hYl hlen' hlen hsz2 hsz1 hml j6 j5 j3 j2 hel hr8 hr4 hil hID hsl hln hd; lia)) (by (clear hi3 hYl hlen' hlen hsz2 hsz1 hml j6 j5 j3 j2 hel hr8 hr4 hil hID hsl hln hd; lia)) ?_; try dsimp only)
          | (walk1; try dsimp only)
          | fail "no")
        rename Fr _ _ _ _ => FY
        rename News _ _ _ _ => NY
        exact ⟨[], _, ⟨rfl, _, by rw [hx]; rfl⟩, FY, NY, (by intro p hp; cases hp), hg₃, ho₃⟩
      · intro D₂ s'' yo₂ k₂' hlen₂ hyo₂ F'' N'' hg'' ho''
        dsimp only at F'' hg'' ho''
        rw [own_nil hyo₂ (fun _ _ _ _ h => h.1)] at N''
        have hS : ValsAre 0 (yo₂.map (·.1)) (Y.map fun c => [c]) := strs_by yo₂ _ (by rw [hlen₂]; simp) fun j p hj => by
          obtain ⟨v, _, _, t, e⟩ := hyo₂ j p hj
          have hjl : j < Y.length := by
            have h1 := (List.getElem?_eq_some_iff.mp hj).1
            have h2 : List.length yo₂ = Y.length := by rw [hlen₂]; simp
            (clear hYl hlen' hlen hsz2 hsz1 hml j6 j5 j3 j2 hel hr8 hr4 hil hID hsl hln hd; lia)
          exact ⟨t, by rw [e]; simp [List.getD, hjl]⟩
        generalize (yo₂.map (·.1)) = ys₂ at hS N''
        obtain ⟨h₆, g₆, d₆, k₆, o₆⟩ := s''
        dsimp only at F'' N'' hg'' ho'' ⊢
        have he0 : (PySem.Str.ofString "").length = 0 := by decide +kernel
        repeat' (first
          | ((with_reducible show wpAny _ _ (eval (PySem.Expr.Name _ _) _) _ _ _); (first | ((with_reducible show wpAny _ _ (eval (PySem.Expr.Name (PySem.Str.ofString "_fix_eols") _) _) _ _ _); refine name_gE (by assumption) (by assumption) (by kernel_rfl) (by kernel_rfl) (by rfl) (g_fix _) (by decide +kernel) ?_) | ((with_reducible show wpAny _ _ (eval (PySem.Expr.Name (PySem.Str.ofString "body_encode") _) _) _ _ _); refine name_gE (by assumption) (by assumption) (by kernel_rfl) (by kernel_rfl) (by rfl) (g_benc _) (by decide +kernel) ?_) | ((with_reducible show wpAny _ _ (eval (PySem.Expr.Name (PySem.Str.ofString "_quote_periods") _) _) _ _ _); refine name_gE (by assumption) (by assumption) (by kernel_rfl) (by kernel_rfl) (by rfl) (g_quo _) (by decide +kernel) ?_) | ((with_reducible show wpAny _ _ (eval (PySem.Expr.Name (PySem.Str.ofString "decode") _) _) _ _ _); refine name_gE (by assumption) (by assumption) (by kernel_rfl) (by kernel_rfl) (by rfl) (g_dec _) (by decide +kernel) ?_) | ((with_reducible show wpAny _ _ (eval (PySem.Expr.Name (PySem.Str.ofString "bytes") _) _) _ _ _); refine name_bE (by assumption) (by assumption) (by kernel_rfl) (by kernel_rfl) (by rfl) (by rfl) (g_bytes _) (b_bytes _) (by decide +kernel) ?_) | ((with_reducible show wpAny _ _ (eval (PySem.Expr.Name (PySem.Str.ofString "ord") _) _) _ _ _); refine name_bE (by assumption) (by assumption) (by kernel_rfl) (by kernel_rfl) (by rfl) (by rfl) (g_ord _) (b_ord _) (by decide +kernel) ?_) | ((with_reducible show wpAny _ _ (eval (PySem.Expr.Name (PySem.Str.ofString "chr") _) _) _ _ _); refine name_bE (by assumption) (by assumption) (by kernel_rfl) (by kernel_rfl) (by rfl) (by rfl) (g_chr _) (b_chr _) (by decide +kernel) ?_) | ((with_reducible show wpAny _ _ (eval (PySem.Expr.Name _ _) _) _ _ _); refine name_lE (by assumption) (by kernel_rfl) (by kernel_rfl) (by first | assumption | with_unfolding_all rfl) (by decide +kernel) ?_)); try dsimp only)
          | ((with_reducible show wpAny _ _ (call (Value.builtin "str.join") _) _ _ _); rename News _ _ _ _ => NX; refine join_list (D := D₂) (items := ys₂.toArray) ⟨_, (NX (D₂, oL ys₂.toArray k₂') (by simp)).1, rfl, _, rfl⟩ (vals_str hS) (by rw [len_map, singles_flat, List.length_map, List.length_map, he0]; (clear he0 hlen₂ hlen' hlen hsz2 hsz1 hml j6 j5 j3 j2 hel hr8 hr4 hil hID hsl hln hd; lia)) ?_; intro _ _; rw [join_singles, ← hYe]; try dsimp only)
          | ((with_reducible show wpAny _ _ (storeName (envOfC _ _ _ _ _) _ _) _ _ _); refine stLocN (by assumption) (by assumption) ?_ (by kernel_rfl) (by kernel_rfl); intro _ _ _; try dsimp only)
          | ((with_reducible show wpAny _ _ (callWith _ (Value.ref 111) _ _ _) _ _ _); refine cw_def (o := o111L w.params) (by kernel_rfl) rfl ?_ (by rfl))
          | ((with_reducible show wpAny _ _ (callWith _ (Value.ref 55) _ _ _) _ _ _); refine cw_def (o := o55B w.params) (by kernel_rfl) rfl ?_ (by rfl))
          | ((with_reducible show wpAny _ _ (callWith _ (Value.ref 48) _ _ _) _ _ _); refine cw_def (o := o48B w.params) (by kernel_rfl) rfl ?_ (by rfl))
          | ((with_reducible show wpAny _ _ (callWith _ (Value.ref 119) _ _ _) _ _ _); refine cw_def (o := o119L w.params) (by kernel_rfl) rfl ?_ (by rfl))
          | ((with_reducible show Up _ _ ∧ _); rename Fr _ _ _ _ => FX; refine ⟨fun b o e => FX.keep _ _ (U _ _ e), ?_⟩)
          | ((with_reducible show wpAny _ _ (call (Value.ref 111) _) _ _ _); rename Fr _ _ _ _ => FX; rename News _ _ _ _ => NX; refine wpAny_mono (benc_rows (fun b o e => FX.keep _ _ (U _ _ e)) hd (by exact hA) mail _ room _ hr4 hr8 el _ hel hml j6 j4) ?_ (fun _ _ (x : False) => x.elim); rintro v ⟨h₉, g₉, d₉, k₉, os₉⟩ ⟨hv9, G⟩; obtain ⟨tv, rfl⟩ := tell_str hv9; have FY := fr_grow FX G.keep; have NY := news_grow NX G.keep; clear FX NX; obtain rfl : g₉ = _ := G.gens; obtain rfl : os₉ = _ := G.os; clear G; try dsimp only)
          | ((with_reducible show wpAny _ _ (call (Value.ref 55) _) _ _ _); rename Fr _ _ _ _ => FX; rename News _ _ _ _ => NX; refine wpAny_mono (fix_rows (fun b o e => FX.keep _ _ (U _ _ e)) (Nat.lt_of_le_of_lt (Nat.le_add_right A.depth 4) hd) (by exact hA) el _ _ hel hgR (by lia)) ?_ (fun _ _ (x : False) => x.elim); rintro v ⟨h₉, g₉, d₉, k₉, os₉⟩ ⟨hv9, G⟩; obtain ⟨tv, rfl⟩ := tell_str hv9; have FY := fr_grow FX G.keep; have NY := news_grow NX G.keep; clear FX NX; obtain rfl : g₉ = _ := G.gens; obtain rfl : os₉ = _ := G.os; clear G; try dsimp only)
          | ((with_reducible show wpAny _ _ (call (Value.ref 48) _) _ _ _); rename Fr _ _ _ _ => FX; rename News _ _ _ _ => NX; refine wpAny_mono (quote_rows (fun b o e => FX.keep _ _ (U _ _ e)) (Nat.lt_of_le_of_lt (Nat.le_add_right A.depth 4) hd) (by exact hA) _ _ hgR (by lia) (enc_256 hgR)) ?_ (fun _ _ (x : False) => x.elim); rintro v ⟨h₉, g₉, d₉, k₉, os₉⟩ ⟨hv9, G⟩; obtain ⟨tv, rfl⟩ := tell_bytes hv9; have FY := fr_grow FX G.keep; have NY := news_grow NX G.keep; clear FX NX; obtain rfl : g₉ = _ := G.gens; obtain rfl : os₉ = _ := G.os; clear G; try dsimp only)
          | ((with_reducible show wpAny _ _ (call (Value.ref 119) _) _ _ _); rename Fr _ _ _ _ => FX; rename News _ _ _ _ => NX; refine wpAny_mono (dec_mail (fun b o e => FX.keep _ _ (U _ _ e)) hd (by exact hA) mail _ room hr4 (by lia) j4 j5) ?_ (fun _ _ (x : False) => x.elim); rintro v ⟨h₉, g₉, d₉, k₉, os₉⟩ ⟨hv9, G⟩; obtain ⟨tv, rfl⟩ := tell_str hv9; have FY := fr_grow FX G.keep; have NY := news_grow NX G.keep; clear FX NX; obtain rfl : g₉ = _ := G.gens; obtain rfl : os₉ = _ := G.os; clear G; try dsimp only)
          | ((fail_if_success (with_reducible show wpAny _ _ (eval (PySem.Expr.ListComp _ _ _ _) _) _ _ _)); (fail_if_success (with_reducible show wpAny _ _ (call (Value.ref _) _) _ _ _)); walk1; try dsimp only)
          | fail "no")

        rename Fr _ _ _ _ => FQ
        rename News _ _ _ _ => NQ
        refine ⟨.inl rfl, _, (L + 1, oc) :: (L + 2, o2) :: tups, FQ, ?_, hnI, ?_, ?_, ⟨_, by with_unfolding_all rfl⟩, ⟨_, by with_unfolding_all rfl⟩, rfl, _, _, by with_unfolding_all rfl, hnext⟩
        · intro p hp
          exact NQ p (by simp only [List.mem_append, List.mem_cons, List.not_mem_nil, or_false, List.nil_append, List.append_nil] at hp ⊢; exact .inr (.inr hp))
        · exact hg''.trans (hg'.trans hg₁)
        · exact ho''.trans (ho'.trans ho₁)
  · intro s' m' news' F' N' hg' ho' hJ
    rw [hln] at hJ
    exact K s' m' news' F' N' hJ hg' ho'
end Mine
end
section
namespace Mine
open PySem.Builtin PySem.Builtin.Str PySem.StrLaws
theorem strjoin_list (el : List Nat) : ∀ parts : List PySem.Str, (PySem.Str.join ⟨el.toArray⟩ parts).cps.toList = joinE el (parts.map (·.cps.toList))
  | [] => rfl
  | [x] => rfl
  | x :: y :: r => by
    have ih := strjoin_list el (y :: r)
    show (x ++ ⟨el.toArray⟩ ++ PySem.Str.join ⟨el.toArray⟩ (y :: r)).cps.toList = _
    rw [PySem.Str.cps_append, PySem.Str.cps_append, List.map_cons, joinE_cons el _ (by simp), ← ih]
    simp
theorem mem_joinE {e : List Nat} : ∀ {rs : List (List Nat)} {r : List Nat} {c : Nat}, r ∈ rs → c ∈ r → c ∈ joinE e rs
  | [], _, _, h, _ => by cases h
  | [a], r, c, h, hc => by rw [List.mem_singleton] at h; subst h; exact hc
  | a :: b :: t, r, c, h, hc => by
    rw [joinE_cons e a (by simp)]
    rcases List.mem_cons.mp h with rfl | h
    · exact List.mem_append_left _ (List.mem_append_left _ hc)
    · exact List.mem_append_right _ (mem_joinE h hc)
theorem back_parts (parts : List PySem.Str) : (parts.map (·.cps.toList)).map (fun l => (⟨l.toArray⟩ : PySem.Str)) = parts := by
  rw [List.map_map]
  conv => rhs; rw [← List.map_id parts]
  apply List.map_congr_left
  intro p _
  apply PySem.Str.ext'
  simp
/-- split takes a join apart -/
theorem split_lines (Ls : List (List Nat)) (hne : Ls ≠ []) (h : ∀ r ∈ Ls, noNl r) : Txt.split ⟨(joinE [10] Ls).toArray⟩ ⟨#[10]⟩ = Ls.map fun l => (⟨l.toArray⟩ : PySem.Str) := by
  have h1 := join_split ⟨(joinE [10] Ls).toArray⟩ ⟨#[10]⟩
  have h2 := split_free ⟨(joinE [10] Ls).toArray⟩ 10
  have h3 := split_pos ⟨(joinE [10] Ls).toArray⟩ ⟨#[10]⟩
  generalize Txt.split ⟨(joinE [10] Ls).toArray⟩ ⟨#[10]⟩ = parts at *
  have e1 : joinE [10] (parts.map (·.cps.toList)) = joinE [10] Ls := by
    rw [← strjoin_list]
    have := congrArg (fun z : PySem.Str => z.cps.toList) h1
    exact this
  have hP : ∀ r ∈ parts.map (·.cps.toList), noNl r := by
    intro r hr c hc
    have hin : c ∈ joinE [10] Ls := by rw [← e1]; exact mem_joinE hr hc
    obtain ⟨p, hp, rfl⟩ := List.mem_map.mp hr
    refine ⟨fun q => h2 p hp (q ▸ hc), fun q => ?_⟩
    rcases joinE_mem hin with z | ⟨l, hl, z⟩
    · rw [List.mem_singleton.mp z] at q; lia
    · exact (h l hl c z).2 q
  have hPn : parts.map (·.cps.toList) ≠ [] := by
    intro q
    have := List.map_eq_nil_iff.mp q
    rw [this] at h3; simp at h3
  have e2 := spl_join10 _ hPn hP
  rw [e1, spl_join10 Ls hne h] at e2
  rw [e2, back_parts]
/-! the replacing -/
noncomputable def rep2 : List Nat → List Nat
  | [] => []
  | 13 :: 10 :: r => 10 :: rep2 r
  | c :: r => c :: rep2 r
theorem rep2_two (r : List Nat) : rep2 (13 :: 10 :: r) = 10 :: rep2 r := by rw [rep2]
theorem rep2_one {c : Nat} {r : List Nat} (h : ¬ (c = 13 ∧ ∃ r', r = 10 :: r')) : rep2 (c :: r) = c :: rep2 r := by
  rw [rep2]
  intro r' h1 h2
  exact h ⟨h1, r', h2⟩
noncomputable def CR (l : List Nat) (k : Nat) : Prop := l[k]? = some 13 ∧ l[k + 1]? = some 10
theorem rep2_none : ∀ l : List Nat, (∀ k, ¬ CR l k) → rep2 l = l
  | [], _ => rfl
  | c :: r, h => by
    rw [rep2_one, rep2_none r]
    · intro k hk
      exact h (k + 1) (by simpa [CR] using hk)
    · rintro ⟨rfl, r', rfl⟩
      exact h 0 (by simp [CR])
theorem rep2_gap : ∀ (p q : List Nat), (∀ k, k < p.length → ¬ CR (p ++ 13 :: 10 :: q) k) → rep2 (p ++ 13 :: 10 :: q) = p ++ 10 :: rep2 q
  | [], q, _ => rep2_two q
  | c :: p, q, h => by
    rw [List.cons_append, rep2_one, rep2_gap p q]
    · rfl
    · intro k hk hc
      exact h (k + 1) (by simpa using hk) (by simpa [CR] using hc)
    · rintro ⟨rfl, r', e⟩
      refine h 0 (by simp) ?_
      rw [List.cons_append, e]
      simp [CR]
theorem at_cr (l : List Nat) (k : Nat) : PySem.StrLaws.At ⟨l.toArray⟩ ⟨#[13, 10]⟩ (⟨l.toArray⟩ : PySem.Str).length k ↔ CR l k := by
  unfold PySem.StrLaws.At CR
  have hl : (⟨l.toArray⟩ : PySem.Str).length = l.length := by show l.toArray.size = _; simp
  have h2 : (⟨#[13, 10]⟩ : PySem.Str).length = 2 := rfl
  rw [subAt_eq, hl, h2]
  show (k + 2 ≤ l.length ∧ ((l.drop k).take 2 == [13, 10]) = true) ↔ _
  constructor
  · rintro ⟨h, e⟩
    have e := eq_of_beq e
    have e0 := congrArg (fun z : List Nat => z[0]?) e
    have e1 := congrArg (fun z : List Nat => z[1]?) e
    simp at e0 e1
    exact ⟨e0, e1⟩
  · rintro ⟨e0, e1⟩
    have h1 : k + 1 < l.length := (List.getElem?_eq_some_iff.mp e1).1
    refine ⟨by (clear h2 hl; lia), ?_⟩
    have ek : k < l.length := by (clear h2 hl; lia)
    have d0 : l.drop k = 13 :: 10 :: l.drop (k + 2) := by
      rw [List.drop_eq_getElem_cons ek, List.drop_eq_getElem_cons h1]
      rw [List.getElem?_eq_getElem ek] at e0
      rw [List.getElem?_eq_getElem h1] at e1
      rw [Option.some.inj e0, Option.some.inj e1]
    rw [d0]; rfl
theorem parts_rep (l : List Nat) : ∀ (cuts : List Nat) (a f : Nat), a ≤ l.length → ChainG ⟨l.toArray⟩ ⟨#[13, 10]⟩ (⟨l.toArray⟩ : PySem.Str).length a cuts f → (∀ k, f ≤ k → ¬ PySem.StrLaws.At ⟨l.toArray⟩ ⟨#[13, 10]⟩ (⟨l.toArray⟩ : PySem.Str).length k) →
    joinE [10] ((partsFrom ⟨l.toArray⟩ 2 a cuts).map (·.cps.toList)) = rep2 (l.drop a)
  | [], a, f, ha, h, hn => by
    have e : f = a := h
    subst e
    have hl : (⟨l.toArray⟩ : PySem.Str).length = l.length := by show l.toArray.size = _; simp
    show (strSub ⟨l.toArray⟩ f (⟨l.toArray⟩ : PySem.Str).length).cps.toList = _
    rw [strSub_toList, hl]
    show (l.drop f).take (l.length - f) = _
    rw [List.take_of_length_le (by simp), rep2_none]
    intro k hk
    refine hn (f + k) (by lia) ((at_cr l (f + k)).mpr ?_)
    unfold CR at hk ⊢
    rw [List.getElem?_drop, List.getElem?_drop] at hk
    exact hk
  | c :: r, a, f, ha, h, hn => by
    obtain ⟨h1, h2, h3, h4⟩ := h
    have hcr := (at_cr l c).mp h2
    have hc1 : c + 1 < l.length := (List.getElem?_eq_some_iff.mp hcr.2).1
    have ih := parts_rep l r (c + 2) f (by (clear h1 ha; lia)) h4 hn
    have hne : (partsFrom ⟨l.toArray⟩ 2 (c + 2) r).map (·.cps.toList) ≠ [] := by
      obtain ⟨p, q, e⟩ := partsFrom_ne ⟨l.toArray⟩ 2 (c + 2) r
      rw [e]; simp
    show joinE [10] ((strSub ⟨l.toArray⟩ a c).cps.toList :: (partsFrom ⟨l.toArray⟩ 2 (c + 2) r).map (·.cps.toList)) = _
    rw [joinE_cons [10] _ hne, ih, strSub_toList]
    show (l.drop a).take (c - a) ++ [10] ++ rep2 (l.drop (c + 2)) = _
    have d0 : l.drop c = 13 :: 10 :: l.drop (c + 2) := by
      have ek : c < l.length := by (clear hne h1 ha; lia)
      rw [List.drop_eq_getElem_cons ek, List.drop_eq_getElem_cons hc1]
      have e0 := hcr.1
      have e1 := hcr.2
      rw [List.getElem?_eq_getElem ek] at e0
      rw [List.getElem?_eq_getElem hc1] at e1
      rw [Option.some.inj e0, Option.some.inj e1]
    have d1 : l.drop a = (l.drop a).take (c - a) ++ 13 :: 10 :: l.drop (c + 2) := by
      rw [← d0]
      have : l.drop c = (l.drop a).drop (c - a) := by rw [List.drop_drop]; congr 1; (clear hne hc1 ha; lia)
      rw [this, List.take_append_drop]
    rw [d1, rep2_gap, ← d1]
    · simp
    · rw [← d1]
      intro k hk hc
      rw [List.length_take, List.length_drop] at hk
      refine h3 (a + k) (by (clear hk hne hc1 h1 ha; lia)) (by lia) ((at_cr l (a + k)).mpr ?_)
      unfold CR at hc ⊢
      rw [List.getElem?_drop, List.getElem?_drop] at hc
      exact hc
theorem repl_crlf (l : List Nat) : Txt.replace ⟨l.toArray⟩ ⟨#[13, 10]⟩ ⟨#[10]⟩ = ⟨(rep2 l).toArray⟩ := by
  obtain ⟨f, hG, hn⟩ := occ_tight ⟨l.toArray⟩ ⟨#[13, 10]⟩ (by show 1 ≤ 2; decide)
  have key := parts_rep l _ 0 f (Nat.zero_le _) hG hn
  rw [List.drop_zero] at key
  have h10 : ((⟨#[13, 10]⟩ : PySem.Str).length == 0) = false := rfl
  unfold Txt.replace
  rw [h10, Bool.false_and, Bool.or_false]
  cases he : (occurrences ⟨l.toArray⟩ ⟨#[13, 10]⟩ 0 (⟨l.toArray⟩ : PySem.Str).length ((⟨l.toArray⟩ : PySem.Str).length + 1)).isEmpty
  · rw [if_neg Bool.false_ne_true, glued_eq_join, partsBetween_eq]
    apply PySem.Str.ext'
    apply Array.toList_inj.mp
    have := strjoin_list [10] (partsFrom ⟨l.toArray⟩ 2 0 (occurrences ⟨l.toArray⟩ ⟨#[13, 10]⟩ 0 (⟨l.toArray⟩ : PySem.Str).length ((⟨l.toArray⟩ : PySem.Str).length + 1)))
    exact this.trans key
  · rw [if_pos rfl]
    have h0 := List.isEmpty_iff.mp he
    rw [h0] at key
    have e1 : joinE [10] ((partsFrom ⟨l.toArray⟩ 2 0 []).map (·.cps.toList)) = l := by
      show (strSub ⟨l.toArray⟩ 0 (⟨l.toArray⟩ : PySem.Str).length).cps.toList = l
      rw [sub_whole]
    rw [e1] at key
    rw [← key]
noncomputable def lfN (c : Nat) : Nat := if c = 13 then 10 else c
theorem lfn_plain {p : List Nat} (h : 13 ∉ p) : p.map lfN = p := by
  conv => rhs; rw [← List.map_id p]
  apply List.map_congr_left
  intro c hc
  have : c ≠ 13 := fun q => h (by rw [← q]; exact hc)
  unfold lfN
  rw [if_neg this]; rfl
theorem map_lfn : ∀ P : List (List Nat), (∀ p ∈ P, 13 ∉ p) → (joinE [13] P).map lfN = joinE [10] P
  | [], _ => rfl
  | [p], h => lfn_plain (h p (.head _))
  | p :: q :: t, h => by
    have ih := map_lfn (q :: t) fun x hx => h x (.tail _ hx)
    rw [joinE_cons [13] p (by simp), joinE_cons [10] p (by simp), List.map_append, List.map_append, ih, lfn_plain (h p (.head _))]
    rfl
theorem repl_cr (l : List Nat) : Txt.replace ⟨l.toArray⟩ ⟨#[13]⟩ ⟨#[10]⟩ = ⟨(l.map lfN).toArray⟩ := by
  rw [replace_one]
  have h1 := join_split ⟨l.toArray⟩ ⟨#[13]⟩
  have h2 := split_free ⟨l.toArray⟩ 13
  generalize Txt.split ⟨l.toArray⟩ ⟨#[13]⟩ = parts at *
  apply PySem.Str.ext'
  apply Array.toList_inj.mp
  have e1 : joinE [13] (parts.map (·.cps.toList)) = l := by
    rw [← strjoin_list]
    exact congrArg (fun z : PySem.Str => z.cps.toList) h1
  have e2 := map_lfn (parts.map (·.cps.toList)) (by
    intro p hp
    obtain ⟨q, hq, rfl⟩ := List.mem_map.mp hp
    exact h2 q hq)
  rw [e1] at e2
  show _ = l.map lfN
  rw [e2]
  exact strjoin_list [10] parts
theorem att_join (c : Nat) : ∀ X : List (List Nat), X ≠ [] → joinE [10] (att [c] X) = c :: joinE [10] X
  | [], h => absurd rfl h
  | [a], _ => rfl
  | a :: b :: t, _ => by
    show joinE [10] (([c] ++ a) :: b :: t) = _
    rw [joinE_cons [10] _ (by simp), joinE_cons [10] a (by simp)]
    rfl
theorem lines_rep : ∀ (n : Nat) (l : List Nat), l.length ≤ n → joinE [10] (spl l) = (rep2 l).map lfN
  | _, [], _ => by rw [spl]; rfl
  | 0, c :: l, h => by simp at h
  | n + 1, c :: l, h => by
    have hl : l.length ≤ n := by simpa using h
    by_cases h2 : c = 13 ∧ ∃ r', l = 10 :: r'
    · obtain ⟨rfl, r', rfl⟩ := h2
      rw [spl_two, rep2_two, joinE_cons [10] [] (spl_ne r'), lines_rep n r' (by simp at hl; lia)]
      rfl
    · rw [rep2_one h2]
      by_cases hc : c = 10 ∨ c = 13
      · rw [spl_nl h2 hc, joinE_cons [10] [] (spl_ne l), lines_rep n l hl, List.map_cons]
        have : lfN c = 10 := by unfold lfN; split <;> (clear h2 hl h; lia)
        rw [this]; rfl
      · rw [spl_char hc, att_join c _ (spl_ne l), lines_rep n l hl, List.map_cons]
        have : lfN c = c := by unfold lfN; rw [if_neg (by (clear h2 hl h; lia))]
        rw [this]
/-! the word -/
theorem hdrS_ok {c : Nat} (h : c < 256) : ∀ k ∈ (hdrS c).cps.toList, k ≠ 46 ∧ k ≠ 10 ∧ k ≠ 13 := by
  have a : ((List.range 256).all fun c => (hdrS c).cps.toList.all fun k => decide (k ≠ 46 ∧ k ≠ 10 ∧ k ≠ 13)) = true := by decide +kernel
  exact fun k hk => of_decide_eq_true (List.all_eq_true.mp (List.all_eq_true.mp a c (List.mem_range.mpr h)) k hk)
theorem word_ok {cs : List Nat} (h : ∀ c ∈ cs, c < 256) : ∀ k ∈ wordL cs, k ≠ 46 ∧ k ≠ 10 ∧ k ≠ 13 := by
  intro k hk
  unfold wordL at hk
  rcases List.mem_append.mp hk with hk | hk
  · rcases List.mem_append.mp hk with hk | hk
    · simp at hk; lia
    · obtain ⟨c, hc, hk⟩ := List.mem_flatMap.mp hk
      exact hdrS_ok (h c hc) k hk
  · simp at hk; lia
theorem fRoom_plain {room : Nat} : ∀ (n : Nat) (l : List Nat), (∀ c ∈ l, c ≠ 46) → fRoom room n l = l
  | 0, l, _ => rfl
  | n + 1, l, h => by
    have hdot : ∀ a : List Nat, (∀ c ∈ a, c ≠ 46) → dot a = a := by
      intro a ha
      unfold dot
      split
      · exact absurd rfl (ha 46 (.head _))
      · rfl
    have hm := cut_mem room l
    rw [fRoom_succ]
    split
    · exact hdot l h
    · rw [hdot _ (fun c hc => h c (hm.1 c hc)), fRoom_plain n _ (fun c hc => h c (hm.2 c hc)), cutAt_app]
theorem FL_plain {room : Nat} {l : List Nat} (h : ∀ c ∈ l, c ≠ 46) : FL room l = l := fRoom_plain _ l h
theorem mailS_cons {wd : List Nat} (h : ∀ c ∈ wd, c ≠ 46) : ∀ (sv : List (Nat × List Nat)) (T : List (List Nat)), mailS (wd :: T) sv = wd :: mailS T sv
  | [], T => rfl
  | p :: sv, T => by
    show mailS ((wd :: T).map (FL p.1)) sv = wd :: mailS (T.map (FL p.1)) sv
    rw [List.map_cons, FL_plain h, mailS_cons h sv]
theorem lines0 {cs : List Nat} (h : ∀ c ∈ cs, c < 256) : spl (mail0 cs) = wordL cs :: spl cs := by
  unfold mail0
  have hw := word_ok h
  rw [List.append_assoc, spl_row _ (fun c hc => ⟨(hw c hc).2.1, (hw c hc).2.2⟩)]
  show att (wordL cs) (spl (10 :: cs)) = _
  rw [spl_nl (by rintro ⟨q, _⟩; cases q) (.inl rfl)]
  simp [att]
theorem mailS_noNl : ∀ (sv : List (Nat × List Nat)) (Ls : List (List Nat)), (∀ r ∈ Ls, noNl r) → ∀ r ∈ mailS Ls sv, noNl r
  | [], Ls, h => h
  | p :: sv, Ls, h => by
    show ∀ r ∈ mailS (Ls.map (FL p.1)) sv, noNl r
    refine mailS_noNl sv _ fun r hr => ?_
    obtain ⟨l, hl, rfl⟩ := List.mem_map.mp hr
    exact fun c hc => h l hl c (FL_mem hc)
theorem mailS_len : ∀ (sv : List (Nat × List Nat)) (Ls : List (List Nat)) (B : Nat), (∀ p ∈ sv, 4 ≤ p.1) → (∀ r ∈ Ls, r.length ≤ B) → ∀ r ∈ mailS Ls sv, r.length ≤ B * 2 ^ sv.length
  | [], Ls, B, _, h => by simpa [mailS] using h
  | p :: sv, Ls, B, hp, h => by
    show ∀ r ∈ mailS (Ls.map (FL p.1)) sv, _
    intro r hr
    have := mailS_len sv (Ls.map (FL p.1)) (B * 2) (fun q hq => hp q (.tail _ hq)) (by
      intro r hr
      obtain ⟨l, hl, rfl⟩ := List.mem_map.mp hr
      have h1 := FL_len (hp p (.head _)) l
      have h2 := h l hl
      lia) r hr
    rw [List.length_cons, Nat.pow_succ]
    rw [Nat.mul_assoc, Nat.mul_comm 2] at this
    exact this
theorem mailS_ne (Ls : List (List Nat)) (h : Ls ≠ []) : ∀ sv : List (Nat × List Nat), mailS Ls sv ≠ []
  | [] => h
  | p :: sv => mailS_ne (Ls.map (FL p.1)) (by simpa using h) sv
theorem mailS_take {sv : List (Nat × List Nat)} {k : Nat} {p : Nat × List Nat} (h : sv[k]? = some p) (Ls : List (List Nat)) : mailS Ls (sv.take (k + 1)) = (mailS Ls (sv.take k)).map (FL p.1) := by
  rw [List.take_add_one, h, Option.toList_some, mailS_snoc]
theorem spl_len_le {b r : List Nat} (h : r ∈ spl b) : r.length ≤ b.length := by
  have := (spl_sum b.length b (Nat.le_refl _)).1
  have h2 : r.length ≤ ((spl b).map List.length).sum := by
    clear this
    generalize spl b = X at h
    induction X with
    | nil => cases h
    | cons a X ih =>
      rw [List.map_cons, List.sum_cons]
      rcases List.mem_cons.mp h with rfl | h
      · lia
      · have := ih h; lia
  lia
theorem join0 {cs : List Nat} (h : ∀ c ∈ cs, c < 256) : joinE [10] (spl (mail0 cs)) = wordL cs ++ [10] ++ (rep2 cs).map lfN := by
  rw [lines0 h, joinE_cons [10] _ (spl_ne cs), lines_rep cs.length cs (Nat.le_refl _)]
end Mine
end
section
namespace Mine

theorem news_sub {h₀ h : Heap} {L : Addr} {a b : List (Addr × Obj)} (N : News h₀ L h a) (hs : ∀ p ∈ b, p ∈ a) : News h₀ L h b := fun p hp => N p (hs p hp)
theorem idx_neg2 (l : Option Int) (n : Nat) (h : 2 ≤ n) : PySem.Builtin.Str.strSliceIndices l (some (-2)) 1 n = PySem.Builtin.Str.strSliceIndices l (some ((n : Int) - 2)) 1 n := by
  have e : (max 0 (min (if (-2 : Int) < 0 then -2 + (n : Int) else -2) n)) = (max 0 (min (if ((n : Int) - 2) < 0 then ((n : Int) - 2) + n else ((n : Int) - 2)) n)) := by
    split <;> split <;> lia
  unfold PySem.Builtin.Str.strSliceIndices
  simp only [show ((1 : Int) > 0) = True from by simp, if_true]
  rw [e]
theorem slice_neg2 {x : PySem.Str} (l : Option Int) (h : 2 ≤ x.length) : Txt.slice x l (some (-2)) = Txt.slice x l (some ((x.length : Int) - 2)) := by
  unfold Txt.slice
  rw [idx_neg2 l x.length h]
theorem word_inner (cs : List Nat) : Txt.slice ⟨(wordL cs).toArray⟩ (some 6) (some (-2)) = ⟨(cs.flatMap fun c => (hdrS c).cps.toList).toArray⟩ := by
  have hl : (wordL cs).length = 6 + (cs.flatMap fun c => (hdrS c).cps.toList).length + 2 := by
    unfold wordL; simp only [List.length_append, List.length_cons, List.length_nil]
  have hx : (⟨(wordL cs).toArray⟩ : PySem.Str).length = (wordL cs).length := by show (wordL cs).toArray.size = _; simp
  rw [slice_neg2 (some 6) (by rw [hx]; lia), hx]
  rw [slice_take (i := 6) (p := 6) (k := (cs.flatMap fun c => (hdrS c).cps.toList).length) rfl (by lia) (by show _ ≤ (wordL cs).toArray.size; rw [List.size_toArray]; lia)]
  show (⟨(((wordL cs).drop 6).take _).toArray⟩ : PySem.Str) = _
  have e : (wordL cs).drop 6 = (cs.flatMap fun c => (hdrS c).cps.toList) ++ [63, 61] := rfl
  rw [e, List.take_append_of_le_length (Nat.le_refl _), List.take_length]
set_option maxHeartbeats 4000000 in
theorem law_five {w : World} {A : Around} {s : Shared} {h₀ : Heap} {L : Addr} {m : PySem.Str → Option Value} {cs : List Nat} {T : List (List Nat)} {news : List (Addr × Obj)} {Q : Flow → Shared → Prop} (hA : A.handled = none) (hd : A.depth + 4 < recursionLimit) (U : Up w h₀)
    (F : Fr h₀ L s.heap m) (N : News h₀ L s.heap news) (h256 : ∀ c ∈ cs, c < 256) (hcl : cs.length ≤ 18) (hT : ∀ r ∈ T, noNl r) (hTl : (joinE [10] (wordL cs :: T)).length ≤ 1000)
    (hm1 : ∃ t, m (S "text") = some (.str ⟨cs.toArray⟩ t)) (hm2 : ∃ t, m (S "word") = some (.str ⟨(wordL cs).toArray⟩ t)) (hm3 : ∃ t, m (S "mail") = some (.str ⟨(joinE [10] (wordL cs :: T)).toArray⟩ t))
    (K : ∀ s' m', Fr h₀ L s'.heap m' → (∃ t, m' (S "text") = some (.str ⟨cs.toArray⟩ t)) → (∃ t, m' (S "word") = some (.str ⟨(wordL cs).toArray⟩ t)) → (∃ t, m' (S "mail") = some (.str ⟨(joinE [10] (wordL cs :: T)).toArray⟩ t)) → News h₀ L s'.heap news → s'.gens = s.gens → s'.os = s.os →
      wpAny (model pw w) A (execs ((fBody (stm 35)).drop 11) (envL L)) Q (fun _ _ => False) s') :
    wpAny (model pw w) A (execs ((fBody (stm 35)).drop 9) (envL L)) Q (fun _ _ => False) s := by
  obtain ⟨t1, q1⟩ := hm1
  obtain ⟨t2, q2⟩ := hm2
  obtain ⟨t3, q3⟩ := hm3
  have F := fr_upd (fr_upd (fr_upd F q1) (x := S "word") (by with_unfolding_all exact q2)) (x := S "mail") (by with_unfolding_all exact q3)
  obtain ⟨h₁, g₁, d₁, k₁, os₁⟩ := s
  dsimp only at F N K ⊢
  have hw := word_ok h256
  have hLn : ∀ r ∈ wordL cs :: T, noNl r := by
    intro r hr
    rcases List.mem_cons.mp hr with rfl | hr
    · exact fun c hc => ⟨(hw c hc).2.1, (hw c hc).2.2⟩
    · exact hT r hr
  have hsp := split_lines (wordL cs :: T) (by simp) hLn
  have he10 : PySem.Str.ofString "\n" = ⟨#[10]⟩ := by decide +kernel
  have hwl : (wordL cs).length ≤ 100 := by
    have h3 := flat_len hdrS hdrS_len cs
    unfold wordL
    simp only [List.length_append, List.length_cons, List.length_nil]
    lia
  have hxl : (⟨(joinE [10] (wordL cs :: T)).toArray⟩ : PySem.Str).length ≤ 1000 := by show (joinE [10] (wordL cs :: T)).toArray.size ≤ _; rw [List.size_toArray]; exact hTl
  have hin := word_inner cs
  have hfl : (cs.flatMap fun c => (hdrS c).cps.toList).length ≤ 60 := by
    have h3 := flat_len hdrS hdrS_len cs
    lia
  have hb1 : ((⟨(wordL cs).toArray⟩ : PySem.Str) != ⟨(wordL cs).toArray⟩) = false := by simp
  have hb2 : ((⟨cs.toArray⟩ : PySem.Str) != ⟨cs.toArray⟩) = false := by simp
  repeat' (first
    | ((with_reducible show wpAny _ _ (eval (PySem.Expr.Name _ _) _) _ _ _); (first | ((with_reducible show wpAny _ _ (eval (PySem.Expr.Name (PySem.Str.ofString "header_decode") _) _) _ _ _); refine name_gE (by assumption) (by assumption) (by kernel_rfl) (by kernel_rfl) (by rfl) (g_hdec _) (by decide +kernel) ?_) | ((with_reducible show wpAny _ _ (eval (PySem.Expr.Name _ _) _) _ _ _); refine name_lE (by assumption) (by kernel_rfl) (by kernel_rfl) (by first | assumption | with_unfolding_all rfl) (by decide +kernel) ?_)); try dsimp only)
    | (exfalso; rename (_ != _) = true => hb; (first | rw [hb1] at hb | rw [hb2] at hb); cases hb; done)
    | ((with_reducible show wpAny _ _ (storeName (envOfC _ _ _ _ _) _ _) _ _ _); rw [hsh]; refine stLocN (by assumption) (by assumption) ?_ (by kernel_rfl) (by kernel_rfl); intro _ _ _; try dsimp only)
    | ((with_reducible show wpAny _ _ (call (Value.builtin "str.split") _) _ _ _); rename Fr _ _ _ _ => FX; rename News _ _ _ _ => NX; rw [he10]; refine splitN1A FX NX (by rfl) ?_ (hsz := by rw [sizeLine_eq]; exact Nat.le_trans (Nat.add_le_add_right hxl 2) (by decide)); clear FX NX; intro l h' k' e _ _ hl' F' N'; rw [hsp] at e; (have hsh : (List.map (fun x => x.fst) l).getD (Int.toNat 0) PySem.Str.empty = ⟨(wordL cs).toArray⟩ := (by rw [e]; rfl)); try dsimp only)
    | ((with_reducible show wpAny _ _ (callWith _ (Value.ref 133) _ _ _) _ _ _); refine cw_def (o := o133L w.params) (by kernel_rfl) rfl ?_ (by rfl))
    | ((with_reducible show Up _ _ ∧ _); rename Fr _ _ _ _ => FX; refine ⟨fun b o e => FX.keep _ _ (U _ _ e), ?_⟩)
    | ((with_reducible show wpAny _ _ (call (Value.ref 133) _) _ _ _); rw [hin]; rename Fr _ _ _ _ => FX; rename News _ _ _ _ => NX; refine wpAny_mono (hdec_ok (fun b o e => FX.keep _ _ (U _ _ e)) hd (by exact hA) ⟨(cs.flatMap fun c => (hdrS c).cps.toList).toArray⟩ _ cs h256 rfl (by lia)) ?_ (fun _ _ (x : False) => x.elim); rintro v ⟨h₉, g₉, d₉, k₉, os₉⟩ ⟨hv9, G⟩; obtain ⟨tv, rfl⟩ := tell_str hv9; have FY := fr_grow FX G.keep; have NY := news_grow NX G.keep; clear FX NX; obtain rfl : g₉ = _ := G.gens; obtain rfl : os₉ = _ := G.os; clear G; try dsimp only)
    | ((fail_if_success (with_reducible show wpAny _ _ (call (Value.ref _) _) _ _ _)); (fail_if_success (with_reducible show wpAny _ _ (execs (PySem.Stmt.For _ _ _ _ _ :: _) _) _ _ _)); walk1; try dsimp only)
    | fail "no")
  refine K _ _ (by assumption) ⟨_, by with_unfolding_all rfl⟩ ⟨_, by with_unfolding_all rfl⟩ ⟨_, by with_unfolding_all rfl⟩ (news_sub (by assumption) (fun p hp => by simp [hp])) rfl rfl
end Mine
end
section
namespace Mine

theorem range_three : ∀ n : Nat, n ≤ 3 → Builtin.Range.small (((n : Nat) : Int) - 1) (-1) (-1) = true ∧ Builtin.Range.rangeSize (((n : Nat) : Int) - 1) (-1) (-1) = ((n : Nat) : Int) := by
  intro n h
  have hc : n = 0 ∨ n = 1 ∨ n = 2 ∨ n = 3 := by lia
  rcases hc with rfl | rfl | rfl | rfl <;> exact ⟨by decide +kernel, by decide +kernel⟩
theorem name_cE {w : World} {A : Around} {E : Value → Shared → Prop} {s : Shared} {env : Env} {x : PySem.Str} {pos : Pos} {c : Addr} {o : Obj} {v : Value} {Q : Value → Shared → Prop}
    (hk : env.scope.kind = .function) (hx : env.kindOf x = some .cell) (hc : env.cells.lookup x = some c) (ho : s.heap.get? c = some o) (hd : o.data = .cell (some v)) (hdb : (x == ("__debug__" : PySem.Str)) = false) (h : Q v s) :
    wpAny (model pw w) A (eval (.Name x pos) env) Q E s := wpAny_Name (wpAny_loadName_cell hk hx hc ⟨o, ho, hd⟩ h) hdb
noncomputable def RB (xs : List (List Nat)) (i : Nat) (v y : Value) (own : List (Addr × Obj)) : Prop := own = [] ∧ ∃ t, y = .str ⟨(xs.getD i []).toArray⟩ t
noncomputable def J10 (L SV : Addr) (its : List Value) (k : Nat) (cs : List Nat) (sv : List (Nat × List Nat)) (oc : Obj) (tups : List (Addr × Obj)) (i : Nat) (m : PySem.Str → Option Value) (news : List (Addr × Obj)) : Prop :=
  (∃ tt, m (S "text") = some (.str ⟨cs.toArray⟩ tt)) ∧ (∃ tw, m (S "word") = some (.str ⟨(wordL cs).toArray⟩ tw)) ∧ (∃ t, m (S "mail") = some (.str ⟨(joinE [10] (mailS (spl (mail0 cs)) (sv.take (sv.length - i)))).toArray⟩ t)) ∧
  ∃ ob v, ob.data = .cell v ∧ news = (L + 2, ob) :: (L + 1, oc) :: (SV, oL (List.toArray its) k) :: tups
theorem lines_bound {cs : List Nat} (h256 : ∀ c ∈ cs, c < 256) (hcl : cs.length ≤ 18) {sv : List (Nat × List Nat)} (hsl : sv.length ≤ 3) (hsv : ∀ p ∈ sv, 4 ≤ p.1) (n : Nat) : ∀ r ∈ mailS (spl (mail0 cs)) (sv.take n), r.length ≤ 648 := by
  have h0 : ∀ r ∈ spl (mail0 cs), r.length ≤ 81 := by
    intro r hr
    have h1 := spl_len_le hr
    have h2 : (mail0 cs).length ≤ 81 := by
      have h3 := flat_len hdrS hdrS_len cs
      unfold mail0 wordL
      simp only [List.length_append, List.length_cons, List.length_nil]
      (clear h1 hsl; lia)
    (clear hsl hcl; lia)
  intro r hr
  have h1 := mailS_len (sv.take n) _ 81 (fun p hp => hsv p (List.mem_of_mem_take hp)) h0 r hr
  have h2 : (sv.take n).length ≤ 3 := by rw [List.length_take]; (clear h1 hcl; lia)
  have h3 : 2 ^ (sv.take n).length ≤ 2 ^ 3 := Nat.pow_le_pow_right (by decide) h2
  (clear h2 hsl hcl; lia)
theorem mailS_count : ∀ (sv : List (Nat × List Nat)) (Ls : List (List Nat)), (mailS Ls sv).length = Ls.length
  | [], Ls => rfl
  | p :: sv, Ls => by
    show (mailS (Ls.map (FL p.1)) sv).length = _
    rw [mailS_count sv, List.length_map]
theorem lines_count {cs : List Nat} (hcl : cs.length ≤ 18) (sv : List (Nat × List Nat)) : (mailS (spl (mail0 cs)) sv).length ≤ 82 := by
  rw [mailS_count]
  have h2 : (mail0 cs).length ≤ 81 := by
    have h3 := flat_len hdrS hdrS_len cs
    unfold mail0 wordL
    simp only [List.length_append, List.length_cons, List.length_nil]
    lia
  have := (spl_sum (mail0 cs).length (mail0 cs) (Nat.le_refl _)).2
  (clear hcl; lia)
theorem join_bound {B : Nat} : ∀ rs : List (List Nat), (∀ r ∈ rs, r.length ≤ B) → (joinE [10] rs).length ≤ rs.length * (B + 1)
  | [], _ => by simp [joinE]
  | [r], h => by have := h r (.head _); show r.length ≤ _; simp; lia
  | r :: q :: rs, h => by
    have ih := join_bound (q :: rs) fun x hx => h x (.tail _ hx)
    have := h r (.head _)
    rw [joinE_cons [10] r (by simp), List.length_cons, Nat.succ_mul]
    simp only [List.length_append, List.length_cons, List.length_nil] at ih ⊢
    lia
set_option maxHeartbeats 4000000 in
theorem law_six {w : World} {A : Around} {s : Shared} {h₀ : Heap} {L : Addr} {m : PySem.Str → Option Value} {SV : Addr} {its : List Value} {cs : List Nat} {sv : List (Nat × List Nat)} {k : Nat} {oc o2 : Obj} {v₂ : Option Value} {tups : List (Addr × Obj)} {Q : Flow → Shared → Prop} (hA : A.handled = none) (hd : A.depth + 4 < recursionLimit) (U : Up w h₀)
    (F : Fr h₀ L s.heap m) (hoc : oc.data = .cell (some (.ref SV))) (ho2 : o2.data = .cell v₂) (N : News h₀ L s.heap ((L + 2, o2) :: (L + 1, oc) :: (SV, oL (List.toArray its) k) :: tups)) (hne2 : ∀ p ∈ (L + 1, oc) :: (SV, oL (List.toArray its) k) :: tups, p.1 ≠ L + 2) (hln : its.length = sv.length) (hsl : sv.length ≤ 3)
    (hits : ∀ j v, its[j]? = some v → ∃ T t1 t2, v = .ref T ∧ (T, oTp #[.int (((sv.getD j (4, [])).1 : Nat) : Int) t1, .str ⟨(sv.getD j (4, [])).2.toArray⟩ t2]) ∈ tups)
    (hsv : ∀ p ∈ sv, 4 ≤ p.1 ∧ p.1 ≤ 8 ∧ (p.2 = [10] ∨ p.2 = [13, 10] ∨ p.2 = [13])) (h256 : ∀ c ∈ cs, c < 256) (hcl : cs.length ≤ 18)
    (hm1 : ∃ t, m (S "text") = some (.str ⟨cs.toArray⟩ t)) (hm2 : ∃ t, m (S "word") = some (.str ⟨(wordL cs).toArray⟩ t)) (hm3 : ∃ t, m (S "mail") = some (.str ⟨(joinE [10] (mailS (spl (mail0 cs)) sv)).toArray⟩ t))
    (K : ∀ s' m', Fr h₀ L s'.heap m' → s'.gens = s.gens → s'.os = s.os → Q (.ret (.bool true)) s') :
    wpAny (model pw w) A (execs ((fBody (stm 35)).drop 11) (envL L)) Q (fun _ _ => False) s := by
  have hlz : (its.toArray).size = sv.length := by rw [List.size_toArray, hln]
  have hlf : ((its.toArray).size : Int) < 2 ^ 63 := by rw [hlz]; exact Int.lt_of_le_of_lt (Int.ofNat_le.mpr hsl) (by decide)
  repeat' (first
    | ((with_reducible show wpAny _ _ (eval (PySem.Expr.Name _ _) _) _ _ _); (first | ((with_reducible show wpAny _ _ (eval (PySem.Expr.Name (PySem.Str.ofString "_law_bare") _) _) _ _ _); refine name_gE (by assumption) (by assumption) (by kernel_rfl) (by kernel_rfl) (by rfl) (g_bare _) (by decide +kernel) ?_) | ((with_reducible show wpAny _ _ (eval (PySem.Expr.Name (PySem.Str.ofString "range") _) _) _ _ _); refine name_bE (by assumption) (by assumption) (by kernel_rfl) (by kernel_rfl) (by rfl) (by rfl) (g_range _) (b_range _) (by decide +kernel) ?_) | ((with_reducible show wpAny _ _ (eval (PySem.Expr.Name (PySem.Str.ofString "len") _) _) _ _ _); refine name_bE (by assumption) (by assumption) (by kernel_rfl) (by kernel_rfl) (by rfl) (by rfl) (g_len _) (b_len _) (by decide +kernel) ?_) | ((with_reducible show wpAny _ _ (eval (PySem.Expr.Name _ _) _) _ _ _); refine name_lE (by assumption) (by kernel_rfl) (by kernel_rfl) (by first | assumption | with_unfolding_all rfl) (by decide +kernel) ?_)); try dsimp only)
    | ((with_reducible show wpAny _ _ (exec (PySem.Stmt.For _ _ _ _ _) _) _ _ _); refine wpAny_For ?_ (by intro _; rfl))
    | ((with_reducible show wpAny _ _ (eval (PySem.Expr.Name (PySem.Str.ofString "servers") _) (envOfC _ _ _ _ _)) _ _ _); rename News _ _ _ _ => NX; refine ldCN (c := L + 1) (o := oc) NX (by with_unfolding_all rfl) (by simp) hoc ?_ (by kernel_rfl) (by kernel_rfl))
    | ((with_reducible show wpAny _ _ (call (Value.builtin "len") [Value.ref _]) _ _ _); rename News _ _ _ _ => NX; refine len_list ⟨_, (NX (SV, oL (List.toArray its) k) (by simp)).1, rfl, _, rfl⟩ hlf ?_; rw [hlz]; try dsimp only)
    | ((fail_if_success (with_reducible show wpAny _ _ (pyIter _) _ _ _)); (fail_if_success (with_reducible show wpAny _ _ (call (Value.type "range") _) _ _ _)); walk1; try dsimp only)
    | fail "no")
  have hrg := range_three sv.length hsl
  rename Fr _ _ _ _ => FZ
  rename News _ _ _ _ => NZ
  refine range3_rows (s := { heap := s.heap, gens := s.gens, drawn := s.drawn, toks := _, os := s.os }) FZ NZ (by decide) ?_
  clear FZ NZ
  intro h₁ tk₁ r1 r2 r3 hr F₁ N₁ _
  obtain ⟨tm, hm3⟩ := hm3
  refine for_range (s := { heap := h₁, gens := s.gens, drawn := s.drawn, toks := tk₁, os := s.os }) (n := sv.length) (by exact hA) F₁ N₁ hr hrg.1 hrg.2 (J10 L SV its k cs sv oc tups) ⟨hm1, hm2, ⟨tm, by rw [Nat.sub_zero, List.take_length]; exact hm3⟩, o2, v₂, ho2, rfl⟩ ?_ ?_
  · rintro i tk m₁ news₁ I o ⟨h₂, g₂, d₂, k₂, os₂⟩ hi ⟨⟨tt, q1⟩, ⟨tw, q2⟩, ⟨t, q3⟩, ob, v, hob, rfl⟩ hnI F₂ N₂ hg₂ ho₂
    dsimp only at hg₂ ho₂ F₂ N₂
    have F₂' := fr_upd (fr_upd (fr_upd F₂ q1) (x := S "word") (by with_unfolding_all exact q2)) (x := S "mail") (by with_unfolding_all exact q3)
    clear F₂ F₁ N₁
    obtain ⟨κ, hκ⟩ : ∃ κ, κ = sv.length - 1 - i := ⟨_, rfl⟩
    have hκ1 : ((sv.length : Nat) : Int) - 1 + (i : Int) * (-1) = ((κ : Nat) : Int) := by (clear hlf hcl hsl hln hd; lia)
    have hκ2 : sv.length - i = κ + 1 := by (clear hi hlf hcl hsl hln hd; lia)
    have hκ3 : sv.length - (i + 1) = κ := by (clear hi hlf hcl hsl hln hd; lia)
    have hκ4 : κ < sv.length := by (clear hκ3 hκ2 hi hlf hcl hsl hln hd; lia)
    rw [hκ1]
    rw [hκ2] at F₂'
    have hsκ : sv[κ]? = some (sv.getD κ (4, [])) := by simp [List.getD, hκ4]
    obtain ⟨T, t1, t2, eT, hT⟩ := hits κ its[κ] (List.getElem?_eq_getElem (by lia))
    have hitκ : its.toArray[κ]? = some (.ref T) := by rw [List.getElem?_toArray, ← eT]; exact List.getElem?_eq_getElem (by lia)
    have hok := hsv _ (List.mem_of_getElem? hsκ)
    rw [mailS_take hsκ] at F₂'
    generalize sv.getD κ (4, []) = p at hT hok F₂'
    obtain ⟨room, el⟩ := p
    dsimp only at hT hok F₂'
    have hxl := lines_bound h256 hcl hsl (fun p hp => (hsv p hp).1) κ
    have hxn := mailS_noNl (sv.take κ) (spl (mail0 cs)) (spl_noNl _ _ (Nat.le_refl _))
    have hxe := mailS_ne (spl (mail0 cs)) (spl_ne _) (sv.take κ)
    have hxc := lines_count hcl (sv.take κ)
    unfold J10
    rw [hκ3]
    generalize mailS (spl (mail0 cs)) (sv.take κ) = xs at F₂' hxl hxn hxe hxc ⊢
    refine wpAny_assign_Name (stCN (own := [(I, o)]) (c := L + 2) F₂' N₂ (by with_unfolding_all rfl) hob (by intro p hp; rw [List.mem_singleton.mp hp]; exact (hnI _ (.head _)).symm) hne2 ?_ (by kernel_rfl) (by kernel_rfl))
    intro h₃ ob' F₃ N₃ hob'
    clear F₂' N₂
    have hLn : ∀ r ∈ xs.map (FL room), noNl r := by
      intro r hr
      obtain ⟨l, hl, rfl⟩ := List.mem_map.mp hr
      exact fun c hc => hxn l hl c (FL_mem hc)
    have hsp := split_lines (xs.map (FL room)) (by simpa using hxe) hLn
    have he10 : PySem.Str.ofString "\n" = ⟨#[10]⟩ := by decide +kernel
    obtain ⟨hr4, hr8, _⟩ := hok
    have hFl : ∀ r ∈ xs.map (FL room), r.length ≤ 1296 := by
      intro r hr
      obtain ⟨l, hl, rfl⟩ := List.mem_map.mp hr
      have := FL_len hr4 l
      have := hxl l hl
      (clear hr8 hr4 hxc hxe hκ3 hκ2 hi hlf hcl hsl hd; lia)
    have hjb := join_bound _ hFl
    have hXl : (joinE [10] (xs.map (FL room))).length ≤ 200000 := by
      rw [List.length_map] at hjb
      (clear hr8 hr4 hxe hκ3 hκ2 hi hlf hcl hsl hd; lia)
    have hXz : (⟨(joinE [10] (xs.map (FL room))).toArray⟩ : PySem.Str).length + 2 ≤ sizeLine := by
      rw [sizeLine_eq]
      show (joinE [10] (xs.map (FL room))).toArray.size + 2 ≤ _
      rw [List.size_toArray]
      exact Nat.le_trans (Nat.add_le_add_right hXl 2) (by decide)
    repeat' (first
      | ((with_reducible show wpAny _ _ (eval (PySem.Expr.Name _ _) _) _ _ _); (first | ((with_reducible show wpAny _ _ (eval (PySem.Expr.Name (PySem.Str.ofString "_law_bare") _) _) _ _ _); refine name_gE (by assumption) (by assumption) (by kernel_rfl) (by kernel_rfl) (by rfl) (g_bare _) (by decide +kernel) ?_) | ((with_reducible show wpAny _ _ (eval (PySem.Expr.Name (PySem.Str.ofString "range") _) _) _ _ _); refine name_bE (by assumption) (by assumption) (by kernel_rfl) (by kernel_rfl) (by rfl) (by rfl) (g_range _) (b_range _) (by decide +kernel) ?_) | ((with_reducible show wpAny _ _ (eval (PySem.Expr.Name (PySem.Str.ofString "len") _) _) _ _ _); refine name_bE (by assumption) (by assumption) (by kernel_rfl) (by kernel_rfl) (by rfl) (by rfl) (g_len _) (b_len _) (by decide +kernel) ?_) | ((with_reducible show wpAny _ _ (eval (PySem.Expr.Name _ _) _) _ _ _); refine name_lE (by assumption) (by kernel_rfl) (by kernel_rfl) (by first | assumption | with_unfolding_all rfl) (by decide +kernel) ?_)); try dsimp only)
      | ((with_reducible show wpAny _ _ (storeName (envOfC _ _ _ _ _) _ _) _ _ _); refine stLocN (by assumption) (by assumption) ?_ (by kernel_rfl) (by kernel_rfl); intro _ _ _; try dsimp only)
      | ((fail_if_success (with_reducible show wpAny _ _ (eval (PySem.Expr.ListComp _ _ _ _) _) _ _ _)); walk1; try dsimp only)
      | fail "no")
    refine comp_expr (by assumption) (cl := [(S "servers", L + 1), (S "back", L + 2)]) ?a2 ?a3 ?a4 ?a5 ?a6 ?_ ?a10
    case a2 => with_unfolding_all rfl
    case a3 => decide +kernel
    case a4 => rfl
    case a5 => decide +kernel
    case a6 => decide +kernel
    case a10 => intro _; rfl
    repeat' (first
      | ((with_reducible show wpAny _ _ (eval (PySem.Expr.Name _ _) _) _ _ _); (first | ((with_reducible show wpAny _ _ (eval (PySem.Expr.Name (PySem.Str.ofString "_law_bare") _) _) _ _ _); refine name_gE (by assumption) (by assumption) (by kernel_rfl) (by kernel_rfl) (by rfl) (g_bare _) (by decide +kernel) ?_) | ((with_reducible show wpAny _ _ (eval (PySem.Expr.Name (PySem.Str.ofString "range") _) _) _ _ _); refine name_bE (by assumption) (by assumption) (by kernel_rfl) (by kernel_rfl) (by rfl) (by rfl) (g_range _) (b_range _) (by decide +kernel) ?_) | ((with_reducible show wpAny _ _ (eval (PySem.Expr.Name (PySem.Str.ofString "len") _) _) _ _ _); refine name_bE (by assumption) (by assumption) (by kernel_rfl) (by kernel_rfl) (by rfl) (by rfl) (g_len _) (b_len _) (by decide +kernel) ?_) | ((with_reducible show wpAny _ _ (eval (PySem.Expr.Name _ _) _) _ _ _); refine name_lE (by assumption) (by kernel_rfl) (by kernel_rfl) (by first | assumption | with_unfolding_all rfl) (by decide +kernel) ?_)); try dsimp only)
      | ((with_reducible show wpAny _ _ (call (Value.builtin "str.split") _) _ _ _); rename Fr _ _ _ _ => FX; rename News _ _ _ _ => NX; rw [he10]; refine splitN1A FX NX (by rfl) ?_ (hsz := hXz); clear FX NX; intro l h' k' e _ _ hl' FS NS; rw [hsp] at e; try dsimp only)
      | ((fail_if_success (with_reducible show CompG _ _ _ _ _ _ _ _ _ _ _ _ _)); walk1; try dsimp only)
      | fail "no")
    have hll : (strValues l).toArray.size = xs.length := by
      have := congrArg List.length e
      simpa [strValues] using this
    refine ⟨_, _, _, RB xs, src_list (by exact hA) hl', by rw [sizeLine_eq, hll]; exact Nat.le_trans hxc (by decide), FS, NS, ?_, ?_⟩
    · intro C i₃ v₃ s₃ m₃ K₃ hi3 hv F₄ hm4 N₄ hg₄ ho₄
      have hil : i₃ < xs.length := by rw [← hll]; exact hi3
      have hxi : xs.getD i₃ [] = xs[i₃] := by simp [List.getD, hil]
      have hle : xs[i₃].length ≤ 648 := hxl _ (List.getElem_mem hil)
      obtain ⟨tl, rfl⟩ : ∃ tl, v₃ = .str ⟨(FL room xs[i₃]).toArray⟩ tl := by
        rw [List.getElem?_toArray] at hv
        unfold strValues at hv
        rw [List.getElem?_map] at hv
        cases hli : l[i₃]? with
        | none => rw [hli] at hv; cases hv
        | some p =>
          rw [hli] at hv
          have h5 : (l.map (·.1))[i₃]? = some p.1 := by rw [List.getElem?_map, hli]; rfl
          rw [e, List.getElem?_map, List.getElem?_map, List.getElem?_eq_getElem hil] at h5
          have h6 : p.1 = ⟨(FL room xs[i₃]).toArray⟩ := (Option.some.inj h5).symm
          exact ⟨p.2, by rw [← h6]; exact (Option.some.inj hv).symm⟩
      have hFl2 := FL_len hr4 xs[i₃]
      generalize xs[i₃] = x at hxi hle hm4 hFl2 ⊢
      have U₃ : Up w _ := fun b o e => FS.keep _ _ (U _ _ e)
      have hB1 := (NS (L + 2, ob') (by simp)).1
      have hB2 := (NS (L + 1, oc) (by simp)).1
      have hB3 := (NS (SV, oL its.toArray k) (by simp)).1
      have hB4 := (NS (T, oTp #[.int ((room : Nat) : Int) t1, .str ⟨el.toArray⟩ t2]) (by simp [hT])).1
      dsimp only at hB1 hB2 hB3 hB4 F₄ N₄ hg₄ ho₄
      repeat' (first
        | ((with_reducible show wpAny _ _ (eval (PySem.Expr.Name _ _) _) _ _ _); (first | ((with_reducible show wpAny _ _ (eval (PySem.Expr.Name (PySem.Str.ofString "_law_bare") _) _) _ _ _); refine name_gE (by assumption) (by assumption) (by kernel_rfl) (by kernel_rfl) (by rfl) (g_bare _) (by decide +kernel) ?_) | ((with_reducible show wpAny _ _ (eval (PySem.Expr.Name (PySem.Str.ofString "range") _) _) _ _ _); refine name_bE (by assumption) (by assumption) (by kernel_rfl) (by kernel_rfl) (by rfl) (by rfl) (g_range _) (b_range _) (by decide +kernel) ?_) | ((with_reducible show wpAny _ _ (eval (PySem.Expr.Name (PySem.Str.ofString "len") _) _) _ _ _); refine name_bE (by assumption) (by assumption) (by kernel_rfl) (by kernel_rfl) (by rfl) (by rfl) (g_len _) (b_len _) (by decide +kernel) ?_) | ((with_reducible show wpAny _ _ (eval (PySem.Expr.Name _ _) _) _ _ _); refine name_lE (by assumption) (by kernel_rfl) (by kernel_rfl) (by first | assumption | with_unfolding_all rfl) (by decide +kernel) ?_)); try dsimp only)
        | ((with_reducible show wpAny _ _ (eval (PySem.Expr.Name (PySem.Str.ofString "servers") _) (compEnvC _ _ _ _)) _ _ _); rename Fr _ _ _ _ => FX; refine name_cE (c := L + 1) (o := oc) (by kernel_rfl) (by kernel_rfl) (by with_unfolding_all rfl) (FX.keep _ _ hB2) hoc (by decide +kernel) ?_)
        | ((with_reducible show wpAny _ _ (eval (PySem.Expr.Name (PySem.Str.ofString "back") _) (compEnvC _ _ _ _)) _ _ _); rename Fr _ _ _ _ => FX; refine name_cE (c := L + 2) (o := ob') (by kernel_rfl) (by kernel_rfl) (by with_unfolding_all rfl) (FX.keep _ _ hB1) hob' (by decide +kernel) ?_)
        | ((with_reducible show wpAny _ _ (callWith _ (Value.ref 145) _ _ _) _ _ _); refine cw_def (o := o145L w.params) (by kernel_rfl) rfl ?_ (by rfl))
        | ((with_reducible show Up _ _ ∧ _); rename Fr _ _ _ _ => FX; refine ⟨fun b o e => FX.keep _ _ (U₃ _ _ e), ?_⟩)
        | ((with_reducible show wpAny _ _ (subscriptTail _ _ (Value.ref _) (Value.int _ _)) _ _ _); rename Fr _ _ _ _ => FX; first
            | refine item_int (n := κ) ⟨_, FX.keep _ _ hB3, rfl, _, rfl⟩ rfl (by (clear hFl2 hle hi3 hll hXz hXl hjb hr8 hr4 hxc hxe hi hlf hcl hd; lia)) hitκ ?_ (by with_unfolding_all rfl)
            | refine item_tupleT (l := [.int ((room : Nat) : Int) t1, .str ⟨el.toArray⟩ t2]) (j := 0) ⟨_, FX.keep _ _ hB4, rfl, 0, rfl⟩ (by decide) (by decide) (by rfl) (by rfl) ?_ (by with_unfolding_all rfl))
        | ((fail_if_success (with_reducible show wpAny _ _ (call (Value.ref _) _) _ _ _)); (fail_if_success (with_reducible show wpAny _ _ (subscriptTail _ _ (Value.ref _) (Value.int _ _)) _ _ _)); walk1; try dsimp only)
        | fail "no")
      rename Fr _ _ _ _ => FX
      rename News _ _ _ _ => NX
      refine wpAny_mono (bare_ok (s := { heap := s₃.heap, gens := s₃.gens, drawn := s₃.drawn, toks := s₃.toks + 1, os := s₃.os }) (fun b o e => FX.keep _ _ (U₃ _ _ e)) hd (by exact hA) x room _ _ hr4 hr8 (by (clear hFl2 hi3 hll hXz hXl hjb hr8 hr4 hxc hxe hκ3 hκ2 hi hlf hcl hsl hd; lia)) (by (clear hi3 hll hXz hXl hjb hr8 hr4 hxc hxe hκ3 hκ2 hi hlf hcl hsl hd; lia))) ?_ (fun _ _ (x : False) => x.elim)
      rintro v ⟨h₉, g₉, d₉, k₉, os₉⟩ ⟨hv9, G⟩
      obtain ⟨tv, rfl⟩ := tell_str hv9
      exact ⟨[], _, ⟨rfl, _, by rw [hxi]⟩, fr_grow FX G.keep, news_grow NX G.keep, (by intro p hp; cases hp), G.gens.trans hg₄, G.os.trans ho₄⟩
    · intro D s' yo k₃ hlen hyo F' N' hg' ho'
      dsimp only at F' hg' ho'
      rw [own_nil hyo (fun _ _ _ _ h => h.1)] at N'
      rw [hll] at hlen
      have hS : ValsAre 0 (yo.map (·.1)) xs := strs_by yo _ hlen fun j p hj => by
        obtain ⟨v, _, _, t, e⟩ := hyo j p hj
        exact ⟨t, e⟩
      generalize (yo.map (·.1)) = ys at hS N'
      obtain ⟨h₅, g₅, d₅, k₅, o₅⟩ := s'
      dsimp only at F' N' hg' ho' ⊢
      have hxf : xs.flatten.length + xs.length * 1 ≤ 16777216 := by
        have key : ∀ zs : List (List Nat), (∀ z ∈ zs, z.length ≤ 648) → zs.flatten.length ≤ zs.length * 648 := by
          intro zs
          induction zs with
          | nil => intro _; simp
          | cons z zs ih =>
            intro h
            have h1 := ih fun q hq => h q (.tail _ hq)
            have h2 := h z (.head _)
            rw [List.flatten_cons, List.length_append, List.length_cons, Nat.succ_mul]
            (clear ih hlen hll hXz hXl hjb hr8 hr4 hxc hxe hκ3 hκ2 hi hlf hcl hsl hd; lia)
        have := key xs hxl
        (clear hXz hXl hjb hr8 hr4 hxe hκ3 hκ2 hi hlf hcl hsl hd; lia)
      repeat' (first
        | ((with_reducible show wpAny _ _ (eval (PySem.Expr.Name _ _) _) _ _ _); (first | ((with_reducible show wpAny _ _ (eval (PySem.Expr.Name (PySem.Str.ofString "_law_bare") _) _) _ _ _); refine name_gE (by assumption) (by assumption) (by kernel_rfl) (by kernel_rfl) (by rfl) (g_bare _) (by decide +kernel) ?_) | ((with_reducible show wpAny _ _ (eval (PySem.Expr.Name (PySem.Str.ofString "range") _) _) _ _ _); refine name_bE (by assumption) (by assumption) (by kernel_rfl) (by kernel_rfl) (by rfl) (by rfl) (g_range _) (b_range _) (by decide +kernel) ?_) | ((with_reducible show wpAny _ _ (eval (PySem.Expr.Name (PySem.Str.ofString "len") _) _) _ _ _); refine name_bE (by assumption) (by assumption) (by kernel_rfl) (by kernel_rfl) (by rfl) (by rfl) (g_len _) (b_len _) (by decide +kernel) ?_) | ((with_reducible show wpAny _ _ (eval (PySem.Expr.Name _ _) _) _ _ _); refine name_lE (by assumption) (by kernel_rfl) (by kernel_rfl) (by first | assumption | with_unfolding_all rfl) (by decide +kernel) ?_)); try dsimp only)
        | ((with_reducible show wpAny _ _ (storeName (envOfC _ _ _ _ _) _ _) _ _ _); refine stLocN (by assumption) (by assumption) ?_ (by kernel_rfl) (by kernel_rfl); intro _ _ _; try dsimp only)
        | ((with_reducible show wpAny _ _ (call (Value.builtin "str.join") _) _ _ _); rename News _ _ _ _ => NX; refine join_list (D := D) (items := ys.toArray) ⟨_, (NX (D, oL ys.toArray k₃) (by simp)).1, rfl, _, rfl⟩ (vals_str hS) (by rw [len_map, List.length_map]; exact hxf) ?_; intro _ _; rw [joinE_txt [10] xs]; try dsimp only)
        | (walk1; try dsimp only)
        | fail "no")
      rename Fr _ _ _ _ => FQ
      rename News _ _ _ _ => NQ
      refine ⟨.inl rfl, _, (L + 2, ob') :: (L + 1, oc) :: (SV, oL its.toArray k) :: tups, FQ, ?_, ?_, ?_, ?_, ⟨_, by with_unfolding_all rfl⟩, ⟨_, by with_unfolding_all rfl⟩, ⟨_, by with_unfolding_all rfl⟩, _, _, hob', rfl⟩
      · intro p hp
        exact NQ p (by simp only [List.mem_append, List.mem_cons, List.not_mem_nil, or_false, false_or] at hp ⊢; exact .inr (.inr hp))
      · intro p hp
        rcases List.mem_cons.mp hp with rfl | hp
        · exact hnI (L + 2, ob) (.head _)
        · exact hnI p (.tail _ hp)
      · exact hg'.trans hg₂
      · exact ho'.trans ho₂
  · rintro ⟨h₂, g₂, d₂, k₂, os₂⟩ m' news' F' N' hg' ho' ⟨⟨tt, q1⟩, ⟨tw, q2⟩, ⟨t, q3⟩, ob, v, hob, rfl⟩
    rw [Nat.sub_self, List.take_zero] at q3
    have hj0 : mailS (spl (mail0 cs)) [] = spl (mail0 cs) := rfl
    rw [hj0, join0 h256] at q3
    dsimp only at F' N' hg' ho' ⊢
    have F'' := fr_upd (fr_upd (fr_upd F' q1) (x := S "word") (by with_unfolding_all exact q2)) (x := S "mail") (by with_unfolding_all exact q3)
    clear F' N'
    have he10 : PySem.Str.ofString "\n" = ⟨[10].toArray⟩ := by decide +kernel
    have he13 : PySem.Str.ofString "\r" = ⟨[13].toArray⟩ := by decide +kernel
    have he1310 : PySem.Str.ofString "\r\n" = ⟨[13, 10].toArray⟩ := by decide +kernel
    have hr2 : (rep2 cs).length ≤ 18 := by
      have key : ∀ (n : Nat) (l : List Nat), l.length ≤ n → (rep2 l).length ≤ l.length := by
        intro n
        induction n with
        | zero => intro l h; have : l = [] := List.eq_nil_of_length_eq_zero (by (clear hrg hlf hlz hcl hsl hln hd; lia)); subst this; simp [rep2]
        | succ n ih =>
          intro l h
          cases l with
          | nil => simp [rep2]
          | cons c l =>
            by_cases h2 : c = 13 ∧ ∃ r', l = 10 :: r'
            · obtain ⟨rfl, r', rfl⟩ := h2
              rw [rep2_two]
              have := ih r' (by simp at h; (clear hrg hlf hlz hcl hsl hln hd; lia))
              simp only [List.length_cons]; (clear h hrg hlf hlz hcl hsl hln hd; lia)
            · rw [rep2_one h2]
              have := ih l (by simpa using h)
              simp only [List.length_cons]; (clear h2 h hrg hlf hlz hcl hsl hln hd; lia)
      have := key cs.length cs (Nat.le_refl _)
      (clear hrg hlf hlz hsl hln hd; lia)
    have hwl : (wordL cs).length ≤ 100 := by
      have h3 := flat_len hdrS hdrS_len cs
      unfold wordL
      simp only [List.length_append, List.length_cons, List.length_nil]
      (clear hr2 hrg hlf hlz hsl hln hd; lia)
    have hbe : ((⟨(wordL cs ++ [10] ++ (rep2 cs).map lfN).toArray⟩ : PySem.Str) == ⟨(wordL cs ++ [10] ++ (rep2 cs).map lfN).toArray⟩) = true := by simp
    have hcz : (⟨cs.toArray⟩ : PySem.Str).length ≤ 1048576 := by show cs.toArray.size ≤ _; rw [List.size_toArray]; (clear hwl hr2 hrg hlf hlz hsl hln hd; lia)
    have hrz : (⟨(rep2 cs).toArray⟩ : PySem.Str).length ≤ 1048576 := by show (rep2 cs).toArray.size ≤ _; rw [List.size_toArray]; (clear hcz hwl hrg hlf hlz hcl hsl hln hd; lia)
    repeat' (first
      | ((with_reducible show wpAny _ _ (eval (PySem.Expr.Name _ _) _) _ _ _); (first | ((with_reducible show wpAny _ _ (eval (PySem.Expr.Name (PySem.Str.ofString "_law_bare") _) _) _ _ _); refine name_gE (by assumption) (by assumption) (by kernel_rfl) (by kernel_rfl) (by rfl) (g_bare _) (by decide +kernel) ?_) | ((with_reducible show wpAny _ _ (eval (PySem.Expr.Name (PySem.Str.ofString "range") _) _) _ _ _); refine name_bE (by assumption) (by assumption) (by kernel_rfl) (by kernel_rfl) (by rfl) (by rfl) (g_range _) (b_range _) (by decide +kernel) ?_) | ((with_reducible show wpAny _ _ (eval (PySem.Expr.Name (PySem.Str.ofString "len") _) _) _ _ _); refine name_bE (by assumption) (by assumption) (by kernel_rfl) (by kernel_rfl) (by rfl) (by rfl) (g_len _) (b_len _) (by decide +kernel) ?_) | ((with_reducible show wpAny _ _ (eval (PySem.Expr.Name _ _) _) _ _ _); refine name_lE (by assumption) (by kernel_rfl) (by kernel_rfl) (by first | assumption | with_unfolding_all rfl) (by decide +kernel) ?_)); try dsimp only)
      | ((fail_if_success (with_reducible show wpAny _ _ (binaryOp Operator.Add (Value.str _ _) (Value.str _ _)) _ _ _)); walk1; try dsimp only)
      | fail "no")
    rw [he10]
    refine wpAny_with_toks (n := 1) ?hx1 (badd_l ?hx2 ?_)
    case hx1 => exact Nat.succ_le_succ (Nat.zero_le _)
    case hx2 => simp only [List.length_append, List.length_cons, List.length_nil, List.length_map]; (clear hrz hcz hr2 hrg hlf hlz hcl hsl hln hd; lia)
    intro _ _ hk1
    dsimp only at hk1 ⊢
    repeat' (first
      | ((with_reducible show wpAny _ _ (eval (PySem.Expr.Name _ _) _) _ _ _); (first | ((with_reducible show wpAny _ _ (eval (PySem.Expr.Name (PySem.Str.ofString "_law_bare") _) _) _ _ _); refine name_gE (by assumption) (by assumption) (by kernel_rfl) (by kernel_rfl) (by rfl) (g_bare _) (by decide +kernel) ?_) | ((with_reducible show wpAny _ _ (eval (PySem.Expr.Name (PySem.Str.ofString "range") _) _) _ _ _); refine name_bE (by assumption) (by assumption) (by kernel_rfl) (by kernel_rfl) (by rfl) (by rfl) (g_range _) (b_range _) (by decide +kernel) ?_) | ((with_reducible show wpAny _ _ (eval (PySem.Expr.Name (PySem.Str.ofString "len") _) _) _ _ _); refine name_bE (by assumption) (by assumption) (by kernel_rfl) (by kernel_rfl) (by rfl) (by rfl) (g_len _) (b_len _) (by decide +kernel) ?_) | ((with_reducible show wpAny _ _ (eval (PySem.Expr.Name _ _) _) _ _ _); refine name_lE (by assumption) (by kernel_rfl) (by kernel_rfl) (by first | assumption | with_unfolding_all rfl) (by decide +kernel) ?_)); try dsimp only)
      | ((fail_if_success (with_reducible show wpAny _ _ (call (Value.builtin "str.replace") _) _ _ _)); walk1; try dsimp only)
      | fail "no")
    rw [he1310]
    refine wpAny_with_toks (n := 1) ?hx1 (SC.replaceW ?hx3 ?hx4 ?hx5 (by decide +kernel) hcz (by decide) ?_)
    case hx1 => exact Nat.succ_le_succ (Nat.zero_le _)
    case hx3 => exact Nat.ne_of_gt hk1
    case hx4 => exact Nat.succ_ne_zero _
    case hx5 => exact Nat.ne_of_lt (Nat.lt_succ_self _)
    clear hk1
    intro _ _ hk1
    rw [repl_crlf]
    dsimp only at hk1 ⊢
    repeat' (first
      | ((with_reducible show wpAny _ _ (eval (PySem.Expr.Name _ _) _) _ _ _); (first | ((with_reducible show wpAny _ _ (eval (PySem.Expr.Name (PySem.Str.ofString "_law_bare") _) _) _ _ _); refine name_gE (by assumption) (by assumption) (by kernel_rfl) (by kernel_rfl) (by rfl) (g_bare _) (by decide +kernel) ?_) | ((with_reducible show wpAny _ _ (eval (PySem.Expr.Name (PySem.Str.ofString "range") _) _) _ _ _); refine name_bE (by assumption) (by assumption) (by kernel_rfl) (by kernel_rfl) (by rfl) (by rfl) (g_range _) (b_range _) (by decide +kernel) ?_) | ((with_reducible show wpAny _ _ (eval (PySem.Expr.Name (PySem.Str.ofString "len") _) _) _ _ _); refine name_bE (by assumption) (by assumption) (by kernel_rfl) (by kernel_rfl) (by rfl) (by rfl) (g_len _) (b_len _) (by decide +kernel) ?_) | ((with_reducible show wpAny _ _ (eval (PySem.Expr.Name _ _) _) _ _ _); refine name_lE (by assumption) (by kernel_rfl) (by kernel_rfl) (by first | assumption | with_unfolding_all rfl) (by decide +kernel) ?_)); try dsimp only)
      | ((fail_if_success (with_reducible show wpAny _ _ (call (Value.builtin "str.replace") _) _ _ _)); walk1; try dsimp only)
      | fail "no")
    rw [he13]
    refine SC.replaceW ?hx3 ?hx4 ?hx5 (by decide +kernel) hrz (by decide) ?_
    case hx3 => exact Nat.ne_of_gt hk1
    case hx4 => exact Nat.succ_ne_zero _
    case hx5 => exact Nat.ne_of_lt (Nat.lt_succ_self _)
    intro _ _
    rw [repl_cr]
    dsimp only
    repeat' (first
      | ((with_reducible show wpAny _ _ (eval (PySem.Expr.Name _ _) _) _ _ _); (first | ((with_reducible show wpAny _ _ (eval (PySem.Expr.Name (PySem.Str.ofString "_law_bare") _) _) _ _ _); refine name_gE (by assumption) (by assumption) (by kernel_rfl) (by kernel_rfl) (by rfl) (g_bare _) (by decide +kernel) ?_) | ((with_reducible show wpAny _ _ (eval (PySem.Expr.Name (PySem.Str.ofString "range") _) _) _ _ _); refine name_bE (by assumption) (by assumption) (by kernel_rfl) (by kernel_rfl) (by rfl) (by rfl) (g_range _) (b_range _) (by decide +kernel) ?_) | ((with_reducible show wpAny _ _ (eval (PySem.Expr.Name (PySem.Str.ofString "len") _) _) _ _ _); refine name_bE (by assumption) (by assumption) (by kernel_rfl) (by kernel_rfl) (by rfl) (by rfl) (g_len _) (b_len _) (by decide +kernel) ?_) | ((with_reducible show wpAny _ _ (eval (PySem.Expr.Name _ _) _) _ _ _); refine name_lE (by assumption) (by kernel_rfl) (by kernel_rfl) (by first | assumption | with_unfolding_all rfl) (by decide +kernel) ?_)); try dsimp only)
      | ((with_reducible show wpAny _ _ (binaryOp Operator.Add (Value.str _ _) (Value.str _ _)) _ _ _); refine badd_l (by simp only [List.length_append, List.length_cons, List.length_nil, List.length_map]; (clear hk1 hrz hcz hrg hlf hlz hcl hsl hln hd; lia)) ?_; intro _ _; try dsimp only)
      | (walk1; try dsimp only)
      | fail "no")
    rw [hbe]
    exact K _ _ (by assumption) hg' ho'
end Mine
end
section
namespace Mine
theorem len63 {R : WRecords} {xs : List WData} (h : WTm.holds R (OpenLaw.pre rw0) { args := [.list xs] } = true) : xs.length ≤ 63 := by
  by_cases hx : xs.length ≤ 63
  · exact hx
  · exfalso
    have e1 : WTm.value R (.not (.lt (.lit (.int 63)) (.len (.arg 0)))) { args := [.list xs] } = some (.bool false) := by
      have h1 : WTm.value R (.len (.arg 0)) { args := [.list xs] } = some (.int xs.length) := rfl
      have h2 : WTm.value R (.lt (.lit (.int 63)) (.len (.arg 0))) { args := [.list xs] } = some (.bool true) := by
        show (less? (WData.int 63) (WData.int (xs.length : Int))).map WData.bool = _
        have : less? (WData.int 63) (WData.int (xs.length : Int)) = some true := by
          show some (decide ((63 : Int) < (xs.length : Int))) = some true
          rw [decide_eq_true (by lia)]
        rw [this]; rfl
      show (match WTm.value R (.lt (.lit (.int 63)) (.len (.arg 0))) { args := [.list xs] } with
        | some (.bool b) => some (WData.bool (!b))
        | _ => none) = _
      rw [h2]; rfl
    have e2 : WTm.value R (OpenLaw.pre rw0) { args := [.list xs] } = some (.bool false) := by
      show (match WTm.value R (.not (.lt (.lit (.int 63)) (.len (.arg 0)))) { args := [.list xs] } with
        | some (.bool false) => some (WData.bool false)
        | some (.bool true) => (match WTm.value R (.lit (.bool true)) { args := [.list xs] } with
          | some (.bool x) => some (.bool x)
          | _ => none)
        | _ => none) = _
      rw [e1]
    unfold WTm.holds at h
    rw [e2] at h
    cases h
theorem reads_len {R : WRecords} {cl : PySem.Str → Option Addr} {h : Heap} : ∀ {vs : List Value} {ds : List WData} {as : List Addr}, ReadsAllW R cl h vs ds as → vs.length = ds.length
  | _, _, _, .nil => rfl
  | _, _, _, .cons _ tl => by simp [reads_len tl]
/-- what is to be walked; the list has at most 63 items -/
noncomputable def Walk63 : Prop := ∀ (w : World) (s : Shared) (a : Addr) (vs : List Value) (ns : List Int) (n : Nat) (o : Obj), Up w s.heap → s.gens = #[] → s.heap.get? a = some o → o.cls = .type "list" → o.data = .seq vs.toArray n → IntsAre vs ns → vs.length ≤ 63 →
  wpAny (model pw w) callerA (call (.ref 150) [.ref a]) (fun v s' => v = .bool true ∧ Keeps s.heap s'.heap ∧ s'.os = s.os ∧ s'.gens = #[]) (fun _ _ => False) s
theorem head63 (W : Walk63) : PySem.Challenge.rw_ny0199_01.Holds := by
  w_on
  refine holds_law (by kernel_rfl) fun said => ?_
  have hw : rw0.row.toRowW.promised := ⟨[.list []], by decide +kernel, by decide +kernel⟩
  refine ⟨by assumption, hw, ⟨⟨rfl, rfl, rfl, rfl, rfl, by decide +kernel⟩, by decide +kernel, rfl⟩, hw.witness, fun w => ?_⟩
  obtain ⟨sa, A, hf⟩ := opened w
  refine ⟨⟨sa, A⟩, fun s' hs' => ?_⟩
  obtain rfl : s' = sa := AfterImport.unique hs' A
  refine ⟨_, hf, rfl, s1 w { stdin := #[] }, topRan w _, ?_, fun x hx => (nomatch hx), fun x hx => (nomatch hx), ?_⟩
  · intro n hn
    have hn' : n = rw0.row.name := by
      rw [if_pos (show rw0.row.pinned = true from rfl)] at hn
      exact List.mem_singleton.mp hn
    subst hn'
    refine ⟨150, o150L w.params, _, fArgs (stm 35), fBody (stm 35), fScope (stm 35), k_law _, k_lawo _, rfl, by kernel_rfl, rfl, rfl, rfl, rfl, rfl, rfl, rfl, rfl, ?_⟩
    exact ⟨.inl ⟨by kernel_rfl, rfl⟩, [], by kernel_rfl, .inl ⟨rfl, rfl⟩⟩
  · refine ClaimW.callFrom_of_specG (c := rw0.row.toRowW.claim) (s := s1 w { stdin := #[] }) ⟨rfl, rfl⟩ rfl fun args hpre hlay ord hord => ?_
    obtain ⟨⟨vs, s₁⟩, hlaid⟩ := Option.isSome_iff_exists.mp (lay_ok w.params ord (classAt (s1 w { stdin := #[] }).heap) args (s1 w { stdin := #[] }) (pre_splitW hpre).1)
    have keeps := layAllW_keeps _ _ _ hlaid
    have hal := layAllW_rest _ _ _ hlaid
    obtain ⟨as, hrd, hin, hold⟩ := reads_layAllW hord _ _ _ hlaid hlay s₁.heap (fun _ _ e => e)
    have L : Laid rw0.row.toRowW.records w (s1 w { stdin := #[] }) s₁ args vs as := ⟨⟨ord, hord, hlaid⟩, hrd, hin, hold, keeps, hal.1.trans rfl, hal.2.2.1⟩
    refine ⟨vs, s₁, hlaid, ?_⟩
    have U : Up w s₁.heap := keeps
    obtain ⟨d, r, rfl, h1, h2⟩ := hasAllW_cons (pre_splitW hpre).1
    obtain rfl := hasAllW_nil h2
    obtain ⟨k5, _⟩ := Bool.and_eq_true_iff.mp (by decide +kernel : (frees rw0.row.toRowW && rw0.row.toRowW.within.isEmpty) = true)
    obtain ⟨hsame, hu, ha, hap, hm⟩ := frees_parts k5
    have hi := ident_freeW hu ha hap
    obtain ⟨xs, rfl, hxs⟩ := hasW_list h1
    cases hrd with
    | cons hd tl =>
    cases tl
    cases hd with
    | list h3 h4 h5 h6 =>
    rename_i a o vs n as'
    obtain ⟨ns, hns⟩ := ints_of h6 hxs
    obtain ⟨mg, hg, hlaw⟩ := k_ns w U
    refine wpAny_bind (wpAny_nsGet hg ?_)
    rw [show mg Challenge.rw_ny0199_01.row.name = some (.ref 150) from hlaw]
    refine wpAny_bind (wpAny_mono (W w s₁ a vs.toList ns n o U L.gens h3 h4 h5 hns (by rw [reads_len h6]; exact len63 (pre_splitW hpre).2)) (fun v s' ⟨e, hk, hos, hg'⟩ => ?_) fun _ _ x => x.elim)
    subst e
    have g : GoodWG rw0.row.toRowW.claim (classAt (s1 w { stdin := #[] }).heap) (ExcName.means (s1 w { stdin := #[] }).heap) [.list xs] s₁ (.ok (.ret (.bool true))) s' :=
      GoodW.toG ⟨.inl ⟨_, _, _, rfl, fun cls => rfl, .bool true, by kernel_rfl, unshared_nil⟩, hk, hos, hg'⟩
    have z := g.laid (c := rw0.row.toRowW.claim) hsame rfl hi L
    exact wpAny_pure ⟨_, rfl, z.1, z.2.1, z.2.2, fun q => (nomatch q)⟩
end Mine
end
section
namespace Mine
theorem hdrS_lt {c : Nat} (h : c < 256) : ∀ k ∈ (hdrS c).cps.toList, k < 256 := by
  intro k hk
  unfold hdrS at hk
  split at hk
  · rename_i q
    rw [List.mem_singleton.mp hk]; exact h
  · split at hk
    · rw [List.mem_singleton.mp hk]; decide
    · have h1 := hexd_hex (c / 16) (by lia)
      have h2 := hexd_hex (c % 16) (by lia)
      unfold HexC at h1 h2
      have hk' : k ∈ [61, hexd (c / 16), hexd (c % 16)] := hk
      simp at hk'
      lia
theorem word_lt {cs : List Nat} (h : ∀ c ∈ cs, c < 256) : ∀ k ∈ wordL cs, k < 256 := by
  intro k hk
  unfold wordL at hk
  rcases List.mem_append.mp hk with hk | hk
  · rcases List.mem_append.mp hk with hk | hk
    · simp at hk; lia
    · obtain ⟨c, hc, hk⟩ := List.mem_flatMap.mp hk
      exact hdrS_lt (h c hc) k hk
  · simp at hk; lia
theorem jm_zero {cs : List Nat} (h : ∀ c ∈ cs, c < 256) (hcl : cs.length ≤ 18) (sv : List (Nat × List Nat)) : JM cs sv 0 (mail0 cs) := by
  refine ⟨rfl, fun q => absurd q (Nat.lt_irrefl 0), ?_, ?_, ?_, ?_⟩
  · have h3 := flat_len hdrS hdrS_len cs
    unfold mail0 wordL
    simp only [List.length_append, List.length_cons, List.length_nil]
    lia
  · intro c hc
    unfold mail0 at hc
    rcases List.mem_append.mp hc with hc | hc
    · rcases List.mem_append.mp hc with hc | hc
      · exact word_lt h c hc
      · rw [List.mem_singleton.mp hc]; decide
    · exact h c hc
  · rw [lines0 h, List.length_cons]
    have := List.length_pos_iff.mpr (spl_ne cs)
    lia
  · unfold mail0; simp
theorem walk63 : Walk63 := by
  intro w s a vs ns n o U hg ho hc hdt hi hvl
  have hA : (callerA.deeper (envL s.heap.objs.size)).handled = none := rfl
  have hd : (callerA.deeper (envL s.heap.objs.size)).depth + 4 < recursionLimit := by
    show callerA.depth + 1 + 4 < recursionLimit
    decide +kernel
  have hu : (callerA.deeper (envL s.heap.objs.size)).units + 64 < cLine := by
    have e : (callerA.deeper (envL 0)).units + 64 < cLine := by decide +kernel
    exact e
  refine law_enter U (by decide +kernel) a fun h₁ tk m o1 o2 F hm N d1 d2 => ?_
  generalize (callerA.deeper (envL s.heap.objs.size)) = A at hA hd hu ⊢
  have hlt := octs_lt ns
  have hol := octs_len ns
  refine law_one hA U F hm N ho hc hdt hi hvl ?_
  intro s₁ m₁ O osv c F₁ e1 e2 N₁ hI hg₁ ho₁
  refine law_two hA hu U F₁ e1 e2 N₁ ho hc hdt hi hvl d1 ?_
  intro s₂ m₂ SV its k tups oc F₂ e3 hoc N₂ hln hits hcls hg₂ ho₂
  have hsl := srvs_len ns
  have hsv := srvs_ok ns
  refine law_three (c := c) (news := (SV, oL its.toArray k) :: (s.heap.objs.size + 1, oc) :: (s.heap.objs.size + 2, o2) :: tups) hA hd U F₂ e3 (news_sub N₂ (fun p hp => ?_)) hI ?_
  · simp only [List.mem_cons] at hp ⊢
    rcases hp with q | q | q | q | q
    · exact .inr (.inr (.inl q))
    · exact .inl q
    · exact .inr (.inl q)
    · exact .inr (.inr (.inr (.inl q)))
    · exact .inr (.inr (.inr (.inr q)))
  intro s₃ m₃ F₃ e4 e5 e6 N₃ hg₃ ho₃
  have hne2 : ∀ p ∈ (s.heap.objs.size + 1, oc) :: (SV, oL its.toArray k) :: tups, p.1 ≠ s.heap.objs.size + 2 := by
    intro p hp q
    have n2 := N₃ (s.heap.objs.size + 2, o2) (by simp)
    have np := N₃ p (by
      simp only [List.mem_cons] at hp ⊢
      rcases hp with z | z | z
      · exact .inr (.inl z)
      · exact .inl z
      · exact .inr (.inr (.inr z)))
    have e : p.2 = o2 := by
      have h1 := np.1
      rw [q] at h1
      exact Option.some.inj (h1.symm.trans n2.1)
    rcases List.mem_cons.mp hp with z | hp
    · rw [z] at q; exact absurd (Nat.succ.inj q).symm (Nat.succ_ne_self _)
    · have hseq : ∃ a k, p.2.data = .seq a k := by
        rcases List.mem_cons.mp hp with z | hp
        · rw [z]; exact ⟨_, _, rfl⟩
        · exact hcls p hp
      obtain ⟨a, k, z⟩ := hseq
      rw [e, d2] at z; cases z
  refine law_four hA hd U F₃ hoc N₃ hln hsl.2 hits hsv e4 e5 e6 (jm_zero hlt hol _) ?_
  rintro s₄ m₄ news₄ F₄ N₄ ⟨e7, e8, rfl, mail, tmail, e9, j1, j2, j3, j4, j5, j6⟩ hg₄ ho₄
  rw [List.take_length] at j1 j2
  have j2 := j2 hsl.1
  have hw := word_ok hlt
  have hml : mailS (spl (mail0 (octs ns))) (srvs ns) = wordL (octs ns) :: mailS (spl (octs ns)) (srvs ns) := by
    rw [lines0 hlt, mailS_cons (fun c hc => (hw c hc).1)]
  have hTl : mail.length ≤ 1000 := by
    have h2 : 2 ^ (srvs ns).length ≤ 2 ^ 3 := Nat.pow_le_pow_right (by decide) hsl.2
    lia
  rw [j2, hml] at e9 hTl
  refine law_five (T := mailS (spl (octs ns)) (srvs ns)) hA hd U F₄ N₄ hlt hol (mailS_noNl _ _ (spl_noNl _ _ (Nat.le_refl _))) hTl e7 e8 ⟨_, e9⟩ ?_
  intro s₅ m₅ F₅ e10 e11 e12 N₅ hg₅ ho₅
  rw [← hml] at e12
  refine law_six hA hd U F₅ hoc d2 (news_sub N₅ (fun p hp => ?_)) hne2 hln hsl.2 hits hsv hlt hol e10 e11 e12 ?_
  · simp only [List.mem_cons] at hp ⊢
    rcases hp with q | q | q | q
    · exact .inr (.inr (.inl q))
    · exact .inr (.inl q)
    · exact .inl q
    · exact .inr (.inr (.inr q))
  intro s₆ m₆ F₆ hg₆ ho₆
  exact ⟨rfl, F₆.keep, ho₆.trans (ho₅.trans (ho₄.trans (ho₃.trans (ho₂.trans ho₁)))), (hg₆.trans (hg₅.trans (hg₄.trans (hg₃.trans (hg₂.trans hg₁))))).trans hg⟩
theorem holds : PySem.Challenge.rw_ny0199_01.Holds := head63 walk63
end Mine
end
set_option maxRecDepth 100000 in
theorem PySem.Challenge.cw_ny0199_01_holds : PySem.Challenge.rw_ny0199_01.Holds := by
  exact Mine.holds
