import PyProof.Rows.All
import Wide.All
import OpenK.AllK
import Wide.FinOn
import Lean
import PySem.Challenge.RW_pu0015_02
set_option Elab.async false
section
set_option linter.unusedVariables false
namespace Mine
/-! elimination of a whole pattern by one lemma (smaller proof terms than nested cases); the syntax constants of rfl and decide, once for all optional proofs -/
def autoR : Lean.Syntax := .node .none `Lean.Parser.Tactic.tacticSeq #[.node .none `Lean.Parser.Tactic.tacticSeq1Indented #[.node .none `null #[.node .none `Lean.Parser.Tactic.tacticRfl #[.atom .none "rfl"]]]]
def autoD : Lean.Syntax := .node .none `Lean.Parser.Tactic.tacticSeq #[.node .none `Lean.Parser.Tactic.tacticSeq1Indented #[.node .none `null #[.node .none `Lean.Parser.Tactic.decide #[.atom .none "decide", .node .none `Lean.Parser.Tactic.optConfig #[.node .none `null #[]]]]]]
@[elab_as_elim] theorem rwl {α : Type} {b : α} {P : α → Prop} {a : α} (h : a = b) (k : P b) : P a := h ▸ k
theorem el0b {p1 p2 : Prop} {G : Prop} (h : p1 ∧ p2) (k : p1 → p2 → G) : G := k h.1 h.2
theorem el0c {p1 p2 p3 : Prop} {G : Prop} (h : p1 ∧ p2 ∧ p3) (k : p1 → p2 → p3 → G) : G := k h.1 h.2.1 h.2.2
theorem el0d {p1 p2 p3 p4 : Prop} {G : Prop} (h : p1 ∧ p2 ∧ p3 ∧ p4) (k : p1 → p2 → p3 → p4 → G) : G := k h.1 h.2.1 h.2.2.1 h.2.2.2
theorem el1a {α : Type} {p1 : α → Prop} {G : Prop} (h : ∃ a, p1 a) (k : ∀ a, p1 a → G) : G := h.elim fun a ha => k a ha
theorem el1b {α : Type} {p1 p2 : α → Prop} {G : Prop} (h : ∃ a, p1 a ∧ p2 a) (k : ∀ a, p1 a → p2 a → G) : G := h.elim fun a ha => k a ha.1 ha.2
theorem el1c {α : Type} {p1 p2 p3 : α → Prop} {G : Prop} (h : ∃ a, p1 a ∧ p2 a ∧ p3 a) (k : ∀ a, p1 a → p2 a → p3 a → G) : G := h.elim fun a ha => k a ha.1 ha.2.1 ha.2.2
theorem el1d {α : Type} {p1 p2 p3 p4 : α → Prop} {G : Prop} (h : ∃ a, p1 a ∧ p2 a ∧ p3 a ∧ p4 a) (k : ∀ a, p1 a → p2 a → p3 a → p4 a → G) : G := h.elim fun a ha => k a ha.1 ha.2.1 ha.2.2.1 ha.2.2.2
theorem el1e {α : Type} {p1 p2 p3 p4 p5 : α → Prop} {G : Prop} (h : ∃ a, p1 a ∧ p2 a ∧ p3 a ∧ p4 a ∧ p5 a) (k : ∀ a, p1 a → p2 a → p3 a → p4 a → p5 a → G) : G := h.elim fun a ha => k a ha.1 ha.2.1 ha.2.2.1 ha.2.2.2.1 ha.2.2.2.2
theorem el1g {α : Type} {p1 p2 p3 p4 p5 p6 p7 : α → Prop} {G : Prop} (h : ∃ a, p1 a ∧ p2 a ∧ p3 a ∧ p4 a ∧ p5 a ∧ p6 a ∧ p7 a) (k : ∀ a, p1 a → p2 a → p3 a → p4 a → p5 a → p6 a → p7 a → G) : G := h.elim fun a ha => k a ha.1 ha.2.1 ha.2.2.1 ha.2.2.2.1 ha.2.2.2.2.1 ha.2.2.2.2.2.1 ha.2.2.2.2.2.2
theorem el1h {α : Type} {p1 p2 p3 p4 p5 p6 p7 p8 : α → Prop} {G : Prop} (h : ∃ a, p1 a ∧ p2 a ∧ p3 a ∧ p4 a ∧ p5 a ∧ p6 a ∧ p7 a ∧ p8 a) (k : ∀ a, p1 a → p2 a → p3 a → p4 a → p5 a → p6 a → p7 a → p8 a → G) : G := h.elim fun a ha => k a ha.1 ha.2.1 ha.2.2.1 ha.2.2.2.1 ha.2.2.2.2.1 ha.2.2.2.2.2.1 ha.2.2.2.2.2.2.1 ha.2.2.2.2.2.2.2
theorem el2a {α β : Type} {p1 : α → β → Prop} {G : Prop} (h : ∃ a b, p1 a b) (k : ∀ a b, p1 a b → G) : G := h.elim fun a ha => ha.elim fun b hb => k a b hb
theorem el2b {α β : Type} {p1 p2 : α → β → Prop} {G : Prop} (h : ∃ a b, p1 a b ∧ p2 a b) (k : ∀ a b, p1 a b → p2 a b → G) : G := h.elim fun a ha => ha.elim fun b hb => k a b hb.1 hb.2
theorem el2c {α β : Type} {p1 p2 p3 : α → β → Prop} {G : Prop} (h : ∃ a b, p1 a b ∧ p2 a b ∧ p3 a b) (k : ∀ a b, p1 a b → p2 a b → p3 a b → G) : G := h.elim fun a ha => ha.elim fun b hb => k a b hb.1 hb.2.1 hb.2.2
theorem el2d {α β : Type} {p1 p2 p3 p4 : α → β → Prop} {G : Prop} (h : ∃ a b, p1 a b ∧ p2 a b ∧ p3 a b ∧ p4 a b) (k : ∀ a b, p1 a b → p2 a b → p3 a b → p4 a b → G) : G := h.elim fun a ha => ha.elim fun b hb => k a b hb.1 hb.2.1 hb.2.2.1 hb.2.2.2
theorem el2f {α β : Type} {p1 p2 p3 p4 p5 p6 : α → β → Prop} {G : Prop} (h : ∃ a b, p1 a b ∧ p2 a b ∧ p3 a b ∧ p4 a b ∧ p5 a b ∧ p6 a b) (k : ∀ a b, p1 a b → p2 a b → p3 a b → p4 a b → p5 a b → p6 a b → G) : G := h.elim fun a ha => ha.elim fun b hb => k a b hb.1 hb.2.1 hb.2.2.1 hb.2.2.2.1 hb.2.2.2.2.1 hb.2.2.2.2.2
theorem el2g {α β : Type} {p1 p2 p3 p4 p5 p6 p7 : α → β → Prop} {G : Prop} (h : ∃ a b, p1 a b ∧ p2 a b ∧ p3 a b ∧ p4 a b ∧ p5 a b ∧ p6 a b ∧ p7 a b) (k : ∀ a b, p1 a b → p2 a b → p3 a b → p4 a b → p5 a b → p6 a b → p7 a b → G) : G := h.elim fun a ha => ha.elim fun b hb => k a b hb.1 hb.2.1 hb.2.2.1 hb.2.2.2.1 hb.2.2.2.2.1 hb.2.2.2.2.2.1 hb.2.2.2.2.2.2
theorem el2i {α β : Type} {p1 p2 p3 p4 p5 p6 p7 p8 p9 : α → β → Prop} {G : Prop} (h : ∃ a b, p1 a b ∧ p2 a b ∧ p3 a b ∧ p4 a b ∧ p5 a b ∧ p6 a b ∧ p7 a b ∧ p8 a b ∧ p9 a b) (k : ∀ a b, p1 a b → p2 a b → p3 a b → p4 a b → p5 a b → p6 a b → p7 a b → p8 a b → p9 a b → G) : G := h.elim fun a ha => ha.elim fun b hb => k a b hb.1 hb.2.1 hb.2.2.1 hb.2.2.2.1 hb.2.2.2.2.1 hb.2.2.2.2.2.1 hb.2.2.2.2.2.2.1 hb.2.2.2.2.2.2.2.1 hb.2.2.2.2.2.2.2.2
theorem el3b {α β γ : Type} {p1 p2 : α → β → γ → Prop} {G : Prop} (h : ∃ a b c, p1 a b c ∧ p2 a b c) (k : ∀ a b c, p1 a b c → p2 a b c → G) : G := h.elim fun a ha => ha.elim fun b hb => hb.elim fun c hc => k a b c hc.1 hc.2
theorem el3c {α β γ : Type} {p1 p2 p3 : α → β → γ → Prop} {G : Prop} (h : ∃ a b c, p1 a b c ∧ p2 a b c ∧ p3 a b c) (k : ∀ a b c, p1 a b c → p2 a b c → p3 a b c → G) : G := h.elim fun a ha => ha.elim fun b hb => hb.elim fun c hc => k a b c hc.1 hc.2.1 hc.2.2
theorem el3f {α β γ : Type} {p1 p2 p3 p4 p5 p6 : α → β → γ → Prop} {G : Prop} (h : ∃ a b c, p1 a b c ∧ p2 a b c ∧ p3 a b c ∧ p4 a b c ∧ p5 a b c ∧ p6 a b c) (k : ∀ a b c, p1 a b c → p2 a b c → p3 a b c → p4 a b c → p5 a b c → p6 a b c → G) : G := h.elim fun a ha => ha.elim fun b hb => hb.elim fun c hc => k a b c hc.1 hc.2.1 hc.2.2.1 hc.2.2.2.1 hc.2.2.2.2.1 hc.2.2.2.2.2
theorem el4d {α β γ δ : Type} {p1 p2 p3 p4 : α → β → γ → δ → Prop} {G : Prop} (h : ∃ a b c d, p1 a b c d ∧ p2 a b c d ∧ p3 a b c d ∧ p4 a b c d) (k : ∀ a b c d, p1 a b c d → p2 a b c d → p3 a b c d → p4 a b c d → G) : G := h.elim fun a ha => ha.elim fun b hb => hb.elim fun c hc => hc.elim fun d hd => k a b c d hd.1 hd.2.1 hd.2.2.1 hd.2.2.2
theorem el4e {α β γ δ : Type} {p1 p2 p3 p4 p5 : α → β → γ → δ → Prop} {G : Prop} (h : ∃ a b c d, p1 a b c d ∧ p2 a b c d ∧ p3 a b c d ∧ p4 a b c d ∧ p5 a b c d) (k : ∀ a b c d, p1 a b c d → p2 a b c d → p3 a b c d → p4 a b c d → p5 a b c d → G) : G := h.elim fun a ha => ha.elim fun b hb => hb.elim fun c hc => hc.elim fun d hd => k a b c d hd.1 hd.2.1 hd.2.2.1 hd.2.2.2.1 hd.2.2.2.2
theorem el4h {α β γ δ : Type} {p1 p2 p3 p4 p5 p6 p7 p8 : α → β → γ → δ → Prop} {G : Prop} (h : ∃ a b c d, p1 a b c d ∧ p2 a b c d ∧ p3 a b c d ∧ p4 a b c d ∧ p5 a b c d ∧ p6 a b c d ∧ p7 a b c d ∧ p8 a b c d) (k : ∀ a b c d, p1 a b c d → p2 a b c d → p3 a b c d → p4 a b c d → p5 a b c d → p6 a b c d → p7 a b c d → p8 a b c d → G) : G := h.elim fun a ha => ha.elim fun b hb => hb.elim fun c hc => hc.elim fun d hd => k a b c d hd.1 hd.2.1 hd.2.2.1 hd.2.2.2.1 hd.2.2.2.2.1 hd.2.2.2.2.2.1 hd.2.2.2.2.2.2.1 hd.2.2.2.2.2.2.2
theorem el5b {α β γ δ ε : Type} {p1 p2 : α → β → γ → δ → ε → Prop} {G : Prop} (h : ∃ a b c d e, p1 a b c d e ∧ p2 a b c d e) (k : ∀ a b c d e, p1 a b c d e → p2 a b c d e → G) : G := h.elim fun a ha => ha.elim fun b hb => hb.elim fun c hc => hc.elim fun d hd => hd.elim fun e he => k a b c d e he.1 he.2
theorem el5f {α β γ δ ε : Type} {p1 p2 p3 p4 p5 p6 : α → β → γ → δ → ε → Prop} {G : Prop} (h : ∃ a b c d e, p1 a b c d e ∧ p2 a b c d e ∧ p3 a b c d e ∧ p4 a b c d e ∧ p5 a b c d e ∧ p6 a b c d e) (k : ∀ a b c d e, p1 a b c d e → p2 a b c d e → p3 a b c d e → p4 a b c d e → p5 a b c d e → p6 a b c d e → G) : G := h.elim fun a ha => ha.elim fun b hb => hb.elim fun c hc => hc.elim fun d hd => hd.elim fun e he => k a b c d e he.1 he.2.1 he.2.2.1 he.2.2.2.1 he.2.2.2.2.1 he.2.2.2.2.2
end Mine
end
section
open PySem PySem.W PySem.Calls PyProof.Rows
set_option Elab.async false
set_option maxRecDepth 100000
set_option linter.unusedVariables false
namespace Mine
/-! the heap never shrinks -/
theorem runs_size {M : Model} {Γ : Ctx} {p : Pos} {t : Sem Fin} {fs : List Frame} {s s' : Shared} {e : End} (h : Runs M Γ p t fs s e s') : s.heap.objs.size ≤ s'.heap.objs.size := by
  induction h <;> (try simp only [Shared.setGen, Heap.size_push, Heap.size_after_update] at *) <;> omega
theorem returns_size {M : Model} {Γ : Ctx} {p : Pos} {s s' : Shared} {r : Result} (h : Returns M Γ p s r s') : s.heap.objs.size ≤ s'.heap.objs.size := runs_size h
theorem wakes_size {M : Model} {Γ : Ctx} {p : Pos} {g : Nat} {r : Resume} {s s' : Shared} {res : GenResult} (h : Wakes M Γ p g r s res s') : s.heap.objs.size ≤ s'.heap.objs.size := by
  unfold Wakes at h
  split at h
  · exact h.elim
  · split at h
    · (refine Mine.el2d h fun e₁ s₁ hr _ _ hq1 => ?_; try clear h; obtain rfl := hq1); exact (runs_size hr : (s.setGen g .running).heap.objs.size ≤ s₁.heap.objs.size)
    · rw [h.2]; exact Nat.le_refl _
    · rw [h.2]; exact Nat.le_refl _
  · (refine Mine.el2d h fun e₁ s₁ hr _ _ hq2 => ?_; try clear h; obtain rfl := hq2); exact (runs_size hr : (s.setGen g .running).heap.objs.size ≤ s₁.heap.objs.size)
  · rw [h.2]; exact Nat.le_refl _
  · rw [h.2]; exact Nat.le_refl _
theorem wp_size {α : Type} (M : Model) (Γ : Ctx) (n : Nat) (t : Sem α) : ∀ (Q : α → Pos → Shared → Prop) (E : Value → Pos → Shared → Prop) (p : Pos) (s : Shared), n ≤ s.heap.objs.size → Sem.wp M Γ t Q E p s →
    Sem.wp M Γ t (fun a p' s' => n ≤ s'.heap.objs.size ∧ Q a p' s') (fun e p' s' => n ≤ s'.heap.objs.size ∧ E e p' s') p s := by
  induction t with
  | pure a => intro Q E p s hn h; exact ⟨hn, h⟩
  | raise e => intro Q E p s hn h; exact ⟨hn, h⟩
  | unsupported _ => intro Q E p s _ h; exact h
  | finish _ => intro Q E p s _ h; exact h
  | rule _ k ih => intro Q E p s hn h; exact ih () Q E p s hn h
  | «at» p' k ih => intro Q E p s hn h; exact ih () Q E p' s hn h
  | load a _ k ih => intro Q E p s hn h; refine Mine.el1b h fun o ho h => ?_; exact ⟨o, ho, ih o Q E p s hn h⟩
  | update a _ f k ih => intro Q E p s hn h; exact ⟨h.1, ih () Q E p _ (by show n ≤ (s.heap.update _ _).objs.size; rw [Heap.size_after_update]; exact hn) h.2⟩
  | loadIfAlive a k ih => intro Q E p s hn h; exact ih _ Q E p s hn h
  | point _ k ih => intro Q E p s hn h; exact ih () Q E p s hn h
  | register _ _ => intro Q E p s _ h; exact h
  | alloc o k ih => intro Q E p s hn h; exact ih _ Q E p _ (by show n ≤ (s.heap.push _).objs.size; rw [Heap.size_push]; (solve_by_elim (maxDepth := 3) [Nat.le_of_lt_succ, Nat.lt_succ_of_le, Nat.lt_succ_of_lt, Nat.le_of_lt, Nat.le_succ_of_le, Nat.pos_of_ne_zero, Nat.ne_of_gt, Nat.ne_of_lt, Nat.zero_le, Nat.le_refl, Nat.lt_succ_self, Nat.sub_le, Nat.le_of_not_lt, Nat.lt_of_not_le, Nat.le_trans, Nat.lt_of_lt_of_le, Nat.lt_of_le_of_lt, Nat.le_antisymm])) h
  | fresh k ih => intro Q E p s hn h; exact ih _ Q E p _ hn h
  | ask k ih => intro Q E p s hn h; exact ih _ Q E p s hn h
  | choose src m k ih => intro Q E p s hn h; exact ⟨h.1, ih _ Q E p _ hn h.2⟩
  | os q _ k ih => intro Q E p s hn h; exact ih _ Q E p _ hn h
  | call c hd _ _ k ih => intro Q E p s hn h; refine Mine.el2b h fun r s' hr h => ?_; exact ⟨r, s', hr, ih r Q E p s' (Nat.le_trans hn (returns_size hr)) h⟩
  | handled own k ih => intro Q E p s hn h; exact ih _ Q E p s hn h
  | genState g k ih => intro Q E p s hn h; refine Mine.el1b h fun st hs h => ?_; exact ⟨st, hs, ih _ Q E p s hn h⟩
  | newGen c k ih => intro Q E p s hn h; exact ih _ Q E p _ hn h
  | resume g r _ k ih => intro Q E p s hn h; refine Mine.el2b h fun res s' hw h => ?_; exact ⟨res, s', hw, ih res Q E p s' (Nat.le_trans hn (wakes_size hw)) h⟩
  | yield _ _ _ _ => intro Q E p s _ h; exact h
  | stack k ih => intro Q E p s hn h; exact ih _ Q E p s hn h
  | fork _ _ => intro Q E p s _ h; exact h
  | thread k ih => intro Q E p s hn h; exact ih _ Q E p s hn h
  | await _ _ _ _ _ => intro Q E p s _ h; exact h
theorem with_size {α : Type} {M : Model} {A : Around} {s : Shared} {t : Sem α} {Q : α → Shared → Prop} {E : Value → Shared → Prop}
    (h : wpAny M A t (fun a s' => s.heap.objs.size ≤ s'.heap.objs.size → Q a s') E s) : wpAny M A t Q E s :=
  fun Γ p hΓ => Sem.wp_mono M Γ t (fun a _ s' x => x.2 x.1) (fun e _ s' x => x.2) p s (wp_size M Γ _ t _ _ p s (Nat.le_refl _) (h Γ p hΓ))
end Mine
end
section
open PySem PySem.W PySem.Calls PyProof.Rows
set_option Elab.async false
set_option maxRecDepth 100000
set_option linter.unusedVariables false
namespace Mine

/-! values -/
inductive PV where
  | none | bool (b : Bool) | int (i : Int) | str (x : Str) | list (l : List PV) | tup (l : List PV) | val (v : Value)

mutual
inductive Rep (X : Addr → Prop) (h : Heap) : Value → PV → Prop
  | none : Rep X h .none .none
  | bool (b) : Rep X h (.bool b) (.bool b)
  | int (i t) : Rep X h (.int i t) (.int i)
  | str (x t) : Rep X h (.str x t) (.str x)
  | list {a items l} : ¬ X a → h.IsList a items → Reps X h items.toList l → Rep X h (.ref a) (.list l)
  | tup {a items l} : ¬ X a → h.IsTuple a items → Reps X h items.toList l → Rep X h (.ref a) (.tup l)
  | val (v) : Rep X h v (.val v)
inductive Reps (X : Addr → Prop) (h : Heap) : List Value → List PV → Prop
  | nil : Reps X h [] []
  | cons {v vs p ps} : Rep X h v p → Reps X h vs ps → Reps X h (v :: vs) (p :: ps)
end

/-- the memo dict of a reader: its entries, oldest first -/
noncomputable def MemoEs (prog : Program) (w : World) (o : Obj) (es : List (Str × Int)) : Prop :=
  ∃ vals : List (Str × Int × Tok), o.IsDictOf (strKind prog w) (intPairs vals) ∧ vals.map (fun x => (x.1, x.2.1)) = es

abbrev Mem := Addr → Option (Str → Int → Prop)
noncomputable def noMem : Mem := fun _ => none
noncomputable def noX : Addr → Prop := fun _ => False

structure Ext (prog : Program) (w : World) (X : Addr → Prop) (C : Mem) (s s' : Shared) : Prop where
  size : s.heap.objs.size ≤ s'.heap.objs.size
  keep : ∀ b o, s.heap.get? b = some o → ¬ X b → s'.heap.get? b = some o ∨
    ∃ P, C b = some P ∧ ∃ es o' more, MemoEs prog w o es ∧ s'.heap.get? b = some o' ∧ MemoEs prog w o' (es ++ more) ∧ ∀ p ∈ more, P p.1 p.2
  gens : s'.gens = s.gens
  os : s'.os = s.os

variable {prog : Program} {w : World} {X Y : Addr → Prop} {C : Mem} {s s' s'' : Shared}

theorem pairs_unique {K : Type} [DecidableEq K] {knd : KeyKind prog w K} {es : List DictEntry} {kvs kvs' : List (K × Value)} (h : Pairs knd es kvs) (h' : Pairs knd es kvs') : kvs = kvs' := by
  induction h generalizing kvs' with
  | nil => cases h'; rfl
  | cons a b _ ih => cases h' with | cons a' b' r' => rw [ih r', Prod.ext (knd.inj _ _ _ a a') (b.symm.trans b')]
theorem intPairs_inj {K : Type} [DecidableEq K] : ∀ {v v' : List (K × Int × Tok)}, intPairs v = intPairs v' → v = v'
  | [], [], _ => rfl
  | [], _ :: _, h => by simp [intPairs] at h
  | _ :: _, [], h => by simp [intPairs] at h
  | (a, b, c) :: r, (a', b', c') :: r', h => by
    simp only [intPairs, List.map_cons, List.cons.injEq, Prod.mk.injEq, Value.int.injEq] at h
    (refine Mine.el0b h fun hq1 h4 => ?_; try clear h; obtain ⟨h1, h2, h3⟩ := hq1)
    rw [h1, h2, h3, intPairs_inj h4]
theorem MemoEs.unique {o : Obj} {es es' : List (Str × Int)} (h : MemoEs prog w o es) (h' : MemoEs prog w o es') : es = es' := by
  (refine Mine.el1b h fun vals hq2 hq3 => ?_; try clear h; obtain ⟨arr, n, _, hd, _, hf, _⟩ := hq2; obtain rfl := hq3)
  (refine Mine.el1b h' fun vals' hq4 hq5 => ?_; try clear h'; obtain ⟨arr', n', _, hd', _, hf', _⟩ := hq4; obtain rfl := hq5)
  rw [hd] at hd'; injection hd' with e1 e2; subst e1
  rw [intPairs_inj (pairs_unique hf hf')]

theorem Ext.refl : Ext prog w X C s s := ⟨Nat.le_refl _, fun _ _ e _ => .inl e, rfl, rfl⟩

theorem Ext.trans (h : Ext prog w X C s s') (h' : Ext prog w X C s' s'') : Ext prog w X C s s'' := by
  refine ⟨Nat.le_trans h.size h'.size, fun b o e hx => ?_, h'.gens.trans h.gens, h'.os.trans h.os⟩
  rcases h.keep b o e hx with k | ⟨P, hP, es, o', more, m1, k, m2, hm⟩
  · exact h'.keep b o k hx
  · rcases h'.keep b o' k hx with k' | ⟨P', hP', es', o'', more', m1', k', m2', hm'⟩
    · exact .inr ⟨P, hP, es, o', more, m1, k', m2, hm⟩
    · rw [hP] at hP'; cases hP'
      have := m1'.unique m2; subst this
      refine .inr ⟨P, hP, es, o'', more ++ more', m1, k', by rw [← List.append_assoc]; exact m2', fun p hp => ?_⟩
      rcases List.mem_append.mp hp with hp | hp
      · exact hm p hp
      · exact hm' p hp

theorem Ext.mono (h : Ext prog w X C s s') (hx : ∀ a, X a → Y a) : Ext prog w Y C s s' := ⟨h.size, fun b o e hy => h.keep b o e (fun q => hy (hx _ q)), h.gens, h.os⟩
theorem Ext.ofPure (h : Ext prog w X noMem s s') : Ext prog w X C s s' := ⟨h.size, (fun b o e hy => (h.keep b o e hy).elim .inl fun q => by refine Mine.el1b q fun _ q _ => ?_; cases q), h.gens, h.os⟩
theorem Ext.ofNo (h : Ext prog w noX C s s') : Ext prog w X C s s' := h.mono fun _ q => q.elim

/-- every object kept -/
theorem Ext.ofKeep (hs : s.heap.objs.size ≤ s'.heap.objs.size) (hk : ∀ b o, s.heap.get? b = some o → s'.heap.get? b = some o) (hg : s'.gens = s.gens) (ho : s'.os = s.os) : Ext prog w X C s s' :=
  ⟨hs, fun b o e _ => .inl (hk b o e), hg, ho⟩
theorem Ext.tok {t : Nat} : Ext prog w X C s { s with toks := t } := .ofKeep (Nat.le_refl _) (fun _ _ e => e) rfl rfl
theorem Ext.tokR {t : Nat} (h : Ext prog w X C s s') : Ext prog w X C s { s' with toks := t } := h.trans .tok
theorem Ext.push {o : Obj} : Ext prog w X C s { s with heap := s.heap.push o } := .ofKeep (by show _ ≤ (s.heap.push o).objs.size; rw [Heap.size_push]; (solve_by_elim (maxDepth := 3) [Nat.le_of_lt_succ, Nat.lt_succ_of_le, Nat.lt_succ_of_lt, Nat.le_of_lt, Nat.le_succ_of_le, Nat.pos_of_ne_zero, Nat.ne_of_gt, Nat.ne_of_lt, Nat.zero_le, Nat.le_refl, Nat.lt_succ_self, Nat.sub_le, Nat.le_of_not_lt, Nat.lt_of_not_le, Nat.le_trans, Nat.lt_of_lt_of_le, Nat.lt_of_le_of_lt, Nat.le_antisymm])) (fun _ _ e => Heap.get?_push_of_some _ e) rfl rfl
theorem Ext.sameBut {a : Addr} {h' : Heap} {t : Nat} (hs : Heap.SameBut a s.heap h') (ha : X a) : Ext prog w X C s { s with heap := h', toks := t } :=
  ⟨Nat.le_of_eq hs.1.symm, fun b o e hx => .inl ((hs.2 b (fun q => hx (q ▸ ha))).trans e), rfl, rfl⟩

theorem MemoEs.dict {o : Obj} {es : List (Str × Int)} (h : MemoEs prog w o es) : ∃ a n, o.data = .dict a n := by
  (refine Mine.el1b h fun _ hq6 _ => ?_; try clear h; obtain ⟨a, n, _, q, _⟩ := hq6); exact ⟨a, n, q⟩
theorem Ext.keepAt (h : Ext prog w X C s s') {b : Addr} {o : Obj} (e : s.heap.get? b = some o) (hx : ¬ X b) (hc : C b = none) : s'.heap.get? b = some o := by
  rcases h.keep b o e hx with k | ⟨_, q, _⟩
  · exact k
  · rw [hc] at q; cases q
theorem Ext.keepD (h : Ext prog w X C s s') {b : Addr} {o : Obj} (e : s.heap.get? b = some o) (hx : ¬ X b) (hd : ∀ es n, o.data ≠ .dict es n) : s'.heap.get? b = some o := by
  rcases h.keep b o e hx with k | ⟨_, _, _, _, _, m, _⟩
  · exact k
  · refine Mine.el2a m.dict fun _ _ q => ?_; exact absurd q (hd _ _)

theorem isList_ext {a : Addr} {items : Array Value} (h : Ext prog w X C s s') (hx : ¬ X a) (hl : s.heap.IsList a items) : s'.heap.IsList a items := by
  obtain ⟨o, ho, hc, n, hd⟩ := hl
  exact ⟨o, h.keepD ho hx (by rw [hd]; first | exact fun _ _ h => by cases h | exact fun _ h => by cases h | nofun), hc, n, hd⟩
theorem isTuple_ext {a : Addr} {items : Array Value} (h : Ext prog w X C s s') (hx : ¬ X a) (hl : s.heap.IsTuple a items) : s'.heap.IsTuple a items := by
  obtain ⟨o, ho, hc, n, hd⟩ := hl
  exact ⟨o, h.keepD ho hx (by rw [hd]; first | exact fun _ _ h => by cases h | exact fun _ h => by cases h | nofun), hc, n, hd⟩

theorem rep_map {h h' : Heap} {v : Value} {p : PV} (fl : ∀ a items, ¬ X a → h.IsList a items → ¬ Y a ∧ h'.IsList a items) (ft : ∀ a items, ¬ X a → h.IsTuple a items → ¬ Y a ∧ h'.IsTuple a items) (r : Rep X h v p) : Rep Y h' v p :=
  Rep.rec (motive_1 := fun v p _ => Rep Y h' v p) (motive_2 := fun v p _ => Reps Y h' v p) .none .bool .int .str (fun hx hl _ ih => .list (fl _ _ hx hl).1 (fl _ _ hx hl).2 ih) (fun hx hl _ ih => .tup (ft _ _ hx hl).1 (ft _ _ hx hl).2 ih) .val .nil (fun _ _ a b => .cons a b) r
theorem reps_map {h h' : Heap} {v : List Value} {p : List PV} (fl : ∀ a items, ¬ X a → h.IsList a items → ¬ Y a ∧ h'.IsList a items) (ft : ∀ a items, ¬ X a → h.IsTuple a items → ¬ Y a ∧ h'.IsTuple a items) (r : Reps X h v p) : Reps Y h' v p :=
  Reps.rec (motive_1 := fun v p _ => Rep Y h' v p) (motive_2 := fun v p _ => Reps Y h' v p) .none .bool .int .str (fun hx hl _ ih => .list (fl _ _ hx hl).1 (fl _ _ hx hl).2 ih) (fun hx hl _ ih => .tup (ft _ _ hx hl).1 (ft _ _ hx hl).2 ih) .val .nil (fun _ _ a b => .cons a b) r
/-- what stands for a value -/
noncomputable def RepI (X : Addr → Prop) (h : Heap) (v : Value) : PV → Prop
  | .none => ∃ _ : True, v = .none
  | .bool b => ∃ _ : True, v = .bool b
  | .int i => ∃ t, v = .int i t
  | .str x => ∃ t, v = .str x t
  | .val u => ∃ _ : True, v = u
  | .list l => ∃ a items, v = .ref a ∧ ¬ X a ∧ h.IsList a items ∧ Reps X h items.toList l
  | .tup l => ∃ a items, v = .ref a ∧ ¬ X a ∧ h.IsTuple a items ∧ Reps X h items.toList l
theorem Rep.inv {h : Heap} {v : Value} {p : PV} (r : Rep X h v p) : RepI X h v p :=
  Rep.rec (motive_1 := fun v p _ => RepI X h v p) (motive_2 := fun _ _ _ => True) ⟨trivial, rfl⟩ (fun _ => ⟨trivial, rfl⟩) (fun _ t => ⟨t, rfl⟩) (fun _ t => ⟨t, rfl⟩) (fun hx hl hr _ => ⟨_, _, rfl, hx, hl, hr⟩) (fun hx hl hr _ => ⟨_, _, rfl, hx, hl, hr⟩) (fun _ => ⟨trivial, rfl⟩) trivial (fun _ _ _ _ => trivial) r
noncomputable def RepsI (X : Addr → Prop) (h : Heap) (vs : List Value) : List PV → Prop
  | [] => vs = []
  | p :: ps => ∃ v vs', vs = v :: vs' ∧ Rep X h v p ∧ Reps X h vs' ps
theorem Reps.inv {h : Heap} {v : List Value} {p : List PV} (r : Reps X h v p) : RepsI X h v p :=
  Reps.rec (motive_1 := fun _ _ _ => True) (motive_2 := fun v p _ => RepsI X h v p) trivial (fun _ => trivial) (fun _ _ => trivial) (fun _ _ => trivial) (fun _ _ _ _ => trivial) (fun _ _ _ _ => trivial) (fun _ => trivial) rfl (fun a b _ _ => ⟨_, _, rfl, a, b⟩) r
theorem Rep.ext {v : Value} {p : PV} (h : Ext prog w X C s s') (r : Rep X s.heap v p) : Rep X s'.heap v p := rep_map (fun _ _ hx hl => ⟨hx, isList_ext h hx hl⟩) (fun _ _ hx hl => ⟨hx, isTuple_ext h hx hl⟩) r
theorem Reps.ext {v : List Value} {p : List PV} (h : Ext prog w X C s s') (r : Reps X s.heap v p) : Reps X s'.heap v p := reps_map (fun _ _ hx hl => ⟨hx, isList_ext h hx hl⟩) (fun _ _ hx hl => ⟨hx, isTuple_ext h hx hl⟩) r
theorem up_no {a b : Addr} (q : Y a → X a ∨ b ≤ a) (hx : ¬ X a) (hlt : a < b) : ¬ Y a := fun y => (q y).elim hx fun z => Nat.lt_irrefl _ (Nat.lt_of_lt_of_le hlt z)
theorem Rep.monoX {h : Heap} {v : Value} {p : PV} (q : ∀ a, Y a → X a ∨ h.objs.size ≤ a) (r : Rep X h v p) : Rep Y h v p := rep_map (fun _ _ hx hl => ⟨up_no (q _) hx (let ⟨_, e, _⟩ := hl; Heap.lt_size e), hl⟩) (fun _ _ hx hl => ⟨up_no (q _) hx (let ⟨_, e, _⟩ := hl; Heap.lt_size e), hl⟩) r
theorem Reps.monoX {h : Heap} {v : List Value} {p : List PV} (q : ∀ a, Y a → X a ∨ h.objs.size ≤ a) (r : Reps X h v p) : Reps Y h v p := reps_map (fun _ _ hx hl => ⟨up_no (q _) hx (let ⟨_, e, _⟩ := hl; Heap.lt_size e), hl⟩) (fun _ _ hx hl => ⟨up_no (q _) hx (let ⟨_, e, _⟩ := hl; Heap.lt_size e), hl⟩) r
theorem Rep.keeps {h h' : Heap} {v : Value} {p : PV} (k : ∀ b o, h.get? b = some o → h'.get? b = some o) (r : Rep X h v p) : Rep X h' v p := rep_map (fun _ _ hx hl => ⟨hx, let ⟨o, ho, r⟩ := hl; ⟨o, k _ _ ho, r⟩⟩) (fun _ _ hx hl => ⟨hx, let ⟨o, ho, r⟩ := hl; ⟨o, k _ _ ho, r⟩⟩) r
theorem Reps.keeps {h h' : Heap} {v : List Value} {p : List PV} (k : ∀ b o, h.get? b = some o → h'.get? b = some o) (r : Reps X h v p) : Reps X h' v p := reps_map (fun _ _ hx hl => ⟨hx, let ⟨o, ho, r⟩ := hl; ⟨o, k _ _ ho, r⟩⟩) (fun _ _ hx hl => ⟨hx, let ⟨o, ho, r⟩ := hl; ⟨o, k _ _ ho, r⟩⟩) r

/-- a fact of the lists that stand for each other, by their conses -/
theorem reps_ind {h : Heap} {P : List Value → List PV → Prop} (h0 : P [] []) (h1 : ∀ {v vs p ps}, Rep X h v p → Reps X h vs ps → P vs ps → P (v :: vs) (p :: ps)) {v : List Value} {p : List PV} (r : Reps X h v p) : P v p :=
  Reps.rec (motive_1 := fun _ _ _ => True) (motive_2 := fun v p _ => P v p) trivial (fun _ => trivial) (fun _ _ => trivial) (fun _ _ => trivial) (fun _ _ _ _ => trivial) (fun _ _ _ _ => trivial) (fun _ => trivial) h0 (fun a b _ ih => h1 a b ih) r
theorem Reps.length {h : Heap} {v : List Value} {p : List PV} (r : Reps X h v p) : v.length = p.length := reps_ind (P := fun v p => v.length = p.length) rfl (fun _ _ ih => congrArg (· + 1) ih) r
theorem Reps.append {h : Heap} {v v' : List Value} {p p' : List PV} (r : Reps X h v p) (r' : Reps X h v' p') : Reps X h (v ++ v') (p ++ p') := reps_ind (P := fun v p => Reps X h (v ++ v') (p ++ p')) r' (fun a _ ih => .cons a ih) r
theorem Reps.get {h : Heap} {v : List Value} {p : List PV} (r : Reps X h v p) : ∀ (i : Nat) {q : PV}, p[i]? = some q → ∃ u, v[i]? = some u ∧ Rep X h u q :=
  reps_ind (P := fun v p => ∀ (i : Nat) {q : PV}, p[i]? = some q → ∃ u, v[i]? = some u ∧ Rep X h u q) (fun i q e => nomatch e) (fun a _ ih i => match i with
    | 0 => fun e => ⟨_, rfl, Option.some.inj e ▸ a⟩
    | i + 1 => fun e => ih i e) r
theorem Reps.take {h : Heap} {v : List Value} {p : List PV} (n : Nat) (r : Reps X h v p) : Reps X h (v.take n) (p.take n) :=
  reps_ind (P := fun v p => ∀ n : Nat, Reps X h (v.take n) (p.take n)) (fun n => by rw [List.take_nil, List.take_nil]; exact .nil) (fun a _ ih n => match n with
    | 0 => .nil
    | n + 1 => .cons a (ih n)) r n
theorem Reps.drop {h : Heap} {v : List Value} {p : List PV} (n : Nat) (r : Reps X h v p) : Reps X h (v.drop n) (p.drop n) :=
  reps_ind (P := fun v p => ∀ n : Nat, Reps X h (v.drop n) (p.drop n)) (fun n => by rw [List.drop_nil, List.drop_nil]; exact .nil) (fun a b ih n => match n with
    | 0 => .cons a b
    | n + 1 => ih n) r n

end Mine
end
section
open PySem PySem.W PySem.Calls PyProof.Rows
set_option Elab.async false
set_option linter.unusedVariables false
namespace Mine
/-! elimination of what a value stands for, by one lemma each -/
variable {X : Addr → Prop} {h : Heap}
@[elab_as_elim] theorem Rep.elS {x : Str} {G : Value → Prop} {v : Value} (r : Rep X h v (.str x)) (k : ∀ t, G (.str x t)) : G v := let ⟨t, e⟩ := r.inv; e ▸ k t
@[elab_as_elim] theorem Rep.elI {x : Int} {G : Value → Prop} {v : Value} (r : Rep X h v (.int x)) (k : ∀ t, G (.int x t)) : G v := let ⟨t, e⟩ := r.inv; e ▸ k t
@[elab_as_elim] theorem Rep.elB {b : Bool} {G : Value → Prop} {v : Value} (r : Rep X h v (.bool b)) (k : True → G (.bool b)) : G v := let ⟨t, e⟩ := r.inv; e ▸ k t
@[elab_as_elim] theorem Rep.elO {G : Value → Prop} {v : Value} (r : Rep X h v .none) (k : True → G .none) : G v := let ⟨t, e⟩ := r.inv; e ▸ k t
@[elab_as_elim] theorem Rep.elV {u : Value} {G : Value → Prop} {v : Value} (r : Rep X h v (.val u)) (k : True → G u) : G v := let ⟨t, e⟩ := r.inv; e ▸ k t
@[elab_as_elim] theorem Rep.elL {l : List PV} {G : Value → Prop} {v : Value} (r : Rep X h v (.list l)) (k : ∀ a items, ¬ X a → h.IsList a items → Reps X h items.toList l → G (.ref a)) : G v := let ⟨a, i, e, h1, h2, h3⟩ := r.inv; e ▸ k a i h1 h2 h3
@[elab_as_elim] theorem Rep.elT {l : List PV} {G : Value → Prop} {v : Value} (r : Rep X h v (.tup l)) (k : ∀ a items, ¬ X a → h.IsTuple a items → Reps X h items.toList l → G (.ref a)) : G v := let ⟨a, i, e, h1, h2, h3⟩ := r.inv; e ▸ k a i h1 h2 h3
@[elab_as_elim] theorem Reps.elN {G : List Value → Prop} {vs : List Value} (r : Reps X h vs []) (k : G []) : G vs := r.inv (v := vs) ▸ k
@[elab_as_elim] theorem Reps.elC {p : PV} {ps : List PV} {G : List Value → Prop} {vs : List Value} (r : Reps X h vs (p :: ps)) (k : ∀ a as, Rep X h a p → Reps X h as ps → G (a :: as)) : G vs := let ⟨a, i, e, h1, h2⟩ := r.inv; e ▸ k a i h1 h2
@[elab_as_elim] theorem Reps.el1 {p : PV} {G : List Value → Prop} {vs : List Value} (r : Reps X h vs [p]) (k : ∀ a, Rep X h a p → G [a]) : G vs := r.elC fun a _ h1 r => r.elN (k a h1)
@[elab_as_elim] theorem Reps.el2 {p q : PV} {G : List Value → Prop} {vs : List Value} (r : Reps X h vs [p, q]) (k : ∀ a b, Rep X h a p → Rep X h b q → G [a, b]) : G vs := r.elC fun a _ h1 r => r.el1 fun b h2 => k a b h1 h2
@[elab_as_elim] theorem Reps.el3 {p q t : PV} {G : List Value → Prop} {vs : List Value} (r : Reps X h vs [p, q, t]) (k : ∀ a b c, Rep X h a p → Rep X h b q → Rep X h c t → G [a, b, c]) : G vs := r.elC fun a _ h1 r => r.el2 fun b c h2 h3 => k a b c h1 h2 h3
@[elab_as_elim] theorem Reps.el4 {p q t u : PV} {G : List Value → Prop} {vs : List Value} (r : Reps X h vs [p, q, t, u]) (k : ∀ a b c d, Rep X h a p → Rep X h b q → Rep X h c t → Rep X h d u → G [a, b, c, d]) : G vs := r.elC fun a _ h1 r => r.el3 fun b c d h2 h3 h4 => k a b c d h1 h2 h3 h4
@[elab_as_elim] theorem Reps.el5 {p q t u y : PV} {G : List Value → Prop} {vs : List Value} (r : Reps X h vs [p, q, t, u, y]) (k : ∀ a b c d e, Rep X h a p → Rep X h b q → Rep X h c t → Rep X h d u → Rep X h e y → G [a, b, c, d, e]) : G vs := r.elC fun a _ h1 r => r.el4 fun b c d e h2 h3 h4 h5 => k a b c d e h1 h2 h3 h4 h5
@[elab_as_elim] theorem mapEl {α β : Type} {f : α → β} {l : List α} {G : β → Prop} {p : β} (h : p ∈ l.map f) (k : ∀ u, u ∈ l → G (f u)) : G p := let ⟨u, hu, e⟩ := List.mem_map.mp h; e ▸ k u hu
end Mine
end
section
open PySem PySem.W PySem.Calls PyProof.Rows
set_option Elab.async false
set_option maxRecDepth 100000
set_option linter.unusedVariables false
namespace Mine

noncomputable def FreeA (K : Frag) (b : Addr) : Prop := K.lookup b = none ∧ b ≠ builtinsNs ∧ b ≠ 4

structure Base (K : Frag) (mb : Str → Option Value) (h : Heap) : Prop where
  frag : K.In h
  bl : h.Ns builtinsNs mb
  blN : ∀ x : Str, x ≠ "__name__" → mb x = bootBuiltins x
  bm : ∃ ob, h.get? 4 = some ob ∧ ob.cls = .type "module" ∧ ob.dict = some builtinsNs ∧ ob.data = .plain
  nolim : K.lookup cStatics = some { cls := .none, data := .dict #[] }

structure Rm (n : Nat) (A : Around) : Prop where
  d : A.depth + n ≤ 600
  u : A.units + 100 * n ≤ 5000
  h : A.handled = none

theorem Rm.deeper {n : Nat} {A : Around} {env : Env} (h : Rm (n + 1) A) : Rm n (A.deeper env) := ⟨by have := h.d; show A.depth + 1 + n ≤ 600; omega, by have := h.u; show A.units + 3 + 100 * n ≤ 5000; omega, h.h⟩
theorem Rm.in1 {n : Nat} {A : Around} (h : Rm (n + 1) A) : Rm n A.in1 := ⟨by have := h.d; show A.depth + n ≤ 600; (solve_by_elim (maxDepth := 3) [Nat.le_of_lt_succ, Nat.lt_succ_of_le, Nat.lt_succ_of_lt, Nat.le_of_lt, Nat.le_succ_of_le, Nat.pos_of_ne_zero, Nat.ne_of_gt, Nat.ne_of_lt, Nat.zero_le, Nat.le_refl, Nat.lt_succ_self, Nat.sub_le, Nat.le_of_not_lt, Nat.lt_of_not_le, Nat.le_trans, Nat.lt_of_lt_of_le, Nat.lt_of_le_of_lt, Nat.le_antisymm]), by have := h.u; show A.units + 1 + 100 * n ≤ 5000; omega, h.h⟩
theorem Rm.room {n : Nat} {A : Around} (h : Rm n A) : A.depth < recursionLimit := by have := h.d; show A.depth < 1000; omega
theorem Rm.units {n : Nat} {A : Around} (h : Rm n A) : A.units + 100 < cLine := by have := h.u; show A.units + 100 < 9900; omega

variable {prog : Program} {w : World} {K : Frag} {mb : Str → Option Value} {X Y : Addr → Prop} {C : Mem} {s s' s'' : Shared} {A : Around} {env : Env} {ρ : List (Str × PV)} {n : Nat}

theorem Base.fresh {h : Heap} (B : Base K mb h) {b : Addr} (hb : h.objs.size ≤ b) : FreeA K b := by
  refine ⟨?_, ?_, ?_⟩
  · cases e : K.lookup b with
    | none => rfl
    | some o => exact absurd (Heap.lt_size (B.frag _ _ e)) (Nat.not_lt.mpr hb)
  · rintro rfl; exact absurd B.bl.lt (Nat.not_lt.mpr hb)
  · rintro rfl; refine Mine.el1b B.bm fun ob e _ => ?_; exact absurd (Heap.lt_size e) (Nat.not_lt.mpr hb)

theorem Base.keepsF {h h' : Heap} (B : Base K mb h) (hk : ∀ b o, h.get? b = some o → ¬ FreeA K b → h'.get? b = some o) : Base K mb h' := by
  refine ⟨fun a o e => hk a o (B.frag a o e) (fun q => by rw [q.1] at e; cases e), ?_, B.blN, ?_, B.nolim⟩
  · refine Mine.el3b B.bl fun o es ep e r => ?_
    exact ⟨o, es, ep, hk _ _ e (fun q => q.2.1 rfl), r⟩
  · refine Mine.el1b B.bm fun ob e r => ?_
    exact ⟨ob, hk _ _ e (fun q => q.2.2 rfl), r⟩
theorem Base.ext (B : Base K mb s.heap) (h : Ext prog w X C s s') (xo : ∀ a, X a → FreeA K a) (co : ∀ a P, C a = some P → FreeA K a) : Base K mb s'.heap :=
  B.keepsF fun b o e q => (h.keep b o e fun hx => q (xo _ hx)).elim id fun ⟨P, hP, _⟩ => (q (co _ _ hP)).elim

theorem Base.noLimit {h : Heap} (B : Base K mb h) : h.NoLimit := by
  refine ⟨fun _ => none, ⟨_, #[], 0, B.frag _ _ B.nolim, rfl, fun e he => by simp at he, fun _ => rfl⟩, rfl⟩

structure Fm (X : Addr → Prop) (C : Mem) (env : Env) (h : Heap) (ρ : List (Str × PV)) : Prop where
  kind : env.scope.kind = .function
  globals : env.globals = mainGlobals
  builtins : env.builtins = builtinsNs
  cl : C env.locals = none
  ns : ∃ m, h.Ns env.locals m ∧ ∀ x p, ρ.lookup x = some p → env.kindOf x = some .local → ∃ v, m x = some v ∧ Rep X h v p
  cell : ∀ x c, env.cells.lookup x = some c → ∃ ov, h.IsCell c ov ∧ ∀ p, ρ.lookup x = some p → (env.kindOf x = some .cell ∨ env.kindOf x = some .free) → ∃ v, ov = some v ∧ Rep X h v p

structure Sit (prog : Program) (w : World) (K : Frag) (mb : Str → Option Value) (n : Nat) (C : Mem) (X : Addr → Prop) (A : Around) (env : Env) (ρ : List (Str × PV)) (s : Shared) : Prop where
  base : Base K mb s.heap
  rm : Rm n A
  bd : ∀ a, X a → a < s.heap.objs.size
  xo : ∀ a, X a → FreeA K a
  co : ∀ a P, C a = some P → FreeA K a ∧ ¬ X a ∧ ∃ o es, s.heap.get? a = some o ∧ MemoEs prog w o es
  fm : Fm X C env s.heap ρ

theorem memo_ext (h : Ext prog w X C s s') {a : Addr} {o : Obj} {es : List (Str × Int)} (ho : s.heap.get? a = some o) (hm : MemoEs prog w o es) (hx : ¬ X a) : ∃ o' more, s'.heap.get? a = some o' ∧ MemoEs prog w o' (es ++ more) ∧ (∀ P, C a = some P → ∀ p ∈ more, P p.1 p.2) := by
  rcases h.keep a o ho hx with k | ⟨P, hP, es', o', more, m1, k, m2, hm'⟩
  · exact ⟨o, [], k, by rw [List.append_nil]; exact hm, fun _ _ p hp => nomatch hp⟩
  · have := m1.unique hm; subst this
    exact ⟨o', more, k, m2, fun P' hP' => by rw [hP] at hP'; cases hP'; exact hm'⟩
theorem co_ext (h : Ext prog w X C s s') (co : ∀ a P, C a = some P → FreeA K a ∧ ¬ X a ∧ ∃ o es, s.heap.get? a = some o ∧ MemoEs prog w o es) :
    ∀ a P, C a = some P → FreeA K a ∧ ¬ X a ∧ ∃ o es, s'.heap.get? a = some o ∧ MemoEs prog w o es := fun a P e => by
  obtain ⟨h1, h2, o, es, ho, hm⟩ := co a P e
  refine Mine.el2c (memo_ext h ho hm h2) fun o' more k m _ => ?_
  exact ⟨h1, h2, o', _, k, m⟩
theorem isCell_ext {c : Addr} {v : Option Value} (h : Ext prog w X C s s') (hx : ¬ X c) (hc : s.heap.IsCell c v) : s'.heap.IsCell c v := by
  (refine Mine.el1b hc fun o ho hd => ?_; try clear hc)
  exact ⟨o, h.keepD ho hx (by rw [hd]; first | exact fun _ _ h => by cases h | exact fun _ h => by cases h | nofun), hd⟩
theorem ns_ext {a : Addr} {m : Str → Option Value} (h : Ext prog w X C s s') (hx : ¬ X a) (hc : C a = none) (hn : s.heap.Ns a m) : s'.heap.Ns a m := by
  (refine Mine.el3b hn fun o es ep ho r => ?_; try clear hn)
  exact ⟨o, es, ep, h.keepAt ho hx hc, r⟩

theorem Fm.ext (F : Fm X C env s.heap ρ) (h : Ext prog w noX C s s') : Fm X C env s'.heap ρ := by
  refine ⟨F.kind, F.globals, F.builtins, F.cl, ?_, fun x c e => ?_⟩
  · refine Mine.el1b F.ns fun m hn hv => ?_
    exact ⟨m, ns_ext h (fun q => q) F.cl hn, fun x p e k => let ⟨v, h1, h2⟩ := hv x p e k; ⟨v, h1, h2.ext h.ofNo⟩⟩
  · refine Mine.el1b (F.cell x c e) fun ov hc hv => ?_
    exact ⟨ov, isCell_ext h (fun q => q) hc, fun p e k => let ⟨v, h1, h2⟩ := hv p e k; ⟨v, h1, h2.ext h.ofNo⟩⟩
theorem Sit.ext (S : Sit prog w K mb n C X A env ρ s) (h : Ext prog w noX C s s') : Sit prog w K mb n C X A env ρ s' :=
  ⟨S.base.ext h (fun _ q => q.elim) fun a P e => (S.co a P e).1, S.rm, fun a ha => Nat.lt_of_lt_of_le (S.bd a ha) h.size, S.xo, fun a P e => by
    obtain ⟨h1, h2, o, es, ho, hm⟩ := S.co a P e
    refine Mine.el2c (memo_ext h ho hm (fun q => q)) fun o' more k m _ => ?_
    exact ⟨h1, h2, o', _, k, m⟩, S.fm.ext h⟩

/-! the judgements -/
noncomputable def Do {α : Type} (prog : Program) (w : World) (C : Mem) (A : Around) (m : Sem α) (R : α → Shared → Prop) (s : Shared) : Prop :=
  ∀ s₁, Ext prog w noX C s s₁ → ∀ (Q : α → Shared → Prop) (E : Value → Shared → Prop), (∀ a s₂, Ext prog w noX C s₁ s₂ → R a s₂ → Q a s₂) → wpAny (model prog w) A m Q E s₁

abbrev DoV (prog : Program) (w : World) (C : Mem) (X : Addr → Prop) (A : Around) (m : Sem Value) (p : PV) (s : Shared) : Prop := Do prog w C A m (fun v s => Rep X s.heap v p) s
abbrev Ev (prog : Program) (w : World) (C : Mem) (X : Addr → Prop) (A : Around) (env : Env) (e : Expr) (p : PV) (s : Shared) : Prop := DoV prog w C X A (eval e env) p s
abbrev Ts (prog : Program) (w : World) (C : Mem) (A : Around) (env : Env) (e : Expr) (b : Bool) (s : Shared) : Prop := Do prog w C A (isTrue e env (eval e env)) (fun v _ => v = b) s

theorem Do.ext {α : Type} {m : Sem α} {R : α → Shared → Prop} (h : Do prog w C A m R s) (e : Ext prog w noX C s s') : Do prog w C A m R s' := fun s₁ e₁ => h s₁ (e.trans e₁)
theorem Do.run {α : Type} {m : Sem α} {R : α → Shared → Prop} {Q : α → Shared → Prop} {E : Value → Shared → Prop} (h : Do prog w C A m R s) (e : Ext prog w noX C s s')
    (k : ∀ a s₂, Ext prog w noX C s' s₂ → R a s₂ → Q a s₂) : wpAny (model prog w) A m Q E s' := h s' e Q E k
theorem Do.mono {α : Type} {m : Sem α} {R R' : α → Shared → Prop} (h : Do prog w C A m R s) (k : ∀ a s', Ext prog w noX C s s' → R a s' → R' a s') : Do prog w C A m R' s :=
  fun s₁ e₁ Q E q => h s₁ e₁ Q E fun a s₂ e₂ r => q a s₂ e₂ (k a s₂ (e₁.trans e₂) r)
/-! names -/
theorem ev_var {x : Str} {pos : Pos} {p : PV} (S : Sit prog w K mb n C X A env ρ s) (hx : ρ.lookup x = some p)
    (hk : (env.kindOf x = some .local ∨ ((env.kindOf x = some .cell ∨ env.kindOf x = some .free) ∧ (env.cells.lookup x).isSome = true)))
    (hd : autoParam ((x == ("__debug__" : Str)) = false) Mine.autoD) (hn : autoParam ((x == ("__classdict__" : Str)) = false) Mine.autoD) : Ev prog w C X A env (.Name x pos) p s := by
  intro s₁ e₁ Q E q
  have F := S.fm.ext e₁
  refine wpAny_Name ?_ hd
  rcases hk with hk | ⟨hk, hc⟩
  · refine Mine.el1b F.ns fun m hn hv => ?_
    refine Mine.el1b (hv x p hx hk) fun v h1 h2 => ?_
    exact wpAny_loadName_local F.kind hk hn h1 (q _ _ .refl h2)
  · refine Mine.el1a (Option.isSome_iff_exists.mp hc) fun c hc => ?_
    refine Mine.el1b (F.cell x c hc) fun ov hi hv => ?_
    (refine Mine.el1b (hv p hx hk) fun v hq1 h2 => ?_; obtain rfl := hq1)
    rcases hk with hk | hk
    · exact wpAny_loadName_cell F.kind hk hc hi (q _ _ .refl h2)
    · exact wpAny_loadName_free F.kind hk hc hi (q _ _ .refl h2) hn
theorem do_global {x : Str} {v : Value} (S : Sit prog w K mb n C X A env ρ s) (e : nsIn K mainGlobals x = some (some v)) : DoV prog w C X A (loadGlobal env x) (.val v) s := by
  intro s₁ e₁ Q E q
  have S₁ := S.ext e₁
  unfold loadGlobal
  rw [S.fm.globals]
  exact wpAny_bind ((looks_nsIn S₁.base.frag e).here (wpAny_pure (q _ _ .refl (.val v))))
theorem ev_global {x : Str} {pos : Pos} {v : Value} (S : Sit prog w K mb n C X A env ρ s) (e : nsIn K mainGlobals x = some (some v)) (hx : env.kindOf x = some .globalImplicit)
    (hd : autoParam ((x == ("__debug__" : Str)) = false) Mine.autoD) : Ev prog w C X A env (.Name x pos) (.val v) s :=
  fun s₁ e₁ Q E q => Name_function_global S.fm.kind hx (do_global S e s₁ e₁ Q E q) hd
theorem ev_gstr {x y : Str} {t : Tok} {pos : Pos} (S : Sit prog w K mb n C X A env ρ s) (e : nsIn K mainGlobals x = some (some (.str y t))) (hx : env.kindOf x = some .globalImplicit)
    (hd : autoParam ((x == ("__debug__" : Str)) = false) Mine.autoD) : Ev prog w C X A env (.Name x pos) (.str y) s :=
  fun s₁ e₁ Q E q => Name_function_global S.fm.kind hx (do_global S e s₁ e₁ Q E fun v s₂ e₂ r => q v s₂ e₂ (by refine Mine.Rep.elV r fun _ => ?_; exact .str _ _)) hd
theorem ev_builtin {x : Str} {pos : Pos} {v : Value} (S : Sit prog w K mb n C X A env ρ s) (e : nsIn K mainGlobals x = some none) (hv : bootBuiltins x = some v) (hn : x ≠ "__name__") (hx : env.kindOf x = some .globalImplicit)
    (hd : autoParam ((x == ("__debug__" : Str)) = false) Mine.autoD) : Ev prog w C X A env (.Name x pos) (.val v) s := by
  intro s₁ e₁ Q E q
  have S₁ := S.ext e₁
  refine Name_function_global S.fm.kind hx ?_ hd
  unfold loadGlobal
  rw [S.fm.globals, S.fm.builtins]
  refine wpAny_bind ((looks_nsIn S₁.base.frag e).here ?_)
  refine wpAny_bind (wpAny_nsGet S₁.base.bl ?_)
  rw [S₁.base.blN x hn, hv]
  exact wpAny_pure (q _ _ .refl (.val v))

/-! constants -/
theorem ev_cstr {x : Str} {k : Nat} {pos : Pos} : Ev prog w C X A env (.Constant (.str x) k pos) (.str x) s := fun s₁ e₁ Q E q => wpAny_Constant_str (q _ _ .tok (.str _ _))
theorem ev_cint {x : Int} {k : Nat} {pos : Pos} : Ev prog w C X A env (.Constant (.int x) k pos) (.int x) s := fun s₁ e₁ Q E q => wpAny_Constant_int (q _ _ .tok (.int _ _))
theorem ev_cbool {b : Bool} {k : Nat} {pos : Pos} : Ev prog w C X A env (.Constant (.bool b) k pos) (.bool b) s := fun s₁ e₁ Q E q => wpAny_Constant_bool (q _ _ .refl (.bool _))
theorem ev_cnone {k : Nat} {pos : Pos} : Ev prog w C X A env (.Constant .none k pos) .none s := fun s₁ e₁ Q E q => wpAny_Constant_none (q _ _ .refl .none)

end Mine
end
section
open PySem PySem.W PySem.Calls PyProof.Rows
set_option Elab.async false
set_option maxRecDepth 100000
set_option linter.unusedVariables false
namespace Mine
variable {prog : Program} {w : World} {K : Frag} {mb : Str → Option Value} {X Y : Addr → Prop} {C : Mem} {s s' s'' : Shared} {A : Around} {env : Env} {ρ : List (Str × PV)} {n : Nat}

/-! operators -/
theorem ev_binop {l r : Expr} {op : Operator} {pos : Pos} {p q p' : PV} (h1 : Ev prog w C X A env l p s) (h2 : Ev prog w C X A env r q s)
    (hop : ∀ a b s', Ext prog w noX C s s' → Rep X s'.heap a p → Rep X s'.heap b q → DoV prog w C X A (binaryOp op a b) p' s') : Ev prog w C X A env (.BinOp l op r pos) p' s := by
  intro s₁ e₁ Q E k
  refine wpAny_BinOp (h1 s₁ e₁ _ _ fun a s₂ e₂ ra => h2 s₂ (e₁.trans e₂) _ _ fun b s₃ e₃ rb => ?_)
  exact hop a b s₃ (e₁.trans (e₂.trans e₃)) (ra.ext e₃.ofNo) rb s₃ .refl _ _ fun v s₄ e₄ rv => k v s₄ (e₂.trans (e₃.trans e₄)) rv

theorem ev_cmp {l r : Expr} {op : CmpOp} {pos : Pos} {p q p' : PV} (h1 : Ev prog w C X A env l p s) (h2 : Ev prog w C X A env r q s)
    (hop : ∀ a b s', Ext prog w noX C s s' → Rep X s'.heap a p → Rep X s'.heap b q → DoV prog w C X A (compareOp op a b) p' s') (hm : autoParam (behindInMarks op r = false) Mine.autoR) : Ev prog w C X A env (.Compare l [op] [r] pos) p' s := by
  intro s₁ e₁ Q E k
  refine wpAny_Compare1 (h1 s₁ e₁ _ _ fun a s₂ e₂ ra => h2 s₂ (e₁.trans e₂) _ _ fun b s₃ e₃ rb => ?_) hm
  exact hop a b s₃ (e₁.trans (e₂.trans e₃)) (ra.ext e₃.ofNo) rb s₃ .refl _ _ fun v s₄ e₄ rv => k v s₄ (e₂.trans (e₃.trans e₄)) rv

theorem ts_cmp {l r : Expr} {op : CmpOp} {pos : Pos} {p q : PV} {b : Bool} (h1 : Ev prog w C X A env l p s) (h2 : Ev prog w C X A env r q s)
    (hop : ∀ a b' s', Ext prog w noX C s s' → Rep X s'.heap a p → Rep X s'.heap b' q → DoV prog w C X A (compareOp op a b') (.bool b) s') (hm : autoParam (behindInMarks op r = false) Mine.autoR) : Ts prog w C A env (.Compare l [op] [r] pos) b s := by
  intro s₁ e₁ Q E k
  refine wpAny_isTrue_Compare1 (h1 s₁ e₁ _ _ fun a s₂ e₂ ra => h2 s₂ (e₁.trans e₂) _ _ fun b s₃ e₃ rb => ?_) hm
  refine hop a b s₃ (e₁.trans (e₂.trans e₃)) (ra.ext e₃.ofNo) rb s₃ .refl _ _ fun v s₄ e₄ rv => ?_
  refine Mine.Rep.elB rv fun _ => ?_
  exact wpAny_truthy_bool (k _ s₄ (e₂.trans (e₃.trans e₄)) rfl)

theorem op_add_str {x y : Str} {a b : Value} (ha : Rep X s.heap a (.str x)) (hb : Rep X s.heap b (.str y)) (hsz : x.length + y.length ≤ sizeLine) : DoV prog w C X A (binaryOp .Add a b) (.str (x ++ y)) s := by
  refine Mine.Rep.elS ha fun _ => ?_; refine Mine.Rep.elS hb fun _ => ?_
  exact fun s₁ e₁ Q E k => SB.add (fun t' n => k _ _ .tok (.str _ _)) hsz
theorem op_add_int {x y : Int} {a b : Value} (ha : Rep X s.heap a (.int x)) (hb : Rep X s.heap b (.int y)) : DoV prog w C X A (binaryOp .Add a b) (.int (x + y)) s := by
  refine Mine.Rep.elI ha fun _ => ?_; refine Mine.Rep.elI hb fun _ => ?_
  exact fun s₁ e₁ Q E k => P.add_int (k _ _ .tok (.int _ _))
theorem op_sub_int {x y : Int} {a b : Value} (ha : Rep X s.heap a (.int x)) (hb : Rep X s.heap b (.int y)) : DoV prog w C X A (binaryOp .Sub a b) (.int (x - y)) s := by
  refine Mine.Rep.elI ha fun _ => ?_; refine Mine.Rep.elI hb fun _ => ?_
  exact fun s₁ e₁ Q E k => P.sub_int (k _ _ .tok (.int _ _))
theorem op_eq_int {x y : Int} {a b : Value} (ha : Rep X s.heap a (.int x)) (hb : Rep X s.heap b (.int y)) : DoV prog w C X A (compareOp .Eq a b) (.bool (x == y)) s := by
  refine Mine.Rep.elI ha fun _ => ?_; refine Mine.Rep.elI hb fun _ => ?_
  exact fun s₁ e₁ Q E k => P.eq_int (k _ _ .refl (.bool _))
theorem op_lt_int {x y : Int} {a b : Value} (ha : Rep X s.heap a (.int x)) (hb : Rep X s.heap b (.int y)) : DoV prog w C X A (compareOp .Lt a b) (.bool (decide (x < y))) s := by
  refine Mine.Rep.elI ha fun _ => ?_; refine Mine.Rep.elI hb fun _ => ?_
  exact fun s₁ e₁ Q E k => P.lt_int (k _ _ .refl (.bool _))
theorem op_le_int {x y : Int} {a b : Value} (ha : Rep X s.heap a (.int x)) (hb : Rep X s.heap b (.int y)) : DoV prog w C X A (compareOp .LtE a b) (.bool (decide (x ≤ y))) s := by
  refine Mine.Rep.elI ha fun _ => ?_; refine Mine.Rep.elI hb fun _ => ?_
  exact fun s₁ e₁ Q E k => P.le_int (k _ _ .refl (.bool _))
theorem op_gt_int {x y : Int} {a b : Value} (ha : Rep X s.heap a (.int x)) (hb : Rep X s.heap b (.int y)) : DoV prog w C X A (compareOp .Gt a b) (.bool (decide (x > y))) s := by
  refine Mine.Rep.elI ha fun _ => ?_; refine Mine.Rep.elI hb fun _ => ?_
  exact fun s₁ e₁ Q E k => P.gt_int (k _ _ .refl (.bool _))
theorem op_ge_int {x y : Int} {a b : Value} (ha : Rep X s.heap a (.int x)) (hb : Rep X s.heap b (.int y)) : DoV prog w C X A (compareOp .GtE a b) (.bool (decide (x ≥ y))) s := by
  refine Mine.Rep.elI ha fun _ => ?_; refine Mine.Rep.elI hb fun _ => ?_
  exact fun s₁ e₁ Q E k => P.ge_int (k _ _ .refl (.bool _))
theorem beq_cps {x y : Str} : (x.cps.toList == y.cps.toList) = decide (x = y) := by
  by_cases h : x = y
  · subst h; simp
  · rw [decide_eq_false h]
    refine beq_eq_false_iff_ne.mpr fun hl => h ?_
    cases x; cases y
    simp only [Str.mk.injEq]
    exact Array.toList_inj.mp hl
theorem op_eq_str {x y : Str} {a b : Value} (ha : Rep X s.heap a (.str x)) (hb : Rep X s.heap b (.str y)) : DoV prog w C X A (compareOp .Eq a b) (.bool (decide (x = y))) s := by
  refine Mine.Rep.elS ha fun _ => ?_; refine Mine.Rep.elS hb fun _ => ?_
  exact fun s₁ e₁ Q E k => P.eq_str (by rw [beq_cps]; exact k _ _ .refl (.bool _))
theorem op_ne_str {x y : Str} {a b : Value} (ha : Rep X s.heap a (.str x)) (hb : Rep X s.heap b (.str y)) : DoV prog w C X A (compareOp .NotEq a b) (.bool (!decide (x = y))) s := by
  refine Mine.Rep.elS ha fun _ => ?_; refine Mine.Rep.elS hb fun _ => ?_
  exact fun s₁ e₁ Q E k => P.ne_str (by rw [bne, beq_cps]; exact k _ _ .refl (.bool _))
theorem op_notIn_str {x y : Str} {a b : Value} (ha : Rep X s.heap a (.str y)) (hb : Rep X s.heap b (.str x)) : DoV prog w C X A (compareOp .NotIn a b) (.bool (!Txt.contains x y)) s := by
  refine Mine.Rep.elS ha fun _ => ?_; refine Mine.Rep.elS hb fun _ => ?_
  exact fun s₁ e₁ Q E k => SB.notContains (k _ _ .refl (.bool _))

/-- a new list: its address is the next one -/
theorem rep_newList {h : Heap} {items : Array Value} {l : List PV} {n : Nat} (bd : ∀ a, X a → a < h.objs.size) (hr : Reps X h items.toList l) :
    Rep X (h.push { cls := .type "list", data := .seq items n }) (.ref h.objs.size) (.list l) :=
  .list (fun hx => Nat.lt_irrefl _ (bd _ hx)) ⟨_, Heap.get?_push_size _ rfl, rfl, n, rfl⟩ (hr.keeps fun _ _ e => Heap.get?_push_of_some _ e)

theorem op_add_list {x y : List PV} {a b : Value} (bd : ∀ a, X a → a < s.heap.objs.size) (ha : Rep X s.heap a (.list x)) (hb : Rep X s.heap b (.list y)) (hsz : x.length + y.length ≤ sizeLine) : DoV prog w C X A (binaryOp .Add a b) (.list (x ++ y)) s := by
  intro s₁ e₁ Q E k
  have ha' := ha.ext e₁.ofNo
  have hb' := hb.ext e₁.ofNo
  have bd' : ∀ a, X a → a < s₁.heap.objs.size := fun a h => Nat.lt_of_lt_of_le (bd a h) e₁.size
  refine Mine.Rep.elL ((ha')) fun l items hx hl hr => ?_
  ·
    refine Mine.Rep.elL ((hb')) fun l2 items2 hx2 hl2 hr2 => ?_
    ·
      obtain ⟨⟨cls, dd, data, sl⟩, ho, hc, n, hd⟩ := id hl
      obtain ⟨⟨cls2, dd2, data2, sl2⟩, ho2, hc2, n2, hd2⟩ := id hl2
      simp only at hc hd hc2 hd2
      subst hc hd hc2 hd2
      have h1 : items.size = x.length := by simpa using hr.length
      have h2 : items2.size = y.length := by simpa using hr2.length
      refine concat_meets ⟨_, ho, rfl⟩ ⟨_, ho2, rfl⟩ noFill_list_add seq_list_add PySem.F.slot_list_add PySem.F.entry_list_add (PySem.F.args_list_add_2 _ _) (list_addW l l2 items items2 n n2 dd dd2 sl sl2 (by omega)) ⟨ho, ho2, ?_⟩
      refine k _ _ (.push) ?_
      exact rep_newList bd' (by simpa using hr.append hr2)

end Mine
end
section
open PySem PySem.W PySem.Calls PyProof.Rows
open PySem.SeqAt (EqAt RcAt RcNeAt)
set_option Elab.async false
set_option maxRecDepth 100000
set_option linter.unusedVariables false
namespace Mine
variable {prog : Program} {w : World} {K : Frag} {mb : Str → Option Value} {X Y : Addr → Prop} {C : Mem} {s s' s'' : Shared} {A : Around} {env : Env} {ρ : List (Str × PV)} {n : Nat}

/-! equality of plain values and of lists of them -/
noncomputable def immB : PV → Bool
  | .str _ | .bool _ | .none => true
  | _ => false
noncomputable def eqI : PV → PV → Bool
  | .str a, .str b => a == b
  | .bool a, .bool b => a == b
  | .none, .none => true
  | _, _ => false
noncomputable def eqIs : List PV → List PV → Bool
  | [], [] => true
  | a :: x, b :: y => eqI a b && eqIs x y
  | _, _ => false
theorem imm_el {G : PV → Prop} {p : PV} (h : immB p = true) (h1 : G .none) (h2 : ∀ b, G (.bool b)) (h3 : ∀ x, G (.str x)) : G p := by
  cases p with
  | none => exact h1
  | bool b => exact h2 b
  | str x => exact h3 x
  | int | list | tup | val => exact absurd h Bool.false_ne_true
theorem eqAt_imm {h : Heap} {a b : Value} {p q : PV} (ha : Rep X h a p) (hb : Rep X h b q) (hp : immB p = true) (hq : immB q = true) : EqAt A s a b (eqI p q) :=
  imm_el (G := fun p => Rep X h a p → EqAt A s a b (eqI p q)) hp
    (fun ha => ha.elO fun _ => imm_el (G := fun q => Rep X h b q → EqAt A s .none b (eqI .none q)) hq (fun hb => hb.elO fun _ => EqAt.same _) (fun _ hb => hb.elB fun _ => EqAt.none_bool _) (fun _ hb => hb.elS fun _ => EqAt.none_str _ _) hb)
    (fun c ha => ha.elB fun _ => imm_el (G := fun q => Rep X h b q → EqAt A s (.bool c) b (eqI (.bool c) q)) hq (fun hb => hb.elO fun _ => EqAt.bool_none _) (fun _ hb => hb.elB fun _ => EqAt.bool_bool _ _) (fun _ hb => hb.elS fun _ => EqAt.bool_str _ _ _) hb)
    (fun x ha => ha.elS fun t => imm_el (G := fun q => Rep X h b q → EqAt A s (.str x t) b (eqI (.str x) q)) hq (fun hb => hb.elO fun _ => EqAt.str_none _ _) (fun _ hb => hb.elB fun _ => EqAt.str_bool _ _ _) (fun _ hb => hb.elS fun _ => EqAt.str_str _ _ _ _) hb) ha
theorem eqAts {h : Heap} : ∀ {vs us : List Value} {x y : List PV}, Reps X h vs x → Reps X h us y → (∀ p ∈ x, immB p = true) → (∀ p ∈ y, immB p = true) → ∀ j (h1 : j < vs.length) (h2 : j < us.length),
    EqAt A s vs[j] us[j] (eqI (x.getD j .none) (y.getD j .none)) := by
  intro vs us x y r
  induction r using Reps.rec (motive_1 := fun _ _ _ => True) generalizing us y with
  | none | bool | int | str | list | tup | val => trivial
  | nil => intro _ _ _ j h1; exact absurd h1 (Nat.not_lt_zero _)
  | cons a r _ ih =>
    intro r' hx hy j h1 h2
    cases r' with
    | nil => exact absurd h2 (Nat.not_lt_zero _)
    | cons b r' =>
      cases j with
      | zero => exact eqAt_imm a b (hx _ (.head _)) (hy _ (.head _))
      | succ j => exact ih r' (fun p hp => hx p (.tail _ hp)) (fun p hp => hy p (.tail _ hp)) j (by simpa using h1) (by simpa using h2)
theorem eqIs_range {x : List PV} : ∀ {y : List PV}, x.length = y.length → (List.range x.length).all (fun j => eqI (x.getD j .none) (y.getD j .none)) = eqIs x y := by
  induction x with
  | nil => intro y h; cases y with
    | nil => rfl
    | cons => cases h
  | cons a x ih => intro y h; cases y with
    | nil => cases h
    | cons b y =>
      rw [List.length_cons, List.range_succ_eq_map, List.all_cons, List.all_map]
      exact congrArg (eqI a b && ·) (ih (Nat.succ.inj h))
theorem eqIs_len {x : List PV} : ∀ {y : List PV}, x.length ≠ y.length → eqIs x y = false := by
  induction x with
  | nil => intro y h; cases y with
    | nil => exact absurd rfl h
    | cons => rfl
  | cons a x ih => intro y h; cases y with
    | nil => rfl
    | cons b y => exact (congrArg (eqI a b && ·) (ih fun q => h (congrArg (· + 1) q))).trans (Bool.and_false _)
theorem eqIs_map {α : Type} [DecidableEq α] {f : α → PV} (hf : ∀ a b, eqI (f a) (f b) = decide (a = b)) {x : List α} : ∀ {y : List α}, eqIs (x.map f) (y.map f) = decide (x = y) := by
  induction x with
  | nil => intro y; cases y with
    | nil => rfl
    | cons => rfl
  | cons a x ih => intro y; cases y with
    | nil => rfl
    | cons b y =>
      show (eqI (f a) (f b) && eqIs (x.map f) (y.map f)) = _
      rw [hf, ih, ← Bool.decide_and]
      exact decide_eq_decide.mpr (Iff.of_eq (List.cons.injEq ..).symm)
theorem eqIs_str {x y : List Str} : eqIs (x.map .str) (y.map .str) = decide (x = y) := eqIs_map fun _ _ => rfl
theorem rcAt_lists {h : Shared} {l l2 : Addr} {items items2 : Array Value} {x y : List PV} (hl : h.heap.IsList l items) (hl2 : h.heap.IsList l2 items2) (hr : Reps X h.heap items.toList x) (hr2 : Reps X h.heap items2.toList y)
    (hx : ∀ p ∈ x, immB p = true) (hy : ∀ p ∈ y, immB p = true) (hu : A.units < cLine) : RcAt A h (.ref l) (.ref l2) (eqIs x y) ∧ RcNeAt A h (.ref l) (.ref l2) (!eqIs x y) := by
  have h1 : items.size = x.length := hr.length
  have h2 : items2.size = y.length := hr2.length
  by_cases hs : x.length = y.length
  · have he : ∀ j (k1 : j < items.size) (k2 : j < items2.size), EqAt A.in1 h items[j] items2[j] (eqI (x.getD j .none) (y.getD j .none)) := fun j k1 k2 => eqAts (A := A.in1) (s := h) hr hr2 hx hy j k1 k2
    have q1 := RcAt.lists hl hl2 (h1.trans (hs.trans h2.symm)) hu he
    have q2 := RcNeAt.lists hl hl2 (h1.trans (hs.trans h2.symm)) hu he
    rw [h1, eqIs_range hs] at q1 q2
    exact ⟨q1, q2⟩
  · rw [eqIs_len hs]
    exact ⟨RcAt.lists_lengths hl hl2 (bne_iff_ne.mpr fun q => hs (h1.symm.trans (q.trans h2))) hu, RcNeAt.lists_lengths hl hl2 (bne_iff_ne.mpr fun q => hs (h1.symm.trans (q.trans h2))) hu⟩

theorem op_ne_list {x y : List PV} {a b : Value} (hu : A.units < cLine) (hx : ∀ p ∈ x, immB p = true) (hy : ∀ p ∈ y, immB p = true) (ha : Rep X s.heap a (.list x)) (hb : Rep X s.heap b (.list y)) : DoV prog w C X A (compareOp .NotEq a b) (.bool (!eqIs x y)) s := by
  intro s₁ e₁ Q E k
  refine Mine.Rep.elL ((ha.ext e₁.ofNo)) fun _ _ _ hl hr => ?_
  refine Mine.Rep.elL ((hb.ext e₁.ofNo)) fun _ _ _ hl2 hr2 => ?_
  exact (rcAt_lists hl hl2 hr hr2 hx hy hu).2 prog w E Q (k _ _ .refl (.bool _))

theorem imm_strs {l : List Str} : ∀ p ∈ l.map PV.str, immB p = true := fun p hp => by refine Mine.mapEl hp fun x _ => ?_; rfl
/-- what a plain value stands for, and whether it equals p -/
noncomputable def toPV : Value → PV
  | .str x _ => .str x
  | .bool b => .bool b
  | .none => .none
  | _ => .int 0
noncomputable def eqV (p : PV) (v : Value) : Bool := eqI (toPV v) p
theorem toPV_eq {h : Heap} {v : Value} {q : PV} (hq : Rep X h v q) (iq : immB q = true) : toPV v = q :=
  imm_el (G := fun q => Rep X h v q → toPV v = q) iq (fun r => r.elO fun _ => rfl) (fun _ r => r.elB fun _ => rfl) (fun _ r => r.elS fun _ => rfl) hq
theorem eqV_eq {h : Heap} {v : Value} {p q : PV} (hq : Rep X h v q) (iq : immB q = true) : eqV p v = eqI q p := congrArg (eqI · p) (toPV_eq hq iq)
theorem any_eqV {h : Heap} {p : PV} {vs : List Value} {x : List PV} (r : Reps X h vs x) (hx : ∀ q ∈ x, immB q = true) : vs.any (eqV p) = x.any (fun q => eqI q p) :=
  reps_ind (P := fun vs x => (∀ q ∈ x, immB q = true) → vs.any (eqV p) = x.any (fun q => eqI q p)) (fun _ => rfl) (fun a _ ih hx => by rw [List.any_cons, List.any_cons, ih fun q hq => hx q (.tail _ hq), eqV_eq a (hx _ (.head _))]) r hx
theorem eqV_at {h : Heap} {p : PV} {b : Value} (hb : Rep X h b p) (ip : immB p = true) {vs : List Value} {x : List PV} (r : Reps X h vs x) (hx : ∀ q ∈ x, immB q = true) : ∀ y ∈ vs, EqAt A s y b (eqV p y) :=
  reps_ind (P := fun vs x => (∀ q ∈ x, immB q = true) → ∀ y ∈ vs, EqAt A s y b (eqV p y)) (fun _ y hy => nomatch hy) (fun a _ ih hx y hy => by
    rcases List.mem_cons.mp hy with rfl | hy
    · rw [eqV_eq a (hx _ (.head _))]; exact eqAt_imm a hb (hx _ (.head _)) ip
    · exact ih (fun q hq => hx q (.tail _ hq)) y hy) r hx
theorem op_notIn_list {x : List PV} {p : PV} {a b : Value} (hx : ∀ p ∈ x, immB p = true) (ip : immB p = true) (ha : Rep X s.heap a p) (hb : Rep X s.heap b (.list x)) : DoV prog w C X A (compareOp .NotIn a b) (.bool (!x.any fun q => eqI q p)) s := by
  intro s₁ e₁ Q E k
  have ha' := ha.ext e₁.ofNo
  refine Mine.Rep.elL ((hb.ext e₁.ofNo)) fun _ _ _ hl hr => ?_
  ·
    refine PySem.SeqAt.notIn_listAt (eqV p) hl (fun y hy => eqV_at ha' ip hr hx y (Array.mem_toList_iff.mpr hy)) ?_
    rw [← Array.any_toList, any_eqV hr hx]
    exact k _ _ .refl (.bool _)
theorem any_strs {l : List Str} {x : Str} : (l.map PV.str).any (fun q => eqI q (.str x)) = l.contains x := by
  induction l with
  | nil => rfl
  | cons a l ih =>
    rw [List.map_cons, List.any_cons, ih, List.contains_cons, show eqI (.str a) (.str x) = (a == x) from rfl, BEq.comm]
end Mine
end
section
open PySem PySem.W PySem.Calls PyProof.Rows
set_option Elab.async false
set_option maxRecDepth 100000
set_option linter.unusedVariables false
namespace Mine
variable {prog : Program} {w : World} {K : Frag} {mb : Str → Option Value} {X Y : Addr → Prop} {C : Mem} {s s' s'' : Shared} {A : Around} {env : Env} {ρ : List (Str × PV)} {n : Nat}

abbrev DoVs (prog : Program) (w : World) (C : Mem) (X : Addr → Prop) (A : Around) (m : Sem (List Value)) (ps : List PV) (s : Shared) : Prop := Do prog w C A m (fun vs s => Reps X s.heap vs ps) s

/-- arguments, none starred -/
noncomputable def Evs (prog : Program) (w : World) (C : Mem) (X : Addr → Prop) (A : Around) (env : Env) (es : List Expr) (ps : List PV) (s : Shared) : Prop :=
  starEach es env = es.map (fun e => (false, eval e env)) ∧ DoVs prog w C X A (spliced (es.map fun e => (false, eval e env))) ps s
theorem evs_nil : Evs prog w C X A env [] [] s := ⟨rfl, fun s₁ e₁ Q E k => spliced_nil (k _ _ .refl .nil)⟩
theorem evs_cons {e : Expr} {es : List Expr} {p : PV} {ps : List PV} (h : Ev prog w C X A env e p s) (hs : Evs prog w C X A env es ps s) (he : autoParam (starEach (e :: es) env = (false, eval e env) :: starEach es env) Mine.autoR) : Evs prog w C X A env (e :: es) (p :: ps) s := by
  refine ⟨by rw [he, hs.1]; rfl, fun s₁ e₁ Q E k => spliced_cons (h s₁ e₁ _ _ fun v s₂ e₂ r => hs.2 s₂ (e₁.trans e₂) _ _ fun vs s₃ e₃ rs => ?_)⟩
  exact k _ _ (e₂.trans e₃) (.cons (r.ext e₃.ofNo) rs)
theorem backTo_plain {pos : Pos} {es : List Expr} : backTo pos (es.map fun e => (false, eval e env)) = es.map fun e => (false, eval e env) := by
  unfold backTo
  rw [List.map_map]
  rfl
theorem plain_any {es : List Expr} : (es.map fun e => ((false, eval e env) : Bool × Sem Value)).any (·.1) = false := by
  induction es with
  | nil => rfl
  | cons e es ih => rw [List.map_cons, List.any_cons, ih]; rfl
theorem do_evalArgs {f : Value} {es : List Expr} {ps : List PV} (h : DoVs prog w C X A (spliced (es.map fun e => (false, eval e env))) ps s) :
    Do prog w C A (evalArgs f true (es.map fun e => (false, eval e env)) []) (fun a s => Reps X s.heap a.pos ps ∧ a.kw = []) s := by
  intro s₁ e₁ Q E k
  cases es with
  | nil =>
    unfold evalArgs
    show wpAny _ _ (spliced [] >>= _) _ _ _
    refine wpAny_bind (h s₁ e₁ _ _ fun vs s₂ e₂ r => wpAny_bind (wpAny_pure (wpAny_holding ?_)))
    exact wpAny_bind (wpAny_pure (wpAny_bind (wpAny_pure (wpAny_pure (k _ _ e₂ ⟨r, rfl⟩)))))
  | cons e es => exact evalArgs_plain (h s₁ e₁ _ _ fun vs s₂ e₂ r => k _ _ e₂ ⟨r, rfl⟩)

theorem do_callWith_builtin {pos : Pos} {id : String} {first : List Value} {es : List Expr} {ps : List PV} {R : Value → Shared → Prop} (h : Evs prog w C X A env es ps s)
    (hc : ∀ vs s', Ext prog w noX C s s' → Reps X s'.heap vs ps → Do prog w C A (call (.builtin id) (first ++ vs)) R s') : Do prog w C A (callWith pos (.builtin id) first (backTo pos (starEach es env)) []) R s := by
  intro s₁ e₁ Q E k
  rw [h.1, backTo_plain]
  refine callWith_builtin plain_any (do_evalArgs h.2 s₁ e₁ _ _ fun a s₂ e₂ r => ?_)
  obtain ⟨pos', kw⟩ := a
  (refine Mine.el0b r fun hq2 hq1 => ?_; clear r; revert hq2; intro r; obtain rfl := hq1)
  exact hc _ s₂ (e₁.trans e₂) r s₂ .refl _ _ fun v s₃ e₃ rv => k v s₃ (e₂.trans e₃) rv
theorem do_callWith_type {pos : Pos} {T : String} {es : List Expr} {ps : List PV} {R : Value → Shared → Prop} (h : Evs prog w C X A env es ps s)
    (hc : ∀ vs s', Ext prog w noX C s s' → Reps X s'.heap vs ps → Do prog w C A (call (.type T) vs) R s') : Do prog w C A (callWith pos (.type T) [] (backTo pos (starEach es env)) []) R s := by
  intro s₁ e₁ Q E k
  rw [h.1, backTo_plain]
  refine PySem.callWith_type plain_any (do_evalArgs h.2 s₁ e₁ _ _ fun a s₂ e₂ r => ?_)
  obtain ⟨pos', kw⟩ := a
  (refine Mine.el0b r fun hq4 hq3 => ?_; clear r; revert hq4; intro r; obtain rfl := hq3)
  exact hc _ s₂ (e₁.trans e₂) r s₂ .refl _ _ fun v s₃ e₃ rv => k v s₃ (e₂.trans e₃) rv
theorem do_callWith_function {pos : Pos} {a : Addr} {o : Obj} {fd : FuncData} {first : List Value} {es : List Expr} {ps : List PV} {R : Value → Shared → Prop} (h : Evs prog w C X A env es ps s) (ho : s.heap.get? a = some o) (hd : o.data = .func fd)
    (hc : ∀ vs s', Ext prog w noX C s s' → Reps X s'.heap vs ps → Do prog w C A (call (.ref a) (first ++ vs)) R s') : Do prog w C A (callWith pos (.ref a) first (backTo pos (starEach es env)) []) R s := by
  intro s₁ e₁ Q E k
  rw [h.1, backTo_plain]
  refine callWith_function (o := o) (fd := fd) (do_evalArgs h.2 s₁ e₁ _ _ fun a s₂ e₂ r => ?_)
  obtain ⟨pos', kw⟩ := a
  (refine Mine.el0b r fun hq6 hq5 => ?_; clear r; revert hq6; intro r; obtain rfl := hq5)
  refine ⟨⟨(e₁.trans e₂).keepD ho (fun q => q) (by rw [hd]; first | exact fun _ _ h => by cases h | exact fun _ h => by cases h | nofun), hd⟩, ?_⟩
  exact hc _ s₂ (e₁.trans e₂) r s₂ .refl _ _ fun v s₃ e₃ rv => k v s₃ (e₂.trans e₃) rv

theorem ev_call_builtin {func : Expr} {pos : Pos} {id : String} {es : List Expr} {ps : List PV} {R : Value → Shared → Prop} (hf : Ev prog w C X A env func (.val (.builtin id)) s) (h : Evs prog w C X A env es ps s)
    (hc : ∀ vs s', Ext prog w noX C s s' → Reps X s'.heap vs ps → Do prog w C A (call (.builtin id) vs) R s')
    (he : autoParam (eval (.Call func es [] pos) env = (do callWith pos (← eval func env) [] (backTo pos (starEach es env)) (backToKw pos (keywordEach [] env)))) Mine.autoR) : Do prog w C A (eval (.Call func es [] pos) env) R s := by
  intro s₁ e₁ Q E k
  refine Call_ (hf s₁ e₁ _ _ fun f s₂ e₂ r => ?_) he
  refine Mine.Rep.elV r fun _ => ?_
  exact do_callWith_builtin h (fun vs s' e r => by simpa using hc vs s' e r) s₂ (e₁.trans e₂) _ _ fun v s₃ e₃ rv => k v s₃ (e₂.trans e₃) rv
theorem ev_call_type {func : Expr} {pos : Pos} {T : String} {es : List Expr} {ps : List PV} {R : Value → Shared → Prop} (hf : Ev prog w C X A env func (.val (.type T)) s) (h : Evs prog w C X A env es ps s)
    (hc : ∀ vs s', Ext prog w noX C s s' → Reps X s'.heap vs ps → Do prog w C A (call (.type T) vs) R s')
    (he : autoParam (eval (.Call func es [] pos) env = (do callWith pos (← eval func env) [] (backTo pos (starEach es env)) (backToKw pos (keywordEach [] env)))) Mine.autoR) : Do prog w C A (eval (.Call func es [] pos) env) R s := by
  intro s₁ e₁ Q E k
  refine Call_ (hf s₁ e₁ _ _ fun f s₂ e₂ r => ?_) he
  refine Mine.Rep.elV r fun _ => ?_
  exact do_callWith_type h hc s₂ (e₁.trans e₂) _ _ fun v s₃ e₃ rv => k v s₃ (e₂.trans e₃) rv
theorem ev_call_fn {func : Expr} {pos : Pos} {a : Addr} {o : Obj} {fd : FuncData} {es : List Expr} {ps : List PV} {R : Value → Shared → Prop} (hf : Ev prog w C X A env func (.val (.ref a)) s) (h : Evs prog w C X A env es ps s) (ho : s.heap.get? a = some o) (hd : o.data = .func fd)
    (hc : ∀ vs s', Ext prog w noX C s s' → Reps X s'.heap vs ps → Do prog w C A (call (.ref a) vs) R s')
    (he : autoParam (eval (.Call func es [] pos) env = (do callWith pos (← eval func env) [] (backTo pos (starEach es env)) (backToKw pos (keywordEach [] env)))) Mine.autoR) : Do prog w C A (eval (.Call func es [] pos) env) R s := by
  intro s₁ e₁ Q E k
  refine Call_ (hf s₁ e₁ _ _ fun f s₂ e₂ r => ?_) he
  refine Mine.Rep.elV r fun _ => ?_
  exact do_callWith_function h ho hd (fun vs s' e r => by simpa using hc vs s' e r) s₂ (e₁.trans e₂) _ _ fun v s₃ e₃ rv => k v s₃ (e₂.trans e₃) rv

/-- a method that is a built-in one -/
noncomputable def Meth (prog : Program) (w : World) (C : Mem) (X : Addr → Prop) (A : Around) (name : Str) (q : PV) (ps : List PV) (p : PV) (s : Shared) : Prop := ∃ id : String,
  (∀ v s' (pl : Sem Bool), Ext prog w noX C s s' → Rep X s'.heap v q → Do prog w C A (getMethod v name pl) (fun fx _ => fx = (.builtin id, [v])) s') ∧
  (∀ v vs s', Ext prog w noX C s s' → Rep X s'.heap v q → Reps X s'.heap vs ps → DoV prog w C X A (call (.builtin id) (v :: vs)) p s')
theorem ev_method {o : Expr} {name : Str} {apos pos : Pos} {es : List Expr} {pl : Sem Bool} {ps : List PV} {p q : PV} (ho : Ev prog w C X A env o q s) (h : Evs prog w C X A env es ps s) (m : Meth prog w C X A name q ps p s)
    (he : autoParam (eval (.Call (.Attribute o name apos) es [] pos) env = (do
      let ov ← eval o env
      standAt apos.atName
      let (f, first) ← holding [ov] (getMethod ov name pl)
      callWith pos f first (backTo pos (starEach es env)) [])) Mine.autoR) : Ev prog w C X A env (.Call (.Attribute o name apos) es [] pos) p s := by
  (refine Mine.el1b m fun id hg hc => ?_; try clear m)
  intro s₁ e₁ Q E k
  refine MethodCall_ (ho s₁ e₁ _ _ fun v s₂ e₂ r => hg v s₂ pl (e₁.trans e₂) r s₂ .refl _ _ fun fx s₃ e₃ hfx => ?_) he
  subst hfx
  refine do_callWith_builtin ⟨h.1, h.2.ext (e₁.trans (e₂.trans e₃))⟩ (fun vs s' e r' => ?_) s₃ .refl _ _ fun v s₄ e₄ rv => k v s₄ (e₂.trans (e₃.trans e₄)) rv
  exact hc v vs s' (e₁.trans (e₂.trans (e₃.trans e))) (r.ext ((e₃.trans e).ofNo)) r'
theorem evs_ext {es : List Expr} {ps : List PV} (h : Evs prog w C X A env es ps s) (e : Ext prog w noX C s s') : Evs prog w C X A env es ps s' := ⟨h.1, h.2.ext e⟩

/-! methods of str -/
section
variable {x y : Str}
theorem m_startswith : Meth prog w C X A "startswith" (.str x) [.str y] (.bool (Txt.startswith x y)) s := ⟨"str.startswith",
  fun v s' pl e r => (by refine Mine.Rep.elS r fun _ => ?_; exact fun s₁ e₁ Q E k => GM.startswith (k _ _ .refl rfl)),
  fun v vs s' e r rs => (by refine Mine.Rep.elS r fun _ => ?_; refine Mine.Reps.elC rs fun _ _ a b => ?_; refine Mine.Rep.elS a fun _ => ?_; refine Mine.Reps.elN b ?_; exact fun s₁ e₁ Q E k => SC.startswith (k _ _ .refl (.bool _)))⟩
theorem m_endswith : Meth prog w C X A "endswith" (.str x) [.str y] (.bool (Txt.endswith x y)) s := ⟨"str.endswith",
  fun v s' pl e r => (by refine Mine.Rep.elS r fun _ => ?_; exact fun s₁ e₁ Q E k => GM.endswith (k _ _ .refl rfl)),
  fun v vs s' e r rs => (by refine Mine.Rep.elS r fun _ => ?_; refine Mine.Reps.elC rs fun _ _ a b => ?_; refine Mine.Rep.elS a fun _ => ?_; refine Mine.Reps.elN b ?_; exact fun s₁ e₁ Q E k => SC.endswith (k _ _ .refl (.bool _)))⟩
theorem m_count : Meth prog w C X A "count" (.str x) [.str y] (.int (Txt.count x y)) s := ⟨"str.count",
  fun v s' pl e r => (by refine Mine.Rep.elS r fun _ => ?_; exact fun s₁ e₁ Q E k => GM.count (k _ _ .refl rfl)),
  fun v vs s' e r rs => (by refine Mine.Rep.elS r fun _ => ?_; refine Mine.Reps.elC rs fun _ _ a b => ?_; refine Mine.Rep.elS a fun _ => ?_; refine Mine.Reps.elN b ?_; exact fun s₁ e₁ Q E k => SC.count (k _ _ .tok (.int _ _)))⟩
theorem reps_of_strValues {h : Heap} : ∀ {l : List (Str × Tok)}, Reps X h (strValues l) ((l.map (·.1)).map .str)
  | [] => .nil
  | (x, t) :: l => .cons (.str x t) reps_of_strValues
theorem strValues_of_reps {h : Heap} : ∀ {vs : List Value} {l : List Str}, Reps X h vs (l.map .str) → ∃ l' : List (Str × Tok), vs = strValues l' ∧ l'.map (·.1) = l
  | _, [], .nil => ⟨[], rfl, rfl⟩
  | _, x :: l, .cons a r => by
    cases a with
    | str _ t =>
      refine Mine.el1b (strValues_of_reps r) fun l' h1 h2 => ?_
      exact ⟨(x, t) :: l', by rw [h1]; rfl, by rw [List.map_cons, h2]⟩
theorem split_push {t u : Tok} {E : Value → Shared → Prop} {Q : Value → Shared → Prop} (hy : (y.length == 0) = false)
    (hq : ∀ (l : List (Str × Tok)) tk, l.map (·.1) = Txt.split x y → Q (.ref s.heap.objs.size) { s with toks := tk, heap := s.heap.push { cls := .type "list", data := .seq (strValues l).toArray } })
    (hsz : x.length ≤ sizeLine) (hsz2 : (Builtin.Str.partsBetween x (Builtin.Str.occurrences x y 0 x.length (x.length + 1)) y.length).length ≤ sizeLine) :
    wpAny (model prog w) A (call (.builtin "str.split") [.str x t, .str y u]) Q E s := by
  open Builtin.Str in
  cases h1 : (decide (x.length < y.length) || decide (Builtin.Str.strKind x < Builtin.Str.strKind y))
  · cases hf : (Builtin.Str.occurrences x y 0 x.length (x.length + 1)).isEmpty
    · refine call_meets PySem.F.slot_str_split (typeIs_str _ _ _) PySem.F.entry_str_split (PySem.F.args_str_split_2 _ _) (meets_str_split_sep x y t u h1 hy hf hsz hsz2) ?_
      show wants Q E _ { s with toks := _, heap := s.heap.push { cls := .type "list", data := .seq (strsFrom s.toks (Builtin.Str.partsBetween x (Builtin.Str.occurrences x y 0 x.length (x.length + 1)) y.length)).toArray } }
      rw [strsFrom_eq]
      exact hq (numbered s.toks _) _ ((numbered_texts _ _).trans ((if_neg (ne_true_of_eq_false h1)).trans (if_neg (ne_true_of_eq_false hf))).symm)
    · exact call_meets PySem.F.slot_str_split (typeIs_str _ _ _) PySem.F.entry_str_split (PySem.F.args_str_split_2 _ _) (meets_str_split_not_found x y t u h1 hy hf)
        (hq [(x, t)] s.toks ((if_neg (ne_true_of_eq_false h1)).trans (if_pos hf)).symm)
  · exact call_meets PySem.F.slot_str_split (typeIs_str _ _ _) PySem.F.entry_str_split (PySem.F.args_str_split_2 _ _) (meets_str_split_cannot_occur x y t u h1)
      (hq [(x, t)] s.toks (if_pos h1).symm)
theorem m_split (bd : ∀ a, X a → a < s.heap.objs.size) (hy : (y.length == 0) = false) (hsz : x.length ≤ sizeLine) (hsz2 : (Builtin.Str.partsBetween x (Builtin.Str.occurrences x y 0 x.length (x.length + 1)) y.length).length ≤ sizeLine) :
    Meth prog w C X A "split" (.str x) [.str y] (.list ((Txt.split x y).map .str)) s := ⟨"str.split",
  fun v s' pl e r => (by refine Mine.Rep.elS r fun _ => ?_; exact fun s₁ e₁ Q E k => GM.split (k _ _ .refl rfl)),
  fun v vs s' e r rs => (by
    refine Mine.Rep.elS r fun _ => ?_; cases rs with
    | cons a b =>
      refine Mine.Rep.elS a fun _ => ?_; refine Mine.Reps.elN b ?_
      intro s₁ e₁ Q E k
      have bd' : ∀ a, X a → a < s₁.heap.objs.size := fun a h => Nat.lt_of_lt_of_le (bd a h) (e.trans e₁).size
      refine split_push hy (fun l tk hl => k _ _ (Ext.push.tokR) ?_) hsz hsz2
      rw [← hl]
      exact rep_newList bd' reps_of_strValues)⟩
theorem m_join {l : List Str} (hok : JoinOk x l = true) : Meth prog w C X A "join" (.str x) [.list (l.map .str)] (.str (Txt.join x l)) s := ⟨"str.join",
  fun v s' pl e r => (by refine Mine.Rep.elS r fun _ => ?_; exact fun s₁ e₁ Q E k => GM.join (k _ _ .refl rfl)),
  fun v vs s' e r rs => (by
    refine Mine.Rep.elS r fun _ => ?_; cases rs with
    | cons a b =>
      refine Mine.Reps.elN b ?_
      intro s₁ e₁ Q E k
      refine Mine.Rep.elL ((a.ext e₁.ofNo)) fun D items hx hl hr => ?_
      ·
        refine Mine.el1b (strValues_of_reps hr) fun l' h1 h2 => ?_
        refine SC.join (l := l') (by rw [← h1]; exact hl) h2 hok fun t' n => k _ _ .tok (.str _ _))⟩
end
end Mine
end
section
open PySem PySem.W PySem.Calls PyProof.Rows
set_option Elab.async false
set_option maxRecDepth 100000
set_option linter.unusedVariables false
namespace Mine
variable {prog : Program} {w : World} {K : Frag} {mb : Str → Option Value} {X Y : Addr → Prop} {C : Mem} {s s' s'' : Shared} {A : Around} {env : Env} {ρ : List (Str × PV)} {n : Nat}

/-! built-in functions -/
theorem c_len_str {x : Str} {vs : List Value} (r : Reps X s.heap vs [.str x]) (hsz : x.length ≤ sizeLine) : DoV prog w C X A (call (.builtin "len") vs) (.int x.length) s := by
  refine Mine.Reps.elC r fun _ _ a b => ?_
  ·
    refine Mine.Rep.elS a fun _ => ?_; refine Mine.Reps.elN b ?_
    have : sizeLine = 16777216 := by decide
    exact fun s₁ e₁ Q E k => P.len_str (by omega) (k _ _ .tok (.int _ _))
theorem c_len_list {l : List PV} {vs : List Value} (r : Reps X s.heap vs [.list l]) (hsz : l.length ≤ sizeLine) : DoV prog w C X A (call (.builtin "len") vs) (.int l.length) s := by
  refine Mine.Reps.elC r fun _ _ a b => ?_
  ·
    refine Mine.Reps.elN b ?_
    intro s₁ e₁ Q E k
    refine Mine.Rep.elL ((a.ext e₁.ofNo)) fun D items hx hl hr => ?_
    ·
      have h1 : items.size = l.length := by simpa using hr.length
      have : sizeLine = 16777216 := by decide
      refine call_len_list hl (by omega) ?_
      rw [h1]
      exact k _ _ .tok (.int _ _)
theorem c_chr {i : Int} {vs : List Value} (r : Reps X s.heap vs [.int i]) (h0 : 0 ≤ i) (h1 : i ≤ 1114111) : DoV prog w C X A (call (.builtin "chr") vs) (.str ⟨#[i.toNat]⟩) s := by
  refine Mine.Reps.elC r fun _ _ a b => ?_
  refine Mine.Rep.elI a fun _ => ?_; refine Mine.Reps.elN b ?_; exact fun s₁ e₁ Q E k => chr_of_range h0 h1 (k _ _ .tok (.str _ _))
theorem c_str_bool {b : Bool} {vs : List Value} (r : Reps X s.heap vs [.bool b]) : DoV prog w C X A (call (.type "str") vs) (.str (if b then "True" else "False")) s := by
  refine Mine.Reps.elC r fun _ _ a b => ?_
  refine Mine.Rep.elB a fun _ => ?_; refine Mine.Reps.elN b ?_; exact fun s₁ e₁ Q E k => P.str_of_bool (k _ _ .tok (.str _ _))
theorem ints_of_reps {h : Heap} : ∀ {vs : List Value} {l : List Int}, Reps X h vs (l.map .int) → ∃ l' : List (Int × Tok), vs = l'.map (fun p => Value.int p.1 p.2) ∧ l'.map (·.1) = l
  | _, [], .nil => ⟨[], rfl, rfl⟩
  | _, x :: l, .cons a r => by
    cases a with
    | int _ t =>
      refine Mine.el1b (ints_of_reps r) fun l' h1 h2 => ?_
      exact ⟨(x, t) :: l', by rw [h1]; rfl, by rw [List.map_cons, h2]⟩
theorem c_sum {l : List Int} {vs : List Value} (hA : A.handled = none) (r : Reps X s.heap vs [.list (l.map .int)]) : DoV prog w C X A (call (.builtin "sum") vs) (.int l.sum) s := by
  refine Mine.Reps.elC r fun _ _ a b => ?_
  ·
    refine Mine.Reps.elN b ?_
    intro s₁ e₁ Q E k
    refine Mine.Rep.elL ((a.ext e₁.ofNo)) fun D items hx hl hr => ?_
    ·
      refine Mine.el1b (ints_of_reps hr) fun l' h1 h2 => ?_
      have hi : items = intItems l'.toArray := by
        apply Array.toList_inj.mp
        rw [h1]
        simp [intItems]
      rw [hi] at hl
      refine with_size (sum_intListG hA hl fun h' tk t' hk hsz => ?_)
      have hs : preSum (numAt l'.toArray) l'.toArray.size = l.sum := by
        rw [preSum_eq, List.take_of_length_le (by simp), ← h2]
      rw [hs]
      exact k _ _ (.ofKeep hsz hk rfl rfl) (.int _ _)

/-! subscripts -/
theorem ev_ifexp {test body orelse : Expr} {pos : Pos} {b : Bool} {p : PV} (ht : Ts prog w C A env test b s) (h1 : b = true → Ev prog w C X A env body p s) (h2 : b = false → Ev prog w C X A env orelse p s) : Ev prog w C X A env (.IfExp test body orelse pos) p s := by
  intro s₁ e₁ Q E k
  refine wpAny_IfExp (ht s₁ e₁ _ _ fun b' s₂ e₂ hb => ?_)
  subst hb
  cases b' with
  | true => exact h1 rfl s₂ (e₁.trans e₂) _ _ fun v s₃ e₃ r => k v s₃ (e₂.trans e₃) r
  | false => exact h2 rfl s₂ (e₁.trans e₂) _ _ fun v s₃ e₃ r => k v s₃ (e₂.trans e₃) r
theorem ev_neg {x : Expr} {pos : Pos} {i : Int} (h : Ev prog w C X A env x (.int i) s) : Ev prog w C X A env (.UnaryOp .USub x pos) (.int (-i)) s := by
  intro s₁ e₁ Q E k
  refine wpAny_UnaryOp (h s₁ e₁ _ _ fun v s₂ e₂ r => ?_)
  refine Mine.Rep.elI r fun _ => ?_
  exact P.neg_int (k _ _ e₂.tokR (.int _ _))
theorem ev_list {es : List Expr} {pos : Pos} {ps : List PV} (bd : ∀ a, X a → a < s.heap.objs.size) (h : Evs prog w C X A env es ps s) (hsz : ps.length ≤ sizeLine) : Ev prog w C X A env (.List es pos) (.list ps) s := by
  intro s₁ e₁ Q E k
  refine List_ ?_
  rw [h.1, backTo_plain]
  refine h.2 s₁ e₁ _ _ fun vs s₂ e₂ r => wpAny_newObj_type (k _ _ (e₂.trans .push) (rep_newList (fun a h => Nat.lt_of_lt_of_le (bd a h) (e₁.trans e₂).size) r)) ?_
  show vs.toArray.size ≤ sizeLine
  rw [List.size_toArray, r.length]; exact hsz

theorem wpAny_subscripted {slice : Expr} {o i : Value} {Q : Value → Shared → Prop} {E : Value → Shared → Prop} (h : wpAny (model prog w) A (getItem o i) Q E s) : wpAny (model prog w) A (subscripted slice false o i) Q E s := by
  cases slice with
  | Slice l u st p => cases st <;> exact wpAny_operating h
  | _ => exact wpAny_operating h
theorem sub_core {value slice : Expr} {pos : Pos} {q p : PV} {T id : String} (hl : typeLookup (.type T) "__getitem__" = pure (some (.builtin id))) (hv : Ev prog w C X A env value q s)
    (hg : ∀ v s₁, Ext prog w noX C s s₁ → Rep X s₁.heap v q → ∀ Q E, (∀ r s', Ext prog w noX C s₁ s' → Rep X s'.heap r p → Q r s') → wpAny (model prog w) A (eval slice env) (fun i s₂ => s₂.TypeIs v T ∧ wpAny (model prog w) A (getItem v i) Q E s₂) E s₁) :
    Ev prog w C X A env (.Subscript value slice pos) p s := by
  intro s₁ e₁ Q E k
  rw [eval_Subscript]
  refine wpAny_bind (hv s₁ e₁ _ _ fun v s₂ e₂ r => ?_)
  refine wpAny_bind (wpAny_holding (wpAny_mono (hg v s₂ (e₁.trans e₂) r (fun r s₃ => wpAny (model prog w) A (letTemporaryGo value v r >>= fun _ => pure r) Q E s₃) E fun r s₃ e₃ hr => ?_) (fun i s₃ h₃ => wpAny_bind (wpAny_standAt ?_)) fun _ _ x => x))
  rotate_left
  · (refine Mine.el0b h₃ fun hT hw => ?_; try clear h₃)
    refine wpAny_bind (m := getitemInPython v) ?_
    rw [getitemInPython_of_ne hT.not_modules]
    refine wpAny_bind (wpAny_specialOf hT hl (wpAny_pure ?_))
    exact wpAny_bind (wpAny_subscripted hw)
  · exact wpAny_bind (PySem.wpAny_letTemporaryGo (wpAny_pure (k r s₃ (e₂.trans e₃) hr)))

/-! slices -/
noncomputable def pick {α : Type} (l : List α) (lo hi st : Option Int) : List α := (sliceRange (sliceBounds lo hi st l.length).1 (sliceBounds lo hi st l.length).2.1 (sliceBounds lo hi st l.length).2.2).filterMap (l[·]?)
theorem slicePick_eq (items : Array Value) (lo hi st : Option Int) : (slicePick items lo hi st).toList = pick items.toList lo hi st := by
  unfold slicePick pick
  simp
theorem strIdx_eq (lo hi : Option Int) (st : Int) (n : Nat) : Builtin.Str.strSliceIndices lo hi st n = sliceRange (sliceBounds lo hi (some st) n).1 (sliceBounds lo hi (some st) n).2.1 (sliceBounds lo hi (some st) n).2.2 := by
  cases lo <;> cases hi <;> rfl
theorem pick_run' {α : Type} (xs : List α) (a : Nat) (k : Nat) : ((List.range k).map (a + ·)).filterMap (xs[·]?) = (xs.drop a).take k := by
  have := pick_run xs.toArray a k
  simpa using this
theorem pick_plain {α : Type} (l : List α) (lo hi : Option Int) : pick l lo hi none = (l.drop (lo.elim 0 (clipAt l.length))).take (hi.elim l.length (clipAt l.length) - lo.elim 0 (clipAt l.length)) := by
  unfold pick
  rw [sliceBounds_plain]
  simp only [sliceRange_one]
  exact pick_run' _ _ _
theorem pick_from {α : Type} (l : List α) (a : Nat) : pick l (some a) none none = l.drop a := by
  rw [pick_plain]
  show (l.drop (clipAt l.length a)).take (l.length - clipAt l.length a) = _
  rw [clipAt_nat, List.take_of_length_le (Nat.le_of_eq List.length_drop)]
  rcases Nat.le_total a l.length with h | h
  · rw [Nat.min_eq_left h]
  · rw [Nat.min_eq_right h, List.drop_of_length_le (Nat.le_refl _), List.drop_of_length_le h]
theorem pick_upto {α : Type} (l : List α) (b : Nat) : pick l none (some b) none = l.take b := by
  rw [pick_plain]
  show l.take (clipAt l.length b) = _
  rw [clipAt_nat]
  rcases Nat.le_total b l.length with h | h
  · rw [Nat.min_eq_left h]
  · rw [Nat.min_eq_right h, List.take_of_length_le (Nat.le_refl _), List.take_of_length_le h]
theorem pick_last {α : Type} (l : List α) (k : Nat) (hk : 1 ≤ k) : pick l (some (-(k : Int))) none none = l.drop (l.length - k) := by
  rw [pick_plain]
  simp only [Option.elim, clipAt_neg _ _ hk]
  rw [List.take_of_length_le (by simp)]
theorem pick_mid {α : Type} (l : List α) (a k : Nat) (hk : 1 ≤ k) : pick l (some a) (some (-(k : Int))) none = (l.drop a).take (l.length - k - a) := by
  rw [pick_plain]
  simp only [Option.elim, clipAt_neg _ _ hk, clipAt_nat]
  rcases Nat.le_total a l.length with h | h
  · rw [Nat.min_eq_left h]
  · rw [Nat.min_eq_right h, List.drop_of_length_le (Nat.le_refl _), List.drop_of_length_le h]; simp
theorem pick_range {α : Type} (l : List α) (a b : Nat) : pick l (some a) (some b) none = (l.drop a).take (b - a) := by
  rw [pick_plain]
  show (l.drop (clipAt l.length a)).take (clipAt l.length b - clipAt l.length a) = _
  rw [clipAt_nat, clipAt_nat]
  rcases Nat.le_total a l.length with h | h
  · rw [Nat.min_eq_left h]
    rcases Nat.le_total b l.length with h' | h'
    · rw [Nat.min_eq_left h']
    · rw [Nat.min_eq_right h', List.take_of_length_le (Nat.le_of_eq List.length_drop), List.take_of_length_le (Nat.le_trans (Nat.le_of_eq List.length_drop) (Nat.sub_le_sub_right h' a))]
  · rw [Nat.min_eq_right h, List.drop_of_length_le (Nat.le_refl _), List.drop_of_length_le h, List.take_nil, List.take_nil]
theorem fm_congr {α β : Type} {f g : α → Option β} : ∀ {l : List α}, (∀ x ∈ l, f x = g x) → l.filterMap f = l.filterMap g
  | [], _ => rfl
  | a :: l, h => by rw [List.filterMap_cons, List.filterMap_cons, h a (.head _), fm_congr fun x hx => h x (.tail _ hx)]
theorem pick_rev {α : Type} (l : List α) : pick l none none (some (-1)) = l.reverse := by
  unfold pick sliceBounds sliceRange
  simp only [Option.getD_some, show ¬ ((-1 : Int) > 0) by decide, if_false]
  have e : (if (l.length : Int) - 1 > -1 then ((l.length : Int) - 1 - -1 - -1 - 1) / (- -1) else 0).toNat = l.length := by
    split
    · rw [show (- -1 : Int) = 1 by decide, Int.ediv_one]; omega
    · omega
  rw [e]
  apply List.ext_getElem?
  intro i
  have key : (List.map (fun (k : Nat) => ((l.length : Int) - 1 + -1 * (k : Int)).toNat) (List.range l.length)).filterMap (l[·]?) = ((List.range l.length).map (0 + ·)).filterMap (l.reverse[·]?) := by
    rw [List.filterMap_map, List.filterMap_map]
    refine fm_congr fun k hk => ?_
    have hk' : k < l.length := List.mem_range.mp hk
    simp only [Function.comp, Nat.zero_add]
    rw [List.getElem?_reverse hk', Int.neg_mul, Int.one_mul, ← Int.sub_eq_add_neg, show (l.length : Int) - 1 = ((l.length - 1 : Nat) : Int) from (Int.ofNat_sub (Nat.lt_of_le_of_lt (Nat.zero_le k) hk')).symm, ← Int.ofNat_sub (Nat.le_sub_one_of_lt hk'), Int.toNat_natCast]
  rw [key, pick_run', List.drop_zero, List.take_of_length_le (by simp)]

theorem reps_pickIdx {h : Heap} {vs : List Value} {l : List PV} (r : Reps X h vs l) : ∀ ix : List Nat, Reps X h (ix.filterMap (vs[·]?)) (ix.filterMap (l[·]?))
  | [] => .nil
  | i :: ix => by
    have ih := reps_pickIdx r ix
    cases e : l[i]? with
    | none =>
      have e' : vs[i]? = none := by
        rw [List.getElem?_eq_none_iff] at e ⊢
        rw [r.length]; exact e
      simpa [List.filterMap_cons, e, e'] using ih
    | some q =>
      refine Mine.el1b (r.get i e) fun u h1 h2 => ?_
      simpa [List.filterMap_cons, e, h1] using Reps.cons h2 ih
theorem reps_pick {h : Heap} {vs : List Value} {l : List PV} (r : Reps X h vs l) (lo hi st : Option Int) : Reps X h (pick vs lo hi st) (pick l lo hi st) := by
  unfold pick
  rw [r.length]
  exact reps_pickIdx r _

/-- a part of a slice -/
noncomputable def EvP (prog : Program) (w : World) (C : Mem) (A : Around) (env : Env) (oe : Option Expr) (oi : Option Int) (s : Shared) : Prop := Do prog w C A (evalPart oe env) (fun v _ => IsPart v oi) s
theorem evp_none : EvP prog w C A env none none s := fun s₁ e₁ Q E k => evalPart_none_step (k _ _ .refl .none)
theorem evp_some {e : Expr} {i : Int} (h : Ev prog w C X A env e (.int i) s) : EvP prog w C A env (some e) (some i) s := fun s₁ e₁ Q E k => evalPart_some_step (h s₁ e₁ _ _ fun v s₂ e₂ r => k _ _ e₂ (by refine Mine.Rep.elI r fun _ => ?_; exact .int _ _))

theorem ev_item_list {value idx : Expr} {pos : Pos} {l : List PV} {i : Int} {p : PV} (hv : Ev prog w C X A env value (.list l) s) (hi : Ev prog w C X A env idx (.int i) s) (h0 : 0 ≤ i) (hp : l[i.toNat]? = some p) (hsz : l.length ≤ sizeLine) : Ev prog w C X A env (.Subscript value idx pos) p s := by
  refine sub_core (T := "list") slot_list_getitem.lookup hv fun v s₁ e₁ r Q E k => hi s₁ e₁ _ _ fun iv s₂ e₂ ri => ?_
  refine Mine.Rep.elI ri fun _ => ?_
  refine Mine.Rep.elL ((r.ext e₂.ofNo)) fun D items hx hl hr => ?_
  ·
    refine Mine.el1b (hr.get _ hp) fun u h1 h2 => ?_
    have h3 : items.size = l.length := by simpa using hr.length
    have h4 : i.toNat < l.length := (List.getElem?_eq_some_iff.mp hp).1
    have : sizeLine = 16777216 := by decide
    exact ⟨hl.typeIs, wpAny_getItem_list hl h0 (by omega) (by simpa using h1) (k _ _ e₂ h2)⟩
theorem ev_item_neg {value idx : Expr} {pos : Pos} {l : List PV} {i : Int} {p : PV} (hv : Ev prog w C X A env value (.list l) s) (hi : Ev prog w C X A env idx (.int i) s) (h0 : i < 0) (h1 : -(l.length : Int) ≤ i) (hp : l[(i + l.length).toNat]? = some p) (hsz : l.length ≤ sizeLine) : Ev prog w C X A env (.Subscript value idx pos) p s := by
  refine sub_core (T := "list") slot_list_getitem.lookup hv fun v s₁ e₁ r Q E k => hi s₁ e₁ _ _ fun iv s₂ e₂ ri => ?_
  refine Mine.Rep.elI ri fun _ => ?_
  refine Mine.Rep.elL ((r.ext e₂.ofNo)) fun D items hx hl hr => ?_
  ·
    refine Mine.el1b (hr.get _ hp) fun u h2 h3 => ?_
    have h4 : items.size = l.length := by simpa using hr.length
    have : sizeLine = 16777216 := by decide
    exact ⟨hl.typeIs, wpAny_getItem_list_neg hl h0 (by omega) (by omega) (by rw [h4]; simpa using h2) (k _ _ e₂ h3)⟩
theorem ev_slice_list {value : Expr} {lower upper step : Option Expr} {p0 pos : Pos} {l : List PV} {lo hi st : Option Int} (bd : ∀ a, X a → a < s.heap.objs.size) (hv : Ev prog w C X A env value (.list l) s)
    (h1 : EvP prog w C A env lower lo s) (h2 : EvP prog w C A env upper hi s) (h3 : EvP prog w C A env step st s) (h0 : st ≠ some 0) (hsz : l.length ≤ sizeLine) :
    Ev prog w C X A env (.Subscript value (.Slice lower upper step p0) pos) (.list (pick l lo hi st)) s := by
  refine sub_core (T := "list") slot_list_getitem.lookup hv fun v s₁ e₁ r Q E k => wpAny_Slice ?_
  refine h1 s₁ e₁ _ _ fun vl s₂ e₂ pl => h2 s₂ (e₁.trans e₂) _ _ fun vu s₃ e₃ pu => h3 s₃ (e₁.trans (e₂.trans e₃)) _ _ fun vs s₄ e₄ ps => ?_
  have e := e₂.trans (e₃.trans e₄)
  refine Mine.Rep.elL ((r.ext e.ofNo)) fun D items hx hl hr => ?_
  ·
    have hl' := hl.push { cls := .type "slice", data := .fields #[vl, vu, vs] }
    have hn : items.size = l.length := by simpa using hr.length
    refine ⟨hl'.typeIs, wpAny_getItem_list_slice hl' (Heap.IsSliceOf.new ..) pl pu ps h0 (k _ _ (e.trans (.trans .push .push)) ?_) (by omega)⟩
    have bd' : ∀ a, X a → a < (s₄.heap.push { cls := .type "slice", data := .fields #[vl, vu, vs] }).objs.size := fun a h => by
      rw [Heap.size_push]; exact Nat.lt_succ_of_lt (Nat.lt_of_lt_of_le (bd a h) (e₁.trans e).size)
    refine rep_newList bd' ?_
    rw [slicePick_eq]
    exact reps_pick (hr.keeps fun _ _ e => Heap.get?_push_of_some _ e) _ _ _
theorem part_value {v : Value} {k : Option Int} (h : IsPart v k) : ∃ l : Option (Int × Tok), v = partValue l ∧ l.map (·.1) = k := by
  cases h with
  | none => exact ⟨none, rfl, rfl⟩
  | int i t => exact ⟨some (i, t), rfl, rfl⟩
noncomputable def spick (x : Str) (lo hi st : Option Int) : Str := ⟨(pick x.cps.toList lo hi st).toArray⟩
theorem spick_plain (x : Str) (lo hi : Option Int) : (spick x lo hi none).cps.toList = (x.cps.toList.drop (lo.elim 0 (clipAt x.length))).take (hi.elim x.length (clipAt x.length) - lo.elim 0 (clipAt x.length)) := pick_plain _ _ _
theorem spick_len (x : Str) (lo hi : Option Int) : (spick x lo hi none).length ≤ x.length := by
  show (spick x lo hi none).cps.toList.length ≤ x.cps.toList.length
  rw [spick_plain]
  exact Nat.le_trans (List.length_take_le' _ _) (Nat.le_trans (Nat.le_of_eq List.length_drop) (Nat.sub_le _ _))
theorem drop_take_all {α : Type} {l : List α} {a b : Nat} (hb : b ≤ l.length) (h : b - a = l.length) : (l.drop a).take (b - a) = l := by
  have h2 : l.length - a = l.length := Nat.le_antisymm (Nat.sub_le _ _) (Nat.le_trans (Nat.le_of_eq h.symm) (Nat.sub_le_sub_right hb a))
  have h3 : l.drop a = l := (List.drop_sublist a l).eq_of_length (List.length_drop.trans h2)
  rw [h3, h, List.take_length]
theorem clip_le (n : Nat) (i : Int) : clipAt n i ≤ n := by
  have := clipAt_cast n i
  exact Int.ofNat_le.mp (Int.le_trans (Int.le_of_eq this) (Int.max_le.mpr ⟨Int.natCast_nonneg n, Int.min_le_right _ _⟩))
theorem spick_full {x : Str} {lo hi : Option Int} (h : (sliceRange (sliceBounds lo hi none x.length).1 (sliceBounds lo hi none x.length).2.1 (sliceBounds lo hi none x.length).2.2).length = x.length) : spick x lo hi none = x := by
  rw [sliceBounds_plain, sliceRange_one, List.length_map, List.length_range] at h
  refine congrArg (fun l : List Nat => (⟨l.toArray⟩ : Str)) ((spick_plain x lo hi).trans (drop_take_all ?_ h))
  cases hi with
  | none => exact Nat.le_refl _
  | some i => exact clip_le _ _
theorem picked_plain (x : Str) (l u : Option (Int × Tok)) : ((slicePicked x l u none).filterMap (x.cps[·]?)).toArray = (spick x (l.map (·.1)) (u.map (·.1)) none).cps := by
  unfold slicePicked
  rw [strIdx_eq]
  show _ = (List.filterMap (fun i => x.cps.toList[i]?) (sliceRange (sliceBounds _ _ _ x.cps.toList.length).1 _ _)).toArray
  simp only [Array.length_toList, Array.getElem?_toList]
  rfl
/-- a slice of a str, without a step -/
theorem ev_slice_str {value : Expr} {lower upper step : Option Expr} {p0 pos : Pos} {x : Str} {lo hi : Option Int} (hv : Ev prog w C X A env value (.str x) s)
    (h1 : EvP prog w C A env lower lo s) (h2 : EvP prog w C A env upper hi s) (h3 : EvP prog w C A env step none s) (h0 : ((none : Option Int).getD 1 == 0) = false) (hsz : x.length ≤ sizeLine) :
    Ev prog w C X A env (.Subscript value (.Slice lower upper step p0) pos) (.str (spick x lo hi none)) s := by
  refine sub_core (T := "str") PySem.F.slot_str_getitem.lookup hv fun v s₁ e₁ r Q E k => wpAny_Slice ?_
  refine h1 s₁ e₁ _ _ fun vl s₂ e₂ pl => h2 s₂ (e₁.trans e₂) _ _ fun vu s₃ e₃ pu => h3 s₃ (e₁.trans (e₂.trans e₃)) _ _ fun vs s₄ e₄ ps => ?_
  have e := e₂.trans (e₃.trans e₄)
  refine Mine.Rep.elS r fun t => ?_
  refine Exists.elim (part_value pl) fun l' hl => Exists.elim (part_value pu) fun u' hu => Exists.elim (part_value ps) fun st' hst => ?_
  rw [hl.1, hu.1, hst.1, Option.map_eq_none_iff.mp hst.2]
  refine ⟨typeIs_str _ _ _, wpAny_getItem_str_slice (l := l') (u := u') (st := none) ⟨_, Heap.get?_push_size _ rfl, rfl, rfl⟩ h0 ?_⟩
  have hp := picked_plain x l' u'
  rw [hl.2, hu.2] at hp
  unfold sliceMade
  split
  · rename_i hc
    refine k _ _ (e.trans .push) ?_
    have hc2 := beq_iff_eq.mp (Bool.and_eq_true_iff.mp hc).2
    rw [show slicePicked x l' u' none = sliceRange (sliceBounds (l'.map (·.1)) (u'.map (·.1)) none x.length).1 (sliceBounds (l'.map (·.1)) (u'.map (·.1)) none x.length).2.1 (sliceBounds (l'.map (·.1)) (u'.map (·.1)) none x.length).2.2 from strIdx_eq _ _ 1 _, hl.2, hu.2] at hc2
    rw [spick_full hc2]; exact .str _ _
  · rw [hp]
    exact ⟨Nat.le_trans (spick_len x lo hi) hsz, k _ _ (e.trans (.tokR .push)) (.str _ _)⟩
end Mine
end
section
open PySem PySem.W PySem.Calls PyProof.Rows
set_option Elab.async false
set_option maxRecDepth 100000
set_option linter.unusedVariables false
namespace Mine
variable {prog : Program} {w : World} {K : Frag} {mb : Str → Option Value} {X Y : Addr → Prop} {C : Mem} {s s' s'' : Shared} {A : Around} {env : Env} {ρ : List (Str × PV)} {n : Nat}
/-! a str turned round by a slice (law 2 alone) -/
theorem rev_len (x : Str) : (spick x none none (some (-1))).length = x.length := by
  show (pick x.cps.toList none none (some (-1))).length = _
  rw [pick_rev, List.length_reverse]; rfl
theorem ev_slice_strG {value : Expr} {lower upper step : Option Expr} {p0 pos : Pos} {x : Str} (hv : Ev prog w C X A env value (.str x) s)
    (h1 : EvP prog w C A env lower none s) (h2 : EvP prog w C A env upper none s) (h3 : EvP prog w C A env step (some (-1)) s) (hsz : x.length ≤ sizeLine) :
    Ev prog w C X A env (.Subscript value (.Slice lower upper step p0) pos) (.str (spick x none none (some (-1)))) s := by
  refine sub_core (T := "str") PySem.F.slot_str_getitem.lookup hv fun v s₁ e₁ r Q E k => wpAny_Slice ?_
  refine h1 s₁ e₁ _ _ fun vl s₂ e₂ pl => h2 s₂ (e₁.trans e₂) _ _ fun vu s₃ e₃ pu => h3 s₃ (e₁.trans (e₂.trans e₃)) _ _ fun vs s₄ e₄ ps => ?_
  have e := e₂.trans (e₃.trans e₄)
  refine r.elS fun t => ?_
  (refine Mine.el1b (part_value pl) fun l' hl1 hl2 => ?_; obtain rfl := hl1)
  (refine Mine.el1b (part_value pu) fun u' hu1 hu2 => ?_; obtain rfl := hu1)
  (refine Mine.el1b (part_value ps) fun st' hs1 hs2 => ?_; obtain rfl := hs1)
  obtain rfl : l' = none := Option.map_eq_none_iff.mp hl2
  obtain rfl : u' = none := Option.map_eq_none_iff.mp hu2
  obtain ⟨⟨i, t'⟩, rfl, h⟩ := Option.map_eq_some_iff.mp hs2
  obtain rfl : i = -1 := h
  refine ⟨typeIs_str _ _ _, wpAny_getItem_str_slice (l := none) (u := none) (st := some (-1, t')) ⟨_, Heap.get?_push_size _ rfl, rfl, rfl⟩ rfl ?_⟩
  have hpick : ((slicePicked x none none (some (-1, t'))).filterMap (x.cps[·]?)).toArray = (pick x.cps.toList none none (some (-1))).toArray := by
    unfold slicePicked pick
    rw [strIdx_eq]
    show _ = (List.filterMap (fun i => x.cps.toList[i]?) (sliceRange (sliceBounds _ _ _ x.cps.toList.length).1 _ _)).toArray
    rw [Array.length_toList]
    exact congrArg List.toArray (congrArg (fun f => List.filterMap f _) (funext fun i => Array.getElem?_toList.symm))
  unfold sliceMade
  split
  · rename_i hc
    exact absurd (show (-1 == (1 : Int)) = true from (Bool.and_eq_true_iff.mp hc).1) (by decide)
  · rw [hpick]
    exact ⟨Nat.le_trans (Nat.le_of_eq (rev_len x)) hsz, k _ _ (e.trans (.tokR .push)) (.str _ _)⟩
end Mine
end
section
open PySem PySem.W PySem.Calls PyProof.Rows
set_option Elab.async false
set_option maxRecDepth 100000
set_option linter.unusedVariables false
namespace Mine
variable {prog : Program} {w : World} {K : Frag} {mb : Str → Option Value} {X Y : Addr → Prop} {C : Mem} {s s' s'' : Shared} {A : Around} {env : Env} {ρ : List (Str × PV)} {n : Nat}

/-- where a name may be stored -/
noncomputable def CanSt (X : Addr → Prop) (env : Env) (x : Str) : Prop := (env.kindOf x = some .local ∧ X env.locals) ∨ (env.kindOf x = some .cell ∧ ∃ c, env.cells.lookup x = some c ∧ X c)
noncomputable def Apart (env : Env) : Prop := ∀ x y c, env.cells.lookup x = some c → env.cells.lookup y = some c → x = y

/-- the address that a store changes -/
noncomputable def StX (env : Env) (x : Str) (a : Addr) : Prop := (env.kindOf x = some .local ∧ a = env.locals) ∨ (env.kindOf x = some .cell ∧ env.cells.lookup x = some a)
theorem CanSt.sub {x : Str} (h : CanSt X env x) : ∀ a, StX env x a → X a := by
  rintro a (⟨hk, rfl⟩ | ⟨hk, hc⟩)
  · rcases h with ⟨_, h⟩ | ⟨hk', _⟩
    · exact h
    · rw [hk] at hk'; cases hk'
  · rcases h with ⟨hk', _⟩ | ⟨_, c, hc', h⟩
    · rw [hk] at hk'; cases hk'
    · rw [hc] at hc'; cases hc'; exact h
theorem store_var {x : Str} {v : Value} {p : PV} {Q : Unit → Shared → Prop} {E : Value → Shared → Prop} (S : Sit prog w K mb n C X A env ρ s) (hc : CanSt X env x) (ha : Apart env) (hr : Rep X s.heap v p)
    (k : ∀ s', Ext prog w (StX env x) C s s' → Sit prog w K mb n C X A env ((x, p) :: ρ) s' → Q () s') : wpAny (model prog w) A (storeName env x v) Q E s := by
  have F := S.fm
  have base' : ∀ {s' : Shared}, Ext prog w X C s s' → Fm X C env s'.heap ((x, p) :: ρ) → Sit prog w K mb n C X A env ((x, p) :: ρ) s' := fun e f =>
    ⟨S.base.ext e S.xo fun a P q => (S.co a P q).1, S.rm, fun a h => Nat.lt_of_lt_of_le (S.bd a h) e.size, S.xo, co_ext e S.co, f⟩
  rcases hc with ⟨hk, hx⟩ | ⟨hk, c, hcl, hx⟩
  · refine Mine.el1b F.ns fun m hn hv => ?_
    refine wpAny_storeName_local hk hn (fun h' hn' hs => ?_) (by rw [F.kind]; rfl)
    have e : Ext prog w X C s { s with heap := h', toks := s.toks + 1 } := Ext.sameBut hs hx
    refine k _ (Ext.sameBut hs (.inl ⟨hk, rfl⟩)) (base' e ⟨F.kind, F.globals, F.builtins, F.cl, ⟨_, hn', fun y q hy hyk => ?_⟩, fun y c hyc => ?_⟩)
    · rw [List.lookup_cons] at hy
      cases hb : y == x with
      | true =>
        rw [hb] at hy; cases hy
        have := beq_iff_eq.mp hb; subst this
        exact ⟨v, by simp, hr.ext e⟩
      | false =>
        rw [hb] at hy
        refine Mine.el1b (hv y q hy hyk) fun u h1 h2 => ?_
        exact ⟨u, by simp [beq_eq_false_iff_ne.mp hb, h1], h2.ext e⟩
    · refine Mine.el1b (F.cell y c hyc) fun ov hi hq => ?_
      have hne : c ≠ env.locals := by
        rintro rfl
        (refine Mine.el1b hi fun o ho hd => ?_; try clear hi)
        (refine Mine.el3c hn fun o' es ep ho' hd' _ => ?_; try clear hn)
        rw [ho] at ho'; cases ho'; rw [hd] at hd'; cases hd'
      refine ⟨ov, hi.sameBut hs hne, fun q hy hyk => ?_⟩
      rw [List.lookup_cons] at hy
      cases hb : y == x with
      | true =>
        have := beq_iff_eq.mp hb; subst this
        rw [hk] at hyk; rcases hyk with q | q <;> cases q
      | false =>
        rw [hb] at hy
        refine Mine.el1b (hq q hy hyk) fun u h1 h2 => ?_
        exact ⟨u, h1, h2.ext e⟩
  · refine Mine.el1b (F.cell x c hcl) fun ov hi hq => ?_
    refine wpAny_storeName_cell F.kind hk hcl hi fun h' hi' hs => ?_
    have e : Ext prog w X C s { s with heap := h' } := Ext.sameBut (t := s.toks) hs hx
    refine k _ (Ext.sameBut (t := s.toks) hs (.inr ⟨hk, hcl⟩)) (base' e ⟨F.kind, F.globals, F.builtins, F.cl, ?_, fun y c' hyc => ?_⟩)
    · refine Mine.el1b F.ns fun m hn hv => ?_
      have hne : env.locals ≠ c := by
        rintro rfl
        (refine Mine.el1b hi fun o ho hd => ?_; try clear hi)
        (refine Mine.el3c hn fun o' es ep ho' hd' _ => ?_; try clear hn)
        rw [ho] at ho'; cases ho'; rw [hd] at hd'; cases hd'
      refine ⟨m, hn.sameBut hs hne, fun y q hy hyk => ?_⟩
      rw [List.lookup_cons] at hy
      cases hb : y == x with
      | true =>
        have := beq_iff_eq.mp hb; subst this
        rw [hk] at hyk; cases hyk
      | false =>
        rw [hb] at hy
        refine Mine.el1b (hv y q hy hyk) fun u h1 h2 => ?_
        exact ⟨u, h1, h2.ext e⟩
    · by_cases hyx : y = x
      · subst hyx
        rw [hcl] at hyc; cases hyc
        refine ⟨_, hi', fun q hy hyk => ?_⟩
        rw [List.lookup_cons, beq_self_eq_true] at hy
        cases hy
        exact ⟨v, rfl, hr.ext e⟩
      · have hcc : c' ≠ c := by rintro rfl; exact hyx (ha _ _ _ hyc hcl)
        refine Mine.el1b (F.cell y c' hyc) fun ov' hi2 hq2 => ?_
        refine ⟨ov', hi2.sameBut hs hcc, fun q hy hyk => ?_⟩
        rw [List.lookup_cons, beq_false_of_ne hyx] at hy
        refine Mine.el1b (hq2 q hy hyk) fun u h1 h2 => ?_
        exact ⟨u, h1, h2.ext e⟩

theorem assign_var {x : Str} {px : Pos} {v : Value} {p : PV} {Q : Unit → Shared → Prop} {E : Value → Shared → Prop} (S : Sit prog w K mb n C X A env ρ s) (hc : CanSt X env x) (ha : Apart env) (hr : Rep X s.heap v p)
    (k : ∀ s', Ext prog w (StX env x) C s s' → Sit prog w K mb n C X A env ((x, p) :: ρ) s' → Q () s') : wpAny (model prog w) A (assign (.Name x px) env v) Q E s :=
  wpAny_assign_Name (store_var S hc ha hr k)

/-! a function's frame: what it owns -/
noncomputable def FrO (env : Env) (a : Addr) : Prop := a = env.locals ∨ ∃ x, env.kindOf x = some .cell ∧ env.cells.lookup x = some a
structure Own (X : Addr → Prop) (env : Env) : Prop where
  own : ∀ a, FrO env a → X a
  ap : Apart env
noncomputable def KindSt (env : Env) (x : Str) : Prop := env.kindOf x = some .local ∨ (env.kindOf x = some .cell ∧ (env.cells.lookup x).isSome = true)
theorem Own.can (O : Own X env) {x : Str} (h : KindSt env x) : CanSt X env x := by
  rcases h with h | ⟨h, hc⟩
  · exact .inl ⟨h, O.own _ (.inl rfl)⟩
  · refine Mine.el1a (Option.isSome_iff_exists.mp hc) fun c hc => ?_
    exact .inr ⟨h, c, hc, O.own _ (.inr ⟨x, h, hc⟩)⟩
theorem stX_frO {x : Str} : ∀ a, StX env x a → FrO env a := by
  rintro a (⟨_, rfl⟩ | ⟨h, hc⟩)
  · exact .inl rfl
  · exact .inr ⟨x, h, hc⟩

/-! statements -/
theorem x_nil {Q : Flow → Shared → Prop} {E : Value → Shared → Prop} (h : Q .next s) : wpAny (model prog w) A (execs [] env) Q E s := wpAny_execs_nil h
theorem x_assign {x : Str} {px pos : Pos} {e : Expr} {rest : List Stmt} {p : PV} {Q : Flow → Shared → Prop} {E : Value → Shared → Prop} (S : Sit prog w K mb n C X A env ρ s) (O : Own X env) (hk : KindSt env x) (he : Ev prog w C X A env e p s)
    (hs : swapsWith e (some (.Name x px)) pos.line env = pure false)
    (k : ∀ s', Ext prog w (FrO env) C s s' → Sit prog w K mb n C X A env ((x, p) :: ρ) s' → wpAny (model prog w) A (execs rest env) Q E s') :
    wpAny (model prog w) A (execs (.Assign [.Name x px] e pos :: rest) env) Q E s := by
  refine wpAny_execs_cons ?_
  refine wpAny_Assign_Name (he s .refl _ _ fun v s₁ e₁ r => ?_) hs
  exact store_var (S.ext e₁) (O.can hk) O.ap r fun s₂ e₂ S₂ => k s₂ (e₁.ofNo.trans (e₂.mono stX_frO)) S₂
theorem x_return {e : Expr} {pos : Pos} {rest : List Stmt} {p : PV} {Q : Flow → Shared → Prop} {E : Value → Shared → Prop} (he : Ev prog w C X A env e p s)
    (k : ∀ v s', Ext prog w noX C s s' → Rep X s'.heap v p → Q (.ret v) s') : wpAny (model prog w) A (execs (.Return (some e) pos :: rest) env) Q E s := by
  refine wpAny_execs_cons (wpAny_Return_some (he s .refl _ _ fun v s₁ e₁ r => ?_))
  exact k v s₁ e₁ r
theorem x_if {test : Expr} {body orelse rest : List Stmt} {pos : Pos} {b : Bool} {Q : Flow → Shared → Prop} {E : Value → Shared → Prop} (ht : Ts prog w C A env test b s)
    (k : ∀ s', Ext prog w noX C s s' → wpAny (model prog w) A (execs (if b then body else orelse) env) (fun f s'' => match f with | .next => wpAny (model prog w) A (execs rest env) Q E s'' | f => Q f s'') E s') :
    wpAny (model prog w) A (execs (.If test body orelse pos :: rest) env) Q E s := by
  refine wpAny_execs_cons ?_; try k_fold
  rw [exec_If]
  refine wpAny_bind (wpAny_standAt (wpAny_bind (ht s .refl _ _ fun b' s₁ e₁ hb => ?_)))
  subst hb
  have := k s₁ e₁
  cases b' with
  | true => simp only [if_true] at this ⊢; refine wpAny_mono this (fun f s₂ h => ?_) fun _ _ x => x; cases f <;> exact h
  | false => simp only [Bool.false_eq_true, if_false] at this ⊢; refine wpAny_mono this (fun f s₂ h => ?_) fun _ _ x => x; cases f <;> exact h

/-! tests -/
theorem ts_bool {e : Expr} {b : Bool} (h : Ev prog w C X A env e (.bool b) s) (hs : ∀ whole, isTrue e env whole = (do let v ← whole; standAt e.pos; holding [v] (truthy v)) := by intro _; rfl) : Ts prog w C A env e b s := by
  intro s₁ e₁ Q E k
  rw [hs]
  refine wpAny_bind (h s₁ e₁ _ _ fun v s₂ e₂ r => wpAny_bind (wpAny_standAt (wpAny_holding ?_)))
  refine Mine.Rep.elB r fun _ => ?_
  exact wpAny_truthy_bool (k _ _ e₂ rfl)
theorem ts_str {e : Expr} {x : Str} (h : Ev prog w C X A env e (.str x) s) (hs : ∀ whole, isTrue e env whole = (do let v ← whole; standAt e.pos; holding [v] (truthy v)) := by intro _; rfl) (hsz : x.length ≤ sizeLine) : Ts prog w C A env e (x.length != 0) s := by
  intro s₁ e₁ Q E k
  rw [hs]
  refine wpAny_bind (h s₁ e₁ _ _ fun v s₂ e₂ r => wpAny_bind (wpAny_standAt (wpAny_holding ?_)))
  refine Mine.Rep.elS r fun _ => ?_
  have h0 : sizeLine = 16777216 := by decide
  refine P.truthy_str (by omega) ?_
  have : ((x.length : Int) != 0) = (x.length != 0) := by
    rw [Bool.eq_iff_iff]; simp
  rw [this]
  exact k _ _ e₂.tokR rfl
theorem ts_not {e : Expr} {pos : Pos} {b : Bool} (h : Ts prog w C A env e b s) : Ts prog w C A env (.UnaryOp .Not e pos) (!b) s := by
  intro s₁ e₁ Q E k
  exact wpAny_isTrue_Not (h s₁ e₁ _ _ fun b' s₂ e₂ hb => k _ _ e₂ (by (refine Mine.rwl hb ?_; try with_reducible rfl)))
theorem ts_and2 {x y : Expr} {pos : Pos} {a b : Bool} (h1 : Ts prog w C A env x a s) (h2 : a = true → Ts prog w C A env y b s) : Ts prog w C A env (.BoolOp .And [x, y] pos) (a && b) s := by
  intro s₁ e₁ Q E k
  refine wpAny_isTrue_BoolOp (wpAny_allTrue_And_cons (h1 s₁ e₁ _ _ fun b' s₂ e₂ hb => ?_))
  subst hb
  cases b' with
  | false => exact k _ _ e₂ rfl
  | true =>
    refine wpAny_allTrue_And_cons (h2 rfl s₂ (e₁.trans e₂) _ _ fun b' s₃ e₃ hb => ?_)
    subst hb
    cases b' with
    | false => exact k _ _ (e₂.trans e₃) rfl
    | true => exact wpAny_allTrue_And_nil (k _ _ (e₂.trans e₃) rfl)
theorem ts_or2 {x y : Expr} {pos : Pos} {a b : Bool} (h1 : Ts prog w C A env x a s) (h2 : a = false → Ts prog w C A env y b s) : Ts prog w C A env (.BoolOp .Or [x, y] pos) (a || b) s := by
  intro s₁ e₁ Q E k
  refine wpAny_isTrue_BoolOp (wpAny_allTrue_Or_cons (h1 s₁ e₁ _ _ fun b' s₂ e₂ hb => ?_))
  subst hb
  cases b' with
  | true => exact k _ _ e₂ rfl
  | false =>
    refine wpAny_allTrue_Or_cons (h2 rfl s₂ (e₁.trans e₂) _ _ fun b' s₃ e₃ hb => ?_)
    subst hb
    cases b' with
    | true => exact k _ _ (e₂.trans e₃) rfl
    | false => exact wpAny_allTrue_Or_nil (k _ _ (e₂.trans e₃) rfl)
end Mine
end
section
open PySem PySem.W PySem.Calls PyProof.Rows
set_option Elab.async false
set_option maxRecDepth 100000
set_option linter.unusedVariables false
namespace Mine
variable {prog : Program} {w : World} {K : Frag} {mb : Str → Option Value} {X Y : Addr → Prop} {C : Mem} {s s' s'' : Shared} {A : Around} {env : Env} {ρ : List (Str × PV)} {n : Nat}

/-- an iterator that will hand out ps -/
noncomputable def Iter (prog : Program) (w : World) (C : Mem) (X : Addr → Prop) (A : Around) (lo : Nat) (ps : List PV) (it : Value) (s : Shared) : Prop :=
  ∃ (I : Addr) (fp wr : List Addr) (P : Nat → Value → Prop) (St : Nat → Heap → Prop), it = .ref I ∧ Walks prog w A I fp wr ps.length P St ∧ St 0 s.heap ∧ (∀ b ∈ wr, lo ≤ b) ∧ (∀ b ∈ fp, b < s.heap.objs.size ∧ C b = none ∧ ¬ X b) ∧
    (∀ i v p, P i v → ps[i]? = some p → Rep (fun a => X a ∨ a ∈ wr) s.heap v p)

noncomputable def EvI (prog : Program) (w : World) (C : Mem) (X : Addr → Prop) (A : Around) (env : Env) (e : Expr) (ps : List PV) (s : Shared) : Prop :=
  ∀ s₁, Ext prog w noX C s s₁ → ∀ (Q : Value → Shared → Prop) (E : Value → Shared → Prop), (∀ it s₂, Ext prog w noX C s₁ s₂ → Iter prog w C X A s₁.heap.objs.size ps it s₂ → Q it s₂) →
    wpAny (model prog w) A (eval e env) (fun x s₂ => wpAny (model prog w) A (pyIter x) Q E s₂) E s₁

theorem co_ne {a : Addr} {o : Obj} (S : Sit prog w K mb n C X A env ρ s) (ho : s.heap.get? a = some o) (hd : ∀ es n, o.data ≠ .dict es n) : C a = none := by
  cases e : C a with
  | none => rfl
  | some P =>
    obtain ⟨_, _, o', es, ho', vals, ⟨arr, m, _, hd', _⟩, _⟩ := S.co a P e
    rw [ho] at ho'; cases ho'
    exact absurd hd' (hd _ _)
theorem co_new {a : Addr} (S : Sit prog w K mb n C X A env ρ s) (ha : s.heap.objs.size ≤ a) : C a = none := by
  cases e : C a with
  | none => rfl
  | some P =>
    obtain ⟨_, _, o', es, ho', _⟩ := S.co a P e
    exact absurd (Heap.lt_size ho') (Nat.not_lt.mpr ha)

theorem evi_list {e : Expr} {l : List PV} (S : Sit prog w K mb n C X A env ρ s) (h : Ev prog w C X A env e (.list l) s) : EvI prog w C X A env e l s := by
  intro s₁ e₁ Q E k
  refine h s₁ e₁ _ _ fun v s₂ e₂ r => ?_
  have S₂ := S.ext (e₁.trans e₂)
  refine Mine.Rep.elL ((r)) fun a items hx hl hr => ?_
  ·
    refine wpAny_pyIter_list hl (k _ _ (e₂.trans .push) ?_)
    have ha : a < s₂.heap.objs.size := by (refine Mine.el1b hl fun _ e _ => ?_; try clear hl); exact Heap.lt_size e
    have hn : items.size = l.length := by simpa using hr.length
    refine ⟨_, _, _, _, _, rfl, hn ▸ Walks.list S.rm.h s₂.heap.objs.size a (Nat.ne_of_lt ha) items, ⟨⟨_, Heap.get?_push_size _ rfl, rfl, rfl⟩, hl.push _⟩, ?_, ?_, ?_⟩
    · intro b hb
      simp only [List.mem_singleton] at hb
      subst hb; exact e₂.size
    · intro b hb
      show b < (s₂.heap.push _).objs.size ∧ _
      rw [Heap.size_push]
      simp only [List.mem_cons, List.not_mem_nil, or_false] at hb
      rcases hb with rfl | rfl
      · exact ⟨Nat.lt_succ_self _, co_new S₂ (Nat.le_refl _), fun q => Nat.lt_irrefl _ (S₂.bd _ q)⟩
      · refine ⟨Nat.lt_succ_of_lt ha, ?_, hx⟩
        obtain ⟨o, ho, hc, m, hd⟩ := hl
        exact co_ne S₂ ho (by rw [hd]; first | exact fun _ _ h => by cases h | exact fun _ h => by cases h | nofun)
    · intro i v p hv hp
      refine Mine.el1b (hr.get i hp) fun u h1 h2 => ?_
      have : items[i]? = some u := by simpa using h1
      rw [this] at hv; cases hv
      refine (h2.monoX fun b hb => ?_).keeps fun _ _ e => Heap.get?_push_of_some _ e
      rcases hb with hb | hb
      · exact .inl hb
      · simp only [List.mem_singleton] at hb; rw [hb]; exact .inr (Nat.le_refl _)

noncomputable def chars (x : Str) : List PV := x.cps.toList.map fun c => .str ⟨#[c]⟩
theorem evi_str {e : Expr} {x : Str} (S : Sit prog w K mb n C X A env ρ s) (h : Ev prog w C X A env e (.str x) s) : EvI prog w C X A env e (chars x) s := by
  intro s₁ e₁ Q E k; try k_fold
  refine h s₁ e₁ _ _ fun v s₂ e₂ r => ?_; try k_fold
  have S₂ := S.ext (e₁.trans e₂)
  cases r with
  | str _ t =>
    refine wpAny_pyIter_str fun o St W hst => k _ _ (e₂.trans .push) ?_; try k_fold
    have hn : (chars x).length = x.cps.size := by simp [chars]
    refine ⟨_, _, _, _, _, rfl, hn ▸ W A S.rm.h, hst, ?_, ?_, ?_⟩
    · intro b hb; try k_fold
      simp only [List.mem_singleton] at hb
      subst hb; exact e₂.size
    · intro b hb; try k_fold
      simp only [List.mem_singleton] at hb
      subst hb
      show s₂.heap.objs.size < (s₂.heap.push _).objs.size ∧ _
      rw [Heap.size_push]
      exact ⟨Nat.lt_succ_self _, co_new S₂ (Nat.le_refl _), fun q => Nat.lt_irrefl _ (S₂.bd _ q)⟩
    · rintro i v p ⟨c, u, hc, rfl⟩ hp; try k_fold
      have : p = .str ⟨#[c]⟩ := by
        rw [← Array.getElem?_toList] at hc
        simp [chars, hc] at hp
        exact hp.symm
      subst this
      exact .str _ _

/-- one turn of a comprehension -/
noncomputable def tests (ifs : List Expr) (env : Env) : Sem Bool := forIn ifs true fun c r => if r = true then do let ok ← isTrue c env (eval c env); pure (ForInStep.yield ok) else pure (ForInStep.yield r)
noncomputable def TurnIs (e : Expr) (d : Nat) (it acc : Value) (env : Env) (tgt : Expr) (ifs : List Expr) (act : Sem Fin → Sem Fin) : Prop :=
  ∃ sp, compTurn e d it acc env = (standAt sp >>= fun _ => pyNext it >>= fun r => match r with
    | none => pure (.done .next)
    | some v => letOwnedTupleGo tgt it v >>= fun _ => assign tgt env v >>= fun _ => tests ifs env >>= fun ok =>
      if ok = true then act (again (.compLoop e d it acc env)) else again (.compLoop e d it acc env))
theorem turn_list {elt iter tgt : Expr} {ifs : List Expr} {scope : Scope} {pos : Pos} {it acc : Value} {env : Env} :
    TurnIs (.ListComp elt [⟨tgt, iter, ifs, 0⟩] scope pos) 0 it acc env tgt ifs (fun k => (do let _ ← call (.builtin "list.append") [acc, ← eval elt env] : Sem Unit) >>= fun _ => k) := ⟨iter.pos, by rfl⟩
theorem turn_list21 {elt iter tgt iter' tgt' : Expr} {ifs ifs' : List Expr} {scope : Scope} {pos : Pos} {it acc : Value} {env : Env} :
    TurnIs (.ListComp elt [⟨tgt, iter, ifs, 0⟩, ⟨tgt', iter', ifs', 0⟩] scope pos) 1 it acc env tgt' ifs' (fun k => (do let _ ← call (.builtin "list.append") [acc, ← eval elt env] : Sem Unit) >>= fun _ => k) := ⟨iter'.pos, by rfl⟩
theorem turn_list20 {elt iter tgt iter' tgt' : Expr} {ifs ifs' : List Expr} {scope : Scope} {pos : Pos} {it acc : Value} {env : Env} :
    TurnIs (.ListComp elt [⟨tgt, iter, ifs, 0⟩, ⟨tgt', iter', ifs', 0⟩] scope pos) 0 it acc env tgt ifs (fun k => do
      let x ← eval iter' env
      standAt iter'.pos
      let x ← foldedSetIterable iter' env x
      let _ ← runOwn (.compStart (.ListComp elt [⟨tgt, iter, ifs, 0⟩, ⟨tgt', iter', ifs', 0⟩] scope pos) 1 (← holding [x] (pyIter x)) acc env) env
      k) := ⟨iter.pos, by rfl⟩
theorem Sit.drop {x : Str} {p : PV} (S : Sit prog w K mb n C X A env ((x, p) :: ρ) s) (h : ρ.lookup x = none) : Sit prog w K mb n C X A env ρ s := by
  have key : ∀ y q, ρ.lookup y = some q → ((x, p) :: ρ).lookup y = some q := fun y q e => by
    rw [List.lookup_cons]
    cases hb : y == x with
    | true => have := beq_iff_eq.mp hb; subst this; rw [h] at e; cases e
    | false => exact e
  refine ⟨S.base, S.rm, S.bd, S.xo, S.co, S.fm.kind, S.fm.globals, S.fm.builtins, S.fm.cl, ?_, fun y c e => ?_⟩
  · refine Mine.el1b S.fm.ns fun m hn hv => ?_
    exact ⟨m, hn, fun y q e k => hv y q (key y q e) k⟩
  · refine Mine.el1b (S.fm.cell y c e) fun ov hi hv => ?_
    exact ⟨ov, hi, fun q e k => hv q (key y q e) k⟩

theorem Sit.extZ {Z : Addr → Prop} (S : Sit prog w K mb n C X A env ρ s) (e : Ext prog w Z C s s') (hZX : ∀ a, Z a → X a) (hl : ¬ Z env.locals) (hcell : ∀ x c, env.cells.lookup x = some c → ¬ Z c) : Sit prog w K mb n C X A env ρ s' := by
  have eX : Ext prog w X C s s' := e.mono hZX
  refine ⟨S.base.ext eX S.xo fun a P q => (S.co a P q).1, S.rm, fun a h => Nat.lt_of_lt_of_le (S.bd a h) e.size, S.xo, co_ext eX S.co, S.fm.kind, S.fm.globals, S.fm.builtins, S.fm.cl, ?_, fun y c hc => ?_⟩
  · refine Mine.el1b S.fm.ns fun m hn hv => ?_
    exact ⟨m, ns_ext e hl S.fm.cl hn, fun y q h k => let ⟨v, h1, h2⟩ := hv y q h k; ⟨v, h1, h2.ext eX⟩⟩
  · refine Mine.el1b (S.fm.cell y c hc) fun ov hi hv => ?_
    exact ⟨ov, isCell_ext e (hcell y c hc) hi, fun q h k => let ⟨v, h1, h2⟩ := hv q h k; ⟨v, h1, h2.ext eX⟩⟩

theorem comp_loop {e : Expr} {d : Nat} {acc : Value} {cenv : Env} {x : Str} {px : Pos} {ifs : List Expr} {act : Sem Fin → Sem Fin} {ps : List PV} {Z N : Addr → Prop} {R : Result → Shared → Prop}
    {I : Addr} {fp wr : List Addr} {P : Nat → Value → Prop} {St : Nat → Heap → Prop} (Inv : Nat → Shared → Prop)
    (T : TurnIs e d (.ref I) acc cenv (.Name x px) ifs act) (hc : CanSt X cenv x) (hsx : ∀ a, StX cenv x a → Z a ∧ N a) (hwN : ∀ a, a ∈ wr → N a) (hZX : ∀ a, Z a → X a) (hwX : ∀ a, a ∈ wr → X a)
    (hlw : cenv.locals ∉ wr) (hcw : ∀ x c, cenv.cells.lookup x = some c → c ∉ wr)
    (hap : Apart cenv) (hx0 : ρ.lookup x = none)
    (W : Walks prog w A I fp wr ps.length P St) (hst : St 0 s.heap) (hfp : ∀ b ∈ fp, ¬ Z b ∧ C b = none) (hP : ∀ i v p, P i v → ps[i]? = some p → Rep X s.heap v p)
    (S : Sit prog w K mb n C X A cenv ρ s) (inv0 : Inv 0 s)
    (hInv : ∀ i s s', Inv i s → Ext prog w N C s s' → Inv i s')
    (hact : ∀ i p s', ps[i]? = some p → Ext prog w (fun a => Z a ∨ a ∈ wr) C s s' → Sit prog w K mb n C X A cenv ((x, p) :: ρ) s' → Inv i s' → ∃ (b : Bool) (T : Shared → Prop), Do prog w C A (tests ifs cenv) (fun v s'' => v = b ∧ T s'') s' ∧
      (b = false → ∀ s'', Ext prog w noX C s' s'' → T s'' → Inv i s'' → Inv (i + 1) s'') ∧
      (b = true → ∀ s'', Ext prog w noX C s' s'' → T s'' → Sit prog w K mb n C X A cenv ((x, p) :: ρ) s'' → Inv i s'' → ∀ (k : Sem Fin) (Q : Fin → Shared → Prop) (E : Value → Shared → Prop),
        (∀ s₃, Ext prog w Z C s'' s₃ → Sit prog w K mb n C X A cenv ((x, p) :: ρ) s₃ → Inv (i + 1) s₃ → wpAny (model prog w) A k Q E s₃) → wpAny (model prog w) A (act k) Q E s''))
    (hR : ∀ s', Ext prog w (fun a => Z a ∨ a ∈ wr) C s s' → Sit prog w K mb n C X A cenv ρ s' → Inv ps.length s' → R (.ok .next) s')
    (hfr : autoParam ((Code.compLoop e d (.ref I) acc cenv).isFrame = false) Mine.autoR) (hund : autoParam (A.under (Code.compLoop e d (.ref I) acc cenv) = A) Mine.autoR) :
    codeAny (model prog w) A (.compLoop e d (.ref I) acc cenv) R s := by
  refine codeAny_loop (by cases e <;> rfl) (fun k s' => ∃ i, i ≤ ps.length ∧ k = ps.length + 1 - i ∧ Ext prog w (fun a => Z a ∨ a ∈ wr) C s s' ∧ Sit prog w K mb n C X A cenv ρ s' ∧ St i s'.heap ∧ Inv i s') ?_ (ps.length + 1)
    ⟨0, Nat.zero_le _, rfl, .refl, S, hst, inv0⟩
  rintro k s₁ ⟨i, hi, rfl, e₁, S₁, st₁, inv₁⟩; try k_fold
  have hden : (model prog w).den (Code.compLoop e d (.ref I) acc cenv) = (compTurn e d (.ref I) acc cenv).onRaise (fun x => do noteFrame x cenv; theTreesLotGoes x) := by
    show (if (Code.compLoop e d (.ref I) acc cenv).isFrame = true then _ else _) = _
    rw [hfr]; rfl
  rw [hden, hund]
  refine wpAny_noted ?_; try k_fold
  refine Mine.el1a T fun sp T => ?_; try k_fold
  rw [T]
  refine wpAny_bind (wpAny_standAt (wpAny_bind ?_))
  by_cases hlt : i < ps.length
  · refine with_size (W.item i s₁ _ _ hlt st₁ fun v h' tk hPv st₂ hk hsz => ?_)
    have e₂ : Ext prog w (fun a => a ∈ wr) C s₁ { s₁ with heap := h', toks := tk } := ⟨hsz, fun b o e hb => .inl (hk b o hb e), rfl, rfl⟩
    generalize hs₂ : ({ s₁ with heap := h', toks := tk } : Shared) = s₂ at e₂ ⊢
    have st₂ : St (i + 1) s₂.heap := by rw [← hs₂]; exact st₂
    have S₂ : Sit prog w K mb n C X A cenv ρ s₂ := S₁.extZ e₂ hwX hlw hcw
    obtain ⟨p, hp⟩ : ∃ p, ps[i]? = some p := ⟨_, List.getElem?_eq_getElem hlt⟩
    have r₂ : Rep X s₂.heap v p := ((hP i v p hPv hp).ext (e₁.mono fun a h => h.elim (hZX a) (hwX a))).ext (e₂.mono hwX)
    have inv₂ : Inv i s₂ := hInv i s₁ s₂ inv₁ (e₂.mono hwN)
    dsimp only
    refine wpAny_bind (wpAny_pure (wpAny_bind (assign_var S₂ hc hap r₂ fun s₃ e₃ S₃ => ?_)))
    have st₃ : St (i + 1) s₃.heap := W.frame _ _ _ st₂ fun b hb o ho => e₃.keepAt ho (fun q => (hfp b hb).1 (hsx b q).1) (hfp b hb).2
    have inv₃ : Inv i s₃ := hInv i s₂ s₃ inv₂ (e₃.mono fun a h => (hsx a h).2)
    have e₁₃ : Ext prog w (fun a => Z a ∨ a ∈ wr) C s s₃ := e₁.trans ((e₂.mono fun a h => .inr h).trans (e₃.mono fun a h => .inl (hsx a h).1))
    refine Mine.el2c (hact i p s₃ hp e₁₃ S₃ inv₃) fun b T hb hf ht => ?_; try k_fold
    refine wpAny_bind (hb s₃ .refl _ _ fun b' s₄ e₄ hb' => ?_)
    (refine Mine.el0b hb' fun hq3 hT => ?_; try clear hb'; obtain rfl := hq3)
    have st₄ : St (i + 1) s₄.heap := W.frame _ _ _ st₃ fun b hb o ho => e₄.keepAt ho (fun q => q) (hfp b hb).2
    have inv₄ : Inv i s₄ := hInv i s₃ s₄ inv₃ e₄.ofNo
    cases b' with
    | false =>
      simp only [Bool.false_eq_true, if_false]
      refine wpAny_pure ⟨rfl, ps.length + 1 - (i + 1), by omega, i + 1, hlt, rfl, e₁₃.trans e₄.ofNo, (S₃.ext e₄).drop hx0, st₄, hf rfl s₄ e₄ hT inv₄⟩
    | true =>
      simp only [if_true]
      refine ht rfl s₄ e₄ hT (S₃.ext e₄) inv₄ _ _ _ fun s₅ e₅ S₅ inv₅ => ?_; try k_fold
      have st₅ : St (i + 1) s₅.heap := W.frame _ _ _ st₄ fun b hb o ho => e₅.keepAt ho (hfp b hb).1 (hfp b hb).2
      exact wpAny_pure ⟨rfl, ps.length + 1 - (i + 1), by omega, i + 1, hlt, rfl, e₁₃.trans (e₄.ofNo.trans (e₅.mono fun a h => .inl h)), S₅.drop hx0, st₅, inv₅⟩
  · have hin : i = ps.length := by omega
    subst hin
    refine with_size (W.done s₁ _ _ st₁ fun h' tk hk hsz => ?_)
    have e₂ : Ext prog w (fun a => a ∈ wr) C s₁ { s₁ with heap := h', toks := tk } := ⟨hsz, fun b o e hb => .inl (hk b o hb e), rfl, rfl⟩
    dsimp only
    refine wpAny_pure (hR _ (e₁.trans (e₂.mono fun a h => .inr h)) (S₁.extZ e₂ hwX hlw hcw) (hInv _ _ _ inv₁ (e₂.mono hwN)))
end Mine
end
section
open PySem PySem.W PySem.Calls PyProof.Rows
set_option Elab.async false
set_option maxRecDepth 100000
set_option linter.unusedVariables false
namespace Mine
variable {prog : Program} {w : World} {K : Frag} {mb : Str → Option Value} {X Y : Addr → Prop} {C : Mem} {s s' s'' : Shared} {A : Around} {env : Env} {ρ : List (Str × PV)} {n : Nat}

/-! the frame of a comprehension -/
noncomputable def isFree (scope : Scope) (q : Str × PV) : Bool := scope.names.lookup q.1 == some .free
theorem lk_same {β : Type} {x : Str} {v : β} {l : List (Str × β)} : List.lookup x ((x, v) :: l) = some v := by rw [List.lookup_cons, beq_self_eq_true]
theorem lk_ne {β : Type} {x y : Str} {v : β} {l : List (Str × β)} (h : x ≠ y) : List.lookup x ((y, v) :: l) = l.lookup x := by rw [List.lookup_cons, beq_false_of_ne h]
theorem lk_cases {β : Type} {x y : Str} {v c : β} {l : List (Str × β)} (h : List.lookup x ((y, v) :: l) = some c) : (x = y ∧ v = c) ∨ l.lookup x = some c := by
  by_cases e : x = y
  · rw [e, lk_same] at h; exact .inl ⟨e, Option.some.inj h⟩
  · rw [lk_ne e] at h; exact .inr h
theorem lk_keep {β : Type} {x y : Str} {v : β} {l : List (Str × β)} (h : (l.lookup x).isSome = true) : (List.lookup x ((y, v) :: l)).isSome = true := by
  by_cases e : x = y
  · rw [e, lk_same]; rfl
  · rw [lk_ne e]; exact h
theorem lookup_filter {f : Str × PV → Bool} {g : Str → Bool} (hf : ∀ q, f q = g q.1) {ρ : List (Str × PV)} {x : Str} : (ρ.filter f).lookup x = if g x then ρ.lookup x else none := by
  induction ρ with
  | nil => exact (ite_self _).symm
  | cons q ρ ih =>
    obtain ⟨y, p⟩ := q
    rw [List.filter_cons, hf]
    by_cases e : x = y
    · subst e
      by_cases hg : g x = true
      · rw [if_pos hg, if_pos hg, lk_same, lk_same]
      · rw [if_neg hg, if_neg hg, ih, if_neg hg]
    · rw [lk_ne e]
      by_cases hg : g y = true
      · rw [if_pos hg, lk_ne e]; exact ih
      · rw [if_neg hg]; exact ih

noncomputable def clOf (names : List (Str × NameKind)) (cells : List (Str × Addr)) : List (Str × Addr) := names.foldl (fun cs q => if q.2 == .free then (match cells.lookup q.1 with | some a => (q.1, a) :: cs | none => cs) else cs) []
theorem closureFor_eq {scope : Scope} (h : ∀ q ∈ scope.names, q.2 = .free → (env.cells.lookup q.1).isSome = true) : closureFor scope env = pure (clOf scope.names env.cells) := by
  unfold closureFor clOf
  have : ∀ (names : List (Str × NameKind)) (cs : List (Str × Addr)), (∀ q ∈ names, q.2 = .free → (env.cells.lookup q.1).isSome = true) →
      (forIn names cs (fun x r => do
        match x with
        | (name, kind) => if kind == .free then do pure (ForInStep.yield ((name, ← cellOf env name) :: r)) else pure (ForInStep.yield r)) : Sem (List (Str × Addr))) =
      pure (names.foldl (fun cs q => if q.2 == .free then (match env.cells.lookup q.1 with | some a => (q.1, a) :: cs | none => cs) else cs) cs) := by
    intro names
    induction names with
    | nil => intro cs _; rfl
    | cons q r ih =>
      intro cs hq
      obtain ⟨n, k⟩ := q
      rw [List.forIn_cons, List.foldl_cons]
      by_cases hk : k = .free
      · subst hk
        refine Mine.el1a (Option.isSome_iff_exists.mp (hq (n, .free) (.head _) rfl)) fun a ha => ?_
        simp only [beq_self_eq_true, if_true, ha]
        unfold cellOf
        rw [ha]
        exact ih _ fun q hm => hq q (.tail _ hm)
      · have : (k == NameKind.free) = false := by simpa using hk
        simp only [this, Bool.false_eq_true, if_false]
        exact ih _ fun q hm => hq q (.tail _ hm)
  have e := this scope.names [] h
  first
    | (rw [← bind_pure (x := (pure (List.foldl _ [] scope.names) : Sem (List (Str × Addr))))]; (refine Mine.rwl (e).symm ?_; try with_reducible rfl); rfl)
    | (rw [← e]; rfl)
    | (show (forIn _ _ _ >>= _) = _; rw [e]; rfl)
/-- by the kinds of the names: a cell, or another -/
theorem kinds_ind {P : List (Str × NameKind) → Prop} (h0 : P []) (k0 : NameKind) (hc : ∀ y names, P names → P ((y, k0) :: names)) (hs : ∀ y k names, k ≠ k0 → P names → P ((y, k) :: names)) (names : List (Str × NameKind)) : P names := by
  induction names with
  | nil => exact h0
  | cons q names ih =>
    obtain ⟨y, k⟩ := q
    by_cases h : k = k0
    · exact h ▸ hc y names ih
    · exact hs y k names h ih
theorem not_beq {k k0 : NameKind} (h : k ≠ k0) : ¬ (k == k0) = true := fun q => h (beq_iff_eq.mp q)
noncomputable def clStep (cells : List (Str × Addr)) (cs : List (Str × Addr)) (q : Str × NameKind) : List (Str × Addr) := if q.2 == .free then (match cells.lookup q.1 with | some a => (q.1, a) :: cs | none => cs) else cs
theorem cl_lookup {cells : List (Str × Addr)} {x : Str} {c : Addr} (names : List (Str × NameKind)) : ∀ cs : List (Str × Addr), (names.foldl (clStep cells) cs).lookup x = some c → cs.lookup x = some c ∨ ((x, NameKind.free) ∈ names ∧ cells.lookup x = some c) := by
  refine kinds_ind (P := fun names => ∀ cs : List (Str × Addr), (names.foldl (clStep cells) cs).lookup x = some c → cs.lookup x = some c ∨ ((x, NameKind.free) ∈ names ∧ cells.lookup x = some c)) (fun cs h => .inl h) .free (fun y names ih cs h => ?_) (fun y k names hk ih cs h => ?_) names
  · refine (ih _ h).elim (fun h1 => ?_) fun h1 => .inr ⟨.tail _ h1.1, h1.2⟩
    change List.lookup x (match cells.lookup y with | some a => (y, a) :: cs | none => cs) = some c at h1
    cases hl : cells.lookup y with
    | none => rw [hl] at h1; exact .inl h1
    | some a =>
      rw [hl] at h1
      refine (lk_cases h1).elim (fun e => .inr ?_) .inl
      rw [e.1, hl, e.2]; exact ⟨.head _, rfl⟩
  · rw [List.foldl_cons, show clStep cells cs (y, k) = cs from if_neg (not_beq hk)] at h
    exact (ih cs h).imp id fun h1 => ⟨.tail _ h1.1, h1.2⟩
theorem clOf_lookup {names : List (Str × NameKind)} {cells : List (Str × Addr)} {x : Str} {c : Addr} (h : (clOf names cells).lookup x = some c) : (x, NameKind.free) ∈ names ∧ cells.lookup x = some c :=
  (cl_lookup names [] h).resolve_left fun q => nomatch q
theorem cl_has {cells : List (Str × Addr)} {x : Str} (hc : (cells.lookup x).isSome = true) (names : List (Str × NameKind)) : ∀ cs : List (Str × Addr), (x, NameKind.free) ∈ names ∨ (cs.lookup x).isSome = true → ((names.foldl (clStep cells) cs).lookup x).isSome = true := by
  refine kinds_ind (P := fun names => ∀ cs : List (Str × Addr), (x, NameKind.free) ∈ names ∨ (cs.lookup x).isSome = true → ((names.foldl (clStep cells) cs).lookup x).isSome = true) (fun cs h => h.resolve_left List.not_mem_nil) .free (fun y names ih cs h => ih _ ?_) (fun y k names hk ih cs h => ?_) names
  · change _ ∨ (List.lookup x (match cells.lookup y with | some a => (y, a) :: cs | none => cs)).isSome = true
    by_cases e : x = y
    · subst e
      obtain ⟨a, ha⟩ := Option.isSome_iff_exists.mp hc
      rw [ha]; exact .inr (by rw [lk_same]; rfl)
    · refine h.imp (fun h => (List.mem_cons.mp h).resolve_left fun q => e (congrArg (·.1) q)) fun h => ?_
      cases cells.lookup y with
      | none => exact h
      | some a => exact lk_keep h
  · rw [List.foldl_cons, show clStep cells cs (y, k) = cs from if_neg (not_beq hk)]
    exact ih cs (h.imp (fun h => (List.mem_cons.mp h).resolve_left fun q => hk (congrArg (·.2) q).symm) id)
theorem clOf_has {names : List (Str × NameKind)} {cells : List (Str × Addr)} {x : Str} (h : (x, NameKind.free) ∈ names) (hc : (cells.lookup x).isSome = true) : ((clOf names cells).lookup x).isSome = true := cl_has hc names [] (.inl h)

theorem cells_skip {y : Str} {k : NameKind} {names : List (Str × NameKind)} {n : Nat} {acc : List (Str × Addr)} (h : k ≠ .cell) : cellsFrom n ((y, k) :: names) acc = cellsFrom n names acc := if_neg (not_beq h)
theorem push_skip {y : Str} {k : NameKind} {names : List (Str × NameKind)} {h : Heap} (hk : k ≠ .cell) : pushCells h ((y, k) :: names) = pushCells h names := if_neg (not_beq hk)
theorem cells_spec (names : List (Str × NameKind)) : ∀ (h : Heap) (acc : List (Str × Addr)) (x : Str) (c : Addr), (cellsFrom h.objs.size names acc).lookup x = some c →
    acc.lookup x = some c ∨ ((x, NameKind.cell) ∈ names ∧ h.objs.size ≤ c ∧ (pushCells h names).IsCell c none) := by
  refine kinds_ind (P := fun names => ∀ (h : Heap) (acc : List (Str × Addr)) (x : Str) (c : Addr), (cellsFrom h.objs.size names acc).lookup x = some c → acc.lookup x = some c ∨ ((x, NameKind.cell) ∈ names ∧ h.objs.size ≤ c ∧ (pushCells h names).IsCell c none)) (fun h acc x c e => .inl e) .cell (fun y names ih h acc x c e => ?_) (fun y k names hk ih h acc x c e => ?_) names
  · refine (ih (h.push { cls := .type "cell", data := .cell none }) ((y, h.objs.size) :: acc) x c (by rw [Heap.size_push]; exact e)).elim (fun q => ?_) fun q => .inr ⟨.tail _ q.1, Nat.le_of_succ_le (Nat.le_trans (Nat.le_of_eq (Heap.size_push h _).symm) q.2.1), q.2.2⟩
    refine (lk_cases q).elim (fun q => .inr ?_) .inl
    rw [q.1, ← q.2]
    exact ⟨.head _, Nat.le_refl _, _, pushCells_keeps names (h.push { cls := .type "cell", data := .cell none }) _ _ (Heap.get?_push_size _ rfl), rfl⟩
  · rw [cells_skip hk] at e
    rw [push_skip hk]
    exact (ih h acc x c e).imp id fun q => ⟨.tail _ q.1, q.2⟩
theorem cells_keep (names : List (Str × NameKind)) : ∀ (n : Nat) (acc : List (Str × Addr)) (x : Str), (acc.lookup x).isSome = true → ((cellsFrom n names acc).lookup x).isSome = true := by
  refine kinds_ind (P := fun names => ∀ (n : Nat) (acc : List (Str × Addr)) (x : Str), (acc.lookup x).isSome = true → ((cellsFrom n names acc).lookup x).isSome = true) (fun _ _ _ h => h) .cell (fun y names ih n acc x h => ih (n + 1) _ x (lk_keep h)) (fun y k names hk ih n acc x h => ?_) names
  rw [cells_skip hk]; exact ih n acc x h
theorem cells_has (names : List (Str × NameKind)) : ∀ (n : Nat) (acc : List (Str × Addr)) (x : Str), (x, NameKind.cell) ∈ names → ((cellsFrom n names acc).lookup x).isSome = true := by
  refine kinds_ind (P := fun names => ∀ (n : Nat) (acc : List (Str × Addr)) (x : Str), (x, NameKind.cell) ∈ names → ((cellsFrom n names acc).lookup x).isSome = true) (fun _ _ _ h => absurd h List.not_mem_nil) .cell (fun y names ih n acc x h => ?_) (fun y k names hk ih n acc x h => ?_) names
  · exact (List.mem_cons.mp h).elim (fun q => cells_keep names (n + 1) _ x (by rw [show x = y from congrArg (·.1) q, lk_same]; rfl)) (ih (n + 1) _ x)
  · rw [cells_skip hk]; exact ih n acc x ((List.mem_cons.mp h).resolve_left fun q => hk (congrArg (·.2) q).symm)
theorem cells_inj (names : List (Str × NameKind)) : ∀ (n : Nat) (acc : List (Str × Addr)), (∀ z d, acc.lookup z = some d → d < n) → (∀ y z d, acc.lookup y = some d → acc.lookup z = some d → y = z) →
    ∀ y z d, (cellsFrom n names acc).lookup y = some d → (cellsFrom n names acc).lookup z = some d → y = z := by
  refine kinds_ind (P := fun names => ∀ (n : Nat) (acc : List (Str × Addr)), (∀ z d, acc.lookup z = some d → d < n) → (∀ y z d, acc.lookup y = some d → acc.lookup z = some d → y = z) →
    ∀ y z d, (cellsFrom n names acc).lookup y = some d → (cellsFrom n names acc).lookup z = some d → y = z) (fun _ _ _ hi => hi) .cell (fun u names ih n acc hl hi => ?_) (fun y k names hk ih n acc hl hi => ?_) names
  · refine ih (n + 1) _ (fun z d e => ?_) fun y z d ey ez => ?_
    · exact (lk_cases e).elim (fun q => Nat.lt_succ_of_le (Nat.le_of_eq q.2.symm)) fun q => Nat.lt_succ_of_lt (hl z d q)
    · exact (lk_cases ey).elim (fun p => (lk_cases ez).elim (fun q => p.1.trans q.1.symm) fun q => absurd p.2 (Nat.ne_of_gt (hl z d q))) fun p => (lk_cases ez).elim (fun q => absurd q.2 (Nat.ne_of_gt (hl y d p))) fun q => hi y z d p q
  · rw [cells_skip hk]; exact ih n acc hl hi

theorem wpAny_compEnv {scope : Scope} {cl : List (Str × Addr)} {Q : Env → Shared → Prop} {E : Value → Shared → Prop}
    (hQ : ∀ cenv : Env, ({ cenv with scope := relabel scope env } : Env) = compEnvC scope (cellsFrom (s.heap.objs.size + 1) scope.names cl) s.heap.objs.size env → cenv.locals = s.heap.objs.size →
      Q cenv { s with heap := pushCells (s.heap.push { cls := .type "dict", data := .dict #[] }) scope.names }) :
    wpAny (model prog w) A (newFunctionEnv scope env.globals cl [] env.qual none .none (some env)) Q E s := by
  simp only [newFunctionEnv, Option.isSome_some, if_true]
  refine wpAny_bind (wpAny_alloc ?_)
  refine wpAny_bind (wpAny_layCells _ (fun name kind cells => by cases hkc : kind == NameKind.cell <;> simp [hkc]) _ _ _ _ ?_)
  rw [show ({ s with heap := s.heap.push { cls := .type "dict", data := .dict #[] } } : Shared).heap.objs.size = s.heap.objs.size + 1 from Heap.size_push ..]
  refine wpAny_bind ?_
  exact wpAny_pure (wpAny_pure (hQ _ rfl rfl))
theorem pushCells_size (names : List (Str × NameKind)) : ∀ (h : Heap), h.objs.size ≤ (pushCells h names).objs.size := by
  refine kinds_ind (P := fun names => ∀ (h : Heap), h.objs.size ≤ (pushCells h names).objs.size) (fun _ => Nat.le_refl _) .cell (fun y names ih h => ?_) (fun y k names hk ih h => ?_) names
  · exact Nat.le_trans (Nat.le_of_lt (Nat.lt_of_lt_of_le (Nat.lt_succ_self _) (Nat.le_of_eq (Heap.size_push h _).symm))) (ih _)
  · rw [push_skip hk]; exact ih h

/-- what a comprehension may change: its own dict and cells, and what it builds -/
noncomputable def CompN (scope : Scope) (L : Addr) (cells : List (Str × Addr)) (lo : Nat) (a : Addr) : Prop := a = L ∨ (lo ≤ a ∧ ∃ x, (x, NameKind.cell) ∈ scope.names ∧ cells.lookup x = some a)

structure ScopeOk (scope : Scope) (env : Env) : Prop where
  kind : scope.kind = .function
  nodup : (scope.names.map (·.1)).Nodup
  free : ∀ q ∈ scope.names, q.2 = .free → (env.cells.lookup q.1).isSome = true ∧ (env.kindOf q.1 = some .cell ∨ env.kindOf q.1 = some .free)
noncomputable def scopeOkB (scope : Scope) (env : Env) : Bool := scope.kind == .function && decide (scope.names.map (·.1)).Nodup && scope.names.all fun q => q.2 != .free || ((env.cells.lookup q.1).isSome && (env.kindOf q.1 == some .cell || env.kindOf q.1 == some .free))
theorem scopeOk_of {scope : Scope} (h : scopeOkB scope env = true) : ScopeOk scope env := by
  unfold scopeOkB at h
  rw [Bool.and_eq_true, Bool.and_eq_true] at h
  (refine Mine.el0b h fun hq1 h3 => ?_; try clear h; obtain ⟨h1, h2⟩ := hq1)
  refine ⟨by simpa using h1, of_decide_eq_true h2, fun q hq hf => ?_⟩
  have := List.all_eq_true.mp h3 q hq
  simpa [hf] using this

theorem lookup_of_nodup {l : List (Str × NameKind)} {x : Str} {k : NameKind} (hn : (l.map (·.1)).Nodup) (hm : (x, k) ∈ l) : l.lookup x = some k := by
  induction l with
  | nil => cases hm
  | cons q l ih =>
    obtain ⟨y, k'⟩ := q
    rw [List.map_cons, List.nodup_cons] at hn
    refine (List.mem_cons.mp hm).elim (fun e => ?_) fun hm => ?_
    · rw [← e]; exact lk_same
    · exact (lk_ne fun q => hn.1 (List.mem_map.mpr ⟨_, hm, q⟩)).trans (ih hn.2 hm)
theorem mem_of_lookup' : ∀ {l : List (Str × NameKind)} {x : Str} {k : NameKind}, l.lookup x = some k → (x, k) ∈ l := fun h => mem_of_lookup h
theorem lookup_relabel {scope : Scope} {x : Str} : (relabel scope env).names.lookup x = (scope.names.lookup x).map fun k => if (k == .free && env.scope.kind == .function && env.kindOf x == some .cell) then .cell else k := by
  unfold relabel
  show List.lookup x (scope.names.map _) = _
  generalize scope.names = l
  induction l with
  | nil => rfl
  | cons q l ih =>
    obtain ⟨y, k⟩ := q
    rw [List.map_cons, List.lookup_cons (as := l)]
    by_cases hc : (k == NameKind.free && env.scope.kind == .function && env.kindOf y == some .cell) = true
    · show List.lookup x ((if (k == NameKind.free && env.scope.kind == .function && env.kindOf y == some .cell) = true then (y, NameKind.cell) else (y, k)) :: _) = _
      rw [if_pos hc, List.lookup_cons]
      cases hb : x == y with
      | true => have := beq_iff_eq.mp hb; subst this; rw [Option.map_some, if_pos hc]
      | false => exact ih
    · show List.lookup x ((if (k == NameKind.free && env.scope.kind == .function && env.kindOf y == some .cell) = true then (y, NameKind.cell) else (y, k)) :: _) = _
      rw [if_neg hc, List.lookup_cons]
      cases hb : x == y with
      | true => have := beq_iff_eq.mp hb; subst this; rw [Option.map_some, if_neg hc]
      | false => exact ih

theorem comp_sit {scope : Scope} {wr : List Addr} (S : Sit prog w K mb n C X A env ρ s) (hap : Apart env) (hs : ScopeOk scope env) (hwr : ∀ a ∈ wr, FreeA K a ∧ a < s.heap.objs.size ∧ C a = none)
    {cells : List (Str × Addr)} (hcells : cells = cellsFrom (s.heap.objs.size + 1) scope.names (clOf scope.names env.cells))
    {X' : Addr → Prop} (hX' : ∀ a, X' a ↔ X a ∨ a ∈ wr ∨ CompN scope s.heap.objs.size cells s.heap.objs.size a)
    (F' : Fm X' C env s.heap ρ) :
    Sit prog w K mb n C X' A (compEnvC scope cells s.heap.objs.size env) (ρ.filter (isFree scope)) { s with heap := pushCells (s.heap.push { cls := .type "dict", data := .dict #[] }) scope.names } ∧
    Apart (compEnvC scope cells s.heap.objs.size env) ∧
    (∀ x c, cells.lookup x = some c → (∃ k, (x, k) ∈ scope.names ∧ k = .free ∧ env.cells.lookup x = some c) ∨ ((x, NameKind.cell) ∈ scope.names ∧ s.heap.objs.size + 1 ≤ c)) := by
  have hkeep : ∀ b o, s.heap.get? b = some o → (pushCells (s.heap.push { cls := .type "dict", data := .dict #[] }) scope.names).get? b = some o :=
    fun b o e => pushCells_keeps _ _ _ _ (Heap.get?_push_of_some _ e)
  have hsize : s.heap.objs.size + 1 ≤ (pushCells (s.heap.push { cls := .type "dict", data := .dict #[] }) scope.names).objs.size := by
    have := pushCells_size scope.names (s.heap.push { cls := .type "dict", data := .dict #[] })
    rwa [Heap.size_push] at this
  have hcl : ∀ x c, (clOf scope.names env.cells).lookup x = some c → (x, NameKind.free) ∈ scope.names ∧ env.cells.lookup x = some c := fun x c e => clOf_lookup e
  have hcellT : ∀ x c, cells.lookup x = some c → (∃ k, (x, k) ∈ scope.names ∧ k = .free ∧ env.cells.lookup x = some c) ∨ ((x, NameKind.cell) ∈ scope.names ∧ s.heap.objs.size + 1 ≤ c ∧ (pushCells (s.heap.push { cls := .type "dict", data := .dict #[] }) scope.names).IsCell c none) := fun x c e => by
    rw [hcells] at e
    rcases cells_spec scope.names (s.heap.push { cls := .type "dict", data := .dict #[] }) _ x c (by rw [Heap.size_push]; exact e) with h | ⟨h1, h2, h3⟩
    · refine Mine.el0b (hcl x c h) fun h1 h2 => ?_
      exact .inl ⟨_, h1, rfl, h2⟩
    · rw [Heap.size_push] at h2
      exact .inr ⟨h1, h2, h3⟩
  have hlt : ∀ x c, env.cells.lookup x = some c → c < s.heap.objs.size := fun x c e => by
    (refine Mine.el1b (S.fm.cell x c e) fun ov hq2 _ => ?_; obtain ⟨o, ho, _⟩ := hq2)
    exact Heap.lt_size ho
  have hbd : ∀ a, X' a → a < (pushCells (s.heap.push { cls := .type "dict", data := .dict #[] }) scope.names).objs.size := fun a h => by
    rcases (hX' a).mp h with h | h | rfl | ⟨_, x, hm, hc⟩
    · exact Nat.lt_of_lt_of_le (S.bd a h) (Nat.le_trans (Nat.le_succ _) hsize)
    · exact Nat.lt_of_lt_of_le (hwr a h).2.1 (Nat.le_trans (Nat.le_succ _) hsize)
    · exact hsize
    · rcases hcellT x a hc with ⟨k, _, _, h⟩ | ⟨_, _, o, ho, _⟩
      · exact Nat.lt_of_lt_of_le (hlt x a h) (Nat.le_trans (Nat.le_succ _) hsize)
      · exact Heap.lt_size ho
  refine ⟨⟨S.base.keepsF fun b o e _ => hkeep b o e, S.rm, hbd, fun a h => ?_, fun a P e => ?_, ?_⟩, ?_, ?_⟩
  · rcases (hX' a).mp h with h | h | rfl | ⟨hlo, _⟩
    · exact S.xo a h
    · exact (hwr a h).1
    · exact S.base.fresh (Nat.le_refl _)
    · exact S.base.fresh hlo
  · obtain ⟨h1, h2, o, es, ho, hm⟩ := S.co a P e
    refine ⟨h1, fun q => ?_, o, es, hkeep _ _ ho, hm⟩
    rcases (hX' a).mp q with q | q | rfl | ⟨hlo, _⟩
    · exact h2 q
    · rw [(hwr a q).2.2] at e; cases e
    · exact Nat.lt_irrefl _ (Heap.lt_size ho)
    · exact absurd (Heap.lt_size ho) (Nat.not_lt.mpr hlo)
  · refine ⟨by simp [compEnvC, relabel, hs.kind], S.fm.globals, S.fm.builtins, co_new S (Nat.le_refl _), ⟨fun _ => none, ?_, fun x p e k => ?_⟩, fun x c e => ?_⟩
    · have : (s.heap.push { cls := .type "dict", data := .dict #[] }).Ns s.heap.objs.size (fun _ => none) := Heap.Ns.new s.heap (.type "dict")
      exact this.keeps (pushCells_keeps _ _)
    · exfalso
      rw [lookup_filter (f := isFree scope) (g := fun x => scope.names.lookup x == some .free) (fun q => rfl)] at e
      split at e
      · rename_i hf
        have hf' : scope.names.lookup x = some .free := by simpa using hf
        have : (compEnvC scope cells s.heap.objs.size env).kindOf x = (relabel scope env).names.lookup x := rfl
        rw [this, lookup_relabel, hf'] at k
        simp only [Option.map_some, Option.some.injEq] at k
        split at k <;> cases k
      · cases e
    · rcases hcellT x c e with ⟨k, hm, rfl, hc⟩ | ⟨hm, hlo, hi⟩
      · refine Mine.el1b (F'.cell x c hc) fun ov hi hv => ?_
        refine ⟨ov, hi.keeps hkeep, fun p hp hk => ?_⟩
        rw [lookup_filter (f := isFree scope) (g := fun x => scope.names.lookup x == some .free) (fun q => rfl)] at hp
        split at hp
        · have hkind : env.kindOf x = some .cell ∨ env.kindOf x = some .free := (hs.free _ hm rfl).2
          refine Mine.el1b (hv p hp hkind) fun v h1 h2 => ?_
          exact ⟨v, h1, h2.keeps hkeep⟩
        · cases hp
      · refine ⟨none, hi, fun p hp hk => ?_⟩
        exfalso
        rw [lookup_filter (f := isFree scope) (g := fun x => scope.names.lookup x == some .free) (fun q => rfl)] at hp
        split at hp
        · rename_i hf
          have hf' : scope.names.lookup x = some .free := by simpa using hf
          rw [lookup_of_nodup hs.nodup hm] at hf'; cases hf'
        · cases hp
  · intro x y c hx hy
    have hx' : (cellsFrom (s.heap.objs.size + 1) scope.names (clOf scope.names env.cells)).lookup x = some c := by rw [← hcells]; exact hx
    have hy' : (cellsFrom (s.heap.objs.size + 1) scope.names (clOf scope.names env.cells)).lookup y = some c := by rw [← hcells]; exact hy
    exact cells_inj _ _ _ (fun z d e => Nat.lt_succ_of_lt (hlt z d (hcl z d e).2)) (fun y z d e1 e2 => hap y z d (hcl y d e1).2 (hcl z d e2).2) x y c hx' hy'
  · intro x c e
    rcases hcellT x c e with h | ⟨h1, h2, _⟩
    · exact .inl h
    · exact .inr ⟨h1, h2⟩
end Mine
end
section
open PySem PySem.W PySem.Calls PyProof.Rows
set_option Elab.async false
set_option maxRecDepth 100000
set_option linter.unusedVariables false
namespace Mine
variable {prog : Program} {w : World} {K : Frag} {mb : Str → Option Value} {X Y : Addr → Prop} {C : Mem} {s s' s'' : Shared} {A : Around} {env : Env} {ρ : List (Str × PV)} {n : Nat}

theorem comp_start {e : Expr} {d : Nat} {I : Addr} {acc : Value} {cenv : Env} {R : Result → Shared → Prop} (hloop : codeAny (model prog w) A (.compLoop e d (.ref I) acc cenv) R s)
    (hself : ∀ (Q : Value → Shared → Prop) (E : Value → Shared → Prop), Q (.ref I) s → wpAny (model prog w) A (pyIter (.ref I)) Q E s)
    (hcl : autoParam (((clausesOf e)[d]?).elim false (·.is_async != 0) = false) Mine.autoR) (hfr : autoParam ((Code.compStart e d (.ref I) acc cenv).isFrame = false) Mine.autoR) (hund : autoParam (A.under (Code.compStart e d (.ref I) acc cenv) = A) Mine.autoR)
    (hq : autoParam ((Code.compLoop e d (.ref I) acc cenv).quiet = true) Mine.autoR) :
    codeAny (model prog w) A (.compStart e d (.ref I) acc cenv) R s := by
  refine codeAny_of_tree ?_; try k_fold
  have hden : (model prog w).den (Code.compStart e d (.ref I) acc cenv) = (compStart e d (.ref I) acc cenv).onRaise (fun x => do noteFrame x cenv; standAt theWindowsPlace) := by
    show (if (Code.compStart e d (.ref I) acc cenv).isFrame = true then _ else _) = _
    rw [hfr]; rfl
  rw [hden, hund]
  refine wpAny_notedAt ?_; try k_fold
  unfold compStart
  rw [hcl]
  simp only [Bool.false_eq_true, if_false]
  refine wpAny_bind (wpAny_askSetting (wpAny_ite ?_))
  split
  · exact wpAny_pure ⟨hq, hloop⟩
  · refine wpAny_bind (wpAny_rule ?_)
    split
    · refine wpAny_bind (wpAny_standAt ?_)
      exact wpAny_bind (hself _ _ (wpAny_pure ⟨hq, hloop⟩))
    · exact wpAny_bind (hself _ _ (wpAny_pure ⟨hq, hloop⟩))

theorem Fm.monoX {h : Heap} (F : Fm X C env h ρ) (hX : ∀ a, Y a → X a ∨ h.objs.size ≤ a) : Fm Y C env h ρ := by
  refine ⟨F.kind, F.globals, F.builtins, F.cl, ?_, fun x c e => ?_⟩
  · refine Mine.el1b F.ns fun m hn hv => ?_
    exact ⟨m, hn, fun x p e k => let ⟨v, h1, h2⟩ := hv x p e k; ⟨v, h1, h2.monoX hX⟩⟩
  · refine Mine.el1b (F.cell x c e) fun ov hc hv => ?_
    exact ⟨ov, hc, fun p e k => let ⟨v, h1, h2⟩ := hv p e k; ⟨v, h1, h2.monoX hX⟩⟩
theorem Ext.freshZ {Z Z' : Addr → Prop} (h : Ext prog w Z' C s s') (h' : Ext prog w Z C s' s'') (hz : ∀ a, Z a → Z' a ∨ s.heap.objs.size ≤ a) : Ext prog w Z' C s s'' := by
  refine ⟨Nat.le_trans h.size h'.size, fun b o e hb' => ?_, h'.gens.trans h.gens, h'.os.trans h.os⟩
  have hb : ¬ Z b := fun q => (hz b q).elim hb' fun z => Nat.lt_irrefl _ (Nat.lt_of_lt_of_le (Heap.lt_size e) z)
  rcases h.keep b o e hb' with k | ⟨P, hP, es, o', more, m1, k, m2, hm⟩
  · exact h'.keep b o k hb
  · rcases h'.keep b o' k hb with k' | ⟨P', hP', es', o'', more', m1', k', m2', hm'⟩
    · exact .inr ⟨P, hP, es, o', more, m1, k', m2, hm⟩
    · rw [hP] at hP'; cases hP'
      have := m1'.unique m2; subst this
      refine .inr ⟨P, hP, es, o'', more ++ more', m1, k', by rw [← List.append_assoc]; exact m2', fun p hp => ?_⟩
      rcases List.mem_append.mp hp with hp | hp
      · exact hm p hp
      · exact hm' p hp

theorem Ext.fresh {Z : Addr → Prop} (h : Ext prog w noX C s s') (h' : Ext prog w Z C s' s'') (hz : ∀ a, Z a → s.heap.objs.size ≤ a) : Ext prog w noX C s s'' := h.freshZ h' fun a q => .inr (hz a q)
/-- what a comprehension's body may know of its frame -/
structure CE (scope : Scope) (cells : List (Str × Addr)) (L : Addr) (env : Env) (X X' : Addr → Prop) (lo : Nat) : Prop where
  ap : Apart (compEnvC scope cells L env)
  fr : ∀ x, (x, NameKind.free) ∈ scope.names → (cells.lookup x).isSome = true
  up : ∀ a, X a → X' a
  nw : ∀ a, X' a → X a ∨ lo ≤ a
  ch : ∀ x, (x, NameKind.cell) ∈ scope.names → (cells.lookup x).isSome = true
/-- where a comprehension's loop begins -/
structure CompAt (prog : Program) (w : World) (K : Frag) (mb : Str → Option Value) (n : Nat) (C : Mem) (X : Addr → Prop) (A : Around) (env : Env) (ρ : List (Str × PV)) (scope : Scope) (ps : List PV) (accObj : Obj)
    (s₁ s₄ : Shared) (acc L I : Addr) (fp wr : List Addr) (P : Nat → Value → Prop) (St : Nat → Heap → Prop) (cells : List (Str × Addr)) (X' : Addr → Prop) : Prop where
  sit : Sit prog w K mb n C X' A (compEnvC scope cells L env) (ρ.filter (isFree scope)) s₄
  ap : Apart (compEnvC scope cells L env)
  cellT : ∀ x c, cells.lookup x = some c → (∃ k, (x, k) ∈ scope.names ∧ k = .free ∧ env.cells.lookup x = some c) ∨ ((x, NameKind.cell) ∈ scope.names ∧ L + 1 ≤ c)
  cellH : ∀ x, (x, NameKind.cell) ∈ scope.names → ∃ c, cells.lookup x = some c
  cellF : ∀ x, (x, NameKind.free) ∈ scope.names → (cells.lookup x).isSome = true
  W : Walks prog w A I fp wr ps.length P St
  st : St 0 s₄.heap
  fpa : ∀ b ∈ fp, b < acc ∧ C b = none
  hP : ∀ i v p, P i v → ps[i]? = some p → Rep X' s₄.heap v p
  ext : Ext prog w noX C s₁ s₄
  accO : s₄.heap.get? acc = some accObj
  lo : s₁.heap.objs.size ≤ acc
  accL : acc < L
  wrlo : ∀ b ∈ wr, s₁.heap.objs.size ≤ b
  sub : ∀ a, X a → a < s₁.heap.objs.size
  hX : ∀ a, X' a ↔ X a ∨ a = acc ∨ a ∈ wr ∨ CompN scope L cells L a
  outer : ∀ x c, env.cells.lookup x = some c → c < s₁.heap.objs.size
  so : ScopeOk scope env

theorem comp_core {e : Expr} {scope : Scope} {pos : Pos} {g : Comprehension} {gs : List Comprehension} {use : Option (Value → Sem Unit)} {newAcc : Sem Value} {accObj : Obj} {ps : List PV} {Q : Value → Shared → Prop} {E : Value → Shared → Prop}
    (hcl : clausesOf e = g :: gs) (hset : ∀ x, foldedSetIterable g.iter env x = pure x) (S : Sit prog w K mb n C X A env ρ s) (hap : Apart env) (hs : ScopeOk scope env) (hit : EvI prog w C X A env g.iter ps s)
    (hnew : ∀ (s : Shared) (Q : Value → Shared → Prop) (E : Value → Shared → Prop), Q (.ref s.heap.objs.size) { s with heap := s.heap.push accObj } → wpAny (model prog w) A newAcc Q E s) (hfr : accObj.isFreed = false)
    (loop : ∀ s₄ acc L I fp wr P St cells X', CompAt prog w K mb n C X A env ρ scope ps accObj s s₄ acc L I fp wr P St cells X' →
      codeAny (model prog w) A (.compStart e 0 (.ref I) (.ref acc) (compEnvC scope cells L env)) (compPost (model prog w) A E use Q (.ref acc) L) s₄) :
    wpAny (model prog w) A (comprehension e scope env pos newAcc false (eval g.iter env) use) Q E s := by
  refine wpAny_comprehension_free hcl hset (closureFor_eq fun q hq hf => (hs.free q hq hf).1) hs.kind (fun x hx hl => lookup_of_nodup hs.nodup (by obtain ⟨a, b⟩ := x; simp only at hl; subst hl; exact hx)) ?_
  refine hit s .refl _ _ fun it s₂ e₂ hI => hnew _ _ _ (wpAny_compEnv fun cenv hce hloc => ?_)
  (refine Mine.el5f hI fun I fp wr P St hq1 W hst hwr hfp hP => ?_; try clear hI; obtain rfl := hq1)
  have e₃ : Ext prog w noX C s { s₂ with heap := s₂.heap.push accObj } := e₂.trans .push
  generalize hs₃ : ({ s₂ with heap := s₂.heap.push accObj } : Shared) = s₃ at e₃ hce hloc ⊢
  have hsz₃ : s₃.heap.objs.size = s₂.heap.objs.size + 1 := by rw [← hs₃]; exact Heap.size_push ..
  have hacc : s₂.heap.objs.size < s₃.heap.objs.size := by rw [hsz₃]; exact Nat.lt_succ_self _
  have haccO : s₃.heap.get? s₂.heap.objs.size = some accObj := by rw [← hs₃]; exact Heap.get?_push_size _ hfr
  have k₂₃ : ∀ b o, s₂.heap.get? b = some o → s₃.heap.get? b = some o := fun b o h => by rw [← hs₃]; exact Heap.get?_push_of_some _ h
  have S₂ := S.ext e₂
  have S₃ := S.ext e₃
  rw [hce, hloc]
  have hcells : cellsFrom (s₃.heap.objs.size + 1) scope.names (clOf scope.names env.cells) = cellsFrom (s₃.heap.objs.size + 1) scope.names (clOf scope.names env.cells) := rfl
  generalize hC : cellsFrom (s₃.heap.objs.size + 1) scope.names (clOf scope.names env.cells) = cells at hcells ⊢
  let X' : Addr → Prop := fun a => X a ∨ a ∈ s₂.heap.objs.size :: wr ∨ CompN scope s₃.heap.objs.size cells s₃.heap.objs.size a
  have hX'lo : ∀ a, X' a → X a ∨ s.heap.objs.size ≤ a := fun a h => by
    rcases h with h | h | h | ⟨h, _⟩
    · exact .inl h
    · rcases List.mem_cons.mp h with rfl | h
      · exact .inr e₂.size
      · exact .inr (hwr a h)
    · rw [h]; exact .inr e₃.size
    · exact .inr (Nat.le_trans e₃.size h)
  have F' : Fm X' C env s₃.heap ρ := (S.fm.monoX hX'lo).ext e₃
  obtain ⟨S₄, hap₄, hcT⟩ := comp_sit (scope := scope) (wr := s₂.heap.objs.size :: wr) S₃ hap hs (fun a h => by
    rcases List.mem_cons.mp h with h | h
    · rw [h]; exact ⟨S₂.base.fresh (Nat.le_refl _), hacc, co_new S₂ (Nat.le_refl _)⟩
    · have q := hfp a (W.sub a h)
      exact ⟨S.base.fresh (hwr a h), Nat.lt_trans q.1 hacc, q.2.1⟩) hC.symm (X' := X') (fun a => Iff.rfl) F'
  have e₄ : Ext prog w noX C s₃ { s₃ with heap := pushCells (s₃.heap.push { cls := .type "dict", data := .dict #[] }) scope.names } := by
    refine .ofKeep ?_ (fun b o h => pushCells_keeps _ _ _ _ (Heap.get?_push_of_some _ h)) rfl rfl
    have := pushCells_size scope.names (s₃.heap.push { cls := .type "dict", data := .dict #[] })
    rw [Heap.size_push] at this
    exact Nat.le_trans (Nat.le_succ _) this
  have k₃₄ : ∀ b o, s₃.heap.get? b = some o → (pushCells (s₃.heap.push { cls := .type "dict", data := .dict #[] }) scope.names).get? b = some o := fun b o h => pushCells_keeps _ _ _ _ (Heap.get?_push_of_some _ h)
  refine loop _ s₂.heap.objs.size s₃.heap.objs.size I fp wr P St cells X' ⟨S₄, hap₄, hcT, fun x hx => ?_, fun x hx => ?_, W, W.frame _ _ _ hst fun b hb o h => k₃₄ _ _ (k₂₃ _ _ h), fun b hb => ⟨(hfp b hb).1, (hfp b hb).2.1⟩, fun i v p hv hp => ?_, e₃.trans e₄, ?_, e₂.size, hacc, hwr, fun a h => S.bd a h, fun a => ?_, fun x c h => ?_, hs⟩
  · rw [← hC]; exact Option.isSome_iff_exists.mp (cells_has _ _ _ x hx)
  · rw [← hC]; exact cells_keep _ _ _ x (clOf_has hx (hs.free _ hx rfl).1)
  · refine ((hP i v p hv hp).monoX (Y := X') fun a h => ?_).keeps fun b o h => k₃₄ _ _ (k₂₃ _ _ h)
    rcases h with h | h | h | ⟨h, _⟩
    · exact .inl (.inl h)
    · rcases List.mem_cons.mp h with h | h
      · rw [h]; exact .inr (Nat.le_refl _)
      · exact .inl (.inr h)
    · rw [h]; exact .inr (Nat.le_of_lt hacc)
    · exact .inr (Nat.le_trans (Nat.le_of_lt hacc) h)
  · exact k₃₄ _ _ haccO
  · show (X a ∨ a ∈ s₂.heap.objs.size :: wr ∨ _) ↔ _
    rw [List.mem_cons, or_assoc]
  · (refine Mine.el1b (S.fm.cell x c h) fun ov hq2 _ => ?_; obtain ⟨o, ho, _⟩ := hq2)
    exact Heap.lt_size ho
theorem CompAt.ce {scope : Scope} {ps : List PV} {accObj : Obj} {s₁ s₄ : Shared} {acc L I : Addr} {fp wr : List Addr} {P : Nat → Value → Prop} {St : Nat → Heap → Prop} {cells : List (Str × Addr)} {X' : Addr → Prop}
    (H : CompAt prog w K mb n C X A env ρ scope ps accObj s₁ s₄ acc L I fp wr P St cells X') {lo : Nat} (hlo : lo ≤ s₁.heap.objs.size) : CE scope cells L env X X' lo := by
  refine ⟨H.ap, H.cellF, fun a h => (H.hX a).mpr (.inl h), fun a h => ?_, fun x hx => by refine Mine.el1a (H.cellH x hx) fun c hc => ?_; rw [hc]; rfl⟩
  have hL : s₁.heap.objs.size ≤ L := Nat.le_trans H.lo (Nat.le_of_lt H.accL)
  rcases (H.hX a).mp h with h | rfl | h | rfl | ⟨h, _⟩
  · exact .inl h
  · exact .inr (Nat.le_trans hlo H.lo)
  · exact .inr (Nat.le_trans hlo (H.wrlo a h))
  · exact .inr (Nat.le_trans hlo hL)
  · exact .inr (Nat.le_trans hlo (Nat.le_trans hL h))
end Mine
end
section
open PySem PySem.W PySem.Calls PyProof.Rows
set_option Elab.async false
set_option maxRecDepth 100000
set_option linter.unusedVariables false
namespace Mine
variable {prog : Program} {w : World} {K : Frag} {mb : Str → Option Value} {X Y : Addr → Prop} {C : Mem} {s s' s'' : Shared} {A : Around} {env : Env} {ρ : List (Str × PV)} {n : Nat}

noncomputable def AccL (X : Addr → Prop) (acc : Addr) (l : List PV) (h : Heap) : Prop := ∃ items, h.IsList acc items ∧ Reps X h items.toList l

theorem emit_list {elt : Expr} {acc : Addr} {done : List PV} {q : PV} {k : Sem Fin} {Q : Fin → Shared → Prop} {E : Value → Shared → Prop} {J : Shared → Prop} (hX : X acc) (hacc : AccL X acc done s.heap) (hsz : done.length ≤ sizeLine)
    (he : Do prog w C A (eval elt env) (fun v s => Rep X s.heap v q ∧ J s) s)
    (hCa : C acc = none) (hJ : ∀ s s', J s → Ext prog w (fun a => a = acc) C s s' → J s')
    (hk : ∀ s', Ext prog w (fun a => a = acc) C s s' → AccL X acc (done ++ [q]) s'.heap → J s' → wpAny (model prog w) A k Q E s') :
    wpAny (model prog w) A ((do let _ ← call (.builtin "list.append") [.ref acc, ← eval elt env] : Sem Unit) >>= fun _ => k) Q E s := by
  refine wpAny_bind (wpAny_bind (he s .refl _ _ fun v s₁ e₁ r => ?_))
  (refine Mine.el1b hacc fun items hl hr => ?_; try clear hacc)
  refine Mine.el0b r fun r j => ?_
  have hl₁ : s₁.heap.IsList acc items := isList_ext e₁ (fun q => q) hl
  have hr₁ := hr.ext e₁.ofNo
  have hn : items.size = done.length := by simpa using hr.length
  refine wpAny_bind (wpAny_list_append hl₁ (fun h' hl' hs => wpAny_pure ?_) (by omega))
  have e₂ : Ext prog w (fun a => a = acc) C s₁ { s₁ with heap := h' } := Ext.sameBut (t := s₁.toks) hs rfl
  have e₂X : Ext prog w X C s₁ { s₁ with heap := h' } := e₂.mono fun a h => h ▸ hX
  refine hk _ (e₁.ofNo.trans e₂) ⟨_, hl', ?_⟩ (hJ _ _ j e₂)
  rw [Array.toList_push]
  exact (hr₁.ext e₂X).append (.cons (r.ext e₂X) .nil)

theorem CompAt.canSt {scope : Scope} {ps : List PV} {accObj : Obj} {s₁ s₄ : Shared} {acc L I : Addr} {fp wr : List Addr} {P : Nat → Value → Prop} {St : Nat → Heap → Prop} {cells : List (Str × Addr)} {X' : Addr → Prop}
    (H : CompAt prog w K mb n C X A env ρ scope ps accObj s₁ s₄ acc L I fp wr P St cells X') {x : Str} (hx : scope.names.lookup x = some .local ∨ scope.names.lookup x = some .cell) : CanSt X' (compEnvC scope cells L env) x ∧ ∀ a, StX (compEnvC scope cells L env) x a → CompN scope L cells L a := by
  have hk : (compEnvC scope cells L env).kindOf x = (relabel scope env).names.lookup x := rfl
  rcases hx with hx | hx
  · have hkx : (compEnvC scope cells L env).kindOf x = some .local := by rw [hk, lookup_relabel, hx]; rfl
    refine ⟨.inl ⟨hkx, (H.hX _).mpr (.inr (.inr (.inr (.inl rfl))))⟩, ?_⟩
    rintro a (⟨_, rfl⟩ | ⟨h, _⟩)
    · exact .inl rfl
    · rw [hkx] at h; cases h
  · have hkx : (compEnvC scope cells L env).kindOf x = some .cell := by rw [hk, lookup_relabel, hx]; rfl
    have hm := mem_of_lookup' hx
    refine Mine.el1a (H.cellH x hm) fun c hc => ?_
    have hlo : L ≤ c := by
      rcases H.cellT x c hc with ⟨k, hm', rfl, _⟩ | ⟨_, h⟩
      · rw [lookup_of_nodup H.so.nodup hm'] at hx; cases hx
      · exact Nat.le_trans (Nat.le_succ _) h
    have hN : CompN scope L cells L c := .inr ⟨hlo, x, hm, hc⟩
    refine ⟨.inr ⟨hkx, c, hc, (H.hX _).mpr (.inr (.inr (.inr hN)))⟩, ?_⟩
    rintro a (⟨h, _⟩ | ⟨_, h⟩)
    · rw [hkx] at h; cases h
    · have : cells.lookup x = some a := h
      rw [hc] at this; cases this; exact hN

/-- stable against whatever happens to what is made from here on -/
noncomputable def StableJ (prog : Program) (w : World) (C : Mem) (lo : Nat) (J : Nat → Shared → Prop) : Prop := ∀ (Z : Addr → Prop) i s s', (∀ a, Z a → lo ≤ a) → J i s → Ext prog w Z C s s' → J i s'

/-- a clause of a list comprehension that ends in the element: the loop -/
theorem list_inner {e elt : Expr} {d : Nat} {scope : Scope} {acc L I : Addr} {cells : List (Str × Addr)} {X' Z : Addr → Prop} {fp wr : List Addr} {P : Nat → Value → Prop} {St : Nat → Heap → Prop} {ps : List PV} {x : Str} {px : Pos} {ifs : List Expr}
    {R : Result → Shared → Prop} {done : List PV} {ρ' : List (Str × PV)} (lo : Nat) (J : Nat → Shared → Prop) (hJ : StableJ prog w C lo J) (g : Nat → PV → List PV)
    (T : TurnIs e d (.ref I) (.ref acc) (compEnvC scope cells L env) (.Name x px) ifs (fun k => (do let _ ← call (.builtin "list.append") [.ref acc, ← eval elt (compEnvC scope cells L env)] : Sem Unit) >>= fun _ => k))
    (hc : CanSt X' (compEnvC scope cells L env) x) (hsx : ∀ a, StX (compEnvC scope cells L env) x a → Z a ∧ a ≠ acc ∧ lo ≤ a) (hZ : Z acc) (hZX : ∀ a, Z a → X' a) (hwX : ∀ a, a ∈ wr → X' a) (hwa : acc ∉ wr) (hwlo : ∀ a ∈ wr, lo ≤ a) (halo : lo ≤ acc)
    (hlw : L ∉ wr) (hcw : ∀ x c, cells.lookup x = some c → c ∉ wr) (hap : Apart (compEnvC scope cells L env)) (hx0 : ρ'.lookup x = none)
    (W : Walks prog w A I fp wr ps.length P St) (hst : St 0 s.heap) (hfp : ∀ b ∈ fp, ¬ Z b ∧ C b = none) (hP : ∀ i v p, P i v → ps[i]? = some p → Rep X' s.heap v p)
    (S : Sit prog w K mb n C X' A (compEnvC scope cells L env) ρ' s) (hacc : AccL X' acc done s.heap) (hCa : C acc = none) (j0 : J 0 s)
    (hsz : done.length + ((ps.zipIdx.flatMap fun q => g q.2 q.1)).length ≤ sizeLine)
    (body : ∀ i p s', ps[i]? = some p → Sit prog w K mb n C X' A (compEnvC scope cells L env) ((x, p) :: ρ') s' → J i s' → ∃ (b : Bool) (T : Shared → Prop), Do prog w C A (tests ifs (compEnvC scope cells L env)) (fun v s'' => v = b ∧ T s'') s' ∧
      (b = false → g i p = [] ∧ ∀ s'', Ext prog w noX C s' s'' → T s'' → J i s'' → J (i + 1) s'') ∧
      (b = true → ∃ q, g i p = [q] ∧ ∀ s'', Ext prog w noX C s' s'' → T s'' → J i s'' → Do prog w C A (eval elt (compEnvC scope cells L env)) (fun v s => Rep X' s.heap v q ∧ J (i + 1) s) s''))
    (hR : ∀ s', Ext prog w (fun a => Z a ∨ a ∈ wr) C s s' → Sit prog w K mb n C X' A (compEnvC scope cells L env) ρ' s' → AccL X' acc (done ++ ps.zipIdx.flatMap fun q => g q.2 q.1) s'.heap → J ps.length s' → R (.ok .next) s')
    (hfr : autoParam ((Code.compLoop e d (.ref I) (.ref acc) (compEnvC scope cells L env)).isFrame = false) Mine.autoR) (hund : autoParam (A.under (Code.compLoop e d (.ref I) (.ref acc) (compEnvC scope cells L env)) = A) Mine.autoR) :
    codeAny (model prog w) A (.compLoop e d (.ref I) (.ref acc) (compEnvC scope cells L env)) R s := by
  let res : Nat → List PV := fun i => (ps.zipIdx.take i).flatMap fun q => g q.2 q.1
  have hres : ∀ i p, ps[i]? = some p → res (i + 1) = res i ++ g i p := fun i p hp => by
    show (ps.zipIdx.take (i + 1)).flatMap _ = _
    have hz : ps.zipIdx[i]? = some (p, i) := by simp [List.getElem?_zipIdx, hp]
    rw [List.take_add_one, hz]
    simp [res]
  have hresn : res ps.length = ps.zipIdx.flatMap fun q => g q.2 q.1 := by
    show (ps.zipIdx.take ps.length).flatMap _ = _
    rw [List.take_of_length_le (by simp)]
  have hresle : ∀ i, (res i).length ≤ (ps.zipIdx.flatMap fun q => g q.2 q.1).length := fun i => by
    show ((ps.zipIdx.take i).flatMap _).length ≤ _
    conv => rhs; rw [← List.take_append_drop i ps.zipIdx, List.flatMap_append, List.length_append]
    exact Nat.le_add_right _ _
  refine comp_loop (N := fun a => X' a ∧ a ≠ acc ∧ lo ≤ a) (Z := Z) (fun i s' => AccL X' acc (done ++ res i) s'.heap ∧ J i s') T hc (fun a h => ⟨(hsx a h).1, hZX a (hsx a h).1, (hsx a h).2⟩) (fun a h => ⟨hwX a h, fun q => hwa (q ▸ h), hwlo a h⟩) hZX hwX hlw hcw hap hx0 W hst hfp hP S ⟨by simpa [res] using hacc, j0⟩ ?_ ?_ ?_ hfr hund
  · rintro i s₁ s₂ ⟨⟨items, hl, hr⟩, hj⟩ e
    exact ⟨⟨items, isList_ext e (fun q => q.2.1 rfl) hl, hr.ext (e.mono fun a h => h.1)⟩, hJ _ i s₁ s₂ (fun a h => h.2.2) hj e⟩
  · rintro i p s₁ hp e S₁ ⟨ha, hj⟩
    refine Mine.el2c (body i p s₁ hp S₁ hj) fun b T hb hf ht => ?_
    refine ⟨b, T, hb, fun hb0 s₂ e₂ hT h₂ => ?_, fun hb1 s₂ e₂ hT S₂ h₂ k Q E hk => ?_⟩
    · refine Mine.el0b (hf hb0) fun hg hj' => ?_
      rw [hres i p hp, hg, List.append_nil]
      exact ⟨h₂.1, hj' s₂ e₂ hT h₂.2⟩
    · refine Mine.el1b (ht hb1) fun q hg hd => ?_
      have hlen : (done ++ res i).length ≤ sizeLine := by
        have := hresle i
        rw [List.length_append]; omega
      refine emit_list (hZX acc hZ) h₂.1 hlen (hd s₂ e₂ hT h₂.2) hCa (fun s s' hj e => hJ (fun a => a = acc) _ s s' (fun a h => h ▸ halo) hj e) fun s₃ e₃ ha₃ hj₃ => ?_
      have e₃Z : Ext prog w Z C s₂ s₃ := e₃.mono fun a h => h ▸ hZ
      have haL : ¬ L = acc := fun q => by
        have hn := S₂.fm.ns
        (refine Mine.el1b hn fun m hq1 _ => ?_; try clear hn; obtain ⟨o, es, ep, ho, hd, _⟩ := hq1)
        (refine Mine.el1b h₂.1 fun items hq2 _ => ?_; obtain ⟨o', ho', _, n', hd'⟩ := hq2)
        have ho2 : s₂.heap.get? acc = some o := by rw [← q]; exact ho
        rw [ho2] at ho'; cases ho'
        rw [hd] at hd'; cases hd'
      have haC : ∀ x c, cells.lookup x = some c → ¬ c = acc := fun x c hc q => by
        (refine Mine.el1b (S₂.fm.cell x c hc) fun ov hq3 _ => ?_; obtain ⟨o, ho, hd⟩ := hq3)
        (refine Mine.el1b h₂.1 fun items hq4 _ => ?_; obtain ⟨o', ho', _, n', hd'⟩ := hq4)
        rw [q, ho'] at ho; cases ho
        rw [hd] at hd'; cases hd'
      refine hk s₃ e₃Z (S₂.extZ e₃ (fun a h => h ▸ hZX acc hZ) haL haC) ⟨?_, hj₃⟩
      rw [hres i p hp, hg, ← List.append_assoc]
      exact ha₃
  · rintro s₁ e S₁ ⟨h1, h2⟩
    rw [hresn] at h1
    exact hR s₁ e S₁ h1 h2

theorem filter_free_none {scope : Scope} {x : Str} (hx : scope.names.lookup x = some .local ∨ scope.names.lookup x = some .cell) : (ρ.filter (isFree scope)).lookup x = none := by
  rw [lookup_filter (f := isFree scope) (g := fun x => scope.names.lookup x == some .free) (fun q => rfl)]
  rcases hx with h | h <;> rw [h] <;> rfl

/-- the first clause's loop, begun -/
theorem list_one {elt iter : Expr} {x : Str} {px : Pos} {ifs : List Expr} {scope : Scope} {pos : Pos} {ps : List PV} {R : Result → Shared → Prop} {s₁ s₄ : Shared} {acc L I : Addr} {fp wr : List Addr} {P : Nat → Value → Prop} {St : Nat → Heap → Prop} {cells : List (Str × Addr)} {X' : Addr → Prop}
    (H : CompAt prog w K mb n C X A env ρ scope ps { cls := .type "list", data := .seq #[] } s₁ s₄ acc L I fp wr P St cells X')
    (J : Nat → Shared → Prop) (hJ : StableJ prog w C s₁.heap.objs.size J) (g : Nat → PV → List PV) (j0 : J 0 s₁) (hx : scope.names.lookup x = some .local ∨ scope.names.lookup x = some .cell)
    (hsz : ((ps.zipIdx.flatMap fun q => g q.2 q.1)).length ≤ sizeLine)
    (body : ∀ i p s', ps[i]? = some p → Sit prog w K mb n C X' A (compEnvC scope cells L env) ((x, p) :: ρ.filter (isFree scope)) s' → J i s' → ∃ (b : Bool) (T : Shared → Prop), Do prog w C A (tests ifs (compEnvC scope cells L env)) (fun v s'' => v = b ∧ T s'') s' ∧
      (b = false → g i p = [] ∧ ∀ s'', Ext prog w noX C s' s'' → T s'' → J i s'' → J (i + 1) s'') ∧
      (b = true → ∃ q, g i p = [q] ∧ ∀ s'', Ext prog w noX C s' s'' → T s'' → J i s'' → Do prog w C A (eval elt (compEnvC scope cells L env)) (fun v s => Rep X' s.heap v q ∧ J (i + 1) s) s''))
    (hR : ∀ s', Ext prog w noX C s₁ s' → (∃ m, s'.heap.Ns L m) → AccL X' acc (ps.zipIdx.flatMap fun q => g q.2 q.1) s'.heap → J ps.length s' → R (.ok .next) s') :
    codeAny (model prog w) A (.compStart (.ListComp elt [⟨.Name x px, iter, ifs, 0⟩] scope pos) 0 (.ref I) (.ref acc) (compEnvC scope cells L env)) R s₄ := by
  have hc := H.canSt hx
  have hLlo : s₁.heap.objs.size ≤ L := Nat.le_trans H.lo (Nat.le_of_lt H.accL)
  have hNlo : ∀ a, CompN scope L cells L a → s₁.heap.objs.size ≤ a := by
    rintro a (rfl | ⟨h, _⟩)
    · exact hLlo
    · exact Nat.le_trans hLlo h
  have hwrlt : ∀ b ∈ wr, b < acc := fun b hb => (H.fpa b (H.W.sub b hb)).1
  refine comp_start ?_ (fun Q E q => H.W.self 0 s₄ Q E H.st q)
  refine list_inner (done := []) (Z := fun a => a = acc ∨ CompN scope L cells L a) s₁.heap.objs.size J hJ g turn_list hc.1 (fun a h => ⟨.inr (hc.2 a h), ?_, hNlo a (hc.2 a h)⟩) (.inl rfl) (fun a h => (H.hX a).mpr ?_) (fun a h => (H.hX a).mpr (.inr (.inr (.inl h))))
    (fun h => Nat.lt_irrefl _ (hwrlt acc h)) H.wrlo H.lo (fun h => Nat.lt_asymm H.accL (hwrlt L h)) (fun x c h hw => ?_) H.ap (filter_free_none hx) H.W H.st (fun b hb => ⟨?_, (H.fpa b hb).2⟩) H.hP H.sit
    ⟨#[], ⟨_, H.accO, rfl, 0, rfl⟩, .nil⟩ ?_ (hJ noX 0 _ _ (fun _ q => q.elim) j0 H.ext) (by simpa using hsz) body fun s₅ e₅ S₅ hacc hj => ?_
  · rcases hc.2 a h with rfl | ⟨q, _⟩
    · exact (Nat.ne_of_lt H.accL).symm
    · exact (Nat.ne_of_lt (Nat.lt_of_lt_of_le H.accL q)).symm
  · rcases h with h | h
    · exact .inr (.inl h)
    · exact .inr (.inr (.inr h))
  · rcases H.cellT x c h with ⟨k, _, _, h⟩ | ⟨_, h⟩
    · exact Nat.lt_irrefl _ (Nat.lt_of_lt_of_le (H.outer x c h) (H.wrlo c hw))
    · exact Nat.lt_asymm (Nat.lt_trans (hwrlt c hw) H.accL) h
  · rintro (rfl | rfl | ⟨h, _⟩)
    · exact Nat.lt_irrefl _ (H.fpa _ hb).1
    · exact Nat.lt_asymm H.accL (H.fpa _ hb).1
    · exact Nat.lt_irrefl _ (Nat.lt_trans H.accL (Nat.lt_of_le_of_lt h (H.fpa _ hb).1))
  · exact co_ne H.sit H.accO (by first | exact fun _ _ h => by cases h | exact fun _ h => by cases h | nofun)
  · refine hR s₅ (H.ext.fresh e₅ ?_) ?_ (by simpa using hacc) hj
    · rintro a ((rfl | h) | h)
      · exact H.lo
      · exact hNlo a h
      · exact H.wrlo a h
    · refine Mine.el1b S₅.fm.ns fun m hn _ => ?_
      exact ⟨m, hn⟩

theorem Rep.ofSub {h : Heap} {v : Value} {p : PV} (r : Rep Y h v p) (hs : ∀ a, X a → Y a) : Rep X h v p := r.monoX fun a ha => .inl (hs a ha)
theorem Reps.ofSub {h : Heap} {v : List Value} {p : List PV} (r : Reps Y h v p) (hs : ∀ a, X a → Y a) : Reps X h v p := r.monoX fun a ha => .inl (hs a ha)

/-- a list comprehension with one clause -/
theorem ev_listcomp1 {elt iter : Expr} {x : Str} {px : Pos} {ifs : List Expr} {scope : Scope} {pos : Pos} {ps : List PV} (S : Sit prog w K mb n C X A env ρ s) (hap : Apart env) (hs : scopeOkB scope env = true) (hit : EvI prog w C X A env iter ps s)
    (J : Nat → Shared → Prop) (g : Nat → PV → List PV) (hx : scope.names.lookup x = some .local ∨ scope.names.lookup x = some .cell) (hsz : ((ps.zipIdx.flatMap fun q => g q.2 q.1)).length ≤ sizeLine)
    (hset : ∀ x, foldedSetIterable iter env x = pure x) (hJ : StableJ prog w C s.heap.objs.size J) (j0 : J 0 s)
    (body : ∀ L cells X' i p s', ps[i]? = some p → Sit prog w K mb n C X' A (compEnvC scope cells L env) ((x, p) :: ρ.filter (isFree scope)) s' → CE scope cells L env X X' s.heap.objs.size → J i s' → ∃ (b : Bool) (T : Shared → Prop), Do prog w C A (tests ifs (compEnvC scope cells L env)) (fun v s'' => v = b ∧ T s'') s' ∧
      (b = false → g i p = [] ∧ ∀ s'', Ext prog w noX C s' s'' → T s'' → J i s'' → J (i + 1) s'') ∧
      (b = true → ∃ q, g i p = [q] ∧ ∀ s'', Ext prog w noX C s' s'' → T s'' → J i s'' → Do prog w C A (eval elt (compEnvC scope cells L env)) (fun v s => Rep X' s.heap v q ∧ J (i + 1) s) s'')) :
    Do prog w C A (eval (.ListComp elt [⟨.Name x px, iter, ifs, 0⟩] scope pos) env) (fun v s' => Rep X s'.heap v (.list (ps.zipIdx.flatMap fun q => g q.2 q.1)) ∧ J ps.length s') s := by
  intro s₁ e₁ Q E k
  have S₁ := S.ext e₁
  have hJ₁ : StableJ prog w C s₁.heap.objs.size J := fun Z i a b hz => hJ Z i a b fun c hc => Nat.le_trans e₁.size (hz c hc)
  show wpAny _ A (comprehension (.ListComp elt [⟨.Name x px, iter, ifs, 0⟩] scope pos) scope env _ (newList []) false (eval iter env)) Q E s₁
  refine comp_core (g := ⟨.Name x px, iter, ifs, 0⟩) (gs := []) (ps := ps) (accObj := { cls := .type "list", data := .seq #[] }) rfl hset S₁ hap (scopeOk_of hs) (fun s₂ e₂ => hit s₂ (e₁.trans e₂)) (fun s Q E q => wpAny_newObj_type q (by show ([] : List Value).toArray.size ≤ sizeLine; decide)) rfl ?_
  intro s₄ acc L I fp wr P St cells X' H
  refine list_one H J hJ₁ g (hJ noX 0 _ _ (fun _ q => q.elim) j0 e₁) hx hsz (fun i p s' hp S' => body L cells X' i p s' hp S' (H.ce e₁.size)) fun s₅ e₅ hns hacc hj => ?_
  (refine Mine.el1a hns fun m hn => ?_; try clear hns)
  refine ⟨m, hn, fun h' hs' => k _ _ ?_ ⟨?_, ?_⟩⟩
  · exact e₅.fresh (Ext.sameBut (X := fun a => a = L) (t := s₅.toks) hs' rfl) fun a h => by rw [h]; exact Nat.le_trans H.lo (Nat.le_of_lt H.accL)
  · (refine Mine.el1b hacc fun items hl hr => ?_; try clear hacc)
    have hXacc : ¬ X acc := fun q => Nat.lt_irrefl _ (Nat.lt_of_lt_of_le (H.sub _ q) H.lo)
    have eL : Ext prog w (fun a => a = L) C s₅ { s₅ with heap := h' } := Ext.sameBut (t := s₅.toks) hs' rfl
    have eX : Ext prog w X' C s₅ { s₅ with heap := h' } := eL.mono fun a h => (H.hX a).mpr (.inr (.inr (.inr (.inl h))))
    refine .list hXacc (isList_ext eL (Nat.ne_of_lt H.accL) hl) ((hr.ext eX).ofSub fun a h => (H.hX a).mpr (.inl h))
  · exact hJ₁ (fun a => a = L) _ _ _ (fun a h => by rw [h]; exact Nat.le_trans H.lo (Nat.le_of_lt H.accL)) hj (Ext.sameBut (t := s₅.toks) hs' rfl)
end Mine
end
section
open PySem PySem.W PySem.Calls PyProof.Rows
set_option Elab.async false
set_option maxRecDepth 100000
set_option linter.unusedVariables false
namespace Mine
variable {prog : Program} {w : World} {K : Frag} {mb : Str → Option Value} {X Y : Addr → Prop} {C : Mem} {s s' s'' : Shared} {A : Around} {env : Env} {ρ : List (Str × PV)} {n : Nat}

theorem Sit.ofSub (S : Sit prog w K mb n C Y A env ρ s) (hs : ∀ a, X a → Y a) : Sit prog w K mb n C X A env ρ s :=
  ⟨S.base, S.rm, fun a h => S.bd a (hs a h), fun a h => S.xo a (hs a h), fun a P e => let ⟨h1, h2, r⟩ := S.co a P e; ⟨h1, fun q => h2 (hs a q), r⟩, S.fm.monoX fun a h => .inl (hs a h)⟩
theorem Sit.addX {wr : List Addr} (S : Sit prog w K mb n C X A env ρ s) (e : Ext prog w noX C s s') (hw : ∀ a ∈ wr, s.heap.objs.size ≤ a ∧ a < s'.heap.objs.size ∧ C a = none) : Sit prog w K mb n C (fun a => X a ∨ a ∈ wr) A env ρ s' := by
  have S' := S.ext e
  refine ⟨S'.base, S.rm, fun a h => h.elim (S'.bd a) fun h => (hw a h).2.1, fun a h => h.elim (S.xo a) fun h => S.base.fresh (hw a h).1, fun a P q => ?_, (S.fm.monoX fun a h => h.elim .inl fun h => .inr (hw a h).1).ext e⟩
  refine Mine.el0c (S'.co a P q) fun h1 h2 r => ?_
  exact ⟨h1, fun h => h.elim h2 fun h => (by rw [(hw a h).2.2] at q; cases q), r⟩
theorem AccL.addX {acc : Addr} {l : List PV} {wr : List Addr} (h : AccL X acc l s.heap) (hw : ∀ a ∈ wr, s.heap.objs.size ≤ a) (e : Ext prog w noX C s s') : AccL (fun a => X a ∨ a ∈ wr) acc l s'.heap := by
  (refine Mine.el1b h fun items hl hr => ?_; try clear h)
  exact ⟨items, isList_ext e (fun q => q) hl, (hr.monoX fun a h => h.elim .inl fun h => .inr (hw a h)).ext e.ofNo⟩
theorem AccL.ofSub {acc : Addr} {l : List PV} {h : Heap} (x : AccL Y acc l h) (hs : ∀ a, X a → Y a) : AccL X acc l h := let ⟨items, hl, hr⟩ := x; ⟨items, hl, hr.ofSub hs⟩

theorem CanSt.mono {x : Str} (h : CanSt X env x) (hs : ∀ a, X a → Y a) : CanSt Y env x := h.imp (fun ⟨a, b⟩ => ⟨a, hs _ b⟩) fun ⟨a, c, b, d⟩ => ⟨a, c, b, hs _ d⟩
theorem tests_triv {ifs : List Expr} {cenv : Env} {b : Bool} (h : Do prog w C A (tests ifs cenv) (fun v _ => v = b) s) : Do prog w C A (tests ifs cenv) (fun v s'' => v = b ∧ True) s := h.mono fun _ _ _ q => ⟨q, trivial⟩
theorem tests_nil {cenv : Env} : Do prog w C A (tests [] cenv) (fun v _ => v = true) s := fun s₁ e₁ Q E k => wpAny_tests_nil (k _ _ .refl rfl)
theorem tests_one {c : Expr} {b : Bool} (h : Ts prog w C A env c b s) : Do prog w C A (tests [c] env) (fun v _ => v = b) s := fun s₁ e₁ Q E k => wpAny_tests_one (h s₁ e₁ Q E k)

theorem flat_filter {ps : List PV} {tst : PV → Bool} {f : PV → PV} : (ps.zipIdx.flatMap fun q => if tst q.1 then [f q.1] else []) = (ps.filter tst).map f := by
  have : ∀ (l : List PV) (k : Nat), ((l.zipIdx k).flatMap fun q => if tst q.1 then [f q.1] else []) = (l.filter tst).map f := by
    intro l
    induction l with
    | nil => intro k; rfl
    | cons a l ih =>
      intro k
      rw [List.zipIdx_cons, List.flatMap_cons, ih, List.filter_cons]
      cases tst a <;> simp
  exact this ps 0

/-- a list comprehension with one clause, its parts plain -/
theorem ev_lc {elt iter : Expr} {x : Str} {px : Pos} {ifs : List Expr} {scope : Scope} {pos : Pos} {ps : List PV} (S : Sit prog w K mb n C X A env ρ s) (hap : Apart env) (hs : scopeOkB scope env = true) (hit : EvI prog w C X A env iter ps s)
    (tst : PV → Bool) (f : PV → PV) (hx : scope.names.lookup x = some .local ∨ scope.names.lookup x = some .cell) (hsz : ps.length ≤ sizeLine)
    (hset : ∀ x, foldedSetIterable iter env x = pure x)
    (body : ∀ L cells X' p s', p ∈ ps → Sit prog w K mb n C X' A (compEnvC scope cells L env) ((x, p) :: ρ.filter (isFree scope)) s' → CE scope cells L env X X' s.heap.objs.size → Ext prog w (fun a => s.heap.objs.size ≤ a) C s s' →
      Do prog w C A (tests ifs (compEnvC scope cells L env)) (fun v _ => v = tst p) s' ∧ (tst p = true → Ev prog w C X' A (compEnvC scope cells L env) elt (f p) s')) :
    Ev prog w C X A env (.ListComp elt [⟨.Name x px, iter, ifs, 0⟩] scope pos) (.list ((ps.filter tst).map f)) s := by
  rw [← flat_filter]
  refine Do.mono (ev_listcomp1 S hap hs hit (fun _ s' => Ext prog w (fun a => s.heap.objs.size ≤ a) C s s') (fun _ p => if tst p then [f p] else []) hx ?_ hset ?_ .refl ?_) fun v s' e r => r.1
  · rw [flat_filter, List.length_map]
    exact Nat.le_trans (List.length_filter_le _ _) hsz
  · intro Z i a b hz ha hab
    exact ha.trans (hab.mono hz)
  · intro L cells X' i p s' hp S' hap' hE
    refine Mine.el0b (body L cells X' p s' (List.mem_of_getElem? hp) S' hap' hE) fun h1 h2 => ?_
    refine ⟨tst p, fun _ => True, tests_triv h1, fun hb => ⟨by simp [hb], fun s'' e _ h => h⟩, fun hb => ⟨f p, by simp [hb], fun s'' e _ h => ?_⟩⟩
    intro s₃ e₃ Q E k
    exact h2 hb s₃ (e.trans e₃) _ _ fun v s₄ e₄ r => k v s₄ e₄ ⟨r, h.trans ((e₃.trans e₄).ofNo)⟩

/-- two clauses, the first without tests -/
theorem list_two {elt iter iter2 : Expr} {x x2 : Str} {px px2 : Pos} {ifs2 : List Expr} {scope : Scope} {pos : Pos} {ps : List PV} {R : Result → Shared → Prop} {s₁ s₄ : Shared} {acc L I : Addr} {fp wr : List Addr} {P : Nat → Value → Prop} {St : Nat → Heap → Prop} {cells : List (Str × Addr)} {X' : Addr → Prop}
    (H : CompAt prog w K mb n C X A env ρ scope ps { cls := .type "list", data := .seq #[] } s₁ s₄ acc L I fp wr P St cells X')
    (J : Nat → Nat → Shared → Prop) (hJ : ∀ i, StableJ prog w C s₁.heap.objs.size (J i)) (ps2 : Nat → PV → List PV) (hJn : ∀ i p s, ps[i]? = some p → J i (ps2 i p).length s → J (i + 1) 0 s) (g : Nat → PV → Nat → PV → List PV) (j0 : J 0 0 s₁)
    (hx : scope.names.lookup x = some .local ∨ scope.names.lookup x = some .cell) (hx2 : scope.names.lookup x2 = some .local ∨ scope.names.lookup x2 = some .cell) (hne : (x2 == x) = false)
    (hset2 : ∀ v, foldedSetIterable iter2 (compEnvC scope cells L env) v = pure v)
    (hsz : (ps.zipIdx.flatMap fun q => (ps2 q.2 q.1).zipIdx.flatMap fun r => g q.2 q.1 r.2 r.1).length ≤ sizeLine)
    (hit2 : ∀ i p s', ps[i]? = some p → Sit prog w K mb n C X' A (compEnvC scope cells L env) ((x, p) :: ρ.filter (isFree scope)) s' → EvI prog w C X' A (compEnvC scope cells L env) iter2 (ps2 i p) s')
    (body : ∀ X'' i p j q s', ps[i]? = some p → (ps2 i p)[j]? = some q → (∀ a, X' a → X'' a) → (∀ a, X'' a → X' a ∨ s₁.heap.objs.size ≤ a) → Sit prog w K mb n C X'' A (compEnvC scope cells L env) ((x2, q) :: (x, p) :: ρ.filter (isFree scope)) s' → J i j s' → ∃ (b : Bool) (T : Shared → Prop), Do prog w C A (tests ifs2 (compEnvC scope cells L env)) (fun v s'' => v = b ∧ T s'') s' ∧
      (b = false → g i p j q = [] ∧ ∀ s'', Ext prog w noX C s' s'' → T s'' → J i j s'' → J i (j + 1) s'') ∧
      (b = true → ∃ r, g i p j q = [r] ∧ ∀ s'', Ext prog w noX C s' s'' → T s'' → J i j s'' → Do prog w C A (eval elt (compEnvC scope cells L env)) (fun v s => Rep X'' s.heap v r ∧ J i (j + 1) s) s''))
    (hR : ∀ s', Ext prog w noX C s₁ s' → (∃ m, s'.heap.Ns L m) → AccL X' acc (ps.zipIdx.flatMap fun q => (ps2 q.2 q.1).zipIdx.flatMap fun r => g q.2 q.1 r.2 r.1) s'.heap → J ps.length 0 s' → R (.ok .next) s') :
    codeAny (model prog w) A (.compStart (.ListComp elt [⟨.Name x px, iter, [], 0⟩, ⟨.Name x2 px2, iter2, ifs2, 0⟩] scope pos) 0 (.ref I) (.ref acc) (compEnvC scope cells L env)) R s₄ := by
  have hc := H.canSt hx
  have hc2 := H.canSt hx2
  have hLlo : s₁.heap.objs.size ≤ L := Nat.le_trans H.lo (Nat.le_of_lt H.accL)
  have hNlo : ∀ a, CompN scope L cells L a → s₁.heap.objs.size ≤ a := by
    rintro a (rfl | ⟨h, _⟩)
    · exact hLlo
    · exact Nat.le_trans hLlo h
  have hNacc : ∀ a, CompN scope L cells L a → a ≠ acc := by
    rintro a (rfl | ⟨q, _⟩)
    · exact (Nat.ne_of_lt H.accL).symm
    · exact (Nat.ne_of_lt (Nat.lt_of_lt_of_le H.accL q)).symm
  have hwrlt : ∀ b ∈ wr, b < acc := fun b hb => (H.fpa b (H.W.sub b hb)).1
  have hCa : C acc = none := co_ne H.sit H.accO (by first | exact fun _ _ h => by cases h | exact fun _ h => by cases h | nofun)
  have hZX : ∀ a, (a = acc ∨ CompN scope L cells L a) → X' a := fun a h => (H.hX a).mpr (h.elim (fun h => .inr (.inl h)) fun h => .inr (.inr (.inr h)))
  let G : Nat → PV → List PV := fun i p => (ps2 i p).zipIdx.flatMap fun r => g i p r.2 r.1
  let res : Nat → List PV := fun i => (ps.zipIdx.take i).flatMap fun q => G q.2 q.1
  have hres : ∀ i p, ps[i]? = some p → res (i + 1) = res i ++ G i p := fun i p hp => by
    show (ps.zipIdx.take (i + 1)).flatMap _ = _
    have hz : ps.zipIdx[i]? = some (p, i) := by simp [List.getElem?_zipIdx, hp]
    rw [List.take_add_one, hz]
    simp [res]
  have hresn : res ps.length = ps.zipIdx.flatMap fun q => G q.2 q.1 := by
    show (ps.zipIdx.take ps.length).flatMap _ = _
    rw [List.take_of_length_le (by simp)]
  have hresle : ∀ i, (res i).length ≤ (ps.zipIdx.flatMap fun q => G q.2 q.1).length := fun i => by
    show ((ps.zipIdx.take i).flatMap _).length ≤ _
    conv => rhs; rw [← List.take_append_drop i ps.zipIdx, List.flatMap_append, List.length_append]
    exact Nat.le_add_right _ _
  refine comp_start ?_ (fun Q E q => H.W.self 0 s₄ Q E H.st q)
  refine comp_loop (N := fun a => X' a ∧ a ≠ acc ∧ s₁.heap.objs.size ≤ a) (Z := fun a => a = acc ∨ CompN scope L cells L a) (fun i s' => AccL X' acc (res i) s'.heap ∧ J i 0 s') turn_list20 hc.1
    (fun a h => ⟨.inr (hc.2 a h), hZX a (.inr (hc.2 a h)), hNacc a (hc.2 a h), hNlo a (hc.2 a h)⟩) (fun a h => ⟨(H.hX a).mpr (.inr (.inr (.inl h))), fun q => Nat.lt_irrefl _ (hwrlt acc (q ▸ h)), H.wrlo a h⟩) hZX (fun a h => (H.hX a).mpr (.inr (.inr (.inl h))))
    (fun h => Nat.lt_asymm H.accL (hwrlt L h)) (fun y c h hw => ?_) H.ap (filter_free_none hx) H.W H.st (fun b hb => ⟨?_, (H.fpa b hb).2⟩) H.hP H.sit ⟨⟨#[], ⟨_, H.accO, rfl, 0, rfl⟩, .nil⟩, hJ 0 noX 0 _ _ (fun _ q => q.elim) j0 H.ext⟩ ?_ ?_ ?_
  · rcases H.cellT y c h with ⟨k, _, _, h⟩ | ⟨_, h⟩
    · exact Nat.lt_irrefl _ (Nat.lt_of_lt_of_le (H.outer y c h) (H.wrlo c hw))
    · exact Nat.lt_asymm (Nat.lt_trans (hwrlt c hw) H.accL) h
  · rintro (rfl | rfl | ⟨h, _⟩)
    · exact Nat.lt_irrefl _ (H.fpa _ hb).1
    · exact Nat.lt_asymm H.accL (H.fpa _ hb).1
    · exact Nat.lt_irrefl _ (Nat.lt_trans H.accL (Nat.lt_of_le_of_lt h (H.fpa _ hb).1))
  · rintro i sa sb ⟨⟨items, hl, hr⟩, hj⟩ e
    exact ⟨⟨items, isList_ext e (fun q => q.2.1 rfl) hl, hr.ext (e.mono fun a h => h.1)⟩, hJ i _ 0 sa sb (fun a h => h.2.2) hj e⟩
  · rintro i p sa hp e Sa ⟨ha, hj⟩
    refine ⟨true, fun _ => True, tests_triv tests_nil, (fun q => by cases q), fun _ sb eb _ Sb hb k Q E hk => ?_⟩
    show wpAny _ A (eval iter2 _ >>= _) Q E sb
    refine wpAny_bind (wpAny_mono (hit2 i p sb hp Sb sb .refl (fun it s₂ => wpAny (model prog w) A (runOwn (.compStart (.ListComp elt [⟨.Name x px, iter, [], 0⟩, ⟨.Name x2 px2, iter2, ifs2, 0⟩] scope pos) 1 it (.ref acc) (compEnvC scope cells L env)) (compEnvC scope cells L env) >>= fun _ => k) Q E s₂) E fun it s₂ e₂ hI => ?_)
      (fun v s₂ h₂ => wpAny_bind (wpAny_standAt (wpAny_bind (wpAny_of_eq (hset2 v) (wpAny_bind (wpAny_holding h₂)))))) fun _ _ q => q)
    (refine Mine.el5f hI fun I2 fp2 wr2 P2 St2 hq1 W2 hst2 hwr2 hfp2 hP2 => ?_; try clear hI; obtain rfl := hq1)
    have hw2 : ∀ a ∈ wr2, sb.heap.objs.size ≤ a ∧ a < s₂.heap.objs.size ∧ C a = none := fun a h => ⟨hwr2 a h, (hfp2 a (W2.sub a h)).1, (hfp2 a (W2.sub a h)).2.1⟩
    have S2 : Sit prog w K mb n C (fun a => X' a ∨ a ∈ wr2) A (compEnvC scope cells L env) ((x, p) :: ρ.filter (isFree scope)) s₂ := Sb.addX e₂ hw2
    have hA2 : AccL (fun a => X' a ∨ a ∈ wr2) acc (res i) s₂.heap := hb.1.addX (fun a h => hwr2 a h) e₂
    have hXlt : ∀ a, X' a → a < sb.heap.objs.size := fun a h => Sb.bd a h
    refine wpAny_bind (wpAny_runOwn ?_)
    refine comp_start ?_ (fun Q E q => W2.self 0 s₂ Q E hst2 q)
    have hb2 : ∀ z, (z = acc ∨ CompN scope L cells L z) → z < sb.heap.objs.size := fun z h => hXlt z (hZX z h)
    have hs1b : s₁.heap.objs.size ≤ sb.heap.objs.size := Nat.le_trans H.lo (Nat.le_of_lt (hb2 acc (.inl rfl)))
    have hlenG : (res i).length + (G i p).length ≤ sizeLine := by
      have := hresle (i + 1)
      rw [hres i p hp, List.length_append] at this
      exact Nat.le_trans this hsz
    refine list_inner (done := res i) (Z := fun a => a = acc ∨ CompN scope L cells L a) (X' := fun a => X' a ∨ a ∈ wr2) s₁.heap.objs.size (J i) (hJ i) (g i p) turn_list21 (hc2.1.mono fun a h => .inl h) (fun a h => ⟨.inr (hc2.2 a h), hNacc a (hc2.2 a h), hNlo a (hc2.2 a h)⟩) (.inl rfl) (fun a h => .inl (hZX a h)) (fun a h => .inr h)
      (fun h => Nat.lt_irrefl _ (Nat.lt_of_lt_of_le (hb2 acc (.inl rfl)) (hwr2 acc h))) (fun a h => Nat.le_trans hs1b (hwr2 a h)) H.lo (fun h => Nat.lt_irrefl _ (Nat.lt_of_lt_of_le (hb2 L (.inr (.inl rfl))) (hwr2 L h))) (fun y c hy hw => ?_) H.ap ?_ W2 hst2 (fun b hb => ⟨fun q => (hfp2 b hb).2.2 (hZX b q), (hfp2 b hb).2.1⟩) hP2 S2 hA2 hCa
      (hJ i noX 0 _ _ (fun _ q => q.elim) hb.2 e₂) hlenG (fun j q s' hq S' hj => body _ i p j q s' hp hq (fun a h => .inl h) (fun a h => h.imp id fun h => Nat.le_trans hs1b (hwr2 a h)) S' hj) fun s₃ e₃ S₃ hacc₃ hj₃ => ?_
    · (refine Mine.el1b (Sb.fm.cell y c hy) fun ov hq2 _ => ?_; obtain ⟨o, ho, _⟩ := hq2)
      exact Nat.lt_irrefl _ (Nat.lt_of_lt_of_le (Heap.lt_size ho) (hwr2 c hw))
    · rw [List.lookup_cons, hne]; exact filter_free_none hx2
    · refine hk s₃ ((e₂.ofNo).freshZ e₃ fun a h => h.elim .inl fun h => .inr (hwr2 a h)) (S₃.ofSub fun a h => .inl h) ⟨?_, hJn i p s₃ hp hj₃⟩
      rw [hres i p hp]
      exact hacc₃.ofSub fun a h => .inl h
  · rintro sa e Sa ⟨h1, h2⟩
    rw [hresn] at h1
    refine hR sa (H.ext.fresh e ?_) ?_ h1 h2
    · rintro a ((rfl | h) | h)
      · exact H.lo
      · exact hNlo a h
      · exact H.wrlo a h
    · refine Mine.el1b Sa.fm.ns fun m hn _ => ?_
      exact ⟨m, hn⟩
/-! what a comprehension makes of strs, of ints -/
noncomputable def onS (f : Str → PV) : PV → PV
  | .str x => f x
  | p => p
noncomputable def onI (f : Int → PV) : PV → PV
  | .int x => f x
  | p => p
noncomputable def onB (f : Str → Bool) : PV → Bool
  | .str x => f x
  | _ => false
theorem map_onS (f : Str → PV) (l : List Str) : (l.map PV.str).map (onS f) = l.map f := List.map_map.trans rfl
theorem map_onI (f : Int → PV) (l : List Int) : (l.map PV.int).map (onI f) = l.map f := List.map_map.trans rfl
end Mine
end
section
open PySem PySem.W PySem.Calls PyProof.Rows
set_option Elab.async false
set_option maxRecDepth 100000
set_option linter.unusedVariables false
namespace Mine
variable {prog : Program} {w : World} {K : Frag} {mb : Str → Option Value} {X Y : Addr → Prop} {C : Mem} {s s' s'' : Shared} {A : Around} {env : Env} {ρ : List (Str × PV)} {n : Nat}

/-- what a comprehension comes to, however it is used -/
noncomputable def CompSpec (prog : Program) (w : World) (C : Mem) (X : Addr → Prop) (A : Around) (env : Env) (e : Expr) (scope : Scope) (newAcc : Sem Value) (iter : Expr) (R : Addr → Addr → Shared → Prop) (s : Shared) : Prop :=
  ∀ s₁, Ext prog w noX C s s₁ → ∀ pos use (Q : Value → Shared → Prop) (E : Value → Shared → Prop),
    (∀ acc L s₅, Ext prog w noX C s₁ s₅ → (∃ m, s₅.heap.Ns L m) → s₁.heap.objs.size ≤ L → L < s₅.heap.objs.size → C L = none → R acc L s₅ → compPost (model prog w) A E use Q (.ref acc) L (.ok .next) s₅) →
    wpAny (model prog w) A (comprehension e scope env pos newAcc false (eval iter env) use) Q E s₁

noncomputable def RList (prog : Program) (w : World) (X : Addr → Prop) (res : List PV) (J : Shared → Prop) (acc L : Addr) (s : Shared) : Prop := Rep (fun a => X a ∨ a = L) s.heap (.ref acc) (.list res) ∧ J s

theorem spec_list1 {elt iter : Expr} {x : Str} {px : Pos} {ifs : List Expr} {scope : Scope} {pos : Pos} {ps : List PV} (S : Sit prog w K mb n C X A env ρ s) (hap : Apart env) (hs : scopeOkB scope env = true) (hit : EvI prog w C X A env iter ps s)
    (J : Nat → Shared → Prop) (g : Nat → PV → List PV) (hx : scope.names.lookup x = some .local ∨ scope.names.lookup x = some .cell) (hsz : ((ps.zipIdx.flatMap fun q => g q.2 q.1)).length ≤ sizeLine)
    (hset : ∀ x, foldedSetIterable iter env x = pure x) (hJ : StableJ prog w C s.heap.objs.size J) (j0 : J 0 s)
    (body : ∀ L cells X' i p s', ps[i]? = some p → Sit prog w K mb n C X' A (compEnvC scope cells L env) ((x, p) :: ρ.filter (isFree scope)) s' → CE scope cells L env X X' s.heap.objs.size → J i s' → ∃ (b : Bool) (T : Shared → Prop), Do prog w C A (tests ifs (compEnvC scope cells L env)) (fun v s'' => v = b ∧ T s'') s' ∧
      (b = false → g i p = [] ∧ ∀ s'', Ext prog w noX C s' s'' → T s'' → J i s'' → J (i + 1) s'') ∧
      (b = true → ∃ q, g i p = [q] ∧ ∀ s'', Ext prog w noX C s' s'' → T s'' → J i s'' → Do prog w C A (eval elt (compEnvC scope cells L env)) (fun v s => Rep X' s.heap v q ∧ J (i + 1) s) s'')) :
    CompSpec prog w C X A env (.ListComp elt [⟨.Name x px, iter, ifs, 0⟩] scope pos) scope (newList []) iter (RList prog w X (ps.zipIdx.flatMap fun q => g q.2 q.1) (J ps.length)) s := by
  intro s₁ e₁ pos' use Q E k
  have S₁ := S.ext e₁
  have hJ₁ : StableJ prog w C s₁.heap.objs.size J := fun Z i a b hz => hJ Z i a b fun c hc => Nat.le_trans e₁.size (hz c hc)
  refine comp_core (g := ⟨.Name x px, iter, ifs, 0⟩) (gs := []) (ps := ps) (accObj := { cls := .type "list", data := .seq #[] }) rfl hset S₁ hap (scopeOk_of hs) (fun s₂ e₂ => hit s₂ (e₁.trans e₂)) (fun s Q E q => wpAny_newObj_type q (by show ([] : List Value).toArray.size ≤ sizeLine; decide)) rfl ?_
  intro s₄ acc L I fp wr P St cells X' H
  refine list_one H J hJ₁ g (hJ noX 0 _ _ (fun _ q => q.elim) j0 e₁) hx hsz (fun i p s' hp S' => body L cells X' i p s' hp S' (H.ce e₁.size)) fun s₅ e₅ hns hacc hj => ?_
  refine k acc L s₅ e₅ hns (Nat.le_trans H.lo (Nat.le_of_lt H.accL)) (let ⟨m, hn⟩ := hns; hn.lt) H.sit.fm.cl ⟨?_, hj⟩
  (refine Mine.el1b hacc fun items hl hr => ?_; try clear hacc)
  refine .list (fun q => ?_) hl (hr.ofSub fun a h => (H.hX a).mpr (h.elim .inl fun h => .inr (.inr (.inr (.inl h)))))
  rcases q with q | q
  · exact Nat.lt_irrefl _ (Nat.lt_of_lt_of_le (H.sub _ q) H.lo)
  · exact Nat.ne_of_lt H.accL q

theorem spec_list2 {elt iter iter2 : Expr} {x x2 : Str} {px px2 : Pos} {ifs2 : List Expr} {scope : Scope} {pos : Pos} {ps : List PV} (S : Sit prog w K mb n C X A env ρ s) (hap : Apart env) (hs : scopeOkB scope env = true) (hit : EvI prog w C X A env iter ps s)
    (J : Nat → Nat → Shared → Prop) (ps2 : Nat → PV → List PV) (hJn : ∀ i p s, ps[i]? = some p → J i (ps2 i p).length s → J (i + 1) 0 s) (g : Nat → PV → Nat → PV → List PV)
    (hx : scope.names.lookup x = some .local ∨ scope.names.lookup x = some .cell) (hx2 : scope.names.lookup x2 = some .local ∨ scope.names.lookup x2 = some .cell) (hne : (x2 == x) = false)
    (hset : ∀ v, foldedSetIterable iter env v = pure v) (hset2 : ∀ cells L v, foldedSetIterable iter2 (compEnvC scope cells L env) v = pure v)
    (hsz : (ps.zipIdx.flatMap fun q => (ps2 q.2 q.1).zipIdx.flatMap fun r => g q.2 q.1 r.2 r.1).length ≤ sizeLine)
    (hJ : ∀ i, StableJ prog w C s.heap.objs.size (J i)) (j0 : J 0 0 s)
    (hit2 : ∀ L cells X' i p s', ps[i]? = some p → Sit prog w K mb n C X' A (compEnvC scope cells L env) ((x, p) :: ρ.filter (isFree scope)) s' → CE scope cells L env X X' s.heap.objs.size → EvI prog w C X' A (compEnvC scope cells L env) iter2 (ps2 i p) s')
    (body : ∀ L cells X' i p j q s', ps[i]? = some p → (ps2 i p)[j]? = some q → Sit prog w K mb n C X' A (compEnvC scope cells L env) ((x2, q) :: (x, p) :: ρ.filter (isFree scope)) s' → CE scope cells L env X X' s.heap.objs.size → J i j s' → ∃ (b : Bool) (T : Shared → Prop), Do prog w C A (tests ifs2 (compEnvC scope cells L env)) (fun v s'' => v = b ∧ T s'') s' ∧
      (b = false → g i p j q = [] ∧ ∀ s'', Ext prog w noX C s' s'' → T s'' → J i j s'' → J i (j + 1) s'') ∧
      (b = true → ∃ r, g i p j q = [r] ∧ ∀ s'', Ext prog w noX C s' s'' → T s'' → J i j s'' → Do prog w C A (eval elt (compEnvC scope cells L env)) (fun v s => Rep X' s.heap v r ∧ J i (j + 1) s) s'')) :
    CompSpec prog w C X A env (.ListComp elt [⟨.Name x px, iter, [], 0⟩, ⟨.Name x2 px2, iter2, ifs2, 0⟩] scope pos) scope (newList []) iter (RList prog w X (ps.zipIdx.flatMap fun q => (ps2 q.2 q.1).zipIdx.flatMap fun r => g q.2 q.1 r.2 r.1) (J ps.length 0)) s := by
  intro s₁ e₁ pos' use Q E k
  have S₁ := S.ext e₁
  have hJ₁ : ∀ i, StableJ prog w C s₁.heap.objs.size (J i) := fun i' Z i a b hz => hJ i' Z i a b fun c hc => Nat.le_trans e₁.size (hz c hc)
  refine comp_core (g := ⟨.Name x px, iter, [], 0⟩) (gs := [⟨.Name x2 px2, iter2, ifs2, 0⟩]) (ps := ps) (accObj := { cls := .type "list", data := .seq #[] }) rfl hset S₁ hap (scopeOk_of hs) (fun s₂ e₂ => hit s₂ (e₁.trans e₂)) (fun s Q E q => wpAny_newObj_type q (by show ([] : List Value).toArray.size ≤ sizeLine; decide)) rfl ?_
  intro s₄ acc L I fp wr P St cells X' H
  refine list_two H J hJ₁ ps2 hJn g (hJ 0 noX 0 _ _ (fun _ q => q.elim) j0 e₁) hx hx2 hne (hset2 cells L) hsz (fun i p s' hp S' => hit2 L cells X' i p s' hp S' (H.ce e₁.size)) (fun X'' i p j q s' hp hq hu hn S' => body L cells X'' i p j q s' hp hq S' ⟨H.ap, H.cellF, fun a h => hu a ((H.ce e₁.size).up a h), fun a h => (hn a h).elim ((H.ce e₁.size).nw a) fun h => .inr (Nat.le_trans e₁.size h), (H.ce e₁.size).ch⟩) fun s₅ e₅ hns hacc hj => ?_
  refine k acc L s₅ e₅ hns (Nat.le_trans H.lo (Nat.le_of_lt H.accL)) (let ⟨m, hn⟩ := hns; hn.lt) H.sit.fm.cl ⟨?_, hj⟩
  (refine Mine.el1b hacc fun items hl hr => ?_; try clear hacc)
  refine .list (fun q => ?_) hl (hr.ofSub fun a h => (H.hX a).mpr (h.elim .inl fun h => .inr (.inr (.inr (.inl h)))))
  rcases q with q | q
  · exact Nat.lt_irrefl _ (Nat.lt_of_lt_of_le (H.sub _ q) H.lo)
  · exact Nat.ne_of_lt H.accL q

/-- stored into a local name of the frame -/
theorem x_assign_comp {y : Str} {py pos' : Pos} {rest : List Stmt} {elt iter : Expr} {tgt : Expr} {ifs : List Expr} {gs : List Comprehension} {scope : Scope} {pos : Pos} {res : List PV} {J : Shared → Prop} {Q : Flow → Shared → Prop} {E : Value → Shared → Prop}
    (S : Sit prog w K mb n C X A env ρ s) (O : Own X env) (hky : KindSt env y)
    (h : CompSpec prog w C X A env (.ListComp elt (⟨tgt, iter, ifs, 0⟩ :: gs) scope pos) scope (newList []) iter (RList prog w X res J) s)
    (hsw : swapsWith (.ListComp elt (⟨tgt, iter, ifs, 0⟩ :: gs) scope pos) (some (.Name y py)) pos'.line env = pure true)
    (hJ : ∀ (Z : Addr → Prop) s₁ s₂, (∀ a, Z a → s.heap.objs.size ≤ a ∨ FrO env a) → J s₁ → Ext prog w Z C s₁ s₂ → J s₂)
    (k : ∀ s', Ext prog w (FrO env) C s s' → Sit prog w K mb n C X A env ((y, .list res) :: ρ) s' → J s' → wpAny (model prog w) A (execs rest env) Q E s') :
    wpAny (model prog w) A (execs (.Assign [.Name y py] (.ListComp elt (⟨tgt, iter, ifs, 0⟩ :: gs) scope pos) pos' :: rest) env) Q E s := by
  have hc := O.can hky
  have ha := O.ap
  refine wpAny_execs_cons ?_; try k_fold
  rw [exec_Assign_Name_used _ _ _ _ hsw]
  refine wpAny_bind (wpAny_standAt (wpAny_bind ?_))
  show wpAny _ A (do let _ ← comprehension (.ListComp elt (⟨tgt, iter, ifs, 0⟩ :: gs) scope pos) scope env _ (newList []) false (eval iter env) (some (assign (.Name y py) env))) _ _ s
  refine wpAny_bind (wpAny_mono (h s .refl _ (some (assign (.Name y py) env)) (fun _ s' => wpAny (model prog w) A (execs rest env) Q E s') E fun acc L s₅ e₅ hns hlo hlt hCL hR => ?_) (fun _ s' q => wpAny_pure (wpAny_pure q)) fun _ _ q => q)
  have S₅ : Sit prog w K mb n C (fun a => X a ∨ a ∈ [L]) A env ρ s₅ := S.addX e₅ (wr := [L]) fun a h => by
    simp only [List.mem_singleton] at h; subst h; exact ⟨hlo, hlt, hCL⟩
  have hr : Rep (fun a => X a ∨ a ∈ [L]) s₅.heap (.ref acc) (.list res) := hR.1.ofSub fun a h => h.imp id fun h => by simpa using h
  refine assign_var S₅ (hc.mono fun a h => .inl h) ha hr fun s₆ e₆ S₆ => ?_; try k_fold
  (refine Mine.el1a hns fun m hn => ?_; try clear hns)
  have hLst : ¬ StX env y L := fun q => Nat.lt_irrefl _ (Nat.lt_of_lt_of_le (S.bd L (hc.sub L q)) hlo)
  refine ⟨m, ns_ext e₆ hLst hCL hn, fun h' hs' => ?_⟩
  have eL : Ext prog w (fun a => a = L) C s₆ { s₆ with heap := h' } := Ext.sameBut (t := s₆.toks) hs' rfl
  have hloc : ¬ env.locals = L := fun q => by
    refine Mine.el1b S.fm.ns fun m hn _ => ?_; try k_fold
    exact Nat.lt_irrefl _ (Nat.lt_of_lt_of_le hn.lt (q ▸ hlo))
  have hcell : ∀ x c, env.cells.lookup x = some c → ¬ c = L := fun x c hx q => by
    (refine Mine.el1b (S.fm.cell x c hx) fun ov hq1 _ => ?_; obtain ⟨o, ho, _⟩ := hq1)
    exact Nat.lt_irrefl _ (Nat.lt_of_lt_of_le (Heap.lt_size ho) (q ▸ hlo))
  have S₇ := (S₆.extZ eL (fun a h => .inr (by simp [h])) hloc hcell).ofSub (X := X) fun a h => .inl h
  refine k _ ?_ S₇ (hJ (fun a => a = L) _ _ (fun a h => .inl (h ▸ hlo)) (hJ (StX env y) _ _ (fun a h => .inr (stX_frO a h)) hR.2 e₆) eL)
  exact ((e₅.ofNo (X := FrO env)).trans (e₆.mono stX_frO)).freshZ eL fun a h => .inr (h ▸ hlo)
end Mine
end
section
open PySem PySem.W PySem.Calls PyProof.Rows
set_option Elab.async false
set_option maxRecDepth 100000
set_option linter.unusedVariables false
namespace Mine
variable {prog : Program} {w : World} {K : Frag} {mb : Str → Option Value} {X Y : Addr → Prop} {C : Mem} {s s' s'' : Shared} {A : Around} {env : Env} {ρ : List (Str × PV)} {n : Nat}

/-- the frame of a call -/
noncomputable def fEnv (fd : FuncData) (a L : Addr) : Env := newEnv fd.scope L fd.globals (cellsFrom (L + 1) fd.scope.names fd.closure) (fd.qualname ++ ".<locals>.") (some a) fd.code none fd.builtins

theorem bind_all {env' : Env} {A' : Around} (f : Str × Value → PUnit → Sem (ForInStep PUnit)) (hf : ∀ n v u, f (n, v) u = (do storeName env' n v; pure (.yield ⟨⟩))) (O : Own X env') :
    ∀ (names : List Str) (vs : List Value) (ps : List PV) (ρ' : List (Str × PV)) (s : Shared) (Q : PUnit → Shared → Prop) (E : Value → Shared → Prop), Sit prog w K mb n C X A' env' ρ' s → Reps X s.heap vs ps → names.length = vs.length → (∀ x ∈ names, KindSt env' x) →
      (∀ s', Ext prog w (FrO env') C s s' → Sit prog w K mb n C X A' env' ((names.zip ps).reverse ++ ρ') s' → Q ⟨⟩ s') → wpAny (model prog w) A' (forIn (names.zip vs) ⟨⟩ f) Q E s  := by
  intro names
  induction names with
  | nil => intro vs ps ρ' s Q E S r hl hk h; rw [List.zip_nil_left, List.forIn_nil]; exact wpAny_pure (h s .refl S)
  | cons x names ih =>
    intro vs ps ρ' s Q E S r hl hk h
    cases vs with
    | nil => simp at hl
    | cons v vs =>
      cases r with
      | cons r rs =>
        rw [List.zip_cons_cons, List.forIn_cons, hf]
        refine wpAny_bind (wpAny_bind (store_var S (O.can (hk x (.head _))) O.ap r fun s₁ e₁ S₁ => wpAny_pure ?_))
        have e₁' := e₁.mono (stX_frO (env := env') (x := x))
        refine ih vs _ ((x, _) :: ρ') s₁ Q E S₁ (rs.ext (e₁'.mono O.own)) (by simpa using hl) (fun y hy => hk y (.tail _ hy)) fun s₂ e₂ S₂ => h s₂ (e₁'.trans e₂) ?_
        rw [List.zip_cons_cons, List.reverse_cons, List.append_assoc]
        exact S₂

theorem newFrame {fd : FuncData} {a : Addr} {names : List Str} {vs : List Value} {ps : List PV} {A' : Around} {E : Value → Shared → Prop} {Q : Env → Shared → Prop} (S : Sit prog w K mb n C X A env ρ s) (hA' : Rm n A')
    (hk : fd.scope.kind = .function) (hg : fd.globals = mainGlobals) (hb : fd.builtins = builtinsNs) (hclo : fd.closure = []) (hr : Reps X s.heap vs ps) (hl : names.length = vs.length)
    (hkind : ∀ L, ∀ x ∈ names, KindSt (fEnv fd a L) x)
    (hQ : ∀ L s₁ X', Ext prog w noX C s s₁ → s.heap.objs.size ≤ L → Own X' (fEnv fd a L) → (∀ b, X b → X' b) → (∀ b, FrO (fEnv fd a L) b → s.heap.objs.size ≤ b) → (∀ A'', Rm n A'' → Sit prog w K mb n C X' A'' (fEnv fd a L) (names.zip ps).reverse s₁) → Q (fEnv fd a L) s₁) :
    wpAny (model prog w) A' (newFunctionEnv fd.scope fd.globals fd.closure (names.zip vs) (fd.qualname ++ ".<locals>.") (some a) fd.code none fd.builtins) Q E s := by
  simp only [newFunctionEnv, Option.isSome_none, Bool.false_eq_true, if_false]
  refine wpAny_bind (wpAny_alloc ?_)
  refine wpAny_bind (wpAny_layCells _ (fun name kind cells => by cases hkc : kind == NameKind.cell <;> simp [hkc]) _ _ _ _ ?_)
  rw [show ({ s with heap := s.heap.push { cls := .type "frame", data := .dict #[] } } : Shared).heap.objs.size = s.heap.objs.size + 1 from Heap.size_push ..]
  let env' := fEnv fd a s.heap.objs.size
  let X' : Addr → Prop := fun b => X b ∨ FrO env' b
  have hkeep : ∀ b o, s.heap.get? b = some o → (pushCells (s.heap.push { cls := .type "frame", data := .dict #[] }) fd.scope.names).get? b = some o :=
    fun b o e => pushCells_keeps _ _ _ _ (Heap.get?_push_of_some _ e)
  have hsize : s.heap.objs.size + 1 ≤ (pushCells (s.heap.push { cls := .type "frame", data := .dict #[] }) fd.scope.names).objs.size := by
    have := pushCells_size fd.scope.names (s.heap.push { cls := .type "frame", data := .dict #[] })
    rwa [Heap.size_push] at this
  have hcT : ∀ x c, env'.cells.lookup x = some c → s.heap.objs.size + 1 ≤ c ∧ (pushCells (s.heap.push { cls := .type "frame", data := .dict #[] }) fd.scope.names).IsCell c none := fun x c e => by
    have e' : (cellsFrom (s.heap.objs.size + 1) fd.scope.names fd.closure).lookup x = some c := e
    rw [hclo] at e'
    rcases cells_spec fd.scope.names (s.heap.push { cls := .type "frame", data := .dict #[] }) [] x c (by rw [Heap.size_push]; exact e') with h | ⟨h1, h2, h3⟩
    · cases h
    · rw [Heap.size_push] at h2; exact ⟨h2, h3⟩
  have hlo : ∀ b, FrO env' b → s.heap.objs.size ≤ b := by
    rintro b (rfl | ⟨x, _, hc⟩)
    · exact Nat.le_refl _
    · exact Nat.le_trans (Nat.le_succ _) (hcT x b hc).1
  have hX' : ∀ b, X' b → X b ∨ s.heap.objs.size ≤ b := fun b h => h.imp id (hlo b)
  have e₁ : Ext prog w noX C s { s with heap := pushCells (s.heap.push { cls := .type "frame", data := .dict #[] }) fd.scope.names } :=
    .ofKeep (Nat.le_trans (Nat.le_succ _) hsize) hkeep rfl rfl
  have ap : Apart env' := fun x y c hx hy => by
    have hx' : (cellsFrom (s.heap.objs.size + 1) fd.scope.names fd.closure).lookup x = some c := hx
    have hy' : (cellsFrom (s.heap.objs.size + 1) fd.scope.names fd.closure).lookup y = some c := hy
    rw [hclo] at hx' hy'
    exact cells_inj _ _ [] (fun _ _ q => nomatch q) (fun _ _ _ q => nomatch q) x y c hx' hy'
  have O : Own X' env' := ⟨fun b h => .inr h, ap⟩
  have S₁ : ∀ A'', Rm n A'' → Sit prog w K mb n C X' A'' env' [] { s with heap := pushCells (s.heap.push { cls := .type "frame", data := .dict #[] }) fd.scope.names } := fun A'' hA'' => by
    refine ⟨S.base.keepsF fun b o e _ => hkeep b o e, hA'', ?_, fun b h => ?_, fun b P q => ?_, hk, hg, hb, co_new S (Nat.le_refl _), ⟨fun _ => none, ?_, fun x p q => by cases q⟩, fun x c q => ⟨none, (hcT x c q).2, fun p q => by cases q⟩⟩
    · rintro b (h | rfl | ⟨x, _, hc⟩)
      · exact Nat.lt_of_lt_of_le (S.bd b h) (Nat.le_trans (Nat.le_succ _) hsize)
      · exact hsize
      · refine Mine.el1b ((hcT x b hc).2) fun o ho _ => ?_
        exact Heap.lt_size ho
    · exact h.elim (S.xo b) fun h => S.base.fresh (hlo b h)
    · obtain ⟨h1, h2, o, es, ho, hm⟩ := S.co b P q
      exact ⟨h1, fun h => h.elim h2 fun h => absurd (Heap.lt_size ho) (Nat.not_lt.mpr (hlo b h)), o, es, hkeep _ _ ho, hm⟩
    · exact (Heap.Ns.new s.heap (.type "frame")).keeps (pushCells_keeps _ _)
  refine wpAny_bind ?_
  refine bind_all (n := n) (K := K) (mb := mb) (env' := env') _ (fun _ _ _ => rfl) O names vs ps [] _ _ _ (S₁ A' hA') ((hr.monoX hX').keeps hkeep) hl (hkind _) fun s₂ e₂ S₂ => wpAny_pure (hQ s.heap.objs.size s₂ X' (e₁.fresh e₂ hlo) (Nat.le_refl _) O (fun b h => .inl h) hlo fun A'' hA'' => ?_)
  rw [List.append_nil] at S₂
  exact ⟨S₂.base, hA'', S₂.bd, S₂.xo, S₂.co, S₂.fm⟩

/-- a def of the text, called by its places -/
theorem ks_nil : ∀ x ∈ ([] : List Str), KindSt env x := fun _ h => nomatch h
theorem ks_cons {x : Str} {xs : List Str} (h : KindSt env x) (t : ∀ y ∈ xs, KindSt env y) : ∀ y ∈ x :: xs, KindSt env y := fun y hy => (List.mem_cons.mp hy).elim (fun e => e ▸ h) (t y)
structure FnAt (K : Frag) (a : Addr) (fd : FuncData) (names : List Str) (body : List Stmt) : Prop where
  at_ : ∃ o, K.lookup a = some o ∧ o.data = .func fd
  code : ∃ c oc vs t, fd.code = .ref c ∧ K.lookup c = some oc ∧ oc.data = .fields vs ∧ vs[1]? = some (.str fd.qualname t)
  body : fd.body = .stmts body
  kind : fd.scope.kind = .function
  co : fd.scope.isCoroutine = false
  gen : fd.scope.isGenerator = false
  globals : fd.globals = mainGlobals
  builtins : fd.builtins = builtinsNs
  closure : fd.closure = []
  kinds : ∀ L, ∀ x ∈ names, KindSt (fEnv fd a L) x

theorem call_fn' {a : Addr} {fd : FuncData} {names : List Str} {body : List Stmt} {vs vs' : List Value} {ps : List PV} {R : Value → Shared → Prop} (S : Sit prog w K mb (n + 1) C X A env ρ s) (F : FnAt K a fd names body) (hr : Reps X s.heap vs' ps) (hl : names.length = vs'.length)
    (hbind : ∀ (s : Shared) (Q : List (Str × Value) → Shared → Prop) (E : Value → Shared → Prop), Base K mb s.heap → Q (names.zip vs') s → wpAny (model prog w) A.in1 (bindArgs fd ⟨vs, []⟩) Q E s)
    (h : ∀ s₀ L s₁ X', Ext prog w noX C s s₀ → Ext prog w noX C s₀ s₁ → Own X' (fEnv fd a L) → (∀ b, X b → X' b) → (∀ b, FrO (fEnv fd a L) b → s₀.heap.objs.size ≤ b) → Sit prog w K mb n C X' (A.deeper (fEnv fd a L)) (fEnv fd a L) (names.zip ps).reverse s₁ →
      wpAny (model prog w) (A.deeper (fEnv fd a L)) (execs body (fEnv fd a L)) (fun f s' => ∀ v, v = (match f with | .ret v => v | _ => .none) → Ext prog w (FrO (fEnv fd a L)) C s₁ s' ∧ (Ext prog w noX C s₀ s' → R v s')) (fun _ _ => False) s₁) :
    Do prog w C A (call (.ref a) vs) R s := by
  intro s₁ e₁ Q E k
  have S₁ := S.ext e₁
  refine Mine.el1b F.at_ fun o ho hd => ?_
  refine Mine.el4d F.code fun c oc fs t hc1 hc2 hc3 hc4 => ?_
  refine wpAny_call (codeAny_call_function S.rm.room (S₁.base.frag _ _ ho) hd F.co F.gen F.body ⟨c, oc, fs, t, hc1, S₁.base.frag _ _ hc2, hc3, hc4⟩ ?_)
  have S₁' : Sit prog w K mb n C X A.in1 env ρ s₁ := ⟨S₁.base, S.rm.in1, S₁.bd, S₁.xo, S₁.co, S₁.fm⟩
  refine hbind _ _ _ S₁.base (newFrame S₁' S.rm.in1 F.kind F.globals F.builtins F.closure (hr.ext e₁.ofNo) hl F.kinds fun L s₂ X' e₂ hL O hXX hlo S₂ => ⟨(S₂ A.in1 S.rm.in1).base.noLimit, codeAny_func ?_⟩)
  refine wpAny_mono (h s₁ L s₂ X' e₁ e₂ O hXX hlo (S₂ _ S.rm.deeper)) (fun f s' hf => ?_) fun _ _ x => x.elim
  refine Mine.el0b (hf _ rfl) fun e₃ r => ?_
  have e := e₂.fresh e₃ hlo
  exact k _ _ e (r e)
theorem call_fn {a : Addr} {fd : FuncData} {names : List Str} {body : List Stmt} {vs : List Value} {ps : List PV} {R : Value → Shared → Prop} (S : Sit prog w K mb (n + 1) C X A env ρ s) (F : FnAt K a fd names body) (hr : Reps X s.heap vs ps) (hl : names.length = vs.length)
    (hbind : bindArgs fd ⟨vs, []⟩ = pure (names.zip vs))
    (h : ∀ s₀ L s₁ X', Ext prog w noX C s s₀ → Ext prog w noX C s₀ s₁ → Own X' (fEnv fd a L) → (∀ b, X b → X' b) → (∀ b, FrO (fEnv fd a L) b → s₀.heap.objs.size ≤ b) → Sit prog w K mb n C X' (A.deeper (fEnv fd a L)) (fEnv fd a L) (names.zip ps).reverse s₁ →
      wpAny (model prog w) (A.deeper (fEnv fd a L)) (execs body (fEnv fd a L)) (fun f s' => ∀ v, v = (match f with | .ret v => v | _ => .none) → Ext prog w (FrO (fEnv fd a L)) C s₁ s' ∧ (Ext prog w noX C s₀ s' → R v s')) (fun _ _ => False) s₁) :
    Do prog w C A (call (.ref a) vs) R s :=
  call_fn' S F hr hl (fun s Q E _ hq => by rw [hbind]; exact wpAny_pure hq) h
end Mine
end
section
open PySem PySem.W PySem.Calls PyProof.Rows
set_option Elab.async false
set_option maxRecDepth 100000
set_option linter.unusedVariables false
namespace Mine
variable {prog : Program} {w : World} {K : Frag} {mb : Str → Option Value} {X Y : Addr → Prop} {C : Mem} {s s' s'' : Shared} {A : Around} {env : Env} {ρ : List (Str × PV)} {n : Nat}

/-- a frame with fewer names known -/
theorem Sit.sub {ρ' : List (Str × PV)} (S : Sit prog w K mb n C X A env ρ s) (h : ∀ x p, ρ'.lookup x = some p → ρ.lookup x = some p) : Sit prog w K mb n C X A env ρ' s := by
  refine ⟨S.base, S.rm, S.bd, S.xo, S.co, S.fm.kind, S.fm.globals, S.fm.builtins, S.fm.cl, ?_, fun y c e => ?_⟩
  · refine Mine.el1b S.fm.ns fun m hn hv => ?_
    exact ⟨m, hn, fun y q e k => hv y q (h y q e) k⟩
  · refine Mine.el1b (S.fm.cell y c e) fun ov hi hv => ?_
    exact ⟨ov, hi, fun q e k => hv q (h y q e) k⟩
theorem Own.mono (O : Own X env) (h : ∀ a, X a → Y a) : Own Y env := ⟨fun a q => h a (O.own a q), O.ap⟩

/-- what a loop carries along, besides the frame -/
noncomputable def LoopJ (prog : Program) (w : World) (C : Mem) (env : Env) (X : Addr → Prop) (lo : Nat) (J : (Addr → Prop) → Nat → Shared → Prop) : Prop :=
  (∀ X' i s s' Z, (∀ a, X a → X' a) → (∀ a, Z a → X' a ∧ (FrO env a ∨ lo ≤ a)) → J X' i s → Ext prog w Z C s s' → J X' i s')

theorem for_loop {x : Str} {px : Pos} {body : List Stmt} {R : Result → Shared → Prop} {it : Value} {ps : List PV} {Z : Addr → Prop} {s₀ : Shared} (S₀ : Sit prog w K mb n C X A env ρ s₀) (e₀ : Ext prog w noX C s₀ s) (hI : Iter prog w C X A s₀.heap.objs.size ps it s) (O : Own X env) (hk : KindSt env x)
    (hZ : ∀ a, FrO env a → Z a) (hZX : ∀ a, Z a → X a) (ρs : Nat → List (Str × PV)) (J : (Addr → Prop) → Nat → Shared → Prop) (hJ : LoopJ prog w C env X s₀.heap.objs.size J)
    (h0 : ∀ y p, (ρs 0).lookup y = some p → ρ.lookup y = some p) (j0 : ∀ X', (∀ a, X a → X' a) → (∀ a, X' a → X a ∨ s₀.heap.objs.size ≤ a) → J X' 0 s₀)
    (hbody : ∀ X' i p s', ps[i]? = some p → (∀ a, X a → X' a) → Own X' env → Ext prog w Z C s₀ s' → Sit prog w K mb n C X' A env ((x, p) :: ρs i) s' → J X' i s' →
      wpAny (model prog w) A (execs body env) (fun f s'' => Ext prog w Z C s' s'' ∧ (match f with | .next | .cont => Sit prog w K mb n C X' A env (ρs (i + 1)) s'' ∧ J X' (i + 1) s'' | .brk => False | .ret v => Ext prog w Z C s₀ s'' → R (.ok (.ret v)) s'')) (fun _ _ => False) s')
    (hend : ∀ X' s', (∀ a, X a → X' a) → Own X' env → Ext prog w Z C s₀ s' → Sit prog w K mb n C X' A env (ρs ps.length) s' → J X' ps.length s' → R (.ok .next) s') :
    codeAny (model prog w) A (.forLoop (.Name x px) it body [] env) R s := by
  (refine Mine.el5f hI fun I fp wr P St hq1 W hst hwr hfp hP => ?_; try clear hI; obtain rfl := hq1)
  let X' : Addr → Prop := fun a => X a ∨ a ∈ wr
  have hXX : ∀ a, X a → X' a := fun a h => .inl h
  have hX'lo : ∀ a, X' a → X a ∨ s₀.heap.objs.size ≤ a := fun a h => h.imp id (hwr a)
  have O' : Own X' env := O.mono hXX
  have hw : ∀ a ∈ wr, s₀.heap.objs.size ≤ a ∧ a < s.heap.objs.size ∧ C a = none := fun a h => ⟨hwr a h, (hfp a (W.sub a h)).1, (hfp a (W.sub a h)).2.1⟩
  have hlw : env.locals ∉ wr := fun h => Nat.lt_irrefl _ (Nat.lt_of_lt_of_le (by (refine Mine.el1b S₀.fm.ns fun m hq2 _ => ?_; obtain ⟨o, es, ep, ho, _⟩ := hq2); exact Heap.lt_size ho) (hwr _ h))
  have hcw : ∀ x c, env.cells.lookup x = some c → c ∉ wr := fun y c hc h => by
    (refine Mine.el1b (S₀.fm.cell y c hc) fun ov hq3 _ => ?_; obtain ⟨o, ho, _⟩ := hq3)
    exact Nat.lt_irrefl _ (Nat.lt_of_lt_of_le (Heap.lt_size ho) (hwr _ h))
  have hwN : ∀ a, a ∈ wr → X' a ∧ (FrO env a ∨ s₀.heap.objs.size ≤ a) := fun a h => ⟨.inr h, .inr (hwr a h)⟩
  have hfpZ : ∀ b ∈ fp, ¬ Z b ∧ C b = none := fun b hb => ⟨fun q => (hfp b hb).2.2 (hZX b q), (hfp b hb).2.1⟩
  have jn : ∀ {i sa sb}, J X' i sa → Ext prog w noX C sa sb → J X' i sb := fun h e => hJ X' _ _ _ noX hXX (fun _ q => q.elim) h e
  have S : Sit prog w K mb n C X' A env (ρs 0) s := (S₀.addX e₀ hw).sub h0
  have hZw : ∀ a, (Z a ∨ a ∈ wr) → X' a := fun a h => h.imp (hZX a) id
  have hide : ∀ {sa}, Ext prog w (fun a => Z a ∨ a ∈ wr) C s sa → Ext prog w Z C s₀ sa := fun e => e₀.ofNo.freshZ e fun a h => h.imp id (hwr a)
  refine codeAny_forLoop (fun k s' => ∃ i, i ≤ ps.length ∧ k = ps.length + 1 - i ∧ Ext prog w (fun a => Z a ∨ a ∈ wr) C s s' ∧ Sit prog w K mb n C X' A env (ρs i) s' ∧ St i s'.heap ∧ J X' i s') ?_ (ps.length + 1)
    ⟨0, Nat.zero_le _, rfl, .refl, S, hst, jn (j0 X' hXX hX'lo) e₀⟩
  rintro k s₁ ⟨i, hi, rfl, e₁, S₁, st₁, inv₁⟩
  by_cases hlt : i < ps.length
  · refine with_size (W.item i s₁ _ _ hlt st₁ fun v h' tk hPv st₂ hk' hsz => ?_)
    have e₂ : Ext prog w (fun a => a ∈ wr) C s₁ { s₁ with heap := h', toks := tk } := ⟨hsz, fun b o e hb => .inl (hk' b o hb e), rfl, rfl⟩
    generalize hs₂ : ({ s₁ with heap := h', toks := tk } : Shared) = s₂ at e₂ ⊢
    have st₂ : St (i + 1) s₂.heap := by rw [← hs₂]; exact st₂
    have S₂ : Sit prog w K mb n C X' A env (ρs i) s₂ := S₁.extZ e₂ (fun a h => .inr h) hlw hcw
    obtain ⟨p, hp⟩ : ∃ p, ps[i]? = some p := ⟨_, List.getElem?_eq_getElem hlt⟩
    have r₂ : Rep X' s₂.heap v p := ((hP i v p hPv hp).ext (e₁.mono hZw)).ext (e₂.mono fun a h => .inr h)
    have inv₂ : J X' i s₂ := hJ X' i s₁ s₂ _ hXX hwN inv₁ e₂
    dsimp only
    refine assign_var S₂ (O'.can hk) O'.ap r₂ fun s₃ e₃ S₃ => ?_
    have st₃ : St (i + 1) s₃.heap := W.frame _ _ _ st₂ fun b hb o ho => e₃.keepAt ho (fun q => (hfpZ b hb).1 (hZ b (stX_frO b q))) (hfpZ b hb).2
    have inv₃ : J X' i s₃ := hJ X' i s₂ s₃ _ hXX (fun a h => ⟨O'.own a (stX_frO a h), .inl (stX_frO a h)⟩) inv₂ e₃
    have e₁₃ : Ext prog w (fun a => Z a ∨ a ∈ wr) C s s₃ := e₁.trans ((e₂.mono fun a h => .inr h).trans (e₃.mono fun a h => .inl (hZ a (stX_frO a h))))
    refine wpAny_mono (hbody X' i p s₃ hp hXX O' (hide e₁₃) S₃ inv₃) (fun f s₄ h₄ => ?_) fun _ _ q => q.elim
    refine Mine.el0b h₄ fun e₄ h₄ => ?_
    have st₄ : St (i + 1) s₄.heap := W.frame _ _ _ st₃ fun b hb o ho => e₄.keepAt ho (hfpZ b hb).1 (hfpZ b hb).2
    have e₁₄ := e₁₃.trans (e₄.mono fun a h => (.inl h : Z a ∨ a ∈ wr))
    cases f with
    | next => exact ⟨ps.length + 1 - (i + 1), by omega, i + 1, hlt, rfl, e₁₄, h₄.1, st₄, h₄.2⟩
    | cont => exact ⟨ps.length + 1 - (i + 1), by omega, i + 1, hlt, rfl, e₁₄, h₄.1, st₄, h₄.2⟩
    | brk => exact h₄.elim
    | ret v => exact h₄ (hide e₁₄)
  · have hin : i = ps.length := by omega
    subst hin
    refine with_size (W.done s₁ _ _ st₁ fun h' tk hk' hsz => ?_)
    have e₂ : Ext prog w (fun a => a ∈ wr) C s₁ { s₁ with heap := h', toks := tk } := ⟨hsz, fun b o e hb => .inl (hk' b o hb e), rfl, rfl⟩
    dsimp only
    refine wpAny_execs_nil (hend X' _ hXX O' (hide (e₁.trans (e₂.mono fun a h => .inr h))) (S₁.extZ e₂ (fun a h => .inr h) hlw hcw) (hJ X' _ _ _ _ hXX hwN inv₁ e₂))

/-- for x in iter: body -/
theorem x_for {x : Str} {px pos : Pos} {iter : Expr} {body rest : List Stmt} {ps : List PV} {Z : Addr → Prop} {Q : Flow → Shared → Prop} {E : Value → Shared → Prop} (S : Sit prog w K mb n C X A env ρ s) (hit : EvI prog w C X A env iter ps s) (O : Own X env) (hk : KindSt env x)
    (hset : ∀ v, foldedSetIterable iter env v = pure v)
    (hZ : ∀ a, FrO env a → Z a) (hZX : ∀ a, Z a → X a) (ρs : Nat → List (Str × PV)) (J : (Addr → Prop) → Nat → Shared → Prop) (hJ : LoopJ prog w C env X s.heap.objs.size J)
    (h0 : ∀ y p, (ρs 0).lookup y = some p → ρ.lookup y = some p) (j0 : ∀ X', (∀ a, X a → X' a) → (∀ a, X' a → X a ∨ s.heap.objs.size ≤ a) → J X' 0 s)
    (hbody : ∀ X' i p s', ps[i]? = some p → (∀ a, X a → X' a) → Own X' env → Ext prog w Z C s s' → Sit prog w K mb n C X' A env ((x, p) :: ρs i) s' → J X' i s' →
      wpAny (model prog w) A (execs body env) (fun f s'' => Ext prog w Z C s' s'' ∧ (match f with | .next | .cont => Sit prog w K mb n C X' A env (ρs (i + 1)) s'' ∧ J X' (i + 1) s'' | .brk => False | .ret v => Ext prog w Z C s s'' → Q (.ret v) s'')) (fun _ _ => False) s')
    (hend : ∀ X' s', (∀ a, X a → X' a) → Own X' env → Ext prog w Z C s s' → Sit prog w K mb n C X' A env (ρs ps.length) s' → J X' ps.length s' → wpAny (model prog w) A (execs rest env) Q E s') :
    wpAny (model prog w) A (execs (.For (.Name x px) iter body [] pos :: rest) env) Q E s := by
  refine wpAny_execs_cons (wpAny_For (hit s .refl _ _ fun it s₁ e₁ hI => ?_) hset)
  exact for_loop S e₁ hI O hk hZ hZX ρs J hJ h0 j0 hbody hend

/-- while test: body -/
theorem x_while {test : Expr} {body rest : List Stmt} {pos : Pos} {Z : Addr → Prop} {Q : Flow → Shared → Prop} {E : Value → Shared → Prop} (N : Nat) (Inv : Nat → Shared → Prop) (inv0 : Inv N s)
    (hturn : ∀ k s', Inv k s' → Ext prog w Z C s s' → ∃ b, Ts prog w C A env test b s' ∧
      (b = true → ∀ s'', Ext prog w noX C s' s'' → wpAny (model prog w) A (execs body env) (fun f s₃ => Ext prog w Z C s'' s₃ ∧ (match f with | .next | .cont => ∃ m, m < k ∧ Inv m s₃ | .brk => False | .ret v => Q (.ret v) s₃)) (fun _ _ => False) s'') ∧
      (b = false → ∀ s'', Ext prog w noX C s' s'' → Ext prog w Z C s s'' → wpAny (model prog w) A (execs rest env) Q E s'')) :
    wpAny (model prog w) A (execs (.While test body [] pos :: rest) env) Q E s := by
  refine wpAny_execs_cons (wpAny_While ?_)
  refine codeAny_whileLoop (fun k s' => Inv k s' ∧ Ext prog w Z C s s') (fun k s₁ h₁ => ?_) N ⟨inv0, .refl⟩
  refine Mine.el1c (hturn k s₁ h₁.1 h₁.2) fun b hb ht hf => ?_
  refine hb s₁ .refl _ _ fun b' s₂ e₂ hb' => ?_
  subst hb'
  cases b' with
  | true =>
    simp only [if_true]
    refine wpAny_mono (ht rfl s₂ e₂) (fun f s₃ h₃ => ?_) fun _ _ q => q.elim
    refine Mine.el0b h₃ fun e₃ h₃ => ?_
    have e := h₁.2.trans (e₂.ofNo.trans e₃)
    cases f with
    | next => exact let ⟨m, hm, hI⟩ := h₃; ⟨m, hm, hI, e⟩
    | cont => exact let ⟨m, hm, hI⟩ := h₃; ⟨m, hm, hI, e⟩
    | brk => exact h₃.elim
    | ret v => exact h₃
  | false =>
    simp only [Bool.false_eq_true, if_false]
    exact wpAny_execs_nil (hf rfl s₂ e₂ (h₁.2.trans e₂.ofNo))
end Mine
end
section
open PySem PySem.W PySem.Calls PyProof.Rows
set_option Elab.async false
set_option maxRecDepth 100000
set_option linter.unusedVariables false
namespace Mine
variable {prog : Program} {w : World} {K : Frag} {mb : Str → Option Value} {X Y : Addr → Prop} {C : Mem} {s s' s'' : Shared} {A : Around} {env : Env} {ρ : List (Str × PV)} {n : Nat}

theorem op_mod_int {x y : Int} {a b : Value} (ha : Rep X s.heap a (.int x)) (hb : Rep X s.heap b (.int y)) (hy : (y == 0) = false) : DoV prog w C X A (binaryOp .Mod a b) (.int (x.fmod y)) s := by
  refine Mine.Rep.elI ha fun _ => ?_; refine Mine.Rep.elI hb fun _ => ?_
  refine fun s₁ e₁ Q E k => AutoIntOps.mod_1 (by rw [hy]; decide) ?_
  exact k _ _ .tok (.int _ _)
/-! str.find, from a place up to a place -/
noncomputable def findP (x y : Str) (i j : Int) : Int := match Builtin.Str.occurrences x y (fromIndex x.length i) (min (fromIndex x.length j) x.length) 1 with | k :: _ => (k : Int) | [] => -1
theorem gives_find4 (x y : Str) (i j : Int) (t u v v' : Tok) : Gives (Builtin.«str.find» ⟨[.str x t, .str y u, .int i v, .int j v'], []⟩) (.int (findP x y i j)) := by
  unfold findP
  show Gives (match Builtin.Str.occurrences x y (fromIndex x.length i) (min (fromIndex x.length j) x.length) 1 with | k :: _ => retInt k | [] => (do rule "str.find.not-found"; retInt (-1))) _
  cases Builtin.Str.occurrences x y (fromIndex x.length i) (min (fromIndex x.length j) x.length) 1 with
  | nil => exact .rule (.of_eq rfl)
  | cons k _ => exact .of_eq rfl
theorem m_find {x y : Str} {i j : Int} : Meth prog w C X A "find" (.str x) [.str y, .int i, .int j] (.int (findP x y i j)) s := ⟨"str.find",
  fun v s' pl e r => (by refine Mine.Rep.elS r fun _ => ?_; exact fun s₁ e₁ Q E k => GM.find (k _ _ .refl rfl)),
  fun v vs s' e r rs => (by
    refine Mine.Rep.elS r fun _ => ?_
    refine Mine.Reps.elC rs fun _ _ a1 b1 => ?_
    refine Mine.Reps.elC b1 fun _ _ a2 b2 => ?_
    refine Mine.Reps.elC b2 fun _ _ a3 b3 => ?_
    refine Mine.Reps.elN b3 ?_
    refine Mine.Rep.elS a1 fun _ => ?_
    refine Mine.Rep.elI a2 fun _ => ?_
    refine Mine.Rep.elI a3 fun _ => ?_
    exact fun s₁ e₁ Q E k => call_gives PySem.F.slot_str_find (typeIs_str _ _ _) PySem.F.entry_str_find (PySem.F.args_str_find_4 _ _ _ _) (gives_find4 x y i j _ _ _ _) (k _ _ .tok (.int _ _)))⟩

/-! tuples -/
theorem rep_newTup {h : Heap} {items : Array Value} {l : List PV} {n : Nat} (bd : ∀ a, X a → a < h.objs.size) (hr : Reps X h items.toList l) :
    Rep X (h.push { cls := .type "tuple", data := .seq items n }) (.ref h.objs.size) (.tup l) :=
  .tup (fun hx => Nat.lt_irrefl _ (bd _ hx)) ⟨_, Heap.get?_push_size _ rfl, rfl, n, rfl⟩ (hr.keeps fun _ _ e => Heap.get?_push_of_some _ e)
theorem ev_tuple {es : List Expr} {k : Nat} {pos : Pos} {ps : List PV} (bd : ∀ a, X a → a < s.heap.objs.size) (h : Evs prog w C X A env es ps s) (hsz : ps.length ≤ sizeLine) : Ev prog w C X A env (.Tuple es k pos) (.tup ps) s := by
  intro s₁ e₁ Q E k
  refine wpAny_Tuple ?_
  rw [h.1, backTo_plain]
  refine h.2 s₁ e₁ _ _ fun vs s₂ e₂ r => ⟨by rw [r.length]; exact hsz, k _ _ (e₂.trans .push) (rep_newTup (fun a h => Nat.lt_of_lt_of_le (bd a h) (e₁.trans e₂).size) r)⟩

theorem extBut_push {h' : Heap} (he : Heap.ExtBut s.heap.objs.size s.heap h') (hsz : s.heap.objs.size ≤ h'.objs.size) : Ext prog w noX C s { s with heap := h' } :=
  ⟨hsz, fun b o e _ => .inl (he b o (Nat.ne_of_lt (Heap.lt_size e)) e), rfl, rfl⟩

theorem bind2 {x y : Str} {v u : Value} {p q : PV} {Q : Unit → Shared → Prop} {E : Value → Shared → Prop} (S : Sit prog w K mb n C X A env ρ s) (O : Own X env) (hx : KindSt env x) (hy : KindSt env y) (r : Rep X s.heap v p) (r' : Rep X s.heap u q)
    (k : ∀ s', Ext prog w (FrO env) C s s' → Sit prog w K mb n C X A env ((y, q) :: (x, p) :: ρ) s' → Q () s') : wpAny (model prog w) A (assignInOrder [fun v => bindName env x v, fun v => bindName env y v] [v, u]) Q E s := by
  refine wpAny_bind (wpAny_holding (wpAny_bindName (store_var S (O.can hx) O.ap r fun s₁ e₁ S₁ => ?_)))
  have e₁' := e₁.mono (stX_frO (env := env) (x := x))
  refine wpAny_bind (wpAny_holding (wpAny_bindName (store_var S₁ (O.can hy) O.ap (r'.ext (e₁'.mono O.own)) fun s₂ e₂ S₂ => ?_)))
  exact wpAny_pure (k s₂ (e₁'.trans (e₂.mono stX_frO)) S₂)

/-- x, y = (a, b), stored from the last -/
theorem x_assign_pair {x y : Str} {px py tpos pos : Pos} {value : Expr} {j : Nat} {rest : List Stmt} {p q : PV} {Q : Flow → Shared → Prop} {E : Value → Shared → Prop} (S : Sit prog w K mb n C X A env ρ s) (O : Own X env) (hx : KindSt env x) (hy : KindSt env y) (he : Ev prog w C X A env value (.tup [p, q]) s)
    (hs : swapsWithSole [.Tuple [.Name x px, .Name y py] j tpos] value pos.line env = pure false) (hw : swappedStores [.Tuple [.Name x px, .Name y py] j tpos] value env = pure (some [x, y]))
    (k : ∀ s', Ext prog w (FrO env) C s s' → Sit prog w K mb n C X A env ((x, p) :: (y, q) :: ρ) s' → wpAny (model prog w) A (execs rest env) Q E s') :
    wpAny (model prog w) A (execs (.Assign [.Tuple [.Name x px, .Name y py] j tpos] value pos :: rest) env) Q E s := by
  refine wpAny_execs_cons (Assign_Tuple_swapped (names := [x, y]) (he s .refl _ _ fun v s₁ e₁ r => ?_) hs hw)
  refine Mine.Rep.elT r fun a items hx' ht hr => ?_
  ·
    have hn : items.size = 2 := by simpa using hr.length
    refine with_size ?_; try k_fold
    show wpAny _ A (unpackItems (.ref a) 2 none) _ _ s₁
    rw [← hn]
    refine wpAny_unpackItems_tuple S.rm.h ht fun h' he hsz => ?_; try k_fold
    have e₂ : Ext prog w noX C s₁ { s₁ with heap := h' } := extBut_push he hsz
    have hr₂ := hr.ext e₂.ofNo
    generalize hi : items.toList = il at hr₂ ⊢
    refine Mine.Reps.elC hr₂ fun _ _ r1 hr₂ => ?_
    ·
      refine Mine.Reps.elC hr₂ fun _ _ r2 hr₂ => ?_
      ·
        cases hr₂
        exact bind2 (S.ext (e₁.trans e₂)) O hy hx r2 r1 fun s₃ e₃ S₃ => k s₃ ((e₁.trans e₂).ofNo.trans e₃) S₃

theorem bind3 {x y z : Str} {px py pz : Pos} {v u t : Value} {p q r : PV} {Q : Unit → Shared → Prop} {E : Value → Shared → Prop} (S : Sit prog w K mb n C X A env ρ s) (O : Own X env) (hx : KindSt env x) (hy : KindSt env y) (hz : KindSt env z) (r1 : Rep X s.heap v p) (r2 : Rep X s.heap u q) (r3 : Rep X s.heap t r)
    (k : ∀ s', Ext prog w (FrO env) C s s' → Sit prog w K mb n C X A env ((z, r) :: (y, q) :: (x, p) :: ρ) s' → Q () s') : wpAny (model prog w) A (assignInOrder [fun v => assign (.Name x px) env v, fun v => assign (.Name y py) env v, fun v => assign (.Name z pz) env v] [v, u, t]) Q E s := by
  refine wpAny_bind (wpAny_holding (assign_var S (O.can hx) O.ap r1 fun s₁ e₁ S₁ => ?_))
  have e₁' := e₁.mono (stX_frO (env := env) (x := x))
  refine wpAny_bind (wpAny_holding (assign_var S₁ (O.can hy) O.ap (r2.ext (e₁'.mono O.own)) fun s₂ e₂ S₂ => ?_))
  have e₂' := e₁'.trans (e₂.mono (stX_frO (env := env) (x := y)))
  refine wpAny_bind (wpAny_holding (assign_var S₂ (O.can hz) O.ap (r3.ext (e₂'.mono O.own)) fun s₃ e₃ S₃ => ?_))
  exact wpAny_pure (k s₃ (e₂'.trans (e₃.mono stX_frO)) S₃)

/-- x, y, z = a tuple -/
theorem x_assign_three {x y z : Str} {px py pz tpos pos : Pos} {value : Expr} {j : Nat} {rest : List Stmt} {p q r : PV} {Q : Flow → Shared → Prop} {E : Value → Shared → Prop} (S : Sit prog w K mb n C X A env ρ s) (O : Own X env) (hx : KindSt env x) (hy : KindSt env y) (hz : KindSt env z) (he : Ev prog w C X A env value (.tup [p, q, r]) s)
    (hs : swapsWithSole [.Tuple [.Name x px, .Name y py, .Name z pz] j tpos] value pos.line env = pure false) (hw : swappedStores [.Tuple [.Name x px, .Name y py, .Name z pz] j tpos] value env = pure none)
    (k : ∀ s', Ext prog w (FrO env) C s s' → Sit prog w K mb n C X A env ((z, r) :: (y, q) :: (x, p) :: ρ) s' → wpAny (model prog w) A (execs rest env) Q E s') :
    wpAny (model prog w) A (execs (.Assign [.Tuple [.Name x px, .Name y py, .Name z pz] j tpos] value pos :: rest) env) Q E s := by
  refine wpAny_execs_cons (Assign_Tuple (he s .refl _ _ fun v s₁ e₁ r' => ?_) hs hw)
  refine Mine.Rep.elT r' fun a items hx' ht hr => ?_
  ·
    have hn : items.size = 3 := by simpa using hr.length
    rw [arm_assign_Tuple]
    refine wpAny_bind (wpAny_standAt ?_)
    unfold unpack
    rw [show (assignEach [Expr.Name x px, .Name y py, .Name z pz] env).length = items.size by rw [hn]; rfl, show (assignEach [Expr.Name x px, .Name y py, .Name z pz] env).findIdx? (·.1) = none from rfl]
    refine wpAny_bind (wpAny_holding (with_size (wpAny_unpackItems_tuple S.rm.h ht fun h' he hsz => ?_)))
    have e₂ : Ext prog w noX C s₁ { s₁ with heap := h' } := extBut_push he hsz
    have hr₂ := hr.ext e₂.ofNo
    generalize hi : items.toList = il at hr₂ ⊢
    refine Mine.Reps.elC hr₂ fun _ _ r1 hr₂ => ?_
    ·
      refine Mine.Reps.elC hr₂ fun _ _ r2 hr₂ => ?_
      ·
        refine Mine.Reps.elC hr₂ fun _ _ r3 hr₂ => ?_
        ·
          cases hr₂
          exact bind3 (S.ext (e₁.trans e₂)) O hx hy hz r1 r2 r3 fun s₃ e₃ S₃ => k s₃ ((e₁.trans e₂).ofNo.trans e₃) S₃

/-! x op= e, of ints -/
theorem x_aug {x : Str} {px pos : Pos} {op : Operator} {value : Expr} {rest : List Stmt} {i : Int} {p q : PV} {Q : Flow → Shared → Prop} {E : Value → Shared → Prop} (S : Sit prog w K mb n C X A env ρ s) (O : Own X env) (hk : env.kindOf x = some .local) (hx : ρ.lookup x = some p) (he : Ev prog w C X A env value q s)
    (hop : ∀ a b s', Rep X s'.heap a p → Rep X s'.heap b q → DoV prog w C X A (inplaceOp op a b) (.int i) s')
    (k : ∀ s', Ext prog w (FrO env) C s s' → Sit prog w K mb n C X A env ((x, .int i) :: ρ) s' → wpAny (model prog w) A (execs rest env) Q E s') :
    wpAny (model prog w) A (execs (.AugAssign (.Name x px) op value pos :: rest) env) Q E s := by
  refine Mine.el1b S.fm.ns fun m hn hv => ?_
  refine Mine.el1b (hv x p hx hk) fun v h1 h2 => ?_
  refine wpAny_execs_cons (wpAny_AugAssign_Name (wpAny_loadName_local S.fm.kind hk hn h1 (he s .refl _ _ fun u s₁ e₁ r₁ => hop v u s₁ (h2.ext e₁.ofNo) r₁ s₁ .refl _ _ fun r s₂ e₂ r₂ => ?_)))
  refine store_var (S.ext (e₁.trans e₂)) (O.can (.inl hk)) O.ap r₂ fun s₃ e₃ S₃ => k s₃ ((e₁.trans e₂).ofNo.trans (e₃.mono stX_frO)) S₃
theorem op_iadd {x y : Int} {a b : Value} (ha : Rep X s.heap a (.int x)) (hb : Rep X s.heap b (.int y)) : DoV prog w C X A (inplaceOp .Add a b) (.int (x + y)) s := by
  refine Mine.Rep.elI ha fun _ => ?_; refine Mine.Rep.elI hb fun _ => ?_
  exact fun s₁ e₁ Q E k => P.iadd_int (k _ _ .tok (.int _ _))
theorem op_isub {x y : Int} {a b : Value} (ha : Rep X s.heap a (.int x)) (hb : Rep X s.heap b (.int y)) : DoV prog w C X A (inplaceOp .Sub a b) (.int (x - y)) s := by
  refine Mine.Rep.elI ha fun _ => ?_; refine Mine.Rep.elI hb fun _ => ?_
  exact fun s₁ e₁ Q E k => P.isub_int (k _ _ .tok (.int _ _))
theorem x_assert {test : Expr} {msg : Option Expr} {pos : Pos} {rest : List Stmt} {Q : Flow → Shared → Prop} {E : Value → Shared → Prop} (h : Ts prog w C A env test true s) (k : ∀ s', Ext prog w noX C s s' → wpAny (model prog w) A (execs rest env) Q E s') :
    wpAny (model prog w) A (execs (.Assert test msg pos :: rest) env) Q E s :=
  wpAny_execs_cons (wpAny_Assert_holds (h s .refl _ _ fun b s₁ e₁ hb => ⟨hb, k s₁ e₁⟩))
theorem x_continue {pos : Pos} {rest : List Stmt} {Q : Flow → Shared → Prop} {E : Value → Shared → Prop} (h : Q .cont s) : wpAny (model prog w) A (execs (.Continue pos :: rest) env) Q E s :=
  wpAny_execs_cons (wpAny_Continue h)

/-! lists that change -/
noncomputable def Mut (X : Addr → Prop) (a : Addr) (l : List PV) (h : Heap) : Prop := ∃ items, h.PlainList a items ∧ Reps X h items.toList l
noncomputable def EvM (prog : Program) (w : World) (C : Mem) (X : Addr → Prop) (A : Around) (env : Env) (e : Expr) (l : List PV) (s : Shared) : Prop :=
  Do prog w C A (eval e env) (fun v s' => ∃ a, v = .ref a ∧ s.heap.objs.size ≤ a ∧ Mut (fun b => X b ∨ b = a) a l s'.heap) s
noncomputable def imm : PV → Bool
  | .none | .bool _ | .int _ | .str _ => true
  | _ => false
theorem Rep.imm {h h' : Heap} {v : Value} {p : PV} (r : Rep X h v p) (hi : imm p = true) : Rep Y h' v p := by
  cases r <;> first | (cases hi; done) | constructor
theorem ev_imm {e : Expr} {p : PV} (h : Ev prog w C X A env e p s) (hi : imm p = true) : Ev prog w C Y A env e p s := Do.mono h fun v s' _ r => r.imm hi
theorem Mut.isList {a : Addr} {l : List PV} {h : Heap} (m : Mut X a l h) (hY : ∀ b, Y b → X b) (ha : ¬ Y a) : Rep Y h (.ref a) (.list l) := let ⟨_, hl, hr⟩ := m; .list ha hl.isList (hr.ofSub hY)
theorem Mut.ext {a : Addr} {l : List PV} {Z : Addr → Prop} (m : Mut X a l s.heap) (e : Ext prog w Z C s s') (hZ : ∀ b, Z b → X b) (ha : ¬ Z a) : Mut X a l s'.heap := by
  (refine Mine.el1b m fun items hq27 hr => ?_; try clear m; obtain ⟨k, ho⟩ := hq27)
  exact ⟨items, ⟨k, e.keepD ho ha (by first | exact fun _ _ h => by cases h | exact fun _ h => by cases h | nofun)⟩, hr.ext (e.mono hZ)⟩
theorem Sit.retype {x : Str} {p q : PV} (S : Sit prog w K mb n C X A env ((x, p) :: ρ) s) (h : ∀ v, Rep X s.heap v p → Rep X s.heap v q) : Sit prog w K mb n C X A env ((x, q) :: ρ) s := by
  have key : ∀ y r, ((x, q) :: ρ).lookup y = some r → ∃ r', ((x, p) :: ρ).lookup y = some r' ∧ ∀ v, Rep X s.heap v r' → Rep X s.heap v r := fun y r e => by
    rw [List.lookup_cons] at e
    cases hb : y == x with
    | true => rw [hb] at e; cases e; exact ⟨p, by rw [List.lookup_cons, hb], h⟩
    | false => rw [hb] at e; exact ⟨r, by rw [List.lookup_cons, hb]; exact e, fun _ q => q⟩
  refine ⟨S.base, S.rm, S.bd, S.xo, S.co, S.fm.kind, S.fm.globals, S.fm.builtins, S.fm.cl, ?_, fun y c e => ?_⟩
  · refine Mine.el1b S.fm.ns fun m hn hv => ?_
    refine ⟨m, hn, fun y r e k => ?_⟩
    refine Mine.el1b (key y r e) fun r' e' hr => ?_
    refine Mine.el1b (hv y r' e' k) fun v h1 h2 => ?_
    exact ⟨v, h1, hr v h2⟩
  · refine Mine.el1b (S.fm.cell y c e) fun ov hi hv => ?_
    refine ⟨ov, hi, fun r e k => ?_⟩
    refine Mine.el1b (key y r e) fun r' e' hr => ?_
    refine Mine.el1b (hv r' e' k) fun v h1 h2 => ?_
    exact ⟨v, h1, hr v h2⟩
/-- to look at a list that changes -/
theorem Sit.freeze {x : Str} {a : Addr} {l : List PV} (S : Sit prog w K mb n C Y A env ((x, .val (.ref a)) :: ρ) s) (m : Mut Y a l s.heap) (hX : ∀ b, X b → Y b) (ha : ¬ X a) : Sit prog w K mb n C X A env ((x, .list l) :: ρ) s :=
  (S.ofSub hX).retype fun v r => by refine Mine.Rep.elV r fun _ => ?_; exact m.isList hX ha

theorem x_assign_mut {x : Str} {px pos : Pos} {e : Expr} {rest : List Stmt} {l : List PV} {Q : Flow → Shared → Prop} {E : Value → Shared → Prop} (S : Sit prog w K mb n C X A env ρ s) (O : Own X env) (hk : KindSt env x) (he : EvM prog w C X A env e l s)
    (hs : swapsWith e (some (.Name x px)) pos.line env = pure false)
    (k : ∀ a s' X', X' = (fun b => X b ∨ b = a) → s.heap.objs.size ≤ a → ¬ X a → ¬ FrO env a → C a = none → Ext prog w (FrO env) C s s' → Own X' env → Sit prog w K mb n C X' A env ((x, .val (.ref a)) :: ρ) s' → Mut X' a l s'.heap → wpAny (model prog w) A (execs rest env) Q E s') :
    wpAny (model prog w) A (execs (.Assign [.Name x px] e pos :: rest) env) Q E s := by
  refine wpAny_execs_cons ?_; try k_fold
  refine wpAny_Assign_Name (he s .refl _ _ fun v s₁ e₁ r => ?_) hs
  (refine Mine.el1c r fun a hq29 ha hm => ?_; try clear r; obtain rfl := hq29)
  have hxa : ¬ X a := fun q => Nat.lt_irrefl _ (Nat.lt_of_lt_of_le (S.bd a q) ha)
  have hca : C a = none := co_new S ha
  have hlt : a < s₁.heap.objs.size := let ⟨_, ⟨_, ho⟩, _⟩ := hm; Heap.lt_size ho
  have S₁ : Sit prog w K mb n C (fun b => X b ∨ b = a) A env ρ s₁ := (S.addX (wr := [a]) e₁ (fun b hb => by rw [List.mem_singleton] at hb; subst hb; exact ⟨ha, hlt, hca⟩)).ofSub fun b h => h.imp id (by rintro rfl; exact .head _)
  have O₁ : Own (fun b => X b ∨ b = a) env := O.mono fun b h => .inl h
  refine store_var S₁ (O₁.can hk) O₁.ap (.val _) fun s₂ e₂ S₂ => ?_; try k_fold
  have hfa : ¬ FrO env a := fun q => hxa (O.own a q)
  exact k a s₂ _ rfl ha hxa hfa hca (e₁.ofNo.trans (e₂.mono stX_frO)) O₁ S₂ (hm.ext e₂ (fun b h => O₁.own b (stX_frO b h)) fun q => hfa (stX_frO a q))

theorem Reps.eraseIdx {h : Heap} {vs : List Value} {ps : List PV} (r : Reps X h vs ps) (j : Nat) : Reps X h (vs.eraseIdx j) (ps.eraseIdx j) := by
  rw [List.eraseIdx_eq_take_drop_succ, List.eraseIdx_eq_take_drop_succ]
  exact (r.take j).append (r.drop (j + 1))
/-- del x[i] -/
theorem x_del {x : Str} {px spos pos : Pos} {idx : Expr} {rest : List Stmt} {a : Addr} {l : List PV} {i : Int} {j : Nat} {Q : Flow → Shared → Prop} {E : Value → Shared → Prop} (S : Sit prog w K mb n C X A env ρ s) (O : Own X env) (hx : ρ.lookup x = some (.val (.ref a))) (hk : env.kindOf x = some .local)
    (hm : Mut X a l s.heap) (hX : X a) (hfa : ¬ FrO env a) (hi : Ev prog w C X A env idx (.int i) s) (hfit : Builtin.List.listFitsIndex i = true) (hj : seqIndex? i l.length = some j) (hsz : l.length ≤ sizeLine)
    (k : ∀ s', Ext prog w (fun b => b = a) C s s' → Sit prog w K mb n C X A env ρ s' → Mut X a (l.eraseIdx j) s'.heap → wpAny (model prog w) A (execs rest env) Q E s') (hd : autoParam ((x == ("__debug__" : Str)) = false) Mine.autoD) :
    wpAny (model prog w) A (execs (.Delete [.Subscript (.Name x px) idx spos] pos :: rest) env) Q E s := by
  refine wpAny_execs_cons (wpAny_Delete (wpAny_deleteEach_cons (wpAny_delete_Subscript ?_)))
  refine Mine.el1b S.fm.ns fun m hn hv => ?_; try k_fold
  refine Mine.el1b (hv x _ hx hk) fun v h1 h2 => ?_; try k_fold
  cases h2
  refine wpAny_Name (wpAny_loadName_local S.fm.kind hk hn h1 ?_) hd
  refine hi s .refl _ _ fun iv s₁ e₁ r => ?_; try k_fold
  refine Mine.Rep.elI r fun _ => ?_; try k_fold
  refine Mine.el1b (hm.ext e₁ (fun _ q => q.elim) (fun q => q)) fun items hl hr => ?_; try k_fold
  have hlen : items.size = l.length := by simpa using hr.length
  refine wpAny_delItem_plain hl hfit (by rw [hlen]; exact hj) (fun h' hl' hs => wpAny_deleteEach_nil ?_) (by omega)
  have e₂ : Ext prog w (fun b => b = a) C s₁ { s₁ with heap := h' } := Ext.sameBut (t := s₁.toks) hs rfl
  refine k _ (e₁.ofNo.trans e₂) ((S.ext e₁).extZ e₂ (fun b h => h ▸ hX) (fun q => hfa (.inl q.symm)) fun y c hc q => ?_) ⟨_, hl', ?_⟩
  · (refine Mine.el1b ((S.ext e₁).fm.cell y c hc) fun ov hq31 _ => ?_; obtain ⟨o, ho, hd'⟩ := hq31)
    (refine Mine.el1a hl fun n' ho' => ?_; try clear hl)
    rw [q, ho'] at ho; cases ho; cases hd'
  · have := (hr.eraseIdx j).ext (e₂.mono fun b h => h ▸ hX)
    simpa [List.eraseIdx_eq_take_drop_succ, Array.toList_eraseIdxIfInBounds] using this
end Mine
end
section
open PySem PySem.W PySem.Calls PyProof.Rows
set_option Elab.async false
set_option maxRecDepth 100000
set_option linter.unusedVariables false
namespace Mine
variable {prog : Program} {w : World} {K : Frag} {mb : Str → Option Value} {X Y : Addr → Prop} {C : Mem} {s s' s'' : Shared} {A : Around} {env : Env} {ρ : List (Str × PV)} {n : Nat}

noncomputable def Sub (ρ' ρ : List (Str × PV)) : Prop := ∀ x p, ρ'.lookup x = some p → ρ.lookup x = some p
theorem sub_nil : Sub [] ρ := fun _ _ e => nomatch e
theorem sub_cons {ρ' : List (Str × PV)} {x : Str} {p : PV} (h : ρ.lookup x = some p) (t : Sub ρ' ρ) : Sub ((x, p) :: ρ') ρ := fun y q e => by
  rw [List.lookup_cons] at e
  cases hb : y == x with
  | true => rw [hb] at e; cases e; rw [beq_iff_eq.mp hb]; exact h
  | false => rw [hb] at e; exact t y q e
theorem sub_refl : Sub ρ ρ := fun _ _ e => e
theorem sub_tail {x : Str} {p : PV} (h : ρ.lookup x = none) : Sub ρ ((x, p) :: ρ) := fun y q e => by
  rw [List.lookup_cons]
  cases hb : y == x with
  | true => rw [beq_iff_eq.mp hb, h] at e; cases e
  | false => exact e
theorem len_sz {i : Nat} (h : i ≤ 1000) : i ≤ sizeLine := Nat.le_trans h (by decide)
theorem split_parts (x y : Str) (h : x.length ≤ 1000) : (Builtin.Str.partsBetween x (Builtin.Str.occurrences x y 0 x.length (x.length + 1)) y.length).length ≤ sizeLine := by
  have := StrLaws.occ_length_le x y 0 x.length (x.length + 1)
  have hp : ∀ (cuts : List Nat) (w : Nat), (Builtin.Str.partsBetween x cuts w).length = cuts.length + 1 := fun cuts w => by simp [Builtin.Str.partsBetween]
  rw [hp]
  exact len_sz' (by omega)
where len_sz' {i : Nat} (h : i ≤ 1002) : i ≤ sizeLine := Nat.le_trans h (by decide)

/-- split, its list a new one -/
theorem evm_split {o arg : Expr} {apos pos : Pos} {pl : Sem Bool} {x y : Str} (S : Sit prog w K mb n C X A env ρ s) (ho : Ev prog w C X A env o (.str x) s) (h : Evs prog w C X A env [arg] [.str y] s) (hy : (y.length == 0) = false) (hx : x.length ≤ 1000)
    (he : autoParam (eval (.Call (.Attribute o "split" apos) [arg] [] pos) env = (do
      let ov ← eval o env
      standAt apos.atName
      let (f, first) ← holding [ov] (getMethod ov "split" pl)
      callWith pos f first (backTo pos (starEach [arg] env)) [])) Mine.autoR) : EvM prog w C X A env (.Call (.Attribute o "split" apos) [arg] [] pos) ((Txt.split x y).map .str) s := by
  intro s₁ e₁ Q E k
  refine MethodCall_ (ho s₁ e₁ _ _ fun v s₂ e₂ r => ?_) he
  refine Mine.Rep.elS r fun _ => ?_
  refine GM.split ?_
  refine do_callWith_builtin (ps := [.str y]) (R := fun v s' => ∃ a, v = .ref a ∧ s.heap.objs.size ≤ a ∧ Mut (fun b => X b ∨ b = a) a ((Txt.split x y).map .str) s'.heap) (evs_ext h (e₁.trans e₂)) (fun vs s₃ e₃ rs => ?_) s₂ .refl _ _ fun v s₃ e₃ r => k v s₃ (e₂.trans e₃) r
  refine Mine.Reps.elC rs fun _ _ a b => ?_
  ·
    refine Mine.Rep.elS a fun _ => ?_; refine Mine.Reps.elN b ?_
    intro s₄ e₄ Q E k
    refine split_push hy (fun l tk hl => k _ _ (Ext.push.tokR) ⟨_, rfl, (e₁.trans (e₂.trans (e₃.trans e₄))).size, ?_⟩) (len_sz hx) (split_parts x y hx)
    rw [← hl]
    exact ⟨_, ⟨_, Heap.get?_push_size _ rfl⟩, reps_of_strValues⟩

theorem seq0 {k : Nat} (h : 0 < k) : seqIndex? 0 k = some 0 := by simp [seqIndex?]; (solve_by_elim (maxDepth := 3) [Nat.le_of_lt_succ, Nat.lt_succ_of_le, Nat.lt_succ_of_lt, Nat.le_of_lt, Nat.le_succ_of_le, Nat.pos_of_ne_zero, Nat.ne_of_gt, Nat.ne_of_lt, Nat.zero_le, Nat.le_refl, Nat.lt_succ_self, Nat.sub_le, Nat.le_of_not_lt, Nat.lt_of_not_le, Nat.le_trans, Nat.lt_of_lt_of_le, Nat.lt_of_le_of_lt, Nat.le_antisymm])
theorem seqm1 {k : Nat} (h : 0 < k) : seqIndex? (-1) k = some (k - 1) := by
  have h1 : (if (-1 : Int) < 0 then -1 + (k : Int) else -1) = -1 + k := if_pos (by decide)
  simp only [seqIndex?, h1]
  rw [if_pos (by simp; omega)]
  congr 1; omega
theorem last_idx {α : Type} (l : List α) (h : l ≠ []) : l[(-1 + (l.length : Int)).toNat]? = some (l.getLast h) := by
  have hp : 0 < l.length := List.length_pos_iff.mpr h
  rw [show (-1 + (l.length : Int)).toNat = l.length - 1 by omega, List.getLast_eq_getElem, List.getElem?_eq_getElem (by omega)]
theorem ts_eq {e : Expr} {b b' : Bool} (h : Ts prog w C A env e b s) (hb : b = b') : Ts prog w C A env e b' s := hb ▸ h
theorem ev_eq {e : Expr} {p p' : PV} (h : Ev prog w C X A env e p s) (hb : p = p') : Ev prog w C X A env e p' s := hb ▸ h
/-- an if statement, with what holds behind it -/
theorem x_if2 {test : Expr} {body orelse rest : List Stmt} {pos : Pos} {b : Bool} {Q : Flow → Shared → Prop} {E : Value → Shared → Prop} (Mid : Shared → Prop) (ht : Ts prog w C A env test b s)
    (k : ∀ s', Ext prog w noX C s s' → wpAny (model prog w) A (execs (if b then body else orelse) env) (fun f s'' => match f with | .next => Mid s'' | f => Q f s'') E s')
    (h : ∀ s', Mid s' → wpAny (model prog w) A (execs rest env) Q E s') :
    wpAny (model prog w) A (execs (.If test body orelse pos :: rest) env) Q E s := by
  refine x_if ht fun s₁ e₁ => wpAny_mono (k s₁ e₁) (fun f s₂ h₂ => ?_) fun _ _ x => x
  cases f <;> first | exact h s₂ h₂ | exact h₂
end Mine
end
section
open PySem PySem.W PySem.Calls PyProof.Rows
set_option Elab.async false
set_option maxRecDepth 100000
set_option linter.unusedVariables false
namespace Mine
variable {prog : Program} {w : World} {K : Frag} {mb : Str → Option Value} {X Y : Addr → Prop} {C : Mem} {s s' s'' : Shared} {A : Around} {env : Env} {ρ : List (Str × PV)} {n : Nat} {E : Value → Shared → Prop}

noncomputable def Byt (w : World) : Bool := w.params.followText "set-order"
/-- a set of strs -/
noncomputable def SetS (prog : Program) (w : World) (h : Heap) (a : Addr) (l : List Str) : Prop :=
  ∃ o es ep t, h.get? a = some o ∧ o.ExactSet ∧ o.data = .set es ep t ∧ ElemsOf (strKind prog w) es.toList ∧ (∀ x, x ∈ l ↔ ∃ e ∈ es.toList, (strKind prog w).is x e.2 = true)
    ∧ es.size < scanBound ∧ t.fits es.size = true ∧ t.led = (!Byt w) ∧ (es.size ≠ 0 → t.plain = false) ∧ es.size ≤ l.length
theorem SetS.at {h h' : Heap} {a : Addr} {l : List Str} (S : SetS prog w h a l) (k : ∀ o, h.get? a = some o → h'.get? a = some o) : SetS prog w h' a l :=
  let ⟨o, es, ep, t, ho, r⟩ := S; ⟨o, es, ep, t, k _ ho, r⟩
theorem orS_led (t : SetTable) (k : Nat) : (t.orStandIn k).led = t.led ∧ ((t.orStandIn k).plain = true → t.plain = true) := by
  unfold SetTable.orStandIn
  split
  · exact ⟨rfl, id⟩
  · exact ⟨rfl, fun h => by cases h⟩
theorem lay_led (t : SetTable) (es : Array (Int × Value)) (h : Int) (x : Value) : (layNew t es h x).2.1.led = t.led ∧ ((layNew t es h x).2.1.plain = true → t.plain = true) := by
  unfold layNew
  split
  · rename_i slot wd _
    exact orS_led (t.put slot).1 _
  · exact ⟨rfl, fun h => by cases h⟩
theorem relay_led (t : SetTable) (es : Array (Int × Value)) (k : Nat) : (relayAll t es k).2.1.led = t.led ∧ ((relayAll t es k).2.1.plain = true → t.plain = true) := by
  unfold relayAll
  split
  · rename_i t' order hr
    have : t'.led = t.led ∧ t'.plain = t.plain := by
      unfold SetTable.relaid SetTable.laid at hr
      cases hc : SetTable.layClean (SetTable.sizeAbove k - 1) (es.map (·.1)) with
      | none => rw [hc] at hr; cases hr
      | some ow => rw [hc] at hr; cases hr; exact ⟨rfl, rfl⟩
    dsimp only
    split
    · exact ⟨this.1, fun h => by rw [← this.2]; exact h⟩
    · exact ⟨rfl, fun h => by cases h⟩
  · exact ⟨rfl, fun h => by cases h⟩

theorem sets_store {h : Heap} {a : Addr} {o : Obj} {es : Array (Int × Value)} {ep : Nat} {t : SetTable} {l : List Str} (ho : h.get? a = some o) (hex : o.ExactSet) (hd : o.data = .set es ep t)
    {es' : Array (Int × Value)} {t' : SetTable} (hel : ElemsOf (strKind prog w) es'.toList) (hm : ∀ x, x ∈ l ↔ ∃ e ∈ es'.toList, (strKind prog w).is x e.2 = true) (hb : es'.size < scanBound) (hf : t'.fits es'.size = true)
    (hl : t'.led = (!Byt w)) (hp : t'.plain = false) (hz : es'.size ≤ l.length) :
    (h.update a (Obj.putSet es' t')).get? a = some { o with data := .set es' (ep + 1) t' } ∧ SetS prog w (h.update a (Obj.putSet es' t')) a l := by
  have hg : (h.update a (Obj.putSet es' t')).get? a = some { o with data := .set es' (ep + 1) t' } := by
    have := Heap.get?_update_self (Obj.putSet es' t') ho (by rw [putSet_of es' t' hd]; rfl)
    rw [putSet_of es' t' hd] at this; exact this
  exact ⟨hg, _, es', ep + 1, t', hg, hex, rfl, hel, hm, hb, hf, hl, fun _ => hp, hz⟩

theorem sets_add {a : Addr} {l : List Str} {x : Str} {tk : Tok} {Q : Bool → Shared → Prop} (S : SetS prog w s.heap a l) (hroom : l.length + 1 < scanBound)
    (h : ∀ b h', Heap.SameBut a s.heap h' → SetS prog w h' a (l ++ [x]) → Q b { s with heap := h' }) : wpAny (model prog w) A (setAddHashed a (.str x tk) ((strKind prog w).hash x)) Q E s := by
  obtain ⟨o, es, ep, t, ho, hex, hd, hel, hm, hb, hf, hled, hpl, hz⟩ := S
  have hkey := strKind_is prog w x tk
  unfold setAddHashed setAddHashedIn
  refine wpAny_holding (wpAny_bind (wpAny_setState_of ho hd hf ?_))
  dsimp only
  rw [byScan_of (knd := strKind prog w) rfl hb hel]
  simp only [↓reduceIte]
  unfold setAddByScan
  refine wpAny_bind (wpAny_bind (wpAny_rule (wpAny_bind (wpAny_setScan_of hkey ho hd hf hel ?_))))
  cases hr : List.findIdx? (fun e => (strKind prog w).is x e.2) es.toList with
  | some j =>
    dsimp only
    obtain ⟨hj, hpj, _⟩ := List.findIdx?_eq_some_iff_getElem.mp hr
    have hx : x ∈ l := (hm x).mpr ⟨_, List.getElem_mem hj, hpj⟩
    refine wpAny_pure (wpAny_pure ?_)
    have e : s = { s with heap := s.heap } := by cases s; rfl
    rw [e]
    refine h _ s.heap (Heap.SameBut.refl a s.heap) ⟨o, es, ep, t, ho, hex, hd, hel, fun y => ?_, hb, hf, hled, hpl, by simp; (solve_by_elim (maxDepth := 3) [Nat.le_of_lt_succ, Nat.lt_succ_of_le, Nat.lt_succ_of_lt, Nat.le_of_lt, Nat.le_succ_of_le, Nat.pos_of_ne_zero, Nat.ne_of_gt, Nat.ne_of_lt, Nat.zero_le, Nat.le_refl, Nat.lt_succ_self, Nat.sub_le, Nat.le_of_not_lt, Nat.lt_of_not_le, Nat.le_trans, Nat.lt_of_lt_of_le, Nat.lt_of_le_of_lt, Nat.le_antisymm])⟩
    rw [List.mem_append, List.mem_singleton, ← hm y]
    exact ⟨fun q => q.elim id fun q => q ▸ hx, .inl⟩
  | none =>
    dsimp only
    have hperm := layNew_perm t es ((strKind prog w).hash x) (.str x tk)
    have hfits := layNew_fits t es ((strKind prog w).hash x) (.str x tk)
    have hll := lay_led t es ((strKind prog w).hash x) (.str x tk)
    generalize hL : layNew t es ((strKind prog w).hash x) (.str x tk) = L at hperm hfits hll ⊢
    obtain ⟨es1, t1, wasDummy, gave⟩ := L
    dsimp only at hperm hfits hll ⊢
    rw [Array.toList_push] at hperm
    have hel1 : ElemsOf (strKind prog w) es1.toList := (hel.push hkey rfl).perm hperm
    have hm1 : ∀ y, y ∈ l ++ [x] ↔ ∃ e ∈ es1.toList, (strKind prog w).is y e.2 = true := fun y => by
      rw [List.mem_append, List.mem_singleton, hm y]
      constructor
      · rintro (⟨e, he, hp⟩ | rfl)
        · exact ⟨e, hperm.mem_iff.mpr (List.mem_append_left _ he), hp⟩
        · exact ⟨_, hperm.mem_iff.mpr (List.mem_append_right _ (List.mem_singleton.mpr rfl)), hkey⟩
      · rintro ⟨e, he, hp⟩
        rcases List.mem_append.mp (hperm.mem_iff.mp he) with he | he
        · exact .inl ⟨e, he, hp⟩
        · rw [List.mem_singleton] at he; subst he; exact .inr ((strKind prog w).inj _ _ _ hp hkey)
    have hsz1 : es1.size = es.size + 1 := by rw [← Array.length_toList, hperm.length_eq, List.length_append, Array.length_toList]; rfl
    have hb1 : es1.size < scanBound := by omega
    have hz1 : es1.size ≤ (l ++ [x]).length := by simp; omega
    have hgw : ∀ (b : Bool) {s₁ : Shared} {Q' : Unit → Shared → Prop}, Q' () s₁ → wpAny (model prog w) A (match b with | true => rule "set.scan.the-table-gave-way" | false => pure ()) Q' E s₁ :=
      fun b s₁ Q' hq => by cases b <;> first | exact wpAny_pure hq | exact wpAny_rule hq
    refine wpAny_bind (hgw _ ?_)
    have tail : ∀ t2 : SetTable, t2.fits es1.size = true → t2.led = (!Byt w) → t2.plain = false → wpAny (model prog w) A (do
        storeSet a es1 t2
        if (!wasDummy && t2.tooFull) = true then do
            (match (relayAll t2 es1 (SetTable.grown es1.size)).2.2 with | true => rule "set.scan.the-table-gave-way" | false => pure ())
            storeSet a (relayAll t2 es1 (SetTable.grown es1.size)).1 (relayAll t2 es1 (SetTable.grown es1.size)).2.1
            pure (some true)
          else pure (some true)) (fun (r : Option Bool) s' => ∃ h', r = some true ∧ s' = { s with heap := h' } ∧ Heap.SameBut a s.heap h' ∧ SetS prog w h' a (l ++ [x])) E s := fun t2 hf2 hl2 hp2 => by
      refine wpAny_bind (wpAny_storeSet_of ho hd ?_ (fits_of_scanBound hb1))
      refine Mine.el0b (sets_store (prog := prog) (w := w) ho hex hd hel1 hm1 hb1 hf2 hl2 hp2 hz1) fun ho1 hS1 => ?_
      have hsb1 := Heap.SameBut.update s.heap a (Obj.putSet es1 t2)
      split
      · have hp := relayAll_perm t2 es1 (SetTable.grown es1.size)
        have hfr := relayAll_fits t2 es1 (SetTable.grown es1.size)
        have hlr := relay_led t2 es1 (SetTable.grown es1.size)
        generalize hRl : relayAll t2 es1 (SetTable.grown es1.size) = Rl at hp hfr hlr ⊢
        obtain ⟨es2, t3, gave2⟩ := Rl
        dsimp only at hp hfr hlr ⊢
        have hsz : es2.size = es1.size := by (refine Mine.rwl (Array.length_toList).symm ?_; refine Mine.rwl hp.length_eq ?_; refine Mine.rwl Array.length_toList ?_; try with_reducible rfl)
        refine wpAny_bind (hgw _ (wpAny_bind (wpAny_storeSet_of ho1 rfl ?_ (fits_of_scanBound (by omega)))))
        obtain ⟨_, hS2⟩ := sets_store (prog := prog) (w := w) (l := l ++ [x]) ho1 hex rfl (hel1.perm hp) (fun y => (hm1 y).trans ⟨fun ⟨e, he, q⟩ => ⟨e, hp.mem_iff.mpr he, q⟩, fun ⟨e, he, q⟩ => ⟨e, hp.mem_iff.mp he, q⟩⟩) (by omega) hfr (hlr.1.trans hl2)
          (by cases hq : t3.plain with | false => rfl | true => rw [← hp2, hlr.2 hq]) (by omega)
        exact wpAny_pure ⟨_, rfl, rfl, hsb1.trans (Heap.SameBut.update _ a _), hS2⟩
      · exact wpAny_pure ⟨_, rfl, rfl, hsb1, hS1⟩
    split
    · rename_i hpl1
      refine wpAny_bind ?_
      rw [hashByValue_scannable 8 (x := .str x tk) rfl]
      refine wpAny_pure (wpAny_mono (tail { t1 with plain := false } (SetTable.fits_plain_off hfits) (hll.1.trans hled) rfl) (fun r s' hr => ?_) fun _ _ q => q)
      (refine Mine.el1d hr fun h' hq1 hq2 hsb hS => ?_; try clear hr; obtain rfl := hq1; obtain rfl := hq2)
      exact wpAny_pure (h _ _ hsb hS)
    · rename_i hpl1
      refine wpAny_bind (wpAny_pure ?_)
      simp only [↓reduceIte]
      refine wpAny_mono (tail t1 hfits (hll.1.trans hled) (by simpa using hpl1)) (fun r s' hr => ?_) fun _ _ q => q
      (refine Mine.el1d hr fun h' hq3 hq4 hsb hS => ?_; try clear hr; obtain rfl := hq3; obtain rfl := hq4)
      exact wpAny_pure (h _ _ hsb hS)
end Mine
end
section
open PySem PySem.W PySem.Calls PyProof.Rows
set_option Elab.async false
set_option maxRecDepth 100000
set_option linter.unusedVariables false
namespace Mine
variable {prog : Program} {w : World} {K : Frag} {mb : Str → Option Value} {X Y : Addr → Prop} {C : Mem} {s s' s'' : Shared} {A : Around} {env : Env} {ρ : List (Str × PV)} {n : Nat} {E : Value → Shared → Prop}

/-- the loop that fills a set from an iterator over strs -/
theorem set_fill {I : Addr} {fp wr : List Addr} {P : Nat → Value → Prop} {St : Nat → Heap → Prop} {l : List Str} {R : Result → Shared → Prop} (W : Walks prog w A.in1 I fp wr l.length P St) (a : Addr) (haf : a ∉ fp)
    (hP : ∀ i v, P i v → ∃ x t, l[i]? = some x ∧ v = .str x t) (hb : l.length + 1 < scanBound) :
    ∀ (k i : Nat) (s : Shared), l.length - i = k → i ≤ l.length → St i s.heap → SetS prog w s.heap a (l.take i) →
      (∀ h' tk, (∀ b o, b ∉ a :: wr → s.heap.get? b = some o → h'.get? b = some o) → SetS prog w h' a l → R (.ok (.ret .none)) { s with heap := h', toks := tk }) →
      codeAny (model prog w) A (.builtin "set.update.loop" ⟨[.ref a, .ref I], []⟩) R s := by
  have haw : a ∉ wr := fun h => haf (W.sub _ h)
  intro k; try k_fold
  induction k with
  | zero =>
    intro i s hk hi hst hS hR; try k_fold
    have hin : i = l.length := by omega
    subst hin
    rw [List.take_length] at hS
    refine codeAny_builtin PyProof.Rows.F.entry_set_update_loop ?_; try k_fold
    rw [Around.under_plainId PyProof.Rows.F.plain_set_update_loop _]
    show wpAny _ A.in1 (pyNext (.ref I) >>= _) _ _ s
    refine wpAny_bind (W.done s _ _ hst fun h' tk hm => ?_)
    show wpAny _ A.in1 (ret Value.none) _ _ _
    exact wpAny_pure (hR h' tk (fun b o hb e => hm b o (fun q => hb (List.mem_cons_of_mem _ q)) e) (hS.at fun o e => hm a o haw e))
  | succ k ih =>
    intro i s hk hi hst hS hR; try k_fold
    have hlt : i < l.length := by omega
    refine codeAny_builtin PyProof.Rows.F.entry_set_update_loop ?_; try k_fold
    rw [Around.under_plainId PyProof.Rows.F.plain_set_update_loop _]
    show wpAny _ A.in1 (pyNext (.ref I) >>= _) _ _ s
    refine wpAny_bind (W.item i s _ _ hlt hst fun v h₁ tk₁ hPv hst₁ hm => ?_)
    (refine Mine.el2b (hP i v hPv) fun x t hx hq1 => ?_; obtain rfl := hq1)
    have hS₁ : SetS prog w h₁ a (l.take i) := hS.at fun o e => hm a o haw e
    show wpAny _ A.in1 (holding [Value.str x t] (setAdd a (.str x t)) >>= _) _ _ _
    refine wpAny_bind (wpAny_holding ?_)
    unfold setAdd
    refine wpAny_holding (wpAny_bind ((strKind prog w).pyHash (k := x) (strKind_is _ _ _ _) ?_))
    refine sets_add (s := { s with heap := h₁, toks := tk₁ + 1 }) (l := l.take i) hS₁ (by rw [List.length_take]; omega) fun b h₂ hsb hS₂ => ?_; try k_fold
    have htk : l.take i ++ [x] = l.take (i + 1) := by rw [List.take_add_one, hx]; rfl
    rw [htk] at hS₂
    refine wpAny_pure ⟨plainId_quiet PyProof.Rows.F.plain_set_update_loop _, ih (i + 1) _ (by omega) hlt (W.frame _ h₁ _ hst₁ fun b hb o e => ?_) hS₂ fun h₃ tk₃ hm₃ hS₃ => ?_⟩
    · show h₂.get? b = _
      rw [hsb.2 b (fun q => haf (q ▸ hb))]; exact e
    · refine hR h₃ tk₃ (fun b o hb e => hm₃ b o hb ?_) hS₃
      show h₂.get? b = _
      rw [hsb.2 b (fun q => hb (by rw [q]; exact List.mem_cons_self))]
      exact hm b o (fun q => hb (List.mem_cons_of_mem _ q)) e

theorem code_new1 (a : Value) {Q₁ : Value → Shared → Prop}
    (h : Q₁ (.ref s.heap.objs.size) { s with heap := s.heap.push { cls := .type "set", dict := none, data := .set #[] 0 (.fresh 0 0 (!Byt w)) } }) :
    codeAny (model prog w) A (.call (.builtin "set.__new__") ⟨[.type "set", a], []⟩) (wants Q₁ E) s := by
  refine codeAny_of_tree ?_
  show wpAny _ A.in1 (do checkBuiltinCall "set.__new__" ⟨[.type "set", a], []⟩; again (.builtin "set.__new__" ⟨[.type "set", a], []⟩)) _ _ s
  refine wpAny_bind (wpAny_of_eq (PySem.F.newCall_set_1 a) (wpAny_pure ⟨plainId_quiet PySem.F.plain_set_new _, codeAny_builtin PySem.F.entry_set_new ?_⟩))
  rw [Around.under_plainId PySem.F.plain_set_new _]
  unfold Builtin.«set.__new__» Builtin.Frozenset.newClass
  have hsub := sub_set_self
  obtain ⟨hp, g, d, tk, os⟩ := s
  dsimp only
  wp_walk
  refine wpAny_askSetting (wpAny_pure ?_)
  dsimp only
  simp only [newObj]
  refine wpAny_bind (wpAny_alloc (wpAny_pure ?_))
  exact wpAny_pure h

set_option maxHeartbeats 3200000 in
theorem call_set1 {d : Addr} {items : Array Value} {l : List Str} {Q : Value → Shared → Prop} (hh : A.handled = none) (hl : s.heap.IsList d items) (hi : ∀ (i : Nat) (v : Value), items[i]? = some v → ∃ (x : Str) (t : Tok), l[i]? = some x ∧ v = .str x t) (hlen : items.size = l.length) (hb : l.length + 1 < scanBound)
    (h : ∀ (h' : Heap) (tk : Nat), SetS prog w h' s.heap.objs.size l → (∀ b o, b < s.heap.objs.size → s.heap.get? b = some o → h'.get? b = some o) → Q (.ref s.heap.objs.size) { s with heap := h', toks := tk }) :
    wpAny (model prog w) A (call (.type "set") [.ref d]) Q E s := by
  refine Mine.el2a PySem.F.called_set.mro fun c tl hmro => ?_; try k_fold
  have hmade := PySem.F.called_set.made
  have hsub := PySem.F.called_set.sub
  refine wpAny_call (codeAny_of_tree ?_)
  show wpAny _ _ (callAny (.type "set") _) _ _ _
  refine wpAny_pure ⟨Code.quiet_builtin _ (by decide +kernel), codeAny_builtin PySem.F.entry_type_call ?_⟩
  rw [Around.under_plain (weight_type_call_type "set" [.ref d] []) rfl]
  have h1 := PySem.F.called_set.notType
  have h2 := PySem.F.called_set.canCreate
  have hct := PySem.F.typeCall_set_1 (.ref d)
  repeat (any_goals (first | assumption | wp_step))
  generalize hso : ({ cls := .type "set", dict := none, data := .set #[] 0 (.fresh 0 0 (!Byt w)) } : Obj) = so
  refine codeAny_mono (code_new1 (.ref d) (E := E) (Q₁ := fun obj s₁ => obj = .ref s.heap.objs.size ∧ s₁ = { s with heap := s.heap.push so }) ⟨rfl, by rw [hso]⟩) fun r s₁ hr => ?_; try k_fold
  cases r with
  | error e => exact hr
  | ok fl =>
    cases fl with
    | ret obj =>
      (refine Mine.el0b hr fun hq2 hq3 => ?_; try clear hr; obtain rfl := hq2; obtain rfl := hq3)
      have hS : (s.heap.push so).get? s.heap.objs.size = some so := Heap.get?_push_size _ (by subst hso; rfl)
      have hT : Shared.TypeIs { s with heap := s.heap.push so } (.ref s.heap.objs.size) "set" := ⟨_, hS, by subst hso; rfl⟩
      have hli := PySem.F.called_set.init.lookup
      have hbi := PySem.F.called_set.init.bind (.ref s.heap.objs.size)
      repeat (any_goals (first | assumption | wp_step))
      refine codeAny_mono (codeAny_call_builtin (R := wants (fun r s₂ => r = .none ∧ ∃ h' tk, s₂ = { s with heap := h', toks := tk } ∧ SetS prog w h' s.heap.objs.size l ∧
          (∀ b o, b < s.heap.objs.size → s.heap.get? b = some o → h'.get? b = some o)) E) PySem.F.called_set.init.plain PySem.F.entry_set_init (check_set_init_1 hT ?_)) fun r₂ s₂ hr₂ => ?_
      · obtain ⟨ol, hol, hcl, nl, hdl⟩ := hl
        obtain ⟨ocls, odict, odata, oslots⟩ := ol
        simp only at hcl hdl
        subst hcl; subst hdl
        have hol' : (s.heap.push so).get? d = some { cls := .type "list", dict := odict, data := .seq items nl, slots := oslots } := Heap.get?_push_of_some _ hol
        have hsls := PySem.F.sub_list_set
        have hslf := PySem.F.sub_list_frozenset
        have hne : (Value.type "list" == Value.type "dict") = false := by decide
        have hl1 : (s.heap.push so).IsList d items := ⟨_, hol', rfl, nl, rfl⟩
        subst hso
        unfold Builtin.«set.__init__» noKeywords Builtin.Frozenset.updateFrom
        generalize hPI : pyIter = PI
        wp_walk
        subst hPI
        refine wpAny_pyIter_list hl1 ?_; try k_fold
        refine wpAny_bind (wpAny_runValue ?_)
        generalize hso : ({ cls := .type "set", dict := none, data := .set #[] 0 (.fresh 0 0 (!Byt w)) } : Obj) = so at hS hT hol' hl1 ⊢
        have hlS : d < s.heap.objs.size := Heap.lt_size hol
        have hh3 : A.in1.in1.in1.handled = none := by simp [hh]
        have hneI : d ≠ (s.heap.push so).objs.size := by
          rw [Heap.size_push]; exact Nat.ne_of_lt (Nat.lt_succ_of_lt hlS)
        have hSf : s.heap.objs.size ∉ [(s.heap.push so).objs.size, d] := by
          rw [Heap.size_push]; simp only [List.mem_cons, List.mem_singleton, List.not_mem_nil, or_false, not_or]
          exact ⟨Nat.ne_of_lt (Nat.lt_succ_self _), Nat.ne_of_gt hlS⟩
        have hW := Walks.list (prog := prog) (w := w) hh3 (s.heap.push so).objs.size d hneI items
        rw [hlen] at hW
        refine set_fill hW s.heap.objs.size hSf hi hb (l.length - 0) 0 _ (by omega) (Nat.zero_le _) ⟨⟨_, Heap.get?_push_size _ rfl, rfl, rfl⟩, (hl1.push _)⟩ ?_ ?_
        · refine ⟨so, #[], 0, .fresh 0 0 (!Byt w), Heap.get?_push_of_some _ hS, ?_, ?_, fun e he => by simp at he, fun x => by simp, by decide, rfl, rfl, fun q => (q rfl).elim, Nat.zero_le _⟩
          · subst hso; exact ⟨rfl, rfl, rfl⟩
          · subst hso; rfl
        · intro h' tk' hm hS'; try k_fold
          show wpAny _ _ _ _ _ _
          refine wpAny_pure ?_; try k_fold
          show wpAny _ _ (ret Value.none) _ _ _
          refine wpAny_pure ⟨rfl, h', tk', rfl, hS', fun b o hb e => ?_⟩
          have hb1 : b ≠ s.heap.objs.size := Nat.ne_of_lt hb
          have hb2 : b ≠ (s.heap.push so).objs.size := by
            rw [Heap.size_push]; exact Nat.ne_of_lt (Nat.lt_succ_of_lt hb)
          exact hm b o (by simp only [List.mem_cons, List.mem_singleton, List.not_mem_nil, or_false, not_or]; exact ⟨hb1, hb2⟩) (Heap.get?_push_of_some _ (Heap.get?_push_of_some _ e))
      · cases r₂ with
        | error e => exact hr₂
        | ok fl₂ =>
          cases fl₂ with
          | ret r =>
            obtain ⟨rfl, h', tk, rfl, hS', hk'⟩ := hr₂
            repeat (any_goals (first | assumption | wp_step))
            exact h _ _ hS' hk'
          | _ => exact hr₂.elim
    | _ => exact hr.elim
end Mine
end
section
open PySem PySem.W PySem.Calls PyProof.Rows
set_option Elab.async false
set_option maxRecDepth 100000
set_option linter.unusedVariables false
namespace Mine
variable {prog : Program} {w : World} {K : Frag} {mb : Str → Option Value} {X Y : Addr → Prop} {C : Mem} {s s' s'' : Shared} {A : Around} {env : Env} {ρ : List (Str × PV)} {n : Nat} {E : Value → Shared → Prop}

theorem erase_perm {α : Type} {l : List α} {i : Nat} (h : i < l.length) : (l[i] :: l.eraseIdx i).Perm l := by
  have h2 : l = l.take i ++ l[i] :: l.drop (i + 1) := by rw [← List.drop_eq_getElem_cons h, List.take_append_drop]
  rw [List.eraseIdx_eq_take_drop_succ]
  refine List.Perm.trans (List.perm_middle).symm ?_
  exact .of_eq h2.symm
theorem wpAny_choose {src : Source} {k : Nat} {Q : Nat → Shared → Prop} (hk : k ≠ 0) (h : ∀ i d, i < k → Q i { s with drawn := d }) : wpAny (model prog w) A (choose src k) Q E s := fun Γ p _ => by
  show Sem.wp _ _ (Sem.choose src k Sem.pure) _ _ _ _
  rw [Sem.wp_choose]
  refine ⟨hk, ?_⟩
  exact h _ _ (Nat.mod_lt _ (Nat.pos_of_ne_zero hk))
theorem wpAny_drawOrder {α : Type} : ∀ (k : Nat) (xs : List α) (s : Shared) (Q : List α → Shared → Prop), xs.length ≤ k → (∀ l d, l.Perm xs → Q l { s with drawn := d }) → wpAny (model prog w) A (drawOrder k xs) Q E s
  | 0, xs, s, Q, hk, h => by
    have : xs = [] := List.length_eq_zero_iff.mp (by omega)
    subst this
    exact wpAny_pure (by have := h [] s.drawn (.refl _); exact this)
  | k + 1, [], s, Q, hk, h => wpAny_pure (by have := h [] s.drawn (.refl _); exact this)
  | k + 1, x :: xs, s, Q, hk, h => by
    show wpAny _ A (choose .order (x :: xs).length >>= _) _ _ _
    refine wpAny_bind (wpAny_choose (by simp) fun i d hi => ?_)
    rw [List.getElem?_eq_getElem hi]
    refine wpAny_bind (wpAny_drawOrder k _ _ _ (by rw [List.length_eraseIdx_of_lt hi]; simp at hk ⊢; (assumption)) fun l d' hl => wpAny_pure (h _ _ ?_))
    exact (hl.cons _).trans (erase_perm hi)

theorem pickGo_perm {α : Type} (next : Nat → Nat) : ∀ (fuel k : Nat) (left : List α) (out : Array α), fuel = left.length → (pickOrder.go next fuel k left out).toList.Perm (out.toList ++ left)
  | 0, k, left, out, h => by
    have : left = [] := List.length_eq_zero_iff.mp h.symm
    subst this; simp [pickOrder.go]
  | fuel + 1, k, left, out, h => by
    have hp : 0 < left.length := by omega
    have hi := Nat.mod_lt (next k) hp
    rw [pickOrder.go, List.getElem?_eq_getElem hi]
    dsimp only
    refine (pickGo_perm next fuel (k + 1) _ _ (by rw [List.length_eraseIdx_of_lt hi]; omega)).trans ?_
    rw [Array.toList_push, List.append_assoc]
    exact List.Perm.append_left _ (erase_perm hi)
theorem pick_perm {α : Type} (next : Nat → Nat) (xs : Array α) : (pickOrder next xs).toList.Perm xs.toList := by
  have := pickGo_perm next xs.size 0 xs.toList #[] (by simp)
  rw [List.nil_append] at this
  exact this

noncomputable def SetAt (h : Heap) (a : Addr) (es : Array (Int × Value)) (ep : Nat) (t : SetTable) : Prop := ∃ o, h.get? a = some o ∧ o.ExactSet ∧ o.data = .set es ep t
noncomputable def ItAt (h : Heap) (I : Addr) (f : Value) (i : Nat) (a : Addr) (k ep : Nat) : Prop := ∃ o, h.get? I = some o ∧ o.cls = .type "set_iterator" ∧ o.data = .fields #[f, .int i 0, .ref a, .int k 0, .int ep 0]

theorem slot_setiter_next : Slot "set_iterator" "__next__" "set_iterator.__next__" :=
  .of (owner := "set_iterator") (n := "__next__") (by rw [typeLookup_type, builtinLookup_eq_fast]; kernel_rfl) (by decide +kernel) (by decide +kernel) (by decide +kernel)
    (by first | exact .inl (by decide +kernel) | exact .inr (by decide +kernel)) (by rw [isSubtype_type]; kernel_rfl)
theorem slot_setiter_iter : Slot "set_iterator" "__iter__" "set_iterator.__iter__" :=
  .of (owner := "set_iterator") (n := "__iter__") (by rw [typeLookup_type, builtinLookup_eq_fast]; kernel_rfl) (by decide +kernel) (by decide +kernel) (by decide +kernel)
    (by first | exact .inl (by decide +kernel) | exact .inr (by decide +kernel)) (by rw [isSubtype_type]; kernel_rfl)
theorem entry_setiter_next : entryFor table "set_iterator.__next__" = some Builtin.«set_iterator.__next__» := entryFor_of_tree (by kernel_rfl)
theorem entry_setiter_iter : entryFor table "set_iterator.__iter__" = some Builtin.«dict_keyiterator.__iter__» :=
  entryFor_alias (id' := "dict_keyiterator.__iter__") (by kernel_rfl) rfl (by decide +kernel) (by kernel_rfl)
theorem entry_set_iter : entryFor table "set.__iter__" = some Builtin.«frozenset.__iter__» :=
  entryFor_alias (id' := "frozenset.__iter__") (by kernel_rfl) rfl (by decide +kernel) (by kernel_rfl)
theorem args_setiter_next (a : Value) : argsOk "set_iterator.__next__" ⟨[a], []⟩ := by unfold argsOk; kernel_rfl
theorem args_setiter_iter (a : Value) : argsOk "set_iterator.__iter__" ⟨[a], []⟩ := by unfold argsOk; kernel_rfl

theorem setNext_eq (a : Addr) (slot i ep : Nat) : setNext a slot i ep = (do
    let (es, epoch, t) ← setState a
    if ← setsByText then
      if epoch != ep then unsupported "set_iterator.__next__:elements-changed"
      return ((← setWalk a)[i]?).map fun e => (e.2, slot)
    if !t.plain && es.size > 1 then unsupported "set_iterator.__next__:the-table-is-plain-no-more"
    let _ ← (do if !t.led && !es.isEmpty then unsupported "set:maker-not-led" : Sem Unit)
    let j := SetTable.below t.place slot
    return match es[j]?, t.place[j]? with
      | some (_, x), some p => some (x, p + 1)
      | _, _ => none) := rfl
theorem setWalk_eq (a : Addr) : setWalk a = (do
    let (es, epoch, t) ← setState a
    if ← setsByText then return pickOrder ((← ask).params.setOrder a epoch) es
    if !t.plain && es.size > 1 then return (← drawOrder es.size es.toList).toArray
    let _ ← (do if !t.led && es.size > 1 then unsupported "set:maker-not-led" : Sem Unit)
    return es) := rfl
theorem setDrawn_eq (a : Addr) : setDrawn a = (do
    let (es, _, t) ← setState a
    let byText ← setsByText
    return !byText && (!t.plain && es.size > 1)) := rfl
theorem wpAny_byText {Q : Bool → Shared → Prop} (h : Q (Byt w) s) : wpAny (model prog w) A setsByText Q E s := wpAny_bind (wpAny_askSetting (wpAny_pure h))

theorem next_text {a : Addr} {es : Array (Int × Value)} {ep slot i : Nat} {t : SetTable} {Q : Option (Value × Nat) → Shared → Prop} (hw : Byt w = true) (S : SetAt s.heap a es ep t) (hf : t.fits es.size = true)
    (h : Q (((pickOrder (w.params.setOrder a ep) es)[i]?).map fun e => (e.2, slot)) s) : wpAny (model prog w) A (setNext a slot i ep) Q E s := by
  (refine Mine.el1c S fun o ho hex hd => ?_; try clear S)
  rw [setNext_eq]
  refine wpAny_bind (wpAny_setState_of ho hd hf (wpAny_bind (wpAny_byText ?_)))
  rw [hw]
  dsimp only
  rw [if_pos rfl, if_neg (by simp)]
  rw [setWalk_eq]
  refine wpAny_bind (wpAny_bind (wpAny_setState_of ho hd hf (wpAny_bind (wpAny_byText ?_))))
  rw [hw, if_pos rfl]
  exact wpAny_bind (wpAny_askSetting (wpAny_pure (wpAny_pure h)))
theorem next_one {a : Addr} {es : Array (Int × Value)} {ep slot i : Nat} {t : SetTable} {Q : Option (Value × Nat) → Shared → Prop} (hw : Byt w = false) (S : SetAt s.heap a es ep t) (hf : t.fits es.size = true) (h1 : es.size ≤ 1) (hl : es.size ≠ 0 → t.led = true)
    (h : Q (match es[SetTable.below t.place slot]?, t.place[SetTable.below t.place slot]? with | some (_, x), some p => some (x, p + 1) | _, _ => none) s) : wpAny (model prog w) A (setNext a slot i ep) Q E s := by
  (refine Mine.el1c S fun o ho hex hd => ?_; try clear S)
  rw [setNext_eq]
  refine wpAny_bind (wpAny_setState_of ho hd hf (wpAny_bind (wpAny_byText ?_)))
  rw [hw]
  dsimp only
  have h2 : decide (es.size > 1) = false := decide_eq_false (by omega)
  have h3 : (!t.led && !es.isEmpty) = false := by
    cases hq : t.led with
    | true => rfl
    | false =>
      have : es.size = 0 := by
        rcases Nat.eq_zero_or_pos es.size with h | h
        · exact h
        · rw [hl (by (solve_by_elim (maxDepth := 3) [Nat.le_of_lt_succ, Nat.lt_succ_of_le, Nat.lt_succ_of_lt, Nat.le_of_lt, Nat.le_succ_of_le, Nat.pos_of_ne_zero, Nat.ne_of_gt, Nat.ne_of_lt, Nat.zero_le, Nat.le_refl, Nat.lt_succ_self, Nat.sub_le, Nat.le_of_not_lt, Nat.lt_of_not_le, Nat.le_trans, Nat.lt_of_lt_of_le, Nat.lt_of_le_of_lt, Nat.le_antisymm]))] at hq; cases hq
      simp [Array.isEmpty, this]
  rw [if_neg (by decide), h2, Bool.and_false, if_neg (by decide), h3]
  exact wpAny_bind (wpAny_pure (wpAny_pure h))
end Mine
end
section
open PySem PySem.W PySem.Calls PyProof.Rows
set_option Elab.async false
set_option maxRecDepth 100000
set_option linter.unusedVariables false
namespace Mine
variable {prog : Program} {w : World} {K : Frag} {mb : Str → Option Value} {X Y : Addr → Prop} {C : Mem} {s s' s'' : Shared} {A : Around} {env : Env} {ρ : List (Str × PV)} {n : Nat} {E : Value → Shared → Prop}

theorem ItAt.typeIs {I a : Addr} {f : Value} {i k ep : Nat} (h : ItAt s.heap I f i a k ep) : s.TypeIs (.ref I) "set_iterator" := let ⟨o, ho, hc, _⟩ := h; ⟨o, ho, hc⟩
theorem ItAt.at {h h' : Heap} {I a : Addr} {f : Value} {i k ep : Nat} (x : ItAt h I f i a k ep) (e : ∀ o, h.get? I = some o → h'.get? I = some o) : ItAt h' I f i a k ep := let ⟨o, ho, r⟩ := x; ⟨o, e _ ho, r⟩
theorem SetAt.at {h h' : Heap} {a : Addr} {es : Array (Int × Value)} {ep : Nat} {t : SetTable} (x : SetAt h a es ep t) (e : ∀ o, h.get? a = some o → h'.get? a = some o) : SetAt h' a es ep t := let ⟨o, ho, r⟩ := x; ⟨o, e _ ho, r⟩

/-- what the step of the iterator does, up to the choice of its road -/
theorem set_next {I a : Addr} {f : Value} {i : Nat} {es : Array (Int × Value)} {ep : Nat} {t : SetTable} {Q : Option Value → Shared → Prop} (hit : ItAt s.heap I f i a es.size ep) (S : SetAt s.heap a es ep t) (hf : t.fits es.size = true)
    (body : wpAny (model prog w) A.in1 (if let .int slot _ := f then (do
        match ← setNext a slot.toNat i ep with
        | some (x, next) =>
          setField (.ref I) 0 (rawInt next)
          setField (.ref I) 1 (rawInt (i + 1))
          ret x
        | none => setField (.ref I) 2 .none; raiseNew (← newExc (.type "StopIteration") []))
      else (do
        let some places ← seqItems? f | unsupported "internal:set_iterator"
        match places[i]? with
        | some (.int place _) =>
          let x ← setNextDrawn a place.toNat ep
          setField (.ref I) 1 (rawInt (i + 1))
          ret x
        | some _ => unsupported "internal:set_iterator"
        | none => setField (.ref I) 0 (rawInt 0); setField (.ref I) 2 .none; raiseNew (← newExc (.type "StopIteration") []))) 
      (fun r s' => ∃ v, r = .done (.ret v) ∧ Q (some v) s') (fun e s' => s'.TypeIs e "StopIteration" ∧ Q none s') s) :
    wpAny (model prog w) A (pyNext (.ref I)) Q E s := by
  refine Mine.el1c (id hit) fun o ho hc hd => ?_
  refine Mine.el1c (id S) fun os hos hexs hds => ?_
  unfold pyNext
  refine wpAny_bind (wpAny_attempt (wpAny_callSpecial?_slot (name := Str.ofString "__next__") hit.typeIs slot_setiter_next
    (wpAny_call_entry slot_setiter_next hit.typeIs entry_setiter_next ?_ (args_setiter_next _))))
  show wpAny _ _ (fieldsOf (.ref I) >>= _) _ _ s
  refine wpAny_bind (wpAny_fieldsOf ho hd ?_)
  show wpAny _ _ (setEntries a >>= _) _ _ s
  refine wpAny_bind (wpAny_setEntries_of hos hds hf ?_)
  dsimp only
  rw [if_neg (by simp)]
  simp only [Int.toNat_natCast]
  refine wpAny_mono body (fun r s' hr => ?_) fun e s' hr => ?_
  · (refine Mine.el1b hr fun v hq1 hq => ?_; try clear hr; obtain rfl := hq1)
    exact ⟨v, rfl, wpAny_pure hq⟩
  · exact wpAny_bind (wpAny_isInstance (T := "StopIteration") (b := true) hr.1 isSubtype_stop (wpAny_pure hr.2))

theorem stop_now {Q : Fin → Shared → Prop} {N : Shared → Prop} (hh : A.handled = none) (hq : ∀ h', (∀ b o, s.heap.get? b = some o → h'.get? b = some o) → N { s with heap := h' }) :
    wpAny (model prog w) A (do raiseNew (← newExc (.type "StopIteration") [])) Q (fun e s' => s'.TypeIs e "StopIteration" ∧ N s') s := by
  refine wpAny_bind ?_; try k_fold
  simp only [newExc, newTuple]
  refine wpAny_bind (wpAny_newObj_type ?_ (by size_fits))
  refine wpAny_bind (m := firstArgMember _ _) (wpAny_of_eq (a := Value.none) (by first | rfl | (simp only [firstArgMember]; rfl)) ?_)
  refine wpAny_newObj_type ?_ (by size_fits)
  simp only [raiseNew]
  refine wpAny_bind (wpAny_handled ?_)
  rw [hh]
  refine wpAny_bind (wpAny_pure (wpAny_throw ⟨⟨_, Heap.get?_push_size _ rfl, rfl⟩, hq _ fun b o e => Heap.get?_push_of_some _ (Heap.get?_push_of_some _ e)⟩))

theorem set_item_slot {I a : Addr} {slot nx i : Nat} {u : Tok} {x : Value} {es : Array (Int × Value)} {ep : Nat} {t : SetTable} {Q : Option Value → Shared → Prop} (hit : ItAt s.heap I (.int slot u) i a es.size ep) (S : SetAt s.heap a es ep t) (hf : t.fits es.size = true)
    (hn : ∀ (Q : Option (Value × Nat) → Shared → Prop) (E : Value → Shared → Prop), Q (some (x, nx)) s → wpAny (model prog w) A.in1 (setNext a slot i ep) Q E s)
    (hQ : ∀ h', ItAt h' I (.int nx 0) (i + 1) a es.size ep → Heap.SameBut I s.heap h' → Q (some x) { s with heap := h' }) : wpAny (model prog w) A (pyNext (.ref I)) Q E s := by
  refine set_next hit S hf ?_; try k_fold
  dsimp only
  simp only [Int.toNat_natCast]
  refine wpAny_bind (hn _ _ ?_)
  dsimp only
  (refine Mine.el1c hit fun o ho hc hd => ?_; try clear hit)
  refine wpAny_bind (wpAny_setField ho hd (by simp) ?_)
  have ho1 := Heap.get?_update_self (Obj.mapFields (·.setIfInBounds 0 (rawInt nx))) ho (Obj.isFreed_of_fields (Obj.data_mapFields hd _))
  have hd1 := Obj.data_mapFields hd (·.setIfInBounds 0 (rawInt nx))
  refine wpAny_bind (wpAny_setField ho1 hd1 (by simp) (wpAny_pure ⟨x, rfl, hQ _ ?_ ((Heap.SameBut.update ..).trans (Heap.SameBut.update ..))⟩))
  exact ⟨_, Heap.get?_update_self _ ho1 (Obj.isFreed_of_fields (Obj.data_mapFields hd1 _)), (Obj.cls_mapFields ..).trans ((Obj.cls_mapFields ..).trans hc), by
    rw [Obj.data_mapFields hd1]; simp [rawInt]⟩
theorem set_end_slot {I a : Addr} {slot i : Nat} {u : Tok} {es : Array (Int × Value)} {ep : Nat} {t : SetTable} {Q : Option Value → Shared → Prop} (hh : A.handled = none) (hit : ItAt s.heap I (.int slot u) i a es.size ep) (S : SetAt s.heap a es ep t) (hf : t.fits es.size = true)
    (hn : ∀ (Q : Option (Value × Nat) → Shared → Prop) (E : Value → Shared → Prop), Q none s → wpAny (model prog w) A.in1 (setNext a slot i ep) Q E s)
    (hQ : ∀ h', Heap.ExtBut I s.heap h' → Q none { s with heap := h' }) : wpAny (model prog w) A (pyNext (.ref I)) Q E s := by
  refine set_next hit S hf ?_
  dsimp only
  simp only [Int.toNat_natCast]
  refine wpAny_bind (hn _ _ ?_)
  dsimp only
  (refine Mine.el1c hit fun o ho hc hd => ?_; try clear hit)
  refine wpAny_bind (wpAny_setField ho hd (by simp) ?_)
  exact stop_now (by simpa using hh) fun h' hk => hQ h' fun b o hb e => hk b o ((Heap.SameBut.update ..).extBut b o hb e)
theorem set_item_drawn {I a T : Addr} {places : Array Value} {m i pl : Nat} {u : Tok} {x : Value} {es : Array (Int × Value)} {ep : Nat} {t : SetTable} {Q : Option Value → Shared → Prop} (hit : ItAt s.heap I (.ref T) i a es.size ep) (S : SetAt s.heap a es ep t) (hf : t.fits es.size = true) (hT : s.heap.IsTuple T places)
    (hp : places[i]? = some (.int pl u)) (hx : es[pl]?.map (·.2) = some x)
    (hQ : ∀ h', ItAt h' I (.ref T) (i + 1) a es.size ep → Heap.SameBut I s.heap h' → Q (some x) { s with heap := h' }) : wpAny (model prog w) A (pyNext (.ref I)) Q E s := by
  refine set_next hit S hf ?_; try k_fold
  dsimp only
  obtain ⟨oT, hoT, _, nT, hdT⟩ := hT
  refine wpAny_bind (wpAny_seqItems hoT hdT ?_)
  dsimp only
  rw [hp]
  dsimp only
  (refine Mine.el1c hit fun o ho hc hd => ?_; try clear hit)
  refine Mine.el1c (id S) fun os hos hexs hds => ?_; try k_fold
  refine wpAny_bind ?_; try k_fold
  unfold setNextDrawn
  refine wpAny_bind (wpAny_setState_of hos hds hf ?_)
  dsimp only
  rw [if_neg (by simp), Int.toNat_natCast]
  obtain ⟨e, he, rfl⟩ : ∃ e, es[pl]? = some e ∧ e.2 = x := by simpa using hx
  rw [he]
  refine wpAny_bind (wpAny_pure (wpAny_pure ?_))
  refine wpAny_bind (wpAny_setField ho hd (by simp) (wpAny_pure ⟨_, rfl, hQ _ ?_ (Heap.SameBut.update ..)⟩))
  exact ⟨_, Heap.get?_update_self _ ho (Obj.isFreed_of_fields (Obj.data_mapFields hd _)), (Obj.cls_mapFields ..).trans hc, by
    rw [Obj.data_mapFields hd]; simp [rawInt]⟩
theorem set_end_drawn {I a T : Addr} {places : Array Value} {i : Nat} {es : Array (Int × Value)} {ep : Nat} {t : SetTable} {Q : Option Value → Shared → Prop} (hh : A.handled = none) (hit : ItAt s.heap I (.ref T) i a es.size ep) (S : SetAt s.heap a es ep t) (hf : t.fits es.size = true) (hT : s.heap.IsTuple T places)
    (hp : places[i]? = none) (hQ : ∀ h', Heap.ExtBut I s.heap h' → Q none { s with heap := h' }) : wpAny (model prog w) A (pyNext (.ref I)) Q E s := by
  refine set_next hit S hf ?_; try k_fold
  dsimp only
  obtain ⟨oT, hoT, _, nT, hdT⟩ := hT
  refine wpAny_bind (wpAny_seqItems hoT hdT ?_)
  dsimp only
  rw [hp]
  dsimp only
  (refine Mine.el1c hit fun o ho hc hd => ?_; try clear hit)
  refine wpAny_bind (wpAny_setField ho hd (by simp) ?_)
  have ho1 := Heap.get?_update_self (Obj.mapFields (·.setIfInBounds 0 (rawInt 0))) ho (Obj.isFreed_of_fields (Obj.data_mapFields hd _))
  have hd1 := Obj.data_mapFields hd (·.setIfInBounds 0 (rawInt 0))
  refine wpAny_bind (wpAny_setField ho1 hd1 (by simp) ?_)
  exact stop_now (by simpa using hh) fun h' hk => hQ h' fun b o hb e => hk b o ((Heap.SameBut.update ..).extBut b o hb ((Heap.SameBut.update ..).extBut b o hb e))
theorem set_iter_self {I a : Addr} {f : Value} {i k ep : Nat} {Q : Value → Shared → Prop} (hit : ItAt s.heap I f i a k ep) (h : Q (.ref I) s) : wpAny (model prog w) A (pyIter (.ref I)) Q E s := by
  refine wpAny_pyIter_slot hit.typeIs slot_setiter_iter (wpAny_call_entry slot_setiter_iter hit.typeIs entry_setiter_iter ?_ (args_setiter_iter _))
  show wpAny _ _ (ret (.ref I)) _ _ s
  exact wpAny_pure ⟨_, rfl, "set_iterator", _, hit.typeIs, slot_setiter_next.lookup, h⟩
end Mine
end
section
open PySem PySem.W PySem.Calls PyProof.Rows
set_option Elab.async false
set_option maxRecDepth 100000
set_option linter.unusedVariables false
namespace Mine
variable {prog : Program} {w : World} {K : Frag} {mb : Str → Option Value} {X Y : Addr → Prop} {C : Mem} {s s' s'' : Shared} {A : Around} {env : Env} {ρ : List (Str × PV)} {n : Nat} {E : Value → Shared → Prop}

noncomputable def SetW (prog : Program) (w : World) (h : Heap) (a : Addr) (l : List Str) : Prop :=
  ∃ es ep t, SetAt h a es ep t ∧ ElemsOf (strKind prog w) es.toList ∧ (∀ x, x ∈ l ↔ ∃ e ∈ es.toList, (strKind prog w).is x e.2 = true)
    ∧ es.size < scanBound ∧ t.fits es.size = true ∧ (es.size ≠ 0 → t.led = (!Byt w) ∧ t.plain = false)
theorem SetS.use {h : Heap} {a : Addr} {l : List Str} (S : SetS prog w h a l) : SetW prog w h a l := by
  obtain ⟨o, es, ep, t, ho, hex, hd, hel, hm, hb, hf, hl, hp, _⟩ := S
  exact ⟨es, ep, t, ⟨o, ho, hex, hd⟩, hel, hm, hb, hf, fun q => ⟨hl, hp q⟩⟩
theorem SetW.setOf {h : Heap} {a : Addr} {l : List Str} (S : SetW prog w h a l) : ∃ n, h.SetOf (strKind prog w) a (fun k => decide (k ∈ l)) n := by
  (refine Mine.el3f S fun es ep t hq1 hel hm hb hf _ => ?_; try clear S; obtain ⟨o, ho, hex, hd⟩ := hq1)
  exact ⟨_, o, es, ep, t, ho, hex, hd, hel, fun k => by rw [decide_eq_true_eq]; exact hm k, hb, hf, rfl⟩
theorem SetW.ext {Z : Addr → Prop} {a : Addr} {l : List Str} (S : SetW prog w s.heap a l) (e : Ext prog w Z C s s') (ha : ¬ Z a) : SetW prog w s'.heap a l := by
  (refine Mine.el3b S fun es ep t hq2 r => ?_; try clear S; obtain ⟨o, ho, hex, hd⟩ := hq2)
  exact ⟨es, ep, t, ⟨o, e.keepD ho ha (by rw [hd]; first | exact fun _ _ h => by cases h | exact fun _ h => by cases h | nofun), hex, hd⟩, r⟩

theorem walks_text (hw : Byt w = true) (hh : A.handled = none) (I a : Addr) (hne : a ≠ I) (es : Array (Int × Value)) (ep : Nat) (t : SetTable) (hf : t.fits es.size = true) :
    Walks prog w A I [I, a] [I] es.size (fun i v => ((pickOrder (w.params.setOrder a ep) es).toList.map (·.2))[i]? = some v) (fun i h => ItAt h I (.int 0 0) i a es.size ep ∧ SetAt h a es ep t) where
  sub := fun b hb => by simp at hb; simp [hb]
  frame := fun _ _ _ st hk => ⟨st.1.at fun o e => hk I (by simp) o e, st.2.at fun o e => hk a (by simp) o e⟩
  item := fun i s Q E hi st hQ => by
    have hl := (pick_perm (w.params.setOrder a ep) es).length_eq
    simp only [Array.length_toList] at hl
    have hi' : i < (pickOrder (w.params.setOrder a ep) es).size := by omega
    refine set_item_slot (x := (pickOrder (w.params.setOrder a ep) es)[i].2) (nx := 0) st.1 st.2 hf (fun Q E h => next_text hw st.2 hf (by rw [Array.getElem?_eq_getElem hi']; exact h)) fun h' hit' hs' => ?_
    exact hQ _ h' s.toks (by simp [hi']) ⟨hit', st.2.at fun o e => hs'.extBut a o hne e⟩ fun b o hb e => hs'.extBut b o (fun h => hb (by simp [h])) e
  done := fun s Q E st hQ => by
    have hl := (pick_perm (w.params.setOrder a ep) es).length_eq
    simp only [Array.length_toList] at hl
    refine set_end_slot hh st.1 st.2 hf (fun Q E h => next_text hw st.2 hf (by rw [Array.getElem?_eq_none (by omega)]; exact h)) fun h' he' => hQ h' s.toks fun b o hb e => he' b o (fun h => hb (by simp [h])) e
  self := fun _ _ _ _ st hQ => set_iter_self st.1 hQ

theorem below_at0 (p : Nat) : SetTable.below #[p] 0 = 0 := by
  unfold SetTable.below
  show SetTable.below.go #[p] 0 1 0 1 = 0
  simp [SetTable.below.go]
theorem below_at1 (p : Nat) : SetTable.below #[p] (p + 1) = 1 := by
  unfold SetTable.below
  show SetTable.below.go #[p] (p + 1) 1 0 1 = 1
  simp [SetTable.below.go]
theorem walks_one (hw : Byt w = false) (hh : A.handled = none) (I a : Addr) (hne : a ≠ I) (es : Array (Int × Value)) (ep : Nat) (t : SetTable) (hf : t.fits es.size = true) (h1 : es.size ≤ 1) (hl : es.size ≠ 0 → t.led = true) :
    Walks prog w A I [I, a] [I] es.size (fun i v => (es.toList.map (·.2))[i]? = some v) (fun i h => ∃ slot : Nat, ItAt h I (.int slot 0) i a es.size ep ∧ SetAt h a es ep t ∧ SetTable.below t.place slot = i) where
  sub := fun b hb => by simp at hb; simp [hb]
  frame := fun _ _ _ ⟨slot, st⟩ hk => ⟨slot, st.1.at fun o e => hk I (by simp) o e, st.2.1.at fun o e => hk a (by simp) o e, st.2.2⟩
  item := fun i s Q E hi ⟨slot, st⟩ hQ => by
    have hpl : t.place.size = es.size := by simp [SetTable.fits] at hf; exact hf.1
    have hs1 : es.size = 1 := by omega
    have hi0 : i = 0 := by omega
    subst hi0
    obtain ⟨p, hp⟩ : ∃ p, t.place = #[p] := by
      have h0 : t.place.size = 1 := by omega
      exact ⟨t.place[0], by apply Array.ext <;> simp [h0]; intro i hi; have : i = 0 := by omega
                            subst this; rfl⟩
    refine set_item_slot (x := es[0].2) (nx := p + 1) st.1 st.2.1 hf (fun Q E h => next_one hw st.2.1 hf h1 hl ?_) fun h' hit' hs' => ?_
    · rw [st.2.2, Array.getElem?_eq_getElem (by omega), hp]
      exact h
    · exact hQ _ h' s.toks (by simp [hs1]) ⟨p + 1, hit', st.2.1.at fun o e => hs'.extBut a o hne e, by rw [hp]; exact below_at1 p⟩ fun b o hb e => hs'.extBut b o (fun h => hb (by simp [h])) e
  done := fun s Q E ⟨slot, st⟩ hQ => by
    refine set_end_slot hh st.1 st.2.1 hf (fun Q E h => next_one hw st.2.1 hf h1 hl ?_) fun h' he' => hQ h' s.toks fun b o hb e => he' b o (fun h => hb (by simp [h])) e
    rw [st.2.2, Array.getElem?_eq_none (Nat.le_refl _)]
    exact h
  self := fun _ _ _ _ ⟨slot, st⟩ hQ => set_iter_self st.1 hQ

theorem walks_drawn (hh : A.handled = none) (I a T : Addr) (hne : a ≠ I) (hnT : T ≠ I) (es : Array (Int × Value)) (ep : Nat) (t : SetTable) (hf : t.fits es.size = true) (places : List Nat) (hpl : places.Perm (List.range es.size)) :
    Walks prog w A I [I, a, T] [I] es.size (fun i v => (places.filterMap fun p => es[p]?.map (·.2))[i]? = some v) (fun i h => ItAt h I (.ref T) i a es.size ep ∧ SetAt h a es ep t ∧ h.IsTuple T (places.map fun (p : Nat) => rawInt p).toArray) where
  sub := fun b hb => by simp at hb; simp [hb]
  frame := fun _ _ _ st hk => ⟨st.1.at fun o e => hk I (by simp) o e, st.2.1.at fun o e => hk a (by simp) o e, let ⟨o, ho, r⟩ := st.2.2; ⟨o, hk T (by simp) o ho, r⟩⟩
  item := fun i s Q E hi st hQ => by
    have hlen : places.length = es.size := by (refine Mine.rwl hpl.length_eq ?_; refine Mine.rwl List.length_range ?_; try with_reducible rfl)
    have hi' : i < places.length := by omega
    have hp : places[i] < es.size := List.mem_range.mp (hpl.mem_iff.mp (List.getElem_mem hi'))
    refine set_item_drawn (x := es[places[i]].2) (pl := places[i]) (u := 0) (m := 0) st.1 st.2.1 hf st.2.2 (by simp [hi', rawInt]) (by simp [hp]) fun h' hit' hs' => ?_
    refine hQ _ h' s.toks ?_ ⟨hit', st.2.1.at fun o e => hs'.extBut a o hne e, let ⟨o, ho, r⟩ := st.2.2; ⟨o, hs'.extBut T o hnT ho, r⟩⟩ fun b o hb e => hs'.extBut b o (fun h => hb (by simp [h])) e
    have hall : ∀ p ∈ places, p < es.size := fun p h => List.mem_range.mp (hpl.mem_iff.mp h)
    have hfm : ∀ l : List Nat, (∀ p ∈ l, p < es.size) → ∀ i (hi : i < l.length), (l.filterMap fun p => es[p]?.map (·.2))[i]? = (es[l[i]]?).map (·.2) := by
      intro l
      induction l with
      | nil => intro _ i hi; simp at hi
      | cons q l ih =>
        intro ha i hi
        have hq := ha q (.head _)
        rw [List.filterMap_cons, Array.getElem?_eq_getElem hq]
        cases i with
        | zero => simp [hq]
        | succ i => simpa using ih (fun p h => ha p (.tail _ h)) i (by simpa using hi)
    rw [hfm places hall i hi', Array.getElem?_eq_getElem hp]; rfl
  done := fun s Q E st hQ => by
    have hlen : places.length = es.size := by (refine Mine.rwl hpl.length_eq ?_; refine Mine.rwl List.length_range ?_; try with_reducible rfl)
    exact set_end_drawn hh st.1 st.2.1 hf st.2.2 (by simp [hlen]) fun h' he' => hQ h' s.toks fun b o hb e => he' b o (fun h => hb (by simp [h])) e
  self := fun _ _ _ _ st hQ => set_iter_self st.1 hQ
end Mine
end
section
open PySem PySem.W PySem.Calls PyProof.Rows
set_option Elab.async false
set_option maxRecDepth 100000
set_option linter.unusedVariables false
namespace Mine
variable {prog : Program} {w : World} {K : Frag} {mb : Str → Option Value} {X Y : Addr → Prop} {C : Mem} {s s' s'' : Shared} {A : Around} {env : Env} {ρ : List (Str × PV)} {n : Nat} {E : Value → Shared → Prop}

noncomputable def keyOf : Value → Str
  | .str x _ => x
  | _ => ⟨#[]⟩
theorem keys_of {es : List (Int × Value)} {l : List Str} {vs : List Value} (hel : ElemsOf (strKind prog w) es) (hm : ∀ x, x ∈ l ↔ ∃ e ∈ es, (strKind prog w).is x e.2 = true) (hp : vs.Perm (es.map (·.2))) :
    (∀ v ∈ vs, ∃ t, v = .str (keyOf v) t) ∧ (∀ x, x ∈ vs.map keyOf ↔ x ∈ l) := by
  have h1 : ∀ v ∈ vs, ∃ t, v = .str (keyOf v) t := fun v hv => by
    (refine Mine.el1b (List.mem_map.mp (hp.mem_iff.mp hv)) fun e he hq1 => ?_; obtain rfl := hq1)
    (refine Mine.el0b (hel e he) fun hq2 _ => ?_; obtain ⟨k, hk, _⟩ := hq2)
    refine Mine.el1a (Value.isStrOf_shape hk) fun t ht => ?_
    rw [ht]; exact ⟨t, rfl⟩
  refine ⟨h1, fun x => ?_⟩
  rw [hm x, List.mem_map]
  constructor
  · rintro ⟨v, hv, rfl⟩
    refine Mine.el1b (List.mem_map.mp (hp.mem_iff.mp hv)) fun e he hev => ?_
    refine Mine.el1a (h1 v hv) fun t ht => ?_
    refine ⟨e, he, ?_⟩
    rw [hev, ht]
    exact strKind_is prog w _ t
  · rintro ⟨e, he, hk⟩
    refine Mine.el1a (Value.isStrOf_shape hk) fun t ht => ?_
    exact ⟨e.2, hp.mem_iff.mpr (List.mem_map.mpr ⟨e, he, rfl⟩), by rw [ht]; rfl⟩

theorem filt_perm {es : Array (Int × Value)} {places : List Nat} (hp : places.Perm (List.range es.size)) : (places.filterMap fun p => es[p]?.map (·.2)).Perm (es.toList.map (·.2)) := by
  refine (hp.filterMap _).trans (.of_eq ?_)
  apply List.ext_getElem?
  intro i
  have hfm : ∀ (l : List Nat) (i : Nat), (∀ p ∈ l, p < es.size) → (l.filterMap fun p => es[p]?.map (·.2))[i]? = (l[i]?).bind fun (p : Nat) => (es[p]?).map (fun (e : Int × Value) => e.2) := by
    intro l
    induction l with
    | nil => intro i _; simp
    | cons q l ih =>
      intro i ha
      have hq := ha q (.head _)
      rw [List.filterMap_cons, Array.getElem?_eq_getElem hq]
      cases i with
      | zero => simp [hq]
      | succ i => simpa using ih i (fun p h => ha p (.tail _ h))
  rw [hfm _ _ fun p h => List.mem_range.mp h]
  by_cases h : i < es.size
  · simp [h]
  · simp [h]

theorem iter_set {a : Addr} {l : List Str} {Q : Value → Shared → Prop} (S : Sit prog w K mb n C X A env ρ s) (hS : SetW prog w s.heap a l) (hXa : ¬ X a)
    (k : ∀ (xs : List Str) it s₂, (∀ x, x ∈ xs ↔ x ∈ l) → Ext prog w noX C s s₂ → Iter prog w C X A s.heap.objs.size (xs.map .str) it s₂ → Q it s₂) : wpAny (model prog w) A (pyIter (.ref a)) Q E s := by
  (refine Mine.el3f hS fun es ep t hA hel hm hb hf hlp => ?_; try clear hS)
  refine Mine.el1c (id hA) fun o ho hex hd => ?_
  have hT : s.TypeIs (.ref a) "set" := ⟨o, ho, hex.1⟩
  have hCa : C a = none := co_ne S ho (by rw [hd]; first | exact fun _ _ h => by cases h | exact fun _ h => by cases h | nofun)
  have halt : a < s.heap.objs.size := Heap.lt_size ho
  have mk : ∀ (s₂ : Shared) (I : Addr) (fp : List Addr) (vs : List Value) (St : Nat → Heap → Prop), Ext prog w noX C s s₂ → Walks prog w A I fp [I] vs.length (fun i v => vs[i]? = some v) St → St 0 s₂.heap → s.heap.objs.size ≤ I →
      (∀ b ∈ fp, b = a ∨ (s.heap.objs.size ≤ b ∧ b < s₂.heap.objs.size)) → vs.Perm (es.toList.map (·.2)) → Q (.ref I) s₂ := fun s₂ I fp vs St e W st hI hfp hp => by
    refine Mine.el0b (keys_of hel hm hp) fun h1 h2 => ?_
    refine k (vs.map keyOf) _ s₂ h2 e ⟨I, fp, [I], fun i v => vs[i]? = some v, St, rfl, ?_, st, fun b hb => ?_, fun b hb => ?_, fun i v p hv hpp => ?_⟩
    · rw [List.length_map, List.length_map]; exact W
    · rw [List.mem_singleton] at hb; subst hb; exact hI
    · rcases hfp b hb with rfl | ⟨h3, h4⟩
      · exact ⟨Nat.lt_of_lt_of_le halt e.size, hCa, hXa⟩
      · exact ⟨h4, co_new S h3, fun q => Nat.lt_irrefl _ (Nat.lt_of_lt_of_le (S.bd b q) h3)⟩
    · refine Mine.el1a (h1 v (List.mem_of_getElem? hv)) fun u hu => ?_
      rw [List.getElem?_map, List.getElem?_map, hv] at hpp
      cases hpp
      rw [hu]; exact .str _ _
  refine wpAny_pyIter_slot hT PySem.F.slot_set_iter (wpAny_call_entry PySem.F.slot_set_iter hT entry_set_iter ?_ (PySem.F.args_set_iter_1 _))
  show wpAny _ _ (Builtin.Frozenset.sizeOf a >>= _) _ _ s
  refine wpAny_bind (wpAny_bind (wpAny_setEntries_of ho hd hf (wpAny_pure ?_)))
  rw [setDrawn_eq]
  refine wpAny_bind (wpAny_bind (wpAny_setState_of ho hd hf (wpAny_bind (wpAny_byText (wpAny_pure ?_)))))
  cases hdr : (!Byt w && (!t.plain && decide (es.size > 1))) with
  | false =>
    rw [if_neg (by decide)]
    refine wpAny_bind (wpAny_pure (wpAny_bind (wpAny_setEpoch_of ho hd hf (wpAny_bind (wpAny_newObj_type (wpAny_pure ⟨_, rfl, "set_iterator", _, ⟨_, Heap.get?_push_size _ rfl, rfl⟩, slot_setiter_next.lookup, ?_⟩))))))
    have hne : a ≠ s.heap.objs.size := Nat.ne_of_lt halt
    have hit : ItAt (s.heap.push { cls := .type "set_iterator", data := .fields [rawInt 0, rawInt 0, .ref a, rawInt es.size, rawInt ep].toArray }) s.heap.objs.size (.int 0 0) 0 a es.size ep := ⟨_, Heap.get?_push_size _ rfl, rfl, rfl⟩
    have hA' : SetAt (s.heap.push { cls := .type "set_iterator", data := .fields [rawInt 0, rawInt 0, .ref a, rawInt es.size, rawInt ep].toArray }) a es ep t := hA.at fun o e => Heap.get?_push_of_some _ e
    have hfp : ∀ b ∈ [s.heap.objs.size, a], b = a ∨ (s.heap.objs.size ≤ b ∧ b < (s.heap.push { cls := .type "set_iterator", data := .fields [rawInt 0, rawInt 0, .ref a, rawInt es.size, rawInt ep].toArray }).objs.size) := fun b hb => by
      simp only [List.mem_cons, List.not_mem_nil, or_false] at hb
      rcases hb with rfl | rfl
      · exact .inr ⟨Nat.le_refl _, by rw [Heap.size_push]; exact Nat.lt_succ_self _⟩
      · exact .inl rfl
    cases hw : Byt w with
    | true =>
      have hpp := pick_perm (w.params.setOrder a ep) es
      refine mk _ _ _ ((pickOrder (w.params.setOrder a ep) es).toList.map (·.2)) (fun i h => ItAt h s.heap.objs.size (.int 0 0) i a es.size ep ∧ SetAt h a es ep t) .push ?_ ⟨hit, hA'⟩ (Nat.le_refl _) hfp (hpp.map _)
      rw [List.length_map, hpp.length_eq, Array.length_toList]
      exact walks_text hw S.rm.h _ _ hne es ep t hf
    | false =>
      rw [hw] at hdr
      have h1 : es.size ≤ 1 := by
        rcases Nat.lt_or_ge 1 es.size with h | h
        · have := (hlp (by omega)).2
          simp [this] at hdr
          omega
        · exact h
      refine mk _ _ _ (es.toList.map (·.2)) (fun i h => ∃ slot : Nat, ItAt h s.heap.objs.size (.int slot 0) i a es.size ep ∧ SetAt h a es ep t ∧ SetTable.below t.place slot = i) .push ?_ ⟨0, hit, hA', ?_⟩ (Nat.le_refl _) hfp (.refl _)
      · rw [List.length_map, Array.length_toList]
        exact walks_one hw S.rm.h _ _ hne es ep t hf h1 fun q => by rw [(hlp q).1, hw]; rfl
      · have hpl : t.place.size = es.size := by simp [SetTable.fits] at hf; exact hf.1
        rcases Nat.eq_zero_or_pos es.size with h | h
        · have : t.place = #[] := Array.eq_empty_of_size_eq_zero (by omega)
          rw [this]; rfl
        · obtain ⟨p, hp⟩ : ∃ p, t.place = #[p] := by
            have h0 : t.place.size = 1 := by omega
            exact ⟨t.place[0], by apply Array.ext <;> simp [h0]; intro i hi; have : i = 0 := by omega
                                  subst this; rfl⟩
          rw [hp]; exact below_at0 p
  | true =>
    rw [if_pos rfl]
    refine wpAny_bind (wpAny_drawOrder es.size (List.range es.size) _ _ (Nat.le_of_eq List.length_range) fun places d hpl => ?_)
    have hlen : places.length = es.size := by (refine Mine.rwl hpl.length_eq ?_; refine Mine.rwl List.length_range ?_; try with_reducible rfl)
    refine wpAny_bind (wpAny_newObj_type ?_ (by show (places.map fun (i : Nat) => rawInt i).toArray.size ≤ sizeLine; simp only [List.size_toArray, List.length_map, hlen]; exact fits_of_scanBound hb))
    have e₁ : Ext prog w noX C s { s with drawn := d } := .ofKeep (Nat.le_refl _) (fun b o e => e) rfl rfl
    generalize hs₁ : ({ s with drawn := d } : Shared) = s₁ at e₁ ⊢
    have hh₁ : s₁.heap = s.heap := by (refine Mine.rwl (hs₁).symm ?_; try with_reducible rfl)
    have e₂ : Ext prog w noX C s₁ { s₁ with heap := s₁.heap.push { cls := .type "tuple", data := .seq (places.map fun (i : Nat) => rawInt i).toArray } } := .push
    have ht₂ : (s₁.heap.push { cls := .type "tuple", data := .seq (places.map fun (i : Nat) => rawInt i).toArray }).IsTuple s₁.heap.objs.size (places.map fun (i : Nat) => rawInt i).toArray := ⟨_, Heap.get?_push_size _ rfl, rfl, _, rfl⟩
    have hA₁ : SetAt s₁.heap a es ep t := by rw [hh₁]; exact hA
    have hA₂ : SetAt (s₁.heap.push { cls := .type "tuple", data := .seq (places.map fun (i : Nat) => rawInt i).toArray }) a es ep t := hA₁.at fun o e => Heap.get?_push_of_some _ e
    have hsz₂ : (s₁.heap.push { cls := .type "tuple", data := .seq (places.map fun (i : Nat) => rawInt i).toArray }).objs.size = s.heap.objs.size + 1 := by rw [Heap.size_push, hh₁]
    rw [hh₁] at ht₂
    have hT1 : s₁.heap.objs.size = s.heap.objs.size := by (refine Mine.rwl hh₁ ?_; try with_reducible rfl)
    generalize hs₂ : ({ s₁ with heap := s₁.heap.push { cls := .type "tuple", data := .seq (places.map fun (i : Nat) => rawInt i).toArray } } : Shared) = s₂ at e₂ ⊢
    have hh₂ : s₂.heap = s₁.heap.push { cls := .type "tuple", data := .seq (places.map fun (i : Nat) => rawInt i).toArray } := by (refine Mine.rwl (hs₂).symm ?_; try with_reducible rfl)
    rw [← hh₂] at hA₂ hsz₂
    rw [hh₁] at hh₂
    rw [← hh₂] at ht₂
    refine Mine.el1c (id hA₂) fun o₂ ho₂ hex₂ hd₂ => ?_
    refine wpAny_bind (wpAny_setEpoch_of ho₂ hd₂ hf (wpAny_bind (wpAny_newObj_type (wpAny_pure ⟨_, rfl, "set_iterator", _, ⟨_, Heap.get?_push_size _ rfl, rfl⟩, slot_setiter_next.lookup, ?_⟩))))
    rw [hT1]
    have hne : a ≠ s₂.heap.objs.size := by rw [hsz₂]; exact Nat.ne_of_lt (Nat.lt_succ_of_lt halt)
    have hnT : s.heap.objs.size ≠ s₂.heap.objs.size := by rw [hsz₂]; exact Nat.ne_of_lt (Nat.lt_succ_self _)
    have hfp := filt_perm hpl
    refine mk _ s₂.heap.objs.size [s₂.heap.objs.size, a, s.heap.objs.size] (places.filterMap fun p => es[p]?.map (·.2)) (fun i h => ItAt h s₂.heap.objs.size (.ref s.heap.objs.size) i a es.size ep ∧ SetAt h a es ep t ∧ h.IsTuple s.heap.objs.size (places.map fun (p : Nat) => rawInt p).toArray) ((e₁.trans e₂).trans .push) ?_ ⟨⟨_, Heap.get?_push_size _ rfl, rfl, rfl⟩, hA₂.at fun o e => Heap.get?_push_of_some _ e, let ⟨o, ho, r⟩ := ht₂; ⟨o, Heap.get?_push_of_some _ ho, r⟩⟩ (by rw [hsz₂]; exact Nat.le_succ _) ?_ hfp
    · rw [hfp.length_eq, List.length_map, Array.length_toList]
      exact walks_drawn S.rm.h _ _ _ hne hnT es ep t hf places hpl
    · intro b hb
      show b = a ∨ _ ∧ b < (s₂.heap.push _).objs.size
      rw [Heap.size_push, hsz₂]
      simp only [List.mem_cons, List.not_mem_nil, or_false] at hb
      rcases hb with rfl | rfl | rfl
      · exact .inr ⟨by rw [hsz₂]; exact Nat.le_succ _, by rw [hsz₂]; exact Nat.lt_succ_self _⟩
      · exact .inl rfl
      · exact .inr ⟨Nat.le_refl _, Nat.lt_succ_of_lt (Nat.lt_succ_self _)⟩
end Mine
end
section
open PySem PySem.W PySem.Calls PyProof.Rows
set_option Elab.async false
set_option maxRecDepth 100000
set_option linter.unusedVariables false
namespace Mine
variable {prog : Program} {w : World} {K : Frag} {mb : Str → Option Value} {X Y : Addr → Prop} {C : Mem} {s s' s'' : Shared} {A : Around} {env : Env} {ρ : List (Str × PV)} {n : Nat} {E : Value → Shared → Prop}

/-! the memo -/
noncomputable def MemoOk (prog : Program) (w : World) (h : Heap) (c : Addr) (P : Str → Int → Prop) : Prop := ∃ o es, h.get? c = some o ∧ MemoEs prog w o es ∧ ∀ p ∈ es, (p.1 = "<string>" ∧ p.2 = 1) ∨ P p.1 p.2
noncomputable def Has (prog : Program) (w : World) (h : Heap) (c : Addr) (m : Str) (i : Int) : Prop := ∃ o es, h.get? c = some o ∧ MemoEs prog w o es ∧ (m, i) ∈ es
theorem MemoOk.ext {Z : Addr → Prop} {c : Addr} {P : Str → Int → Prop} (h : MemoOk prog w s.heap c P) (e : Ext prog w Z C s s') (hZ : ¬ Z c) (hC : C c = some P) : MemoOk prog w s'.heap c P := by
  (refine Mine.el2c h fun o es ho hm hp => ?_; try clear h)
  refine Mine.el2c (memo_ext e ho hm hZ) fun o' more ho' hm' hq => ?_
  refine ⟨o', _, ho', hm', fun p h => ?_⟩
  rcases List.mem_append.mp h with h | h
  · exact hp p h
  · exact .inr (hq P hC p h)
theorem Has.ext {Z : Addr → Prop} {c : Addr} {m : Str} {i : Int} (h : Has prog w s.heap c m i) (e : Ext prog w Z C s s') (hZ : ¬ Z c) : Has prog w s'.heap c m i := by
  (refine Mine.el2c h fun o es ho hm hp => ?_; try clear h)
  refine Mine.el2c (memo_ext e ho hm hZ) fun o' more ho' hm' hq => ?_
  exact ⟨o', _, ho', hm', List.mem_append_left _ hp⟩

/-! the class -/
structure ClsAt (K : Frag) (cl N : Addr) (mN : Str → Option Value) : Prop where
  cls : ∃ nm q bs sn sub col dd k0 k1 k2 k3 k5, K.lookup cl = some (excClassObj nm q cl N bs [.type "object"] true sn sub false col dd k0 k1 k2 k3 k5 "object.__new__")
  ns : ∃ o es ep, K.lookup N = some o ∧ o.data = .dict es ep ∧ StrKeys es ∧ ∀ name, nsFind es name = mN name
  ga : mN "__getattribute__" = none
  gt : mN "__getattr__" = none
  sa : mN "__setattr__" = none
theorem ClsAt.nsH {cl N : Addr} {mN : Str → Option Value} {h : Heap} (H : ClsAt K cl N mN) (B : K.In h) : h.Ns N mN := let ⟨o, es, ep, e, r⟩ := H.ns; ⟨o, es, ep, B _ _ e, r⟩

/-- an object with its table of attributes -/
noncomputable def Ins (C : Mem) (cl : Addr) (h : Heap) (b : Nat) (x : Addr) (mA : Str → Option Value) : Prop :=
  ∃ dx o, h.get? x = some o ∧ o.cls = .ref cl ∧ o.data = .plain ∧ o.dict = some dx ∧ dx ≠ x ∧ h.Ns1 dx mA ∧ x < b ∧ dx < b ∧ C dx = none
theorem Ins.inst {cl : Addr} {h : Heap} {b : Nat} {x : Addr} {mA : Str → Option Value} (I : Ins C cl h b x mA) : h.Inst x cl mA := by
  (refine Mine.el2g I fun dx o ho hc hd hdx hne hn _ => ?_; try clear I)
  exact ⟨o, ho, hc, (by rw [hd]; first | exact fun _ _ h => by cases h | exact fun _ h => by cases h | nofun), .inr ⟨dx, hdx, hne, hn⟩⟩
theorem Ins.ext {cl : Addr} {Z : Addr → Prop} {b : Nat} {x : Addr} {mA : Str → Option Value} (I : Ins C cl s.heap b x mA) (e : Ext prog w Z C s s') (hZ : ∀ a, Z a → b ≤ a) : Ins C cl s'.heap b x mA := by
  (refine Mine.el2i I fun dx o ho hc hd hdx hne hn h1 h2 h3 => ?_; try clear I)
  exact ⟨dx, o, e.keepD ho (fun q => Nat.lt_irrefl _ (Nat.lt_of_lt_of_le h1 (hZ _ q))) (by rw [hd]; first | exact fun _ _ h => by cases h | exact fun _ h => by cases h | nofun), hc, hd, hdx, hne, hn.at fun o ho => e.keepAt ho (fun q => Nat.lt_irrefl _ (Nat.lt_of_lt_of_le h2 (hZ _ q))) h3, h1, h2, h3⟩

noncomputable def ListAt (h : Heap) (a : Addr) (l : List Str) : Prop := ∃ items, h.IsList a items ∧ ∃ tl : List (Str × Tok), items.toList = strValues tl ∧ tl.map (·.1) = l
theorem ListAt.rep {h : Heap} {a : Addr} {l : List Str} (x : ListAt h a l) (hX : ¬ X a) : Rep X h (.ref a) (.list (l.map .str)) := by
  obtain ⟨items, hl, tl, ht, rfl⟩ := x
  exact .list hX hl (by rw [ht]; exact reps_of_strValues)
theorem ListAt.ext {Z : Addr → Prop} {a : Addr} {l : List Str} (x : ListAt s.heap a l) (e : Ext prog w Z C s s') (hZ : ¬ Z a) : ListAt s'.heap a l := let ⟨items, hl, r⟩ := x; ⟨items, isList_ext e hZ hl, r⟩
theorem Rep.listAt {h : Heap} {v : Value} {l : List Str} (r : Rep X h v (.list (l.map .str))) : ∃ a, v = .ref a ∧ ¬ X a ∧ ListAt h a l := by
  refine Mine.Rep.elL r fun a items hx hl hr => ?_
  refine Mine.el1b (strValues_of_reps hr) fun tl h1 h2 => ?_
  exact ⟨a, rfl, hx, items, hl, tl, h1, h2⟩

/-- a reader -/
noncomputable def Rdr (prog : Program) (w : World) (C : Mem) (cl : Addr) (h : Heap) (b : Nat) (x c : Addr) (mods dirs : List Str) : Prop :=
  ∃ ms ds mA, Ins C cl h b x mA ∧ mA "_mods" = some (.ref ms) ∧ mA "_dirs" = some (.ref ds) ∧ mA "_ignore" = some (.ref c) ∧ mA "names" = none ∧ SetW prog w h ms mods ∧ ListAt h ds dirs ∧ ms < b ∧ ds < b ∧ c < b ∧ (c == sysModules) = false
theorem Rdr.ext {Z : Addr → Prop} {cl : Addr} {b : Nat} {x c : Addr} {mods dirs : List Str} (R : Rdr prog w C cl s.heap b x c mods dirs) (e : Ext prog w Z C s s') (hZ : ∀ a, Z a → b ≤ a) : Rdr prog w C cl s'.heap b x c mods dirs := by
  obtain ⟨ms, ds, mA, I, h1, h2, h3, h4, hS, hL, b1, b2, b3⟩ := R
  exact ⟨ms, ds, mA, I.ext e hZ, h1, h2, h3, h4, hS.ext e fun q => Nat.lt_irrefl _ (Nat.lt_of_lt_of_le b1 (hZ _ q)), hL.ext e fun q => Nat.lt_irrefl _ (Nat.lt_of_lt_of_le b2 (hZ _ q)), b1, b2, b3⟩

/-- self.name -/
theorem ev_attr {cl N x : Addr} {mN mA : Str → Option Value} {b : Nat} {v : Value} {o : Expr} {name : Str} {pos : Pos} (S : Sit prog w K mb n C X A env ρ s) (H : ClsAt K cl N mN) (I : Ins C cl s.heap b x mA) (ho : Ev prog w C X A env o (.val (.ref x)) s) (hv : mA name = some v) (hna : mN name = none) (hB : typeLookup (.type "object") name = pure none) (hh : handedOut v = pure v)
    (he : autoParam (eval (.Attribute o name pos) env = (do
      let ov ← eval o env
      standAt pos.atName
      holding [ov] (getAttr ov name true) >>= fun r => pure r)) Mine.autoR) : Ev prog w C X A env (.Attribute o name pos) (.val v) s := by
  intro s₁ e₁ Q E k; try k_fold
  rw [he]
  refine wpAny_bind (ho s₁ e₁ _ _ fun ov s₂ e₂ r => wpAny_bind (wpAny_standAt (wpAny_bind (wpAny_holding ?_))))
  refine Mine.Rep.elV r fun _ => ?_; try k_fold
  have S₂ := S.ext (e₁.trans e₂)
  have I₂ := I.ext (e₁.trans e₂) (fun _ q => q.elim)
  obtain ⟨nm, q, bs, sn, sub, col, dd, k0, k1, k2, k3, k5, hcl⟩ := H.cls
  have hC := S₂.base.frag _ _ hcl
  have hn := H.nsH S₂.base.frag
  have hI := I₂.inst
  obtain ⟨h, g, d, t, os⟩ := s₂
  exact load_attr hC hn H.ga hna hB hI hv hh (wpAny_pure (k _ _ e₂.tokR (.val _)))

/-- m in self._ignore -/
theorem va_same {k : Str} {v : Value} {l : List (Str × Value)} : valueAt ((k, v) :: l) k = some v := by unfold valueAt; rw [List.find?_cons_of_pos (by exact decide_eq_true rfl)]; rfl
theorem va_ne {k k' : Str} {v : Value} {l : List (Str × Value)} (h : k' ≠ k) : valueAt ((k', v) :: l) k = valueAt l k := by unfold valueAt; rw [List.find?_cons_of_neg (by exact fun q => h (of_decide_eq_true q))]
theorem valueAt_intPairs {vals : List (Str × Int × Tok)} {k : Str} : (∃ i t, valueAt (intPairs vals) k = some (.int i t) ∧ (k, i) ∈ vals.map (fun x => (x.1, x.2.1))) ∨ (valueAt (intPairs vals) k = none ∧ ∀ i, (k, i) ∉ vals.map (fun x => (x.1, x.2.1))) := by
  induction vals with
  | nil => exact .inr ⟨rfl, fun i => List.not_mem_nil⟩
  | cons a r ih =>
    obtain ⟨k', i', t'⟩ := a
    by_cases h : k' = k
    · subst h
      exact .inl ⟨i', t', va_same, .head _⟩
    · rw [show valueAt (intPairs ((k', i', t') :: r)) k = valueAt (intPairs r) k from va_ne h]
      exact ih.imp (fun h1 => Exists.elim h1 fun i h1 => Exists.elim h1 fun t h1 => ⟨i, t, h1.1, .tail _ h1.2⟩) fun h2 => ⟨h2.1, fun i q => (List.mem_cons.mp q).elim (fun q => h (congrArg (·.1) q).symm) (h2.2 i)⟩
theorem memo_look {h : Heap} {c : Addr} {o : Obj} {es : List (Str × Int)} (ho : h.get? c = some o) (hm : MemoEs prog w o es) (k : Str) : ∃ f : Str → Option Value, h.MapOf (strKind prog w) c f ∧ ((∃ i t, f k = some (.int i t) ∧ (k, i) ∈ es) ∨ (f k = none ∧ ∀ i, (k, i) ∉ es)) := by
  (refine Mine.el1b hm fun vals hd hq4 => ?_; try clear hm; obtain rfl := hq4)
  exact ⟨_, (Heap.dictOf_iff.mpr ⟨o, ho, hd⟩).mapOf, valueAt_intPairs⟩

theorem stored_new {vals : List (Str × Int × Tok)} {k : Str} {i : Int} {t : Tok} (h : ∀ i, (k, i) ∉ vals.map (fun x => (x.1, x.2.1))) : stored (intPairs vals) k (.int i t) = intPairs (vals ++ [(k, i, t)]) := by
  have hn : (intPairs vals).any (fun kv => decide (kv.1 = k)) = false := List.any_eq_false.mpr fun kv hkv he =>
    Exists.elim (List.mem_map.mp hkv) fun x hx => h x.2.1 (List.mem_map.mpr ⟨x, hx.1, by rw [← of_decide_eq_true he, ← hx.2]⟩)
  unfold stored
  rw [hn, if_neg (by decide)]
  exact (List.map_append (l₁ := vals) (l₂ := [(k, i, t)])).symm
theorem stored_old {vals : List (Str × Int × Tok)} {k : Str} {i j : Int} {t : Tok} (h : (k, j) ∈ vals.map (fun x => (x.1, x.2.1))) (hall : ∀ j, (k, j) ∈ vals.map (fun x => (x.1, x.2.1)) → j = i) :
    ∃ vals' : List (Str × Int × Tok), stored (intPairs vals) k (.int i t) = intPairs vals' ∧ vals'.map (fun x => (x.1, x.2.1)) = vals.map (fun x => (x.1, x.2.1)) := by
  refine ⟨vals.map fun x => if x.1 = k then (x.1, i, t) else x, ?_, ?_⟩
  · have hy : (intPairs vals).any (fun kv => decide (kv.1 = k)) = true := Exists.elim (List.mem_map.mp h) fun x hx =>
      List.any_eq_true.mpr ⟨(x.1, .int x.2.1 x.2.2), List.mem_map.mpr ⟨_, hx.1, rfl⟩, decide_eq_true (congrArg (·.1) hx.2)⟩
    unfold stored
    rw [hy, if_pos rfl]
    unfold intPairs
    rw [List.map_map, List.map_map]
    refine List.map_congr_left fun x _ => ?_
    show (if x.1 = k then _ else _) = _
    by_cases hk : x.1 = k
    · rw [if_pos hk, Function.comp, if_pos hk]
    · rw [if_neg hk, Function.comp, if_neg hk]
  · rw [List.map_map]
    refine List.map_congr_left fun x hx => ?_
    rw [Function.comp]
    by_cases hk : x.1 = k
    · rw [if_pos hk, ← hall x.2.1 (List.mem_map.mpr ⟨x, hx, by rw [hk]⟩)]
    · rw [if_neg hk]
/-- self._ignore[m] = i -/
theorem memo_set {c : Addr} {P : Str → Int → Prop} {k : Str} {tk u : Tok} {i : Int} {KS : List Str} {Q : Unit → Shared → Prop} (hC : C c = some P) (hM : MemoOk prog w s.heap c P) (hk : k ≠ "<string>") (hP : P k i) (hcons : ∀ j, P k j → j = i) (hKS : ∀ m i, P m i → m ∈ KS) (hlen : KS.length ≤ 100000)
    (h : ∀ s', Ext prog w noX C s s' → Has prog w s'.heap c k i → Q () s') : wpAny (model prog w) A (setItem (.ref c) (.str k tk) (.int i u)) Q E s := by
  (refine Mine.el2c hM fun o es ho hq7 hp => ?_; try clear hM; obtain ⟨vals, hd, rfl⟩ := hq7)
  have hnd : ((intPairs vals).map (·.1)).Nodup := let ⟨_, _, _, _, _, _, hn⟩ := hd; hn
  have hsub : ∀ m ∈ (intPairs vals).map (·.1), m ∈ (("<string>" : Str) :: KS) := fun m hm => by
    refine Mine.mapEl hm fun q hq => Mine.mapEl hq fun v hv => ?_
    exact (hp (v.1, v.2.1) (List.mem_map.mpr ⟨_, hv, rfl⟩)).elim (fun q => List.mem_cons.mpr (.inl q.1)) fun q => .tail _ (hKS _ _ q)
  have hlen' : (intPairs vals).length ≤ 100001 := by
    have := hnd.length_le_of_subset hsub
    rw [List.length_map] at this
    exact Nat.le_trans this (Nat.succ_le_succ hlen)
  refine with_size (wpAny_setItem_pairs (knd := strKind prog w) (strKind_is prog w k tk) (Heap.dictOf_iff.mpr ⟨o, ho, hd⟩) (fun h' hd' hs hsz => ?_) (Nat.le_trans hlen' (by decide)))
  have fin : ∀ more : List (Str × Int), (∀ p ∈ more, P p.1 p.2) → (∃ vals', stored (intPairs vals) k (.int i u) = intPairs vals' ∧ vals'.map (fun x => (x.1, x.2.1)) = vals.map (fun x => (x.1, x.2.1)) ++ more) → (k, i) ∈ vals.map (fun x => (x.1, x.2.1)) ++ more → Q () { s with heap := h', toks := s.toks + 1 } := by
    rintro more hmore ⟨vals', h1, h2⟩ hin
    rw [h1] at hd'
    refine Mine.el1b (Heap.dictOf_iff.mp hd') fun o' ho' hd' => ?_
    have hm' : MemoEs prog w o' (vals.map (fun x => (x.1, x.2.1)) ++ more) := ⟨_, hd', h2⟩
    refine h _ ⟨hsz, fun b o₂ hb _ => ?_, rfl, rfl⟩ ⟨o', _, ho', hm', hin⟩
    by_cases hbc : b = c
    · subst hbc
      rw [ho] at hb; cases hb
      exact .inr ⟨P, hC, _, o', more, ⟨vals, hd, rfl⟩, ho', hm', hmore⟩
    · exact .inl ((hs.2 b hbc).trans hb)
  have hall : ∀ j, (k, j) ∈ vals.map (fun x => (x.1, x.2.1)) → j = i := fun j hj => (hp (k, j) hj).elim (fun q => absurd q.1 hk) fun q => hcons j q
  rcases valueAt_intPairs (vals := vals) (k := k) with ⟨j, t, _, hj⟩ | ⟨_, hno⟩
  · refine Mine.el1b (stored_old (t := u) hj hall) fun vals' h1 h2 => ?_
    exact fin [] (fun p q => nomatch q) ⟨vals', h1, by rw [h2, List.append_nil]⟩ (by rw [List.append_nil, ← hall j hj]; exact hj)
  · exact fin [(k, i)] (fun p q => by rw [List.mem_singleton] at q; subst q; exact hP) ⟨_, stored_new hno, List.map_append⟩ (List.mem_append_right _ (.head _))

/-- a test that tells of the state behind it -/
theorem x_ifR {test : Expr} {body orelse rest : List Stmt} {pos : Pos} {T : Bool → Shared → Prop} {Q : Flow → Shared → Prop} {E : Value → Shared → Prop} (ht : Do prog w C A (isTrue test env (eval test env)) T s)
    (k : ∀ b s', Ext prog w noX C s s' → T b s' → wpAny (model prog w) A (execs (if b then body else orelse) env) (fun f s'' => match f with | .next => wpAny (model prog w) A (execs rest env) Q E s'' | f => Q f s'') E s') :
    wpAny (model prog w) A (execs (.If test body orelse pos :: rest) env) Q E s := by
  refine wpAny_execs_cons ?_; try k_fold
  rw [exec_If]
  refine wpAny_bind (wpAny_standAt (wpAny_bind (ht s .refl _ _ fun b s₁ e₁ hb => ?_)))
  have := k b s₁ e₁ hb
  cases b with
  | true => simp only [if_true] at this ⊢; refine wpAny_mono this (fun f s₂ h => ?_) fun _ _ x => x; cases f <;> exact h
  | false => simp only [Bool.false_eq_true, if_false] at this ⊢; refine wpAny_mono this (fun f s₂ h => ?_) fun _ _ x => x; cases f <;> exact h
theorem ts_in_memo {l r : Expr} {pos : Pos} {c : Addr} {P : Str → Int → Prop} {m : Str} {i : Int} (S : Sit prog w K mb n C X A env ρ s) (h1 : Ev prog w C X A env l (.str m) s) (h2 : Ev prog w C X A env r (.val (.ref c)) s) (hC : C c = some P) (hM : MemoOk prog w s.heap c P) (hm : m ≠ "<string>") (hcons : ∀ j, P m j → j = i) (hc4 : (c == sysModules) = false) (hmk : autoParam (behindInMarks .In r = false) Mine.autoR) :
    Do prog w C A (isTrue (.Compare l [.In] [r] pos) env (eval (.Compare l [.In] [r] pos) env)) (fun b s' => (b = true → Has prog w s'.heap c m i) ∧ (b = false → ∀ j, ¬ Has prog w s'.heap c m j)) s := by
  intro s₁ e₁ Q E k
  refine wpAny_isTrue_Compare1 (h1 s₁ e₁ _ _ fun a s₂ e₂ ra => h2 s₂ (e₁.trans e₂) _ _ fun b s₃ e₃ rb => ?_) hmk
  refine Mine.Rep.elS ra fun _ => ?_; refine Mine.Rep.elV rb fun _ => ?_
  have e := e₁.trans (e₂.trans e₃)
  refine Mine.el2c (hM.ext e (fun q => q) hC) fun o es ho hmm hp => ?_
  refine Mine.el1b (memo_look ho hmm m) fun f hf hcase => ?_
  refine wpAny_in_of (strKind_is prog w m _) hc4 hf (wpAny_truthy_bool (k _ _ (e₂.trans e₃).tokR ⟨fun q => ?_, fun q => ?_⟩))
  · rcases hcase with ⟨j, t, h1, h2⟩ | ⟨h1, _⟩
    · have := (hp _ h2).elim (fun q => absurd q.1 hm) fun q => hcons j q
      subst this
      exact ⟨o, es, ho, hmm, h2⟩
    · rw [h1] at q; cases q
  · rcases hcase with ⟨j, t, h1, h2⟩ | ⟨_, h2⟩
    · rw [h1] at q; cases q
    · rintro j ⟨o', es', ho', hmm', h3⟩
      have hoo : o = o' := Option.some.inj (ho.symm.trans ho')
      subst hoo
      rw [hmm.unique hmm'] at h2
      exact h2 j h3
/-- self._ignore[m] -/
theorem ev_memo {value slice : Expr} {pos : Pos} {c : Addr} {P : Str → Int → Prop} {m : Str} {i : Int} (hv : Ev prog w C X A env value (.val (.ref c)) s) (hi : Ev prog w C X A env slice (.str m) s) (hC : C c = some P) (hM : MemoOk prog w s.heap c P) (hm : m ≠ "<string>") (hcons : ∀ j, P m j → j = i) (hH : Has prog w s.heap c m i) : Ev prog w C X A env (.Subscript value slice pos) (.int i) s := by
  refine sub_core (T := "dict") PySem.slot_dict_getitem.lookup hv fun v s₁ e₁ r Q E k => hi s₁ e₁ _ _ fun iv s₂ e₂ ri => ?_
  refine Mine.Rep.elV r fun _ => ?_; refine Mine.Rep.elS ri fun _ => ?_
  refine Mine.el2c (hH.ext (e₁.trans e₂) (fun q => q)) fun o es ho hmm hin => ?_
  refine Mine.el2c (hM.ext (e₁.trans e₂) (fun q => q) hC) fun o' es' ho' hmm' hp => ?_
  obtain rfl := Option.some.inj (ho.symm.trans ho')
  obtain rfl := hmm.unique hmm'
  refine Mine.el1b (memo_look ho hmm m) fun f hf hcase => ?_
  rcases hcase with ⟨j, t, h1, h2⟩ | ⟨_, h2⟩
  · have := (hp _ h2).elim (fun q => absurd q.1 hm) fun q => hcons j q
    subst this
    exact ⟨hf.typeIs, wpAny_getItem_of (strKind_is prog w m _) hf h1 (k _ _ e₂.tokR (.int _ _))⟩
  · exact absurd hin (h2 i)
end Mine
end
section
open PySem PySem.W PySem.Calls PyProof.Rows
set_option Elab.async false
set_option maxRecDepth 100000
set_option linter.unusedVariables false
namespace Mine
variable {prog : Program} {w : World} {K : Frag} {mb : Str → Option Value} {X Y : Addr → Prop} {C : Mem} {s s' s'' : Shared} {A : Around} {env : Env} {ρ : List (Str × PV)} {n : Nat}

/-- a def whose arguments are laid first -/
theorem call_fnB {a : Addr} {fd : FuncData} {names : List Str} {body : List Stmt} {vs : List Value} {ps : List Value → List PV} {D : List Value → Shared → Prop} {R : Value → Shared → Prop} (S : Sit prog w K mb (n + 1) C X A env ρ s) (F : FnAt K a fd names body)
    (hbind : ∀ (s₁ : Shared) (Q : List (Str × Value) → Shared → Prop) (E : Value → Shared → Prop), Ext prog w noX C s s₁ → (∀ vs' s₂, names.length = vs'.length → Ext prog w noX C s₁ s₂ → Reps X s₂.heap vs' (ps vs') → D vs' s₂ → Q (names.zip vs') s₂) → wpAny (model prog w) A.in1 (bindArgs fd ⟨vs, []⟩) Q E s₁)
    (h : ∀ s₀ L s₁ X' vs', Ext prog w noX C s s₀ → D vs' s₀ → Ext prog w noX C s₀ s₁ → Own X' (fEnv fd a L) → (∀ b, X b → X' b) → (∀ b, FrO (fEnv fd a L) b → s₀.heap.objs.size ≤ b) → Sit prog w K mb n C X' (A.deeper (fEnv fd a L)) (fEnv fd a L) (names.zip (ps vs')).reverse s₁ →
      wpAny (model prog w) (A.deeper (fEnv fd a L)) (execs body (fEnv fd a L)) (fun f s' => ∀ v, v = (match f with | .ret v => v | _ => .none) → Ext prog w (FrO (fEnv fd a L)) C s₁ s' ∧ (Ext prog w noX C s₀ s' → R v s')) (fun _ _ => False) s₁) :
    Do prog w C A (call (.ref a) vs) R s := by
  intro s₁ e₁ Q E k
  have S₁ := S.ext e₁
  refine Mine.el1b F.at_ fun o ho hd => ?_
  refine Mine.el4d F.code fun c oc fs t hc1 hc2 hc3 hc4 => ?_
  refine wpAny_call (codeAny_call_function S.rm.room (S₁.base.frag _ _ ho) hd F.co F.gen F.body ⟨c, oc, fs, t, hc1, S₁.base.frag _ _ hc2, hc3, hc4⟩ ?_)
  refine hbind s₁ _ _ e₁ fun vs' s₀ hl e₀ hr hD => ?_
  have S₀ := S₁.ext e₀
  have S₁' : Sit prog w K mb n C X A.in1 env ρ s₀ := ⟨S₀.base, S.rm.in1, S₀.bd, S₀.xo, S₀.co, S₀.fm⟩
  refine newFrame S₁' S.rm.in1 F.kind F.globals F.builtins F.closure hr hl F.kinds fun L s₂ X' e₂ hL O hXX hlo S₂ => ⟨(S₂ A.in1 S.rm.in1).base.noLimit, codeAny_func ?_⟩
  refine wpAny_mono (h s₀ L s₂ X' vs' (e₁.trans e₀) hD e₂ O hXX hlo (S₂ _ S.rm.deeper)) (fun f s' hf => ?_) fun _ _ x => x.elim
  refine Mine.el0b (hf _ rfl) fun e₃ r => ?_
  have e := e₂.fresh e₃ hlo
  exact k _ _ (e₀.trans e) (r e)

/-! small rules -/
theorem ev_item_tup {value idx : Expr} {pos : Pos} {l : List PV} {i : Int} {p : PV} (hv : Ev prog w C X A env value (.tup l) s) (hi : Ev prog w C X A env idx (.int i) s) (h0 : 0 ≤ i) (hp : l[i.toNat]? = some p) (hsz : l.length ≤ sizeLine) : Ev prog w C X A env (.Subscript value idx pos) p s := by
  refine sub_core (T := "tuple") PySem.F.slot_tuple_getitem.lookup hv fun v s₁ e₁ r Q E k => hi s₁ e₁ _ _ fun iv s₂ e₂ ri => ?_
  refine Mine.Rep.elI ri fun _ => ?_
  refine Mine.Rep.elT ((r.ext e₂.ofNo)) fun D items hx hl hr => ?_
  ·
    refine Mine.el1b (hr.get _ hp) fun u h1 h2 => ?_
    have hn : items.size = l.length := by simpa using hr.length
    have hlt : i.toNat < l.length := (List.getElem?_eq_some_iff.mp hp).1
    have h0' : sizeLine = 16777216 := by decide
    have hsq : seqIndex? i items.size = some i.toNat := by
      have h3 : (if i < 0 then i + (items.size : Int) else i) = i := if_neg (by omega)
      simp only [seqIndex?, h3]
      exact if_pos (by simp; omega)
    exact ⟨hl.typeIs, PyProof.Rows.getItem_tuple hl (by omega) (by omega) hsq (by simpa using h1) (k _ _ e₂ h2)⟩
theorem ev_or_str {x y : Expr} {pos : Pos} {a : Str} (h1 : Ev prog w C X A env x (.str a) s) (ha : (a.length != 0) = true) (hsz : a.length ≤ sizeLine) : Ev prog w C X A env (.BoolOp .Or [x, y] pos) (.str a) s := by
  intro s₁ e₁ Q E k
  refine wpAny_Or2 (h1 s₁ e₁ _ _ fun v s₂ e₂ r => ?_)
  refine Mine.Rep.elS r fun _ => ?_
  have h0 : sizeLine = 16777216 := by decide
  refine P.truthy_str (by omega) ?_
  have : ((a.length : Int) != 0) = true := by rw [← ha, Bool.eq_iff_iff]; simp
  rw [this, if_pos rfl]
  exact k _ _ e₂.tokR (.str _ _)
theorem ts_or_first {x : Expr} {rest : List Expr} {pos : Pos} (h : Ts prog w C A env x true s) : Ts prog w C A env (.BoolOp .Or (x :: rest) pos) true s := by
  intro s₁ e₁ Q E k
  refine wpAny_isTrue_BoolOp (wpAny_allTrue_Or_cons (h s₁ e₁ _ _ fun b s₂ e₂ hb => ?_))
  subst hb
  exact k _ _ e₂ rfl
theorem x_expr {e : Expr} {pos : Pos} {rest : List Stmt} {Q : Flow → Shared → Prop} {E : Value → Shared → Prop} (h : wpAny (model prog w) A (eval e env) (fun v s' => v = .none ∧ wpAny (model prog w) A (execs rest env) Q E s') E s)
    (hi : autoParam (interactive env = false) Mine.autoR) (hs : autoParam (swapsWith e none pos.line env = pure false) Mine.autoR) : wpAny (model prog w) A (execs (.Expr e pos :: rest) env) Q E s :=
  wpAny_execs_cons (wpAny_Expr (wpAny_mono h (fun v s' hv => by (refine Mine.el0b hv fun hq4 hq5 => ?_; clear hv; revert hq5; intro hv; obtain rfl := hq4); exact hv) fun _ _ q => q) hi hs)
theorem mem_lookup {α : Type} : ∀ {l : List (Str × α)} {x : Str} {a : α}, l.lookup x = some a → (x, a) ∈ l
  | [], _, _, h => by cases h
  | (y, b) :: l, x, a, h => by
    rw [List.lookup_cons] at h
    cases hb : x == y with
    | true => rw [hb] at h; cases h; rw [beq_iff_eq.mp hb]; exact .head _
    | false => rw [hb] at h; exact .tail _ (mem_lookup h)
/-- a name of the frame around, in a comprehension -/
theorem ev_free {scope : Scope} {cells : List (Str × Addr)} {L : Addr} {X₀ : Addr → Prop} {lo : Nat} {x : Str} {pos : Pos} {p : PV} (S : Sit prog w K mb n C X A (compEnvC scope cells L env) ρ s) (ce : CE scope cells L env Y X₀ lo) (hx : ρ.lookup x = some p) (hs : scope.names.lookup x = some .free)
    (hd : autoParam ((x == ("__debug__" : Str)) = false) Mine.autoD) (hn : autoParam ((x == ("__classdict__" : Str)) = false) Mine.autoD) : Ev prog w C X A (compEnvC scope cells L env) (.Name x pos) p s := by
  refine ev_var S hx (.inr ⟨?_, ce.fr x (mem_lookup hs)⟩) hd hn
  have hk : (compEnvC scope cells L env).kindOf x = (relabel scope env).names.lookup x := rfl
  rw [hk, lookup_relabel, hs]
  simp only [Option.map_some]
  split <;> simp
theorem ev_loc {scope : Scope} {cells : List (Str × Addr)} {L : Addr} {x : Str} {pos : Pos} {p : PV} (S : Sit prog w K mb n C X A (compEnvC scope cells L env) ρ s) (hx : ρ.lookup x = some p) (hs : scope.names.lookup x = some .local)
    (hd : autoParam ((x == ("__debug__" : Str)) = false) Mine.autoD) (hn : autoParam ((x == ("__classdict__" : Str)) = false) Mine.autoD) : Ev prog w C X A (compEnvC scope cells L env) (.Name x pos) p s := by
  refine ev_var S hx (.inl ?_) hd hn
  have hk : (compEnvC scope cells L env).kindOf x = (relabel scope env).names.lookup x := rfl
  rw [hk, lookup_relabel, hs]
  rfl
end Mine
end
section
open PySem PySem.W PySem.Calls PyProof.Rows
set_option Elab.async false
set_option maxRecDepth 100000
set_option linter.unusedVariables false
namespace Mine
variable {prog : Program} {w : World} {K : Frag} {mb : Str → Option Value} {X Y : Addr → Prop} {C : Mem} {s s' s'' : Shared} {A : Around} {env : Env} {ρ : List (Str × PV)} {n : Nat}

theorem Mut.monoX {a : Addr} {l : List PV} {h : Heap} (m : Mut X a l h) (hY : ∀ b, Y b → X b ∨ h.objs.size ≤ b) : Mut Y a l h := let ⟨items, hl, hr⟩ := m; ⟨items, hl, hr.monoX hY⟩
theorem evm_list {es : List Expr} {pos : Pos} {ps : List PV} (S : Sit prog w K mb n C X A env ρ s) (h : Evs prog w C X A env es ps s) (hsz : ps.length ≤ sizeLine) : EvM prog w C X A env (.List es pos) ps s := by
  intro s₁ e₁ Q E k
  refine List_ ?_
  rw [h.1, backTo_plain]
  refine h.2 s₁ e₁ _ _ fun vs s₂ e₂ r => wpAny_newObj_type (k _ _ (e₂.trans .push) ⟨_, rfl, (e₁.trans e₂).size, vs.toArray, ⟨_, Heap.get?_push_size _ rfl⟩, ?_⟩) ?_
  · exact (r.monoX fun b hb => hb.imp id (by rintro rfl; exact Nat.le_refl _)).keeps fun _ _ e => Heap.get?_push_of_some _ e
  · show vs.toArray.size ≤ sizeLine
    rw [List.size_toArray, r.length]; exact hsz

/-- x.append(e) -/
theorem x_append {x : Str} {px apos cpos pos : Pos} {e : Expr} {rest : List Stmt} {a : Addr} {l : List PV} {p : PV} {pl : Sem Bool} {Q : Flow → Shared → Prop} {E : Value → Shared → Prop} (S : Sit prog w K mb n C X A env ρ s) (hx : ρ.lookup x = some (.val (.ref a))) (hk : env.kindOf x = some .local)
    (hm : Mut X a l s.heap) (hX : X a) (hfa : ¬ FrO env a) (he : Ev prog w C X A env e p s) (hsz : l.length ≤ sizeLine)
    (k : ∀ s', Ext prog w (fun b => b = a) C s s' → Sit prog w K mb n C X A env ρ s' → Mut X a (l ++ [p]) s'.heap → wpAny (model prog w) A (execs rest env) Q E s')
    (hst : autoParam (starEach [e] env = [(false, eval e env)]) Mine.autoR)
    (hev : autoParam (eval (.Call (.Attribute (.Name x px) "append" apos) [e] [] cpos) env = (do
      let ov ← eval (.Name x px) env
      standAt apos.atName
      let (f, first) ← holding [ov] (getMethod ov "append" pl)
      callWith cpos f first (backTo cpos (starEach [e] env)) [])) Mine.autoR)
    (hi : autoParam (interactive env = false) Mine.autoR) (hs : autoParam (swapsWith (.Call (.Attribute (.Name x px) "append" apos) [e] [] cpos) none pos.line env = pure false) Mine.autoR) (hd : autoParam ((x == ("__debug__" : Str)) = false) Mine.autoD) :
    wpAny (model prog w) A (execs (.Expr (.Call (.Attribute (.Name x px) "append" apos) [e] [] cpos) pos :: rest) env) Q E s := by
  refine x_expr ?_ hi hs
  refine Mine.el1b S.fm.ns fun m hn hv => ?_; try k_fold
  refine Mine.el1b (hv x _ hx hk) fun v h1 h2 => ?_; try k_fold
  cases h2
  refine MethodCall_ (wpAny_Name (wpAny_loadName_local S.fm.kind hk hn h1 ?_) hd) hev
  (refine Mine.el1b hm fun items hl hr => ?_; try clear hm)
  refine Mine.el1a (id hl) fun j ho => ?_; try k_fold
  refine getMethod_list_append ho rfl rfl ?_; try k_fold
  have hE : Evs prog w C X A env [e] [p] s := evs_cons he evs_nil hst
  show wpAny _ A (callWith cpos (.builtin "list.append") [.ref a] (backTo cpos (starEach [e] env)) []) _ _ s
  rw [hE.1, backTo_plain]
  refine callWith_builtin plain_any (do_evalArgs hE.2 s .refl _ _ fun av s₁ e₁ r => ?_)
  obtain ⟨pos', kw⟩ := av
  (refine Mine.el0b r fun hq2 hq1 => ?_; clear r; revert hq2; intro r; obtain rfl := hq1)
  refine Mine.Reps.elC r fun _ _ r1 r2 => ?_
  ·
    obtain ⟨_, rfl⟩ := r2.inv
    have S₁ := S.ext e₁
    have hl₁ : s₁.heap.PlainList a items := ⟨j, e₁.keepD ho (fun q => q) (by first | exact fun _ _ h => by cases h | exact fun _ h => by cases h | nofun)⟩
    have hlen : items.size = l.length := by simpa using hr.length
    refine wpAny_list_append_plain hl₁ (fun h' hl' hs' => ⟨rfl, ?_⟩) (by omega)
    have e₂ : Ext prog w (fun b => b = a) C s₁ { s₁ with heap := h' } := Ext.sameBut (t := s₁.toks) hs' rfl
    have e₂X : Ext prog w X C s₁ { s₁ with heap := h' } := e₂.mono fun b h => h ▸ hX
    refine k _ (e₁.ofNo.trans e₂) (S₁.extZ e₂ (fun b h => h ▸ hX) (fun q => hfa (.inl q.symm)) fun y c hc q => ?_) ⟨_, hl', ?_⟩
    · (refine Mine.el1b (S₁.fm.cell y c hc) fun ov hq5 _ => ?_; obtain ⟨o, ho', hd'⟩ := hq5)
      (refine Mine.el1a hl₁ fun n' ho'' => ?_; try clear hl₁)
      rw [q, ho''] at ho'; cases ho'; cases hd'
    · rw [Array.toList_push]
      exact ((hr.ext e₁.ofNo).ext e₂X).append (.cons (r1.ext e₂X) .nil)
end Mine
end
section
open PySem PySem.W PySem.Calls PyProof.Rows
set_option Elab.async false
set_option maxRecDepth 100000
set_option linter.unusedVariables false
namespace Mine
variable {prog : Program} {w : World} {K : Frag} {mb : Str → Option Value} {X Y : Addr → Prop} {C : Mem} {s s' s'' : Shared} {A : Around} {env : Env} {ρ : List (Str × PV)} {n : Nat}

/-- a def that may also change what stood before the call (at Z) -/
theorem call_raw {a : Addr} {fd : FuncData} {names : List Str} {body : List Stmt} {vs vs' : List Value} {ps : List PV} {Z : Addr → Prop} {Q : Value → Shared → Prop} {E : Value → Shared → Prop} (S : Sit prog w K mb (n + 1) C X A env ρ s) (F : FnAt K a fd names body) (hr : Reps X s.heap vs' ps) (hl : names.length = vs'.length)
    (hbind : ∀ (Q : List (Str × Value) → Shared → Prop) (E : Value → Shared → Prop), Q (names.zip vs') s → wpAny (model prog w) A.in1 (bindArgs fd ⟨vs, []⟩) Q E s)
    (h : ∀ L s₁ X', Ext prog w noX C s s₁ → Own X' (fEnv fd a L) → (∀ b, X b → X' b) → (∀ b, X' b → X b ∨ FrO (fEnv fd a L) b) → (∀ b, FrO (fEnv fd a L) b → s.heap.objs.size ≤ b) → Sit prog w K mb n C X' (A.deeper (fEnv fd a L)) (fEnv fd a L) (names.zip ps).reverse s₁ →
      wpAny (model prog w) (A.deeper (fEnv fd a L)) (execs body (fEnv fd a L)) (fun f s' => ∀ v, v = (match f with | .ret v => v | _ => .none) → Ext prog w (fun b => FrO (fEnv fd a L) b ∨ Z b) C s₁ s' ∧ (Ext prog w Z C s s' → Q v s')) (fun _ _ => False) s₁) :
    wpAny (model prog w) A (call (.ref a) vs) Q E s := by
  refine Mine.el1b F.at_ fun o ho hd => ?_
  refine Mine.el4d F.code fun c oc fs t hc1 hc2 hc3 hc4 => ?_
  refine wpAny_call (codeAny_call_function S.rm.room (S.base.frag _ _ ho) hd F.co F.gen F.body ⟨c, oc, fs, t, hc1, S.base.frag _ _ hc2, hc3, hc4⟩ ?_)
  have S' : Sit prog w K mb n C X A.in1 env ρ s := ⟨S.base, S.rm.in1, S.bd, S.xo, S.co, S.fm⟩
  refine hbind _ _ (newFrame S' S.rm.in1 F.kind F.globals F.builtins F.closure hr hl F.kinds fun L s₂ X' e₂ hL O hXX hlo S₂ => ⟨(S₂ A.in1 S.rm.in1).base.noLimit, codeAny_func ?_⟩)
  have O2 : Own (fun b => X b ∨ FrO (fEnv fd a L) b) (fEnv fd a L) := ⟨fun b q => .inr q, O.ap⟩
  have S₃ : Sit prog w K mb n C (fun b => X b ∨ FrO (fEnv fd a L) b) (A.deeper (fEnv fd a L)) (fEnv fd a L) (names.zip ps).reverse s₂ := (S₂ _ S.rm.deeper).ofSub fun b q => Or.elim q (hXX b) (O.own b)
  refine wpAny_mono (h L s₂ _ e₂ O2 (fun b q => .inl q) (fun b q => q) hlo S₃) (fun f s' hf => ?_) fun _ _ x => x.elim
  refine Mine.el0b (hf _ rfl) fun e₃ r => ?_
  exact r (e₂.ofNo.freshZ e₃ fun b q => q.elim (fun q => .inr (hlo b q)) .inl)
end Mine
end
section
open PySem PySem.W PySem.Calls PyProof.Rows
set_option Elab.async false
set_option linter.unusedVariables false
namespace Mine
/-! what _ellipsis_match computes -/
noncomputable def emGo (got : Str) (hi : Int) : List Str → Int → Bool
  | [], _ => true
  | y :: ys, lo => if findP got y lo hi < 0 then false else emGo got hi ys (findP got y lo hi + y.length)
noncomputable def emC (got : Str) (lo : Nat) (ws1 : List Str) (b : Str) : Bool :=
  if b.length != 0 && !Txt.endswith got b then false else
  if (lo : Int) > got.length - b.length then false else emGo got (got.length - b.length) (if b.length != 0 then ws1.dropLast else ws1) lo
noncomputable def emB (got : Str) (a : Str) (ws : List Str) : Bool :=
  if a.length != 0 && !Txt.startswith got a then false else
  emC got a.length (if a.length != 0 then ws.tail else ws) ((if a.length != 0 then ws.tail else ws).getLastD ⟨#[]⟩)
noncomputable def emW (ws : List Str) (got : Str) : Bool := emB got (ws.headD ⟨#[]⟩) ws
theorem emW_no1 {got w0 : Str} {wr : List Str} (h : (w0.length != 0 && !Txt.startswith got w0) = true) : emW (w0 :: wr) got = false := by
  show emB got w0 (w0 :: wr) = false
  unfold emB; rw [if_pos h]
theorem emW_1 {got w0 wl : Str} {wr ws1 : List Str} (h : (w0.length != 0 && !Txt.startswith got w0) = false) (hws1 : (if w0.length != 0 then wr else w0 :: wr) = ws1) (hne : ws1 ≠ []) (hwd : ws1.getLast hne = wl) : emW (w0 :: wr) got = emC got w0.length ws1 wl := by
  show emB got w0 (w0 :: wr) = _
  unfold emB
  rw [if_neg (by rw [h]; decide), List.tail_cons, hws1, List.getLastD_eq_getLast?, List.getLast?_eq_some_getLast hne, hwd]
  rfl
theorem emC_no {got wl : Str} {ws1 : List Str} {lo : Nat} (h : (wl.length != 0 && !Txt.endswith got wl) = true) : emC got lo ws1 wl = false := by unfold emC; rw [if_pos h]
theorem emC_1 {got wl : Str} {ws1 ws2 : List Str} {lo : Nat} (h : (wl.length != 0 && !Txt.endswith got wl) = false) (hws2 : (if wl.length != 0 then ws1.dropLast else ws1) = ws2) : emC got lo ws1 wl = if (lo : Int) > got.length - wl.length then false else emGo got (got.length - wl.length) ws2 lo := by
  unfold emC; rw [if_neg (by rw [h]; decide), hws2]
noncomputable def emPos (got : Str) (hi lo : Int) (ws : List Str) : Nat → Int
  | 0 => lo
  | i + 1 => match ws[i]? with | some y => findP got y (emPos got hi lo ws i) hi + y.length | none => 0
theorem emGo_step {got : Str} {hi lo : Int} {ws : List Str} {i : Nat} {y : Str} (hy : ws[i]? = some y) (h : emGo got hi ws lo = emGo got hi (ws.drop i) (emPos got hi lo ws i)) :
    (findP got y (emPos got hi lo ws i) hi < 0 → emGo got hi ws lo = false) ∧ (¬ findP got y (emPos got hi lo ws i) hi < 0 → emGo got hi ws lo = emGo got hi (ws.drop (i + 1)) (emPos got hi lo ws (i + 1))) := by
  have hd : ws.drop i = y :: ws.drop (i + 1) := by
    obtain ⟨hlt, rfl⟩ := List.getElem?_eq_some_iff.mp hy
    exact List.drop_eq_getElem_cons hlt
  rw [h, hd]
  simp only [emGo, emPos, hy]
  exact ⟨fun q => if_pos q, fun q => if_neg q⟩
end Mine
end
section
open PySem PySem.W PySem.Calls PyProof.Rows
set_option Elab.async false
set_option linter.unusedVariables false
namespace Mine
/-! what names computes -/
noncomputable def nmB (mods dirs : List Str) (fn : Option Str) (m : Str) : Bool :=
  decide (m ∈ mods) || mods.any (fun y => Txt.startswith m (y ++ ".")) || (match fn with | none => true | some f => dirs.any fun d => Txt.startswith f (d ++ "/"))
noncomputable def nmR (mods dirs : List Str) (fn : Option Str) (m : Str) : Int := if nmB mods dirs fn m then 1 else 0
noncomputable def fnPV : Option Str → PV
  | none => .none
  | some f => .str f
theorem any_same {xs l : List Str} {f : Str → Bool} (h : ∀ x, x ∈ xs ↔ x ∈ l) : xs.any f = l.any f := by
  rw [Bool.eq_iff_iff, List.any_eq_true, List.any_eq_true]
  exact ⟨fun ⟨x, a, b⟩ => ⟨x, (h x).mp a, b⟩, fun ⟨x, a, b⟩ => ⟨x, (h x).mpr a, b⟩⟩
theorem len_sz1 {i : Nat} (h : i ≤ 1000) {j : Nat} (hj : autoParam (j ≤ 1) Mine.autoD) : i + j ≤ sizeLine := Nat.le_trans (Nat.add_le_add h hj) (by decide)
end Mine
end
section
open PySem PySem.W PySem.Calls PyProof.Rows
set_option Elab.async false
set_option linter.unusedVariables false
namespace Mine
/-! plain words of both laws -/
noncomputable def partsP (word sign : Str) : List Str := word.cps.toList.map fun c => if (⟨#[c]⟩ : Str) = sign then sign else sign ++ sign
/-- _ellipsis_match, its answer known -/
structure EmOk (want got : Str) (r : Bool) : Prop where
  ex : ∃ ws, Txt.contains want "..." = true ∧ Txt.split want "..." = ws ∧ 2 ≤ ws.length ∧ want.length ≤ 1000 ∧ got.length ≤ 1000 ∧ ws.length ≤ 1000 ∧ (∀ y ∈ ws, y.length ≤ 1000) ∧ emW ws got = r
noncomputable def keptP (comps : List Str) : List Str := comps.filter fun c => c.length != 0 && !decide (c = ".")
noncomputable def normP (p : Str) : Str := "/" ++ Txt.join "/" (keptP (Txt.split (spick p (some 1) none none) "/"))
theorem str_len_app (x y : Str) : (x ++ y).length = x.length + y.length := by
  show (x.cps ++ y.cps).size = _
  rw [Array.size_append]; rfl
/-- a path that normpath takes to r -/
structure NormOk (p r : Str) : Prop where
  ex : ∃ comps, p.length ≤ 1000 ∧ (p.length != 0) = true ∧ spick p none (some 1) none = "/" ∧ spick p (some 1) (some 2) none ≠ "/" ∧ (spick p (some 1) none none).length ≤ 1000 ∧ Txt.split (spick p (some 1) none none) "/" = comps ∧ comps.length ≤ 1000 ∧ (∀ c ∈ comps, c.length ≤ 1000 ∧ c ≠ "..") ∧ JoinOk "/" (keptP comps) = true ∧ (Txt.join "/" (keptP comps)).length ≤ 100000 ∧ r = "/" ++ Txt.join "/" (keptP comps)
noncomputable def leadPath (word sign : Str) : Str := Txt.join "/" (("/q" :: "." :: partsP word sign))
noncomputable def fileP (σ lack : Str) : Str := Txt.join "/" ("/q" :: (partsP lack σ ++ [("f" : Str)]))
end Mine
end
section
open PySem PySem.W PySem.Calls PyProof.Rows
set_option Elab.async false
set_option linter.unusedVariables false
namespace Mine
/-! what _law_grown computes -/
noncomputable def chrs (x : Str) : List Str := x.cps.toList.map fun c => ⟨#[c]⟩
/-! what _law_longest computes -/
end Mine
end
section
open PySem PySem.W PySem.Calls PyProof.Rows
set_option Elab.async false
set_option maxRecDepth 100000
set_option linter.unusedVariables false
namespace Mine
variable {prog : Program} {w : World} {K : Frag} {mb : Str → Option Value} {X Y : Addr → Prop} {C C' : Mem} {s s' s'' : Shared} {A : Around} {env : Env} {ρ : List (Str × PV)} {n : Nat}

/-! a new memo -/
theorem Ext.newC {Z : Addr → Prop} (h : Ext prog w Z C s s') (h' : Ext prog w Z C' s' s'') (hC : ∀ a, a < s.heap.objs.size → C' a = C a) : Ext prog w Z C s s'' := by
  refine ⟨Nat.le_trans h.size h'.size, fun b o e hx => ?_, h'.gens.trans h.gens, h'.os.trans h.os⟩
  have hb : C' b = C b := hC b (Heap.lt_size e)
  rcases h.keep b o e hx with k | ⟨P, hP, es, o', more, m1, k, m2, hm⟩
  · rcases h'.keep b o k hx with k' | ⟨P, hP, r⟩
    · exact .inl k'
    · exact .inr ⟨P, hb ▸ hP, r⟩
  · rcases h'.keep b o' k hx with k' | ⟨P', hP', es', o'', more', m1', k', m2', hm'⟩
    · exact .inr ⟨P, hP, es, o', more, m1, k', m2, hm⟩
    · rw [hb, hP] at hP'; cases hP'
      have := m1'.unique m2; subst this
      refine .inr ⟨P, hP, es, o'', more ++ more', m1, k', by rw [← List.append_assoc]; exact m2', fun p hp => ?_⟩
      rcases List.mem_append.mp hp with hp | hp
      · exact hm p hp
      · exact hm' p hp
/-- the memo of a new reader -/
noncomputable def NewMemo (prog : Program) (w : World) (h : Heap) (c : Addr) : Prop := ∃ o, h.get? c = some o ∧ MemoEs prog w o [("<string>", 1)]
theorem NewMemo.ok {h : Heap} {c : Addr} {P : Str → Int → Prop} (m : NewMemo prog w h c) : MemoOk prog w h c P := by
  (refine Mine.el1b m fun o ho he => ?_; try clear m)
  exact ⟨o, _, ho, he, fun p hp => by rw [List.mem_singleton] at hp; subst hp; exact .inl ⟨rfl, rfl⟩⟩
theorem NewMemo.ext {Z : Addr → Prop} {c : Addr} (m : NewMemo prog w s.heap c) (e : Ext prog w Z C s s') (hZ : ¬ Z c) (hC : C c = none) : NewMemo prog w s'.heap c := let ⟨o, ho, he⟩ := m; ⟨o, e.keepAt ho hZ hC, he⟩
/-- an if expression that tells more -/
theorem ev_ifexpR {test body orelse : Expr} {pos : Pos} {b : Bool} {R : Value → Shared → Prop} (ht : Ts prog w C A env test b s) (h1 : b = true → Do prog w C A (eval body env) R s) (h2 : b = false → Do prog w C A (eval orelse env) R s) : Do prog w C A (eval (.IfExp test body orelse pos) env) R s := by
  intro s₁ e₁ Q E k
  refine wpAny_IfExp (ht s₁ e₁ _ _ fun b' s₂ e₂ hb => ?_)
  subst hb
  cases b' with
  | true => exact h1 rfl s₂ (e₁.trans e₂) _ _ fun v s₃ e₃ r => k v s₃ (e₂.trans e₃) r
  | false => exact h2 rfl s₂ (e₁.trans e₂) _ _ fun v s₃ e₃ r => k v s₃ (e₂.trans e₃) r

/-- an object that is being filled -/
noncomputable def InsM (C : Mem) (cl : Addr) (h : Heap) (x dx : Addr) (mA : Str → Option Value) : Prop :=
  ∃ o, h.get? x = some o ∧ o.cls = .ref cl ∧ o.data = .plain ∧ o.dict = some dx ∧ dx ≠ x ∧ h.Ns1 dx mA ∧ C dx = none
theorem InsM.ext {cl x dx : Addr} {Z : Addr → Prop} {mA : Str → Option Value} (I : InsM C cl s.heap x dx mA) (e : Ext prog w Z C s s') (h1 : ¬ Z x) (h2 : ¬ Z dx) : InsM C cl s'.heap x dx mA := by
  (refine Mine.el1g I fun o ho hc hd hdx hne hn h3 => ?_; try clear I)
  exact ⟨o, e.keepD ho h1 (by rw [hd]; first | exact fun _ _ h => by cases h | exact fun _ h => by cases h | nofun), hc, hd, hdx, hne, hn.at fun o ho => e.keepAt ho h2 h3, h3⟩
/-- self.name = value -/
theorem x_setattr {cl N x dx : Addr} {mN mA : Str → Option Value} {ns : List Str} {o value : Expr} {name : Str} {apos pos : Pos} {rest : List Stmt} {R : Value → Shared → Prop} {Q : Flow → Shared → Prop} {E : Value → Shared → Prop} (S : Sit prog w K mb n C X A env ρ s) (O : Own X env) (H : ClsAt K cl N mN) (I : InsM C cl s.heap x dx mA)
    (hxX : X x) (hdX : X dx) (hxF : ¬ FrO env x) (hdF : ¬ FrO env dx) (hv : Do prog w C A (eval value env) R s) (ho : Ev prog w C X A env o (.val (.ref x)) s) (hna : mN name = none) (hB : typeLookup (.type "object") name = pure none) (hxc : x ≠ cl) (hw : PySem.Within mA ns) (hns : ns.length ≤ sizeLine)
    (hcell : ∀ y c, env.cells.lookup y = some c → c ≠ x ∧ c ≠ dx)
    (hs : swapsWithSole [.Attribute o name apos] value pos.line env = pure false) (hsw : swappedStores [.Attribute o name apos] value env = pure none)
    (k : ∀ v s₁ s', R v s₁ → Ext prog w noX C s s₁ → Ext prog w (fun b => b = x ∨ b = dx) C s₁ s' → Sit prog w K mb n C X A env ρ s' → InsM C cl s'.heap x dx (fun y => if y = name then some v else mA y) → wpAny (model prog w) A (execs rest env) Q E s') :
    wpAny (model prog w) A (execs (.Assign [.Attribute o name apos] value pos :: rest) env) Q E s := by
  refine wpAny_execs_cons ?_; try k_fold
  rw [exec_Assign]
  refine wpAny_bind (wpAny_standAt ?_)
  rw [hs]
  refine wpAny_bind (wpAny_pure ?_)
  rw [if_neg (by decide)]
  refine wpAny_bind (hv s .refl _ _ fun v s₁ e₁ rv => ?_)
  rw [hsw]
  refine wpAny_bind (wpAny_pure ?_)
  show wpAny _ A (do assignAll v [assign (.Attribute o name apos) env]; pure Flow.next) _ _ s₁
  refine wpAny_bind ?_; try k_fold
  show wpAny _ A (assign (.Attribute o name apos) env v) _ _ s₁
  rw [arm_assign_Attribute]
  refine wpAny_bind (wpAny_holding (ho.run e₁ fun ov s₂ e₂ r => wpAny_bind (wpAny_standAt (wpAny_bind (wpAny_holding ?_)))))
  refine Mine.Rep.elV r fun _ => ?_; try k_fold
  have S₂ := S.ext (e₁.trans e₂)
  refine Mine.el1g (I.ext (e₁.trans e₂) (fun q => q) (fun q => q)) fun oo hoo hc hd hdx hne hn hCd => ?_; try k_fold
  obtain ⟨nm, q, bs, sn, sub, col, dd, k0, k1, k2, k3, k5, hcl⟩ := H.cls
  have hC := S₂.base.frag _ _ hcl
  have hnN := H.nsH S₂.base.frag
  have hI : s₂.heap.Inst x cl mA := ⟨oo, hoo, hc, (by rw [hd]; first | exact fun _ _ h => by cases h | exact fun _ h => by cases h | nofun), .inr ⟨dx, hdx, hne, hn⟩⟩
  refine with_size ?_; try k_fold
  obtain ⟨h, g, d, t, os⟩ := s₂
  refine store_attr F.store_object hC hnN H.sa hna hB hxc hI (fun h' tk' hI' hk hx' hsz => ?_) hw hns
  refine wpAny_release (wpAny_pure ?_)
  have e₃ : Ext prog w (fun b => b = x ∨ b = dx) C ⟨h, g, d, t, os⟩ ⟨h', g, d, tk', os⟩ := ⟨hsz, fun b o e hb => .inl (hk b o (fun q => hb (.inl q)) (fun o₀ dx' h1 h2 q => hb (.inr (by
    rw [hoo] at h1; cases h1; rw [hdx] at h2; cases h2; exact q))) e), rfl, rfl⟩
  refine k v s₁ _ rv e₁ (e₂.ofNo.trans e₃) (S₂.extZ e₃ (fun b q => q.elim (fun q => q ▸ hxX) fun q => q ▸ hdX) (fun q => q.elim (fun q => hxF (.inl q.symm)) fun q => hdF (.inl q.symm)) fun y c hy q => ?_) ?_
  · exact q.elim (hcell y c hy).1 (hcell y c hy).2
  · refine Mine.el1e (hx' oo hoo) fun o₁ ho₁ hc₁ hd₁ _ hdx₁ => ?_; try k_fold
    (refine Mine.el1d hI' fun o₂ ho₂ _ _ hh => ?_; try clear hI')
    obtain rfl := Option.some.inj (ho₁.symm.trans ho₂)
    refine ⟨o₁, ho₁, hc₁.trans hc, hd₁.trans hd, hdx₁ dx hdx, hne, ?_, hCd⟩
    rcases hh with ⟨h0, _⟩ | ⟨d', h1, _, h2⟩
    · rw [hdx₁ dx hdx] at h0; cases h0
    · rw [hdx₁ dx hdx] at h1; cases h1; exact h2
end Mine
end
section
open PySem PySem.W PySem.Calls PyProof.Rows
set_option Elab.async false
set_option maxRecDepth 100000
set_option linter.unusedVariables false
namespace Mine
variable {prog : Program} {w : World} {K : Frag} {mb : Str → Option Value} {X Y : Addr → Prop} {C C' : Mem} {s s' s'' : Shared} {A : Around} {env : Env} {ρ : List (Str × PV)} {n : Nat}

/-- {'<string>': 1} -/
theorem do_memo {pos p1 p2 : Pos} {k1 k2 : Nat} : Do prog w C A (eval (.Dict [some (.Constant (.str "<string>") k1 p1)] [.Constant (.int 1) k2 p2] pos) env) (fun v s' => ∃ c, v = .ref c ∧ s.heap.objs.size ≤ c ∧ NewMemo prog w s'.heap c) s := by
  intro s₁ e₁ Q E k
  refine with_size (wpAny_Dict_walk (knd := strKind prog w) rfl rfl (by nofun) (show 1 ≤ 15 by decide) (pairTrees_cons_walk ?_))
  have e₂ : Ext prog w noX C s₁ { s₁ with heap := s₁.heap.push { cls := .type "dict", data := .dict #[] } } := .push
  refine ev_cstr (X := noX) (C := noMem) _ .refl _ _ fun kv s₂ e₃ rk => ev_cint (X := noX) (C := noMem) _ .refl _ _ fun vv s₃ e₄ rv => pairTrees_nil_walk ?_
  (refine Mine.el1a rk.inv fun tk hq1 => ?_; obtain rfl := hq1)
  (refine Mine.el1a rv.inv fun tv hq2 => ?_; obtain rfl := hq2)
  have hnew : (s₁.heap.push { cls := .type "dict", data := .dict #[] }).get? s₁.heap.objs.size = some { cls := .type "dict", data := .dict #[] } := Heap.get?_push_size _ rfl
  refine ⟨[("<string>", .int 1 tv)], ?_, ?_, fun h' hd hs hsz => k _ _ ?_ ⟨_, rfl, e₁.size, ?_⟩⟩
  · exact ⟨strKind_is prog w _ tk, rfl, trivial⟩
  · refine Mine.el3b (Heap.DictOf.new (knd := strKind prog w) s₁.heap) fun o es ep ho r => ?_
    exact ⟨o, es, ep, e₄.keepAt (e₃.keepAt ho (fun q => q) rfl) (fun q => q) rfl, r⟩
  · exact (e₂.trans (e₃.ofPure.trans e₄.ofPure)).fresh (Ext.sameBut (X := fun b => b = s₁.heap.objs.size) hs rfl) fun a q => q ▸ Nat.le_refl _
  · refine Mine.el1b (Heap.dictOf_iff.mp hd) fun o ho hh => ?_
    exact ⟨o, ho, [("<string>", 1, tv)], hh, rfl⟩

noncomputable def lstPV : Option (List Str) → PV
  | none => .none
  | some l => .list (l.map .str)
theorem ts_lst {x : Str} {pos : Pos} {ol : Option (List Str)} (h : Ev prog w C X A env (.Name x pos) (lstPV ol) s) (hl : (ol.getD []).length ≤ sizeLine) : Ts prog w C A env (.Name x pos) (!(ol.getD []).isEmpty) s := by
  intro s₁ e₁ Q E k
  show wpAny _ A (eval (.Name x pos) env >>= _) _ _ _
  refine wpAny_bind (h s₁ e₁ _ _ fun v s₂ e₂ r => wpAny_bind (wpAny_standAt (wpAny_holding ?_)))
  cases ol with
  | none => refine Mine.Rep.elO r fun _ => ?_; exact truthy_none (k _ _ e₂ rfl)
  | some l =>
    refine Mine.Rep.elL r fun a items hx hl' hr => ?_
    ·
      have hn : items.size = l.length := by simpa using hr.length
      have h0 : sizeLine = 16777216 := by decide
      have hl2 : l.length ≤ sizeLine := hl
      refine wpAny_truthy_list hl' (by omega) ?_
      have : items.isEmpty = l.isEmpty := by
        cases l with
        | nil => simp at hn; simp [hn]
        | cons a b => simp at hn; simp [Array.isEmpty, hn]
      rw [this]
      exact k _ _ e₂.tokR rfl
/-- set() -/
theorem do_set0 : Do prog w C A (call (.type "set") []) (fun v s' => ∃ a, v = .ref a ∧ s.heap.objs.size ≤ a ∧ SetW prog w s'.heap a []) s := by
  intro s₁ e₁ Q E k
  refine call_set_0 fun led => k _ _ .push ⟨_, rfl, e₁.size, #[], 0, .fresh 0 0 led, ⟨_, Heap.get?_push_size _ rfl, ⟨rfl, rfl, rfl⟩, rfl⟩, fun e he => by simp at he, fun x => by simp, by decide, rfl, fun q => (q rfl).elim⟩
/-- set(l) -/
theorem do_set1 {vs : List Value} {l : List Str} (hh : A.handled = none) (r : Reps X s.heap vs [.list (l.map .str)]) (hl : l.length ≤ 4000) : Do prog w C A (call (.type "set") vs) (fun v s' => ∃ a, v = .ref a ∧ s.heap.objs.size ≤ a ∧ SetW prog w s'.heap a l) s := by
  refine Mine.Reps.elC r fun _ _ r1 r2 => ?_
  ·
    obtain ⟨_, rfl⟩ := r2.inv
    intro s₁ e₁ Q E k
    obtain ⟨d, rfl, hx, items, hil, tl, ht, hm⟩ := (r1.ext e₁.ofNo).listAt
    have hlen : items.size = l.length := by rw [← Array.length_toList, ht, ← hm]; simp [strValues]
    refine with_size (call_set1 hh hil (fun i v hv => ?_) hlen (Nat.lt_of_le_of_lt (Nat.succ_le_succ hl) (by decide)) fun h' tk hS hk hsz => k _ _ (.ofKeep hsz (fun b o e => hk b o (Heap.lt_size e) e) rfl rfl) ⟨_, rfl, e₁.size, hS.use⟩)
    rw [← Array.getElem?_toList, ht] at hv
    simp only [strValues, List.getElem?_map, Option.map_eq_some_iff] at hv
    (refine Mine.el1b hv fun hq8 h1 hq9 => ?_; try clear hv; obtain ⟨x, t⟩ := hq8; obtain rfl := hq9)
    exact ⟨x, t, by rw [← hm, List.getElem?_map, h1]; rfl, rfl⟩
end Mine
end
section
open PySem PySem.W PySem.Calls PyProof.Rows
set_option Elab.async false
set_option maxRecDepth 100000
set_option linter.unusedVariables false
namespace Mine
section
variable {prog : Program} {w : World} {A : Around} {E : Value → Shared → Prop} {h : Heap} {g : Array GenState} {d : Drawn} {t : Nat} {os : OsState}
variable {nm q : Str} {C N : Addr} {bs : List Value} {sn : List Str} {sub : List Value} {col : Option Bool} {dd : Option Addr} {k0 k1 k2 k3 k5 : Option Value} {newId : String}
/-- a class called: the object stands right behind the heap's end -/
theorem make_at (F : ObjNewFacts newId) {mN : Str → Option Value} {rest : List Value} {fI : Addr} {oI : Obj} {Q : Value → Shared → Prop}
    (hC : h.get? C = some (excClassObj nm q C N bs [.type "object"] true sn sub false col dd k0 k1 k2 k3 k5 newId)) (hn : h.Ns N mN) (hi : mN "__init__" = some (.ref fI)) (hfI : h.get? fI = some oI) (hfc : oI.cls = .type "function")
    (hq : wpAny (model prog w) (A.under (.builtin "type.__call__" ⟨.ref C :: rest, []⟩)) (call (.ref fI) (.ref (h.objs.size + 1) :: rest)) (fun r s' => r = .none ∧ Q (.ref (h.objs.size + 1)) s') E ⟨(h.push { cls := .type "dict", data := .dict #[] }).push { cls := .ref C, dict := some h.objs.size, data := .plain }, g, d, t, os⟩) :
    wpAny (model prog w) A (call (.ref C) rest) Q E ⟨h, g, d, t, os⟩ := by
  have f1 := tc_lookup
  have f2 := tc_bind (.ref C)
  have hT : (⟨h, g, d, t, os⟩ : Shared).TypeIs (.ref C) "type" := ⟨_, hC, rfl⟩
  refine wpAny_call (codeAny_of_tree ?_)
  show wpAny _ _ (callAny (.ref C) _) _ _ _
  repeat (any_goals (first | assumption | with_reducible refine wpAny_loadPart_at hC ?_ | wp_step))
  refine ⟨rfl, ?_⟩
  refine codeAny_call_builtin_at (Code.quiet_builtin _ (by decide +kernel)) entry_typeCall (wpAny_check_type_call_sub hC ?_)
  have hmro : mroOf (.type "object") = pure [.type "object"] := by kernel_rfl
  have hlk : typeLookup (.type "object") "__init__" = pure (some (.builtin "object.__init__")) := by rw [typeLookup_type, builtinLookup_eq_fast]; kernel_rfl
  repeat (first | with_reducible refine wpAny_loadPart_at hC ?_ | with_reducible refine wpAny_madeBy_exc hC ?_ | wp_step)
  refine codeAny_call_builtin_code (Code.quiet_builtin _ F.quiet) (wpAny_check_obj_new F hC ?_)
  refine codeAny_obj_new F hC hn hi ?_; try k_fold
  show wpAny _ _ _ _ _ _
  generalize hh : (h.push { cls := .type "dict", data := .dict #[] }).push { cls := .ref C, dict := some h.objs.size, data := .plain } = h2 at hq ⊢
  have keep : ∀ b o, h.get? b = some o → h2.get? b = some o := fun b o e => by rw [← hh]; exact Heap.get?_push_of_some _ (Heap.get?_push_of_some _ e)
  have hC₁ := keep _ _ hC
  have hfI₁ := keep _ _ hfI
  have hn₁ : h2.Ns N mN := let ⟨o, es, ep, e, r⟩ := hn; ⟨o, es, ep, keep _ _ e, r⟩
  have hget : h2.get? (h.objs.size + 1) = some { cls := .ref C, dict := some h.objs.size, data := .plain } := by rw [← hh]; heap_get
  have hcC : (Value.ref C :: [Value.type "object"]).contains (.ref C) = true := by simp
  unfold isInstance
  repeat (first | with_reducible refine wpAny_loadPart_at hget ?_ | (with_reducible refine wpAny_isSubtype_exc hC₁ ?_; rw [hcC]) | wp_step)
  show wpAny _ _ (typeLookup (.ref C) _) _ _ _
  refine wpAny_typeLookup_exc hC₁ hn₁ hmro hlk ?_; try k_fold
  rw [hi]
  refine wpAny_holding (wpAny_bind ?_)
  unfold bindSpecial
  refine wpAny_bind (wpAny_typeOf (T := "function") ⟨_, hfI₁, hfc⟩ ?_)
  rw [if_pos (by decide)]
  refine wpAny_pure (wpAny_bind (wpAny_mono hq (fun r s' hr => ?_) fun _ _ x => x))
  obtain ⟨rfl, hQ⟩ := hr
  wp_walk
  exact hQ
end
end Mine
end
section
open PySem PySem.W PySem.Calls PyProof.Rows
set_option Elab.async false
set_option maxRecDepth 100000
set_option linter.unusedVariables false
namespace Mine
variable {prog : Program} {w : World} {K : Frag} {mb : Str → Option Value} {X Y : Addr → Prop} {C C' : Mem} {s s' s'' : Shared} {A : Around} {env : Env} {ρ : List (Str × PV)} {n : Nat}

/-! values without parts -/
/-! a lambda that stands in the heap, its cells known -/
end Mine
end
section
open PySem PySem.W PySem.Calls PyProof.Rows
set_option Elab.async false
set_option maxRecDepth 100000
set_option linter.unusedVariables false
namespace Mine
variable {prog : Program} {w : World} {K : Frag} {mb : Str → Option Value} {X Y : Addr → Prop} {C C' : Mem} {s s' s'' : Shared} {A : Around} {env : Env} {ρ : List (Str × PV)} {n : Nat}
/-! a range -/
theorem evi_range {e : Expr} {r : Nat} {f : Expr} {cpos : Pos} (S : Sit prog w K mb n C X A env ρ s) (hf : Ev prog w C X A env f (.val (.type "range")) s) (h : Ev prog w C X A env e (.int r) s) (hr : r ≤ 100000)
    (hst : autoParam (starEach [e] env = (false, eval e env) :: starEach [] env) Mine.autoR)
    (he : autoParam (eval (.Call f [e] [] cpos) env = (do callWith cpos (← eval f env) [] (backTo cpos (starEach [e] env)) (backToKw cpos (keywordEach [] env)))) Mine.autoR) :
    EvI prog w C X A env (.Call f [e] [] cpos) ((List.range r).map fun (i : Nat) => PV.int (i : Int)) s := by
  intro s₁ e₁ Q E k; try k_fold
  have hes : Evs prog w C X A env [e] [.int r] s := evs_cons h evs_nil hst
  refine Call_ (hf s₁ e₁ _ _ fun f s₂ e₂ rf => ?_) he
  refine Mine.Rep.elV rf fun _ => ?_; try k_fold
  show wpAny _ _ (callWith cpos (.type "range") [] (backTo cpos (starEach [e] env)) []) _ _ _
  rw [hes.1, backTo_plain]
  refine PySem.callWith_type plain_any (do_evalArgs hes.2 s₂ (e₁.trans e₂) _ _ fun a s₃ e₃ ra => ?_)
  obtain ⟨pos', kw⟩ := a
  (refine Mine.el0b ra fun hq4 hq3 => ?_; clear ra; revert hq4; intro ra; obtain rfl := hq3)
  refine Mine.Reps.elC ra fun _ _ r1 r2 => ?_
  ·
    obtain ⟨_, rfl⟩ := r2.inv
    cases r1 with
    | int _ t =>
      show wpAny _ _ (call (.type "range") [.int r t]) _ _ _
      refine call_range_1 ?_; try k_fold
      have hsize : Builtin.Range.rangeSize 0 (r : Int) 1 = (r : Int) := by rw [rangeSize_one]; split <;> omega
      refine wpAny_pyIter_range (IsRange.new _ _ _ _ _ _ _) (small_one (by omega) (by omega) (by omega) (by omega)) ?_; try k_fold
      have S₃ := S.ext (e₁.trans (e₂.trans e₃))
      have hpu : ∀ (g : Heap) (o : Obj), (g.push o).objs.size = g.objs.size + 1 := fun g o => Heap.size_push ..
      refine k _ _ (e₂.trans (e₃.trans ((Ext.trans (s' := { s₃ with heap := s₃.heap.push { cls := .type "range", data := .fields #[.int 0 s₃.toks, .int r t, .int 1 (s₃.toks + 1)] }, toks := s₃.toks + 1 + 1 }) (Ext.tokR (Ext.push)) .push)))) ?_; try k_fold
      refine ⟨_, _, _, _, _, rfl, by rw [List.length_map, List.length_range]; exact LCg.range_walks S.rm.h 0 r, ?_, ?_, ?_, ?_⟩
      · show IsRangeIter _ _ _ _ _
        rw [hsize]
        have hg := Heap.get?_push_size (s₃.heap.push { cls := .type "range", data := .fields #[.int 0 s₃.toks, .int r t, .int 1 (s₃.toks + 1)] }) (o := { cls := .type "range_iterator", data := .fields #[rawInt 0, rawInt (r : Int), rawInt 1] }) rfl
        simpa using hg
      · intro b hb; try k_fold
        rw [List.mem_singleton.mp hb]
        show s₁.heap.objs.size ≤ (s₃.heap.push _).objs.size
        rw [hpu]
        have := e₂.size; have := e₃.size
        omega
      · intro b hb; try k_fold
        rw [List.mem_singleton.mp hb]
        rw [hpu]
        show s₃.heap.objs.size + 1 < ((s₃.heap.push _).push _).objs.size ∧ _ ∧ _
        rw [hpu, hpu]
        exact ⟨Nat.lt_succ_self (s₃.heap.objs.size + 1), co_new S₃ (Nat.le_succ _), fun q => Nat.lt_irrefl _ (Nat.lt_of_lt_of_le (S₃.bd _ q) (Nat.le_succ _))⟩
      · intro i v p hv hp; try k_fold
        (refine Mine.el1a hv fun t hq7 => ?_; try clear hv; obtain rfl := hq7)
        rw [List.getElem?_map] at hp
        (refine Mine.el1b (Option.map_eq_some_iff.mp hp) fun j hj hq8 => ?_; obtain rfl := hq8)
        obtain ⟨hlt, hj⟩ := List.getElem?_eq_some_iff.mp hj
        rw [List.getElem_range] at hj
        subst hj
        rw [Int.zero_add]
        exact .int _ _

/-! the class called, a method of its object -/
theorem ev_call_cls {func : Expr} {pos : Pos} {a : Addr} {es : List Expr} {ps : List PV} {R : Value → Shared → Prop} (S : Sit prog w K mb n C X A env ρ s) (hf : Ev prog w C X A env func (.val (.ref a)) s) (h : Evs prog w C X A env es ps s) (hk : keepIn K (.ref a) = true)
    (hc : ∀ vs s', Ext prog w noX C s s' → Reps X s'.heap vs ps → Do prog w C A (call (.ref a) vs) R s')
    (he : autoParam (eval (.Call func es [] pos) env = (do callWith pos (← eval func env) [] (backTo pos (starEach es env)) (backToKw pos (keywordEach [] env)))) Mine.autoR) : Do prog w C A (eval (.Call func es [] pos) env) R s := by
  intro s₁ e₁ Q E k
  refine Call_ (hf s₁ e₁ _ _ fun f s₂ e₂ r => ?_) he
  refine Mine.Rep.elV r fun _ => ?_
  rw [h.1, backTo_plain]
  refine callWith_of (P := K.In) (by rw [plain_any]; rfl) (keeps_K hk) (do_evalArgs h.2 s₂ (e₁.trans e₂) _ _ fun a s₃ e₃ ra => ?_)
  obtain ⟨pos', kw⟩ := a
  (refine Mine.el0b ra fun hq11 hq10 => ?_; clear ra; revert hq11; intro ra; obtain rfl := hq10)
  refine ⟨(S.ext (e₁.trans (e₂.trans e₃))).base.frag, ?_⟩
  exact hc _ s₃ (e₁.trans (e₂.trans e₃)) ra s₃ .refl _ _ fun v s₄ e₄ rv => k v s₄ (e₂.trans (e₃.trans e₄)) rv
theorem ev_meth_fn {cl N x f : Addr} {mN mA : Str → Option Value} {b : Nat} {o : Expr} {name : Str} {apos pos : Pos} {es : List Expr} {pl : Sem Bool} {ps : List PV} {of : Obj} {fd : FuncData} {R : Value → Shared → Prop} (S : Sit prog w K mb n C X A env ρ s) (H : ClsAt K cl N mN) (I : Ins C cl s.heap b x mA)
    (ho : Ev prog w C X A env o (.val (.ref x)) s) (h : Evs prog w C X A env es ps s) (hf : mN name = some (.ref f)) (hfo : K.lookup f = some of) (hfc : of.cls = .type "function") (hfd : of.data = .func fd) (hsh : mA name = none) (hB : typeLookup (.type "object") name = pure none)
    (hc : ∀ vs s', Ext prog w noX C s s' → Reps X s'.heap vs ps → Do prog w C A (call (.ref f) (.ref x :: vs)) R s')
    (he : autoParam (eval (.Call (.Attribute o name apos) es [] pos) env = (do
      let ov ← eval o env
      standAt apos.atName
      let (f, first) ← holding [ov] (getMethod ov name pl)
      callWith pos f first (backTo pos (starEach es env)) [])) Mine.autoR) : Do prog w C A (eval (.Call (.Attribute o name apos) es [] pos) env) R s := by
  intro s₁ e₁ Q E k; try k_fold
  refine MethodCall_ (ho s₁ e₁ _ _ fun v s₂ e₂ r => ?_) he
  refine Mine.Rep.elV r fun _ => ?_; try k_fold
  have S₂ := S.ext (e₁.trans e₂)
  have I₂ := (I.ext (e₁.trans e₂) (fun _ q => q.elim)).inst
  obtain ⟨nm, q, bs, sn, sub, col, dd, k0, k1, k2, k3, k5, hcl⟩ := H.cls
  have hC := S₂.base.frag _ _ hcl
  have hn := H.nsH S₂.base.frag
  have hfo₂ := S₂.base.frag _ _ hfo
  have hcall := do_callWith_function (pos := pos) (first := [.ref x]) (evs_ext h (e₁.trans e₂)) hfo₂ hfd (fun vs s' e r => hc vs s' ((e₁.trans e₂).trans e) r) s₂ .refl Q E fun v s₃ e₃ rv => k v s₃ (e₂.trans e₃) rv
  obtain ⟨hh, g, d, t, os⟩ := s₂
  exact method_of hC hn H.ga H.gt hf hfo₂ hfc hB I₂ hsh hcall
end Mine
end
section
open PySem PySem.W PySem.Calls PyProof.Rows
open PySem.SeqAt (EqAt RcAt RcNeAt)
set_option Elab.async false
set_option maxRecDepth 100000
set_option linter.unusedVariables false
namespace Mine
variable {prog : Program} {w : World} {K : Frag} {mb : Str → Option Value} {X Y : Addr → Prop} {C C' : Mem} {s s' s'' : Shared} {A : Around} {env : Env} {ρ : List (Str × PV)} {n : Nat}
/-! dicts under strs -/
end Mine
end
section
open PySem PySem.W PySem.Calls PyProof.Rows
open PySem.SeqAt (EqAt RcAt RcNeAt)
set_option Elab.async false
set_option maxRecDepth 100000
set_option linter.unusedVariables false
namespace Mine
variable {prog : Program} {w : World} {K : Frag} {mb : Str → Option Value} {X Y : Addr → Prop} {C C' : Mem} {s s' s'' : Shared} {A : Around} {env : Env} {ρ : List (Str × PV)} {n : Nat}
/-! list * int -/
/-! dicts compared -/
end Mine
end
section
open PySem PySem.W PySem.Calls PyProof.Rows
set_option Elab.async false
set_option maxRecDepth 100000
set_option linter.unusedVariables false
namespace Mine
variable {prog : Program} {w : World} {K : Frag} {mb : Str → Option Value} {X Y : Addr → Prop} {C C' : Mem} {s s' s'' : Shared} {A : Around} {env : Env} {ρ : List (Str × PV)} {n : Nat}
theorem zipIdx_flat {α β : Type} {g : α → List β} : ∀ (l : List α) (k : Nat), ((l.zipIdx k).flatMap fun q => g q.1) = l.flatMap g
  | [], _ => rfl
  | a :: l, k => by rw [List.zipIdx_cons, List.flatMap_cons, List.flatMap_cons, zipIdx_flat l]
theorem flat2 {α β γ : Type} {ps : List α} {ps2 : α → List β} {g : α → β → List γ} : (ps.zipIdx.flatMap fun q => (ps2 q.1).zipIdx.flatMap fun r => g q.1 r.1) = ps.flatMap fun p => (ps2 p).flatMap (g p) := by
  rw [zipIdx_flat (g := fun p => (ps2 p).zipIdx.flatMap fun r => g p r.1) ps 0]
  congr 1
  funext p
  exact zipIdx_flat (g := g p) (ps2 p) 0
theorem flat_tst {α β : Type} {l : List α} {tst : α → Bool} {f : α → β} : (l.flatMap fun q => if tst q then [f q] else []) = (l.filter tst).map f := by
  induction l with
  | nil => rfl
  | cons a l ih => rw [List.flatMap_cons, ih, List.filter_cons]; cases tst a <;> simp
theorem CompSpec.mono {e : Expr} {scope : Scope} {newAcc : Sem Value} {iter : Expr} {R R' : Addr → Addr → Shared → Prop} (h : CompSpec prog w C X A env e scope newAcc iter R s) (hR : ∀ a L s', R a L s' → R' a L s') : CompSpec prog w C X A env e scope newAcc iter R' s :=
  fun s₁ e₁ pos use Q E k => h s₁ e₁ pos use Q E fun acc L s₅ a b c d e r => k acc L s₅ a b c d e (hR _ _ _ r)
theorem RList.eq {res res' : List PV} {J J' : Shared → Prop} {acc L : Addr} (h : RList prog w X res J acc L s) (hr : res = res') (hJ : J s → J' s) : RList prog w X res' J' acc L s := by
  subst hr; exact ⟨h.1, hJ h.2⟩
/-- one clause, its parts plain, as a spec -/
theorem spec_lc {elt iter : Expr} {x : Str} {px : Pos} {ifs : List Expr} {scope : Scope} {pos : Pos} {ps : List PV} (S : Sit prog w K mb n C X A env ρ s) (hap : Apart env) (hs : scopeOkB scope env = true) (hit : EvI prog w C X A env iter ps s)
    (tst : PV → Bool) (f : PV → PV) (hx : scope.names.lookup x = some .local ∨ scope.names.lookup x = some .cell) (hsz : ps.length ≤ sizeLine)
    (hset : ∀ x, foldedSetIterable iter env x = pure x)
    (body : ∀ L cells X' p s', p ∈ ps → Sit prog w K mb n C X' A (compEnvC scope cells L env) ((x, p) :: ρ.filter (isFree scope)) s' → CE scope cells L env X X' s.heap.objs.size → Ext prog w (fun a => s.heap.objs.size ≤ a) C s s' →
      Do prog w C A (tests ifs (compEnvC scope cells L env)) (fun v _ => v = tst p) s' ∧ (tst p = true → Ev prog w C X' A (compEnvC scope cells L env) elt (f p) s')) :
    CompSpec prog w C X A env (.ListComp elt [⟨.Name x px, iter, ifs, 0⟩] scope pos) scope (newList []) iter (RList prog w X ((ps.filter tst).map f) fun _ => True) s := by
  refine (spec_list1 S hap hs hit (fun _ s' => Ext prog w (fun a => s.heap.objs.size ≤ a) C s s') (fun _ p => if tst p then [f p] else []) hx ?_ hset ?_ .refl ?_).mono fun a L s' r => r.eq flat_filter fun _ => trivial
  · rw [flat_filter, List.length_map]
    exact Nat.le_trans (List.length_filter_le _ _) hsz
  · intro Z i a b hz ha hab
    exact ha.trans (hab.mono hz)
  · intro L cells X' i p s' hp S' hap' hE
    refine Mine.el0b (body L cells X' p s' (List.mem_of_getElem? hp) S' hap' hE) fun h1 h2 => ?_
    refine ⟨tst p, fun _ => True, tests_triv h1, fun hb => ⟨by simp [hb], fun s'' e _ h => h⟩, fun hb => ⟨f p, by simp [hb], fun s'' e _ h => ?_⟩⟩
    intro s₃ e₃ Q E k
    exact h2 hb s₃ (e.trans e₃) _ _ fun v s₄ e₄ r => k v s₄ e₄ ⟨r, h.trans ((e₃.trans e₄).ofNo)⟩
/-- two clauses, their parts plain, as a spec -/
theorem spec_lc2 {elt iter iter2 : Expr} {x x2 : Str} {px px2 : Pos} {ifs2 : List Expr} {scope : Scope} {pos : Pos} {ps : List PV} (S : Sit prog w K mb n C X A env ρ s) (hap : Apart env) (hs : scopeOkB scope env = true) (hit : EvI prog w C X A env iter ps s)
    (ps2 : PV → List PV) (tst : PV → PV → Bool) (f : PV → PV → PV) (hx : scope.names.lookup x = some .local ∨ scope.names.lookup x = some .cell) (hx2 : scope.names.lookup x2 = some .local ∨ scope.names.lookup x2 = some .cell) (hne : (x2 == x) = false)
    (hsz : (ps.flatMap fun p => ((ps2 p).filter (tst p)).map (f p)).length ≤ sizeLine)
    (hset : ∀ v, foldedSetIterable iter env v = pure v) (hset2 : ∀ cells L v, foldedSetIterable iter2 (compEnvC scope cells L env) v = pure v)
    (hit2 : ∀ L cells X' p s', p ∈ ps → Sit prog w K mb n C X' A (compEnvC scope cells L env) ((x, p) :: ρ.filter (isFree scope)) s' → CE scope cells L env X X' s.heap.objs.size → EvI prog w C X' A (compEnvC scope cells L env) iter2 (ps2 p) s')
    (body : ∀ L cells X' p q s', p ∈ ps → q ∈ ps2 p → Sit prog w K mb n C X' A (compEnvC scope cells L env) ((x2, q) :: (x, p) :: ρ.filter (isFree scope)) s' → CE scope cells L env X X' s.heap.objs.size → Ext prog w (fun a => s.heap.objs.size ≤ a) C s s' →
      Do prog w C A (tests ifs2 (compEnvC scope cells L env)) (fun v _ => v = tst p q) s' ∧ (tst p q = true → Ev prog w C X' A (compEnvC scope cells L env) elt (f p q) s')) :
    CompSpec prog w C X A env (.ListComp elt [⟨.Name x px, iter, [], 0⟩, ⟨.Name x2 px2, iter2, ifs2, 0⟩] scope pos) scope (newList []) iter (RList prog w X (ps.flatMap fun p => ((ps2 p).filter (tst p)).map (f p)) fun _ => True) s := by
  have hfl : (ps.zipIdx.flatMap fun q => (ps2 q.1).zipIdx.flatMap fun r => if tst q.1 r.1 then [f q.1 r.1] else []) = ps.flatMap fun p => ((ps2 p).filter (tst p)).map (f p) := by
    rw [flat2 (g := fun p q => if tst p q then [f p q] else [])]
    congr 1
    funext p
    exact flat_tst
  refine (spec_list2 S hap hs hit (fun _ _ s' => Ext prog w (fun a => s.heap.objs.size ≤ a) C s s') (fun _ p => ps2 p) (fun _ _ _ _ h => h) (fun _ p _ q => if tst p q then [f p q] else []) hx hx2 hne hset hset2 (by rw [hfl]; exact hsz) ?_ .refl (fun L cells X' i p s' hp S' ce => hit2 L cells X' p s' (List.mem_of_getElem? hp) S' ce) ?_).mono fun a L s' r => r.eq hfl fun _ => trivial
  · intro j Z i a b hz ha hab
    exact ha.trans (hab.mono hz)
  · intro L cells X' i p j q s' hp hq S' hap' hE
    refine Mine.el0b (body L cells X' p q s' (List.mem_of_getElem? hp) (List.mem_of_getElem? hq) S' hap' hE) fun h1 h2 => ?_
    refine ⟨tst p q, fun _ => True, tests_triv h1, fun hb => ⟨by simp [hb], fun s'' e _ h => h⟩, fun hb => ⟨f p q, by simp [hb], fun s'' e _ h => ?_⟩⟩
    intro s₃ e₃ Q E k
    exact h2 hb s₃ (e.trans e₃) _ _ fun v s₄ e₄ r => k v s₄ e₄ ⟨r, h.trans ((e₃.trans e₄).ofNo)⟩
end Mine
end
section
open PySem PySem.W PyProof.Rows
set_option Elab.async false
set_option maxRecDepth 100000
set_option maxHeartbeats 8000000
namespace Mine
open_top hd for PySem.Challenge.rw_pu0015_02
end Mine
end
section
open PySem PySem.W PySem.Calls PyProof.Rows
set_option Elab.async false
set_option maxRecDepth 100000
set_option linter.unusedVariables false
namespace Mine
variable {prog : Program} {w : World} {K : Frag} {mb : Str → Option Value} {X Y : Addr → Prop} {C : Mem} {s s' s'' : Shared} {A : Around} {env : Env} {ρ : List (Str × PV)} {n : Nat}
noncomputable def em : { p : FuncData × List Stmt // ∀ P, FnAt (hd.heap_39 P) 28 p.1 ["want", "got"] p.2 } := ⟨(_, _), fun P => {
  at_ := ⟨_, rfl, rfl⟩
  code := ⟨27, _, _, _, rfl, rfl, rfl, rfl⟩
  body := rfl
  kind := rfl
  co := rfl
  gen := rfl
  globals := rfl
  builtins := rfl
  closure := rfl
  kinds := fun L => by repeat (first | exact ks_nil | refine ks_cons (by first | exact .inl rfl | exact .inr ⟨rfl, rfl⟩) ?_) }⟩
theorem em_bind (v u : Value) : bindArgs em.1.1 ⟨[v, u], []⟩ = pure [(("want" : Str), v), (("got" : Str), u)] := by rfl
theorem em_spec {P : Params} {want got : Str} {ws : List Str} {vs : List Value} (S : Sit prog w (hd.heap_39 P) mb (n + 1) C X A env ρ s) (hr : Reps X s.heap vs [.str want, .str got]) (hc : Txt.contains want "..." = true) (hs : Txt.split want "..." = ws) (h2 : 2 ≤ ws.length)
    (hw : want.length ≤ 1000) (hg : got.length ≤ 1000) (hl : ws.length ≤ 1000) (hlw : ∀ y ∈ ws, y.length ≤ 1000) : DoV prog w C X A (call (.ref 28) vs) (.bool (emW ws got)) s := by
  (refine Mine.Reps.el2 hr fun _ _ r1 r2 => ?_; have hr' := Reps.cons r1 (.cons r2 .nil))

  refine call_fn S (em.2 P) hr' rfl (em_bind _ _) fun s₀ L s₁ X' e₀ e₁ O hXX hlo S₁ => ?_
  k_fold
  refine x_if (ts_cmp (ev_gstr S₁ rfl rfl) (ev_var S₁ rfl (.inl rfl)) fun a b s' e ra rb => op_notIn_str ra rb) fun s₂ e₂ => ?_
  rw [hc]
  refine x_nil ?_
  dsimp only
  have S₂ := S₁.ext e₂
  refine x_assign_mut S₂ O (.inl rfl) (evm_split S₂ (ev_var S₂ rfl (.inl rfl)) (evs_cons (ev_gstr S₂ rfl rfl) evs_nil) rfl hw) (by rfl) fun a s₃ X₃ hX₃ ha hxa hfa hca e₃ O₃ S₃ M₃ => ?_
  rw [hs] at M₃
  have hX : ∀ b, X' b → X₃ b := fun b h => by rw [hX₃]; exact .inl h
  have hXa : X₃ a := by rw [hX₃]; exact .inr rfl
  have hrest : ∀ s', Ext prog w (FrO (fEnv em.1.1 28 L)) C s₂ s' → Ext prog w (FrO (fEnv em.1.1 28 L)) C s₁ s' := fun s' e => e₂.ofNo.trans e
  have ham : ∀ s', s'.heap.objs.size ≤ a → ∀ s'', Ext prog w (fun b => b = a) C s' s'' → True := fun _ _ _ _ => trivial
  -- assert
  have Sf₃ := S₃.freeze M₃ hX hxa
  have hlm : (ws.map PV.str).length ≤ sizeLine := by rw [List.length_map]; exact len_sz hl
  refine x_assert (ts_eq (ts_cmp (op := .GtE) (ev_call_builtin (ev_builtin Sf₃ rfl rfl (by decide) rfl) (evs_cons (ev_var Sf₃ rfl (.inl rfl)) evs_nil) fun vs s' e r => c_len_list r hlm) (ev_cint) fun a b s' e ra rb => op_ge_int ra rb) (by rw [List.length_map]; exact decide_eq_true (by omega))) fun s₄ e₄ => ?_
  have S₄ := S₃.ext e₄
  have M₄ := M₃.ext e₄ (fun _ q => q.elim) (fun q => q)
  have e₁₄ : Ext prog w (FrO (fEnv em.1.1 28 L)) C s₁ s₄ := hrest _ (e₃.trans e₄.ofNo)
  refine x_assign_pair S₄ O₃ (.inl rfl) (.inl rfl) (ev_tuple S₄.bd (evs_cons ev_cint (evs_cons (ev_call_builtin (ev_builtin S₄ rfl rfl (by decide) rfl) (evs_cons (ev_var S₄ rfl (.inl rfl)) evs_nil) fun vs s' e r => c_len_str r (len_sz hg)) evs_nil)) (show 2 ≤ sizeLine by decide)) (by rfl) rfl fun s₅ e₅ S₅ => ?_
  have M₅ := M₄.ext e₅ O₃.own hfa
  have S₅ := S₅.sub (ρ' := [("ws", .val (.ref a)), ("startpos", .int 0), ("endpos", .int got.length), ("got", .str got)]) (sub_cons rfl (sub_cons rfl (sub_cons rfl (sub_cons rfl sub_nil))))
  have e₁₅ := e₁₄.trans e₅
  obtain ⟨w0, wr, rfl⟩ : ∃ w0 wr, ws = w0 :: wr := by cases ws with | nil => simp at h2 | cons a b => exact ⟨a, b, rfl⟩
  have h0 : w0.length ≤ 1000 := hlw w0 (.head _)
  have Sf₅ := S₅.freeze M₅ hX hxa
  refine x_assign S₅ O₃ (.inl rfl) (ev_imm (ev_item_list (ev_var Sf₅ rfl (.inl rfl)) ev_cint (by decide) (p := .str w0) rfl hlm) rfl) (by rfl) fun s₆ e₆ S₆ => ?_
  have M₆ := M₅.ext e₆ O₃.own hfa
  have e₁₆ := e₁₅.trans e₆
  have hsa : ∀ {s'}, Ext prog w (fun b => b = a) C s₆ s' → Ext prog w noX C s₂ s₂ := fun _ => .refl
  have hide : ∀ {sx sy}, Ext prog w (FrO (fEnv em.1.1 28 L)) C s₁ sx → Ext prog w (fun b => b = a) C sx sy → Ext prog w (FrO (fEnv em.1.1 28 L)) C s₁ sy := fun e e' => e.freshZ e' fun b h => .inr (h ▸ Nat.le_trans e₂.size ha)
  have ret : ∀ {sx v b}, Ext prog w (FrO (fEnv em.1.1 28 L)) C s₁ sx → Rep X₃ sx.heap v (.bool b) → b = emW (w0 :: wr) got → (∀ v', v' = v → Ext prog w (FrO (fEnv em.1.1 28 L)) C s₁ sx ∧ (Ext prog w noX C s₀ sx → Rep X sx.heap v' (.bool (emW (w0 :: wr) got)))) := fun e r hb v' hv => by
    subst hv hb; exact ⟨e, fun _ => r.imm rfl⟩
  -- if w:
  refine x_if2 (fun s' => (w0.length != 0 && !Txt.startswith got w0) = false ∧ Ext prog w (FrO (fEnv em.1.1 28 L)) C s₁ s' ∧ Sit prog w (hd.heap_39 P) mb n C X₃ (A.deeper (fEnv em.1.1 28 L)) (fEnv em.1.1 28 L) [("ws", .val (.ref a)), ("startpos", .int w0.length), ("endpos", .int got.length), ("got", .str got)] s' ∧ Mut X₃ a ((if w0.length != 0 then wr else w0 :: wr).map .str) s'.heap)
    (ts_str (ev_var S₆ rfl (.inl rfl)) (hsz := len_sz h0)) (fun s₇ e₇ => ?_) ?_
  · have S₇ := S₆.ext e₇
    have M₇ := M₆.ext e₇ (fun _ q => q.elim) (fun q => q)
    have e₁₇ := e₁₆.trans e₇.ofNo
    cases hb : w0.length != 0 with
    | false =>
      refine x_nil ⟨by simp, e₁₇, S₇.sub (sub_cons rfl (sub_cons ?_ (sub_cons rfl (sub_cons rfl sub_nil)))), M₇⟩
      have : w0.length = 0 := by simpa using hb
      rw [this]; rfl
    | true =>
      refine x_if (ts_bool (ev_method (ev_var S₇ rfl (.inl rfl)) (evs_cons (ev_var S₇ rfl (.inl rfl)) evs_nil) m_startswith)) fun s₈ e₈ => ?_
      have S₈ := S₇.ext e₈
      have M₈ := M₇.ext e₈ (fun _ q => q.elim) (fun q => q)
      have e₁₈ := e₁₇.trans e₈.ofNo
      cases hst : Txt.startswith got w0 with
      | false =>
        exact x_return ev_cbool fun v s₉ e₉ r => ret (e₁₈.trans e₉.ofNo) r (emW_no1 (by rw [hb, hst]; rfl)).symm
      | true =>
        refine x_assign S₈ O₃ (.inl rfl) (ev_call_builtin (ev_builtin S₈ rfl rfl (by decide) rfl) (evs_cons (ev_var S₈ rfl (.inl rfl)) evs_nil) fun vs s' e r => c_len_str r (len_sz h0)) (by rfl) fun s₉ e₉ S₉ => ?_
        have M₉ := M₈.ext e₉ O₃.own hfa
        refine x_del S₉ O₃ rfl rfl M₉ hXa hfa ev_cint (by decide) (seq0 (by simp)) hlm fun sa ea Sa Ma => x_nil ?_
        exact x_nil ⟨by simp, hide (e₁₈.trans e₉) ea, Sa.sub (sub_cons rfl (sub_cons rfl (sub_cons rfl (sub_cons rfl sub_nil)))), Ma⟩
  rintro s₇ ⟨hA, e₁₇, S₇, M₇⟩
  generalize hws1 : (if w0.length != 0 then wr else w0 :: wr) = ws1 at M₇
  have hne : ws1 ≠ [] := by
    rintro rfl
    cases hb : w0.length != 0 <;> simp [hb] at hws1
    subst hws1; simp at h2
  have hl1 : ws1.length ≤ 1000 := by
    rw [← hws1]; split
    · simp at hl; omega
    · exact hl
  have hlw1 : ∀ y ∈ ws1, y.length ≤ 1000 := by
    rw [← hws1]; intro y hy; split at hy
    · exact hlw y (.tail _ hy)
    · exact hlw y hy
  have hne' : (ws1.map PV.str) ≠ [] := by simpa using hne
  have hlm1 : (ws1.map PV.str).length ≤ sizeLine := by rw [List.length_map]; exact len_sz hl1
  have hpos : 0 < (ws1.map PV.str).length := List.length_pos_iff.mpr hne'
  have hwl : (ws1.map PV.str).getLast hne' = .str (ws1.getLast hne) := by rw [List.getLast_map]
  have hle : (ws1.getLast hne).length ≤ 1000 := hlw1 _ (List.getLast_mem hne)
  have Sf₇ := S₇.freeze M₇ hX hxa
  refine x_assign S₇ O₃ (.inl rfl) (ev_imm (ev_item_neg (ev_var Sf₇ rfl (.inl rfl)) (ev_neg ev_cint) (by decide) (by omega) (p := .str (ws1.getLast hne)) (by rw [← hwl]; exact last_idx _ hne') hlm1) rfl) (by rfl) fun s₈ e₈ S₈ => ?_
  have M₈ := M₇.ext e₈ O₃.own hfa
  have e₁₈ := e₁₇.trans e₈
  generalize hwd : ws1.getLast hne = wl at S₈ hle
  refine x_if2 (fun s' => (wl.length != 0 && !Txt.endswith got wl) = false ∧ Ext prog w (FrO (fEnv em.1.1 28 L)) C s₁ s' ∧ Sit prog w (hd.heap_39 P) mb n C X₃ (A.deeper (fEnv em.1.1 28 L)) (fEnv em.1.1 28 L) [("ws", .val (.ref a)), ("startpos", .int w0.length), ("endpos", .int (got.length - wl.length)), ("got", .str got)] s' ∧ Mut X₃ a ((if wl.length != 0 then ws1.dropLast else ws1).map .str) s'.heap)
    (ts_str (ev_var S₈ rfl (.inl rfl)) (hsz := len_sz hle)) (fun s₉ e₉ => ?_) ?_
  · have S₉ := S₈.ext e₉
    have M₉ := M₈.ext e₉ (fun _ q => q.elim) (fun q => q)
    have e₁₉ := e₁₈.trans e₉.ofNo
    cases hb : wl.length != 0 with
    | false =>
      refine x_nil ⟨by simp, e₁₉, S₉.sub (sub_cons rfl (sub_cons rfl (sub_cons ?_ (sub_cons rfl sub_nil)))), M₉⟩
      have : wl.length = 0 := by simpa using hb
      rw [this]
      rfl
    | true =>
      refine x_if (ts_bool (ev_method (ev_var S₉ rfl (.inl rfl)) (evs_cons (ev_var S₉ rfl (.inl rfl)) evs_nil) m_endswith)) fun sa ea => ?_
      have Sa := S₉.ext ea
      have Ma := M₉.ext ea (fun _ q => q.elim) (fun q => q)
      have e₁a := e₁₉.trans ea.ofNo
      cases hst : Txt.endswith got wl with
      | false =>
        exact x_return ev_cbool fun v sb eb r => ret (e₁a.trans eb.ofNo) r ((emW_1 hA hws1 hne hwd).trans (emC_no (by rw [hb, hst]; rfl))).symm
      | true =>
        refine x_aug Sa O₃ rfl rfl (ev_call_builtin (ev_builtin Sa rfl rfl (by decide) rfl) (evs_cons (ev_var Sa rfl (.inl rfl)) evs_nil) fun vs s' e r => c_len_str r (len_sz hle)) (fun a b s' ra rb => op_isub ra rb) fun sb eb Sb => ?_
        have Mb := Ma.ext eb O₃.own hfa
        refine x_del Sb O₃ rfl rfl Mb hXa hfa (ev_neg ev_cint) (by decide) (seqm1 hpos) hlm1 fun sc ec Sc Mc => x_nil ?_
        refine x_nil ⟨by simp, hide (e₁a.trans eb) ec, Sc.sub (sub_cons rfl (sub_cons rfl (sub_cons rfl (sub_cons rfl sub_nil)))), ?_⟩
        simp only [if_true]; rw [List.map_dropLast, ← List.eraseIdx_length_sub_one]
        exact Mc
  rintro s₉ ⟨hB, e₁₉, S₉, M₉⟩
  generalize hws2 : (if wl.length != 0 then ws1.dropLast else ws1) = ws2 at M₉
  have hl2 : ws2.length ≤ 1000 := by
    rw [← hws2]; split
    · rw [List.length_dropLast]; omega
    · exact hl1
  have hlw2 : ∀ y ∈ ws2, y.length ≤ 1000 := by
    rw [← hws2]; intro y hy; split at hy
    · exact hlw1 y (List.dropLast_subset _ hy)
    · exact hlw1 y hy
  have hem := (emW_1 hA hws1 hne hwd).trans (emC_1 (lo := w0.length) hB hws2)
  refine x_if2 (fun s' => ¬ (w0.length : Int) > got.length - wl.length ∧ Ext prog w (FrO (fEnv em.1.1 28 L)) C s₁ s' ∧ Ext prog w noX C s₉ s')
    (ts_cmp (ev_var S₉ rfl (.inl rfl)) (ev_var S₉ rfl (.inl rfl)) fun a b s' e ra rb => op_gt_int ra rb) (fun sa ea => ?_) ?_
  · by_cases hgt : (w0.length : Int) > got.length - wl.length
    · rw [decide_eq_true hgt]
      exact x_return ev_cbool fun v sb eb r => ret (e₁₉.trans (ea.trans eb).ofNo) r (by rw [hem, if_pos hgt])
    · rw [decide_eq_false hgt]
      exact x_nil ⟨hgt, e₁₉.trans ea.ofNo, ea⟩
  rintro sa ⟨hgt, e₁a, ea⟩
  rw [if_neg hgt] at hem
  have Sa := (S₉.ext ea).freeze (M₉.ext ea (fun _ q => q.elim) (fun q => q)) hX hxa
  refine x_for (Z := FrO (fEnv em.1.1 28 L)) Sa (evi_list Sa (ev_var Sa rfl (.inl rfl))) O (.inl rfl) (by intro v; rfl) (fun _ h => h) O.own
    (fun i => [("startpos", .int (emPos got (got.length - wl.length) w0.length ws2 i)), ("endpos", .int (got.length - wl.length)), ("got", .str got)])
    (fun _ i _ => emGo got (got.length - wl.length) ws2 w0.length = emGo got (got.length - wl.length) (ws2.drop i) (emPos got (got.length - wl.length) w0.length ws2 i)) (fun _ _ _ _ _ _ _ h _ => h)
    (sub_cons rfl (sub_cons rfl (sub_cons rfl sub_nil))) (fun _ _ _ => rfl) ?_ ?_
  · intro Xb i p sb hp hXb Ob eb Sb hJ
    obtain ⟨y, hy, rfl⟩ : ∃ y, ws2[i]? = some y ∧ PV.str y = p := by simpa using hp
    have hy1 : y.length ≤ 1000 := hlw2 y (List.mem_of_getElem? hy)
    refine Mine.el0b (emGo_step hy hJ) fun hno hyes => ?_
    refine x_assign Sb Ob (.inl rfl) (ev_method (ev_var Sb rfl (.inl rfl)) (evs_cons (ev_var Sb rfl (.inl rfl)) (evs_cons (ev_var Sb rfl (.inl rfl)) (evs_cons (ev_var Sb rfl (.inl rfl)) evs_nil))) m_find) (by rfl) fun sc ec Sc => ?_
    refine x_if (ts_cmp (ev_var Sc rfl (.inl rfl)) ev_cint fun a b s' e ra rb => op_lt_int ra rb) fun sd ed => ?_
    have Sd := Sc.ext ed
    by_cases hlt : findP got y (emPos got (got.length - wl.length) w0.length ws2 i) (got.length - wl.length) < 0
    · rw [decide_eq_true hlt]
      exact x_return (X := X₃) ev_cbool fun v se ee r => ⟨ec.trans (ed.trans ee).ofNo, fun e' => ret (e₁a.trans e') r (by rw [hem, hno hlt])⟩
    · rw [decide_eq_false hlt]
      refine x_nil (x_aug Sd Ob rfl rfl (ev_call_builtin (ev_builtin Sd rfl rfl (by decide) rfl) (evs_cons (ev_var Sd rfl (.inl rfl)) evs_nil) fun vs s' e r => c_len_str r (len_sz hy1)) (fun a b s' ra rb => op_iadd ra rb) fun se ee Se => x_nil ⟨ec.trans (ed.ofNo.trans ee), Se.sub (sub_cons ?_ (sub_cons rfl (sub_cons rfl sub_nil))), hyes hlt⟩)
      simp only [emPos, hy]; rfl
  · intro Xb sb hXb Ob eb Sb hJ
    refine x_return (X := X₃) ev_cbool fun v sc ec r => ret (e₁a.trans (eb.trans ec.ofNo)) r ?_
    rw [hem, hJ, List.length_map, List.drop_length]; rfl
end Mine
end
section
open PySem PySem.W PySem.Calls PyProof.Rows
set_option Elab.async false
set_option maxRecDepth 100000
set_option linter.unusedVariables false
namespace Mine
variable {prog : Program} {w : World} {K : Frag} {mb : Str → Option Value} {X Y : Addr → Prop} {C : Mem} {s s' s'' : Shared} {A : Around} {env : Env} {ρ : List (Str × PV)} {n : Nat}
noncomputable def nm : { p : FuncData × List Stmt // ∀ P, FnAt (hd.heap_39 P) 83 p.1 ["self", "filename", "modulename"] p.2 } := ⟨(_, _), fun P => {
  at_ := ⟨_, rfl, rfl⟩
  code := ⟨82, _, _, _, rfl, rfl, rfl, rfl⟩
  body := rfl
  kind := rfl
  co := rfl
  gen := rfl
  globals := rfl
  builtins := rfl
  closure := rfl
  kinds := fun L => by repeat (first | exact ks_nil | refine ks_cons (by first | exact .inl rfl | exact .inr ⟨rfl, rfl⟩) ?_) }⟩
theorem nm_bind (v u t : Value) : bindArgs nm.1.1 ⟨[v, u, t], []⟩ = pure [(("self" : Str), v), (("filename" : Str), u), (("modulename" : Str), t)] := by rfl
theorem nsOf_ex {P : Params} : ∃ o es ep, (hd.heap_39 P).lookup 85 = some o ∧ o.data = .dict es ep ∧ StrKeys es := by
  refine ⟨_, _, _, rfl, rfl, ?_⟩
  intro e he
  simp only [List.mem_toArray, List.mem_cons, List.not_mem_nil, or_false] at he
  rcases he with rfl | rfl | rfl | rfl | rfl | rfl | rfl | rfl <;> exact ⟨_, _, rfl⟩
noncomputable def mN1 (P : Params) (x : Str) : Option Value := match (hd.heap_39 P).lookup 85 with
  | some o => (match o.data with | .dict es _ => nsFind es x | _ => none)
  | none => none
theorem cls_at {P : Params} : ClsAt (hd.heap_39 P) 86 85 (mN1 P) where
  cls := ⟨_, _, _, _, _, _, _, _, _, _, _, _, rfl⟩
  ns := by
    refine Mine.el3c (nsOf_ex (P := P)) fun o es ep h1 h2 h3 => ?_
    refine ⟨o, es, ep, h1, h2, h3, fun x => ?_⟩
    unfold mN1
    rw [h1]
    simp only [h2]
  ga := rfl
  gt := rfl
  sa := rfl
theorem obj_no1 : typeLookup (.type "object") "_ignore" = pure none := by rw [typeLookup_type, builtinLookup_eq_fast]; kernel_rfl
theorem obj_no2 : typeLookup (.type "object") "_mods" = pure none := by rw [typeLookup_type, builtinLookup_eq_fast]; kernel_rfl
theorem obj_no3 : typeLookup (.type "object") "_dirs" = pure none := by rw [typeLookup_type, builtinLookup_eq_fast]; kernel_rfl

theorem op_in_set {a : Addr} {l : List Str} {m : Str} {v u : Value} (hS : SetW prog w s.heap a l) (ha : Rep X s.heap v (.str m)) (hb : Rep X s.heap u (.val (.ref a))) : DoV prog w C X A (compareOp .In v u) (.bool (decide (m ∈ l))) s := by
  refine Mine.Rep.elS ha fun _ => ?_; refine Mine.Rep.elV hb fun _ => ?_
  intro s₁ e₁ Q E k
  refine Mine.el1a ((hS.ext e₁ (fun q => q)).setOf) fun k' hk => ?_
  exact wpAny_inSet_of (knd := strKind prog w) (strKind_is prog w m _) rfl hk (k _ _ .tok (.bool _))
theorem op_is_none {fn : Option Str} {v u : Value} (ha : Rep X s.heap v (fnPV fn)) (hb : Rep X s.heap u .none) : DoV prog w C X A (compareOp .Is v u) (.bool fn.isNone) s := by
  cases hb
  intro s₁ e₁ Q E k
  have hv : (v == Value.none) = fn.isNone := by
    cases fn <;> cases ha <;> rfl
  exact is_none (by rw [hv]; exact k _ _ .refl (.bool _))
theorem nm_spec {P : Params} {x c : Addr} {b : Nat} {mods dirs KS : List Str} {Pm : Str → Int → Prop} {fn : Option Str} {m : Str} {r : Int} {vs : List Value} (S : Sit prog w (hd.heap_39 P) mb (n + 1) C X A env ρ s) (hr : Reps X s.heap vs [.val (.ref x), fnPV fn, .str m])
    (R : Rdr prog w C 86 s.heap b x c mods dirs) (hb : b ≤ s.heap.objs.size) (hC : C c = some Pm) (hM : MemoOk prog w s.heap c Pm) (hm : m ≠ "<string>") (hP : ∀ i, Pm m i → i = r) (hnew : Has prog w s.heap c m r ∨ (Pm m r ∧ r = nmR mods dirs fn m)) (hKS : ∀ m i, Pm m i → m ∈ KS) (hlen : KS.length ≤ 100000)
    (z1 : ∀ y ∈ mods, y.length ≤ 1000) (z2 : ∀ y ∈ dirs, y.length ≤ 1000) :
    Do prog w C A (call (.ref 83) vs) (fun v s' => Rep X s'.heap v (.int r) ∧ Has prog w s'.heap c m r) s := by
  (refine Mine.Reps.el3 hr fun _ _ _ r1 r2 r3 => ?_; have hr' := Reps.cons r1 (.cons r2 (.cons r3 .nil)))

  refine call_fn S (nm.2 P) hr' rfl (nm_bind _ _ _) fun s₀ L s₁ X' e₀ e₁ O hXX hlo S₁ => ?_
  k_fold
  have O' : Own (FrO (fEnv nm.1.1 83 L)) (fEnv nm.1.1 83 L) := ⟨fun a h => h, O.ap⟩
  have S₁ := S₁.ofSub O.own
  have e01 := e₀.trans e₁
  have hZb : ∀ a, FrO (fEnv nm.1.1 83 L) a → b ≤ a := fun a h => Nat.le_trans (Nat.le_trans hb e₀.size) (hlo a h)
  obtain ⟨ms, ds, mA, I, a1, a2, a3, a4, hS, hL, b1, b2, b3, b4⟩ := R.ext e01 (fun _ q => q.elim)
  have lt_no : ∀ {a}, a < b → ¬ FrO (fEnv nm.1.1 83 L) a := fun h q => Nat.lt_irrefl _ (Nat.lt_of_lt_of_le h (hZb _ q))
  have hM₁ := hM.ext e01 (fun q => q) hC
  have at1 : ∀ {s' : Shared} {ρ' : List (Str × PV)} {p1 p2 : Pos}, Ext prog w (FrO (fEnv nm.1.1 83 L)) C s₁ s' → Sit prog w (hd.heap_39 P) mb n C (FrO (fEnv nm.1.1 83 L)) (A.deeper (fEnv nm.1.1 83 L)) (fEnv nm.1.1 83 L) ρ' s' → ρ'.lookup ("self" : Str) = some (.val (.ref x)) → Ev prog w C (FrO (fEnv nm.1.1 83 L)) (A.deeper (fEnv nm.1.1 83 L)) (fEnv nm.1.1 83 L) (.Attribute (.Name "self" p1) "_ignore" p2) (.val (.ref c)) s' := fun e S' h =>
    ev_attr S' cls_at (I.ext e hZb) (ev_var S' h (.inl rfl)) a3 rfl obj_no1 rfl
  have at2 : ∀ {s' : Shared} {ρ' : List (Str × PV)} {p1 p2 : Pos}, Ext prog w (FrO (fEnv nm.1.1 83 L)) C s₁ s' → Sit prog w (hd.heap_39 P) mb n C (FrO (fEnv nm.1.1 83 L)) (A.deeper (fEnv nm.1.1 83 L)) (fEnv nm.1.1 83 L) ρ' s' → ρ'.lookup ("self" : Str) = some (.val (.ref x)) → Ev prog w C (FrO (fEnv nm.1.1 83 L)) (A.deeper (fEnv nm.1.1 83 L)) (fEnv nm.1.1 83 L) (.Attribute (.Name "self" p1) "_mods" p2) (.val (.ref ms)) s' := fun e S' h =>
    ev_attr S' cls_at (I.ext e hZb) (ev_var S' h (.inl rfl)) a1 rfl obj_no2 rfl
  have at3 : ∀ {s' : Shared} {ρ' : List (Str × PV)} {p1 p2 : Pos}, Ext prog w (FrO (fEnv nm.1.1 83 L)) C s₁ s' → Sit prog w (hd.heap_39 P) mb n C (FrO (fEnv nm.1.1 83 L)) (A.deeper (fEnv nm.1.1 83 L)) (fEnv nm.1.1 83 L) ρ' s' → ρ'.lookup ("self" : Str) = some (.val (.ref x)) → Ev prog w C (FrO (fEnv nm.1.1 83 L)) (A.deeper (fEnv nm.1.1 83 L)) (fEnv nm.1.1 83 L) (.Attribute (.Name "self" p1) "_dirs" p2) (.list (dirs.map .str)) s' := fun {s' ρ' p1 p2} e S' h =>
    Do.mono (ev_attr S' cls_at (I.ext e hZb) (ev_var S' h (.inl rfl)) a2 rfl obj_no3 rfl) fun v s'' e'' r => by
      refine Mine.Rep.elV r fun _ => ?_
      exact ((hL.ext e (lt_no b2)).ext e'' (fun q => q)).rep (lt_no b2)
  have fin : ∀ {V : Int} {p1 p2 p3 p4 p5 p6 p7 p8 : Pos} {k1 k2 : Nat} {s' : Shared} {ρ' : List (Str × PV)}, V = r → Pm m r → Ext prog w (FrO (fEnv nm.1.1 83 L)) C s₁ s' → Sit prog w (hd.heap_39 P) mb n C (FrO (fEnv nm.1.1 83 L)) (A.deeper (fEnv nm.1.1 83 L)) (fEnv nm.1.1 83 L) ρ' s' → ρ'.lookup ("self" : Str) = some (.val (.ref x)) → ρ'.lookup ("modulename" : Str) = some (.str m) →
      wpAny (model prog w) (A.deeper (fEnv nm.1.1 83 L)) (execs [.Assign [.Subscript (.Attribute (.Name "self" p1) "_ignore" p2) (.Name "modulename" p3) p4] (.Constant (.int V) k1 p5) p6, .Return (some (.Constant (.int V) k2 p7)) p8] (fEnv nm.1.1 83 L))
        (fun f s'' => ∃ v, f = .ret v ∧ Rep X s''.heap v (.int r) ∧ Has prog w s''.heap c m r ∧ Ext prog w (FrO (fEnv nm.1.1 83 L)) C s₁ s'' ∧ Ext prog w noX C s' s'') (fun _ _ => False) s' := by
    intro V p1 p2 p3 p4 p5 p6 p7 p8 k1 k2 s' ρ' hV hPm e S' h1 h2
    subst hV
    refine wpAny_execs_cons (wpAny_Assign_Subscript ?_)
    refine (ev_cint (X := FrO (fEnv nm.1.1 83 L)) (C := C) s' .refl _ _ fun v sa ea ra => ?_)
    refine Mine.Rep.elI ra fun _ => ?_
    refine at1 (e.trans ea.ofNo) (S'.ext ea) h1 sa .refl _ _ fun ov sb eb rb => ?_
    refine Mine.Rep.elV rb fun _ => ?_
    refine (ev_var (S'.ext (ea.trans eb)) h2 (.inl rfl)).run .refl fun iv sc ec rc => ?_
    refine Mine.Rep.elS rc fun _ => ?_
    have e' := ea.trans (eb.trans ec)
    refine memo_set hC (hM₁.ext (e.trans e'.ofNo) (lt_no b3) hC) hm hPm hP hKS hlen fun sd ed hH => ?_
    exact x_return (X := X) (C := C) ev_cint fun v se ee re => ⟨v, rfl, re, hH.ext ee (fun q => q), e.trans (e'.trans (ed.trans ee)).ofNo, e'.trans (ed.trans ee)⟩
  -- if modulename in self._ignore
  refine x_ifR (ts_in_memo S₁ (ev_var S₁ rfl (.inl rfl)) (at1 .refl S₁ rfl) hC hM₁ hm hP b4) fun bb s₂ e₂ hT => ?_
  have S₂ := S₁.ext e₂
  have e₁₂ : Ext prog w (FrO (fEnv nm.1.1 83 L)) C s₁ s₂ := e₂.ofNo
  cases bb with
  | true =>
    refine x_return (ev_memo (at1 e₁₂ S₂ rfl) (ev_var S₂ rfl (.inl rfl)) hC (hM₁.ext e₂ (fun q => q) hC) hm hP (hT.1 rfl)) fun v s₃ e₃ rv v' hv => ?_
    subst hv
    exact ⟨e₁₂.trans e₃.ofNo, fun _ => ⟨rv.imm rfl, (hT.1 rfl).ext e₃ (fun q => q)⟩⟩
  | false =>
  refine x_nil ?_
  dsimp only
  refine Mine.el0b (hnew.resolve_left fun q => hT.2 rfl r (q.ext (e01.trans e₂) (fun q => q))) fun hPr hrr => ?_
  clear hT
  -- if modulename in self._mods
  have hS₂ := hS.ext e₁₂ (lt_no b1)
  refine x_if (ts_cmp (ev_var S₂ rfl (.inl rfl)) (at2 e₁₂ S₂ rfl) fun a b s' e ra rb => op_in_set (hS₂.ext e (fun q => q)) ra rb) fun s₃ e₃ => ?_
  have S₃ := S₂.ext e₃
  have e₁₃ := e₁₂.trans e₃.ofNo
  cases hin : decide (m ∈ mods) with
  | true =>
    refine wpAny_mono (fin (by rw [hrr]; simp [nmR, nmB, hin]) hPr e₁₃ S₃ rfl rfl) (fun f s₄ hf => ?_) fun _ _ q => q
    (refine Mine.el1e hf fun v hq13 h1 h2 h3 h4 => ?_; try clear hf; obtain rfl := hq13)
    exact fun v' hv => hv ▸ ⟨h3, fun _ => ⟨h1, h2⟩⟩
  | false =>
  refine x_nil ?_
  dsimp only
  -- for mod in self._mods
  refine wpAny_execs_cons (wpAny_For ((at2 e₁₃ S₃ rfl).run .refl fun ov s₄ e₄ r4 => ?_))
  refine Mine.Rep.elV r4 fun _ => ?_
  have S₄ := S₃.ext e₄
  have e₁₄ := e₁₃.trans e₄.ofNo
  refine iter_set S₄ (hS.ext e₁₄ (lt_no b1)) (lt_no b1) fun xs it s₅ hxs e₅ hI => ?_
  refine for_loop (Z := FrO (fEnv nm.1.1 83 L)) (ρ := [("modulename", .str m), ("filename", fnPV fn), ("self", .val (.ref x))]) S₄ e₅ hI O' (.inl rfl) (fun _ h => h) (fun _ h => h) (fun i => [("modulename", .str m), ("filename", fnPV fn), ("self", .val (.ref x))])
    (fun _ i _ => (xs.take i).any (fun y => Txt.startswith m (y ++ ".")) = false) (fun _ _ _ _ _ _ _ h _ => h) sub_refl (fun _ _ _ => rfl) ?_ ?_
  · intro Xb i p sb hp hXb Ob eb Sb hJ
    obtain ⟨y, hy, rfl⟩ : ∃ y, xs[i]? = some y ∧ PV.str y = p := by simpa using hp
    have hy1 : y.length ≤ 1000 := z1 y ((hxs y).mp (List.mem_of_getElem? hy))
    have Sb0 := Sb
    have Sb := Sb.ofSub hXb
    have e₁b := e₁₄.trans eb
    refine x_if (ts_bool (ev_method (ev_var Sb rfl (.inl rfl)) (evs_cons (ev_binop (ev_var Sb rfl (.inl rfl)) ev_cstr fun a b s' e ra rb => op_add_str ra rb (len_sz1 hy1)) evs_nil) m_startswith)) fun sc ec => ?_
    have Sc := Sb.ext ec
    have e₁c := e₁b.trans ec.ofNo
    cases hst : Txt.startswith m (y ++ ".") with
    | true =>
      have hany : mods.any (fun y => Txt.startswith m (y ++ ".")) = true := List.any_eq_true.mpr ⟨y, (hxs y).mp (List.mem_of_getElem? hy), hst⟩
      refine wpAny_mono (fin (by rw [hrr]; simp [nmR, nmB, hany]) hPr e₁c Sc rfl rfl) (fun f sd hf => ?_) fun _ _ q => q
      (refine Mine.el1e hf fun v hq15 h1 h2 h3 h4 => ?_; try clear hf; obtain rfl := hq15)
      exact ⟨(ec.trans h4).ofNo, fun _ v' hv => hv ▸ ⟨h3, fun _ => ⟨h1, h2⟩⟩⟩
    | false =>
      refine x_nil (x_nil ⟨ec.ofNo, ?_, ?_⟩)
      · exact (Sb0.ext ec).sub (sub_tail rfl)
      · rw [List.take_add_one, hy, List.any_append, hJ]; simp [hst]
  intro X₆ s₆ hX₆ O₆ e₆ S₆ hJ₆
  have hno : mods.any (fun y => Txt.startswith m (y ++ ".")) = false := by
    rw [← any_same hxs]
    rw [List.length_map, List.take_length] at hJ₆
    exact hJ₆
  clear hJ₆
  have S₆ := S₆.ofSub hX₆
  have e₁₆ := e₁₄.trans e₆
  -- if filename is None
  refine x_if (ts_cmp (ev_var S₆ rfl (.inl rfl)) ev_cnone fun a b s' e ra rb => op_is_none ra rb) fun s₇ e₇ => ?_
  have S₇ := S₆.ext e₇
  have e₁₇ := e₁₆.trans e₇.ofNo
  cases fn with
  | none =>
    simp only [Option.isNone_none, if_true]
    refine wpAny_mono (fin (by rw [hrr]; simp [nmR, nmB]) hPr e₁₇ S₇ rfl rfl) (fun f s₈ hf => ?_) fun _ _ q => q
    (refine Mine.el1e hf fun v hq16 h1 h2 h3 h4 => ?_; try clear hf; obtain rfl := hq16)
    exact fun v' hv => hv ▸ ⟨h3, fun _ => ⟨h1, h2⟩⟩
  | some fl =>
  simp only [Option.isNone_some, Bool.false_eq_true, if_false]
  refine x_nil ?_
  dsimp only
  -- for d in self._dirs
  refine x_for (Z := FrO (fEnv nm.1.1 83 L)) S₇ (evi_list S₇ (at3 e₁₇ S₇ rfl)) O' (.inl rfl) (by intro v; rfl) (fun _ h => h) (fun _ h => h) (fun i => [("modulename", .str m), ("filename", .str fl), ("self", .val (.ref x))])
    (fun _ i _ => (dirs.take i).any (fun d => Txt.startswith fl (d ++ "/")) = false) (fun _ _ _ _ _ _ _ h _ => h) sub_refl (fun _ _ _ => rfl) ?_ ?_
  · intro Xb i p sb hp hXb Ob eb Sb0 hJ
    obtain ⟨y, hy, rfl⟩ : ∃ y, dirs[i]? = some y ∧ PV.str y = p := by simpa using hp
    have hy1 : y.length ≤ 1000 := z2 y (List.mem_of_getElem? hy)
    have Sb := Sb0.ofSub hXb
    have e₁b := e₁₇.trans eb
    refine x_if (ts_bool (ev_method (ev_var Sb rfl (.inl rfl)) (evs_cons (ev_binop (ev_var Sb rfl (.inl rfl)) (ev_gstr Sb rfl rfl) fun a b s' e ra rb => op_add_str ra rb (len_sz1 hy1)) evs_nil) m_startswith)) fun sc ec => ?_
    have Sc := Sb.ext ec
    have e₁c := e₁b.trans ec.ofNo
    cases hst : Txt.startswith fl (y ++ "/") with
    | true =>
      have hany : dirs.any (fun d => Txt.startswith fl (d ++ "/")) = true := List.any_eq_true.mpr ⟨y, List.mem_of_getElem? hy, hst⟩
      refine wpAny_mono (fin (by rw [hrr]; simp [nmR, nmB, hany]) hPr e₁c Sc rfl rfl) (fun f sd hf => ?_) fun _ _ q => q
      (refine Mine.el1e hf fun v hq17 h1 h2 h3 h4 => ?_; try clear hf; obtain rfl := hq17)
      exact ⟨(ec.trans h4).ofNo, fun _ v' hv => hv ▸ ⟨h3, fun _ => ⟨h1, h2⟩⟩⟩
    | false =>
      refine x_nil (x_nil ⟨ec.ofNo, (Sb0.ext ec).sub (sub_tail rfl), ?_⟩)
      rw [List.take_add_one, hy, List.any_append, hJ]; simp [hst]
  · intro X₈ s₈ hX₈ O₈ e₈ S₈ hJ₈
    rw [List.length_map, List.take_length] at hJ₈
    have S₈ := S₈.ofSub hX₈
    have e₁₈ := e₁₇.trans e₈
    refine wpAny_mono (fin (by rw [hrr]; simp [nmR, nmB, hin, hno, hJ₈]) hPr e₁₈ S₈ rfl rfl) (fun f s₉ hf => ?_) fun _ _ q => q.elim
    (refine Mine.el1e hf fun v hq18 h1 h2 h3 h4 => ?_; try clear hf; obtain rfl := hq18)
    exact fun v' hv => hv ▸ ⟨h3, fun _ => ⟨h1, h2⟩⟩
end Mine
end
section
open PySem PySem.W PySem.Calls PyProof.Rows
set_option Elab.async false
set_option maxRecDepth 100000
set_option linter.unusedVariables false
namespace Mine
variable {prog : Program} {w : World} {K : Frag} {mb : Str → Option Value} {X Y : Addr → Prop} {C : Mem} {s s' s'' : Shared} {A : Around} {env : Env} {ρ : List (Str × PV)} {n : Nat}
noncomputable def pa : { p : FuncData × List Stmt // ∀ P, FnAt (hd.heap_39 P) 95 p.1 ["word", "sign"] p.2 } := ⟨(_, _), fun P => {
  at_ := ⟨_, rfl, rfl⟩
  code := ⟨94, _, _, _, rfl, rfl, rfl, rfl⟩
  body := rfl
  kind := rfl
  co := rfl
  gen := rfl
  globals := rfl
  builtins := rfl
  closure := rfl
  kinds := fun L => by repeat (first | exact ks_nil | refine ks_cons (by first | exact .inl rfl | exact .inr ⟨rfl, rfl⟩) ?_) }⟩
theorem pa_bind (v u : Value) : bindArgs pa.1.1 ⟨[v, u], []⟩ = pure [(("word" : Str), v), (("sign" : Str), u)] := by rfl
theorem pa_spec {P : Params} {word sign : Str} {vs : List Value} (S : Sit prog w (hd.heap_39 P) mb (n + 1) C X A env ρ s) (hr : Reps X s.heap vs [.str word, .str sign]) (h1 : word.length ≤ 1000) (h2 : sign.length ≤ 1000) : DoV prog w C X A (call (.ref 95) vs) (.list ((partsP word sign).map .str)) s := by
  (refine Mine.Reps.el2 hr fun _ _ r1 r2 => ?_; have hr' := Reps.cons r1 (.cons r2 .nil))

  refine call_fn S (pa.2 P) hr' rfl (pa_bind _ _) fun s₀ L s₁ X' e₀ e₁ O hXX hlo S₁ => ?_
  k_fold
  refine x_return (X := X') (C := C) (p := .list ((partsP word sign).map .str)) ?_ fun v s' e' r v' hv => by
    subst hv
    exact ⟨e'.ofNo, fun _ => r.ofSub hXX⟩
  refine ev_eq (ev_lc S₁ O.ap rfl (evi_str S₁ (ev_var S₁ rfl (.inl rfl))) (fun _ => true) (onS fun x => .str (if x = sign then sign else sign ++ sign)) (.inl rfl) (by simp [chars]; exact len_sz h1) (by intro v; exact rfl) ?_) ?_
  · intro L' cells X'' p s' hp S' ce e'
    refine ⟨tests_nil, fun _ => ?_⟩
    obtain ⟨c, hc, rfl⟩ : ∃ c, c ∈ word.cps.toList ∧ PV.str ⟨#[c]⟩ = p := by simpa [chars] using hp
    refine ev_ifexp (b := decide ((⟨#[c]⟩ : Str) = sign)) (ts_cmp (ev_loc S' rfl rfl) (ev_free S' ce rfl rfl) fun a b s' e ra rb => op_eq_str ra rb) (fun hb => ?_) fun hb => ?_
    · show Ev _ _ _ _ _ _ _ (.str (if _ then _ else _)) _
      rw [if_pos (of_decide_eq_true hb)]
      exact ev_free S' ce rfl rfl
    · show Ev _ _ _ _ _ _ _ (.str (if _ then _ else _)) _
      rw [if_neg (of_decide_eq_false hb)]
      exact ev_binop (ev_free S' ce rfl rfl) (ev_free S' ce rfl rfl) fun a b s' e ra rb => op_add_str ra rb (Nat.le_trans (Nat.add_le_add h2 h2) (by decide))
  · rw [List.filter_eq_self.mpr (fun _ _ => rfl)]
    simp only [chars, partsP, List.map_map]
    rfl
noncomputable def ki : { p : FuncData × List Stmt // ∀ P, FnAt (hd.heap_39 P) 35 p.1 ["name", "x"] p.2 } := ⟨(_, _), fun P => {
  at_ := ⟨_, rfl, rfl⟩
  code := ⟨34, _, _, _, rfl, rfl, rfl, rfl⟩
  body := rfl
  kind := rfl
  co := rfl
  gen := rfl
  globals := rfl
  builtins := rfl
  closure := rfl
  kinds := fun L => by repeat (first | exact ks_nil | refine ks_cons (by first | exact .inl rfl | exact .inr ⟨rfl, rfl⟩) ?_) }⟩
theorem ki_bind (v0 v1 : Value) : bindArgs ki.1.1 ⟨[v0, v1], []⟩ = pure [(("name" : Str), v0), (("x" : Str), v1)] := by rfl
theorem ki_spec {P : Params} {nm x : Str} {vs : List Value} (S : Sit prog w (hd.heap_39 P) mb (n + 1) C X A env ρ s) (hr : Reps X s.heap vs [.str nm, .str x]) : DoV prog w C X A (call (.ref 35) vs) (.str ⟨#[]⟩) s := by
  (refine Mine.Reps.el2 hr fun _ _ r1 r2 => ?_; have hr' := Reps.cons r1 (.cons r2 .nil))

  refine call_fn S (ki.2 P) hr' rfl (ki_bind _ _) fun s₀ L s₁ X' e₀ e₁ O hXX hlo S₁ => ?_
  k_fold
  refine x_assign (p := .val (.type "str")) S₁ O (.inl rfl) (ev_call_type (ev_builtin S₁ rfl rfl (by decide) rfl) (evs_cons (ev_var S₁ rfl (.inl rfl)) evs_nil) fun vs s' e r => ?_) (by rfl) fun s₂ e₂ S₂ => ?_
  · cases r with
    | cons a b =>
      refine Mine.Rep.elS a fun _ => ?_; refine Mine.Reps.elN b ?_
      exact fun s₁ e₁ Q E k => call_type_of (typeIs_str _ _ _) (by decide) (k _ _ .refl (.val _))
  · refine x_if (ts_cmp (p := .val (.type "str")) (q := .val (.type "str")) (b := true) (ev_var S₂ rfl (.inl rfl)) (ev_builtin S₂ rfl rfl (by decide) rfl) fun a b s' e ra rb => ?_) fun s₃ e₃ => ?_
    · refine Mine.Rep.elV ra fun _ => ?_; refine Mine.Rep.elV rb fun _ => ?_
      exact fun s₁ e₁ Q E k => wpAny_bind (wpAny_pure (wpAny_pure (k _ _ .refl (.bool _))))
    · simp only [if_true]
      refine x_return (X := X') (C := C) ev_cstr fun v s' e' r v' hv => ?_
      subst hv
      exact ⟨e₂.trans (e₃.trans e').ofNo, fun _ => r.imm rfl⟩
end Mine
end
section
open PySem PySem.W PySem.Calls PyProof.Rows
set_option Elab.async false
set_option maxRecDepth 100000
set_option linter.unusedVariables false
namespace Mine
variable {prog : Program} {w : World} {K : Frag} {mb : Str → Option Value} {X Y : Addr → Prop} {C : Mem} {s s' s'' : Shared} {A : Around} {env : Env} {ρ : List (Str × PV)} {n : Nat}
noncomputable def sr : { p : FuncData × List Stmt // ∀ P, FnAt (hd.heap_39 P) 49 p.1 ["p"] p.2 } := ⟨(_, _), fun P => {
  at_ := ⟨_, rfl, rfl⟩
  code := ⟨48, _, _, _, rfl, rfl, rfl, rfl⟩
  body := rfl
  kind := rfl
  co := rfl
  gen := rfl
  globals := rfl
  builtins := rfl
  closure := rfl
  kinds := fun L => by repeat (first | exact ks_nil | refine ks_cons (by first | exact .inl rfl | exact .inr ⟨rfl, rfl⟩) ?_) }⟩
theorem sr_bind (v0 : Value) : bindArgs sr.1.1 ⟨[v0], []⟩ = pure [(("p" : Str), v0)] := by rfl
theorem sr_spec {P : Params} {p : Str} {vs : List Value} (S : Sit prog w (hd.heap_39 P) mb (n + 1) C X A env ρ s) (hr : Reps X s.heap vs [.str p]) (hp : p.length ≤ 1000) (h1 : spick p none (some 1) none = "/") (h2 : spick p (some 1) (some 2) none ≠ "/") :
    DoV prog w C X A (call (.ref 49) vs) (.tup [.str ⟨#[]⟩, .str "/", .str (spick p (some 1) none none)]) s := by
  (refine Mine.Reps.el1 hr fun _ r1 => ?_; have hr' := Reps.cons r1 .nil)

  refine call_fn S (sr.2 P) hr' rfl (sr_bind _) fun s₀ L s₁ X' e₀ e₁ O hXX hlo S₁ => ?_
  k_fold
  refine x_assign S₁ O (.inl rfl) ev_cstr (by rfl) fun s₂ e₂ S₂ => ?_
  refine x_assign S₂ O (.inl rfl) ev_cstr (by rfl) fun s₃ e₃ S₃ => ?_
  refine x_if (ts_cmp (ev_slice_str (ev_var S₃ rfl (.inl rfl)) evp_none (evp_some (X := X') ev_cint) evp_none (by decide) (len_sz hp)) (ev_var S₃ rfl (.inl rfl)) fun a b s' e ra rb => op_ne_str ra rb) fun s₄ e₄ => ?_
  have S₄ := S₃.ext e₄
  rw [h1, decide_eq_true rfl]
  simp only [Bool.not_true, Bool.false_eq_true, if_false]
  refine x_if (ts_or_first (ts_eq (ts_cmp (ev_slice_str (ev_var S₄ rfl (.inl rfl)) (evp_some (X := X') ev_cint) (evp_some (X := X') ev_cint) evp_none (by decide) (len_sz hp)) (ev_var S₄ rfl (.inl rfl)) fun a b s' e ra rb => op_ne_str ra rb) (by rw [decide_eq_false h2]; rfl))) fun s₅ e₅ => ?_
  have S₅ := S₄.ext e₅
  refine x_return (ev_tuple S₅.bd (evs_cons (ev_var S₅ rfl (.inl rfl)) (evs_cons (ev_var S₅ rfl (.inl rfl)) (evs_cons (ev_slice_str (ev_var S₅ rfl (.inl rfl)) (evp_some (X := X') ev_cint) evp_none evp_none (by decide) (len_sz hp)) evs_nil))) (show 3 ≤ sizeLine by decide)) fun v s₆ e₆ r v' hv => ?_
  subst hv
  exact ⟨e₂.trans (e₃.trans (e₄.trans (e₅.trans e₆)).ofNo), fun _ => r.ofSub hXX⟩
noncomputable def cp : { p : FuncData × List Stmt // ∀ P, FnAt (hd.heap_39 P) 42 p.1 ["name", "cname", "argname", "args", "kwargs"] p.2 } := ⟨(_, _), fun P => {
  at_ := ⟨_, rfl, rfl⟩
  code := ⟨41, _, _, _, rfl, rfl, rfl, rfl⟩
  body := rfl
  kind := rfl
  co := rfl
  gen := rfl
  globals := rfl
  builtins := rfl
  closure := rfl
  kinds := fun L => by repeat (first | exact ks_nil | refine ks_cons (by first | exact .inl rfl | exact .inr ⟨rfl, rfl⟩) ?_) }⟩
theorem cp_bind (v0 v1 v2 v3 v4 : Value) : bindArgs cp.1.1 ⟨[v0, v1, v2, v3, v4], []⟩ = pure [(("name" : Str), v0), (("cname" : Str), v1), (("argname" : Str), v2), (("args" : Str), v3), (("kwargs" : Str), v4)] := by rfl
theorem c_len_tup {l : List PV} {vs : List Value} (r : Reps X s.heap vs [.tup l]) (hsz : l.length ≤ sizeLine) : DoV prog w C X A (call (.builtin "len") vs) (.int l.length) s := by
  refine Mine.Reps.elC r fun _ _ a b => ?_
  ·
    refine Mine.Reps.elN b ?_
    intro s₁ e₁ Q E k
    refine Mine.Rep.elT ((a.ext e₁.ofNo)) fun d items hx hl hr => ?_
    ·
      have hn : items.size = l.length := by simpa using hr.length
      have h0 : sizeLine = 16777216 := by decide
      refine PyProof.Rows.len_tuple hl (by omega) ?_
      rw [hn]
      exact k _ _ .tok (.int _ _)
theorem cp_spec {P : Params} {a b c x : Str} {d : Addr} {vs : List Value} (S : Sit prog w (hd.heap_39 P) mb (n + 2) C X A env ρ s) (hr : Reps X s.heap vs [.str a, .str b, .str c, .tup [.str x], .val (.ref d)]) (hdd : s.heap.DictOf (strKind prog w) d []) (hds : (d == sysModules) = false) (hCd : C d = none) :
    DoV prog w C X A (call (.ref 42) vs) (.str x) s := by
  (refine Mine.Reps.el5 hr fun _ _ _ _ _ r1 r2 r3 r4 r5 => ?_; have hr' := Reps.cons r1 (.cons r2 (.cons r3 (.cons r4 (.cons r5 .nil)))))

  refine call_fn S (cp.2 P) hr' rfl (cp_bind _ _ _ _ _) fun s₀ L s₁ X' e₀ e₁ O hXX hlo S₁ => ?_
  k_fold
  have hdk : ∀ s', Ext prog w noX C s₁ s' → s'.heap.DictOf (strKind prog w) d [] := fun s' e => by
    refine Mine.el1b (Heap.dictOf_iff.mp hdd) fun o ho hh => ?_
    exact Heap.dictOf_iff.mpr ⟨o, (e₀.trans (e₁.trans e)).keepAt ho (fun q => q) hCd, hh⟩
  have hkw : ∀ pos, Ts prog w C (A.deeper (fEnv cp.1.1 42 L)) (fEnv cp.1.1 42 L) (.Name "kwargs" pos) false s₁ := fun pos sa ea Q E k => by
    show wpAny _ _ (eval (.Name "kwargs" pos) (fEnv cp.1.1 42 L) >>= _) _ _ _
    refine wpAny_bind ((ev_var S₁ rfl (.inl rfl)).run ea fun v sb eb r => wpAny_bind (wpAny_standAt (wpAny_holding ?_)))
    refine Mine.Rep.elV r fun _ => ?_
    exact wpAny_truthy_dict hds (hdk sb (ea.trans eb)) (by decide) (k _ _ eb.tokR rfl)
  refine x_if2 (fun s' => Ext prog w (FrO (fEnv cp.1.1 42 L)) C s₁ s' ∧ Sit prog w (hd.heap_39 P) mb (n + 1) C X' (A.deeper (fEnv cp.1.1 42 L)) (fEnv cp.1.1 42 L) [("x", .str x), ("name", .str a)] s')
    (ts_and2 (ts_cmp (ev_call_builtin (ev_builtin S₁ rfl rfl (by decide) rfl) (evs_cons (ev_var S₁ rfl (.inl rfl)) evs_nil) fun vs s' e r => c_len_tup r (show 1 ≤ sizeLine by decide)) ev_cint fun a b s' e ra rb => op_eq_int ra rb) fun _ => ts_not (hkw _)) (fun s₂ e₂ => ?_) ?_
  · have S₂ := S₁.ext e₂
    show wpAny _ _ (execs (if true = true then _ else _) (fEnv cp.1.1 42 L)) _ _ _
    refine x_assign S₂ O (.inl rfl) (ev_item_tup (ev_var S₂ rfl (.inl rfl)) ev_cint (by decide) (p := .str x) rfl (show 1 ≤ sizeLine by decide)) (by rfl) fun s₃ e₃ S₃ => x_nil ⟨e₂.ofNo.trans e₃, S₃.sub (sub_cons rfl (sub_cons rfl sub_nil))⟩
  · rintro s₂ ⟨e₁₂, S₂⟩
    refine Mine.el1b ((ki.2 P).at_) fun o35 ho35 hd35 => ?_
    refine x_assign S₂ O (.inl rfl) (ev_call_fn (ev_global S₂ rfl rfl) (evs_cons (ev_var S₂ rfl (.inl rfl)) (evs_cons (ev_var S₂ rfl (.inl rfl)) evs_nil)) (S₂.base.frag _ _ ho35) hd35 fun vs s' e r => ki_spec (S₂.ext e) r) (by rfl) fun s₃ e₃ S₃ => ?_
    refine x_if (ts_str (ev_var S₃ rfl (.inl rfl)) (hsz := by decide)) fun s₄ e₄ => ?_
    have S₄ := S₃.ext e₄
    show wpAny _ _ (execs (if false = true then _ else _) (fEnv cp.1.1 42 L)) _ _ _
    refine x_nil (x_return (ev_var S₄ rfl (.inl rfl)) fun v s₅ e₅ r v' hv => ?_)
    subst hv
    exact ⟨e₁₂.trans (e₃.trans (e₄.trans e₅).ofNo), fun _ => r.imm rfl⟩
noncomputable def np : { p : FuncData × List Stmt // ∀ P, FnAt (hd.heap_39 P) 56 p.1 ["path"] p.2 } := ⟨(_, _), fun P => {
  at_ := ⟨_, rfl, rfl⟩
  code := ⟨55, _, _, _, rfl, rfl, rfl, rfl⟩
  body := rfl
  kind := rfl
  co := rfl
  gen := rfl
  globals := rfl
  builtins := rfl
  closure := rfl
  kinds := fun L => by repeat (first | exact ks_nil | refine ks_cons (by first | exact .inl rfl | exact .inr ⟨rfl, rfl⟩) ?_) }⟩
theorem np_bind (v0 : Value) : bindArgs np.1.1 ⟨[v0], []⟩ = pure [(("path" : Str), v0)] := by rfl

theorem np_spec {P : Params} {p : Str} {comps : List Str} {vs : List Value} (S : Sit prog w (hd.heap_39 P) mb (n + 2) C X A env ρ s) (hr : Reps X s.heap vs [.str p]) (hp : p.length ≤ 1000) (hp0 : (p.length != 0) = true) (h1 : spick p none (some 1) none = "/") (h2 : spick p (some 1) (some 2) none ≠ "/")
    (hq : (spick p (some 1) none none).length ≤ 1000) (hc : Txt.split (spick p (some 1) none none) "/" = comps) (hcl : comps.length ≤ 1000) (hce : ∀ c ∈ comps, c.length ≤ 1000 ∧ c ≠ "..") (hj : JoinOk "/" (keptP comps) = true) (hjl : (Txt.join "/" (keptP comps)).length ≤ 100000) :
    DoV prog w C X A (call (.ref 56) vs) (.str ("/" ++ Txt.join "/" (keptP comps))) s := by
  (refine Mine.Reps.el1 hr fun _ r1 => ?_; have hr' := Reps.cons r1 .nil)

  refine call_fn S (np.2 P) hr' rfl (np_bind _) fun s₀ L s₁ X' e₀ e₁ O hXX hlo S₁ => ?_
  k_fold
  refine x_assign S₁ O (.inl rfl) ev_cstr (by rfl) fun s₂ e₂ S₂ => ?_
  refine x_assign S₂ O (.inl rfl) ev_cstr (by rfl) fun s₃ e₃ S₃ => ?_
  refine x_assign S₃ O (.inl rfl) ev_cstr (by rfl) fun s₄ e₄ S₄ => ?_
  have e₁₄ := e₂.trans (e₃.trans e₄)
  refine x_if (ts_not (ts_str (ev_var S₄ rfl (.inl rfl)) (hsz := len_sz hp))) fun s₅ e₅ => ?_
  have S₅ := S₄.ext e₅
  rw [hp0]
  simp only [Bool.not_true, Bool.false_eq_true, if_false]
  refine x_nil ?_
  dsimp only
  refine Mine.el1b ((sr.2 P).at_) fun o49 ho49 hd49 => ?_
  refine x_assign_three S₅ O (.inl rfl) (.inl rfl) (.inl rfl) (ev_call_fn (ev_global S₅ rfl rfl) (evs_cons (ev_var S₅ rfl (.inl rfl)) evs_nil) (S₅.base.frag _ _ ho49) hd49 fun vs s' e r => sr_spec (S₅.ext e) r hp h1 h2) (by rfl) rfl fun s₆ e₆ S₆ => ?_
  refine x_assign S₆ O (.inl rfl) (ev_method (ev_var S₆ rfl (.inl rfl)) (evs_cons (ev_var S₆ rfl (.inl rfl)) evs_nil) (m_split S₆.bd rfl (len_sz hq) (split_parts _ _ hq))) (by rfl) fun s₇ e₇ S₇ => ?_
  rw [hc] at S₇
  have e₁₇ := e₁₄.trans (e₅.ofNo.trans (e₆.trans e₇))
  refine x_assign_mut S₇ O (.inl rfl) (evm_list S₇ evs_nil (show 0 ≤ sizeLine by decide)) (by rfl) fun a s₈ X₈ hX₈ ha hxa hfa hca e₈ O₈ S₈ M₈ => ?_
  have hXa : X₈ a := by rw [hX₈]; exact .inr rfl
  have hX : ∀ b, X' b → X₈ b := fun b h => by rw [hX₈]; exact .inl h
  have S₈ := S₈.sub (ρ' := [("new_comps", .val (.ref a)), ("comps", .list (comps.map .str)), ("initial_slashes", .str "/"), ("sep", .str "/"), ("dot", .str "."), ("dotdot", .str "..")]) (sub_cons rfl (sub_cons rfl (sub_cons rfl (sub_cons rfl (sub_cons rfl (sub_cons rfl sub_nil))))))
  have hlt8 : a < s₈.heap.objs.size := let ⟨_, ⟨_, ho⟩, _⟩ := M₈; Heap.lt_size ho
  refine x_for (Z := fun b => FrO (fEnv np.1.1 56 L) b ∨ b = a) S₈ (evi_list S₈ (ev_var S₈ rfl (.inl rfl))) O₈ (.inl rfl) (by intro v; rfl) (fun _ h => .inl h) (fun b h => h.elim (O₈.own b) fun h => h ▸ hXa)
    (fun i => [("new_comps", .val (.ref a)), ("initial_slashes", .str "/"), ("sep", .str "/"), ("dot", .str "."), ("dotdot", .str "..")])
    (fun Xj i sj => Mut Xj a ((keptP (comps.take i)).map .str) sj.heap) ?_ (sub_cons rfl (sub_cons rfl (sub_cons rfl (sub_cons rfl (sub_cons rfl sub_nil))))) (fun Xj h1 h2 => M₈.monoX h2) ?_ ?_
  · intro Xj i sa sb Z hXj hZ hm e
    refine hm.ext e (fun b h => (hZ b h).1) fun q => ?_
    rcases (hZ a q).2 with q | q
    · exact hfa q
    · exact Nat.lt_irrefl _ (Nat.lt_of_lt_of_le hlt8 q)
  · intro Xb i pv sb hpv hXb Ob eb Sb Mb
    obtain ⟨y, hy, rfl⟩ : ∃ y, comps[i]? = some y ∧ PV.str y = pv := by simpa using hpv
    refine Mine.el0b (hce y (List.mem_of_getElem? hy)) fun hy1 hy2 => ?_
    have htk : comps.take (i + 1) = comps.take i ++ [y] := by rw [List.take_add_one, hy]; rfl
    refine x_if (ts_or2 (ts_not (ts_str (ev_var Sb rfl (.inl rfl)) (hsz := len_sz hy1))) fun _ => ts_cmp (ev_var Sb rfl (.inl rfl)) (ev_var Sb rfl (.inl rfl)) fun a b s' e ra rb => op_eq_str ra rb) fun sc ec => ?_
    have Sc := Sb.ext ec
    have Mc := Mb.ext ec (fun _ q => q.elim) (fun q => q)
    cases hk : (!(y.length != 0) || decide (y = ".")) with
    | true =>
      refine x_continue ⟨ec.ofNo, Sc.sub (sub_cons rfl (sub_cons rfl (sub_cons rfl (sub_cons rfl (sub_cons rfl sub_nil))))), ?_⟩
      have : keptP (comps.take (i + 1)) = keptP (comps.take i) := by
        rw [htk, keptP, List.filter_append]
        have h0 : (y.length != 0 && !decide (y = ".")) = false := by
          cases h3 : y.length != 0 <;> cases h4 : decide (y = ".") <;> simp [h3, h4] at hk ⊢
        simp [h0, keptP]
      rw [this]; exact Mc
    | false =>
      refine x_nil ?_
      dsimp only
      refine x_if (ts_or_first (ts_eq (ts_cmp (ev_var Sc rfl (.inl rfl)) (ev_var Sc rfl (.inl rfl)) fun a b s' e ra rb => op_ne_str ra rb) (by rw [decide_eq_false hy2]; rfl))) fun sd ed => ?_
      have Sd := Sc.ext ed
      have Md := Mc.ext ed (fun _ q => q.elim) (fun q => q)
      refine x_append Sd rfl rfl Md (hXb a hXa) hfa (ev_var Sd rfl (.inl rfl)) (by rw [List.length_map]; exact Nat.le_trans (List.length_filter_le _ _) (Nat.le_trans (List.length_take_le' _ _) (len_sz hcl))) (hi := rfl) fun se ee Se Me => x_nil (x_nil ⟨(ec.trans ed).ofNo.trans (ee.mono fun b h => .inr h), Se.sub (sub_cons rfl (sub_cons rfl (sub_cons rfl (sub_cons rfl (sub_cons rfl sub_nil))))), ?_⟩)
      have : keptP (comps.take (i + 1)) = keptP (comps.take i) ++ [y] := by
        rw [htk, keptP, List.filter_append]
        have h0 : (y.length != 0 && !decide (y = ".")) = true := by
          cases h3 : y.length != 0 <;> cases h4 : decide (y = ".") <;> simp [h3, h4] at hk ⊢
        simp [h0, keptP]
      rw [this, List.map_append]; exact Me
  · intro X₉ s₉ hX₉ O₉ e₉ S₉ M₉
    rw [List.length_map, List.take_length] at M₉
    refine x_assign S₉ O₉ (.inl rfl) (ev_var S₉ rfl (.inl rfl)) (by rfl) fun sa ea Sa => ?_
    have Ma := M₉.ext ea O₉.own hfa
    have Sf := Sa.freeze Ma (fun b h => hX₉ b (hX b h)) hxa
    have hsz : (1 : Nat) + (Txt.join "/" (keptP comps)).length ≤ sizeLine := Nat.le_trans (Nat.add_le_add (Nat.le_refl _) hjl) (by decide)
    refine x_assign Sf O (.inl rfl) (ev_binop (ev_var Sf rfl (.inl rfl)) (ev_method (ev_var Sf rfl (.inl rfl)) (evs_cons (ev_var Sf rfl (.inl rfl)) evs_nil) (m_join hj)) fun a b s' e ra rb => op_add_str ra rb hsz) (by rfl) fun sb eb Sb => ?_
    refine x_return (ev_or_str (ev_var Sb rfl (.inl rfl)) ?_ ?_) fun v sc ec r v' hv => ?_
    · rw [str_len_app]
      have h3 : ("/" : Str).length = 1 := rfl
      rw [h3, bne_iff_ne]; omega
    · rw [str_len_app]; exact hsz
    · subst hv
      refine ⟨?_, fun _ => r.imm rfl⟩
      have e₁₉ : Ext prog w (FrO (fEnv np.1.1 56 L)) C s₁ s₉ := (e₁₇.trans e₈).freshZ e₉ fun b h => h.elim .inl fun (q : b = a) => .inr (q ▸ Nat.le_trans e₁₇.size ha)
      exact e₁₉.trans (ea.trans (eb.trans ec.ofNo))
noncomputable def no : { p : FuncData × List Stmt // ∀ P, FnAt (hd.heap_39 P) 63 p.1 ["args", "kwargs"] p.2 } := ⟨(_, _), fun P => {
  at_ := ⟨_, rfl, rfl⟩
  code := ⟨62, _, _, _, rfl, rfl, rfl, rfl⟩
  body := rfl
  kind := rfl
  co := rfl
  gen := rfl
  globals := rfl
  builtins := rfl
  closure := rfl
  kinds := fun L => by repeat (first | exact ks_nil | refine ks_cons (by first | exact .inl rfl | exact .inr ⟨rfl, rfl⟩) ?_) }⟩

theorem no_spec {P : Params} {p : Str} {comps : List Str} {vs : List Value} (S : Sit prog w (hd.heap_39 P) mb (n + 3) C X A env ρ s) (hr : Reps X s.heap vs [.str p]) (hp : p.length ≤ 1000) (hp0 : (p.length != 0) = true) (h1 : spick p none (some 1) none = "/") (h2 : spick p (some 1) (some 2) none ≠ "/")
    (hq : (spick p (some 1) none none).length ≤ 1000) (hc : Txt.split (spick p (some 1) none none) "/" = comps) (hcl : comps.length ≤ 1000) (hce : ∀ c ∈ comps, c.length ≤ 1000 ∧ c ≠ "..") (hj : JoinOk "/" (keptP comps) = true) (hjl : (Txt.join "/" (keptP comps)).length ≤ 100000) :
    DoV prog w C X A (call (.ref 63) vs) (.str ("/" ++ Txt.join "/" (keptP comps))) s := by
  refine Mine.Reps.elC hr fun _ _ r1 hr => ?_; refine Mine.Reps.elN hr ?_
  (refine Mine.el1a r1.inv fun tp hq20 => ?_; obtain rfl := hq20)
  refine call_fnB (ps := fun vs' => [.tup [.str p], .val (vs'.getD 1 .none)]) (D := fun vs' s₂ => ∃ d, vs'.getD 1 .none = .ref d ∧ s₂.heap.DictOf (strKind prog w) d [] ∧ (d == sysModules) = false ∧ C d = none) S (no.2 P) ?_ ?_
  · intro s₁ Q E e₁ k
    show wpAny _ _ (newTuple [.str p tp] >>= fun t => (alloc { cls := .type "dict", data := .dict #[] } >>= fun d => pure [(("args" : Str), t), (("kwargs" : Str), .ref d)])) _ _ _
    have S₁ := S.ext e₁
    refine wpAny_bind (wpAny_newObj_type ?_ (by show 1 ≤ sizeLine; decide))
    refine wpAny_bind (wpAny_alloc (wpAny_pure ?_))
    have e₂ : Ext prog w noX C s₁ { s₁ with heap := s₁.heap.push { cls := .type "tuple", data := .seq [Value.str p tp].toArray } } := .push
    have hsz : (s₁.heap.push { cls := .type "tuple", data := .seq [Value.str p tp].toArray }).objs.size = s₁.heap.objs.size + 1 := Heap.size_push ..
    have h4 : 4 < s₁.heap.objs.size := by refine Mine.el1b S₁.base.bm fun ob e _ => ?_; exact Heap.lt_size e
    refine k [.ref s₁.heap.objs.size, .ref (s₁.heap.push { cls := .type "tuple", data := .seq [Value.str p tp].toArray }).objs.size] _ rfl (e₂.trans .push) (.cons ?_ (.cons (.val _) .nil)) ⟨_, rfl, Heap.DictOf.new _, ?_, ?_⟩
    · exact (rep_newTup S₁.bd (.cons (.str p tp) .nil)).keeps fun _ _ e => Heap.get?_push_of_some _ e
    · rw [hsz, beq_eq_false_iff_ne]
      show s₁.heap.objs.size + 1 ≠ 1
      omega
    · exact co_new S₁ (by rw [hsz]; exact Nat.le_succ _)
  · rintro s₀ L s₁ X' vs' e₀ ⟨d, hvd, hdd, hds, hCd⟩ e₁ O hXX hlo S₁
    rw [hvd] at S₁
    k_fold
    refine Mine.el1b ((cp.2 P).at_) fun o42 ho42 hd42 => ?_
    refine Mine.el1b ((np.2 P).at_) fun o56 ho56 hd56 => ?_
    refine x_return (ev_call_fn (ev_global S₁ rfl rfl) (evs_cons (ev_call_fn (ev_global S₁ rfl rfl) (evs_cons ev_cstr (evs_cons ev_cstr (evs_cons ev_cstr (evs_cons (ev_var S₁ rfl (.inl rfl)) (evs_cons (ev_var S₁ rfl (.inl rfl)) evs_nil))))) (S₁.base.frag _ _ ho42) hd42 fun vs s' e r => cp_spec (S₁.ext e) r ?_ hds hCd) evs_nil) (S₁.base.frag _ _ ho56) hd56 fun vs s' e r => np_spec (S₁.ext e) r hp hp0 h1 h2 hq hc hcl hce hj hjl) fun v s' e' r v' hv => ?_
    · refine Mine.el1b (Heap.dictOf_iff.mp hdd) fun o ho hh => ?_
      exact Heap.dictOf_iff.mpr ⟨o, (e₁.trans e).keepAt ho (fun q => q) hCd, hh⟩
    · subst hv
      exact ⟨e'.ofNo, fun _ => r.imm rfl⟩
end Mine
end
section
open PySem PySem.W PySem.Calls PyProof.Rows
set_option Elab.async false
set_option maxRecDepth 100000
set_option linter.unusedVariables false
namespace Mine
variable {prog : Program} {w : World} {K : Frag} {mb : Str → Option Value} {X Y : Addr → Prop} {C : Mem} {s s' s'' : Shared} {A : Around} {env : Env} {ρ : List (Str × PV)} {n : Nat}
noncomputable def ini : { p : FuncData × List Stmt // ∀ P, FnAt (hd.heap_39 P) 76 p.1 ["self", "modules", "dirs"] p.2 } := ⟨(_, _), fun P => {
  at_ := ⟨_, rfl, rfl⟩
  code := ⟨75, _, _, _, rfl, rfl, rfl, rfl⟩
  body := rfl
  kind := rfl
  co := rfl
  gen := rfl
  globals := rfl
  builtins := rfl
  closure := rfl
  kinds := fun L => by repeat (first | exact ks_nil | refine ks_cons (by first | exact .inl rfl | exact .inr ⟨rfl, rfl⟩) ?_) }⟩

theorem ini_bind {P : Params} {vs : List Value} {x vm vd : Value} (hv : (vs = [] ∧ vm = .none ∧ vd = .none) ∨ (vs = [vm] ∧ vd = .none) ∨ vs = [vm, vd]) (B : (hd.heap_39 P).In s.heap) (Q : List (Str × Value) → Shared → Prop) (E : Value → Shared → Prop) (hq : Q [(("self" : Str), x), (("modules" : Str), vm), (("dirs" : Str), vd)] s) :
    wpAny (model prog w) A (bindArgs ini.1.1 ⟨x :: vs, []⟩) Q E s := by
  rcases hv with ⟨rfl, rfl, rfl⟩ | ⟨rfl, rfl⟩ | rfl
  all_goals
    show wpAny _ _ (seqItems? (.ref 71) >>= _) _ _ s
    exact wpAny_bind (wpAny_seqItems (B _ _ rfl) rfl (wpAny_pure hq))

/-- a reader just made: nothing of it lies where the maker's frame may store -/
inductive RNew (prog : Program) (w : World) (C : Mem) (X : Addr → Prop) (h : Heap) (lo : Nat) (x c : Addr) (mods dirs : List Str) : Prop
  | mk (ms ds dx mA o) : h.get? x = some o → o.cls = .ref 86 → o.data = .plain → o.dict = some dx → dx ≠ x → h.Ns1 dx mA → C dx = none → mA "_mods" = some (.ref ms) → mA "_dirs" = some (.ref ds) → mA "_ignore" = some (.ref c) → mA "names" = none → SetW prog w h ms mods → ListAt h ds dirs → (c == sysModules) = false → NewMemo prog w h c → C c = none → dx ≠ c → lo ≤ c → lo ≤ x → lo ≤ dx → ¬ X x → ¬ X dx → ¬ X ms → ¬ X ds → ¬ X c → RNew prog w C X h lo x c mods dirs
theorem RNew.ext {Z : Addr → Prop} {lo : Nat} {x c : Addr} {mods dirs : List Str} (R : RNew prog w C X s.heap lo x c mods dirs) (e : Ext prog w Z C s s') (hZ : ∀ a, Z a → X a) : RNew prog w C X s'.heap lo x c mods dirs := by
  obtain ⟨ms, ds, dx, mA, o, h1, h2, h3, h4, h5, h6, h7, a1, a2, a3, a4, h8, h9, h10, h11, h12, h13, l1, l2, l3, n1, n2, n3, n4, n5⟩ := R
  (refine Mine.el3c h6 fun o' es ep g1 g2 g3 => ?_; try clear h6)
  exact ⟨ms, ds, dx, mA, o, e.keepD h1 (fun q => n1 (hZ _ q)) (by rw [h3]; first | exact fun _ _ h => by cases h | exact fun _ h => by cases h | nofun), h2, h3, h4, h5, ⟨o', es, ep, e.keepAt g1 (fun q => n2 (hZ _ q)) h7, g2, g3⟩, h7, a1, a2, a3, a4, h8.ext e (fun q => n3 (hZ _ q)), h9.ext e (fun q => n4 (hZ _ q)), h10, h11.ext e (fun q => n5 (hZ _ q)) h12, h12, h13, l1, l2, l3, n1, n2, n3, n4, n5⟩
theorem RNew.mono {h : Heap} {lo lo' : Nat} {x c : Addr} {mods dirs : List Str} (R : RNew prog w C X h lo x c mods dirs) (hl : lo' ≤ lo) (hs : ∀ a, Y a → X a) : RNew prog w C Y h lo' x c mods dirs := by
  obtain ⟨ms, ds, dx, mA, o, h1, h2, h3, h4, h5, h6, h7, a1, a2, a3, a4, h8, h9, h10, h11, h12, h13, l1, l2, l3, n1, n2, n3, n4, n5⟩ := R
  exact ⟨ms, ds, dx, mA, o, h1, h2, h3, h4, h5, h6, h7, a1, a2, a3, a4, h8, h9, h10, h11, h12, h13, Nat.le_trans hl l1, Nat.le_trans hl l2, Nat.le_trans hl l3, fun q => n1 (hs _ q), fun q => n2 (hs _ q), fun q => n3 (hs _ q), fun q => n4 (hs _ q), fun q => n5 (hs _ q)⟩
theorem no_spec' {P : Params} {p r : Str} {vs : List Value} (S : Sit prog w (hd.heap_39 P) mb (n + 3) C X A env ρ s) (hr : Reps X s.heap vs [.str p]) (h : NormOk p r) : DoV prog w C X A (call (.ref 63) vs) (.str r) s := by
  obtain ⟨comps, h1, h2, h3, h4, h5, h6, h7, h8, h9, h10, rfl⟩ := h.ex
  exact no_spec S hr h1 h2 h3 h4 h5 h6 h7 h8 h9 h10
theorem rm_under {C0 : Addr} {vs : List Value} (h : Rm (n + 1) A) : Rm n (A.under (.builtin "type.__call__" ⟨.ref C0 :: vs, []⟩)) := by
  refine ⟨?_, ?_, h.h⟩
  · show A.depth + 1 + n ≤ 600
    have := h.d; omega
  · have hu : (A.under (.builtin "type.__call__" ⟨.ref C0 :: vs, []⟩)).units ≤ A.units + 100 := by
      show A.units + _ ≤ A.units + 100
      refine Nat.add_le_add_left ?_ _
      show _ ≤ 100
      first | exact (by decide : (1 : Nat) ≤ 100) | exact (by decide : (3 : Nat) ≤ 100) | exact (by decide : (2 : Nat) ≤ 100) | exact (by decide : (0 : Nat) ≤ 100)
    have := h.u; omega

theorem fr_ne {sx : Shared} {ρ' : List (Str × PV)} {A' : Around} {X' : Addr → Prop} {env' : Env} {a : Addr} {o : Obj} (S : Sit prog w K mb n C X' A' env' ρ' sx) (ho : sx.heap.get? a = some o) (hd : ∀ v, o.data ≠ .cell v) : ∀ y c, env'.cells.lookup y = some c → c ≠ a := fun y c hc q => by
  (refine Mine.el1b (S.fm.cell y c hc) fun ov hq4 _ => ?_; obtain ⟨o', ho', hd'⟩ := hq4)
  rw [q, ho] at ho'; cases ho'
  exact hd _ hd'
set_option maxHeartbeats 2000000 in
theorem ini_spec {P : Params} {x dx : Addr} {om od : Option (List Str)} {nf : Str → Str} {vs : List Value} {vm vd : Value} {Q : Value → Shared → Prop} {E : Value → Shared → Prop} (S : Sit prog w (hd.heap_39 P) mb (n + 5) C X A env ρ s) (I : InsM C 86 s.heap x dx (fun _ => none)) (hxX : X x) (hdX : X dx) (hx86 : x ≠ 86)
    (hv : (vs = [] ∧ vm = .none ∧ vd = .none) ∨ (vs = [vm] ∧ vd = .none) ∨ vs = [vm, vd]) (rm : Rep X s.heap vm (lstPV om)) (rd : Rep X s.heap vd (lstPV od)) (z1 : (om.getD []).length ≤ 4000) (z2 : (od.getD []).length ≤ 4000) (hN : ∀ d ∈ od.getD [], NormOk d (nf d))
    (k : ∀ s' ms ds c mA, Ext prog w (fun b => b = x ∨ b = dx) C s s' → InsM C 86 s'.heap x dx mA → mA "_mods" = some (.ref ms) → mA "_dirs" = some (.ref ds) → mA "_ignore" = some (.ref c) → mA "names" = none → SetW prog w s'.heap ms (om.getD []) → ListAt s'.heap ds ((od.getD []).map nf) → NewMemo prog w s'.heap c → s.heap.objs.size ≤ c → ¬ X ms → ¬ X ds → Q .none s') :
    wpAny (model prog w) A (call (.ref 76) (.ref x :: vs)) Q E s := by
  refine call_raw (Z := fun b => b = x ∨ b = dx) (vs' := [.ref x, vm, vd]) (ps := [.val (.ref x), lstPV om, lstPV od]) S (ini.2 P) (.cons (.val _) (.cons rm (.cons rd .nil))) rfl (fun Q E hq => ini_bind hv S.base.frag Q E hq) fun L s₁ X' e₁ O hXX hXX2 hlo S₁ => ?_
  k_fold
  have hbd : ∀ {a}, X a → ¬ FrO (fEnv ini.1.1 76 L) a := fun h q => Nat.lt_irrefl _ (Nat.lt_of_lt_of_le (S.bd _ h) (hlo _ q))
  have I₁ := I.ext e₁ (fun q => q) (fun q => q)
  have hcl : ∀ {sx : Shared} {ρx : List (Str × PV)} {mx : Str → Option Value}, Sit prog w (hd.heap_39 P) mb (n + 4) C X' (A.deeper (fEnv ini.1.1 76 L)) (fEnv ini.1.1 76 L) ρx sx → InsM C 86 sx.heap x dx mx → ∀ y c, (fEnv ini.1.1 76 L).cells.lookup y = some c → c ≠ x ∧ c ≠ dx := fun S' I' y c hc => by
    (refine Mine.el1g I' fun o ho _ hd _ _ hq5 _ => ?_; try clear I'; obtain ⟨o', es, ep, ho', hd', _⟩ := hq5)
    exact ⟨fr_ne S' ho (by rw [hd]; first | exact fun _ _ h => by cases h | exact fun _ h => by cases h | nofun) y c hc, fr_ne S' ho' (by rw [hd']; first | exact fun _ _ h => by cases h | exact fun _ h => by cases h | nofun) y c hc⟩
  refine x_setattr (ns := []) (R := fun v s' => ∃ ms, v = .ref ms ∧ s₁.heap.objs.size ≤ ms ∧ SetW prog w s'.heap ms (om.getD [])) S₁ O cls_at I₁ (hXX _ hxX) (hXX _ hdX) (hbd hxX) (hbd hdX) ?_ (ev_var S₁ rfl (.inl rfl)) rfl obj_no2 hx86 ?_ (by decide) (hcl S₁ I₁) (by rfl) (by rfl) fun v1 sa s₂ r1 ea e₂ S₂ I₂ => ?_
  · refine ev_ifexpR (ts_not (ts_lst (ol := om) (ev_var S₁ rfl (.inl rfl)) (Nat.le_trans z1 (by decide)))) (fun hb => ev_call_type (ev_builtin S₁ rfl rfl (by decide) rfl) evs_nil fun vs s' e r => ?_) fun hb => ?_
    · obtain ⟨_, rfl⟩ := r.inv
      have hnil : om.getD [] = [] := by simpa using hb
      rw [hnil]
      exact Do.mono do_set0 fun v sb eb ⟨a, h1, h2, h3⟩ => ⟨a, h1, Nat.le_trans e.size h2, h3⟩
    · obtain ⟨l, rfl⟩ : ∃ l, om = some l := by cases om with | none => simp at hb | some l => exact ⟨l, rfl⟩
      exact ev_call_type (ev_builtin S₁ rfl rfl (by decide) rfl) (evs_cons (ev_var S₁ rfl (.inl rfl)) evs_nil) fun vs s' e r => Do.mono (do_set1 S₁.rm.h r z1) fun v sb eb ⟨a, h1, h2, h3⟩ => ⟨a, h1, Nat.le_trans e.size h2, h3⟩
  · exact PySem.Within.nil
  (refine Mine.el1c r1 fun ms hq7 hms hS₁ => ?_; try clear r1; obtain rfl := hq7)
  have hx1 : x < s₁.heap.objs.size := Nat.lt_of_lt_of_le (S.bd _ hxX) e₁.size
  have hd1 : dx < s₁.heap.objs.size := Nat.lt_of_lt_of_le (S.bd _ hdX) e₁.size
  have hXlt : ∀ b, X' b → b < s₁.heap.objs.size := fun b h => S₁.bd b h
  have hmsX : ¬ X' ms := fun q => Nat.lt_irrefl _ (Nat.lt_of_lt_of_le (hXlt _ q) hms)
  have hS₂ : SetW prog w s₂.heap ms (om.getD []) := hS₁.ext e₂ fun q => hmsX (q.elim (fun q => q ▸ hXX _ hxX) fun q => q ▸ hXX _ hdX)
  have hZX : ∀ b, (b = x ∨ b = dx) → X' b := fun b q => q.elim (fun q => q ▸ hXX _ hxX) fun q => q ▸ hXX _ hdX
  refine x_setattr (ns := ["_mods"]) (R := fun v s' => ∃ ds, v = .ref ds ∧ ¬ X' ds ∧ ListAt s'.heap ds ((od.getD []).map nf)) S₂ O cls_at I₂ (hXX _ hxX) (hXX _ hdX) (hbd hxX) (hbd hdX) ?_ (ev_var S₂ rfl (.inl rfl)) rfl obj_no3 hx86 ?_ (by decide) (hcl S₂ I₂) rfl rfl fun v2 sb s₃ r2 eb e₃ S₃ I₃ => ?_
  · refine Mine.el1b ((no.2 P).at_) fun o63 ho63 hd63 => ?_
    refine ev_ifexpR (ts_not (ts_lst (ol := od) (ev_var S₂ rfl (.inl rfl)) (Nat.le_trans z2 (by decide)))) (fun hb => ?_) fun hb => ?_
    · have hnil : od.getD [] = [] := by simpa using hb
      rw [hnil]
      refine Do.mono (ev_list S₂.bd evs_nil (show 0 ≤ sizeLine by decide)) fun v sb eb r => ?_
      refine Mine.el1c (Rep.listAt (l := []) r) fun a h1 h2 h3 => ?_
      exact ⟨a, h1, h2, h3⟩
    · obtain ⟨l, rfl⟩ : ∃ l, od = some l := by cases od with | none => simp at hb | some l => exact ⟨l, rfl⟩
      refine Do.mono (ev_lc (ps := l.map .str) S₂ O.ap rfl (evi_list S₂ (ev_var S₂ rfl (.inl rfl))) (fun _ => true) (onS fun x => .str (nf x)) (.inl rfl) (by rw [List.length_map]; exact Nat.le_trans z2 (by decide)) (by intro v; exact rfl) ?_) fun v sb eb r => ?_
      · intro L' cells X'' p s' hp S' ce e'
        refine ⟨tests_nil, fun _ => ?_⟩
        obtain ⟨d, hd, rfl⟩ : ∃ d, d ∈ l ∧ PV.str d = p := by simpa using hp
        exact ev_call_fn (ev_global S' rfl rfl) (evs_cons (ev_loc S' rfl rfl) evs_nil) (S'.base.frag _ _ ho63) hd63 fun vs s' e r => no_spec' (S'.ext e) r (hN d hd)
      · rw [List.filter_eq_self.mpr (fun _ _ => rfl)] at r
        have hm : (l.map PV.str).map (onS fun x => PV.str (nf x)) = (l.map nf).map .str := by rw [map_onS, List.map_map]; rfl
        rw [hm] at r
        refine Mine.el1c (Rep.listAt r) fun a h1 h2 h3 => ?_
        exact ⟨a, h1, h2, h3⟩
  · intro y hy
    dsimp only at hy
    split at hy
    · rename_i h; rw [h]; exact .head _
    · exact absurd rfl hy
  (refine Mine.el1c r2 fun ds hq8 hdsX hL₁ => ?_; try clear r2; obtain rfl := hq8)
  have hL₃ := hL₁.ext e₃ fun q => hdsX (hZX _ q)
  have hS₃ := (hS₂.ext eb (fun q => q)).ext e₃ fun q => hmsX (hZX _ q)
  refine x_setattr (ns := ["_mods", "_dirs"]) (R := fun v s' => ∃ c, v = .ref c ∧ s₃.heap.objs.size ≤ c ∧ NewMemo prog w s'.heap c) S₃ O cls_at I₃ (hXX _ hxX) (hXX _ hdX) (hbd hxX) (hbd hdX) do_memo (ev_var S₃ rfl (.inl rfl)) rfl obj_no1 hx86 ?_ (by decide) (hcl S₃ I₃) (by rfl) (by rfl) fun v3 sc s₄ r3 ec e₄ S₄ I₄ => ?_
  · intro y hy
    dsimp only at hy
    split at hy
    · rename_i h; rw [h]; exact .tail _ (.head _)
    · split at hy
      · rename_i h; rw [h]; exact .head _
      · exact absurd rfl hy
  (refine Mine.el1c r3 fun c hq9 hc hm₁ => ?_; try clear r3; obtain rfl := hq9)
  have hcX : ¬ X' c := fun q => Nat.lt_irrefl _ (Nat.lt_of_lt_of_le (S₃.bd _ q) hc)
  refine x_nil fun v hv => ?_
  subst hv
  refine ⟨(ea.ofNo.trans ((e₂.mono fun b h => .inr h).trans (eb.ofNo.trans ((e₃.mono fun b h => .inr h).trans (ec.ofNo.trans (e₄.mono fun b h => .inr h)))))), fun e => ?_⟩
  have hCc : C c = none := co_new S₃ hc
  refine k s₄ ms ds c _ e I₄ rfl rfl rfl rfl ((hS₃.ext ec (fun q => q)).ext e₄ fun q => hmsX (hZX _ q)) ((hL₃.ext ec (fun q => q)).ext e₄ fun q => hdsX (hZX _ q)) (hm₁.ext e₄ (fun q => hcX (hZX _ q)) hCc) ?_ (fun q => hmsX (hXX _ q)) (fun q => hdsX (hXX _ q))
  exact Nat.le_trans e₁.size (Nat.le_trans ea.size (Nat.le_trans e₂.size (Nat.le_trans eb.size (Nat.le_trans e₃.size hc))))
set_option maxHeartbeats 1000000 in
theorem mk_spec {P : Params} {om od : Option (List Str)} {nf : Str → Str} {vs : List Value} {vm vd : Value} (S : Sit prog w (hd.heap_39 P) mb (n + 6) C X A env ρ s) (hv : (vs = [] ∧ vm = .none ∧ vd = .none) ∨ (vs = [vm] ∧ vd = .none) ∨ vs = [vm, vd])
    (rm : Rep X s.heap vm (lstPV om)) (rd : Rep X s.heap vd (lstPV od)) (z1 : (om.getD []).length ≤ 4000) (z2 : (od.getD []).length ≤ 4000) (hN : ∀ d ∈ od.getD [], NormOk d (nf d)) :
    Do prog w C A (call (.ref 86) vs) (fun v s' => ∃ x c, v = .ref x ∧ RNew prog w C X s'.heap s.heap.objs.size x c (om.getD []) ((od.getD []).map nf)) s := by
  intro s₁ e₁ Q E k
  have S₁ := S.ext e₁
  obtain ⟨nm, q, bs, sn, sub, col, dd, k0, k1, k2, k3, k5, hcl⟩ := (cls_at (P := P)).cls
  have hC := S₁.base.frag _ _ hcl
  have hn := (cls_at (P := P)).nsH S₁.base.frag
  obtain ⟨o76, ho76, hf76⟩ : ∃ o, (hd.heap_39 P).lookup 76 = some o ∧ o.cls = .type "function" := ⟨_, rfl, rfl⟩
  have ho76' := S₁.base.frag _ _ ho76
  have hlo := e₁.size
  cases s₁ with | mk h g d t os =>
  refine make_at (fI := 76) F.objNew hC hn rfl ho76' hf76 ?_
  generalize hs₂ : (⟨(h.push { cls := .type "dict", data := .dict #[] }).push { cls := .ref 86, dict := some h.objs.size, data := .plain }, g, d, t, os⟩ : Shared) = s₂
  have e₂ : Ext prog w noX C ⟨h, g, d, t, os⟩ s₂ := by
    rw [← hs₂]
    exact Ext.trans (s' := ⟨h.push { cls := .type "dict", data := .dict #[] }, g, d, t, os⟩) .push .push
  have hsz : s₂.heap.objs.size = h.objs.size + 2 := by rw [← hs₂]; show ((h.push _).push _).objs.size = _; rw [Heap.size_push, Heap.size_push]
  have hCd : ∀ a, h.objs.size ≤ a → C a = none := fun a ha => co_new S₁ ha
  have S₂ := S₁.addX (wr := [h.objs.size, h.objs.size + 1]) e₂ (fun a ha => by
    simp only [List.mem_cons, List.not_mem_nil, or_false] at ha
    rcases ha with rfl | rfl
    · exact ⟨Nat.le_refl _, by rw [hsz]; exact Nat.lt_add_of_pos_right (by decide), hCd _ (Nat.le_refl _)⟩
    · exact ⟨Nat.le_succ _, by rw [hsz]; exact Nat.lt_succ_self _, hCd _ (Nat.le_succ _)⟩)
  have I₂ : InsM C 86 s₂.heap (h.objs.size + 1) h.objs.size (fun _ => none) := by
    rw [← hs₂]
    have hp : (h.push { cls := .type "dict", data := .dict #[] }).objs.size = h.objs.size + 1 := Heap.size_push ..
    refine ⟨{ cls := .ref 86, dict := some h.objs.size, data := .plain }, ?_, rfl, rfl, rfl, Nat.ne_of_lt (Nat.lt_succ_self _), ?_, hCd _ (Nat.le_refl _)⟩
    · rw [← hp]; exact Heap.get?_push_size _ rfl
    exact Heap.Ns1.of_empty ⟨_, _, _, Heap.get?_push_of_some _ (Heap.get?_push_size _ rfl), rfl, (fun e he => by simp at he), fun _ => rfl⟩
  have hmx : ∀ a, (X a ∨ a ∈ [h.objs.size, h.objs.size + 1]) → X a ∨ h.objs.size ≤ a := by
    intro a ha
    rcases ha with ha | ha
    · exact .inl ha
    · simp only [List.mem_cons, List.not_mem_nil, or_false] at ha
      rcases ha with rfl | rfl
      · exact .inr (Nat.le_refl _)
      · exact .inr (Nat.le_succ _)
  have h4 : 86 < h.objs.size := Heap.lt_size hC
  refine ini_spec (x := h.objs.size + 1) (dx := h.objs.size) { S₂ with rm := rm_under S₂.rm } I₂ (.inr (.tail _ (.head _))) (.inr (.head _)) (fun q => by have : h.objs.size + 1 = 86 := q; omega) hv (((rm.ext e₁.ofNo).monoX hmx).ext e₂.ofNo) (((rd.ext e₁.ofNo).monoX hmx).ext e₂.ofNo) z1 z2 hN fun s' ms ds c mA e' I' a1 a2 a3 a4 hS' hL' hM' hc hms hds => ⟨rfl, ?_⟩
  have hCc : C c = none := hCd c (by omega)
  have hs0 : s.heap.objs.size ≤ h.objs.size := hlo
  have hXn : ∀ a, h.objs.size ≤ a → ¬ X a := fun a ha q => Nat.lt_irrefl _ (Nat.lt_of_lt_of_le (S.bd a q) (Nat.le_trans hs0 ha))
  (refine Mine.el1g I' fun ox hox hoc hod hodx hne hns hCdx => ?_; try clear I')
  refine k _ _ (e₂.fresh e' fun a ha => ?_) ⟨_, c, rfl, ms, ds, h.objs.size, mA, ox, hox, hoc, hod, hodx, hne, hns, hCdx, a1, a2, a3, a4, hS', hL', ?_, hM', hCc, ?_, ?_, ?_, hs0, hXn _ (Nat.le_succ _), hXn _ (Nat.le_refl _), fun q => hms (.inl q), fun q => hds (.inl q), hXn _ (by omega)⟩
  · rcases ha with rfl | rfl
    · exact Nat.le_succ _
    · exact Nat.le_refl _
  · rw [beq_eq_false_iff_ne]; exact Nat.ne_of_gt (Nat.lt_of_lt_of_le (by omega : 1 < s₂.heap.objs.size) hc)
  · exact Nat.ne_of_lt (Nat.lt_of_lt_of_le (by omega : h.objs.size < s₂.heap.objs.size) hc)
  · omega
  · exact Nat.le_trans hs0 (Nat.le_succ _)
end Mine
end
section
open PySem PySem.W PySem.Calls PyProof.Rows
set_option Elab.async false
set_option maxRecDepth 100000
set_option linter.unusedVariables false
namespace Mine
variable {prog : Program} {w : World} {K : Frag} {mb : Str → Option Value} {X Y : Addr → Prop} {C : Mem} {s s' s'' : Shared} {A : Around} {env : Env} {ρ : List (Str × PV)} {n : Nat}
/-- a name stored, with what holds of its value -/
theorem x_assignR {x : Str} {px pos : Pos} {e : Expr} {rest : List Stmt} {R : PV → Shared → Prop} {Q : Flow → Shared → Prop} {E : Value → Shared → Prop} (S : Sit prog w K mb n C X A env ρ s) (O : Own X env) (hk : KindSt env x) (he : Do prog w C A (eval e env) (fun v s => ∃ p, Rep X s.heap v p ∧ R p s) s)
    (hs : swapsWith e (some (.Name x px)) pos.line env = pure false)
    (k : ∀ p s₁ s', Ext prog w noX C s s₁ → R p s₁ → Ext prog w (StX env x) C s₁ s' → Sit prog w K mb n C X A env ((x, p) :: ρ) s' → wpAny (model prog w) A (execs rest env) Q E s') :
    wpAny (model prog w) A (execs (.Assign [.Name x px] e pos :: rest) env) Q E s := by
  refine wpAny_execs_cons (wpAny_Assign_Name (he s .refl _ _ fun v s₁ e₁ r => ?_) hs)
  refine Mine.el1b r fun p r hR => ?_
  exact store_var (S.ext e₁) (O.can hk) O.ap r fun s₂ e₂ S₂ => k p s₁ s₂ e₁ hR e₂ S₂
/-! a reader at hand -/
structure RdAt (prog : Program) (w : World) (C : Mem) (h : Heap) (b : Nat) (x c : Addr) (mods dirs : List Str) (Pm : Str → Int → Prop) (KS : List Str) : Prop where
  rdr : Rdr prog w C 86 h b x c mods dirs
  mem : C c = some Pm
  ok : MemoOk prog w h c Pm
  ks : ∀ m i, Pm m i → m ∈ KS
  len : KS.length ≤ 100000
  z1 : ∀ y ∈ mods, y.length ≤ 1000
  z2 : ∀ y ∈ dirs, y.length ≤ 1000
theorem Rdr.lt {h : Heap} {b : Nat} {x c : Addr} {mods dirs : List Str} (R : Rdr prog w C 86 h b x c mods dirs) : c < b := by
  obtain ⟨ms, ds, mA, _, _, _, _, _, _, _, _, _, h, _⟩ := R
  exact h
theorem RdAt.ext {Z : Addr → Prop} {b : Nat} {x c : Addr} {mods dirs KS : List Str} {Pm : Str → Int → Prop} (R : RdAt prog w C s.heap b x c mods dirs Pm KS) (e : Ext prog w Z C s s') (hZ : ∀ a, Z a → b ≤ a) : RdAt prog w C s'.heap b x c mods dirs Pm KS :=
  ⟨R.rdr.ext e hZ, R.mem, R.ok.ext e (fun q => Nat.lt_irrefl _ (Nat.lt_of_lt_of_le R.rdr.lt (hZ _ q))) R.mem, R.ks, R.len, R.z1, R.z2⟩
theorem obj_no4 : typeLookup (.type "object") "names" = pure none := by rw [typeLookup_type, builtinLookup_eq_fast]; kernel_rfl
/-- reader.names(fn, m) -/
theorem ev_names {P : Params} {b : Nat} {x c : Addr} {mods dirs KS : List Str} {Pm : Str → Int → Prop} {fn : Option Str} {m : Str} {r : Int} {o : Expr} {apos pos : Pos} {es : List Expr} {pl : Sem Bool} (S : Sit prog w (hd.heap_39 P) mb (n + 1) C X A env ρ s) (R : RdAt prog w C s.heap b x c mods dirs Pm KS) (hb : b ≤ s.heap.objs.size)
    (ho : Ev prog w C X A env o (.val (.ref x)) s) (h : Evs prog w C X A env es [fnPV fn, .str m] s) (hm : m ≠ "<string>") (hP : ∀ i, Pm m i → i = r) (hnew : Has prog w s.heap c m r ∨ (Pm m r ∧ r = nmR mods dirs fn m))
    (he : autoParam (eval (.Call (.Attribute o "names" apos) es [] pos) env = (do
      let ov ← eval o env
      standAt apos.atName
      let (f, first) ← holding [ov] (getMethod ov "names" pl)
      callWith pos f first (backTo pos (starEach es env)) [])) Mine.autoR) : Do prog w C A (eval (.Call (.Attribute o "names" apos) es [] pos) env) (fun v s' => Rep X s'.heap v (.int r) ∧ Has prog w s'.heap c m r) s := by
  obtain ⟨o83, ho83, hf83⟩ : ∃ o, (hd.heap_39 P).lookup 83 = some o ∧ o.cls = .type "function" := ⟨_, rfl, rfl⟩
  refine Mine.el1b ((nm.2 P).at_) fun o83' ho83' hd83 => ?_
  obtain rfl : o83 = o83' := Option.some.inj (ho83.symm.trans ho83')
  obtain ⟨ms, ds, mA, I, a1, a2, a3, a4, hS, hL, b1, b2, b3, b4⟩ := R.rdr
  refine ev_meth_fn (pl := pl) S cls_at I ho h (f := 83) rfl ho83 hf83 hd83 a4 obj_no4 (fun vs s' e r' => ?_) he
  have R' := R.ext e (fun _ q => q.elim)
  exact nm_spec (S.ext e) (.cons (.val _) r') R'.rdr (Nat.le_trans hb e.size) R'.mem R'.ok hm hP (hnew.imp (fun q => q.ext e (fun q => q)) id) R.ks R.len R.z1 R.z2
theorem em_spec' {P : Params} {want got : Str} {r : Bool} {vs : List Value} (S : Sit prog w (hd.heap_39 P) mb (n + 1) C X A env ρ s) (hr : Reps X s.heap vs [.str want, .str got]) (h : EmOk want got r) : DoV prog w C X A (call (.ref 28) vs) (.bool r) s := by
  (refine Mine.el1h h.ex fun ws h1 h2 h3 h4 h5 h6 h7 hq1 => ?_; obtain rfl := hq1)
  exact em_spec S hr h1 h2 h3 h4 h5 h6 h7
theorem ev_em {P : Params} {want got : Str} {r : Bool} {func a1 a2 : Expr} {pos : Pos} (S : Sit prog w (hd.heap_39 P) mb (n + 1) C X A env ρ s) (hf : Ev prog w C X A env func (.val (.ref 28)) s) (h : Evs prog w C X A env [a1, a2] [.str want, .str got] s) (hr : EmOk want got r)
    (he : autoParam (eval (.Call func [a1, a2] [] pos) env = (do callWith pos (← eval func env) [] (backTo pos (starEach [a1, a2] env)) (backToKw pos (keywordEach [] env)))) Mine.autoR) : Ev prog w C X A env (.Call func [a1, a2] [] pos) (.bool r) s := by
  refine Mine.el1b ((em.2 P).at_) fun o28 ho28 hd28 => ?_
  exact ev_call_fn hf h (S.base.frag _ _ ho28) hd28 (fun vs s' e r => em_spec' (S.ext e) r hr) he
end Mine
end
section
open PySem PySem.W PySem.Calls PyProof.Rows
set_option Elab.async false
set_option maxRecDepth 100000
set_option linter.unusedVariables false
namespace Mine
variable {prog : Program} {w : World} {K : Frag} {mb : Str → Option Value} {X Y : Addr → Prop} {C : Mem} {s s' s'' : Shared} {A : Around} {env : Env} {ρ : List (Str × PV)} {n : Nat} {P : Params} {Q : Flow → Shared → Prop} {E : Value → Shared → Prop} {L : Addr}
noncomputable def kstB (env : Env) (x : Str) : Bool := env.kindOf x == some .local || (env.kindOf x == some .cell && (env.cells.lookup x).isSome)
theorem kst_of {x : Str} (h : kstB env x = true) : KindSt env x := by
  unfold kstB at h
  simp only [Bool.or_eq_true, Bool.and_eq_true, beq_iff_eq] at h
  exact h
noncomputable def kvB (env : Env) (x : Str) : Bool := env.kindOf x == some .local || ((env.kindOf x == some .cell || env.kindOf x == some .free) && (env.cells.lookup x).isSome)
theorem kv_of {x : Str} (h : kvB env x = true) : env.kindOf x = some .local ∨ ((env.kindOf x = some .cell ∨ env.kindOf x = some .free) ∧ (env.cells.lookup x).isSome = true) := by
  unfold kvB at h
  simp only [Bool.or_eq_true, Bool.and_eq_true, beq_iff_eq] at h
  exact h
theorem ev_v {x : Str} {pos : Pos} {p : PV} (S : Sit prog w K mb n C X A env ρ s) (hx : ρ.lookup x = some p) (hk : kvB env x = true)
    (hd : autoParam ((x == ("__debug__" : Str)) = false) Mine.autoD) (hn : autoParam ((x == ("__classdict__" : Str)) = false) Mine.autoD) : Ev prog w C X A env (.Name x pos) p s := ev_var S hx (kv_of hk) hd hn
/-- a reader in use -/
inductive RdX (prog : Program) (w : World) (C : Mem) (X : Addr → Prop) (h : Heap) (x c : Addr) (mods dirs : List Str) (Pm : Str → Int → Prop) : Prop
  | mk (ms ds dx mA o) : h.get? x = some o → o.cls = .ref 86 → o.data = .plain → o.dict = some dx → dx ≠ x → h.Ns1 dx mA → C dx = none → mA "_mods" = some (.ref ms) → mA "_dirs" = some (.ref ds) → mA "_ignore" = some (.ref c) → mA "names" = none → SetW prog w h ms mods → ListAt h ds dirs → (c == sysModules) = false → MemoOk prog w h c Pm → C c = some Pm → ¬ X x → ¬ X dx → ¬ X ms → ¬ X ds → ¬ X c → RdX prog w C X h x c mods dirs Pm
theorem RdX.at {h : Heap} {x c : Addr} {mods dirs KS : List Str} {Pm : Str → Int → Prop} (R : RdX prog w C X h x c mods dirs Pm) (ks : ∀ m i, Pm m i → m ∈ KS) (len : KS.length ≤ 100000) (z1 : ∀ y ∈ mods, y.length ≤ 1000) (z2 : ∀ y ∈ dirs, y.length ≤ 1000) :
    RdAt prog w C h h.objs.size x c mods dirs Pm KS := by
  obtain ⟨ms, ds, dx, mA, o, h1, h2, h3, h4, h5, h6, h7, a1, a2, a3, a4, h8, h9, h10, h11, h12, n1, n2, n3, n4, n5⟩ := R
  refine ⟨⟨ms, ds, mA, ⟨dx, o, h1, h2, h3, h4, h5, h6, Heap.lt_size h1, h6.lt, h7⟩, a1, a2, a3, a4, h8, h9, ?_, ?_, ?_, h10⟩, h12, h11, ks, len, z1, z2⟩
  · (refine Mine.el3b h8 fun es ep t hq1 _ => ?_; try clear h8; obtain ⟨o, ho, _⟩ := hq1); exact Heap.lt_size ho
  · (refine Mine.el1b h9 fun items hq2 _ => ?_; try clear h9; obtain ⟨o, ho, _⟩ := hq2); exact Heap.lt_size ho
  · (refine Mine.el2b h11 fun o es ho _ => ?_; try clear h11); exact Heap.lt_size ho
/-- if test: return False, the test false -/
theorem x_pass {test : Expr} {body rest : List Stmt} {pos : Pos} (ht : Ts prog w C A env test false s) (k : ∀ s', Ext prog w noX C s s' → wpAny (model prog w) A (execs rest env) Q E s') :
    wpAny (model prog w) A (execs (.If test body [] pos :: rest) env) Q E s := by
  refine x_if ht fun s' e => ?_
  show wpAny _ _ (execs (if false = true then _ else _) env) _ _ _
  rw [if_neg (by decide)]
  exact x_nil (k s' e)
end Mine
end
section
open PySem PySem.W PySem.Calls PyProof.Rows
set_option Elab.async false
set_option maxRecDepth 100000
set_option linter.unusedVariables false
namespace Mine
variable {prog : Program} {w : World} {K : Frag} {mb : Str → Option Value} {X Y : Addr → Prop} {C : Mem} {s s' s'' : Shared} {A : Around} {env : Env} {ρ : List (Str × PV)} {n : Nat} {P : Params} {L : Addr}
/-! two clauses that lengthen words by signs -/
noncomputable def tstPV (tst : Str → Str → Bool) : PV → PV → Bool
  | .str w, .str c => tst w c
  | _, _ => false
noncomputable def catPV : PV → PV → PV
  | .str w, .str c => .str (w ++ c)
  | _, _ => .none
noncomputable def lenP (tst : Str → Str → Bool) (signs : Str) (lv : List Str) : List Str := lv.flatMap fun w => ((chrs signs).filter (tst w)).map fun c => w ++ c
theorem len_row {tst : Str → Str → Bool} {w : Str} : ∀ l : List Nat, (((l.map fun c => PV.str ⟨#[c]⟩).filter (tstPV tst (.str w))).map (catPV (.str w))) = (((l.map fun c => (⟨#[c]⟩ : Str)).filter (tst w)).map fun c => w ++ c).map PV.str
  | [] => rfl
  | c :: l => by
    have ih := len_row (tst := tst) (w := w) l
    simp only [List.map_cons, List.filter_cons]
    have h0 : tstPV tst (.str w) (.str ⟨#[c]⟩) = tst w ⟨#[c]⟩ := rfl
    rw [h0]
    cases tst w ⟨#[c]⟩
    · simpa using ih
    · simp only [if_true, List.map_cons, ih]; rfl
theorem len_flat {tst : Str → Str → Bool} {signs : Str} {lv : List Str} : ((lv.map PV.str).flatMap fun p => ((chars signs).filter (tstPV tst p)).map (catPV p)) = (lenP tst signs lv).map .str := by
  unfold lenP
  induction lv with
  | nil => rfl
  | cons w lv ih =>
    rw [List.map_cons, List.flatMap_cons, List.flatMap_cons, List.map_append, ih]
    congr 1
    exact len_row _
theorem lenP_len {tst : Str → Str → Bool} {signs : Str} (h2 : signs.length ≤ 2) : ∀ lv : List Str, (lenP tst signs lv).length ≤ 2 * lv.length
  | [] => Nat.le_refl _
  | a :: l => by
    have ih := lenP_len (tst := tst) h2 l
    unfold lenP at ih ⊢
    rw [List.flatMap_cons, List.length_append, List.length_map, List.length_cons]
    have hc : (chrs signs).length ≤ 2 := by simp only [chrs, List.length_map]; exact h2
    have : ((chrs signs).filter (tst a)).length ≤ 2 := Nat.le_trans (List.length_filter_le _ _) hc
    omega
theorem mem_lenP {tst : Str → Str → Bool} {signs : Str} {lv : List Str} {u : Str} : u ∈ lenP tst signs lv ↔ ∃ w ∈ lv, ∃ c ∈ chrs signs, tst w c = true ∧ u = w ++ c := by
  simp only [lenP, List.mem_flatMap, List.mem_map, List.mem_filter]
  constructor
  · rintro ⟨w, hw, c, ⟨hc, hk⟩, rfl⟩; exact ⟨w, hw, c, hc, hk, rfl⟩
  · rintro ⟨w, hw, c, hc, hk, rfl⟩; exact ⟨w, hw, c, ⟨hc, hk⟩, rfl⟩
/-! _law_rows -/
noncomputable def roP (bag signs : Str) : Nat → List Str
  | 0 => [⟨#[]⟩]
  | i + 1 => lenP (fun r c => decide (Txt.count r c < Txt.count bag c)) signs (roP bag signs i)
theorem roP_ok {bag signs : Str} (h2 : signs.length ≤ 2) : ∀ i, (roP bag signs i).length ≤ 2 ^ i ∧ ∀ u ∈ roP bag signs i, u.length = i
  | 0 => ⟨Nat.le_refl _, fun u hu => by simp [roP] at hu; subst hu; rfl⟩
  | i + 1 => by
    refine Mine.el0b (roP_ok (bag := bag) h2 i) fun h3 h4 => ?_
    refine ⟨?_, fun u hu => ?_⟩
    · have := lenP_len (tst := fun r c => decide (Txt.count r c < Txt.count bag c)) h2 (roP bag signs i)
      show (lenP _ _ _).length ≤ _
      rw [Nat.pow_succ]; omega
    · obtain ⟨w, hw, c, hc, _, rfl⟩ := mem_lenP.mp hu
      (refine Mine.el1b (List.mem_map.mp hc) fun d _ hq2 => ?_; obtain rfl := hq2)
      rw [str_len_app, h4 w hw]; rfl
noncomputable def ro : { p : FuncData × List Stmt // ∀ P, FnAt (hd.heap_39 P) 100 p.1 ["bag", "signs"] p.2 } := ⟨(_, _), fun P => {
  at_ := ⟨_, rfl, rfl⟩
  code := ⟨99, _, _, _, rfl, rfl, rfl, rfl⟩
  body := rfl
  kind := rfl
  co := rfl
  gen := rfl
  globals := rfl
  builtins := rfl
  closure := rfl
  kinds := fun L => by repeat (first | exact ks_nil | refine ks_cons (by first | exact .inl rfl | exact .inr ⟨rfl, rfl⟩) ?_) }⟩
theorem ro_bind (v0 v1 : Value) : bindArgs ro.1.1 ⟨[v0, v1], []⟩ = pure [(("bag" : Str), v0), (("signs" : Str), v1)] := by rfl
set_option maxHeartbeats 1000000 in
theorem ro_spec {bag signs : Str} {vs : List Value} (S : Sit prog w (hd.heap_39 P) mb (n + 1) C X A env ρ s) (hr : Reps X s.heap vs [.str bag, .str signs]) (z1 : signs.length ≤ 2) (z2 : bag.length ≤ 8) :
    DoV prog w C X A (call (.ref 100) vs) (.list ((roP bag signs bag.length).map .str)) s := by
  (refine Mine.Reps.el2 hr fun _ _ r1 r2 => ?_; have hr' := Reps.cons r1 (.cons r2 .nil))

  refine call_fn S (ro.2 P) hr' rfl (ro_bind _ _) fun s₀ L s₁ X' e₀ e₁ O hXX hlo1 S₁ => ?_; try k_fold
  refine x_assign (p := .list ((roP bag signs 0).map .str)) S₁ O (kst_of rfl) (ev_list S₁.bd (evs_cons ev_cstr evs_nil) (show 1 ≤ sizeLine by decide)) (by rfl) fun s₂ e₂ S₂ => ?_; try k_fold
  refine x_for (Z := FrO (fEnv ro.1.1 100 L)) S₂ (evi_str S₂ (ev_v S₂ rfl rfl)) O (kst_of rfl) (by intro v; rfl) (fun _ h => h) O.own
    (fun i => [("rows", .list ((roP bag signs i).map .str)), ("bag", .str bag), ("signs", .str signs)])
    (fun _ _ _ => True) (fun _ _ _ _ _ _ _ _ _ => trivial) (sub_cons rfl (sub_cons rfl (sub_cons rfl sub_nil))) (fun _ _ _ => trivial) ?_ ?_
  · intro Xb i p sb hp hXb Ob eb Sb _; try k_fold
    have hi : i < bag.length := by
      have := (List.getElem?_eq_some_iff.mp hp).1
      have hl : (chars bag).length = bag.length := by simp [chars]; rfl
      rw [hl] at this; exact this
    refine Mine.el0b (roP_ok (bag := bag) z1 i) fun q1 q2 => ?_; try k_fold
    refine Mine.el0b (roP_ok (bag := bag) z1 (i + 1)) fun q3 _ => ?_; try k_fold
    have hpow : 2 ^ (i + 1) ≤ 2 ^ 8 := Nat.pow_le_pow_right (by decide) (by omega)
    have hsz : (((roP bag signs i).map PV.str).flatMap fun p => ((chars signs).filter (tstPV (fun r c => decide (Txt.count r c < Txt.count bag c)) p)).map (catPV p)).length ≤ sizeLine := by
      rw [len_flat, List.length_map]
      exact Nat.le_trans q3 (Nat.le_trans hpow (by decide))
    refine x_assign_comp (res := (roP bag signs (i + 1)).map .str) (J := fun _ => True) Sb Ob (kst_of rfl) ((spec_lc2 (ps := (roP bag signs i).map .str) Sb Ob.ap rfl (evi_list Sb (ev_v Sb rfl rfl)) (fun _ => chars signs) (tstPV fun r c => decide (Txt.count r c < Txt.count bag c)) catPV (.inl rfl) (.inl rfl) rfl hsz (by intro v; exact rfl) (by intro cells L v; exact rfl) ?_ ?_).mono fun a L s' r => r.eq len_flat id) rfl (fun _ _ _ _ _ _ => trivial) fun sc ec Sc _ => x_nil ⟨ec, Sc.sub (sub_cons rfl (sub_cons rfl (sub_cons rfl sub_nil))), trivial⟩
    · intro L' cells X'' p s' hp S' ce; try k_fold
      exact evi_str S' (ev_free S' ce rfl rfl)
    · intro L' cells X'' p q s' hp hq S' ce e'; try k_fold
      (refine Mine.el1b (List.mem_map.mp hp) fun u hu hq7 => ?_; obtain rfl := hq7)
      (refine Mine.el1b (List.mem_map.mp hq) fun d hd hq8 => ?_; obtain rfl := hq8)
      have hul : u.length = i := q2 u hu
      have hsum : u.length + (⟨#[d]⟩ : Str).length ≤ sizeLine := Nat.le_trans (Nat.add_le_add (show u.length ≤ 8 by omega) (Nat.le_refl 1)) (by decide)
      exact ⟨tests_one (ts_cmp (ev_method (ev_loc S' rfl rfl) (evs_cons (ev_loc S' rfl rfl) evs_nil) m_count) (ev_method (ev_free S' ce rfl rfl) (evs_cons (ev_loc S' rfl rfl) evs_nil) m_count) fun a b s' e ra rb => op_lt_int ra rb), fun _ => ev_binop (ev_loc S' rfl rfl) (ev_loc S' rfl rfl) fun a b s' e ra rb => op_add_str ra rb hsum⟩
  · intro Xb sb hXb Ob eb Sb _; try k_fold
    have hl : (chars bag).length = bag.length := by simp [chars]; rfl
    rw [hl] at Sb
    refine x_return (ev_v Sb rfl rfl) fun v sc ec r v' hv => ?_; try k_fold
    subst hv
    exact ⟨e₂.trans (eb.trans ec.ofNo), fun _ => r.ofSub fun a h => hXb a (hXX a h)⟩
/-! _law_firsts -/
noncomputable def fiP (em : Str → Bool) (signs : Str) : Nat → List Str × List Str
  | 0 => ([], [⟨#[]⟩])
  | i + 1 => ((fiP em signs i).1 ++ (fiP em signs i).2.filter em, lenP (fun r _ => !((fiP em signs i).1 ++ (fiP em signs i).2.filter em).contains r) signs (fiP em signs i).2)
theorem fiP_ok {em : Str → Bool} {signs : Str} (h2 : signs.length ≤ 2) : ∀ i, (fiP em signs i).2.length ≤ 2 ^ i ∧ (fiP em signs i).1.length ≤ 2 ^ i ∧ (∀ u ∈ (fiP em signs i).2, u.length = i ∧ ∀ c ∈ u.cps.toList, c ∈ signs.cps.toList) ∧ ∀ u ∈ (fiP em signs i).1, u.length < i ∧ em u = true ∧ ∀ c ∈ u.cps.toList, c ∈ signs.cps.toList
  | 0 => ⟨Nat.le_refl _, Nat.zero_le _, fun u hu => by simp [fiP] at hu; subst hu; exact ⟨rfl, fun c hc => by simp at hc⟩, fun u hu => by cases hu⟩
  | i + 1 => by
    refine Mine.el0d (fiP_ok (em := em) h2 i) fun q1 q2 q3 q4 => ?_
    have hfl := List.length_filter_le em (fiP em signs i).2
    refine ⟨?_, ?_, fun u hu => ?_, fun u hu => ?_⟩
    · have := lenP_len (tst := fun r _ => !((fiP em signs i).1 ++ (fiP em signs i).2.filter em).contains r) h2 (fiP em signs i).2
      show (lenP _ _ _).length ≤ _
      rw [Nat.pow_succ]; omega
    · show ((fiP em signs i).1 ++ (fiP em signs i).2.filter em).length ≤ _
      rw [List.length_append, Nat.pow_succ]; omega
    · obtain ⟨w, hw, c, hc, _, rfl⟩ := mem_lenP.mp hu
      (refine Mine.el1b (List.mem_map.mp hc) fun d hd hq10 => ?_; obtain rfl := hq10)
      refine Mine.el0b (q3 w hw) fun q5 q6 => ?_
      refine ⟨by rw [str_len_app, q5]; rfl, fun c hc => ?_⟩
      have : c ∈ w.cps.toList ++ [d] := by
        have h0 : (w ++ (⟨#[d]⟩ : Str)).cps.toList = w.cps.toList ++ [d] := by
          show (w.cps ++ #[d]).toList = _
          (refine Mine.rwl Array.toList_append ?_; try with_reducible rfl)
        rw [← h0]; exact hc
      rcases List.mem_append.mp this with h | h
      · exact q6 c h
      · rw [List.mem_singleton.mp h]; exact hd
    · rcases List.mem_append.mp hu with h | h
      · refine Mine.el0b (q4 u h) fun q5 q6 => ?_
        exact ⟨Nat.lt_succ_of_lt q5, q6⟩
      · refine Mine.el0b (List.mem_filter.mp h) fun q5 q6 => ?_
        exact ⟨by rw [(q3 u q5).1]; exact Nat.lt_succ_self _, q6, (q3 u q5).2⟩
noncomputable def fi : { p : FuncData × List Stmt // ∀ P, FnAt (hd.heap_39 P) 105 p.1 ["piece", "signs", "size"] p.2 } := ⟨(_, _), fun P => {
  at_ := ⟨_, rfl, rfl⟩
  code := ⟨104, _, _, _, rfl, rfl, rfl, rfl⟩
  body := rfl
  kind := rfl
  co := rfl
  gen := rfl
  globals := rfl
  builtins := rfl
  closure := rfl
  kinds := fun L => by repeat (first | exact ks_nil | refine ks_cons (by first | exact .inl rfl | exact .inr ⟨rfl, rfl⟩) ?_) }⟩
theorem fi_bind (v0 v1 v2 : Value) : bindArgs fi.1.1 ⟨[v0, v1, v2], []⟩ = pure [(("piece" : Str), v0), (("signs" : Str), v1), (("size" : Str), v2)] := by rfl
set_option maxHeartbeats 1000000 in
theorem fi_spec {piece signs : Str} {size : Nat} {em : Str → Bool} {vs : List Value} (S : Sit prog w (hd.heap_39 P) mb (n + 2) C X A env ρ s) (hr : Reps X s.heap vs [.str piece, .str signs, .int size]) (z1 : signs.length ≤ 2) (z2 : size ≤ 6) (z3 : piece.length ≤ 8)
    (hem : ∀ u, u.length ≤ 8 → (∀ c ∈ u.cps.toList, c ∈ signs.cps.toList) → EmOk ("..." ++ piece) u (em u)) :
    DoV prog w C X A (call (.ref 105) vs) (.list ((fiP em signs (size + 1)).1.map .str)) s := by
  (refine Mine.Reps.el3 hr fun _ _ _ r1 r2 r3 => ?_; have hr' := Reps.cons r1 (.cons r2 (.cons r3 .nil)))

  refine call_fn S (fi.2 P) hr' rfl (fi_bind _ _ _) fun s₀ L s₁ X' e₀ e₁ O hXX hlo1 S₁ => ?_; try k_fold
  refine x_assign (p := .list ((fiP em signs 0).1.map .str)) S₁ O (kst_of rfl) (ev_list S₁.bd evs_nil (show 0 ≤ sizeLine by decide)) (by rfl) fun s₂ e₂ S₂ => ?_; try k_fold
  refine x_assign (p := .list ((fiP em signs 0).2.map .str)) S₂ O (kst_of rfl) (ev_list S₂.bd (evs_cons ev_cstr evs_nil) (show 1 ≤ sizeLine by decide)) (by rfl) fun s₃ e₃ S₃ => ?_; try k_fold
  refine x_for (Z := FrO (fEnv fi.1.1 105 L)) S₃ (evi_range (r := size + 1) S₃ (ev_builtin S₃ rfl rfl (by decide) rfl) (ev_eq (ev_binop (ev_v S₃ rfl rfl) ev_cint fun a b s' e ra rb => op_add_int ra rb) (by simp)) (by omega)) O (kst_of rfl) (by intro v; rfl) (fun _ h => h) O.own
    (fun i => [("firsts", .list ((fiP em signs i).1.map .str)), ("rows", .list ((fiP em signs i).2.map .str)), ("piece", .str piece), ("signs", .str signs)])
    (fun _ _ _ => True) (fun _ _ _ _ _ _ _ _ _ => trivial) (sub_cons rfl (sub_cons rfl (sub_cons rfl (sub_cons rfl sub_nil)))) (fun _ _ _ => trivial) ?_ ?_
  · intro Xb i p sb hp hXb Ob eb Sb _; try k_fold
    have hi : i < size + 1 := by
      have := (List.getElem?_eq_some_iff.mp hp).1
      simpa using this
    refine Mine.el0d (fiP_ok (em := em) z1 i) fun q1 q2 q3 q4 => ?_; try k_fold
    refine Mine.el0d (fiP_ok (em := em) z1 (i + 1)) fun q5 q6 q7 q8 => ?_; try k_fold
    have hpow : 2 ^ i ≤ 2 ^ 7 := Nat.pow_le_pow_right (by decide) (by omega)
    have hpow1 : 2 ^ (i + 1) ≤ 2 ^ 8 := Nat.pow_le_pow_right (by decide) (by omega)
    have hfl := List.length_filter_le em (fiP em signs i).2
    refine x_assign (p := .list ((fiP em signs (i + 1)).1.map .str)) Sb Ob (kst_of rfl) (ev_eq (ev_binop (ev_v Sb rfl rfl) (ev_eq (p' := .list (((fiP em signs i).2.filter em).map .str)) (ev_lc (ps := (fiP em signs i).2.map .str) Sb Ob.ap rfl (evi_list Sb (ev_v Sb rfl rfl)) (fun p => match p with | .str u => em u | _ => false) id (.inl rfl) (by rw [List.length_map]; exact Nat.le_trans q1 (Nat.le_trans hpow (by decide))) (by intro v; exact rfl) ?_) ?_) fun a b s' e ra rb => op_add_list (Sb.ext e).bd ra rb ?_) ?_) (by rfl) fun sc ec Sc => ?_
    · intro L' cells X'' p s' hp S' ce e'; try k_fold
      (refine Mine.el1b (List.mem_map.mp hp) fun u hu hq17 => ?_; obtain rfl := hq17)
      refine Mine.el0b (q3 u hu) fun hul huc => ?_; try k_fold
      refine ⟨tests_one (ts_bool (ev_em S' (ev_global S' rfl rfl) (evs_cons (ev_binop ev_cstr (ev_free S' ce rfl rfl) fun a b s' e ra rb => op_add_str ra rb (Nat.le_trans (Nat.add_le_add (show (3 : Nat) ≤ 3 by decide) z3) (by decide))) (evs_cons (ev_loc S' rfl rfl) evs_nil)) (hem u (by omega) huc))), fun _ => ev_loc S' rfl rfl⟩
    · congr 1
      rw [List.map_id, List.filter_map]; rfl
    · rw [List.length_map, List.length_map]
      exact Nat.le_trans (Nat.add_le_add (Nat.le_trans q2 hpow) (Nat.le_trans hfl (Nat.le_trans q1 hpow))) (by decide)
    · rw [← List.map_append]; rfl
    · have hsz : (((fiP em signs i).2.map PV.str).flatMap fun p => ((chars signs).filter (tstPV (fun r _ => !(fiP em signs (i + 1)).1.contains r) p)).map (catPV p)).length ≤ sizeLine := by
        rw [len_flat, List.length_map]
        exact Nat.le_trans q5 (Nat.le_trans hpow1 (by decide))
      refine x_assign_comp (res := (fiP em signs (i + 1)).2.map .str) (J := fun _ => True) Sc Ob (kst_of rfl) ((spec_lc2 (ps := (fiP em signs i).2.map .str) Sc Ob.ap rfl (evi_list Sc (ev_v Sc rfl rfl)) (fun _ => chars signs) (tstPV fun r _ => !(fiP em signs (i + 1)).1.contains r) catPV (.inl rfl) (.inl rfl) rfl hsz (by intro v; exact rfl) (by intro cells L v; exact rfl) ?_ ?_).mono fun a L s' r => r.eq len_flat id) rfl (fun _ _ _ _ _ _ => trivial) fun sd ed Sd _ => x_nil ⟨ec.trans ed, Sd.sub (sub_cons rfl (sub_cons rfl (sub_cons rfl (sub_cons rfl sub_nil)))), trivial⟩
      · intro L' cells X'' p s' hp S' ce; try k_fold
        exact evi_str S' (ev_free S' ce rfl rfl)
      · intro L' cells X'' p q s' hp hq S' ce e'; try k_fold
        (refine Mine.el1b (List.mem_map.mp hp) fun u hu hq18 => ?_; obtain rfl := hq18)
        (refine Mine.el1b (List.mem_map.mp hq) fun d hd hq19 => ?_; obtain rfl := hq19)
        refine Mine.el0b (q3 u hu) fun hul _ => ?_; try k_fold
        have hsum : u.length + (⟨#[d]⟩ : Str).length ≤ sizeLine := Nat.le_trans (Nat.add_le_add (show u.length ≤ 8 by omega) (Nat.le_refl 1)) (by decide)
        exact ⟨tests_one (ts_eq (ts_cmp (ev_loc S' rfl rfl) (ev_free S' ce rfl rfl) fun a b s' e ra rb => op_notIn_list imm_strs rfl ra rb) (by rw [any_strs]; rfl)), fun _ => ev_binop (ev_loc S' rfl rfl) (ev_loc S' rfl rfl) fun a b s' e ra rb => op_add_str ra rb hsum⟩
  · intro Xb sb hXb Ob eb Sb _; try k_fold
    rw [List.length_map, List.length_range] at Sb
    refine x_return (ev_v Sb rfl rfl) fun v sc ec r v' hv => ?_; try k_fold
    subst hv
    exact ⟨e₂.trans (e₃.trans (eb.trans ec.ofNo)), fun _ => r.ofSub fun a h => hXb a (hXX a h)⟩
end Mine
end
section
open PySem PySem.W PySem.Calls PyProof.Rows
set_option Elab.async false
set_option maxRecDepth 100000
set_option linter.unusedVariables false
namespace Mine
variable {prog : Program} {w : World} {K : Frag} {mb : Str → Option Value} {X Y : Addr → Prop} {C : Mem} {s s' s'' : Shared} {A : Around} {env : Env} {ρ : List (Str × PV)} {n : Nat} {P : Params} {L : Addr}
theorem x_returnR {e : Expr} {pos : Pos} {rest : List Stmt} {R : Value → Shared → Prop} {Q : Flow → Shared → Prop} {E : Value → Shared → Prop} (he : Do prog w C A (eval e env) R s)
    (k : ∀ v s', Ext prog w noX C s s' → R v s' → Q (.ret v) s') : wpAny (model prog w) A (execs (.Return (some e) pos :: rest) env) Q E s :=
  wpAny_execs_cons (wpAny_Return_some (he s .refl _ _ fun v s₁ e₁ r => k v s₁ e₁ r))
noncomputable def modP (word sign : Str) : Str := Txt.join "." ("q" :: partsP word sign)
noncomputable def evenB (place : Nat) : Bool := (place : Int).fmod 2 == 0
noncomputable def modsP (words : List Str) (sign : Str) (place : Nat) : List Str := if evenB place then words.map fun u => modP u sign else []
noncomputable def dirsP (words : List Str) (sign : Str) (place : Nat) : List Str := if evenB place then [] else words.map fun u => normP (leadPath u sign)
/-- what the readers' making asks of a word -/
structure WordOk (u sign : Str) : Prop where
  len : u.length ≤ 8
  mj : JoinOk "." ("q" :: partsP u sign) = true
  lj : JoinOk "/" ("/q" :: "." :: partsP u sign) = true
  fj : JoinOk "/" ("/q" :: (partsP u sign ++ [("f" : Str)])) = true
  no : NormOk (leadPath u sign) (normP (leadPath u sign))
  ml : (modP u sign).length ≤ 1000
  dl : (normP (leadPath u sign)).length ≤ 1000
  mn : modP u sign ≠ "<string>"
theorem ev_pa {u sign : Str} {func a1 a2 : Expr} {pos : Pos} (S : Sit prog w (hd.heap_39 P) mb (n + 1) C X A env ρ s) (hf : Ev prog w C X A env func (.val (.ref 95)) s) (h : Evs prog w C X A env [a1, a2] [.str u, .str sign] s) (hu : u.length ≤ 8) (hs : sign.length ≤ 1)
    (he : autoParam (eval (.Call func [a1, a2] [] pos) env = (do callWith pos (← eval func env) [] (backTo pos (starEach [a1, a2] env)) (backToKw pos (keywordEach [] env)))) Mine.autoR) : Ev prog w C X A env (.Call func [a1, a2] [] pos) (.list ((partsP u sign).map .str)) s := by
  refine Mine.el1b ((pa.2 P).at_) fun o95 ho95 hd95 => ?_
  exact ev_call_fn hf h (S.base.frag _ _ ho95) hd95 (fun vs s' e r => pa_spec (S.ext e) r (Nat.le_trans hu (by decide)) (Nat.le_trans hs (by decide))) he
theorem parts_le {u sign : Str} (h : u.length ≤ 8) : ((partsP u sign).map PV.str).length ≤ 8 := by simp only [partsP, List.length_map]; exact h
noncomputable def re : { p : FuncData × List Stmt // ∀ P, FnAt (hd.heap_39 P) 110 p.1 ["words", "sign", "place"] p.2 } := ⟨(_, _), fun P => {
  at_ := ⟨_, rfl, rfl⟩
  code := ⟨109, _, _, _, rfl, rfl, rfl, rfl⟩
  body := rfl
  kind := rfl
  co := rfl
  gen := rfl
  globals := rfl
  builtins := rfl
  closure := rfl
  kinds := fun L => by repeat (first | exact ks_nil | refine ks_cons (by first | exact .inl rfl | exact .inr ⟨rfl, rfl⟩) ?_) }⟩
theorem re_bind (v0 v1 v2 : Value) : bindArgs re.1.1 ⟨[v0, v1, v2], []⟩ = pure [(("words" : Str), v0), (("sign" : Str), v1), (("place" : Str), v2)] := by rfl
set_option maxHeartbeats 2000000 in
theorem re_spec {words : List Str} {sign : Str} {place : Nat} {vs : List Value} (S : Sit prog w (hd.heap_39 P) mb (n + 8) C X A env ρ s) (hr : Reps X s.heap vs [.list (words.map .str), .str sign, .int place]) (z : words.length ≤ 1000) (hs : sign.length ≤ 1) (hw : ∀ u ∈ words, WordOk u sign) :
    Do prog w C A (call (.ref 110) vs) (fun v s' => ∃ x c, v = .ref x ∧ RNew prog w C X s'.heap s.heap.objs.size x c (modsP words sign place) (dirsP words sign place)) s := by
  (refine Mine.Reps.el3 hr fun _ _ _ r1 r2 r3 => ?_; have hr' := Reps.cons r1 (.cons r2 (.cons r3 .nil)))

  refine call_fn S (re.2 P) hr' rfl (re_bind _ _ _) fun s₀ L s₁ X' e₀ e₁ O hXX hlo1 S₁ => ?_
  have hwl : (words.map PV.str).length ≤ sizeLine := by rw [List.length_map]; exact len_sz z
  have hs0 : s.heap.objs.size ≤ s₁.heap.objs.size := Nat.le_trans e₀.size e₁.size
  refine x_if (ts_cmp (ev_binop (ev_v S₁ rfl rfl) ev_cint fun a b s' e ra rb => op_mod_int ra rb rfl) ev_cint fun a b s' e ra rb => op_eq_int ra rb) fun s₂ e₂ => ?_
  have S₂ := S₁.ext e₂
  show wpAny _ _ (execs (if evenB place = true then _ else _) (fEnv re.1.1 110 L)) _ _ _
  unfold modsP dirsP
  cases hev : evenB place with
  | true =>
    simp only [if_true]
    refine x_returnR (C := C) (R := fun v s' => ∃ x c, v = .ref x ∧ RNew prog w C X' s'.heap s₂.heap.objs.size x c (words.map fun u => modP u sign) []) ?_ fun v s₃ e₃ ⟨x, c, hv, hR⟩ v' hv' => ?_
    · refine ev_call_cls S₂ (ev_global S₂ rfl rfl) (evs_cons (ev_eq (p' := .list ((words.map fun u => modP u sign).map .str)) (ev_lc (ps := words.map .str) S₂ O.ap rfl (evi_list S₂ (ev_v S₂ rfl rfl)) (fun _ => true) (fun p => match p with | .str x => .str (modP x sign) | p => p) (.inl rfl) hwl (by intro v; exact rfl) ?_) ?_) evs_nil) (by rfl) fun vs s' e r => ?_
      · intro L' cells X'' p s' hp S' ce e'
        (refine Mine.el1b (List.mem_map.mp hp) fun u hu hq7 => ?_; obtain rfl := hq7)
        have hk := hw u hu
        refine ⟨tests_nil, fun _ => ev_method ev_cstr (evs_cons (ev_eq (ev_binop (ev_list S'.bd (evs_cons ev_cstr evs_nil) (show 1 ≤ sizeLine by decide)) (ev_pa S' (ev_global S' rfl rfl) (evs_cons (ev_loc S' rfl rfl) (evs_cons (ev_free S' ce rfl rfl) evs_nil)) hk.len hs) fun a b s' e ra rb => op_add_list (S'.ext e).bd ra rb (Nat.le_trans (Nat.add_le_add (show 1 ≤ 1 by decide) (parts_le hk.len)) (by decide))) (by rfl)) evs_nil) (m_join hk.mj)⟩
      · rw [List.filter_eq_self.mpr (by simp)]
        simp
      · cases r with
        | cons r0 r => cases r with
          | nil =>
            refine Do.mono (mk_spec (om := some (words.map fun u => modP u sign)) (od := none) (nf := id) (vd := .none) (S₂.ext e) (.inr (.inl ⟨rfl, rfl⟩)) r0 .none (show (words.map fun u => modP u sign).length ≤ 4000 by rw [List.length_map]; exact Nat.le_trans z (by decide)) (by decide) (fun d' hd' => by cases hd')) fun v sb eb ⟨x, c, hv, hR⟩ => ⟨x, c, hv, hR.mono e.size fun a h => h⟩
    · subst hv'
      exact ⟨(e₂.trans e₃).ofNo, fun _ => ⟨x, c, hv, hR.mono (Nat.le_trans hs0 e₂.size) hXX⟩⟩
  | false =>
    simp only [Bool.false_eq_true, if_false]
    refine x_nil ?_
    dsimp only
    refine x_returnR (C := C) (R := fun v s' => ∃ x c, v = .ref x ∧ RNew prog w C X' s'.heap s₂.heap.objs.size x c [] (words.map fun u => normP (leadPath u sign))) ?_ fun v s₃ e₃ ⟨x, c, hv, hR⟩ v' hv' => ?_
    · refine ev_call_cls S₂ (ev_global S₂ rfl rfl) (evs_cons ev_cnone (evs_cons (ev_eq (p' := .list ((words.map fun u => leadPath u sign).map .str)) (ev_lc (ps := words.map .str) S₂ O.ap rfl (evi_list S₂ (ev_v S₂ rfl rfl)) (fun _ => true) (fun p => match p with | .str x => .str (leadPath x sign) | p => p) (.inl rfl) hwl (by intro v; exact rfl) ?_) ?_) evs_nil)) (by rfl) fun vs s' e r => ?_
      · intro L' cells X'' p s' hp S' ce e'
        (refine Mine.el1b (List.mem_map.mp hp) fun u hu hq8 => ?_; obtain rfl := hq8)
        have hk := hw u hu
        refine ⟨tests_nil, fun _ => ev_method ev_cstr (evs_cons (ev_eq (ev_binop (ev_list S'.bd (evs_cons ev_cstr (evs_cons ev_cstr evs_nil)) (show 2 ≤ sizeLine by decide)) (ev_pa S' (ev_global S' rfl rfl) (evs_cons (ev_loc S' rfl rfl) (evs_cons (ev_free S' ce rfl rfl) evs_nil)) hk.len hs) fun a b s' e ra rb => op_add_list (S'.ext e).bd ra rb (Nat.le_trans (Nat.add_le_add (show 2 ≤ 2 by decide) (parts_le hk.len)) (by decide))) (by rfl)) evs_nil) (m_join hk.lj)⟩
      · rw [List.filter_eq_self.mpr (by simp)]
        simp
      · cases r with
        | cons r0 r => cases r with
          | cons r1 r => cases r with
            | nil =>
              refine Do.mono (mk_spec (om := none) (od := some (words.map fun u => leadPath u sign)) (nf := normP) (S₂.ext e) (.inr (.inr rfl)) r0 r1 (by decide) (show (words.map fun u => leadPath u sign).length ≤ 4000 by rw [List.length_map]; exact Nat.le_trans z (by decide)) (fun d' hd' => by
                (refine Mine.el1b (List.mem_map.mp hd') fun u hu hq9 => ?_; obtain rfl := hq9)
                exact (hw u hu).no)) fun v sb eb ⟨x, c, hv, hR⟩ => ⟨x, c, hv, ?_⟩
              have hm : (((some (words.map fun u => leadPath u sign)).getD []).map normP) = words.map fun u => normP (leadPath u sign) := by simp
              rw [hm] at hR
              exact hR.mono e.size fun a h => h
    · subst hv'
      exact ⟨(e₂.trans e₃).ofNo, fun _ => ⟨x, c, hv, hR.mono (Nat.le_trans hs0 e₂.size) hXX⟩⟩
noncomputable def lf : { p : FuncData × List Stmt // ∀ P, FnAt (hd.heap_39 P) 117 p.1 ["reader", "word", "sign"] p.2 } := ⟨(_, _), fun P => {
  at_ := ⟨_, rfl, rfl⟩
  code := ⟨116, _, _, _, rfl, rfl, rfl, rfl⟩
  body := rfl
  kind := rfl
  co := rfl
  gen := rfl
  globals := rfl
  builtins := rfl
  closure := rfl
  kinds := fun L => by repeat (first | exact ks_nil | refine ks_cons (by first | exact .inl rfl | exact .inr ⟨rfl, rfl⟩) ?_) }⟩
theorem lf_bind (v0 v1 v2 : Value) : bindArgs lf.1.1 ⟨[v0, v1, v2], []⟩ = pure [(("reader" : Str), v0), (("word" : Str), v1), (("sign" : Str), v2)] := by rfl
set_option maxHeartbeats 1000000 in
theorem lf_spec {b : Nat} {x c : Addr} {mods dirs KS : List Str} {Pm : Str → Int → Prop} {u sign : Str} {r : Int} {vs : List Value} (S : Sit prog w (hd.heap_39 P) mb (n + 3) C X A env ρ s) (hr : Reps X s.heap vs [.val (.ref x), .str u, .str sign]) (R : RdAt prog w C s.heap b x c mods dirs Pm KS) (hb : b ≤ s.heap.objs.size)
    (hs : sign.length ≤ 1) (hk : WordOk u sign) (hP : ∀ i, Pm (modP u sign) i → i = r) (hPm : Pm (modP u sign) r) (hrn : r = nmR mods dirs (some (fileP sign u)) (modP u sign)) :
    DoV prog w C X A (call (.ref 117) vs) (.bool (r == 1)) s := by
  (refine Mine.Reps.el3 hr fun _ _ _ r1 r2 r3 => ?_; have hr' := Reps.cons r1 (.cons r2 (.cons r3 .nil)))

  refine call_fn S (lf.2 P) hr' rfl (lf_bind _ _ _) fun s₀ L s₁ X' e₀ e₁ O hXX hlo1 S₁ => ?_
  refine x_assign S₁ O (kst_of rfl) (ev_pa S₁ (ev_global S₁ rfl rfl) (evs_cons (ev_v S₁ rfl rfl) (evs_cons (ev_v S₁ rfl rfl) evs_nil)) hk.len hs) (by rfl) fun s₂ e₂ S₂ => ?_
  have RA := ((R.ext (e₀.trans e₁) (fun _ q => q.elim)).ext e₂ fun a h => Nat.le_trans (Nat.le_trans hb e₀.size) (hlo1 a h))
  have hb2 : b ≤ s₂.heap.objs.size := Nat.le_trans hb (Nat.le_trans e₀.size (Nat.le_trans e₁.size e₂.size))
  refine x_return (X := X') (C := C) (p := .bool (r == 1)) (ev_cmp (p := .int r) (Do.mono (ev_names S₂ RA hb2 (ev_v S₂ rfl rfl) (evs_cons (p := fnPV (some (fileP sign u))) (ev_method ev_cstr (evs_cons (ev_eq (ev_binop (ev_binop (ev_list S₂.bd (evs_cons ev_cstr evs_nil) (show 1 ≤ sizeLine by decide)) (ev_v S₂ rfl rfl) fun a b s' e ra rb => op_add_list (S₂.ext e).bd ra rb (Nat.le_trans (Nat.add_le_add (show 1 ≤ 1 by decide) (parts_le hk.len)) (by decide))) (ev_list S₂.bd (evs_cons ev_cstr evs_nil) (show 1 ≤ sizeLine by decide)) fun a b s' e ra rb => op_add_list (S₂.ext e).bd ra rb ?_) ?_) evs_nil) (m_join hk.fj))
      (evs_cons (ev_method ev_cstr (evs_cons (ev_eq (ev_binop (ev_list S₂.bd (evs_cons ev_cstr evs_nil) (show 1 ≤ sizeLine by decide)) (ev_v S₂ rfl rfl) fun a b s' e ra rb => op_add_list (S₂.ext e).bd ra rb (Nat.le_trans (Nat.add_le_add (show 1 ≤ 1 by decide) (parts_le hk.len)) (by decide))) (by rfl)) evs_nil) (m_join hk.mj)) evs_nil)) (fn := some (fileP sign u)) hk.mn hP (.inr ⟨hPm, hrn⟩)) fun v s'' e r => r.1) ev_cint fun a b s' e ra rb => op_eq_int ra rb) fun v s₃ e₃ rv v' hv => ?_
  · rw [List.length_append]
    exact Nat.le_trans (Nat.add_le_add (Nat.add_le_add (show 1 ≤ 1 by decide) (parts_le hk.len)) (show 1 ≤ 1 by decide)) (by decide)
  · rw [List.map_cons, List.map_append]; rfl
  · subst hv
    exact ⟨e₂.trans e₃.ofNo, fun _ => rv.imm rfl⟩
end Mine
end
section
open PySem PySem.W PySem.Calls PyProof.Rows
set_option Elab.async false
set_option maxRecDepth 100000
set_option linter.unusedVariables false
namespace Mine
variable {prog : Program} {w : World} {K : Frag} {mb : Str → Option Value} {X Y : Addr → Prop} {C : Mem} {s s' s'' : Shared} {A : Around} {env : Env} {ρ : List (Str × PV)} {n : Nat} {P : Params} {L : Addr}
/-! the readers, each with what it answers -/
noncomputable def Rds (prog : Program) (w : World) (C : Mem) (h : Heap) (b : Nat) (xs : List Addr) (lf : Nat → Str → Bool) (W : Str → Prop) (sign : Str) : Prop :=
  ∀ i x, xs[i]? = some x → ∃ c mods dirs Pm KS, RdAt prog w C h b x c mods dirs Pm KS ∧ ∀ u, W u → ∃ r, (∀ j, Pm (modP u sign) j → j = r) ∧ Pm (modP u sign) r ∧ r = nmR mods dirs (some (fileP sign u)) (modP u sign) ∧ (r == 1) = lf i u
theorem Rds.ext {Z : Addr → Prop} {b : Nat} {xs : List Addr} {lf : Nat → Str → Bool} {W : Str → Prop} {sign : Str} (R : Rds prog w C s.heap b xs lf W sign) (e : Ext prog w Z C s s') (hZ : ∀ a, Z a → b ≤ a) : Rds prog w C s'.heap b xs lf W sign := fun i x hx => by
  refine Mine.el5b (R i x hx) fun c mods dirs Pm KS hR hr => ?_
  exact ⟨c, mods, dirs, Pm, KS, hR.ext e hZ, hr⟩
/-- _law_left called -/
theorem ev_lf {b i : Nat} {x : Addr} {xs : List Addr} {lf : Nat → Str → Bool} {W : Str → Prop} {u sign : Str} {func a1 a2 a3 : Expr} {pos : Pos} (S : Sit prog w (hd.heap_39 P) mb (n + 3) C X A env ρ s) (hf : Ev prog w C X A env func (.val (.ref 117)) s) (h : Evs prog w C X A env [a1, a2, a3] [.val (.ref x), .str u, .str sign] s) (R : Rds prog w C s.heap b xs lf W sign) (hb : b ≤ s.heap.objs.size) (hx : xs[i]? = some x) (hs : sign.length ≤ 1) (hW : W u) (hk : WordOk u sign)
    (he : autoParam (eval (.Call func [a1, a2, a3] [] pos) env = (do callWith pos (← eval func env) [] (backTo pos (starEach [a1, a2, a3] env)) (backToKw pos (keywordEach [] env)))) Mine.autoR) : Ev prog w C X A env (.Call func [a1, a2, a3] [] pos) (.bool (lf i u)) s := by
  refine Mine.el1b ((Mine.lf.2 P).at_) fun o117 ho117 hd117 => ?_
  refine Mine.el5b (R i x hx) fun c mods dirs Pm KS hR hr => ?_
  refine Mine.el1d (hr u hW) fun r r1 r2 r3 r4 => ?_
  rw [← r4]
  exact ev_call_fn hf h (S.base.frag _ _ ho117) hd117 (fun vs s' e q => lf_spec (S.ext e) q (hR.ext e (fun _ q => q.elim)) (Nat.le_trans hb e.size) hs hk r1 r2 r3) he
/-! _law_cut -/
noncomputable def tk (r : Str) (k : Nat) : Str := spick r none (some (k : Int)) none
noncomputable def dr (r : Str) (k : Nat) : Str := spick r (some (k : Int)) none none
noncomputable def revS (r : Str) : Str := spick r none none (some (-1))
noncomputable def fstK (f : Str → Bool) (r : Str) : Nat := ((List.range (r.length + 1)).find? fun k => f (tk r k)).getD (r.length + 1)
theorem find_range {g : Nat → Bool} (n : Nat) : ∀ d, ((List.range' d n).find? g = none ∧ ∀ j, d ≤ j → j < d + n → g j = false) ∨ ∃ m, (List.range' d n).find? g = some m ∧ g m = true ∧ ∀ j, d ≤ j → j < m → g j = false := by
  induction n with
  | zero => exact fun d => .inl ⟨rfl, fun j h1 h2 => absurd h1 (Nat.not_le_of_lt h2)⟩
  | succ n ih =>
    intro d
    rw [List.range'_succ]
    cases h : g d with
    | true => exact .inr ⟨d, List.find?_cons_of_pos h, h, fun j h1 h2 => absurd h1 (Nat.not_le_of_lt h2)⟩
    | false =>
      have e : List.find? g (d :: List.range' (d + 1) n) = (List.range' (d + 1) n).find? g := List.find?_cons_of_neg (by rw [h]; decide)
      rw [e]
      have step : ∀ {j}, d ≤ j → (d + 1 ≤ j → g j = false) → g j = false := fun {j} hj k => (Nat.lt_or_eq_of_le hj).elim k fun q => q ▸ h
      refine (ih (d + 1)).imp (fun q => ⟨q.1, fun j h1 h2 => step h1 fun h3 => q.2 j h3 (by rw [Nat.add_assoc, Nat.add_comm 1]; exact h2)⟩) fun ⟨m, q1, q2, q3⟩ => ⟨m, q1, q2, fun j h1 h2 => step h1 fun h3 => q3 j h3 h2⟩
theorem fstK_or (f : Str → Bool) (r : Str) : (fstK f r = r.length + 1 ∨ f (tk r (fstK f r)) = true) ∧ ∀ j, j < fstK f r → j < r.length + 1 → f (tk r j) = false := by
  unfold fstK
  rw [List.range_eq_range']
  rcases find_range (g := fun k => f (tk r k)) (r.length + 1) 0 with ⟨h, h2⟩ | ⟨m, h, h2, h3⟩
  · rw [h]; exact ⟨.inl rfl, fun j _ hj => h2 j (Nat.zero_le _) (by rw [Nat.zero_add]; exact hj)⟩
  · rw [h]; exact ⟨.inr h2, fun j hj _ => h3 j (Nat.zero_le _) hj⟩
theorem fstK_no {f : Str → Bool} {r : Str} {k : Nat} (h : k < fstK f r) (hk : k ≤ r.length) : f (tk r k) = false := (fstK_or f r).2 k h (Nat.lt_succ_of_le hk)
theorem fstK_yes {f : Str → Bool} {r : Str} (h : fstK f r ≤ r.length) : f (tk r (fstK f r)) = true := (fstK_or f r).1.elim (fun q => absurd (q ▸ h) (Nat.not_succ_le_self _)) id
theorem fstK_of {f : Str → Bool} {r : Str} {k : Nat} (hk : k ≤ r.length) (h : f (tk r k) = true) (hno : ∀ j, j < k → f (tk r j) = false) : fstK f r = k := by
  rcases Nat.lt_trichotomy k (fstK f r) with q | q | q
  · rw [fstK_no q hk] at h; cases h
  · exact q.symm
  · have := hno _ q
    rw [fstK_yes (Nat.le_trans (Nat.le_of_lt q) hk)] at this; cases this
theorem fstK_none {f : Str → Bool} {r : Str} (hno : ∀ j, j < r.length + 1 → f (tk r j) = false) : r.length < fstK f r := by
  refine Nat.lt_of_not_le fun q => ?_
  have := hno (fstK f r) (Nat.lt_succ_of_le q)
  rw [fstK_yes q] at this; cases this
/-- what is cut off behind i readers, and what is left -/
noncomputable def cutS (lf : Nat → Str → Bool) (p0 r0 : Str) : Nat → List Str × Str
  | 0 => ([p0], r0)
  | i + 1 => ((cutS lf p0 r0 i).1 ++ [tk (cutS lf p0 r0 i).2 (fstK (lf (i + 1)) (cutS lf p0 r0 i).2)], dr (cutS lf p0 r0 i).2 (fstK (lf (i + 1)) (cutS lf p0 r0 i).2))
noncomputable def okS (lf : Nat → Str → Bool) (p0 r0 : Str) (i : Nat) : Bool := decide (fstK (lf (i + 1)) (cutS lf p0 r0 i).2 ≤ (cutS lf p0 r0 i).2.length)
noncomputable def restOf (row p0 pl : Str) : Str := spick row (some (p0.length : Int)) (some ((row.length : Int) - (pl.length : Int))) none
noncomputable def cutP (lf : Nat → Str → Bool) (k : Nat) (row p0 pl : Str) : List Str :=
  if !lf 0 row || !lf (k - 1) (revS row) then [] else
  if (List.range (k - 2)).all (okS lf p0 (restOf row p0 pl)) then (cutS lf p0 (restOf row p0 pl) (k - 2)).1 ++ [(cutS lf p0 (restOf row p0 pl) (k - 2)).2, pl] else []
theorem neg1_le {n : Nat} (h : 0 < n) : -(n : Int) ≤ -1 := by omega
theorem toNat1 {n : Nat} : (-1 + (n : Int)).toNat = n - 1 := by omega
theorem wh_lt {n k m : Nat} (hm : m = n + 1 - k) (h : k ≤ n) : n + 1 - (k + 1) < m := by omega
theorem tk_len (r : Str) (k : Nat) : (tk r k).length ≤ r.length := spick_len _ _ _
theorem dr_len (r : Str) (k : Nat) : (dr r k).length ≤ r.length := spick_len _ _ _
theorem cutS_len {lf : Nat → Str → Bool} {p0 r0 : Str} : ∀ i, (cutS lf p0 r0 i).1.length = i + 1 ∧ (cutS lf p0 r0 i).2.length ≤ r0.length
  | 0 => ⟨rfl, Nat.le_refl _⟩
  | i + 1 => by
    refine Mine.el0b (cutS_len (lf := lf) (p0 := p0) (r0 := r0) i) fun h1 h2 => ?_
    refine ⟨?_, ?_⟩
    · show ((cutS lf p0 r0 i).1 ++ [_]).length = _
      rw [List.length_append, h1]; rfl
    · exact Nat.le_trans (dr_len _ _) h2
noncomputable def cu : { p : FuncData × List Stmt // ∀ P, FnAt (hd.heap_39 P) 124 p.1 ["row", "pieces", "readers", "sign"] p.2 } := ⟨(_, _), fun P => {
  at_ := ⟨_, rfl, rfl⟩
  code := ⟨123, _, _, _, rfl, rfl, rfl, rfl⟩
  body := rfl
  kind := rfl
  co := rfl
  gen := rfl
  globals := rfl
  builtins := rfl
  closure := rfl
  kinds := fun L => by repeat (first | exact ks_nil | refine ks_cons (by first | exact .inl rfl | exact .inr ⟨rfl, rfl⟩) ?_) }⟩
theorem cu_bind (v0 v1 v2 v3 : Value) : bindArgs cu.1.1 ⟨[v0, v1, v2, v3], []⟩ = pure [(("row" : Str), v0), (("pieces" : Str), v1), (("readers" : Str), v2), (("sign" : Str), v3)] := by rfl
set_option maxHeartbeats 4000000 in
theorem cu_spec {b : Nat} {xs : List Addr} {lf : Nat → Str → Bool} {W : Str → Prop} {row sign p0 pl : Str} {pieces : List Str} {vs : List Value} (S : Sit prog w (hd.heap_39 P) mb (n + 4) C X A env ρ s) (hr : Reps X s.heap vs [.str row, .list (pieces.map .str), .list (xs.map fun x => .val (.ref x)), .str sign]) (R : Rds prog w C s.heap b xs lf W sign) (hb : b ≤ s.heap.objs.size)
    (hs : sign.length ≤ 1) (hk2 : 2 ≤ pieces.length) (hk8 : pieces.length ≤ 8) (hx : xs.length = pieces.length) (hp0 : pieces[0]? = some p0) (hpl : pieces.getLast? = some pl) (hrl : row.length ≤ 8) (hp8 : p0.length ≤ 8) (hpl1 : pl.length ≤ row.length)
    (hW : W row ∧ W (revS row) ∧ ∀ i k, W (tk (cutS lf p0 (restOf row p0 pl) i).2 k)) (hWk : ∀ u, W u → WordOk u sign) :
    DoV prog w C X A (call (.ref 124) vs) (.list ((cutP lf pieces.length row p0 pl).map .str)) s := by
  (refine Mine.Reps.el4 hr fun _ _ _ _ r1 r2 r3 r4 => ?_; have hr' := Reps.cons r1 (.cons r2 (.cons r3 (.cons r4 .nil))))

  refine call_fn S (cu.2 P) hr' rfl (cu_bind _ _ _ _) fun s₀ L s₁ X' e₀ e₁ O hXX hlo1 S₁ => ?_
  have hFb : ∀ a, FrO (fEnv cu.1.1 124 L) a → b ≤ a := fun a h => Nat.le_trans (Nat.le_trans hb e₀.size) (hlo1 a h)
  have R₁ := R.ext (e₀.trans e₁) (fun _ q => q.elim)
  have hb₁ : b ≤ s₁.heap.objs.size := Nat.le_trans hb (Nat.le_trans e₀.size e₁.size)
  have hxl : (xs.map fun x => PV.val (.ref x)).length ≤ sizeLine := by rw [List.length_map, hx]; exact Nat.le_trans hk8 (by decide)
  have hpcl : (pieces.map PV.str).length ≤ sizeLine := by rw [List.length_map]; exact Nat.le_trans hk8 (by decide)
  have hpos : 0 < pieces.length := Nat.lt_of_lt_of_le (Nat.zero_lt_succ 1) hk2
  obtain ⟨x0, hx0⟩ : ∃ x, xs[0]? = some x := ⟨_, List.getElem?_eq_getElem (by rw [hx]; exact hpos)⟩
  obtain ⟨xl, hxlast⟩ : ∃ x, xs[pieces.length - 1]? = some x := ⟨_, List.getElem?_eq_getElem (by rw [hx]; exact Nat.sub_lt hpos Nat.one_pos)⟩
  have hrow : row.length ≤ sizeLine := Nat.le_trans hrl (by decide)
  have hgl : pieces[pieces.length - 1]? = some pl := by rw [← hpl, List.getLast?_eq_getElem?]
  have fin : ∀ {sx : Shared} {v : Value} {l : List Str}, Ext prog w (FrO (fEnv cu.1.1 124 L)) C s₁ sx → Rep X' sx.heap v (.list (l.map .str)) → l = cutP lf pieces.length row p0 pl → (∀ v', v' = v → Ext prog w (FrO (fEnv cu.1.1 124 L)) C s₁ sx ∧ (Ext prog w noX C s₀ sx → Rep X sx.heap v' (.list ((cutP lf pieces.length row p0 pl).map .str)))) := fun e r hl v' hv => by
    subst hv hl; exact ⟨e, fun _ => r.ofSub hXX⟩
  -- the ends
  obtain ⟨bb, hbb⟩ : ∃ bb, (!lf 0 row || !lf (pieces.length - 1) (revS row)) = bb := ⟨_, rfl⟩
  refine x_if2 (b := bb) (fun s' => bb = false ∧ Ext prog w noX C s₁ s') (ts_eq (ts_or2 (ts_not (ts_bool (ev_lf (i := 0) S₁ (ev_global S₁ rfl rfl) (evs_cons (ev_item_list (p := .val (.ref x0)) (ev_v S₁ rfl rfl) ev_cint (by decide) (by rw [List.getElem?_map]; show (xs[0]?).map _ = _; rw [hx0]; rfl) hxl) (evs_cons (ev_v S₁ rfl rfl) (evs_cons (ev_v S₁ rfl rfl) evs_nil))) R₁ hb₁ hx0 hs hW.1 (hWk _ hW.1)))) fun _ => ts_not (ts_bool (ev_lf (i := pieces.length - 1) S₁ (ev_global S₁ rfl rfl) (evs_cons (ev_item_neg (p := .val (.ref xl)) (ev_v S₁ rfl rfl) (ev_neg ev_cint) (by decide) (by rw [List.length_map, hx]; exact neg1_le hpos) (by rw [List.getElem?_map, List.length_map, hx, toNat1, hxlast]; rfl) hxl) (evs_cons (ev_slice_strG (ev_v S₁ rfl rfl) evp_none evp_none (evp_some (X := X') (ev_neg ev_cint)) hrow) (evs_cons (ev_v S₁ rfl rfl) evs_nil))) R₁ hb₁ hxlast hs hW.2.1 (hWk _ hW.2.1)))) hbb) (fun s₂ e₂ => ?_) ?_
  · cases bb with
    | true =>
      simp only [if_true]
      exact x_return (X := X') (p := .list (([] : List Str).map .str)) (ev_list (S₁.ext e₂).bd evs_nil (show 0 ≤ sizeLine by decide)) fun v s₃ e₃ r => fin (e₂.trans e₃).ofNo r (by unfold cutP; rw [if_pos hbb])
    | false =>
      simp only [Bool.false_eq_true, if_false]
      exact x_nil ⟨by trivial, e₂⟩
  rintro s₂ ⟨hbf, e₂⟩
  have hends := hbb.trans hbf
  have S₂ := S₁.ext e₂
  -- cut = [pieces[0]]
  refine x_assign_mut S₂ O (kst_of rfl) (evm_list S₂ (evs_cons (ev_item_list (p := .str p0) (ev_v S₂ rfl rfl) ev_cint (by decide) (by rw [List.getElem?_map]; show (pieces[0]?).map _ = _; rw [hp0]; rfl) hpcl) evs_nil) (show 1 ≤ sizeLine by decide)) (by rfl) fun a s₃ X₃ hX₃ ha hxa hfa hca e₃ O₃ S₃ M₃ => ?_
  have hXa : X₃ a := by rw [hX₃]; exact .inr rfl
  have hX : ∀ b, X' b → X₃ b := fun b h => by rw [hX₃]; exact .inl h
  have hblt : b ≤ a := Nat.le_trans (Nat.le_trans hb₁ e₂.size) ha
  have e₁₃ : Ext prog w (FrO (fEnv cu.1.1 124 L)) C s₁ s₃ := e₂.ofNo.trans e₃
  generalize hr0 : restOf row p0 pl = r0 at hW
  have hr0l : r0.length ≤ 8 := by rw [← hr0]; exact Nat.le_trans (spick_len _ _ _) hrl
  -- rest
  have hget0 : (pieces.map PV.str)[(0 : Int).toNat]? = some (.str p0) := by rw [List.getElem?_map]; show (pieces[0]?).map _ = _; rw [hp0]; rfl
  have hgetl : (pieces.map PV.str)[((-1 : Int) + ((pieces.map PV.str).length : Int)).toNat]? = some (.str pl) := by
    rw [List.getElem?_map, List.length_map, toNat1, hgl]; rfl
  refine x_assign (p := .str r0) S₃ O₃ (kst_of rfl) (ev_eq (ev_slice_str (ev_v S₃ rfl rfl) (evp_some (ev_call_builtin (ev_builtin S₃ rfl rfl (by decide) rfl) (evs_cons (ev_item_list (p := .str p0) (ev_v S₃ rfl rfl) ev_cint (by decide) hget0 hpcl) evs_nil) fun vs s' e r => c_len_str r (Nat.le_trans hp8 (by decide))))
    (evp_some (ev_binop (ev_call_builtin (ev_builtin S₃ rfl rfl (by decide) rfl) (evs_cons (ev_v S₃ rfl rfl) evs_nil) fun vs s' e r => c_len_str r hrow) (ev_call_builtin (ev_builtin S₃ rfl rfl (by decide) rfl) (evs_cons (ev_item_neg (p := .str pl) (ev_v S₃ rfl rfl) (ev_neg ev_cint) (by decide) (by rw [List.length_map]; exact neg1_le hpos) hgetl hpcl) evs_nil) fun vs s' e r => c_len_str r (Nat.le_trans hpl1 hrow)) fun a b s' e ra rb => op_sub_int ra rb)) evp_none rfl hrow) (by rw [← hr0]; rfl)) (by rfl) fun s₄ e₄ S₄ => ?_
  have M₄ := M₃.ext e₄ O₃.own hfa
  have e₁₄ := e₁₃.trans e₄
  have hlt4 : a < s₄.heap.objs.size := let ⟨_, ⟨_, ho⟩, _⟩ := M₄; Heap.lt_size ho
  have R₄ := R₁.ext e₁₄ hFb
  have hZb : ∀ z, (FrO (fEnv cu.1.1 124 L) z ∨ z = a) → b ≤ z := fun z h => h.elim (hFb z) fun h => h ▸ hblt
  have hmid : pick (xs.map fun x => PV.val (.ref x)) (some 1) (some (-1)) none = ((xs.drop 1).take (pieces.length - 2)).map fun x => PV.val (.ref x) := by
    rw [show (1 : Int) = ((1 : Nat) : Int) from rfl, show (-((1 : Nat) : Int)) = -((1 : Nat) : Int) from rfl, pick_mid _ 1 1 (by decide), List.length_map, hx, List.map_take, List.map_drop]
    congr 1
  have hmidl : ((xs.drop 1).take (pieces.length - 2)).length = pieces.length - 2 := by rw [List.length_take, List.length_drop, hx]; exact Nat.min_eq_left (Nat.sub_le_sub_left (Nat.le_succ 1) _)
  refine x_for (Z := fun z => FrO (fEnv cu.1.1 124 L) z ∨ z = a) (ps := ((xs.drop 1).take (pieces.length - 2)).map fun x => PV.val (.ref x)) S₄ (evi_list S₄ (ev_eq (ev_slice_list S₄.bd (ev_v S₄ rfl rfl) (evp_some (X := X₃) ev_cint) (evp_some (X := X₃) (ev_neg ev_cint)) evp_none (by decide) hxl) (by (refine Mine.rwl (hmid).symm ?_; try with_reducible rfl)))) O₃ (kst_of rfl) (by intro v; rfl) (fun _ h => .inl h) (fun z h => h.elim (O₃.own z) fun h => h ▸ hXa)
    (fun i => [("rest", .str (cutS lf p0 r0 i).2), ("cut", .val (.ref a)), ("sign", .str sign), ("pieces", .list (pieces.map .str))])
    (fun Xj i sj => Mut Xj a ((cutS lf p0 r0 i).1.map .str) sj.heap ∧ (∀ j, j < i → okS lf p0 r0 j = true) ∧ Rds prog w C sj.heap b xs lf W sign) ?_ (sub_cons rfl (sub_cons rfl (sub_cons rfl (sub_cons rfl sub_nil)))) (fun Xj h1 h2 => ⟨M₄.monoX h2, fun j h => absurd h (Nat.not_lt_zero _), R₄⟩) ?_ ?_
  · rintro Xj i sa sb Z hXj hZ ⟨hm, hok, hR⟩ e
    refine ⟨hm.ext e (fun b h => (hZ b h).1) fun q => ?_, hok, hR.ext e fun z hz => (hZ z hz).2.elim (hFb z) fun q => Nat.le_trans (Nat.le_trans hb₁ e₁₄.size) q⟩
    rcases (hZ a q).2 with q | q
    · exact hfa q
    · exact Nat.lt_irrefl _ (Nat.lt_of_lt_of_le hlt4 q)
  · rintro Xb i pv sb hpv hXb Ob eb Sb ⟨Mb, hokb, Rb⟩
    have hi : i < pieces.length - 2 := by
      have := (List.getElem?_eq_some_iff.mp hpv).1
      rwa [List.length_map, hmidl] at this
    obtain ⟨xi, hxi, rfl⟩ : ∃ x, xs[i + 1]? = some x ∧ PV.val (.ref x) = pv := by
      rw [List.getElem?_map] at hpv
      (refine Mine.el1b (Option.map_eq_some_iff.mp hpv) fun x hx' hq9 => ?_; obtain rfl := hq9)
      rw [List.getElem?_take, if_pos hi, List.getElem?_drop] at hx'
      exact ⟨x, by rw [Nat.add_comm]; exact hx', rfl⟩
    generalize hcs : (cutS lf p0 r0 i).1 = cs at Mb
    generalize hre : (cutS lf p0 r0 i).2 = r at Sb
    have hrl8 : r.length ≤ 8 := by rw [← hre]; exact Nat.le_trans (cutS_len i).2 hr0l
    have hrsz : r.length ≤ sizeLine := Nat.le_trans hrl8 (by decide)
    have hWr : ∀ k, W (tk r k) := fun k => by rw [← hre]; exact hW.2.2 i k
    have hbb : b ≤ sb.heap.objs.size := Nat.le_trans (Nat.le_trans hb₁ e₁₄.size) eb.size
    refine x_assign (p := .int ((0 : Nat) : Int)) Sb Ob (kst_of rfl) ev_cint (by rfl) fun sc ec Sc => ?_
    have Mc := Mb.ext ec Ob.own hfa
    refine x_while (C := C) (Z := FrO (fEnv cu.1.1 124 L)) (r.length + 1) (fun m s' => ∃ k, m = r.length + 1 - k ∧ k ≤ r.length + 1 ∧ (∀ j, j < k → lf (i + 1) (tk r j) = false) ∧ Sit prog w (hd.heap_39 P) mb (n + 3) C Xb (A.deeper (fEnv cu.1.1 124 L)) (fEnv cu.1.1 124 L) [("size", .int (k : Int)), ("reader", .val (.ref xi)), ("rest", .str r), ("cut", .val (.ref a)), ("sign", .str sign), ("pieces", .list (pieces.map .str))] s' ∧ Mut Xb a (cs.map .str) s'.heap ∧ Ext prog w (FrO (fEnv cu.1.1 124 L)) C sb s' ∧ Rds prog w C s'.heap b xs lf W sign)
      ⟨0, rfl, Nat.zero_le _, fun j h => absurd h (Nat.not_lt_zero _), Sc.sub (sub_cons rfl (sub_cons rfl (sub_cons rfl (sub_cons rfl (sub_cons rfl (sub_cons rfl sub_nil)))))), Mc, ec, Rb.ext ec hFb⟩ ?_
    rintro m sd ⟨k, hmk, hkle, hno, Sd, Md, ed, Rd⟩ _
    have hbd : b ≤ sd.heap.objs.size := Nat.le_trans hbb ed.size
    refine ⟨decide ((k : Int) ≤ r.length) && !lf (i + 1) (tk r k), ts_and2 (ts_cmp (ev_v Sd rfl rfl) (ev_call_builtin (ev_builtin Sd rfl rfl (by decide) rfl) (evs_cons (ev_v Sd rfl rfl) evs_nil) fun vs s' e r => c_len_str r hrsz) fun a b s' e ra rb => op_le_int ra rb) fun _ => ts_not (ts_bool (ev_lf (i := i + 1) Sd (ev_global Sd rfl rfl) (evs_cons (ev_v Sd rfl rfl) (evs_cons (ev_slice_str (ev_v Sd rfl rfl) evp_none (evp_some (ev_v Sd rfl rfl)) evp_none rfl hrsz) (evs_cons (ev_v Sd rfl rfl) evs_nil))) Rd hbd hxi hs (hWr k) (hWk _ (hWr k)))), fun hbt se ee => ?_, fun hbf se ee eZ => ?_⟩
    · have hb1 := Bool.and_eq_true_iff.mp hbt
      have hk1 : k ≤ r.length := Int.ofNat_le.mp (of_decide_eq_true hb1.1)
      have hb2 : lf (i + 1) (tk r k) = false := (Bool.not_eq_true' _).mp hb1.2
      have Se := Sd.ext ee
      refine x_aug Se Ob rfl rfl ev_cint (fun a b s' ra rb => op_iadd ra rb) fun sf ef Sf => x_nil ⟨ef, r.length + 1 - (k + 1), wh_lt hmk hk1, k + 1, rfl, Nat.succ_le_succ hk1, fun j hj => ?_, Sf.sub (sub_cons rfl (sub_cons rfl (sub_cons rfl (sub_cons rfl (sub_cons rfl (sub_cons rfl sub_nil)))))), (Md.ext ee (fun _ q => q.elim) (fun q => q)).ext ef Ob.own hfa, ed.trans (ee.ofNo.trans ef), (Rd.ext ee (fun _ q => q.elim)).ext ef hFb⟩
      rcases Nat.lt_succ_iff_lt_or_eq.mp hj with h | rfl
      · exact hno j h
      · exact hb2
    · have Se := Sd.ext ee
      have Me := Md.ext ee (fun _ q => q.elim) (fun q => q)
      have ebe : Ext prog w (FrO (fEnv cu.1.1 124 L)) C sb se := ed.trans ee.ofNo
      refine x_if (ts_cmp (ev_v Se rfl rfl) (ev_call_builtin (ev_builtin Se rfl rfl (by decide) rfl) (evs_cons (ev_v Se rfl rfl) evs_nil) fun vs s' e r => c_len_str r hrsz) fun a b s' e ra rb => op_gt_int ra rb) fun sf ef => ?_
      have Sf := Se.ext ef
      have Mf := Me.ext ef (fun _ q => q.elim) (fun q => q)
      by_cases hgt : (k : Int) > r.length
      · rw [decide_eq_true hgt]
        simp only [if_true]
        have hbad : okS lf p0 r0 i = false := by
          unfold okS
          rw [hre]
          have := fstK_none (f := lf (i + 1)) (r := r) fun j hj => hno j (Nat.lt_of_lt_of_le hj (Int.ofNat_lt.mp hgt))
          exact decide_eq_false (Nat.not_le_of_lt this)
        refine x_return (X := X') (p := .list (([] : List Str).map .str)) (ev_list (fun z h => Sf.bd z (hXb z (hX z h))) evs_nil (show 0 ≤ sizeLine by decide)) fun v sg eg rv => ⟨(ebe.trans (ef.trans eg).ofNo).mono fun z h => .inl h, fun e' => ?_⟩
        refine fin (e₁₄.freshZ e' (fun z h => h.elim .inl fun q => .inr (q ▸ Nat.le_trans e₂.size ha))) rv ?_
        · unfold cutP
          rw [if_neg (by rw [hends]; decide), hr0, if_neg]
          intro hall
          have := List.all_eq_true.mp hall i (List.mem_range.mpr hi)
          rw [hbad] at this; cases this
      · rw [decide_eq_false hgt]
        simp only [Bool.false_eq_true, if_false]
        refine x_nil ?_
        dsimp only
        have hkl : k ≤ r.length := Nat.le_of_not_lt fun q => hgt (Int.ofNat_lt.mpr q)
        have hyes : lf (i + 1) (tk r k) = true := by
          rw [decide_eq_true (Int.ofNat_le.mpr hkl), Bool.true_and] at hbf
          exact (Bool.not_eq_false' _).mp hbf
        have hfst : fstK (lf (i + 1)) r = k := fstK_of hkl hyes hno
        have hokI : okS lf p0 r0 i = true := by
          unfold okS; rw [hre, hfst]; exact decide_eq_true hkl
        have hcl : (cs.map PV.str).length ≤ sizeLine := by
          rw [List.length_map, ← hcs, (cutS_len i).1]
          exact Nat.le_trans (Nat.le_trans hi (Nat.le_trans (Nat.sub_le _ _) hk8)) (by decide)
        refine x_append Sf rfl rfl Mf (hXb a hXa) hfa (ev_slice_str (ev_v Sf rfl rfl) evp_none (evp_some (ev_v Sf rfl rfl)) evp_none rfl hrsz) hcl (hi := by exact rfl) fun sg eg Sg Mg => ?_
        refine x_assign (p := .str (dr r k)) Sg Ob (kst_of rfl) (ev_slice_str (ev_v Sg rfl rfl) (evp_some (ev_v Sg rfl rfl)) evp_none evp_none rfl hrsz) (by rfl) fun sh eh Sh => x_nil ⟨?_, Sh.sub (sub_cons ?_ (sub_cons rfl (sub_cons rfl (sub_cons rfl sub_nil)))), ?_, fun j hj => ?_, ?_⟩
        · exact ((ebe.trans ef.ofNo).mono fun z h => .inl h).trans ((eg.mono fun z h => .inr h).trans (eh.mono fun z h => .inl h))
        · show some (PV.str (dr r k)) = some (PV.str (dr (cutS lf p0 r0 i).2 (fstK (lf (i + 1)) (cutS lf p0 r0 i).2)))
          (refine Mine.rwl hre ?_; refine Mine.rwl hfst ?_; try with_reducible rfl)
        · have : (cutS lf p0 r0 (i + 1)).1 = cs ++ [tk r k] := by
            show (cutS lf p0 r0 i).1 ++ [tk (cutS lf p0 r0 i).2 (fstK (lf (i + 1)) (cutS lf p0 r0 i).2)] = _
            (refine Mine.rwl hcs ?_; refine Mine.rwl hre ?_; refine Mine.rwl hfst ?_; try with_reducible rfl)
          rw [this, List.map_append]
          exact Mg.ext eh Ob.own hfa
        · rcases Nat.lt_succ_iff_lt_or_eq.mp hj with h | rfl
          · exact hokb j h
          · exact hokI
        · exact ((Rd.ext ee (fun _ q => q.elim)).ext ef (fun _ q => q.elim)).ext eg (fun z h => h ▸ hblt) |>.ext eh hFb
  · rintro X₅ s₅ hX₅ O₅ e₅ S₅ ⟨M₅, hok₅, R₅⟩
    rw [List.length_map, hmidl] at S₅ M₅ hok₅
    have Sf := (S₅.sub (ρ' := [("cut", .val (.ref a)), ("rest", .str (cutS lf p0 r0 (pieces.length - 2)).2), ("sign", .str sign), ("pieces", .list (pieces.map .str))]) (sub_cons rfl (sub_cons rfl (sub_cons rfl (sub_cons rfl sub_nil))))).freeze M₅ (fun z h => hX₅ z (hX z h)) hxa
    have hcl := (cutS_len (lf := lf) (p0 := p0) (r0 := r0) (pieces.length - 2)).1
    refine x_return (X := X') (p := .list (((cutS lf p0 r0 (pieces.length - 2)).1 ++ [(cutS lf p0 r0 (pieces.length - 2)).2, pl]).map .str)) (ev_eq (ev_binop (ev_v Sf rfl rfl) (ev_list Sf.bd (evs_cons (ev_v Sf rfl rfl) (evs_cons (ev_item_neg (p := .str pl) (ev_v Sf rfl rfl) (ev_neg ev_cint) (by decide) (by rw [List.length_map]; exact neg1_le hpos) hgetl hpcl) evs_nil)) (show 2 ≤ sizeLine by decide)) fun a b s' e ra rb => op_add_list (Sf.ext e).bd ra rb ?_) ?_) fun v s₆ e₆ rv => ?_
    · rw [List.length_map, hcl]
      exact Nat.le_trans (Nat.add_le_add_right (Nat.add_le_add_right (Nat.le_trans (Nat.sub_le _ _) hk8) 1) 2) (by decide)
    · rw [List.map_append]; rfl
    · refine fin ((e₁₄.freshZ e₅ (fun z h => h.elim .inl fun q => .inr (q ▸ Nat.le_trans e₂.size ha))).trans e₆.ofNo) rv ?_
      · unfold cutP
        rw [if_neg (by rw [hends]; decide), hr0, if_pos (List.all_eq_true.mpr fun j hj => hok₅ j (List.mem_range.mp hj))]
end Mine
end
section
open PySem PySem.W PySem.Calls PyProof.Rows
set_option Elab.async false
set_option maxRecDepth 100000
set_option linter.unusedVariables false
namespace Mine
variable {prog : Program} {w : World} {K : Frag} {mb : Str → Option Value} {X Y : Addr → Prop} {C : Mem} {s s' s'' : Shared} {A : Around} {env : Env} {ρ : List (Str × PV)} {n : Nat}
/-! a list comprehension whose items are known only when they are made -/
theorem emit_listD {elt : Expr} {acc : Addr} {done : List PV} {k : Sem Fin} {Q : Fin → Shared → Prop} {E : Value → Shared → Prop} {J : PV → Shared → Prop} (hX : X acc) (hacc : AccL X acc done s.heap) (hsz : done.length ≤ sizeLine)
    (he : Do prog w C A (eval elt env) (fun v s => ∃ q, Rep X s.heap v q ∧ J q s) s)
    (hCa : C acc = none) (hJ : ∀ q s s', J q s → Ext prog w (fun a => a = acc) C s s' → J q s')
    (hk : ∀ q s', Ext prog w (fun a => a = acc) C s s' → AccL X acc (done ++ [q]) s'.heap → J q s' → wpAny (model prog w) A k Q E s') :
    wpAny (model prog w) A ((do let _ ← call (.builtin "list.append") [.ref acc, ← eval elt env] : Sem Unit) >>= fun _ => k) Q E s := by
  refine wpAny_bind (wpAny_bind (he s .refl _ _ fun v s₁ e₁ r => ?_))
  obtain ⟨items, hl, hr⟩ := hacc
  obtain ⟨q, r, j⟩ := r
  have hl₁ : s₁.heap.IsList acc items := isList_ext e₁ (fun q => q) hl
  have hr₁ := hr.ext e₁.ofNo
  have hn : items.size = done.length := by simpa using hr.length
  refine wpAny_bind (wpAny_list_append hl₁ (fun h' hl' hs => wpAny_pure ?_) (by omega))
  have e₂ : Ext prog w (fun a => a = acc) C s₁ { s₁ with heap := h' } := Ext.sameBut (t := s₁.toks) hs rfl
  have e₂X : Ext prog w X C s₁ { s₁ with heap := h' } := e₂.mono fun a h => h ▸ hX
  refine hk q _ (e₁.ofNo.trans e₂) ⟨_, hl', ?_⟩ (hJ _ _ _ j e₂)
  rw [Array.toList_push]
  exact (hr₁.ext e₂X).append (.cons (r.ext e₂X) .nil)

/-- J tells of what lies outside the set that it is given -/
noncomputable def StableD (prog : Program) (w : World) (C : Mem) (J : (Addr → Prop) → List PV → Shared → Prop) : Prop := ∀ (Y Z : Addr → Prop) d s s', (∀ a, Z a → Y a) → J Y d s → Ext prog w Z C s s' → J Y d s'

/-- a clause of a list comprehension that ends in the element: the loop -/
theorem list_innerD {e elt : Expr} {d : Nat} {scope : Scope} {acc L I : Addr} {cells : List (Str × Addr)} {X' Z : Addr → Prop} {fp wr : List Addr} {P : Nat → Value → Prop} {St : Nat → Heap → Prop} {ps : List PV} {x : Str} {px : Pos}
    {R : Result → Shared → Prop} {ρ' : List (Str × PV)} (J : (Addr → Prop) → List PV → Shared → Prop) (hJ : StableD prog w C J)
    (T : TurnIs e d (.ref I) (.ref acc) (compEnvC scope cells L env) (.Name x px) [] (fun k => (do let _ ← call (.builtin "list.append") [.ref acc, ← eval elt (compEnvC scope cells L env)] : Sem Unit) >>= fun _ => k))
    (hc : CanSt X' (compEnvC scope cells L env) x) (hsx : ∀ a, StX (compEnvC scope cells L env) x a → Z a ∧ a ≠ acc) (hZ : Z acc) (hZX : ∀ a, Z a → X' a) (hwX : ∀ a, a ∈ wr → X' a) (hwa : acc ∉ wr)
    (hlw : L ∉ wr) (hcw : ∀ x c, cells.lookup x = some c → c ∉ wr) (hap : Apart (compEnvC scope cells L env)) (hx0 : ρ'.lookup x = none)
    (W : Walks prog w A I fp wr ps.length P St) (hst : St 0 s.heap) (hfp : ∀ b ∈ fp, ¬ Z b ∧ C b = none) (hP : ∀ i v p, P i v → ps[i]? = some p → Rep X' s.heap v p)
    (S : Sit prog w K mb n C X' A (compEnvC scope cells L env) ρ' s) (hacc : AccL X' acc [] s.heap) (hCa : C acc = none) (j0 : J X' [] s)
    (hsz : ps.length ≤ sizeLine)
    (body : ∀ i p d s', ps[i]? = some p → d.length = i → Sit prog w K mb n C X' A (compEnvC scope cells L env) ((x, p) :: ρ') s' → J X' d s' → Do prog w C A (eval elt (compEnvC scope cells L env)) (fun v s => ∃ q, Rep X' s.heap v q ∧ J X' (d ++ [q]) s) s')
    (hR : ∀ s', Ext prog w (fun a => Z a ∨ a ∈ wr) C s s' → Sit prog w K mb n C X' A (compEnvC scope cells L env) ρ' s' → (∃ d, d.length = ps.length ∧ AccL X' acc d s'.heap ∧ J X' d s') → R (.ok .next) s')
    (hfr : autoParam ((Code.compLoop e d (.ref I) (.ref acc) (compEnvC scope cells L env)).isFrame = false) Mine.autoR) (hund : autoParam (A.under (Code.compLoop e d (.ref I) (.ref acc) (compEnvC scope cells L env)) = A) Mine.autoR) :
    codeAny (model prog w) A (.compLoop e d (.ref I) (.ref acc) (compEnvC scope cells L env)) R s := by
  refine comp_loop (N := fun a => X' a ∧ a ≠ acc) (Z := Z) (fun i s' => ∃ d, d.length = i ∧ AccL X' acc d s'.heap ∧ J X' d s') T hc (fun a h => ⟨(hsx a h).1, hZX a (hsx a h).1, (hsx a h).2⟩) (fun a h => ⟨hwX a h, fun q => hwa (q ▸ h)⟩) hZX hwX hlw hcw hap hx0 W hst hfp hP S ⟨[], rfl, hacc, j0⟩ ?_ ?_ ?_ hfr hund
  · rintro i s₁ s₂ ⟨d, hd, ⟨items, hl, hr⟩, hj⟩ e
    exact ⟨d, hd, ⟨items, isList_ext e (fun q => q.2 rfl) hl, hr.ext (e.mono fun a h => h.1)⟩, hJ _ _ d s₁ s₂ (fun a h => h.1) hj e⟩
  · rintro i p s₁ hp e S₁ hinv
    refine ⟨true, fun _ => True, tests_triv tests_nil, (fun q => by cases q), fun _ s₂ e₂ hT S₂ h₂ k Q E hk => ?_⟩
    obtain ⟨d, hd, ha, hj⟩ := h₂
    have hlen : d.length ≤ sizeLine := by
      have := (List.getElem?_eq_some_iff.mp hp).1
      omega
    refine emit_listD (J := fun q s => J X' (d ++ [q]) s) (hZX acc hZ) ha hlen (body i p d s₂ hp hd S₂ hj) hCa (fun q s s' hj e => hJ X' (fun a => a = acc) _ s s' (fun a h => h ▸ hZX acc hZ) hj e) fun q s₃ e₃ ha₃ hj₃ => ?_
    have e₃Z : Ext prog w Z C s₂ s₃ := e₃.mono fun a h => h ▸ hZ
    have haL : ¬ L = acc := fun q => by
      have hn := S₂.fm.ns
      obtain ⟨m, ⟨o, es, ep, ho, hd, _⟩, _⟩ := hn
      obtain ⟨items, ⟨o', ho', _, n', hd'⟩, _⟩ := ha
      have ho2 : s₂.heap.get? acc = some o := by rw [← q]; exact ho
      rw [ho2] at ho'; cases ho'
      rw [hd] at hd'; cases hd'
    have haC : ∀ x c, cells.lookup x = some c → ¬ c = acc := fun x c hc q => by
      obtain ⟨ov, ⟨o, ho, hd⟩, _⟩ := S₂.fm.cell x c hc
      obtain ⟨items, ⟨o', ho', _, n', hd'⟩, _⟩ := ha
      rw [q, ho'] at ho; cases ho
      rw [hd] at hd'; cases hd'
    exact hk s₃ e₃Z (S₂.extZ e₃ (fun a h => h ▸ hZX acc hZ) haL haC) ⟨d ++ [q], by rw [List.length_append, hd]; rfl, ha₃, hj₃⟩
  · rintro s₁ e S₁ h
    exact hR s₁ e S₁ h

/-- the first clause's loop, begun -/
theorem list_oneD {elt iter : Expr} {x : Str} {px : Pos} {scope : Scope} {pos : Pos} {ps : List PV} {R : Result → Shared → Prop} {s₁ s₄ : Shared} {acc L I : Addr} {fp wr : List Addr} {P : Nat → Value → Prop} {St : Nat → Heap → Prop} {cells : List (Str × Addr)} {X' : Addr → Prop}
    (H : CompAt prog w K mb n C X A env ρ scope ps { cls := .type "list", data := .seq #[] } s₁ s₄ acc L I fp wr P St cells X')
    (J : (Addr → Prop) → List PV → Shared → Prop) (hJ : StableD prog w C J) (j0 : ∀ Y, J Y [] s₁) (hx : scope.names.lookup x = some .local ∨ scope.names.lookup x = some .cell)
    (hsz : ps.length ≤ sizeLine)
    (body : ∀ i p d s', ps[i]? = some p → d.length = i → Sit prog w K mb n C X' A (compEnvC scope cells L env) ((x, p) :: ρ.filter (isFree scope)) s' → J X' d s' → Do prog w C A (eval elt (compEnvC scope cells L env)) (fun v s => ∃ q, Rep X' s.heap v q ∧ J X' (d ++ [q]) s) s')
    (hR : ∀ s', Ext prog w noX C s₁ s' → (∃ m, s'.heap.Ns L m) → (∃ d, d.length = ps.length ∧ AccL X' acc d s'.heap ∧ J X' d s') → R (.ok .next) s') :
    codeAny (model prog w) A (.compStart (.ListComp elt [⟨.Name x px, iter, [], 0⟩] scope pos) 0 (.ref I) (.ref acc) (compEnvC scope cells L env)) R s₄ := by
  have hc := H.canSt hx
  have hLlo : s₁.heap.objs.size ≤ L := Nat.le_trans H.lo (Nat.le_of_lt H.accL)
  have hNlo : ∀ a, CompN scope L cells L a → s₁.heap.objs.size ≤ a := by
    rintro a (rfl | ⟨h, _⟩)
    · exact hLlo
    · exact Nat.le_trans hLlo h
  have hwrlt : ∀ b ∈ wr, b < acc := fun b hb => (H.fpa b (H.W.sub b hb)).1
  refine comp_start ?_ (fun Q E q => H.W.self 0 s₄ Q E H.st q)
  refine list_innerD (Z := fun a => a = acc ∨ CompN scope L cells L a) J hJ turn_list hc.1 (fun a h => ⟨.inr (hc.2 a h), ?_⟩) (.inl rfl) (fun a h => (H.hX a).mpr ?_) (fun a h => (H.hX a).mpr (.inr (.inr (.inl h))))
    (fun h => Nat.lt_irrefl _ (hwrlt acc h)) (fun h => Nat.lt_asymm H.accL (hwrlt L h)) (fun x c h hw => ?_) H.ap (filter_free_none hx) H.W H.st (fun b hb => ⟨?_, (H.fpa b hb).2⟩) H.hP H.sit
    ⟨#[], ⟨_, H.accO, rfl, 0, rfl⟩, .nil⟩ ?_ (hJ X' noX [] _ _ (fun _ q => q.elim) (j0 X') H.ext) hsz body fun s₅ e₅ S₅ hacc => ?_
  · rcases hc.2 a h with rfl | ⟨q, _⟩
    · exact (Nat.ne_of_lt H.accL).symm
    · exact (Nat.ne_of_lt (Nat.lt_of_lt_of_le H.accL q)).symm
  · rcases h with h | h
    · exact .inr (.inl h)
    · exact .inr (.inr (.inr h))
  · rcases H.cellT x c h with ⟨k, _, _, h⟩ | ⟨_, h⟩
    · exact Nat.lt_irrefl _ (Nat.lt_of_lt_of_le (H.outer x c h) (H.wrlo c hw))
    · exact Nat.lt_asymm (Nat.lt_trans (hwrlt c hw) H.accL) h
  · rintro (rfl | rfl | ⟨h, _⟩)
    · exact Nat.lt_irrefl _ (H.fpa _ hb).1
    · exact Nat.lt_asymm H.accL (H.fpa _ hb).1
    · exact Nat.lt_irrefl _ (Nat.lt_trans H.accL (Nat.lt_of_le_of_lt h (H.fpa _ hb).1))
  · exact co_ne H.sit H.accO (by nofun)
  · refine hR s₅ (H.ext.fresh e₅ ?_) ?_ hacc
    · rintro a ((rfl | h) | h)
      · exact H.lo
      · exact hNlo a h
      · exact H.wrlo a h
    · obtain ⟨m, hn, _⟩ := S₅.fm.ns
      exact ⟨m, hn⟩

noncomputable def RListD (prog : Program) (w : World) (X : Addr → Prop) (m : Nat) (J : (Addr → Prop) → List PV → Shared → Prop) (acc L : Addr) (s : Shared) : Prop := ∃ d, d.length = m ∧ Rep (fun a => X a ∨ a = L) s.heap (.ref acc) (.list d) ∧ ∃ Y : Addr → Prop, (∀ a, X a → Y a) ∧ Y L ∧ J Y d s
theorem spec_listD {elt iter : Expr} {x : Str} {px : Pos} {scope : Scope} {pos : Pos} {ps : List PV} (S : Sit prog w K mb n C X A env ρ s) (hap : Apart env) (hs : scopeOkB scope env = true) (hit : EvI prog w C X A env iter ps s)
    (J : (Addr → Prop) → List PV → Shared → Prop) (hx : scope.names.lookup x = some .local ∨ scope.names.lookup x = some .cell) (hsz : ps.length ≤ sizeLine)
    (hset : ∀ x, foldedSetIterable iter env x = pure x) (hJ : StableD prog w C J) (j0 : ∀ Y, J Y [] s)
    (body : ∀ L cells X' i p d s', ps[i]? = some p → d.length = i → Sit prog w K mb n C X' A (compEnvC scope cells L env) ((x, p) :: ρ.filter (isFree scope)) s' → CE scope cells L env X X' s.heap.objs.size → (∀ a, X a → X' a) → J X' d s' → Do prog w C A (eval elt (compEnvC scope cells L env)) (fun v s => ∃ q, Rep X' s.heap v q ∧ J X' (d ++ [q]) s) s') :
    CompSpec prog w C X A env (.ListComp elt [⟨.Name x px, iter, [], 0⟩] scope pos) scope (newList []) iter (RListD prog w X ps.length J) s := by
  intro s₁ e₁ pos' use Q E k
  have S₁ := S.ext e₁
  refine comp_core (g := ⟨.Name x px, iter, [], 0⟩) (gs := []) (ps := ps) (accObj := { cls := .type "list", data := .seq #[] }) rfl hset S₁ hap (scopeOk_of hs) (fun s₂ e₂ => hit s₂ (e₁.trans e₂)) (fun s Q E q => wpAny_newObj_type q (by show ([] : List Value).toArray.size ≤ sizeLine; decide)) rfl ?_
  intro s₄ acc L I fp wr P St cells X' H
  refine list_oneD H J hJ (fun Y => hJ Y noX [] _ _ (fun _ q => q.elim) (j0 Y) e₁) hx hsz (fun i p d s' hp hd S' => body L cells X' i p d s' hp hd S' (H.ce e₁.size) fun a h => (H.hX a).mpr (.inl h)) fun s₅ e₅ hns hacc => ?_
  obtain ⟨d, hd, hacc, hj⟩ := hacc
  refine k acc L s₅ e₅ hns (Nat.le_trans H.lo (Nat.le_of_lt H.accL)) (let ⟨m, hn⟩ := hns; hn.lt) H.sit.fm.cl ⟨d, hd, ?_, X', fun a h => (H.hX a).mpr (.inl h), (H.hX L).mpr (.inr (.inr (.inr (.inl rfl)))), hj⟩
  obtain ⟨items, hl, hr⟩ := hacc
  refine .list (fun q => ?_) hl (hr.ofSub fun a h => (H.hX a).mpr (h.elim .inl fun h => .inr (.inr (.inr (.inl h)))))
  rcases q with q | q
  · exact Nat.lt_irrefl _ (Nat.lt_of_lt_of_le (H.sub _ q) H.lo)
  · exact Nat.ne_of_lt H.accL q

theorem evd_of_spec {elt iter : Expr} {tgt : Expr} {ifs : List Expr} {gs : List Comprehension} {scope : Scope} {pos : Pos} {m : Nat} {J : (Addr → Prop) → List PV → Shared → Prop}
    (h : CompSpec prog w C X A env (.ListComp elt (⟨tgt, iter, ifs, 0⟩ :: gs) scope pos) scope (newList []) iter (RListD prog w X m J) s)
    (hJ : StableD prog w C J) (hm : ∀ Y d s, (∀ a, X a → Y a) → J Y d s → J X d s) :
    Do prog w C A (eval (.ListComp elt (⟨tgt, iter, ifs, 0⟩ :: gs) scope pos) env) (fun v s' => ∃ p, Rep X s'.heap v p ∧ ∃ d, p = .list d ∧ d.length = m ∧ J X d s') s := by
  intro s₁ e₁ Q E k
  show wpAny _ A (comprehension (.ListComp elt (⟨tgt, iter, ifs, 0⟩ :: gs) scope pos) scope env _ (newList []) false (eval iter env)) Q E s₁
  refine h s₁ e₁ _ none Q E fun acc L s₅ e₅ hns hlo hlt hCL hR => ?_
  obtain ⟨mm, hn⟩ := hns
  obtain ⟨d, hd, hR, Y, hY, hYL, hj⟩ := hR
  refine ⟨mm, hn, fun h' hs' => ?_⟩
  have eL : Ext prog w (fun a => a = L) C s₅ { s₅ with heap := h' } := Ext.sameBut (t := s₅.toks) hs' rfl
  refine k _ _ (e₅.fresh eL fun a h => h ▸ hlo) ⟨_, (hR.ext (eL.mono fun a h => .inr h)).ofSub fun a h => .inl h, d, rfl, hd, hm Y d _ hY (hJ Y (fun a => a = L) d _ _ (fun a h => h ▸ hYL) hj eL)⟩

end Mine
end
section
open PySem PySem.W PySem.Calls PyProof.Rows
open PySem.StrLaws Builtin Builtin.Str
set_option Elab.async false
set_option maxRecDepth 100000
set_option linter.unusedVariables false
namespace Mine
/-! strs as lists of numbers -/
abbrev lst (x : Str) : List Nat := x.cps.toList
abbrev ofL (l : List Nat) : Str := ⟨l.toArray⟩
theorem lst_inj {x y : Str} (h : lst x = lst y) : x = y := by
  obtain ⟨⟨a⟩⟩ := x; obtain ⟨⟨b⟩⟩ := y
  have : a = b := h
  (refine Mine.rwl this ?_; try with_reducible rfl)
theorem lst_app (x y : Str) : lst (x ++ y) = lst x ++ lst y := by
  show (x.cps ++ y.cps).toList = _
  (refine Mine.rwl Array.toList_append ?_; try with_reducible rfl)
theorem len_lst (x : Str) : x.length = (lst x).length := by
  show x.cps.size = _
  (refine Mine.rwl Array.length_toList ?_; try with_reducible rfl)
noncomputable def joinL (sep : List Nat) : List (List Nat) → List Nat
  | [] => []
  | [p] => p
  | p :: q :: r => p ++ sep ++ joinL sep (q :: r)
theorem lst_join (y : Str) : ∀ ps : List Str, lst (Txt.join y ps) = joinL (lst y) (ps.map lst) := by
  have key : ∀ ps : List Str, lst (Str.join y ps) = joinL (lst y) (ps.map lst) := by
    intro ps
    induction ps with
    | nil => rfl
    | cons p r ih =>
      cases r with
      | nil => rfl
      | cons q r =>
        show lst (p ++ y ++ Str.join y (q :: r)) = _
        rw [lst_app, lst_app, ih]; rfl
  intro ps
  show lst (glued y ps) = _
  rw [glued_eq_join, key]
theorem at_iff (x y : Str) (hi i : Nat) : At x y hi i ↔ i + y.length ≤ hi ∧ ((lst x).drop i).take y.length = lst y := by
  unfold At
  rw [subAt_eq, beq_iff_eq]
theorem lst_sub (x : Str) (i j : Nat) : lst (strSub x i j) = ((lst x).drop i).take (j - i) := strSub_toList x i j
/-! split undoes join -/
section
variable {d k : Nat}
theorem at_dot {x y : Str} (hk : 1 ≤ k) (hy : lst y = List.replicate k d) {i : Nat} (h : At x y x.length i) : (lst x)[i]? = some d := by
  rw [at_iff] at h
  have hl : y.length = k := by rw [len_lst, hy, List.length_replicate]
  have h2 := congrArg (·[0]?) h.2
  simp only [List.getElem?_take, List.getElem?_drop, hy, hl] at h2
  rw [if_pos (by (assumption))] at h2
  simp only [Nat.add_zero] at h2
  rw [h2, List.getElem?_replicate, if_pos (by (assumption))]
theorem parts_of {x y : Str} (hk : 1 ≤ k) (hy : lst y = List.replicate k d) : ∀ (ps : List Str) (a : Nat) (cuts : List Nat) (f : Nat), ps ≠ [] → (∀ p ∈ ps, d ∉ lst p) → a ≤ x.length → (lst x).drop a = joinL (lst y) (ps.map lst) →
    ChainG x y x.length a cuts f → (∀ i, f ≤ i → ¬ At x y x.length i) → partsFrom x y.length a cuts = ps
  | [], _, _, _, h, _, _, _, _, _ => absurd rfl h
  | [p], a, cuts, f, _, hp, ha, he, hc, hf => by
    have he' : (lst x).drop a = lst p := he
    cases cuts with
    | nil =>
      have : strSub x a x.length = p := by
        apply lst_inj
        rw [lst_sub, he', len_lst x]
        apply List.take_of_length_le
        rw [← he', List.length_drop]
        exact Nat.le_refl _
      show [strSub x a x.length] = [p]
      (refine Mine.rwl this ?_; try with_reducible rfl)
    | cons c r =>
      exfalso
      have hx := at_dot hk hy hc.2.1
      have : (lst p)[c - a]? = some d := by
        rw [← he', List.getElem?_drop, ← hx]
        exact congrArg _ (Nat.add_sub_of_le hc.1)
      exact hp p (.head _) (List.mem_of_getElem? this)
  | p :: q :: r, a, cuts, f, _, hp, ha, he, hc, hf => by
    have hl : y.length = k := by rw [len_lst, hy, List.length_replicate]
    have he' : (lst x).drop a = lst p ++ lst y ++ joinL (lst y) ((q :: r).map lst) := he
    have hat : At x y x.length (a + p.length) := by
      rw [at_iff]
      refine ⟨?_, ?_⟩
      · have hlen : x.length - a = p.length + y.length + (joinL (lst y) ((q :: r).map lst)).length := by
          rw [len_lst x, ← List.length_drop, he', List.length_append, List.length_append, ← len_lst, ← len_lst]
        rw [← Nat.add_sub_of_le ha, hlen, Nat.add_assoc]
        exact Nat.add_le_add_left (Nat.le_add_right _ _) _
      rw [← List.drop_drop, he', len_lst p, List.append_assoc, List.drop_left, len_lst y, List.take_left]
    cases cuts with
    | nil =>
      exfalso
      exact hf _ (Nat.le_trans (Nat.le_of_eq hc) (Nat.le_add_right _ _)) hat
    | cons c r' =>
      (refine Mine.el0d hc fun h1 h2 h3 h4 => ?_; try clear hc)
      have hle : c ≤ a + p.length := Nat.le_of_not_lt fun hn => h3 (a + p.length) (Nat.le_add_right _ _) hn hat
      have hge : a + p.length ≤ c := Nat.le_of_not_lt fun hn => by
        have h5 : ((lst x).drop a)[c - a]? = some d := by
          rw [List.getElem?_drop, Nat.add_sub_of_le h1, at_dot hk hy h2]
        rw [he', List.append_assoc, List.getElem?_append_left (Nat.lt_of_lt_of_le (Nat.sub_lt_left_of_lt_add h1 hn) (Nat.le_of_eq (len_lst p)))] at h5
        exact hp p (.head _) (List.mem_of_getElem? h5)
      obtain rfl : c = a + p.length := Nat.le_antisymm hle hge
      have hs : strSub x a (a + p.length) = p := by
        apply lst_inj
        rw [lst_sub, he', List.append_assoc, Nat.add_sub_cancel_left, len_lst p, List.take_left]
      have hr : (lst x).drop (a + p.length + y.length) = joinL (lst y) ((q :: r).map lst) := by
        rw [Nat.add_assoc, ← List.drop_drop, he', List.append_assoc, ← List.drop_drop, len_lst p, List.drop_left, len_lst y, List.drop_left]
      show strSub x a (a + p.length) :: partsFrom x y.length (a + p.length + y.length) r' = _
      rw [hs, parts_of hk hy (q :: r) _ r' f (List.cons_ne_nil _ _) (fun p' hp' => hp p' (.tail _ hp')) ((at_iff ..).mp hat).1 hr h4 hf]
theorem split_join {y : Str} (hk : 1 ≤ k) (hy : lst y = List.replicate k d) (hkind : Builtin.Str.strKind y = 1) {ps : List Str} (hne : ps ≠ []) (hp : ∀ p ∈ ps, d ∉ lst p) : Txt.split (Txt.join y ps) y = ps := by
  have hl : y.length = k := by rw [len_lst, hy, List.length_replicate]
  generalize hx : Txt.join y ps = x
  have hj : (lst x).drop 0 = joinL (lst y) (ps.map lst) := by rw [List.drop_zero, ← hx, lst_join]
  obtain ⟨f, hc, hf⟩ := occ_tight x y (hl ▸ hk)
  have hmain := parts_of hk hy ps 0 _ f hne hp (Nat.zero_le _) hj hc hf
  have hkx : 1 ≤ Builtin.Str.strKind x := by
    unfold Builtin.Str.strKind
    split
    · exact Nat.le_refl _
    · split <;> decide
  unfold Txt.split
  by_cases h1 : x.length < y.length
  · rw [if_pos (by simp [h1])]
    have hnil : occurrences x y 0 x.length (x.length + 1) = [] := by
      cases ho : occurrences x y 0 x.length (x.length + 1) with
      | nil => rfl
      | cons c r => rw [ho] at hc; exact absurd (Nat.le_trans (Nat.le_add_left _ _) hc.2.1.1) (Nat.not_le_of_lt h1)
    rw [hnil] at hmain
    rw [← hmain]
    show [x] = [strSub x 0 x.length]
    rw [sub_whole]
  · rw [if_neg (by simp [h1, hkind]; (solve_by_elim (maxDepth := 3) [Nat.le_of_lt_succ, Nat.lt_succ_of_le, Nat.lt_succ_of_lt, Nat.le_of_lt, Nat.le_succ_of_le, Nat.pos_of_ne_zero, Nat.ne_of_gt, Nat.ne_of_lt, Nat.zero_le, Nat.le_refl, Nat.lt_succ_self, Nat.sub_le, Nat.le_of_not_lt, Nat.lt_of_not_le, Nat.le_trans, Nat.lt_of_lt_of_le, Nat.lt_of_le_of_lt, Nat.le_antisymm]))]
    cases ho : occurrences x y 0 x.length (x.length + 1) with
    | nil =>
      rw [if_pos (by rfl)]
      rw [ho] at hmain
      rw [← hmain]
      show [x] = [strSub x 0 x.length]
      rw [sub_whole]
    | cons c r =>
      rw [if_neg (by simp), partsBetween_eq, ← ho]
      exact hmain
end
theorem contains_of {x y : Str} {a b : List Nat} (h : lst x = a ++ lst y ++ b) : Txt.contains x y = true := by
  unfold Txt.contains
  rw [found_iff]
  refine ⟨a.length, by rw [len_lst x, h, List.length_append, List.length_append, ← len_lst]; exact Nat.le_add_right _ _, ?_⟩
  rw [subAt_eq, beq_iff_eq]
  show ((lst x).drop a.length).take y.length = lst y
  rw [h, List.append_assoc, List.drop_left, len_lst y, List.take_left]
/-! find -/
theorem fromIndex_nat (n i : Nat) : fromIndex n (i : Int) = i := by
  unfold fromIndex; rw [if_neg (Int.not_lt.mpr (Int.natCast_nonneg i))]; rfl
theorem findP_nat (x y : Str) (i j : Nat) (hj : j ≤ x.length) : (findP x y i j = -1 ∧ ∀ m, i ≤ m → ¬ At x y j m) ∨ ∃ m : Nat, findP x y i j = m ∧ i ≤ m ∧ At x y j m ∧ ∀ m', i ≤ m' → m' < m → ¬ At x y j m' := by
  have hi := fromIndex_nat x.length i
  have hj' : min (fromIndex x.length (j : Int)) x.length = j := by rw [fromIndex_nat]; exact Nat.min_eq_left hj
  unfold findP
  rw [hi, hj', occ_eq]
  rcases occ_first x y j 1 (Nat.le_refl 1) (List.range' i (j + 1 - i)) i (fun m hm => (List.mem_range'_1.mp hm).1) with ⟨h0, hn⟩ | ⟨pre, a, post, e, h0, ha, hn⟩
  · refine .inl ⟨by rw [h0], fun m hm h => ?_⟩
    have hmj := Nat.le_trans (Nat.le_add_right _ _) h.1
    exact hn m (List.mem_range'_1.mpr ⟨hm, by rw [Nat.add_sub_of_le (Nat.le_succ_of_le (Nat.le_trans hm hmj))]; exact Nat.lt_succ_of_le hmj⟩) h
  · have hs := range'_split_from e
    refine .inr ⟨a, ?_, hs.1, ha, fun m hm0 hm => hn m (hs.2 m hm0 hm)⟩
    generalize (forIn (List.range' i (j + 1 - i)) ((#[] : Array Nat), i) (occBody x y j 1)).run.fst = arr at h0
    have h1 : arr.toList[0]? = some a := by simpa using h0
    cases hL : arr.toList with
    | nil => rw [hL] at h1; cases h1
    | cons b t => rw [hL] at h1; simp at h1; (refine Mine.rwl h1 ?_; try with_reducible rfl)
theorem at_empty (x : Str) (j m : Nat) (h : m ≤ j) : At x ⟨#[]⟩ j m := by
  rw [at_iff]; exact ⟨h, by simp [Str.length]⟩
theorem findP_empty (x : Str) (i j : Nat) (hj : j ≤ x.length) (h : i ≤ j) : findP x ⟨#[]⟩ i j = i := by
  rcases findP_nat x ⟨#[]⟩ i j hj with ⟨_, hn⟩ | ⟨m, h1, h2, h3, h4⟩
  · exact absurd (at_empty x j i h) (hn i (Nat.le_refl _))
  · rcases Nat.lt_or_ge i m with h5 | h5
    · exact absurd (at_empty x j i h) (h4 i (Nat.le_refl _) h5)
    · rw [h1, Nat.le_antisymm h5 h2]
theorem emGo_empty {x : Str} {i j : Nat} {ys : List Str} (hj : j ≤ x.length) (h : i ≤ j) : emGo x j (⟨#[]⟩ :: ys) i = emGo x j ys i := by
  rw [emGo, findP_empty x i j hj h, if_neg (Int.not_lt.mpr (Int.natCast_nonneg i))]
  exact congrArg (emGo x j ys) (Int.add_zero _)
theorem emGo_find {x y : Str} {i j m : Nat} {ys : List Str} (hj : j ≤ x.length) (h : i ≤ m) (hm : At x y j m) (hno : ∀ m', i ≤ m' → m' < m → ¬ At x y j m') : emGo x j (y :: ys) i = emGo x j ys ((m + y.length : Nat) : Int) := by
  rcases findP_nat x y i j hj with ⟨_, hn⟩ | ⟨m2, h1, h2, h3, h4⟩
  · exact absurd hm (hn m h)
  · have : m2 = m := by
      rcases Nat.lt_trichotomy m2 m with q | q | q
      · exact absurd h3 (hno m2 h2 q)
      · exact q
      · exact absurd hm (h4 m h q)
    subst this
    rw [emGo, h1, if_neg (Int.not_lt.mpr (Int.natCast_nonneg _))]
    rfl
theorem emGo_none {x y : Str} {i j : Nat} {ys : List Str} (hj : j ≤ x.length) (hno : ∀ m, i ≤ m → ¬ At x y j m) : emGo x j (y :: ys) i = false := by
  rcases findP_nat x y i j hj with ⟨h0, hn⟩ | ⟨m2, h1, h2, h3, h4⟩
  · rw [emGo, h0, if_pos (by decide)]
  · exact absurd h3 (hno m2 h2)
theorem starts_iff (x y : Str) : Txt.startswith x y = decide (lst y <+: lst x) := by
  unfold Txt.startswith
  rw [Bool.eq_iff_iff, Bool.and_eq_true, decide_eq_true_eq, decide_eq_true_eq, subAt_eq, beq_iff_eq]
  show 0 + y.length ≤ x.length ∧ ((lst x).drop 0).take y.length = lst y ↔ _
  rw [List.drop_zero, List.prefix_iff_eq_take, ← len_lst]
  constructor
  · rintro ⟨_, h⟩; exact h.symm
  · intro h
    refine ⟨?_, h.symm⟩
    rw [Nat.zero_add, len_lst, h, len_lst x]
    exact List.length_take_le' _ _
theorem ends_iff (x y : Str) : Txt.endswith x y = decide (lst y <:+ lst x) := by
  unfold Txt.endswith
  rw [Bool.eq_iff_iff, Bool.and_eq_true, decide_eq_true_eq, decide_eq_true_eq, subAt_eq, beq_iff_eq]
  show 0 + y.length ≤ x.length ∧ ((lst x).drop (x.length - y.length)).take y.length = lst y ↔ _
  rw [List.suffix_iff_eq_drop, ← len_lst, ← len_lst]
  constructor
  · rintro ⟨h0, h⟩
    rw [← h]
    rw [List.take_of_length_le]
    rw [List.length_drop, ← len_lst]
    exact Nat.le_of_eq (Nat.sub_sub_self (Nat.le_trans (Nat.le_of_eq (Nat.zero_add _).symm) h0))
  · intro h
    have h0 : y.length ≤ x.length := by
      rw [len_lst y, h, List.length_drop, ← len_lst]
      exact Nat.sub_le _ _
    refine ⟨Nat.le_trans (Nat.le_of_eq (Nat.zero_add _)) h0, ?_⟩
    rw [← h, len_lst y, List.take_length]
end Mine
end
section
open PySem PySem.W PySem.Calls PyProof.Rows
open PySem.StrLaws Builtin
set_option Elab.async false
set_option maxRecDepth 100000
set_option linter.unusedVariables false
namespace Mine
/-! what _ellipsis_match answers -/
abbrev nilS : Str := ⟨#[]⟩
theorem lst_dots : lst ("..." : Str) = List.replicate 3 46 := rfl
theorem emOk_of {want got : Str} {ws : List Str} {r : Bool} (hj : lst want = joinL (lst "...") (ws.map lst)) (hne : 2 ≤ ws.length) (hp : ∀ p ∈ ws, 46 ∉ lst p) (zw : want.length ≤ 1000) (zg : got.length ≤ 1000) (zl : ws.length ≤ 1000) (zp : ∀ p ∈ ws, p.length ≤ 1000) (hr : emW ws got = r) : EmOk want got r := by
  have hj' : want = Txt.join "..." ws := lst_inj (by rw [hj, lst_join])
  have hs : Txt.split want "..." = ws := by rw [hj']; exact split_join (k := 3) (d := 46) (by decide) lst_dots (by decide +kernel) (by intro h; rw [h] at hne; exact absurd hne (by decide)) hp
  refine ⟨ws, ?_, hs, hne, zw, zg, zl, zp, hr⟩
  match ws, hne with
  | p :: q :: r, _ => exact contains_of (a := lst p) (b := joinL (lst "...") ((q :: r).map lst)) hj
/-- a short piece without a dot -/
noncomputable def Wp (p : Str) : Prop := 46 ∉ lst p ∧ p.length ≤ 100
theorem joinL_len {sep : List Nat} : ∀ {ls : List (List Nat)}, (∀ p ∈ ls, p.length ≤ 100) → (joinL sep ls).length ≤ (100 + sep.length) * ls.length
  | [], _ => Nat.le_refl 0
  | [p], h => Nat.le_trans (h p (.head _)) (Nat.le_trans (Nat.le_add_right _ _) (Nat.le_of_eq (Nat.mul_one _).symm))
  | p :: q :: r, h => by
    show (p ++ sep ++ joinL sep (q :: r)).length ≤ _
    rw [List.length_append, List.length_append, List.length_cons, Nat.mul_succ, Nat.add_comm]
    exact Nat.add_le_add (joinL_len fun y hy => h y (.tail _ hy)) (Nat.add_le_add_right (h p (.head _)) _)
theorem emOk4 {want got : Str} {ws : List Str} {r : Bool} (hj : lst want = joinL (lst "...") (ws.map lst)) (h2 : 2 ≤ ws.length) (h4 : ws.length ≤ 4) (hp : ∀ p ∈ ws, Wp p) (zg : got.length ≤ 100) (hr : emW ws got = r) : EmOk want got r :=
  emOk_of hj h2 (fun p h => (hp p h).1)
    (by
      rw [len_lst, hj]
      refine Nat.le_trans (joinL_len fun q hq => ?_) (Nat.le_trans (Nat.mul_le_mul_left _ (by rw [List.length_map]; exact h4)) (by decide))
      refine Exists.elim (List.mem_map.mp hq) fun p h => ?_
      rw [← h.2, ← len_lst]; exact (hp p h.1).2)
    (Nat.le_trans zg (by decide)) (Nat.le_trans h4 (by decide)) (fun p h => Nat.le_trans (hp p h).2 (by decide)) hr
theorem wp_cons {p : Str} {ws : List Str} (h : Wp p) (t : ∀ q ∈ ws, Wp q) : ∀ q ∈ p :: ws, Wp q := fun _ hq => (List.mem_cons.mp hq).elim (fun e => e ▸ h) (t _)
theorem wp_nil : ∀ q ∈ ([] : List Str), Wp q := fun _ h => nomatch h
theorem wp_nilS : Wp nilS := ⟨List.not_mem_nil, Nat.zero_le _⟩
theorem gt_no {a b c : Nat} (h : a + c ≤ b) : ¬ ((a : Int) > (b : Int) - (c : Int)) := by omega
theorem sub_cast {b c : Nat} (h : c ≤ b) : (b : Int) - (c : Int) = ((b - c : Nat) : Int) := (Int.ofNat_sub h).symm
theorem emIf {a b c : Nat} {t : Str} {ws : List Str} {r : Bool} (h : a + c ≤ b) (hr : emGo t ((b - c : Nat) : Int) ws (a : Int) = r) : (if (a : Int) > (b : Int) - (c : Int) then false else emGo t ((b : Int) - (c : Int)) ws (a : Int)) = r := by
  rw [if_neg (gt_no h), sub_cast (Nat.le_trans (Nat.le_add_left _ _) h)]; exact hr
theorem em0 {t : Str} {ws : List Str} {r : Bool} (hs : emW ws t = (if ((0 : Nat) : Int) > (t.length : Int) - ((0 : Nat) : Int) then false else emGo t ((t.length : Int) - ((0 : Nat) : Int)) ws ((0 : Nat) : Int))) (hr : emGo t ((t.length : Nat) : Int) ws ((0 : Nat) : Int) = r) : emW ws t = r :=
  hs.trans (emIf (Nat.zero_le _) hr)
theorem em_nil2 (t : Str) : emW [nilS, nilS] t = true := em0 rfl (by
  rw [emGo_empty (Nat.le_refl _) (Nat.zero_le _), emGo_empty (Nat.le_refl _) (Nat.zero_le _)]; rfl)
theorem nil_of_len {x : Str} (h : x.length = 0) : x = nilS := lst_inj (List.length_eq_zero_iff.mp (by rw [← len_lst]; exact h))
theorem ne_of_len {x : Str} (h : x.length ≠ 0) : (x.length != 0) = true := bne_iff_ne.mpr h
theorem em_suf {b k : Str} (hb : 46 ∉ lst b) (z1 : b.length ≤ 100) (z2 : k.length ≤ 100) : EmOk ("..." ++ b) k (decide (lst b <:+ lst k)) := by
  refine emOk4 (ws := [nilS, b]) (lst_app _ _) (Nat.le_refl 2) (Nat.le_add_left 2 2) (wp_cons wp_nilS (wp_cons ⟨hb, z1⟩ wp_nil)) z2 ?_
  by_cases h0 : b.length = 0
  · obtain rfl := nil_of_len h0
    rw [em_nil2, decide_eq_true]
    exact List.nil_suffix
  · show emC k 0 [nilS, b] b = _
    unfold emC
    rw [ne_of_len h0, ends_iff]
    by_cases hp : lst b <:+ lst k
    · rw [decide_eq_true hp]
      have hlen := hp.length_le
      rw [← len_lst, ← len_lst] at hlen
      exact emIf (a := 0) (Nat.le_trans (Nat.le_of_eq (Nat.zero_add _)) hlen) (emGo_empty (Nat.sub_le _ _) (Nat.zero_le _))
    · rw [decide_eq_false hp]; rfl
/-! a word without its last sign, and without its first -/
theorem lst_spick (x : Str) (lo hi st : Option Int) : lst (spick x lo hi st) = pick (lst x) lo hi st := rfl
theorem lst_tail (x : Str) : lst (spick x (some 1) none none) = (lst x).drop 1 := by
  rw [lst_spick, show (1 : Int) = ((1 : Nat) : Int) from rfl, pick_from]
end Mine
end
section
open PySem PySem.W PySem.Calls PyProof.Rows
open PySem.StrLaws Builtin
set_option Elab.async false
set_option maxRecDepth 100000
set_option linter.unusedVariables false
namespace Mine
/-! parts that end with a sign that they do not hold -/
noncomputable def ended (d : Nat) (ps : List (List Nat)) : List Nat := ps.flatMap fun p => p ++ [d]
theorem cons_pre {x y : Nat} {A B : List Nat} : x :: A <+: y :: B ↔ x = y ∧ A <+: B := List.cons_prefix_cons
theorem cut_at {d : Nat} {A B : List Nat} {p : List Nat} : ∀ {q : List Nat}, d ∉ p → d ∉ q → (p ++ d :: A <+: q ++ d :: B ↔ p = q ∧ A <+: B) := by
  induction p with
  | nil =>
    intro q _ hq
    cases q with
    | nil => exact cons_pre.trans (and_congr_left fun _ => ⟨fun _ => rfl, fun _ => rfl⟩)
    | cons y q => exact cons_pre.trans ⟨fun h => absurd (h.1 ▸ .head _) hq, fun h => nomatch h.1⟩
  | cons x p ih =>
    intro q hp hq
    cases q with
    | nil => exact cons_pre.trans ⟨fun h => absurd (h.1 ▸ .head _) hp, fun h => nomatch h.1⟩
    | cons y q => exact cons_pre.trans ((and_congr_right fun _ => ih (fun h => hp (.tail _ h)) fun h => hq (.tail _ h)).trans (and_assoc.symm.trans (and_congr_left fun _ => (Iff.of_eq (List.cons.injEq ..)).symm)))
theorem ended_cons {d : Nat} {p : List Nat} {ps : List (List Nat)} {e : List Nat} : ended d (p :: ps) ++ e = p ++ d :: (ended d ps ++ e) := by
  unfold ended; rw [List.flatMap_cons, List.append_assoc, List.append_assoc]; rfl
theorem ended_cons' {d : Nat} {p : List Nat} {ps : List (List Nat)} : ended d (p :: ps) = p ++ d :: ended d ps := List.append_assoc p [d] _
theorem ended_iff {d : Nat} {e : List Nat} (he : d ∉ e) {ps : List (List Nat)} : ∀ {qs : List (List Nat)}, (∀ p ∈ ps, d ∉ p) → (∀ q ∈ qs, d ∉ q) → (ended d ps <+: ended d qs ++ e ↔ ps <+: qs) := by
  induction ps with
  | nil => exact fun _ _ => ⟨fun _ => List.nil_prefix, fun _ => List.nil_prefix⟩
  | cons p ps ih =>
    intro qs hp hq
    cases qs with
    | nil =>
      refine ⟨fun h => absurd (h.subset ?_) he, fun h => absurd (List.prefix_nil.mp h) (List.cons_ne_nil _ _)⟩
      rw [ended_cons']
      exact List.mem_append_right p (.head _)
    | cons q qs =>
      rw [ended_cons', ended_cons, cut_at (hp p (.head _)) (hq q (.head _)), ih (fun p h => hp p (.tail _ h)) (fun q h => hq q (.tail _ h)), List.cons_prefix_cons]
theorem joinL_snoc {d : Nat} (qs : List (List Nat)) (e : List Nat) : joinL [d] (qs ++ [e]) = ended d qs ++ e := by
  induction qs with
  | nil => rfl
  | cons q qs ih =>
    rw [ended_cons, ← ih]
    cases qs with
    | nil => exact List.append_assoc _ _ _
    | cons q' qs => exact List.append_assoc _ _ _
theorem joinL_end {d : Nat} {ps : List (List Nat)} (h : ps ≠ []) : joinL [d] ps ++ [d] = ended d ps := by
  rw [← List.dropLast_concat_getLast h, joinL_snoc]
  unfold ended
  rw [List.flatMap_append, List.append_assoc, List.flatMap_singleton]
theorem ended_inj {d : Nat} {ps qs : List (List Nat)} (hp : ∀ p ∈ ps, d ∉ p) (hq : ∀ q ∈ qs, d ∉ q) (h : ended d ps = ended d qs) : ps = qs := by
  have a := (ended_iff (d := d) List.not_mem_nil hp hq).mp (by rw [List.append_nil, h]; exact List.prefix_refl _)
  have b := (ended_iff (d := d) List.not_mem_nil hq hp).mp (by rw [List.append_nil, h]; exact List.prefix_refl _)
  exact a.eq_of_length (Nat.le_antisymm a.length_le b.length_le)
/-- told as a module: alike, or that and a dot ahead -/
theorem told_iff {d : Nat} {ps qs : List (List Nat)} (h1 : ps ≠ []) (h2 : qs ≠ []) (hp : ∀ p ∈ ps, d ∉ p) (hq : ∀ q ∈ qs, d ∉ q) : (joinL [d] qs = joinL [d] ps ∨ joinL [d] ps ++ [d] <+: joinL [d] qs) ↔ ps <+: qs := by
  have hinj : joinL [d] qs = joinL [d] ps → qs = ps := fun h => ended_inj hq hp (by rw [← joinL_end h2, ← joinL_end h1, h])
  rw [joinL_end h1]
  obtain ⟨q', e, rfl⟩ : ∃ q' e, qs = q' ++ [e] := ⟨_, _, (List.dropLast_concat_getLast h2).symm⟩
  rw [joinL_snoc, ended_iff (hq e (List.mem_append_right _ (.head _))) hp (fun q h => hq q (List.mem_append_left _ h)), List.prefix_concat_iff]
  refine or_congr ⟨fun h => ?_, fun h => ?_⟩ Iff.rfl
  · rw [← joinL_snoc] at h; exact (hinj h).symm
  · rw [← joinL_snoc, h]
theorem joinL_inj {d : Nat} {ps qs : List (List Nat)} (hp : ∀ p ∈ ps, d ∉ p ∧ p ≠ []) (hq : ∀ q ∈ qs, d ∉ q ∧ q ≠ []) (h : joinL [d] ps = joinL [d] qs) : ps = qs := by
  have hnil : ∀ {ps : List (List Nat)}, (∀ p ∈ ps, d ∉ p ∧ p ≠ []) → joinL [d] ps = [] → ps = [] := fun {ps} hp h => Decidable.byContradiction fun hn => by
    rw [← List.dropLast_concat_getLast hn, joinL_snoc] at h
    exact (hp _ (List.getLast_mem hn)).2 (List.append_eq_nil_iff.mp h).2
  by_cases h1 : ps = []
  · rw [h1] at h ⊢; exact (hnil hq h.symm).symm
  · by_cases h2 : qs = []
    · rw [h2] at h ⊢; exact hnil hp h
    · exact ended_inj (fun p h => (hp p h).1) (fun q h => (hq q h).1) (by rw [← joinL_end h1, ← joinL_end h2, h])
/-! a word's parts -/
noncomputable def ptL (c x : Nat) : List Nat := if x = c then [c] else [c, c]
noncomputable def sgn (c : Nat) : Str := ⟨#[c]⟩
theorem lst_sgn (c : Nat) : lst (sgn c) = [c] := rfl
theorem parts_lst (c : Nat) (u : Str) : (partsP u (sgn c)).map lst = (lst u).map (ptL c) := by
  unfold partsP
  rw [List.map_map]
  apply List.map_congr_left
  intro x _
  show lst (if (⟨#[x]⟩ : Str) = sgn c then sgn c else sgn c ++ sgn c) = ptL c x
  unfold ptL
  by_cases h : x = c
  · subst h; rw [if_pos (show (⟨#[x]⟩ : Str) = sgn x from rfl), if_pos rfl]; rfl
  · rw [if_neg h, if_neg (fun q => h ?_)]
    · rfl
    · exact List.head_eq_of_cons_eq (congrArg lst q)
theorem ptL_free {c d x : Nat} (h : d ≠ c) : d ∉ ptL c x := by
  have h1 : ∀ l : List Nat, (∀ y ∈ l, y = c) → d ∉ l := fun l hl hd => h (hl d hd)
  unfold ptL; split
  · exact h1 _ fun y hy => List.mem_singleton.mp hy
  · exact h1 _ fun y hy => (List.mem_cons.mp hy).elim id List.mem_singleton.mp
theorem ptL_ne {c x : Nat} : ptL c x ≠ [] := by unfold ptL; split <;> exact List.cons_ne_nil _ _
theorem ptL_len {c x y : Nat} (hx : x = c) (hy : y ≠ c) : ptL c x ≠ ptL c y := by
  unfold ptL; rw [if_pos hx, if_neg hy]; exact fun h => nomatch (List.cons.inj h).2
theorem ptL_inj {c x y : Nat} (hx : x = c ∨ x = 10) (hy : y = c ∨ y = 10) (hc : c ≠ 10) (h : ptL c x = ptL c y) : x = y := by
  by_cases h1 : x = c
  · by_cases h2 : y = c
    · exact h1.trans h2.symm
    · exact absurd h (ptL_len h1 h2)
  · by_cases h2 : y = c
    · exact absurd h.symm (ptL_len h2 h1)
    · exact (hx.resolve_left h1).trans (hy.resolve_left h2).symm
noncomputable def Two (c : Nat) (u : List Nat) : Prop := ∀ x ∈ u, x = c ∨ x = 10
theorem map_inj_two {c : Nat} (hc : c ≠ 10) {u : List Nat} : ∀ {v : List Nat}, Two c u → Two c v → u.map (ptL c) = v.map (ptL c) → u = v := by
  induction u with
  | nil => intro v _ _ h; exact (List.map_eq_nil_iff.mp h.symm).symm
  | cons x u ih =>
    intro v hu hv h
    cases v with
    | nil => exact nomatch h
    | cons y v =>
      have h' := List.cons.inj h
      rw [ptL_inj (hu x (.head _)) (hv y (.head _)) hc h'.1, ih (fun z hz => hu z (.tail _ hz)) (fun z hz => hv z (.tail _ hz)) h'.2]
theorem map_pre {c : Nat} (hc : c ≠ 10) {u v : List Nat} (hu : Two c u) (hv : Two c v) : u.map (ptL c) <+: v.map (ptL c) ↔ u <+: v := by
  constructor
  · intro h
    rw [List.prefix_iff_eq_take, List.length_map, ← List.map_take] at h
    have := map_inj_two hc hu (fun x hx => hv x (List.mem_of_mem_take hx)) h
    rw [this]; exact List.take_prefix _ _
  · rintro ⟨s, rfl⟩
    rw [List.map_append]; exact List.prefix_append _ _
/-! sizes of joined texts -/
theorem join_len {y : Str} {ps : List Str} {B : Nat} (hB : ∀ p ∈ ps, p.length ≤ B) : (Txt.join y ps).length ≤ ps.length * B + ps.length * y.length := by
  show (Builtin.Str.glued y ps).length ≤ _
  rw [glued_eq_join]
  exact Nat.le_trans (StrLaws.join_length_le y ps) (Nat.add_le_add_right (sumLen_le ps hB) _)
theorem joinOk_of {y : Str} {ps : List Str} {B : Nat} (hB : ∀ p ∈ ps, p.length ≤ B) (h : ps.length * B + ps.length * y.length ≤ 16777216) : JoinOk y ps = true := by
  unfold JoinOk
  rw [joinFits hB h]; rfl
theorem parts_len (u : Str) (c : Nat) : ∀ p ∈ partsP u (sgn c), p.length ≤ 2 := by
  intro p hp
  refine Mine.mapEl hp fun x _ => ?_
  split
  · exact (show (1 : Nat) ≤ 2 by decide)
  · rw [str_len_app]; exact (show (1 + 1 : Nat) ≤ 2 by decide)
theorem parts_num (u : Str) (σ : Str) : (partsP u σ).length = u.length := by unfold partsP; rw [List.length_map, ← len_lst]
theorem parts_ok {a b c : Nat} {u : Str} (hz : u.length ≤ 8) {ps : List Str} {y : Str} (hp : ∀ p ∈ ps, p.length ≤ 2) (hn : ps.length ≤ u.length + 2) (hy : y.length = 1) : JoinOk y ps = true := by
  refine joinOk_of (B := 2) hp ?_
  rw [hy]
  have h10 : ps.length ≤ 10 := Nat.le_trans hn (Nat.add_le_add_right hz 2)
  exact Nat.le_trans (Nat.add_le_add (Nat.mul_le_mul_right 2 h10) (Nat.mul_le_mul_right 1 h10)) (by decide)
theorem all_cons {p : Str} {ps : List Str} (h : p.length ≤ 2) (t : ∀ q ∈ ps, q.length ≤ 2) : ∀ q ∈ p :: ps, q.length ≤ 2 := fun q hq => (List.mem_cons.mp hq).elim (fun e => e ▸ h) (t q)
theorem short_join {y : Str} {ps : List Str} {n : Nat} (hy : y.length = 1) (hp : ∀ p ∈ ps, p.length ≤ 2) (hn : ps.length ≤ n) : (Txt.join y ps).length ≤ n * 2 + n * 1 :=
  Nat.le_trans (join_len (B := 2) hp) (by rw [hy]; exact Nat.add_le_add (Nat.mul_le_mul_right 2 hn) (Nat.mul_le_mul_right 1 hn))
end Mine
end
section
open PySem PySem.W PySem.Calls PyProof.Rows
open PySem.StrLaws Builtin
set_option Elab.async false
set_option maxRecDepth 100000
set_option linter.unusedVariables false
namespace Mine
/-! files and directories -/
theorem lst_dot : lst ("." : Str) = [46] := rfl
theorem lst_slash : lst ("/" : Str) = [47] := rfl
noncomputable def dirP (c : Nat) (u : Str) : Str := "/" ++ Txt.join "/" ("q" :: partsP u (sgn c))
theorem dir_lst (c : Nat) (u : Str) : lst (dirP c u ++ "/") = [47, 113, 47] ++ ended 47 ((lst u).map (ptL c)) := by
  unfold dirP
  rw [lst_app, lst_app, lst_join, lst_slash, List.map_cons, parts_lst, List.append_assoc, joinL_end (by simp)]
  simp [ended]; rfl
theorem file_lst (c : Nat) (u : Str) : lst (fileP (sgn c) u) = [47, 113, 47] ++ (ended 47 ((lst u).map (ptL c)) ++ [102]) := by
  unfold fileP
  rw [lst_join, List.map_cons, List.map_append, parts_lst, ← List.cons_append]
  show joinL [47] ((lst ("/q" : Str) :: (lst u).map (ptL c)) ++ [[102]]) = _
  rw [joinL_snoc]
  simp [ended]; rfl
theorem kept_parts {c : Nat} (hd : 46 ≠ c) (u : Str) : keptP (("q" : Str) :: ("." : Str) :: partsP u (sgn c)) = ("q" : Str) :: partsP u (sgn c) := by
  have hp : ∀ p ∈ partsP u (sgn c), (p.length != 0 && !decide (p = ".")) = true := by
    intro p hp
    have h1 : lst p ∈ (lst u).map (ptL c) := by rw [← parts_lst]; exact List.mem_map.mpr ⟨p, hp, rfl⟩
    refine Mine.el1b (List.mem_map.mp h1) fun x _ hx => ?_
    have h2 : lst p ≠ [] := by rw [← hx]; exact ptL_ne
    have h3 : p ≠ "." := fun q => by
      rw [q] at hx
      have : 46 ∈ ptL c x := by rw [hx]; exact .head _
      exact ptL_free hd this
    have h4 : p.length ≠ 0 := fun q => h2 (List.length_eq_zero_iff.mp (by rw [← len_lst]; exact q))
    rw [decide_eq_false h3, bne_iff_ne.mpr h4]; rfl
  have hq : (("q" : Str).length != 0 && !decide (("q" : Str) = ".")) = true := by decide +kernel
  have hdot : ¬ (("." : Str).length != 0 && !decide (("." : Str) = ".")) = true := by decide +kernel
  unfold keptP
  rw [List.filter_cons, if_pos hq, List.filter_cons, if_neg hdot, List.filter_eq_self.mpr hp]
theorem norm_ok {c : Nat} (hd : 46 ≠ c) (hs : 47 ≠ c) {u : Str} (hz : u.length ≤ 8) : NormOk (leadPath u (sgn c)) (dirP c u) := by
  have hB : ∀ p ∈ partsP u (sgn c), p.length ≤ 2 := parts_len u c
  have hn := parts_num u (sgn c)
  have hl1 : lst (leadPath u (sgn c)) = 47 :: lst (Txt.join "/" ("q" :: "." :: partsP u (sgn c))) := by
    unfold leadPath
    rw [lst_join, lst_join]
    have h1 : lst ("/q" : Str) = 47 :: lst ("q" : Str) := rfl
    cases hp : partsP u (sgn c) with
    | nil => simp only [List.map_cons, List.map_nil, joinL, h1, List.cons_append]
    | cons a r => simp only [List.map_cons, joinL, h1, List.cons_append]
  have hlen : ∀ (a b : Str), a.length ≤ 2 → b.length ≤ 2 → (Txt.join "/" (a :: b :: partsP u (sgn c))).length ≤ 100 := fun a b ha hb =>
    Nat.le_trans (short_join (n := 10) rfl (all_cons ha (all_cons hb hB)) (by rw [List.length_cons, List.length_cons, hn]; exact Nat.succ_le_succ (Nat.succ_le_succ hz))) (by decide)
  have hrest : spick (leadPath u (sgn c)) (some 1) none none = Txt.join "/" ("q" :: "." :: partsP u (sgn c)) := by
    apply lst_inj
    rw [lst_tail, hl1]; rfl
  have pt : ∀ {p : Str}, p ∈ partsP u (sgn c) → ∃ x, ptL c x = lst p := fun hp => by
    refine Exists.elim (List.mem_map.mp (show lst _ ∈ (lst u).map (ptL c) by rw [← parts_lst]; exact List.mem_map.mpr ⟨_, hp, rfl⟩)) fun x h => ⟨x, h.2⟩
  have hsplit : Txt.split (spick (leadPath u (sgn c)) (some 1) none none) "/" = ("q" : Str) :: ("." : Str) :: partsP u (sgn c) := by
    rw [hrest]
    refine split_join (k := 1) (d := 47) (by decide) rfl (by decide +kernel) (List.cons_ne_nil _ _) fun p hp => ?_
    refine (List.mem_cons.mp hp).elim (fun e => e ▸ (by decide)) fun hp => (List.mem_cons.mp hp).elim (fun e => e ▸ (by decide)) fun hp => ?_
    refine Exists.elim (pt hp) fun x hx => ?_
    rw [← hx]; exact ptL_free hs
  have hk2 : ∀ p ∈ ("q" : Str) :: partsP u (sgn c), p.length ≤ 2 := all_cons (by decide) hB
  have hk3 : (("q" : Str) :: partsP u (sgn c)).length ≤ 9 := by rw [List.length_cons, hn]; exact Nat.succ_le_succ hz
  refine ⟨_, Nat.le_trans (hlen "/q" "." (by decide) (by decide)) (by decide), by rw [len_lst, hl1]; rfl, ?_, ?_, ?_, rfl, ?_, ?_, ?_, ?_, ?_⟩
  · apply lst_inj
    rw [lst_spick, show (1 : Int) = ((1 : Nat) : Int) from rfl, pick_upto, hl1]; rfl
  · intro h
    have h1 := congrArg lst h
    rw [lst_spick, show (1 : Int) = ((1 : Nat) : Int) from rfl, show (2 : Int) = ((2 : Nat) : Int) from rfl, pick_range, hl1] at h1
    have h2 : lst (Txt.join "/" ("q" :: "." :: partsP u (sgn c))) = 113 :: ([47] ++ joinL [47] (lst ("." : Str) :: (partsP u (sgn c)).map lst)) := by
      rw [lst_join]; rfl
    rw [h2] at h1
    cases h1
  · rw [hrest]; exact Nat.le_trans (hlen "q" "." (by decide) (by decide)) (by decide)
  · rw [hsplit, List.length_cons]; exact Nat.le_trans (Nat.succ_le_succ hk3) (by decide)
  · rw [hsplit]
    intro p hp
    refine ⟨Nat.le_trans (all_cons (by decide) (all_cons (by decide) hB) p hp) (by decide), fun q => ?_⟩
    refine (List.mem_cons.mp hp).elim (fun e => absurd (congrArg lst (e.symm.trans q)) (by decide)) fun hp => (List.mem_cons.mp hp).elim (fun e => absurd (congrArg lst (e.symm.trans q)) (by decide)) fun hp => ?_
    refine Exists.elim (pt hp) fun x hx => ?_
    rw [q] at hx
    exact ptL_free hd (show 46 ∈ ptL c x by rw [hx]; exact .head _)
  · rw [hsplit, kept_parts hd]
    exact parts_ok (a := 0) (b := 0) (c := 0) hz hk2 (by rw [List.length_cons, hn]; exact Nat.le_succ _) rfl
  · rw [hsplit, kept_parts hd]
    exact Nat.le_trans (short_join rfl hk2 hk3) (by decide)
  · rw [hsplit, kept_parts hd]; rfl
end Mine
end
section
open PySem PySem.W PySem.Calls PyProof.Rows
set_option Elab.async false
set_option maxRecDepth 100000
set_option linter.unusedVariables false
namespace Mine
/-! what law 2 builds, in plain words -/
noncomputable def sg2 (σ : Str) : Str := "\n" ++ σ
noncomputable def pcs (p0 : Str) (ins : List Str) (pl : Str) : List Str := p0 :: (ins ++ [pl])
noncomputable def bagP (σ : Str) (ps : List Str) (sz : Nat) : Str := tk (Txt.join "" ps ++ (sg2 σ ++ sg2 σ ++ sg2 σ)) sz
noncomputable def rowsP (σ : Str) (ps : List Str) (sz : Nat) : List Str := roP (bagP σ ps sz) (sg2 σ) (bagP σ ps sz).length
noncomputable def endB (p u : Str) : Bool := decide (lst p <:+ lst u)
noncomputable def firstsP (σ : Str) (sz : Nat) (p : Str) : List Str := (fiP (endB p) (sg2 σ) (sz + 1)).1
noncomputable def toldP (σ : Str) (sz : Nat) (p0 : Str) (ins : List Str) (pl : Str) : List (List Str) := [p0] :: (ins.map (firstsP σ sz) ++ [[pl]])
noncomputable def lfP (σ : Str) (told : List (List Str)) (i : Nat) (u : Str) : Bool := nmR (modsP (told.getD i []) σ i) (dirsP (told.getD i []) σ i) (some (fileP σ u)) (modP u σ) == 1
noncomputable def cutOf (σ : Str) (sz : Nat) (p0 : Str) (ins : List Str) (pl row : Str) : List Str := cutP (lfP σ (toldP σ sz p0 ins pl)) (ins.length + 2) row p0 pl
noncomputable def laidS (cut : List Str) : Str := Txt.join "" ([cut.getLastD ""] ++ (pick cut (some 1) (some (-2)) none).reverse ++ [cut.getD (cut.length - 2) "", cut.getD 0 ""])
/-- a short word over the two signs -/
noncomputable def W2 (σ : Str) (u : Str) : Prop := u.length ≤ 8 ∧ ∀ c ∈ lst u, c ∈ lst (sg2 σ)
/-- what the walk asks of the pieces -/
structure Facts2 (σ : Str) (p0 : Str) (ins : List Str) (pl : Str) (sz : Nat) : Prop where
  hσ : σ.length = 1
  n2 : 2 ≤ ins.length
  n3 : ins.length ≤ 3
  h4 : 4 ≤ sz
  h5 : sz ≤ 5
  len : ∀ p ∈ pcs p0 ins pl, p.length ≤ 2 ∧ ∀ c ∈ lst p, c ∈ lst (sg2 σ)
  l0 : p0.length ≤ 1
  ll : pl.length ≤ 1
  jp : ∀ ps : List Str, ps.length ≤ 8 → (∀ p ∈ ps, p.length ≤ 8) → JoinOk "" ps = true ∧ JoinOk "..." ps = true
  suf : ∀ p ∈ ins, ∀ u, u.length ≤ 8 → EmOk ("..." ++ p) u (endB p u)
  wok : ∀ u, W2 σ u → WordOk u σ
  minj : ∀ u v, W2 σ u → W2 σ v → modP u σ = modP v σ → u = v
  ks : ∃ KS : List Str, KS.length ≤ 100000 ∧ ∀ u, W2 σ u → modP u σ ∈ KS
end Mine
end
section
/-! words cut off at a piece, in plain lists -/
namespace Mine
namespace V
abbrev Wd := List Nat
variable {p c c' d r r' : Wd} {ps qs cs ds ins : List Wd}
theorem snoc_len {u : Wd} {i : Nat} (h : u.length = i + 1) : ∃ w c, u = w ++ [c] ∧ w.length = i :=
  ⟨u.dropLast, u.getLast (fun q => by rw [q] at h; cases h), (List.dropLast_concat_getLast _).symm, by rw [List.length_dropLast, h]; rfl⟩
/-- p ends c, and no shorter front of c -/
noncomputable def FW (p c : Wd) : Prop := p <:+ c ∧ ∀ d, d <+: c → p <:+ d → d = c
theorem fw_or (p r : Wd) : (∃ c r', r = c ++ r' ∧ FW p c) ∨ ¬ p <:+: r := by
  refine Classical.byCases .inr fun h => .inl ?_
  replace h := Classical.not_not.mp h
  obtain ⟨a, b, e⟩ := h
  have key : ∀ (n : Nat) (u v : Wd), u.length = n → u ++ v = r → p <:+ u → ∃ c r', r = c ++ r' ∧ FW p c := by
    intro n
    induction n using Nat.strongRecOn with
    | ind n ih =>
      intro u v hn hu hp
      refine Classical.byCases (p := ∃ d, d <+: u ∧ p <:+ d ∧ d ≠ u) (fun ⟨d, ⟨w, hw⟩, hd, hne⟩ => ?_) fun h => ⟨u, v, hu.symm, hp, fun d h1 h2 => Classical.not_not.mp fun q => h ⟨d, h1, h2, q⟩⟩
      refine ih d.length ?_ d (w ++ v) rfl (by rw [← List.append_assoc, hw]; exact hu) hd
      rw [← hn, ← hw, List.length_append]
      refine Nat.lt_add_of_pos_right (List.length_pos_iff.mpr fun q => hne ?_)
      rw [← hw, q, List.append_nil]
  exact key _ (a ++ p) b rfl e (List.suffix_append a p)
theorem FW.inf (h : FW p c) (r : Wd) : p <:+: c ++ r := h.1.isInfix.trans (List.prefix_append c r).isInfix
theorem FW.uniq (h : FW p c) (h' : FW p c') (e : c ++ r = c' ++ r') : c = c' ∧ r = r' := by
  have e2 : c = c' := (List.prefix_or_prefix_of_prefix (List.prefix_append c r) (e ▸ List.prefix_append c' r')).elim (fun q => h'.2 c q h.1) fun q => (h.2 c' q h'.1).symm
  exact ⟨e2, List.append_cancel_left (e2 ▸ e)⟩
/-- words, each cut off at its piece -/
inductive Cut : List Wd → List Wd → Prop
  | nil : Cut [] []
  | cons {p c : Wd} {ps cs : List Wd} : FW p c → Cut ps cs → Cut (p :: ps) (c :: cs)
theorem Cut.uniq (h : Cut ps cs) : ∀ {ds : List Wd} {x y : Wd}, Cut ps ds → cs.flatten ++ x = ds.flatten ++ y → cs = ds ∧ x = y := by
  induction h with
  | nil => intro ds x y h e; cases h; exact ⟨rfl, e⟩
  | cons h1 _ ih =>
    intro ds x y h e
    cases h with
    | cons h2 h =>
      rw [List.flatten_cons, List.flatten_cons, List.append_assoc, List.append_assoc] at e
      have u := h1.uniq h2 e
      have v := ih h u.2
      exact ⟨u.1 ▸ v.1 ▸ rfl, v.2⟩
theorem Cut.app (h : Cut ps cs) (k : Cut qs ds) : Cut (ps ++ qs) (cs ++ ds) := by
  induction h with
  | nil => exact k
  | cons h1 _ ih => exact .cons h1 ih
theorem Cut.rev (h : Cut ps cs) : Cut ps.reverse cs.reverse := by
  induction h with
  | nil => exact .nil
  | cons h1 _ ih => rw [List.reverse_cons, List.reverse_cons]; exact ih.app (.cons h1 .nil)
/-- a row taken by a pattern: how it is cut -/
noncomputable def Fits (p0 : Wd) (ins : List Wd) (pl row : Wd) (cs : List Wd) (rest : Wd) : Prop := Cut ins cs ∧ row = p0 ++ (cs.flatten ++ (rest ++ pl))
variable {p0 pl row row' rest rest' : Wd} {cs' : List Wd}
theorem Fits.uniq (h : Fits p0 ins pl row cs rest) (h' : Fits p0 ins pl row cs' rest') : cs = cs' ∧ rest = rest' := by
  have u := h.1.uniq h'.1 (List.append_cancel_left (h.2.symm.trans h'.2))
  exact ⟨u.1, List.append_cancel_right u.2⟩
theorem flat_rev (cs : List Wd) : cs.reverse.flatten.Perm cs.flatten := List.Perm.flatten (List.reverse_perm cs)
theorem Fits.turn (h : Fits p0 ins pl row cs rest) : Fits pl ins.reverse p0 (pl ++ (cs.reverse.flatten ++ (rest ++ p0))) cs.reverse rest := ⟨h.1.rev, rfl⟩
theorem Fits.turn' (h : Fits pl ins.reverse p0 row cs rest) : Fits p0 ins pl (p0 ++ (cs.reverse.flatten ++ (rest ++ pl))) cs.reverse rest := ⟨by have := h.1.rev; rwa [List.reverse_reverse] at this, rfl⟩
theorem swap_perm {a b x y : Wd} (h : x.Perm y) : (b ++ (x ++ (r ++ a))).Perm (a ++ (y ++ (r ++ b))) := by
  have k : ∀ {a b x : Wd}, (b ++ (x ++ (r ++ a))).Perm (x ++ (r ++ (a ++ b))) := fun {a b x} => by
    refine List.perm_append_comm.trans ?_
    rw [List.append_assoc, List.append_assoc]
  exact k.trans ((h.append (List.perm_append_comm.append_left r)).trans k.symm)
theorem Fits.perm (h : Fits p0 ins pl row cs rest) {cs' : List Wd} (hc : cs'.flatten.Perm cs.flatten) : (p0 ++ (cs'.flatten ++ (rest ++ pl))).Perm row := by
  rw [h.2]; exact (hc.append_right _).append_left _
/-! a piece turned round -/
noncomputable def turn (p c : Wd) : Wd := if p = p.reverse then c else (c.take (c.length - p.length)).reverse ++ p.reverse
theorem turn_app {d : Wd} (h : p ≠ p.reverse) : turn p (d ++ p) = d.reverse ++ p.reverse := by
  unfold turn
  rw [if_neg h, List.length_append, Nat.add_sub_cancel, List.take_left]
theorem FW.turn_inj (h : FW p c) (h' : FW p c') (e : turn p c = turn p c') : c = c' := by
  by_cases hp : p = p.reverse
  · unfold turn at e; rwa [if_pos hp, if_pos hp] at e
  · obtain ⟨d, rfl⟩ := h.1
    obtain ⟨d', rfl⟩ := h'.1
    rw [turn_app hp, turn_app hp] at e
    rw [List.reverse_inj.mp (List.append_cancel_right e)]
theorem fw_two {a b : Nat} (h : a ≠ b) {d : Wd} : FW [a, b] (d ++ [a, b]) ↔ ¬ [a, b] <:+: d := by
  constructor
  · intro hf hi
    obtain ⟨x, y, e⟩ := hi
    have := hf.2 (x ++ [a, b]) (by rw [← e]; exact (List.prefix_append (x ++ [a, b]) y).trans (List.prefix_append _ _)) (List.suffix_append _ _)
    have h2 := congrArg List.length this
    rw [← e, List.length_append, List.length_append, List.length_append, List.length_append] at h2
    exact absurd h2 (Nat.ne_of_lt (Nat.lt_of_le_of_lt (Nat.le_add_right _ y.length) (Nat.lt_add_of_pos_right (Nat.zero_lt_succ 1))))
  · intro hn
    refine ⟨List.suffix_append _ _, fun e he hs => ?_⟩
    rw [show d ++ [a, b] = (d ++ [a]) ++ [b] by rw [List.append_assoc]; rfl] at he ⊢
    rcases List.prefix_concat_iff.mp he with q | he
    · exact q
    · rcases List.prefix_concat_iff.mp he with q | he
      · rw [q] at hs
        obtain ⟨x, hx⟩ := hs
        rw [show x ++ [a, b] = (x ++ [a]) ++ [b] by rw [List.append_assoc]; rfl] at hx
        have := List.append_inj_right' hx rfl
        injection this with this
        exact absurd this.symm h
      · exact absurd (hs.isInfix.trans he.isInfix) hn
theorem two_of (h2 : p.length ≤ 2) (hp : p ≠ p.reverse) : ∃ a b, p = [a, b] ∧ a ≠ b := by
  match p, h2, hp with
  | [], _, hp => exact absurd rfl hp
  | [a], _, hp => exact absurd rfl hp
  | [a, b], _, hp => exact ⟨a, b, rfl, fun q => hp (q ▸ rfl)⟩
theorem FW.turned (h : FW p c) (h2 : p.length ≤ 2) : FW p.reverse (turn p c) ∧ (turn p c).Perm c := by
  by_cases hp : p = p.reverse
  · have e : turn p c = c := if_pos hp
    rw [e, ← hp]; exact ⟨h, .refl _⟩
  · obtain ⟨d, rfl⟩ := h.1
    rw [turn_app hp]
    refine ⟨?_, (List.reverse_perm d).append (List.reverse_perm p)⟩
    obtain ⟨a, b, rfl, hab⟩ := two_of h2 hp
    show FW [b, a] (d.reverse ++ [b, a])
    refine (fw_two hab.symm).mpr fun q => (fw_two hab).mp h ?_
    have := List.reverse_infix.mpr q
    rwa [List.reverse_reverse] at this
theorem Cut.turned (h : Cut ps cs) : (∀ p ∈ ps, p.length ≤ 2) → Cut (ps.map List.reverse) (List.zipWith turn ps cs) ∧ (List.zipWith turn ps cs).flatten.Perm cs.flatten := by
  induction h with
  | nil => exact fun _ => ⟨.nil, .refl _⟩
  | cons h1 _ ih =>
    intro hp
    have a := h1.turned (hp _ (.head _))
    have b := ih fun p h => hp p (.tail _ h)
    exact ⟨.cons a.1 b.1, a.2.append b.2⟩
theorem Cut.turn_inj (h : Cut ps cs) : ∀ {ds : List Wd}, Cut ps ds → List.zipWith turn ps cs = List.zipWith turn ps ds → cs = ds := by
  induction h with
  | nil => intro ds h _; cases h; rfl
  | cons h1 _ ih =>
    intro ds h e
    cases h with
    | cons h2 h =>
      injection e with e1 e2
      rw [h1.turn_inj h2 e1, ih h e2]
end V
end Mine
end
section
open PySem PySem.W PySem.Calls PyProof.Rows
open PySem.StrLaws Builtin
set_option Elab.async false
set_option maxRecDepth 100000
set_option linter.unusedVariables false
namespace Mine
open V
/-! _ellipsis_match takes a row just if it can be cut -/
theorem at_cut {got y : Str} {a u b : List Nat} (hg : lst got = a ++ (u ++ b)) {m : Nat} (hm : a.length ≤ m) : At got y (a.length + u.length) m ↔ ∃ d e, u = d ++ (lst y ++ e) ∧ m = a.length + d.length := by
  obtain ⟨t, rfl⟩ := Nat.exists_eq_add_of_le hm
  rw [at_iff, hg, List.drop_length_add_append, Nat.add_assoc]
  constructor
  · rintro ⟨h1, h2⟩
    have h1 := Nat.le_of_add_le_add_left h1
    have ht : t ≤ u.length := Nat.le_trans (Nat.le_add_right _ _) h1
    rw [List.drop_append_of_le_length ht, List.take_append_of_le_length (by rw [List.length_drop]; exact Nat.le_sub_of_add_le (by rw [Nat.add_comm]; exact h1))] at h2
    refine ⟨u.take t, (u.drop t).drop y.length, ?_, by rw [List.length_take, Nat.min_eq_left ht]⟩
    rw [← h2, List.take_append_drop, List.take_append_drop]
  · rintro ⟨d, e, rfl, h⟩
    rw [Nat.add_left_cancel h]
    refine ⟨Nat.add_le_add_left ?_ _, ?_⟩
    · rw [List.length_append, List.length_append, len_lst y, ← Nat.add_assoc]; exact Nat.le_add_right _ _
    · rw [List.append_assoc, List.drop_left, List.append_assoc, len_lst y, List.take_left]
theorem emGo_cut {got : Str} {hi : Nat} {b : List Nat} {tail : List Str} (hh : hi ≤ got.length) (ht : ∀ i : Nat, i ≤ hi → emGo got (hi : Int) tail (i : Int) = true) : ∀ (ins : List Str) (a u : List Nat), lst got = a ++ (u ++ b) → hi = a.length + u.length → (emGo got (hi : Int) (ins ++ tail) (a.length : Int) = true ↔ ∃ cs rest, Cut (ins.map lst) cs ∧ u = cs.flatten ++ rest) := by
  intro ins
  induction ins with
  | nil => exact fun a u hg he => ⟨fun _ => ⟨[], u, .nil, rfl⟩, fun _ => ht _ (he ▸ Nat.le_add_right _ _)⟩
  | cons y ins ih =>
    intro a u hg he
    rcases fw_or (lst y) u with ⟨c, r, rfl, hc⟩ | hno
    · obtain ⟨d, hd⟩ := id hc.1
      have hg2 : lst got = (a ++ c) ++ (r ++ b) := by rw [hg, List.append_assoc, List.append_assoc]
      have he2 : hi = (a ++ c).length + r.length := by rw [he, List.length_append, List.length_append, Nat.add_assoc]
      have hm : a.length + d.length + y.length = (a ++ c).length := by rw [List.length_append, ← hd, List.length_append, len_lst y, Nat.add_assoc]
      rw [List.cons_append, emGo_find (m := a.length + d.length) hh (Nat.le_add_right _ _) (he ▸ (at_cut hg (Nat.le_add_right _ _)).mpr ⟨d, r, by rw [← hd, List.append_assoc], rfl⟩) ?_, hm]
      · refine (ih (a ++ c) r hg2 he2).trans ⟨fun ⟨cs, rest, h1, h2⟩ => ⟨c :: cs, rest, .cons hc h1, by rw [h2, List.flatten_cons, List.append_assoc]⟩, fun ⟨cs, rest, h1, h2⟩ => ?_⟩
        cases h1 with
        | cons h3 h4 =>
          rw [List.flatten_cons, List.append_assoc] at h2
          exact ⟨_, rest, h4, (hc.uniq h3 h2).2⟩
      · intro m' h1 h2 h3
        obtain ⟨d', e, h4, rfl⟩ := (at_cut hg h1).mp (he ▸ h3)
        have h5 := Nat.lt_of_add_lt_add_left h2
        have hp : d' ++ lst y <+: c := by
          refine List.prefix_of_prefix_length_le (l₃ := c ++ r) ⟨e, by rw [h4, List.append_assoc]⟩ (List.prefix_append c r) ?_
          rw [← hd, List.length_append, List.length_append]
          exact Nat.add_le_add_right (Nat.le_of_lt h5) _
        have h6 := congrArg List.length (hc.2 _ hp (List.suffix_append _ _))
        rw [← hd, List.length_append, List.length_append] at h6
        exact absurd (Nat.add_right_cancel h6) (Nat.ne_of_lt h5)
    · rw [List.cons_append, emGo_none hh fun m hm h => ?_]
      · refine ⟨fun h => absurd h Bool.false_ne_true, fun ⟨cs, rest, h1, h2⟩ => ?_⟩
        cases h1 with
        | cons h3 h4 =>
          rw [List.flatten_cons, List.append_assoc] at h2
          exact absurd (h2 ▸ h3.inf _) hno
      · obtain ⟨d, e, h4, _⟩ := (at_cut hg hm).mp (he ▸ h)
        exact hno ⟨d, e, by rw [h4, List.append_assoc]⟩
theorem emGo_nil {x y : Str} {i j : Nat} {ys : List Str} (hj : j ≤ x.length) (h : i ≤ j) (hy : y.length = 0) : emGo x j (y :: ys) i = emGo x j ys i := by
  rw [nil_of_len hy]; exact emGo_empty hj h
theorem emC_2 {got p0 pl : Str} {ws1 ws2 : List Str} (hz : p0.length + pl.length ≤ got.length) (hnl : (pl.length != 0 && !Txt.endswith got pl) = false) (h : (if pl.length != 0 then ws1.dropLast else ws1) = ws2) : emC got p0.length ws1 pl = emGo got ((got.length - pl.length : Nat) : Int) ws2 (p0.length : Int) :=
  (emC_1 hnl h).trans (emIf hz rfl)
theorem not_ne {n : Nat} (h : n = 0) : ¬ (n != 0) = true := by rw [h]; decide
theorem not_and {y : Str} {n : Bool} (h : y.length ≠ 0) (hn : n = false) : (y.length != 0 && !n) = true := by rw [ne_of_len h, hn]; rfl
theorem emW_z {got p0 pl : Str} {ins : List Str} (hn0 : (p0.length != 0 && !Txt.startswith got p0) = false) (z0 : p0.length = 0) : emW (p0 :: (ins ++ [pl])) got = emC got p0.length ((p0 :: ins) ++ [pl]) pl :=
  emW_1 hn0 (if_neg (not_ne z0)) (List.append_ne_nil_of_right_ne_nil _ (List.cons_ne_nil _ _)) (List.getLast_concat (l := p0 :: ins))
theorem emW_p {got p0 pl : Str} {ins : List Str} (hn0 : (p0.length != 0 && !Txt.startswith got p0) = false) (z0 : p0.length ≠ 0) : emW (p0 :: (ins ++ [pl])) got = emC got p0.length (ins ++ [pl]) pl :=
  emW_1 hn0 (if_pos (ne_of_len z0)) (List.append_ne_nil_of_right_ne_nil _ (List.cons_ne_nil _ _)) List.getLast_concat
theorem em_cut {got p0 pl : Str} {ins : List Str} (hz : p0.length + pl.length ≤ got.length) : emW (p0 :: (ins ++ [pl])) got = true ↔ ∃ cs rest, Fits (lst p0) (ins.map lst) (lst pl) (lst got) cs rest := by
  by_cases h0 : lst p0 <+: lst got
  · by_cases hl : lst pl <:+ lst got
    · obtain ⟨x, hx⟩ := h0
      have hl2 : lst pl <:+ x := by
        refine List.suffix_of_suffix_length_le hl ⟨lst p0, hx⟩ ?_
        have := congrArg List.length hx
        rw [List.length_append, ← len_lst, ← len_lst] at this
        rw [← this] at hz
        rw [← len_lst]; exact Nat.le_of_add_le_add_left hz
      obtain ⟨u, rfl⟩ := hl2
      have hn0 : (p0.length != 0 && !Txt.startswith got p0) = false := by rw [starts_iff, decide_eq_true ⟨u ++ lst pl, hx⟩]; exact Bool.and_false _
      have hnl : (pl.length != 0 && !Txt.endswith got pl) = false := by rw [ends_iff, decide_eq_true hl]; exact Bool.and_false _
      have hgl : got.length = (p0.length + u.length) + pl.length := by rw [len_lst got, ← hx, List.length_append, List.length_append, len_lst p0, len_lst pl, Nat.add_assoc]
      have hi : got.length - pl.length = p0.length + u.length := by rw [hgl, Nat.add_sub_cancel]
      have hh : p0.length + u.length ≤ got.length := by rw [hgl]; exact Nat.le_add_right _ _
      have key : ∀ tail : List Str, (∀ i : Nat, i ≤ p0.length + u.length → emGo got ((p0.length + u.length : Nat) : Int) tail (i : Int) = true) → (emGo got ((got.length - pl.length : Nat) : Int) (ins ++ tail) (p0.length : Int) = true ↔ ∃ cs rest, Fits (lst p0) (ins.map lst) (lst pl) (lst got) cs rest) := fun tail ht => by
        rw [hi, len_lst p0]
        refine (emGo_cut (b := lst pl) (len_lst p0 ▸ hh) (by rw [← len_lst p0]; exact ht) ins (lst p0) u hx.symm rfl).trans ⟨fun ⟨cs, rest, h1, h2⟩ => ⟨cs, rest, h1, by rw [← hx, h2, List.append_assoc]⟩, fun ⟨cs, rest, h1, h2⟩ => ⟨cs, rest, h1, ?_⟩⟩
        rw [← hx, ← List.append_assoc cs.flatten] at h2
        exact List.append_cancel_right (List.append_cancel_left h2)
      have k0 := key [] fun _ _ => rfl
      rw [List.append_nil] at k0
      have hpi : p0.length ≤ got.length - pl.length := by rw [hi]; exact Nat.le_add_right _ _
      by_cases z0 : p0.length = 0
      · rw [emW_z hn0 z0]
        by_cases zl : pl.length = 0
        · rw [emC_2 hz hnl (if_neg (not_ne zl)), List.cons_append, emGo_nil (Nat.sub_le _ _) hpi z0]
          exact key [pl] fun i h => emGo_nil hh h zl
        · rw [emC_2 hz hnl (if_pos (ne_of_len zl)), List.dropLast_concat, emGo_nil (Nat.sub_le _ _) hpi z0]
          exact k0
      · rw [emW_p hn0 z0]
        by_cases zl : pl.length = 0
        · rw [emC_2 hz hnl (if_neg (not_ne zl))]
          exact key [pl] fun i h => emGo_nil hh h zl
        · rw [emC_2 hz hnl (if_pos (ne_of_len zl)), List.dropLast_concat]
          exact k0
    · have zl : pl.length ≠ 0 := fun q => hl (by rw [nil_of_len q]; exact List.nil_suffix)
      refine ⟨fun h => ?_, fun ⟨cs, rest, h1, h2⟩ => absurd ⟨lst p0 ++ (cs.flatten ++ rest), by rw [h2, List.append_assoc, List.append_assoc]⟩ hl⟩
      have hn0 : (p0.length != 0 && !Txt.startswith got p0) = false := by rw [starts_iff, decide_eq_true h0]; exact Bool.and_false _
      have hnl := not_and zl (show Txt.endswith got pl = false by rw [ends_iff]; exact decide_eq_false hl)
      by_cases z0 : p0.length = 0
      · rw [emW_z hn0 z0, emC_no hnl] at h
        cases h
      · rw [emW_p hn0 z0, emC_no hnl] at h
        cases h
  · have z0 : p0.length ≠ 0 := fun q => h0 (by rw [nil_of_len q]; exact List.nil_prefix)
    refine ⟨fun h => ?_, fun ⟨cs, rest, h1, h2⟩ => absurd ⟨_, h2.symm⟩ h0⟩
    exact absurd ((emW_no1 (not_and z0 (show Txt.startswith got p0 = false by rw [starts_iff]; exact decide_eq_false h0))).symm.trans h) Bool.false_ne_true
end Mine
end
section
open PySem PySem.W PySem.Calls PyProof.Rows
set_option Elab.async false
set_option maxRecDepth 100000
set_option linter.unusedVariables false
namespace Mine
open V
/-! the readers' cut -/
theorem lst_tk (r : Str) (k : Nat) : lst (tk r k) = (lst r).take k := pick_upto (lst r) k
theorem lst_dr (r : Str) (k : Nat) : lst (dr r k) = (lst r).drop k := pick_from (lst r) k
theorem lst_revS (r : Str) : lst (revS r) = (lst r).reverse := pick_rev (lst r)
theorem lst_restOf {row p0 pl : Str} {u : List Nat} (h : lst row = lst p0 ++ (u ++ lst pl)) : restOf row p0 pl = ofL u := by
  refine lst_inj ?_
  have hl : row.length = (p0.length + u.length) + pl.length := by rw [len_lst row, h, List.length_append, List.length_append, len_lst p0, len_lst pl, Nat.add_assoc]
  show pick (lst row) (some (p0.length : Int)) (some ((row.length : Int) - (pl.length : Int))) none = u
  rw [sub_cast (hl ▸ Nat.le_add_left _ _), pick_range, hl, Nat.add_sub_cancel, Nat.add_sub_cancel_left, h, len_lst p0, List.drop_left, List.take_left]
theorem inf_front {p x : List Nat} (h : p <:+: x) : ∃ d, d <+: x ∧ p <:+ d := by
  obtain ⟨a, b, e⟩ := h
  exact ⟨a ++ p, ⟨b, e⟩, List.suffix_append _ _⟩
variable {f : Str → Bool} {p : Str} {c x : List Nat}
theorem fst_yes (hf : ∀ k, f (tk (ofL (c ++ x)) k) = decide (lst p <:+: (c ++ x).take k)) (h : FW (lst p) c) : fstK f (ofL (c ++ x)) = c.length := by
  have hcx : c.length ≤ (c ++ x).length := by rw [List.length_append]; exact Nat.le_add_right _ _
  refine fstK_of (by rw [len_lst]; exact hcx) (by rw [hf, List.take_left]; exact decide_eq_true h.1.isInfix) fun j hj => ?_
  rw [hf]
  refine decide_eq_false fun q => ?_
  obtain ⟨d, hd, hp⟩ := inf_front q
  rw [List.take_append_of_le_length (Nat.le_of_lt hj)] at hd
  have e := h.2 d (hd.trans (List.take_prefix _ _)) hp
  have := hd.length_le
  rw [e, List.length_take] at this
  exact absurd (Nat.le_trans this (Nat.min_le_left _ _)) (Nat.not_le_of_lt hj)
theorem fst_no (hf : ∀ k, f (tk (ofL x) k) = decide (lst p <:+: x.take k)) (h : ¬ lst p <:+: x) : ¬ fstK f (ofL x) ≤ (ofL x).length := fun q => by
  have := fstK_yes q
  rw [hf] at this
  exact h ((of_decide_eq_true this).trans (List.take_prefix _ _).isInfix)
theorem V.Cut.snoc {ps : List Wd} {p : Wd} {cs : List Wd} (h : Cut (ps ++ [p]) cs) : ∃ cs' c, cs = cs' ++ [c] ∧ Cut ps cs' ∧ FW p c := by
  have h2 := h.rev
  rw [List.reverse_append] at h2
  generalize e : cs.reverse = ds at h2
  cases h2 with
  | cons h3 h4 =>
    have e2 := congrArg List.reverse e
    rw [List.reverse_reverse, List.reverse_cons] at e2
    have h5 := Cut.rev (ps := ps.reverse) h4
    rw [List.reverse_reverse] at h5
    exact ⟨_, _, e2, h5, h3⟩
variable {lf : Nat → Str → Bool} {p0 pl : Str} {ins : List Str} {u : List Nat}
theorem cutS_yes (hm : ∀ i p, ins[i]? = some p → ∀ v : Str, lst v <:+: u → lf (i + 1) v = decide (lst p <:+: lst v)) (i : Nat) : i ≤ ins.length → ∀ (cs : List Wd) (x : List Nat), Cut ((ins.take i).map lst) cs → u = cs.flatten ++ x → (∀ j, j < i → okS lf p0 (ofL u) j = true) ∧ cutS lf p0 (ofL u) i = (p0 :: cs.map ofL, ofL x) := by
  induction i with
  | zero => intro _ cs x h e; cases h; exact ⟨fun j h => absurd h (Nat.not_lt_zero _), by rw [e]; rfl⟩
  | succ i ih =>
    intro hi cs x h e
    rw [List.take_succ_eq_append_getElem hi, List.map_append] at h
    obtain ⟨cs', c, rfl, h1, h2⟩ := h.snoc
    have e2 : u = cs'.flatten ++ (c ++ x) := by rw [e, List.flatten_append, List.append_assoc]; show _ = _ ++ (c ++ x); rw [List.flatten_singleton]
    have k := ih (Nat.le_of_lt hi) cs' (c ++ x) h1 e2
    have hf : ∀ k, lf (i + 1) (tk (ofL (c ++ x)) k) = decide (lst ins[i] <:+: (c ++ x).take k) := fun k => by
      rw [hm i _ (List.getElem?_eq_getElem hi) _ (by rw [lst_tk, e2]; exact (List.take_prefix _ _).isInfix.trans (List.suffix_append _ _).isInfix), lst_tk]
    have hk := fst_yes hf h2
    have hok : okS lf p0 (ofL u) i = true := by
      unfold okS
      rw [k.2]
      refine decide_eq_true ?_
      show fstK (lf (i + 1)) (ofL (c ++ x)) ≤ (ofL (c ++ x)).length
      rw [hk, len_lst]
      show c.length ≤ (c ++ x).length
      rw [List.length_append]; exact Nat.le_add_right _ _
    refine ⟨fun j hj => (Nat.lt_or_eq_of_le (Nat.le_of_lt_succ hj)).elim (k.1 j) fun q => q ▸ hok, ?_⟩
    show ((cutS lf p0 (ofL u) i).1 ++ [tk (cutS lf p0 (ofL u) i).2 (fstK (lf (i + 1)) (cutS lf p0 (ofL u) i).2)], dr (cutS lf p0 (ofL u) i).2 (fstK (lf (i + 1)) (cutS lf p0 (ofL u) i).2)) = _
    rw [k.2]
    show (p0 :: (cs'.map ofL ++ [tk (ofL (c ++ x)) (fstK (lf (i + 1)) (ofL (c ++ x)))]), dr (ofL (c ++ x)) (fstK (lf (i + 1)) (ofL (c ++ x)))) = _
    rw [hk, List.map_append, show tk (ofL (c ++ x)) c.length = ofL c from lst_inj (by rw [lst_tk]; exact List.take_left), show dr (ofL (c ++ x)) c.length = ofL x from lst_inj (by rw [lst_dr]; exact List.drop_left)]
    rfl
theorem cutS_no (hm : ∀ i p, ins[i]? = some p → ∀ v : Str, lst v <:+: u → lf (i + 1) v = decide (lst p <:+: lst v)) (i : Nat) : i ≤ ins.length → (∀ j, j < i → okS lf p0 (ofL u) j = true) → ∃ cs x, Cut ((ins.take i).map lst) cs ∧ u = cs.flatten ++ x := by
  induction i with
  | zero => exact fun _ _ => ⟨[], u, .nil, rfl⟩
  | succ i ih =>
    intro hi hj
    obtain ⟨cs, x, h1, h2⟩ := ih (Nat.le_of_lt hi) fun j h => hj j (Nat.lt_succ_of_lt h)
    have k := (cutS_yes (p0 := p0) hm i (Nat.le_of_lt hi) cs x h1 h2).2
    rcases fw_or (lst ins[i]) x with ⟨c, y, e, hc⟩ | hno
    · refine ⟨cs ++ [c], y, ?_, ?_⟩
      · rw [List.take_succ_eq_append_getElem hi, List.map_append]
        exact h1.app (.cons hc .nil)
      · rw [h2, e, List.flatten_append, List.append_assoc, List.flatten_singleton]
    · have h := hj i (Nat.lt_succ_self i)
      unfold okS at h
      rw [k] at h
      refine absurd (of_decide_eq_true h) (fst_no (p := ins[i]) (fun k => ?_) hno)
      rw [hm i _ (List.getElem?_eq_getElem hi) _ (by rw [lst_tk, h2]; exact (List.take_prefix _ _).isInfix.trans (List.suffix_append _ _).isInfix), lst_tk]
/-- what the readers must tell of a row -/
structure Tells (lf : Nat → Str → Bool) (p0 : Str) (ins : List Str) (pl row : Str) : Prop where
  a : lf 0 row = decide (lst p0 <+: lst row)
  b : lf (ins.length + 1) (revS row) = decide (lst pl <:+ lst row)
  m : ∀ i p, ins[i]? = some p → ∀ v : Str, lst v <:+: lst row → lf (i + 1) v = decide (lst p <:+: lst v)
variable {row : Str}
theorem cut_yes (T : Tells lf p0 ins pl row) {cs : List Wd} {rest : List Nat} (h : Fits (lst p0) (ins.map lst) (lst pl) (lst row) cs rest) : cutP lf (ins.length + 2) row p0 pl = p0 :: (cs.map ofL ++ [ofL rest, pl]) := by
  have h2 : lst row = lst p0 ++ ((cs.flatten ++ rest) ++ lst pl) := by rw [h.2, List.append_assoc]
  have k := cutS_yes (p0 := p0) (lf := lf) (ins := ins) (u := cs.flatten ++ rest) (fun i p hi v hv => T.m i p hi v (hv.trans ⟨lst p0, lst pl, by rw [h2, List.append_assoc]⟩)) ins.length (Nat.le_refl _) cs rest (by rw [List.take_length]; exact h.1) rfl
  unfold cutP
  rw [lst_restOf h2, show ins.length + 2 - 1 = ins.length + 1 from rfl, show ins.length + 2 - 2 = ins.length from rfl, T.a, T.b, decide_eq_true ⟨_, h.2.symm⟩, decide_eq_true (show lst pl <:+ lst row from ⟨lst p0 ++ (cs.flatten ++ rest), by rw [h2, List.append_assoc]⟩), if_neg (by decide), if_pos (List.all_eq_true.mpr fun j hj => k.1 j (List.mem_range.mp hj)), k.2]
  rfl
theorem cut_no (T : Tells lf p0 ins pl row) (hz : p0.length + pl.length ≤ row.length) (h : cutP lf (ins.length + 2) row p0 pl ≠ []) : ∃ cs rest, Fits (lst p0) (ins.map lst) (lst pl) (lst row) cs rest := by
  unfold cutP at h
  rw [show ins.length + 2 - 1 = ins.length + 1 from rfl, show ins.length + 2 - 2 = ins.length from rfl, T.a, T.b] at h
  by_cases h0 : lst p0 <+: lst row
  · by_cases h1 : lst pl <:+ lst row
    · obtain ⟨x, hx⟩ := id h0
      have hl2 : lst pl <:+ x := by
        refine List.suffix_of_suffix_length_le h1 ⟨lst p0, hx⟩ ?_
        have := congrArg List.length hx
        rw [List.length_append, ← len_lst, ← len_lst] at this
        rw [← this] at hz
        rw [← len_lst]; exact Nat.le_of_add_le_add_left hz
      obtain ⟨u, rfl⟩ := hl2
      rw [lst_restOf hx.symm] at h
      by_cases ha : (List.range ins.length).all (okS lf p0 (ofL u)) = true
      · obtain ⟨cs, rest, h2, h3⟩ := cutS_no (p0 := p0) (lf := lf) (ins := ins) (u := u) (fun i p hi v hv => T.m i p hi v (hv.trans ⟨lst p0, lst pl, by rw [← hx, List.append_assoc]⟩)) ins.length (Nat.le_refl _) fun j hj => List.all_eq_true.mp ha j (List.mem_range.mpr hj)
        rw [List.take_length] at h2
        exact ⟨cs, rest, h2, by rw [← hx, h3, List.append_assoc]⟩
      · rw [if_neg ha] at h
        exact absurd (ite_self _) h
    · rw [decide_eq_false h1, Bool.not_false, Bool.or_true, if_pos rfl] at h
      exact absurd rfl h
  · rw [decide_eq_false h0, Bool.not_false, Bool.true_or, if_pos rfl] at h
    exact absurd rfl h
end Mine
end
section
open PySem PySem.W PySem.Calls PyProof.Rows
set_option Elab.async false
set_option maxRecDepth 100000
set_option linter.unusedVariables false
namespace Mine
open V
/-! the rows: closed under a change of order, and in order -/
theorem cnt_count (c : Nat) (l : List Nat) : cnt c l = (l.count c : Int) := by
  induction l with
  | nil => rfl
  | cons x l ih =>
    rw [cnt_cons, ih, List.count_cons]
    by_cases h : x = c
    · rw [if_pos h, if_pos (beq_iff_eq.mpr h), Int.add_comm]; rfl
    · rw [if_neg h, if_neg fun q => h (beq_iff_eq.mp q), Int.zero_add]; rfl
theorem cnt_lt (x y : Str) (c : Nat) : decide (Txt.count x (sgn c) < Txt.count y (sgn c)) = decide ((lst x).count c < (lst y).count c) := by
  unfold sgn
  rw [count_cnt, count_cnt, cnt_count, cnt_count]
  exact decide_eq_decide.mpr Int.ofNat_lt
theorem chrs_mem {s c : Str} : c ∈ chrs s ↔ ∃ x ∈ lst s, c = sgn x := List.mem_map.trans ⟨fun ⟨x, h, e⟩ => ⟨x, h, e.symm⟩, fun ⟨x, h, e⟩ => ⟨x, h, e.symm⟩⟩
theorem count_snoc {w : List Nat} {x d : Nat} : (w ++ [x]).count d = w.count d + if x = d then 1 else 0 := by
  rw [List.count_append, List.count_singleton]
  by_cases h : x = d
  · rw [if_pos h, if_pos (beq_iff_eq.mpr h)]
  · rw [if_neg h, if_neg fun q => h (beq_iff_eq.mp q)]
variable {bag signs : Str}
theorem ro_mem (i : Nat) : ∀ u : Str, u ∈ roP bag signs i ↔ (lst u).length = i ∧ (∀ c ∈ lst u, c ∈ lst signs) ∧ ∀ c ∈ lst signs, (lst u).count c ≤ (lst bag).count c := by
  induction i with
  | zero => exact fun u => List.mem_singleton.trans ⟨fun h => h ▸ ⟨rfl, fun c h => absurd h List.not_mem_nil, fun c _ => Nat.zero_le _⟩, fun h => lst_inj (List.length_eq_zero_iff.mp h.1)⟩
  | succ i ih =>
    refine fun u => mem_lenP.trans ⟨?_, ?_⟩
    · rintro ⟨w, hw, c, hc, ht, rfl⟩
      obtain ⟨x, hx, rfl⟩ := chrs_mem.mp hc
      obtain ⟨h1, h2, h3⟩ := (ih w).mp hw
      rw [cnt_lt] at ht
      rw [lst_app, lst_sgn]
      refine ⟨by rw [List.length_append, h1]; rfl, fun c h => (List.mem_append.mp h).elim (h2 c) fun q => List.mem_singleton.mp q ▸ hx, fun d hd => ?_⟩
      rw [count_snoc]
      by_cases e : x = d
      · rw [if_pos e, ← e]; exact of_decide_eq_true ht
      · rw [if_neg e]; exact h3 d hd
    · rintro ⟨h1, h2, h3⟩
      obtain ⟨w, x, e, hw⟩ := V.snoc_len h1
      rw [e] at h2 h3
      have hx : x ∈ lst signs := h2 x (List.mem_append_right _ (.head _))
      refine ⟨ofL w, (ih _).mpr ⟨hw, fun c h => h2 c (List.mem_append_left _ h), fun d hd => Nat.le_trans (Nat.le_add_right _ _) (count_snoc ▸ h3 d hd)⟩, sgn x, chrs_mem.mpr ⟨x, hx, rfl⟩, ?_, lst_inj (by rw [lst_app, e]; rfl)⟩
      rw [cnt_lt]
      have := h3 x hx
      rw [count_snoc, if_pos rfl] at this
      exact decide_eq_true this
theorem ro_perm {i : Nat} {u v : Str} (h : u ∈ roP bag signs i) (hp : (lst v).Perm (lst u)) : v ∈ roP bag signs i := by
  obtain ⟨h1, h2, h3⟩ := (ro_mem i u).mp h
  exact (ro_mem i v).mpr ⟨hp.length_eq.trans h1, fun c hc => h2 c (hp.mem_iff.mp hc), fun c hc => (hp.count_eq c).symm ▸ h3 c hc⟩
noncomputable def LtL (a b : List Nat) : Prop := ∃ p x y s t, a = p ++ x :: s ∧ b = p ++ y :: t ∧ x < y
theorem LtL.app {a b : List Nat} (c d : List Nat) (h : LtL a b) : LtL (a ++ c) (b ++ d) := by
  obtain ⟨p, x, y, s, t, e1, e2, h⟩ := h
  exact ⟨p, x, y, s ++ c, t ++ d, by rw [e1, List.append_assoc]; rfl, by rw [e2, List.append_assoc]; rfl, h⟩
theorem LtL.lt {a b : List Nat} (h : LtL a b) : a < b := by
  obtain ⟨p, x, y, s, t, rfl, rfl, h⟩ := h
  induction p with
  | nil => exact List.Lex.rel h
  | cons c p ih => exact List.Lex.cons ih
theorem ro_sorted (hs : (lst signs).Pairwise (· < ·)) (i : Nat) : (roP bag signs i).Pairwise fun a b => LtL (lst a) (lst b) := by
  induction i with
  | zero => exact List.pairwise_singleton _ _
  | succ i ih =>
    refine List.pairwise_flatMap.mpr ⟨fun w _ => ?_, ih.imp fun {a b} hab x hx y hy => ?_⟩
    · refine List.pairwise_map.mpr (List.Pairwise.filter _ (List.pairwise_map.mpr (hs.imp fun {a b} h => ?_)))
      rw [lst_app, lst_app]
      exact ⟨lst w, a, b, [], [], rfl, rfl, h⟩
    · obtain ⟨c, _, rfl⟩ := List.mem_map.mp hx
      obtain ⟨d, _, rfl⟩ := List.mem_map.mp hy
      rw [lst_app, lst_app]
      exact hab.app _ _
theorem rising_pw {ss : List Str} : ∀ {p : Str}, risingS p ss = true → (p :: ss).Pairwise fun a b => lst a ≤ lst b := by
  induction ss with
  | nil => exact fun _ => List.pairwise_singleton _ _
  | cons x ss ih =>
    intro p h
    have h1 := (Bool.and_eq_true_iff.mp h).1
    have h2 := ih (Bool.and_eq_true_iff.mp h).2
    have h3 : lst p ≤ lst x := by
      rw [ltCps_eq] at h1
      exact of_decide_eq_false ((Bool.not_eq_true' _).mp h1)
    refine List.pairwise_cons.mpr ⟨fun y hy => (List.mem_cons.mp hy).elim (fun e => e ▸ h3) fun hy => List.le_trans h3 ((List.pairwise_cons.mp h2).1 y hy), h2⟩
theorem sorted_eq {ss T : List Str} (hp : ss.Perm T) (hs : sortedS ss = true) (hT : T.Pairwise fun a b => LtL (lst a) (lst b)) : ss = T := by
  refine hp.eq_of_pairwise (le := fun a b => lst a ≤ lst b) (fun a b _ _ h1 h2 => lst_inj (List.le_antisymm h1 h2)) ?_ (hT.imp fun h => List.le_of_lt h.lt)
  cases ss with
  | nil => exact .nil
  | cons x ss => exact rising_pw hs
end Mine
end
section
open PySem PySem.W PySem.Calls PyProof.Rows
open PySem.StrLaws Builtin
set_option Elab.async false
set_option maxRecDepth 100000
set_option linter.unusedVariables false
namespace Mine
open V
/-! what a reader tells -/
theorem norm_eq {p r : Str} (h : NormOk p r) : normP p = r := by
  obtain ⟨comps, _, _, _, _, _, h7, _, _, _, _, h12⟩ := h.ex
  unfold normP
  rw [h7, h12]
theorem nm_one {a b : List Str} {f : Option Str} {m : Str} : (nmR a b f m == 1) = nmB a b f m := by
  unfold nmR; cases nmB a b f m <;> rfl
theorem nmB_dirs {dirs : List Str} {f m : Str} : nmB [] dirs (some f) m = dirs.any fun d => Txt.startswith f (d ++ "/") := by
  unfold nmB; rw [decide_eq_false (List.not_mem_nil (a := m)), List.any_nil, Bool.false_or, Bool.false_or]
theorem nmB_mods {mods : List Str} {f m : Str} : nmB mods [] (some f) m = (decide (m ∈ mods) || mods.any fun y => Txt.startswith m (y ++ ".")) := by
  unfold nmB; exact Bool.or_false _
variable {c : Nat}
theorem modP_lst (u : Str) : lst (modP u (sgn c)) = joinL [46] ([113] :: (lst u).map (ptL c)) := by
  unfold modP
  rw [lst_join, List.map_cons, parts_lst]; rfl
theorem q_free {d : Nat} (hd : d ≠ c) (hq : d ≠ 113) (u : List Nat) : ∀ p ∈ [113] :: u.map (ptL c), d ∉ p := fun p hp =>
  (List.mem_cons.mp hp).elim (fun e => e ▸ fun q => hq (List.mem_singleton.mp q)) fun hp => Exists.elim (List.mem_map.mp hp) fun x hx => hx.2 ▸ ptL_free hd
theorem mod_pre (hc : c ≠ 10) (hd : 46 ≠ c) {u w : Str} (hu : Two c (lst u)) (hw : Two c (lst w)) : (modP u (sgn c) = modP w (sgn c) ∨ Txt.startswith (modP u (sgn c)) (modP w (sgn c) ++ ".") = true) ↔ lst w <+: lst u := by
  have e1 : modP u (sgn c) = modP w (sgn c) ↔ joinL [46] ([113] :: (lst u).map (ptL c)) = joinL [46] ([113] :: (lst w).map (ptL c)) := by
    rw [← modP_lst, ← modP_lst]
    exact ⟨fun h => congrArg lst h, lst_inj⟩
  rw [starts_iff, decide_eq_true_eq, lst_app, modP_lst, modP_lst, lst_dot, e1, told_iff (List.cons_ne_nil _ _) (List.cons_ne_nil _ _) (q_free hd (by decide) _) (q_free hd (by decide) _), List.cons_prefix_cons, map_pre hc hw hu]
  exact ⟨fun h => h.2, fun h => ⟨rfl, h⟩⟩
theorem dir_pre (hc : c ≠ 10) (hd : 47 ≠ c) {u w : Str} (hu : Two c (lst u)) (hw : Two c (lst w)) : Txt.startswith (fileP (sgn c) u) (dirP c w ++ "/") = decide (lst w <+: lst u) := by
  have hf : ∀ u : List Nat, ∀ p ∈ u.map (ptL c), 47 ∉ p := fun u p hp => Exists.elim (List.mem_map.mp hp) fun x hx => hx.2 ▸ ptL_free hd
  rw [starts_iff, dir_lst, file_lst]
  refine decide_eq_decide.mpr ?_
  rw [List.prefix_append_right_inj, ended_iff (show 47 ∉ [102] by decide) (hf _) (hf _), map_pre hc hw hu]
theorem any_cg {α : Type} {l : List α} {f g : α → Bool} (h : ∀ a ∈ l, f a = g a) : l.any f = l.any g := by
  rw [Bool.eq_iff_iff, List.any_eq_true, List.any_eq_true]
  exact ⟨fun ⟨w, hm, q⟩ => ⟨w, hm, (h w hm).symm.trans q⟩, fun ⟨w, hm, q⟩ => ⟨w, hm, (h w hm).trans q⟩⟩
theorem lf_eq (hc : c ≠ 10) (h46 : 46 ≠ c) (h47 : 47 ≠ c) {told : List (List Str)} {i : Nat} {u : Str} (hu : Two c (lst u)) (hw : ∀ w ∈ told.getD i [], Two c (lst w) ∧ w.length ≤ 8) : lfP (sgn c) told i u = (told.getD i []).any fun w => decide (lst w <+: lst u) := by
  unfold lfP
  rw [nm_one]
  generalize told.getD i [] = ws at hw
  unfold modsP dirsP
  by_cases he : evenB i = true
  · rw [if_pos he, if_pos he, nmB_mods, Bool.eq_iff_iff, List.any_eq_true, Bool.or_eq_true, decide_eq_true_eq, List.any_eq_true]
    constructor
    · rintro (h | ⟨y, h, h2⟩)
      · obtain ⟨w, hm, e⟩ := List.mem_map.mp h
        exact ⟨w, hm, decide_eq_true ((mod_pre hc h46 hu (hw w hm).1).mp (.inl e.symm))⟩
      · obtain ⟨w, hm, rfl⟩ := List.mem_map.mp h
        exact ⟨w, hm, decide_eq_true ((mod_pre hc h46 hu (hw w hm).1).mp (.inr h2))⟩
    · rintro ⟨w, hm, h⟩
      refine ((mod_pre hc h46 hu (hw w hm).1).mpr (of_decide_eq_true h)).elim (fun h => .inl (List.mem_map.mpr ⟨w, hm, h.symm⟩)) fun h => .inr ⟨_, List.mem_map.mpr ⟨w, hm, rfl⟩, h⟩
  · rw [if_neg he, if_neg he, nmB_dirs, List.any_map]
    refine any_cg fun w hm => ?_
    rw [Function.comp_apply, norm_eq (norm_ok h46 h47 (hw w hm).2)]; exact dir_pre hc h47 hu (hw w hm).1
/-! the words of firsts -/
noncomputable def NoP (em : Str → Bool) (u : List Nat) : Prop := ∀ d, d <+: u → d ≠ u → em (ofL d) = false
variable {em : Str → Bool} {signs : Str}
theorem NoP.pre {u w : List Nat} (h : NoP em u) (hp : w <+: u) : NoP em w := fun d hd hn => h d (hd.trans hp) fun q => hn (hd.eq_of_length_le (q ▸ hp.length_le))
theorem fi_mem (i : Nat) : (∀ u : Str, u ∈ (fiP em signs i).1 ↔ (lst u).length < i ∧ (∀ c ∈ lst u, c ∈ lst signs) ∧ em u = true ∧ NoP em (lst u)) ∧ ∀ u : Str, u ∈ (fiP em signs i).2 ↔ (lst u).length = i ∧ (∀ c ∈ lst u, c ∈ lst signs) ∧ NoP em (lst u) := by
  induction i with
  | zero => exact ⟨fun u => ⟨fun h => absurd h List.not_mem_nil, fun h => absurd h.1 (Nat.not_lt_zero _)⟩, fun u => List.mem_singleton.trans ⟨fun h => h ▸ ⟨rfl, fun c h => absurd h List.not_mem_nil, fun d hd hn => absurd (List.prefix_nil.mp hd) hn⟩, fun h => lst_inj (List.length_eq_zero_iff.mp h.1)⟩⟩
  | succ i ih =>
    have h1 : ∀ u : Str, u ∈ (fiP em signs (i + 1)).1 ↔ (lst u).length < i + 1 ∧ (∀ c ∈ lst u, c ∈ lst signs) ∧ em u = true ∧ NoP em (lst u) := fun u => by
      show u ∈ (fiP em signs i).1 ++ (fiP em signs i).2.filter em ↔ _
      rw [List.mem_append, List.mem_filter, ih.1, ih.2]
      exact ⟨fun h => h.elim (fun h => ⟨Nat.lt_succ_of_lt h.1, h.2⟩) fun h => ⟨h.1.1 ▸ Nat.lt_succ_self _, h.1.2.1, h.2, h.1.2.2⟩, fun h => (Nat.lt_or_eq_of_le (Nat.le_of_lt_succ h.1)).elim (fun q => .inl ⟨q, h.2⟩) fun q => .inr ⟨⟨q, h.2.1, h.2.2.2⟩, h.2.2.1⟩⟩
    refine ⟨h1, fun u => mem_lenP.trans ⟨?_, ?_⟩⟩
    · rintro ⟨w, hw, c, hc, ht, rfl⟩
      obtain ⟨x, hx, rfl⟩ := chrs_mem.mp hc
      have hn : ¬ w ∈ (fiP em signs (i + 1)).1 := fun q => by
        have := List.contains_iff_mem.mpr q
        rw [show ((fiP em signs (i + 1)).1.contains w) = (!!((fiP em signs (i + 1)).1.contains w)) from (Bool.not_not _).symm, show (!((fiP em signs (i + 1)).1.contains w)) = true from ht] at this
        cases this
      obtain ⟨g1, g2, g3⟩ := (ih.2 w).mp hw
      have he : em w = false := by
        cases h : em w with
        | false => rfl
        | true => exact absurd ((h1 w).mpr ⟨g1 ▸ Nat.lt_succ_self _, g2, h, g3⟩) hn
      rw [lst_app, lst_sgn]
      refine ⟨by rw [List.length_append, g1]; rfl, fun c h => (List.mem_append.mp h).elim (g2 c) fun q => List.mem_singleton.mp q ▸ hx, fun d hd hne => ?_⟩
      refine (List.prefix_concat_iff.mp hd).elim (fun q => absurd q hne) fun q => ?_
      by_cases e : d = lst w
      · rw [e]; exact he
      · exact g3 d q e
    · rintro ⟨g1, g2, g3⟩
      obtain ⟨w, x, e, hw⟩ := V.snoc_len g1
      rw [e] at g2 g3
      have hx : x ∈ lst signs := g2 x (List.mem_append_right _ (.head _))
      have hpre : w <+: w ++ [x] := List.prefix_append _ _
      refine ⟨ofL w, (ih.2 _).mpr ⟨hw, fun c h => g2 c (List.mem_append_left _ h), g3.pre hpre⟩, sgn x, chrs_mem.mpr ⟨x, hx, rfl⟩, ?_, lst_inj (by rw [lst_app, e]; rfl)⟩
      show (!((fiP em signs (i + 1)).1.contains (ofL w))) = true
      have hn : ¬ ofL w ∈ (fiP em signs (i + 1)).1 := fun q => by
        have h := ((h1 _).mp q).2.2.1
        rw [g3 w hpre fun q => by have := congrArg List.length q; rw [List.length_append] at this; exact absurd this (Nat.ne_of_lt (Nat.lt_succ_self _))] at h
        cases h
      rw [Bool.eq_false_iff.mpr fun q => hn (List.contains_iff_mem.mp q)]; rfl
theorem firsts_mem {σ p : Str} {sz : Nat} (u : Str) : u ∈ firstsP σ sz p ↔ (lst u).length ≤ sz ∧ (∀ c ∈ lst u, c ∈ lst (sg2 σ)) ∧ FW (lst p) (lst u) := by
  refine ((fi_mem (sz + 1)).1 u).trans ⟨fun ⟨h1, h2, h3, h4⟩ => ⟨Nat.le_of_lt_succ h1, h2, of_decide_eq_true h3, fun d hd hp => Classical.byContradiction fun q => ?_⟩, fun ⟨h1, h2, h3, h4⟩ => ⟨Nat.lt_succ_of_le h1, h2, decide_eq_true h3, fun d hd hn => decide_eq_false fun q => hn (h4 d hd q)⟩⟩
  exact absurd hp (of_decide_eq_false (h4 d hd q))
end Mine
end
section
open PySem PySem.W PySem.Calls PyProof.Rows
set_option Elab.async false
set_option maxRecDepth 100000
set_option linter.unusedVariables false
namespace Mine
variable {prog : Program} {w : World} {K : Frag} {mb : Str → Option Value} {X Y : Addr → Prop} {C : Mem} {s s' s'' : Shared} {A : Around} {env : Env} {ρ : List (Str × PV)} {n : Nat}
noncomputable def la : { p : FuncData × List Stmt // ∀ P, FnAt (hd.heap_39 P) 129 p.1 ["script"] p.2 } := ⟨(_, _), fun P => {
  at_ := ⟨_, rfl, rfl⟩
  code := ⟨128, _, _, _, rfl, rfl, rfl, rfl⟩
  body := rfl
  kind := rfl
  co := rfl
  gen := rfl
  globals := rfl
  builtins := rfl
  closure := rfl
  kinds := fun L => by repeat (first | exact ks_nil | refine ks_cons (by first | exact .inl rfl | exact .inr ⟨rfl, rfl⟩) ?_) }⟩
theorem la_bind (v0 : Value) : bindArgs la.1.1 ⟨[v0], []⟩ = pure [(("script" : Str), v0)] := by rfl
noncomputable def env0 : Env := newEnv { kind := .function, names := [], isGenerator := false, isCoroutine := false } mainGlobals mainGlobals [] "" none .none none builtinsNs
theorem reps_ints {h : Heap} {vs : List Value} {ns : List Int} (r : IntsAre vs ns) : Reps X h vs (ns.map .int) := by
  induction r with
  | nil => exact .nil
  | cons n t h ih => exact .cons (.int n t) ih
/-- what the law's walk must show -/
noncomputable def LawGoal (prog : Program) : Prop := ∀ (w : World) (mb : Str → Option Value) (s : Shared) (ns : List Int) (l : Addr), ns.length ≤ 63 → Sit prog w (hd.heap_39 w.params) mb 40 noMem noX callerA env0 [] s → Rep noX s.heap (.ref l) (.list (ns.map .int)) → DoV prog w noMem noX callerA (call (.ref 129) [.ref l]) (.bool true) s
set_option maxHeartbeats 8000000 in
theorem top (hw : LawGoal Challenge.rw_pu0015_02.row.prog) : PySem.Challenge.rw_pu0015_02.Holds := Mine.hd (by
  k_fill
  intro w s₀ s₁ mg mb G Y fa o pm cd doc dV kV ho hd hcd hD hmg hg args vals as hpre hlay hrd hwl hlo; try k_fold
  have KX := kIn_of Y
  refine Ground.open G ?_; try k_fold
  intro T B D TE TW; try k_fold
  have hlaw := mg_of (n := "law") (v := .ref 129) KX (Top.g T) (by rfl)
  obtain rfl : fa = 129 := by
    have h2 : some (Value.ref fa) = some (Value.ref 129) := hmg.symm.trans hlaw
    injection h2 with h2; injection h2
  clear hmg hlaw ho hd hcd hD
  wrow_args hpre hlay hrd hwl hlo
  rename_i ns _ _ _ _ _ _ _ l vs _ hL _ _ _ hI _ hlen _
  have hbm := mg_of (n := "__builtins__") (v := .ref 4) KX (Top.g T) (by rfl)
  refine (hw w mb s₁ ns l (by omega) ?_ (.list (fun q => q) hL (reps_ints hI))).run .refl fun v s' e r => ?_
  · refine ⟨⟨KX, T.b, T.builtins, ?_, rfl⟩, ⟨by decide, by decide, rfl⟩, fun a h => h.elim, fun a h => h.elim, fun a P q => (by cases q), rfl, rfl, rfl, rfl, ⟨mg, T.g, fun x p q => by cases q⟩, fun x c q => by cases q⟩
    refine Mine.el2f T.bmain fun bm ob b1 b2 b3 b4 b5 b6 => ?_
    obtain rfl : bm = 4 := by
      have h2 : some (Value.ref bm) = some (Value.ref 4) := b1.symm.trans hbm
      injection h2 with h2; injection h2
    exact ⟨ob, b3, b4, b5, b6⟩
  · refine Mine.Rep.elB r fun _ => ?_
    have hkeep : ∀ b o, s₁.heap.get? b = some o → s'.heap.get? b = some o := fun b o e0 => e.keepAt e0 (fun q => q) rfl
    refine ⟨.inl ⟨.bool true, .bool true, [], rfl, raisesW_false (by wrow_none_raised), .bool true, postW_of rfl (by wtm_val) rfl, unshared_nil⟩, ⟨fun b o e0 => .inl (hkeep b o e0), fun b o e0 => ⟨o, hkeep b o e0⟩⟩, e.os, .of_eq (e.gens.trans hg)⟩)
end Mine
end
section
open PySem PySem.W PySem.Calls PyProof.Rows
set_option Elab.async false
set_option maxRecDepth 100000
set_option linter.unusedVariables false
namespace Mine
variable {prog : Program} {w : World} {K : Frag} {mb : Str → Option Value} {X Y : Addr → Prop} {C : Mem} {s s' s'' : Shared} {A : Around} {env : Env} {ρ : List (Str × PV)} {n : Nat} {P : Params} {Q : Flow → Shared → Prop} {E : Value → Shared → Prop} {L : Addr}
noncomputable def sigOf (ns : List Int) : Str := ⟨#[(97 + (ns.take 5).sum.fmod 55199).toNat]⟩
noncomputable def drawnOf (ns : List Int) : List Int := ns.take 5 ++ [0, 0, 4, 1].drop ns.length
noncomputable def szOf (ns : List Int) : Nat := if decide (1 < ns.length) then 5 else 4
noncomputable def wds (σ : Str) : List Str := ["", σ, "\n", σ ++ σ, σ ++ "\n", "\n" ++ σ, "\n\n"]
noncomputable def wAt (σ : Str) (k : Int) : Str := (wds σ).getD k.toNat ""
noncomputable def dAt (ns : List Int) (i : Nat) : Int := (drawnOf ns).getD i 0
noncomputable def inOf (ns : List Int) : List Str := (((drawnOf ns).drop 2).take 2).map (fun x => wAt (sigOf ns) (x.fmod 7)) ++ ((drawnOf ns).drop 4).map fun x => wAt (sigOf ns) (x.fmod 3)
noncomputable def piOf (ns : List Int) : List Str := wAt (sigOf ns) ((dAt ns 0).fmod 3) :: (inOf ns ++ [wAt (sigOf ns) ((dAt ns 1).fmod 3)])
theorem drawn_len (ns : List Int) : 4 ≤ (drawnOf ns).length ∧ (drawnOf ns).length ≤ 5 := by
  unfold drawnOf
  rw [List.length_append, List.length_take, List.length_drop]
  show 4 ≤ min 5 ns.length + (4 - ns.length) ∧ min 5 ns.length + (4 - ns.length) ≤ 5
  rcases Nat.lt_or_ge 4 ns.length with h | h
  · rw [Nat.min_eq_left h, Nat.sub_eq_zero_of_le (Nat.le_of_lt h)]; exact ⟨Nat.le_succ 4, Nat.le_refl 5⟩
  · rw [Nat.min_eq_right (Nat.le_succ_of_le h), Nat.add_sub_cancel' h]; exact ⟨Nat.le_refl 4, Nat.le_succ 4⟩
theorem d_at {ns : List Int} {i : Nat} (h : i < 4) : ((drawnOf ns).map PV.int)[i]? = some (.int (dAt ns i)) := by
  rw [List.getElem?_map]
  have hl := Nat.lt_of_lt_of_le h (drawn_len ns).1
  unfold dAt
  rw [List.getD_eq_getElem?_getD, List.getElem?_eq_getElem hl]; rfl
theorem w_at {σ : Str} {x m : Int} (hm : 0 < m) (h7 : m ≤ 7) : 0 ≤ x.fmod m ∧ ((wds σ).map PV.str)[(x.fmod m).toNat]? = some (.str (wAt σ (x.fmod m))) := by
  have h0 := Int.fmod_nonneg_of_pos x hm
  have h1 := Int.fmod_lt_of_pos x hm
  refine ⟨h0, ?_⟩
  have hl : (x.fmod m).toNat < (wds σ).length := (Int.toNat_lt h0).mpr (Int.lt_of_lt_of_le h1 h7)
  rw [List.getElem?_map]
  unfold wAt
  rw [List.getD_eq_getElem?_getD, List.getElem?_eq_getElem hl]; rfl
theorem wds_sz {σ : Str} : ((wds σ).map PV.str).length ≤ sizeLine := show 7 ≤ sizeLine by decide
theorem drawn_sz {ns : List Int} : ((drawnOf ns).map PV.int).length ≤ sizeLine := by rw [List.length_map]; exact Nat.le_trans (drawn_len ns).2 (by decide)
theorem chr_lo {m : Int} (h : 0 ≤ m) : 0 ≤ 97 + m := by omega
theorem chr_hi {m : Int} (h : m < 55199) : 97 + m ≤ 1114111 := by omega
set_option maxHeartbeats 1000000 in
/-- sign, drawn, size, words, pieces -/
theorem c1 {ns : List Int} (S : Sit prog w (hd.heap_39 P) mb (n + 20) C X A (fEnv la.1.1 129 L) [("script", .list (ns.map .int))] s) (O : Own X (fEnv la.1.1 129 L)) (hlen : ns.length ≤ 63)
    (k : ∀ s', Ext prog w (FrO (fEnv la.1.1 129 L)) C s s' → Sit prog w (hd.heap_39 P) mb (n + 20) C X A (fEnv la.1.1 129 L) [("pieces", .list ((piOf ns).map .str)), ("size", .int (szOf ns)), ("sign", .str (sigOf ns))] s' → wpAny (model prog w) A (execs (la.1.2.drop 5) (fEnv la.1.1 129 L)) Q E s') :
    wpAny (model prog w) A (execs la.1.2 (fEnv la.1.1 129 L)) Q E s := by
  have hl : (ns.map PV.int).length ≤ sizeLine := by rw [List.length_map]; exact len_sz (Nat.le_trans hlen (by decide))
  have h5 : pick (ns.map PV.int) none (some 5) none = (ns.take 5).map .int := by
    rw [show (5 : Int) = ((5 : Nat) : Int) from rfl, pick_upto, List.map_take]
  have hm0 : 0 ≤ (ns.take 5).sum.fmod 55199 := Int.fmod_nonneg_of_pos _ (by decide)
  have hm1 : (ns.take 5).sum.fmod 55199 < 55199 := Int.fmod_lt_of_pos _ (by decide)
  refine x_assign S O (kst_of rfl) (ev_call_builtin (ev_builtin S rfl rfl (by decide) rfl) (evs_cons (ev_binop ev_cint (ev_binop (ev_call_builtin (ev_builtin S rfl rfl (by decide) rfl) (evs_cons (ev_eq (ev_slice_list S.bd (ev_v S rfl rfl) evp_none (evp_some (X := X) ev_cint) evp_none (by decide) hl) (by rw [h5])) evs_nil) fun vs s' e r => c_sum S.rm.h r) ev_cint fun a b s' e ra rb => op_mod_int ra rb rfl) fun a b s' e ra rb => op_add_int ra rb) evs_nil) fun vs s' e r => c_chr r (chr_lo hm0) (chr_hi hm1)) (by rfl) fun s₂ e₂ S₂ => ?_
  have hd4 : pick [PV.int 0, .int 0, .int 4, .int 1] (some ((ns.map PV.int).length : Int)) none none = ([0, 0, 4, 1].drop ns.length).map PV.int := by
    rw [pick_from, List.length_map, List.map_drop]; rfl
  refine x_assign (p := .list ((drawnOf ns).map .int)) S₂ O (kst_of rfl) (ev_eq (ev_binop (ev_eq (ev_slice_list S₂.bd (ev_v S₂ rfl rfl) evp_none (evp_some (X := X) ev_cint) evp_none (by decide) hl) (by rw [h5])) (ev_eq (ev_slice_list S₂.bd (ev_list S₂.bd (evs_cons ev_cint (evs_cons ev_cint (evs_cons ev_cint (evs_cons ev_cint evs_nil)))) (show 4 ≤ sizeLine by decide)) (evp_some (ev_call_builtin (ev_builtin S₂ rfl rfl (by decide) rfl) (evs_cons (ev_v S₂ rfl rfl) evs_nil) fun vs s' e r => c_len_list r hl)) evp_none evp_none (by decide) (show 4 ≤ sizeLine by decide)) (by rw [hd4])) fun a b s' e ra rb => op_add_list (S₂.ext e).bd ra rb ?_) (by rw [← List.map_append]; rfl)) (by rfl) fun s₃ e₃ S₃ => ?_
  · rw [List.length_map, List.length_map]
    refine Nat.le_trans (Nat.add_le_add (List.length_take_le _ _) (?_ : _ ≤ 4)) (by decide)
    rw [List.length_drop]; exact Nat.sub_le _ _
  have hsz : ((decide ((((ns.map PV.int).length : Nat) : Int) > 1))) = decide (1 < ns.length) := by rw [List.length_map]; exact decide_eq_decide.mpr Int.ofNat_lt
  refine x_assign (p := .int (szOf ns)) S₃ O (kst_of rfl) (ev_ifexp (b := decide (1 < ns.length)) (ts_eq (ts_cmp (ev_call_builtin (ev_builtin S₃ rfl rfl (by decide) rfl) (evs_cons (ev_v S₃ rfl rfl) evs_nil) fun vs s' e r => c_len_list r hl) ev_cint fun a b s' e ra rb => op_gt_int ra rb) hsz) (fun hb => ev_eq ev_cint (by unfold szOf; rw [if_pos hb]; rfl)) fun hb => ev_eq ev_cint (by unfold szOf; rw [if_neg (by rw [hb]; decide)]; rfl)) (by rfl) fun s₄ e₄ S₄ => ?_
  have h2 : (1 : Nat) + 1 ≤ sizeLine := by decide
  refine x_assign (p := .list ((wds (sigOf ns)).map .str)) S₄ O (kst_of rfl) (ev_list S₄.bd (evs_cons ev_cstr (evs_cons (ev_v S₄ rfl rfl) (evs_cons ev_cstr (evs_cons (ev_binop (ev_v S₄ rfl rfl) (ev_v S₄ rfl rfl) fun a b s' e ra rb => op_add_str ra rb h2) (evs_cons (ev_binop (ev_v S₄ rfl rfl) ev_cstr fun a b s' e ra rb => op_add_str ra rb h2) (evs_cons (ev_binop ev_cstr (ev_v S₄ rfl rfl) fun a b s' e ra rb => op_add_str ra rb h2) (evs_cons ev_cstr evs_nil))))))) (show 7 ≤ sizeLine by decide)) (by rfl) fun s₅ e₅ S₅ => ?_
  have hr24 : pick ((drawnOf ns).map PV.int) (some 2) (some 4) none = (((drawnOf ns).drop 2).take 2).map .int := by
    rw [show (2 : Int) = ((2 : Nat) : Int) from rfl, show (4 : Int) = ((4 : Nat) : Int) from rfl, pick_range, ← List.map_drop, ← List.map_take]
  have hr4 : pick ((drawnOf ns).map PV.int) (some 4) none none = ((drawnOf ns).drop 4).map .int := by
    rw [show (4 : Int) = ((4 : Nat) : Int) from rfl, pick_from, ← List.map_drop]
  have hcm : ∀ (l : List Int) (m : Int), (((l.map PV.int).filter fun _ => true).map (onI fun x => .str (wAt (sigOf ns) (x.fmod m)))) = (l.map fun x => wAt (sigOf ns) (x.fmod m)).map .str := fun l m => by
    rw [List.filter_eq_self.mpr (fun _ _ => rfl), map_onI, List.map_map]; rfl
  have hl2 : (((drawnOf ns).drop 2).take 2).length ≤ 2 := List.length_take_le _ _
  have hl4 : ((drawnOf ns).drop 4).length ≤ 1 := by rw [List.length_drop]; exact Nat.sub_le_sub_right (drawn_len ns).2 4
  have word : ∀ {j : Nat}, j < 4 → ((drawnOf ns).map PV.int)[j]? = some (.int (dAt ns j)) := fun h => d_at h
  refine x_assign (p := .list ((piOf ns).map .str)) S₅ O (kst_of rfl) (ev_eq (ev_binop (ev_binop (ev_binop
    (ev_list S₅.bd (evs_cons (ev_item_list (ev_v S₅ rfl rfl) (ev_binop (ev_item_list (ev_v S₅ rfl rfl) ev_cint (by decide) (word (by decide : 0 < 4)) drawn_sz) ev_cint fun a b s' e ra rb => op_mod_int ra rb rfl) (Int.fmod_nonneg_of_pos _ (by decide)) (w_at (by decide) (by decide)).2 wds_sz) evs_nil) (show 1 ≤ sizeLine by decide))
    (ev_eq (ev_lc (ps := (((drawnOf ns).drop 2).take 2).map .int) S₅ O.ap rfl (evi_list S₅ (ev_eq (ev_slice_list S₅.bd (ev_v S₅ rfl rfl) (evp_some (X := X) ev_cint) (evp_some (X := X) ev_cint) evp_none (by decide) drawn_sz) (by rw [hr24]))) (fun _ => true) (onI fun x => .str (wAt (sigOf ns) (x.fmod 7))) (.inl rfl) (by rw [List.length_map]; exact Nat.le_trans hl2 (by decide)) (by intro v; exact rfl) ?_) (congrArg PV.list (hcm _ _))) fun a b s' e ra rb => op_add_list (S₅.ext e).bd ra rb ?_)
    (ev_eq (ev_lc (ps := ((drawnOf ns).drop 4).map .int) S₅ O.ap rfl (evi_list S₅ (ev_eq (ev_slice_list S₅.bd (ev_v S₅ rfl rfl) (evp_some (X := X) ev_cint) evp_none evp_none (by decide) drawn_sz) (by rw [hr4]))) (fun _ => true) (onI fun x => .str (wAt (sigOf ns) (x.fmod 3))) (.inl rfl) (by rw [List.length_map]; exact Nat.le_trans hl4 (by decide)) (by intro v; exact rfl) ?_) (congrArg PV.list (hcm _ _))) fun a b s' e ra rb => op_add_list (S₅.ext e).bd ra rb ?_)
    (ev_list S₅.bd (evs_cons (ev_item_list (ev_v S₅ rfl rfl) (ev_binop (ev_item_list (ev_v S₅ rfl rfl) ev_cint (by decide) (word (by decide : 1 < 4)) drawn_sz) ev_cint fun a b s' e ra rb => op_mod_int ra rb rfl) (Int.fmod_nonneg_of_pos _ (by decide)) (w_at (by decide) (by decide)).2 wds_sz) evs_nil) (show 1 ≤ sizeLine by decide)) fun a b s' e ra rb => op_add_list (S₅.ext e).bd ra rb ?_) ?_) (by rfl) fun s₆ e₆ S₆ => ?_
  · intro L' cells X'' p s' hp S' ce e'
    refine Exists.elim (List.mem_map.mp hp) fun x hx => ?_
    obtain rfl := hx.2
    exact ⟨tests_nil, fun _ => ev_item_list (ev_free S' ce rfl rfl) (ev_binop (ev_loc S' rfl rfl) ev_cint fun a b s' e ra rb => op_mod_int ra rb rfl) (Int.fmod_nonneg_of_pos _ (by decide)) (w_at (by decide) (by decide)).2 wds_sz⟩
  · exact Nat.le_trans (Nat.add_le_add (show 1 ≤ 1 by decide) (show _ ≤ 2 by rw [List.length_map, List.length_map]; exact hl2)) (by decide)
  · intro L' cells X'' p s' hp S' ce e'
    refine Exists.elim (List.mem_map.mp hp) fun x hx => ?_
    obtain rfl := hx.2
    exact ⟨tests_nil, fun _ => ev_item_list (ev_free S' ce rfl rfl) (ev_binop (ev_loc S' rfl rfl) ev_cint fun a b s' e ra rb => op_mod_int ra rb rfl) (Int.fmod_nonneg_of_pos _ (by decide)) (w_at (by decide) (by decide)).2 wds_sz⟩
  · rw [List.length_append, List.length_map, List.length_map, List.length_map, List.length_map]
    exact Nat.le_trans (Nat.add_le_add (Nat.add_le_add (show 1 ≤ 1 by decide) hl2) hl4) (by decide)
  · rw [List.length_append, List.length_append, List.length_map, List.length_map, List.length_map, List.length_map]
    exact Nat.le_trans (Nat.add_le_add (Nat.add_le_add (Nat.add_le_add (show 1 ≤ 1 by decide) hl2) hl4) (show 1 ≤ 1 by decide)) (by decide)
  · unfold piOf inOf
    rw [List.map_cons, List.map_append, List.map_append]
    rfl
  · exact k s₆ (e₂.trans (e₃.trans (e₄.trans (e₅.trans e₆)))) (S₆.sub (sub_cons rfl (sub_cons rfl (sub_cons rfl sub_nil))))
end Mine
end
section
open PySem PySem.W PySem.Calls PyProof.Rows
set_option Elab.async false
set_option maxRecDepth 100000
set_option linter.unusedVariables false
namespace Mine
variable {prog : Program} {w : World} {K : Frag} {mb : Str → Option Value} {X Y : Addr → Prop} {C : Mem} {s s' s'' : Shared} {A : Around} {env : Env} {ρ : List (Str × PV)} {n : Nat} {P : Params} {Q : Flow → Shared → Prop} {E : Value → Shared → Prop} {L : Addr}
/-- str * 3 -/
theorem op_mul_str3 {x : Str} {a b : Value} (ha : Rep X s.heap a (.str x)) (hb : Rep X s.heap b (.int 3)) (h0 : x.length ≠ 0) (h1 : x.length ≤ 1000) : DoV prog w C X A (binaryOp .Mult a b) (.str (x ++ x ++ x)) s := by
  refine ha.elS fun t => hb.elI fun u => ?_
  intro s₁ e₁ Q E k
  have hz : ((3 : Int) == 1 || x.length == 0) = false := by rw [beq_false_of_ne h0]; rfl
  refine P.mul_str rfl (fun _ _ => ?_) (fun _ _ => ?_) ?_
  · exact Int.not_lt.mpr (Int.le_trans (Int.ofNat_le.mpr h1) (by decide))
  · exact decide_eq_false (Nat.not_lt.mpr (Nat.le_trans (Nat.mul_le_mul_right 3 h1) (by decide)))
  · rw [if_neg (by decide), if_neg (by rw [hz]; decide)]
    have e : (⟨List.foldl (fun x1 x2 => x1 ++ x2) #[] (List.replicate (Int.toNat 3) x.cps)⟩ : Str) = x ++ x ++ x := by
      show (⟨((#[] ++ x.cps) ++ x.cps) ++ x.cps⟩ : Str) = _
      rw [Array.empty_append]; rfl
    rw [e]
    exact ⟨by rw [str_len_app, str_len_app]; exact Nat.le_trans (Nat.add_le_add (Nat.add_le_add h1 h1) h1) (by decide), k _ _ .tok (.str _ _)⟩
theorem bag_len {σ : Str} {ps : List Str} {sz : Nat} (h : sz ≤ 5) : (bagP σ ps sz).length ≤ 8 := by
  show (lst (tk _ sz)).length ≤ 8
  unfold tk
  rw [show lst (spick _ _ _ _) = pick _ _ _ _ from rfl, pick_upto]
  exact Nat.le_trans (List.length_take_le _ _) (Nat.le_trans h (by decide))
set_option maxHeartbeats 2000000 in
/-- rows -/
theorem c2 {σ p0 pl : Str} {ins : List Str} {sz : Nat} (F : Facts2 σ p0 ins pl sz) (S : Sit prog w (hd.heap_39 P) mb (n + 20) C X A (fEnv la.1.1 129 L) [("pieces", .list ((pcs p0 ins pl).map .str)), ("size", .int sz), ("sign", .str σ)] s) (O : Own X (fEnv la.1.1 129 L))
    (k : ∀ s', Ext prog w (FrO (fEnv la.1.1 129 L)) C s s' → Sit prog w (hd.heap_39 P) mb (n + 20) C X A (fEnv la.1.1 129 L) [("rows", .list ((rowsP σ (pcs p0 ins pl) sz).map .str)), ("pieces", .list ((pcs p0 ins pl).map .str)), ("size", .int sz), ("sign", .str σ)] s' → wpAny (model prog w) A (execs (la.1.2.drop 6) (fEnv la.1.1 129 L)) Q E s') :
    wpAny (model prog w) A (execs (la.1.2.drop 5) (fEnv la.1.1 129 L)) Q E s := by
  refine Mine.el1b ((ro.2 P).at_) fun o100 ho100 hd100 => ?_
  have hn : (pcs p0 ins pl).length ≤ 5 := by unfold pcs; rw [List.length_cons, List.length_append]; exact Nat.succ_le_succ (Nat.succ_le_succ F.n3)
  have h2 : (sg2 σ).length = 2 := by unfold sg2; rw [str_len_app, F.hσ]; rfl
  have hj : (Txt.join "" (pcs p0 ins pl)).length ≤ 100 := by
    refine Nat.le_trans (join_len (B := 2) fun p hp => (F.len p hp).1) (Nat.le_trans (Nat.add_le_add (Nat.mul_le_mul_right 2 hn) (Nat.mul_le_mul_right _ hn)) (by decide))
  have hσ1 : (1 : Nat) + σ.length ≤ sizeLine := by rw [F.hσ]; decide
  refine x_assign (p := .list ((rowsP σ (pcs p0 ins pl) sz).map .str)) S O (kst_of rfl) (ev_call_fn (ev_global S rfl rfl) (evs_cons (ev_slice_str (ev_binop (ev_method ev_cstr (evs_cons (ev_v S rfl rfl) evs_nil) (m_join (F.jp _ (Nat.le_trans hn (by decide)) fun p hp => Nat.le_trans (F.len p hp).1 (by decide)).1)) (ev_binop (ev_binop ev_cstr (ev_v S rfl rfl) fun a b s' e ra rb => op_add_str ra rb hσ1) ev_cint fun a b s' e ra rb => op_mul_str3 ra rb (by show (sg2 σ).length ≠ 0; rw [h2]; decide) (by show (sg2 σ).length ≤ 1000; rw [h2]; decide)) fun a b s' e ra rb => op_add_str ra rb (by
      show _ + (sg2 σ ++ sg2 σ ++ sg2 σ).length ≤ _
      rw [str_len_app, str_len_app, h2]
      exact Nat.le_trans (Nat.add_le_add_right hj _) (by decide))) evp_none (evp_some (ev_v S rfl rfl)) evp_none (by decide) (by
      show (_ ++ (sg2 σ ++ sg2 σ ++ sg2 σ)).length ≤ _
      rw [str_len_app, str_len_app, str_len_app, h2]
      exact Nat.le_trans (Nat.add_le_add_right hj _) (by decide))) (evs_cons (ev_binop ev_cstr (ev_v S rfl rfl) fun a b s' e ra rb => op_add_str ra rb hσ1) evs_nil)) (S.base.frag _ _ ho100) hd100 fun vs s' e r => ro_spec (S.ext e) r (Nat.le_of_eq h2) (Nat.le_trans (Nat.le_of_eq rfl) (bag_len F.h5))) (by rfl) fun s₂ e₂ S₂ => ?_
  exact k s₂ e₂ S₂
theorem pcs_len {σ p0 pl : Str} {ins : List Str} {sz : Nat} (F : Facts2 σ p0 ins pl sz) : (pcs p0 ins pl).length = ins.length + 2 := by unfold pcs; rw [List.length_cons, List.length_append]; rfl
theorem pk_1 {α : Type} (a b : α) (l : List α) : pick (a :: (l ++ [b])) none (some 1) none = [a] := by
  rw [show (1 : Int) = ((1 : Nat) : Int) from rfl, pick_upto]; rfl
theorem pk_m {α : Type} (a b : α) (l : List α) : pick (a :: (l ++ [b])) (some 1) (some (-1)) none = l := by
  rw [show (1 : Int) = ((1 : Nat) : Int) from rfl, show (-((1 : Nat) : Int)) = -((1 : Nat) : Int) from rfl, pick_mid _ _ _ (Nat.le_refl 1)]
  show (l ++ [b]).take _ = l
  rw [List.length_cons, List.length_append]
  exact List.take_left
theorem pk_l {α : Type} (a b : α) (l : List α) : pick (a :: (l ++ [b])) (some (-1)) none none = [b] := by
  rw [show (-1 : Int) = -((1 : Nat) : Int) from rfl, pick_last _ _ (Nat.le_refl 1), List.length_cons, List.length_append]
  show (l ++ [b]).drop l.length = [b]
  exact List.drop_left
noncomputable def PVs (l : List Str) : PV := .list (l.map .str)
/-- told -/
theorem c3 {σ p0 pl : Str} {ins : List Str} {sz : Nat} (F : Facts2 σ p0 ins pl sz) (S : Sit prog w (hd.heap_39 P) mb (n + 20) C X A (fEnv la.1.1 129 L) [("rows", .list ((rowsP σ (pcs p0 ins pl) sz).map .str)), ("pieces", .list ((pcs p0 ins pl).map .str)), ("size", .int sz), ("sign", .str σ)] s) (O : Own X (fEnv la.1.1 129 L))
    (k : ∀ s', Ext prog w (FrO (fEnv la.1.1 129 L)) C s s' → Sit prog w (hd.heap_39 P) mb (n + 20) C X A (fEnv la.1.1 129 L) [("told", .list ((toldP σ sz p0 ins pl).map PVs)), ("rows", .list ((rowsP σ (pcs p0 ins pl) sz).map .str)), ("pieces", .list ((pcs p0 ins pl).map .str)), ("size", .int sz), ("sign", .str σ)] s' → wpAny (model prog w) A (execs (la.1.2.drop 7) (fEnv la.1.1 129 L)) Q E s') :
    wpAny (model prog w) A (execs (la.1.2.drop 6) (fEnv la.1.1 129 L)) Q E s := by
  refine Mine.el1b ((fi.2 P).at_) fun o105 ho105 hd105 => ?_
  have hσ1 : (1 : Nat) + σ.length ≤ sizeLine := by rw [F.hσ]; decide
  have hn : (pcs p0 ins pl).length ≤ 5 := by rw [pcs_len F]; exact Nat.add_le_add_right F.n3 2
  have hsz : ((pcs p0 ins pl).map PV.str).length ≤ sizeLine := by rw [List.length_map]; exact Nat.le_trans hn (by decide)
  have hp : (pcs p0 ins pl).map PV.str = .str p0 :: (ins.map .str ++ [.str pl]) := by unfold pcs; rw [List.map_cons, List.map_append]; rfl
  have h2 : (sg2 σ).length = 2 := by unfold sg2; rw [str_len_app, F.hσ]; rfl
  refine x_assign (p := .list ((toldP σ sz p0 ins pl).map PVs)) S O (kst_of rfl) (ev_eq (ev_binop (ev_binop
    (ev_list S.bd (evs_cons (ev_eq (ev_slice_list S.bd (ev_v S rfl rfl) evp_none (evp_some (X := X) ev_cint) evp_none (by decide) hsz) (by rw [hp, pk_1])) evs_nil) (show 1 ≤ sizeLine by decide))
    (ev_lc (ps := ins.map .str) S O.ap rfl (evi_list S (ev_eq (ev_slice_list S.bd (ev_v S rfl rfl) (evp_some (X := X) ev_cint) (evp_some (X := X) (ev_neg ev_cint)) evp_none (by decide) hsz) (by rw [hp, pk_m]))) (fun _ => true) (onS fun p => PVs (firstsP σ sz p)) (.inl rfl) (by rw [List.length_map]; exact Nat.le_trans F.n3 (by decide)) (by intro v; exact rfl) ?_) fun a b s' e ra rb => op_add_list (S.ext e).bd ra rb ?_)
    (ev_list S.bd (evs_cons (ev_eq (ev_slice_list S.bd (ev_v S rfl rfl) (evp_some (X := X) (ev_neg ev_cint)) evp_none evp_none (by decide) hsz) (by rw [hp, pk_l])) evs_nil) (show 1 ≤ sizeLine by decide)) fun a b s' e ra rb => op_add_list (S.ext e).bd ra rb ?_) ?_) (by rfl) fun s₂ e₂ S₂ => ?_
  · intro L' cells X'' p s' hp S' ce e'
    refine Exists.elim (List.mem_map.mp hp) fun x hx => ?_
    obtain rfl := hx.2
    have hx2 := F.len x (.tail _ (List.mem_append_left _ hx.1))
    exact ⟨tests_nil, fun _ => ev_call_fn (ev_global S' rfl rfl) (evs_cons (ev_loc S' rfl rfl) (evs_cons (ev_binop ev_cstr (ev_free S' ce rfl rfl) fun a b s' e ra rb => op_add_str ra rb hσ1) (evs_cons (ev_free S' ce rfl rfl) evs_nil))) (S'.base.frag _ _ ho105) hd105 fun vs s' e r => fi_spec (n := n + 18) (em := endB x) (S'.ext e) r (Nat.le_of_eq h2) (Nat.le_trans F.h5 (by decide)) (Nat.le_trans hx2.1 (by decide)) fun u hu _ => F.suf x hx.1 u hu⟩
  · rw [List.length_map, List.filter_eq_self.mpr (fun _ _ => rfl), List.length_map]
    exact Nat.le_trans (Nat.add_le_add (show 1 ≤ 1 by decide) F.n3) (by decide)
  · rw [List.length_append, List.length_map, List.filter_eq_self.mpr (fun _ _ => rfl), List.length_map]
    exact Nat.le_trans (Nat.add_le_add (Nat.add_le_add (show 1 ≤ 1 by decide) F.n3) (show 1 ≤ 1 by decide)) (by decide)
  · rw [List.filter_eq_self.mpr (fun _ _ => rfl), map_onS]
    unfold toldP
    rw [List.map_cons, List.map_append, List.map_map]
    rfl
  · exact k s₂ e₂ S₂
end Mine
end
section
open PySem PySem.W PySem.Calls PyProof.Rows
set_option Elab.async false
set_option maxRecDepth 100000
set_option linter.unusedVariables false
namespace Mine
variable {prog : Program} {w : World} {K : Frag} {mb : Str → Option Value} {X Y : Addr → Prop} {C C' : Mem} {s s' s'' : Shared} {A : Around} {env : Env} {ρ : List (Str × PV)} {n : Nat} {P : Params} {Q : Flow → Shared → Prop} {E : Value → Shared → Prop} {L : Addr}
/-! readers made one behind the other -/
structure RI where
  x : Addr
  c : Addr
  dx : Addr
  lo : Nat
inductive RIok (prog : Program) (w : World) (C : Mem) (Y : Addr → Prop) (h : Heap) (mods dirs : List Str) (lo0 : Nat) (r : RI) : Prop
  | mk : RNew prog w C Y h r.lo r.x r.c mods dirs → (∃ o, h.get? r.x = some o ∧ o.dict = some r.dx) → lo0 ≤ r.lo → r.lo ≤ r.dx → r.dx < h.objs.size → r.dx ≠ r.c → r.c < h.objs.size → r.lo ≤ r.c → RIok prog w C Y h mods dirs lo0 r
theorem RNew.ri {h : Heap} {lo lo0 : Nat} {x c : Addr} {mods dirs : List Str} (R : RNew prog w C Y h lo x c mods dirs) (h0 : lo0 ≤ lo) : ∃ dx, RIok prog w C Y h mods dirs lo0 ⟨x, c, dx, lo⟩ := by
  have R' := R
  obtain ⟨ms, ds, dx, mA, o, h1, h2, h3, h4, h5, h6, h7, a1, a2, a3, a4, h8, h9, h10, h11, h12, h13, l1, l2, l3, n1, n2, n3, n4, n5⟩ := R
  exact ⟨dx, .mk R' ⟨o, h1, h4⟩ h0 l3 h6.lt h13 (let ⟨_, e, _⟩ := h11; Heap.lt_size e) l1⟩
theorem RIok.ext {Z : Addr → Prop} {mods dirs : List Str} {lo0 : Nat} {r : RI} (R : RIok prog w C Y s.heap mods dirs lo0 r) (e : Ext prog w Z C s s') (hZ : ∀ a, Z a → Y a) : RIok prog w C Y s'.heap mods dirs lo0 r := by
  obtain ⟨h1, h2, h3, h4, h5, h6, h7, h8⟩ := R
  refine .mk (h1.ext e hZ) ?_ h3 h4 (Nat.lt_of_lt_of_le h5 e.size) h6 (Nat.lt_of_lt_of_le h7 e.size) h8
  obtain ⟨ms, ds, dx, mA, o, g1, g2, g3, g4, g5, g6, g7, a1, a2, a3, a4, k8, k9, k10, k11, k12, k13, l1, l2, l3, n1, n2, n3, n4, n5⟩ := h1
  refine Exists.elim h2 fun o' ho => ⟨o, e.keepD g1 (fun q => n1 (hZ _ q)) (by rw [g3]; exact fun _ _ h => by cases h), ?_⟩
  rw [Option.some.inj (g1.symm.trans ho.1)]; exact ho.2
theorem RIok.mono {h : Heap} {mods dirs : List Str} {lo0 : Nat} {r : RI} (R : RIok prog w C X h mods dirs lo0 r) (hs : ∀ a, Y a → X a) : RIok prog w C Y h mods dirs lo0 r := by
  obtain ⟨h1, h2, h3, h4, h5, h6, h7, h8⟩ := R
  exact .mk (h1.mono (Nat.le_refl _) hs) h2 h3 h4 h5 h6 h7 h8
theorem RNew.out {h : Heap} {lo : Nat} {x c : Addr} {mods dirs : List Str} (R : RNew prog w C Y h lo x c mods dirs) : ¬ Y c ∧ NewMemo prog w h c := by
  obtain ⟨ms, ds, dx, mA, o, h1, h2, h3, h4, h5, h6, h7, a1, a2, a3, a4, h8, h9, h10, h11, h12, h13, l1, l2, l3, n1, n2, n3, n4, n5⟩ := R
  exact ⟨n5, h11⟩
noncomputable def apartR (a b : RI) : Prop := a.c < b.lo ∧ a.dx < b.lo
inductive JR (prog : Program) (w : World) (C : Mem) (md : Nat → List Str × List Str) (lo0 : Nat) (Y : Addr → Prop) (d : List PV) (s : Shared) : Prop
  | mk (rs : List RI) : d = rs.map (fun r => .val (.ref r.x)) → (∀ i r, rs[i]? = some r → RIok prog w C Y s.heap (md i).1 (md i).2 lo0 r) → rs.Pairwise apartR → lo0 ≤ s.heap.objs.size → JR prog w C md lo0 Y d s
theorem jr_stable {md : Nat → List Str × List Str} {lo0 : Nat} : StableD prog w C (JR prog w C md lo0) := fun Y Z d s s' hZ ⟨rs, h1, h2, h3, h4⟩ e => ⟨rs, h1, fun i r h => (h2 i r h).ext e hZ, h3, Nat.le_trans h4 e.size⟩
theorem jr_mono {md : Nat → List Str × List Str} {lo0 : Nat} : ∀ Y d s, (∀ a, X a → Y a) → JR prog w C md lo0 Y d s → JR prog w C md lo0 X d s := fun Y d s hs ⟨rs, h1, h2, h3, h4⟩ => ⟨rs, h1, fun i r h => (h2 i r h).mono hs, h3, h4⟩
theorem jr_nil {md : Nat → List Str × List Str} : ∀ Y, JR prog w C md s.heap.objs.size Y [] s := fun Y => ⟨[], rfl, fun i r h => (by rw [List.getElem?_nil] at h; cases h), .nil, Nat.le_refl _⟩
theorem jr_snoc {md : Nat → List Str × List Str} {lo0 i : Nat} {d : List PV} {x c : Addr} (J : JR prog w C md lo0 Y d s) (hi : d.length = i) (e : Ext prog w noX C s s') (R : RNew prog w C Y s'.heap s.heap.objs.size x c (md i).1 (md i).2) : JR prog w C md lo0 Y (d ++ [.val (.ref x)]) s' := by
  obtain ⟨rs, h1, h2, h3, h0⟩ := J
  refine Exists.elim (R.ri h0) fun dx hr => ⟨rs ++ [⟨x, c, dx, s.heap.objs.size⟩], ?_, fun j r hj => ?_, ?_, Nat.le_trans h0 e.size⟩
  · rw [h1, List.map_append]; rfl
  · rw [h1, List.length_map] at hi
    rcases Nat.lt_or_ge j rs.length with hlt | hge
    · rw [List.getElem?_append_left hlt] at hj
      exact (h2 j r hj).ext e (fun _ q => q.elim)
    · rw [List.getElem?_append_right hge] at hj
      cases hk : j - rs.length with
      | zero =>
        rw [hk] at hj
        rw [show j = i by rw [← hi]; exact Nat.le_antisymm (Nat.sub_eq_zero_iff_le.mp hk) hge, ← Option.some.inj hj]
        exact hr
      | succ m => rw [hk] at hj; cases hj
  · refine List.pairwise_append.mpr ⟨h3, List.pairwise_singleton _ _, fun a ha b hb => ?_⟩
    rw [List.mem_singleton.mp hb]
    refine Exists.elim (List.getElem?_of_mem ha) fun j hj => ?_
    obtain ⟨_, _, _, _, h5, _, h7, _⟩ := h2 j a hj
    exact ⟨h7, h5⟩
/-! their memos, all in use -/
noncomputable def memC (C : Mem) (rs : List RI) (Pm : Nat → Str → Int → Prop) : Mem := fun a => match rs.findIdx? (fun r => r.c == a) with
  | some i => some (Pm i)
  | none => C a
theorem memC_at {rs : List RI} {Pm : Nat → Str → Int → Prop} (hp : rs.Pairwise apartR) (hlo : ∀ r ∈ rs, r.lo ≤ r.c) {i : Nat} {r : RI} (h : rs[i]? = some r) : memC C rs Pm r.c = some (Pm i) := by
  have hi : rs.findIdx? (fun q => q.c == r.c) = some i := by
    obtain ⟨hl, rfl⟩ := List.getElem?_eq_some_iff.mp h
    refine List.findIdx?_eq_some_iff_getElem.mpr ⟨hl, beq_self_eq_true _, fun j hj => ?_⟩
    have := (List.pairwise_iff_getElem.mp hp j i (Nat.lt_trans hj hl) hl hj).1
    exact fun q => absurd (beq_iff_eq.mp q) (Nat.ne_of_lt (Nat.lt_of_lt_of_le this (hlo _ (List.getElem_mem hl))))
  unfold memC; rw [hi]
theorem memC_no {rs : List RI} {Pm : Nat → Str → Int → Prop} {a : Addr} (h : ∀ r ∈ rs, r.c ≠ a) : memC C rs Pm a = C a := by
  have hi : rs.findIdx? (fun q => q.c == a) = none := List.findIdx?_eq_none_iff.mpr fun r hr => beq_false_of_ne (h r hr)
  unfold memC; rw [hi]
theorem memC_some {rs : List RI} {Pm : Nat → Str → Int → Prop} {a : Addr} {p : Str → Int → Prop} (h : memC C rs Pm a = some p) : C a = some p ∨ ∃ r ∈ rs, r.c = a := by
  by_cases ha : ∃ r ∈ rs, r.c = a
  · exact .inr ha
  · rw [memC_no fun r hr q => ha ⟨r, hr, q⟩] at h; exact .inl h
theorem Sit.memC {rs : List RI} {md : Nat → List Str × List Str} {lo0 : Nat} {Pm : Nat → Str → Int → Prop} (S : Sit prog w K mb n C X A env ρ s) (hr : ∀ i r, rs[i]? = some r → RIok prog w C X s.heap (md i).1 (md i).2 lo0 r) (hf : ∀ a, lo0 ≤ a → FreeA K a) (hl : env.locals < lo0) : Sit prog w K mb n (memC C rs Pm) X A env ρ s := by
  refine ⟨S.base, S.rm, S.bd, S.xo, fun a p h => ?_, S.fm.kind, S.fm.globals, S.fm.builtins, ?_, S.fm.ns, S.fm.cell⟩
  · refine (memC_some h).elim (S.co a p) fun ⟨r, hm, hc⟩ => ?_
    refine Exists.elim (List.getElem?_of_mem hm) fun j hj => ?_
    obtain ⟨h1, _, h3, _, _, _, _, h8⟩ := hr j r hj
    refine Exists.elim h1.out.2 fun o ho => ?_
    rw [← hc]
    exact ⟨hf _ (Nat.le_trans h3 h8), h1.out.1, o, _, ho.1, ho.2⟩
  · rw [memC_no fun r hm q => ?_]; exact S.fm.cl
    refine Exists.elim (List.getElem?_of_mem hm) fun j hj => ?_
    obtain ⟨_, _, h3, _, _, _, _, h8⟩ := hr j r hj
    exact absurd q (Nat.ne_of_gt (Nat.lt_of_lt_of_le hl (Nat.le_trans h3 h8)))
theorem RNew.rdxC {h : Heap} {lo : Nat} {r : RI} {mods dirs : List Str} {Pm : Str → Int → Prop} (R : RNew prog w C X h lo r.x r.c mods dirs) (hx : ∃ o, h.get? r.x = some o ∧ o.dict = some r.dx) (hc : C' r.c = some Pm) (hdx : C' r.dx = none) : RdX prog w C' X h r.x r.c mods dirs Pm := by
  obtain ⟨ms, ds, dx, mA, o, h1, h2, h3, h4, h5, h6, h7, a1, a2, a3, a4, h8, h9, h10, h11, h12, h13, l1, l2, l3, n1, n2, n3, n4, n5⟩ := R
  refine Exists.elim hx fun o' ho => ?_
  have e : dx = r.dx := Option.some.inj (h4.symm.trans ((congrArg Obj.dict (Option.some.inj (h1.symm.trans ho.1))).trans ho.2))
  exact ⟨ms, ds, dx, mA, o, h1, h2, h3, h4, h5, h6, e ▸ hdx, a1, a2, a3, a4, h8, h9, h10, h11.ok, hc, n1, n2, n3, n4, n5⟩
theorem rdx_all {rs : List RI} {md : Nat → List Str × List Str} {lo0 : Nat} {Pm : Nat → Str → Int → Prop} (hr : ∀ i r, rs[i]? = some r → RIok prog w C X s.heap (md i).1 (md i).2 lo0 r) (hp : rs.Pairwise apartR) (hC : ∀ a, lo0 ≤ a → C a = none) {i : Nat} {r : RI} (h : rs[i]? = some r) : RdX prog w (memC C rs Pm) X s.heap r.x r.c (md i).1 (md i).2 (Pm i) := by
  have hlo : ∀ q ∈ rs, q.lo ≤ q.c := fun q hq => Exists.elim (List.getElem?_of_mem hq) fun j hj => by obtain ⟨_, _, _, _, _, _, _, h8⟩ := hr j q hj; exact h8
  obtain ⟨h1, h2, h3, h4, h5, h6, h7, h8⟩ := hr i r h
  refine h1.rdxC h2 (memC_at hp hlo h) ?_
  rw [memC_no fun q hq e => ?_]; exact hC _ (Nat.le_trans h3 h4)
  refine Exists.elim (List.getElem?_of_mem hq) fun j hj => ?_
  obtain ⟨hl, ei⟩ := List.getElem?_eq_some_iff.mp h
  obtain ⟨hlj, ej⟩ := List.getElem?_eq_some_iff.mp hj
  rcases Nat.lt_trichotomy i j with hij | hij | hij
  · have := (List.pairwise_iff_getElem.mp hp i j hl hlj hij).2
    rw [ei, ej] at this
    exact absurd e (Nat.ne_of_gt (Nat.lt_of_lt_of_le this (hlo q hq)))
  · have : q = r := Option.some.inj (hj.symm.trans (hij ▸ h))
    exact h6 (this ▸ e.symm)
  · have := (List.pairwise_iff_getElem.mp hp j i hlj hl hij).1
    rw [ei, ej] at this
    exact absurd e (Nat.ne_of_lt (Nat.lt_of_lt_of_le this h4))
end Mine
end
section
open PySem PySem.W PySem.Calls PyProof.Rows
set_option Elab.async false
set_option maxRecDepth 100000
set_option linter.unusedVariables false
namespace Mine
variable {prog : Program} {w : World} {K : Frag} {mb : Str → Option Value} {X Y : Addr → Prop} {C C' : Mem} {s s' s'' : Shared} {A : Around} {env : Env} {ρ : List (Str × PV)} {n : Nat} {P : Params} {Q : Flow → Shared → Prop} {E : Value → Shared → Prop} {L : Addr}
/-- what the readers are told -/
noncomputable def mdP (σ : Str) (told : List (List Str)) (i : Nat) : List Str × List Str := (modsP (told.getD i []) σ i, dirsP (told.getD i []) σ i)
/-- what a reader keeps -/
noncomputable def PmP (σ : Str) (told : List (List Str)) (i : Nat) : Str → Int → Prop := fun m v => ∃ u, W2 σ u ∧ m = modP u σ ∧ v = nmR (mdP σ told i).1 (mdP σ told i).2 (some (fileP σ u)) (modP u σ)
/-- the readers in use -/
noncomputable def RdXs (prog : Program) (w : World) (C : Mem) (X : Addr → Prop) (h : Heap) (σ : Str) (told : List (List Str)) (xs : List Addr) : Prop := xs.length = told.length ∧ ∀ i x, xs[i]? = some x → ∃ c, RdX prog w C X h x c (mdP σ told i).1 (mdP σ told i).2 (PmP σ told i)
theorem fi_w2 {σ p : Str} {sz : Nat} (hσ : σ.length = 1) (h5 : sz ≤ 5) : ∀ u ∈ firstsP σ sz p, W2 σ u := fun u hu => by
  have h2 : (sg2 σ).length ≤ 2 := by unfold sg2; rw [str_len_app, hσ]; exact Nat.le_refl _
  have h := (fiP_ok (em := endB p) h2 (sz + 1)).2.2.2 u hu
  exact ⟨Nat.le_trans (Nat.le_of_lt h.1) (Nat.le_trans (Nat.succ_le_succ h5) (by decide)), h.2.2⟩
theorem fi_num {σ p : Str} {sz : Nat} (hσ : σ.length = 1) (h5 : sz ≤ 5) : (firstsP σ sz p).length ≤ 64 := by
  have h2 : (sg2 σ).length ≤ 2 := by unfold sg2; rw [str_len_app, hσ]; exact Nat.le_refl _
  exact Nat.le_trans (fiP_ok (em := endB p) h2 (sz + 1)).2.1 (Nat.pow_le_pow_right (by decide) (Nat.succ_le_succ h5))
theorem told_ok {σ p0 pl : Str} {ins : List Str} {sz : Nat} (F : Facts2 σ p0 ins pl sz) : ∀ ws ∈ toldP σ sz p0 ins pl, ws.length ≤ 1000 ∧ ∀ u ∈ ws, W2 σ u := by
  have one : ∀ p ∈ pcs p0 ins pl, ∀ ws, ws = [p] → ws.length ≤ 1000 ∧ ∀ u ∈ ws, W2 σ u := fun p hp ws hw => by
    rw [hw]
    exact ⟨by show 1 ≤ 1000; decide, fun u hu => by rw [List.mem_singleton.mp hu]; exact ⟨Nat.le_trans (F.len p hp).1 (by decide), (F.len p hp).2⟩⟩
  intro ws hw
  refine (List.mem_cons.mp hw).elim (one p0 (.head _) ws) fun hw => (List.mem_append.mp hw).elim (fun hw => ?_) fun hw => one pl (.tail _ (List.mem_append_right _ (.head _))) ws (List.mem_singleton.mp hw)
  refine Exists.elim (List.mem_map.mp hw) fun p hp => ?_
  rw [← hp.2]
  exact ⟨Nat.le_trans (fi_num F.hσ F.h5) (by decide), fi_w2 F.hσ F.h5⟩
theorem told_len {σ p0 pl : Str} {ins : List Str} {sz : Nat} : (toldP σ sz p0 ins pl).length = ins.length + 2 := by unfold toldP; rw [List.length_cons, List.length_append, List.length_map]; rfl
set_option maxHeartbeats 1000000 in
/-- readers -/
theorem c4 {σ p0 pl : Str} {ins : List Str} {sz : Nat} {ρ : List (Str × PV)} (F : Facts2 σ p0 ins pl sz) (hCn : ∀ a, s.heap.objs.size ≤ a → C a = none) (S : Sit prog w (hd.heap_39 P) mb (n + 20) C X A (fEnv la.1.1 129 L) [("told", .list ((toldP σ sz p0 ins pl).map PVs)), ("rows", .list ((rowsP σ (pcs p0 ins pl) sz).map .str)), ("pieces", .list ((pcs p0 ins pl).map .str)), ("size", .int sz), ("sign", .str σ)] s) (O : Own X (fEnv la.1.1 129 L))
    (k : ∀ s' C' xs, Ext prog w (FrO (fEnv la.1.1 129 L)) C s s' → (∀ a, a < s.heap.objs.size → C' a = C a) → Sit prog w (hd.heap_39 P) mb (n + 20) C' X A (fEnv la.1.1 129 L) [("readers", .list (xs.map fun x => .val (.ref x))), ("rows", .list ((rowsP σ (pcs p0 ins pl) sz).map .str)), ("pieces", .list ((pcs p0 ins pl).map .str)), ("sign", .str σ)] s' → RdXs prog w C' X s'.heap σ (toldP σ sz p0 ins pl) xs → wpAny (model prog w) A (execs (la.1.2.drop 8) (fEnv la.1.1 129 L)) Q E s') :
    wpAny (model prog w) A (execs (la.1.2.drop 7) (fEnv la.1.1 129 L)) Q E s := by
  refine Mine.el1b ((re.2 P).at_) fun o110 ho110 hd110 => ?_
  generalize htold : toldP σ sz p0 ins pl = told at S k
  have ht5 : told.length ≤ 5 := by rw [← htold, told_len]; exact Nat.add_le_add_right F.n3 2
  have htm : (told.map PVs).length ≤ sizeLine := by rw [List.length_map]; exact Nat.le_trans ht5 (by decide)
  have hlow : ∀ a, s.heap.objs.size ≤ a → FreeA (hd.heap_39 P) a := fun a h => S.base.fresh h
  have hloc : (fEnv la.1.1 129 L).locals < s.heap.objs.size := by refine Mine.el1b S.fm.ns fun m hn _ => ?_; exact hn.lt
  refine x_assignR (R := fun p s' => ∃ d, p = .list d ∧ d.length = told.length ∧ JR prog w C (mdP σ told) s.heap.objs.size X d s') S O (kst_of rfl) ?_ rfl fun p s₂ s₃ e₂ hR e₃ S₃ => ?_
  · refine Do.mono (evd_of_spec (spec_listD (ps := (List.range told.length).map fun (i : Nat) => PV.int i) S O.ap rfl (evi_range (r := told.length) S (ev_builtin S rfl rfl (by decide) rfl) (ev_eq (ev_call_builtin (ev_builtin S rfl rfl (by decide) rfl) (evs_cons (ev_v S rfl rfl) evs_nil) fun vs s' e r => c_len_list r htm) (by rw [List.length_map])) (Nat.le_trans ht5 (by decide))) (JR prog w C (mdP σ told) s.heap.objs.size) (.inl rfl) (by rw [List.length_map, List.length_range]; exact Nat.le_trans ht5 (by decide)) (by intro v; exact rfl) jr_stable jr_nil ?_) jr_stable jr_mono) fun v s' e r => ?_
    · intro L' cells X' i p d s' hp hd S' ce hsub J
      rw [List.getElem?_map] at hp
      refine Exists.elim (Option.map_eq_some_iff.mp hp) fun j hj => ?_
      have hij : j = i ∧ i < told.length := by
        obtain ⟨hl, e⟩ := List.getElem?_eq_some_iff.mp hj.1
        rw [List.getElem_range] at e
        rw [List.length_range] at hl
        exact ⟨e.symm, hl⟩
      obtain rfl := hj.2
      rw [hij.1] at S'
      have hti : (told.map PVs)[(i : Int).toNat]? = some (PVs (told.getD i [])) := by
        rw [Int.toNat_natCast, List.getElem?_map, List.getElem?_eq_getElem hij.2, List.getD_eq_getElem?_getD, List.getElem?_eq_getElem hij.2]; rfl
      have hok : (told.getD i []).length ≤ 1000 ∧ ∀ u ∈ told.getD i [], W2 σ u := by
        refine (htold ▸ told_ok F) _ ?_
        rw [List.getD_eq_getElem?_getD, List.getElem?_eq_getElem hij.2]
        exact List.getElem_mem hij.2
      refine Do.mono (ev_call_fn (R := fun v s'' => ∃ x c, v = .ref x ∧ RNew prog w C X' s''.heap s'.heap.objs.size x c (modsP (told.getD i []) σ i) (dirsP (told.getD i []) σ i)) (ev_global S' rfl rfl) (evs_cons (ev_item_list (ev_free S' ce rfl rfl) (ev_loc S' rfl rfl) (Int.natCast_nonneg i) hti htm) (evs_cons (ev_free S' ce rfl rfl) (evs_cons (ev_loc S' rfl rfl) evs_nil))) (S'.base.frag _ _ ho110) hd110 fun vs s'' e r => Do.mono (re_spec (n := n + 12) (S'.ext e) r hok.1 (Nat.le_of_eq F.hσ) fun u hu => F.wok u (hok.2 u hu)) fun v s3 e3 ⟨x, c, hv, hR⟩ => ⟨x, c, hv, hR.mono e.size fun _ h => h⟩) fun v s'' e ⟨x, c, hv, hR⟩ => ⟨.val (.ref x), by rw [hv]; exact .val _, jr_snoc J hd e hR⟩
    · refine Exists.elim r fun p r => Exists.elim r.2 fun d hd => ⟨p, r.1, d, hd.1, ?_, hd.2.2⟩
      rw [hd.2.1, List.length_map, List.length_range]
  · obtain ⟨d, rfl, hd, rs, h1, h2, h3, _⟩ := hR
    have h2' : ∀ i r, rs[i]? = some r → RIok prog w C X s₃.heap (mdP σ told i).1 (mdP σ told i).2 s.heap.objs.size r := fun i r h => (h2 i r h).ext e₃ fun a h => O.own a (stX_frO a h)
    have hrl : (rs.map (·.x)).length = told.length := by rw [List.length_map, ← hd, h1, List.length_map]
    refine k s₃ (memC C rs (PmP σ told)) (rs.map (·.x)) (e₂.ofNo.trans (e₃.mono stX_frO)) (fun a ha => memC_no fun r hr q => ?_) ?_ ⟨hrl, fun i x hx => ?_⟩
    · refine Exists.elim (List.getElem?_of_mem hr) fun j hj => ?_
      obtain ⟨_, _, g3, _, _, _, _, g8⟩ := h2 j r hj
      exact absurd q (Nat.ne_of_gt (Nat.lt_of_lt_of_le ha (Nat.le_trans g3 g8)))
    · have S₄ := S₃.memC (Pm := PmP σ told) h2' hlow hloc
      rw [h1] at S₄
      refine S₄.sub (sub_cons ?_ (sub_cons rfl (sub_cons rfl (sub_cons rfl sub_nil))))
      rw [List.map_map]; rfl
    · rw [List.getElem?_map] at hx
      refine Exists.elim (Option.map_eq_some_iff.mp hx) fun r hr => ⟨r.c, ?_⟩
      rw [← hr.2]
      exact rdx_all h2' h3 hCn hr.1
end Mine
end
section
open PySem PySem.W PySem.Calls PyProof.Rows
set_option Elab.async false
set_option maxRecDepth 100000
set_option linter.unusedVariables false
namespace Mine
variable {prog : Program} {w : World} {K : Frag} {mb : Str → Option Value} {X Y : Addr → Prop} {C C' : Mem} {s s' s'' : Shared} {A : Around} {env : Env} {ρ : List (Str × PV)} {n : Nat} {P : Params} {Q : Flow → Shared → Prop} {E : Value → Shared → Prop} {L : Addr}
/-! short words stay short words -/
theorem pick_mem {α : Type} {l : List α} {lo hi st : Option Int} {x : α} (h : x ∈ pick l lo hi st) : x ∈ l := by
  unfold pick at h
  refine Exists.elim (List.mem_filterMap.mp h) fun i hi => List.mem_of_getElem? hi.2
theorem W2.spick {σ u : Str} {lo hi : Option Int} (h : W2 σ u) : W2 σ (spick u lo hi none) := ⟨Nat.le_trans (spick_len u lo hi) h.1, fun c hc => h.2 c (pick_mem hc)⟩
theorem W2.rev {σ u : Str} (h : W2 σ u) : W2 σ (revS u) := by
  refine ⟨?_, fun c hc => h.2 c (pick_mem hc)⟩
  show (pick (lst u) none none (some (-1))).length ≤ 8
  rw [pick_rev, List.length_reverse]; exact h.1
theorem W2.cutS {σ p0 r0 : Str} {lf : Nat → Str → Bool} (h : W2 σ r0) (i : Nat) : W2 σ (cutS lf p0 r0 i).2 := by
  induction i with
  | zero => exact h
  | succ i ih => exact ih.spick
theorem cutS_small {p0 r0 : Str} {lf : Nat → Str → Bool} (h0 : p0.length ≤ 8) (hr : r0.length ≤ 8) (i : Nat) : ∀ y ∈ (cutS lf p0 r0 i).1, y.length ≤ 8 := by
  induction i with
  | zero => exact fun y hy => List.mem_singleton.mp hy ▸ h0
  | succ i ih => exact fun y hy => (List.mem_append.mp hy).elim (ih y) fun hy => List.mem_singleton.mp hy ▸ Nat.le_trans (tk_len _ _) (Nat.le_trans (cutS_len i).2 hr)
theorem ro_in {bag signs : Str} (i : Nat) : ∀ u ∈ roP bag signs i, ∀ c ∈ lst u, c ∈ lst signs := by
  induction i with
  | zero => exact fun u hu c hc => by rw [List.mem_singleton.mp hu] at hc; exact absurd hc List.not_mem_nil
  | succ i ih =>
    intro u hu c hc
    obtain ⟨v, hv, d, hd, _, rfl⟩ := mem_lenP.mp hu
    rw [lst_app] at hc
    refine (List.mem_append.mp hc).elim (ih v hv c) fun hc => ?_
    refine Exists.elim (List.mem_map.mp hd) fun x hx => ?_
    rw [← hx.2] at hc
    rw [List.mem_singleton.mp hc]; exact hx.1
theorem sg2_len {σ : Str} (h : σ.length = 1) : (sg2 σ).length = 2 := by unfold sg2; rw [str_len_app, h]; rfl
theorem bag_sz {σ : Str} {ps : List Str} {sz : Nat} (hσ : σ.length = 1) (h : sz ≤ 5) : (bagP σ ps sz).length = sz := by
  show (lst (tk _ sz)).length = sz
  unfold tk
  rw [show lst (spick _ _ _ _) = pick _ _ _ _ from rfl, pick_upto, List.length_take]
  refine Nat.min_eq_left (Nat.le_trans h ?_)
  show 5 ≤ (Txt.join "" ps ++ (sg2 σ ++ sg2 σ ++ sg2 σ)).length
  rw [str_len_app, str_len_app, str_len_app, sg2_len hσ]
  exact Nat.le_trans (by decide) (Nat.le_add_left (2 + 2 + 2) _)
theorem rows_ok {σ p0 pl : Str} {ins : List Str} {sz : Nat} (F : Facts2 σ p0 ins pl sz) {u : Str} (hu : u ∈ rowsP σ (pcs p0 ins pl) sz) : u.length = sz ∧ W2 σ u := by
  have hl : u.length = sz := ((roP_ok (Nat.le_of_eq (sg2_len F.hσ)) _).2 u hu).trans (bag_sz F.hσ F.h5)
  exact ⟨hl, Nat.le_trans (Nat.le_of_eq hl) (Nat.le_trans F.h5 (by decide)), ro_in _ u hu⟩
theorem rows_num {σ p0 pl : Str} {ins : List Str} {sz : Nat} (F : Facts2 σ p0 ins pl sz) : (rowsP σ (pcs p0 ins pl) sz).length ≤ 32 :=
  Nat.le_trans (roP_ok (Nat.le_of_eq (sg2_len F.hσ)) _).1 (Nat.pow_le_pow_right (i := (bagP σ (pcs p0 ins pl) sz).length) (j := 5) (by decide) (by rw [bag_sz F.hσ F.h5]; exact F.h5))
theorem RdXs.rds {σ p0 pl : Str} {ins : List Str} {sz : Nat} {h : Heap} {xs : List Addr} (F : Facts2 σ p0 ins pl sz) (R : RdXs prog w C X h σ (toldP σ sz p0 ins pl) xs) : Rds prog w C h h.objs.size xs (lfP σ (toldP σ sz p0 ins pl)) (W2 σ) σ := by
  intro i x hx
  refine Exists.elim (R.2 i x hx) fun c hR => Exists.elim F.ks fun KS hK => ?_
  have hi : i < (toldP σ sz p0 ins pl).length := by rw [← R.1]; exact (List.getElem?_eq_some_iff.mp hx).1
  have hok := told_ok F ((toldP σ sz p0 ins pl).getD i []) (by rw [List.getD_eq_getElem?_getD, List.getElem?_eq_getElem hi]; exact List.getElem_mem hi)
  have hm : ∀ y ∈ (mdP σ (toldP σ sz p0 ins pl) i).1, y.length ≤ 1000 := fun y hy => by
    unfold mdP modsP at hy
    dsimp only at hy
    split at hy
    · refine Exists.elim (List.mem_map.mp hy) fun u hu => ?_
      rw [← hu.2]; exact (F.wok u (hok.2 u hu.1)).ml
    · exact absurd hy List.not_mem_nil
  have hd : ∀ y ∈ (mdP σ (toldP σ sz p0 ins pl) i).2, y.length ≤ 1000 := fun y hy => by
    unfold mdP dirsP at hy
    dsimp only at hy
    split at hy
    · exact absurd hy List.not_mem_nil
    · refine Exists.elim (List.mem_map.mp hy) fun u hu => ?_
      rw [← hu.2]; exact (F.wok u (hok.2 u hu.1)).dl
  refine ⟨c, _, _, _, KS, hR.at (fun m v hv => Exists.elim hv fun u hu => hu.2.1 ▸ hK.2 u hu.1) hK.1 hm hd, fun u hu => ⟨_, fun j hj => ?_, ⟨u, hu, rfl, rfl⟩, rfl, rfl⟩⟩
  refine Exists.elim hj fun v hv => ?_
  rw [hv.2.2, F.minj u v hu hv.1 hv.2.1]
noncomputable def cutsP (σ : Str) (sz : Nat) (p0 : Str) (ins : List Str) (pl : Str) : List (List Str) := (rowsP σ (pcs p0 ins pl) sz).map (cutOf σ sz p0 ins pl)
set_option maxHeartbeats 1000000 in
/-- cuts -/
theorem c5 {σ p0 pl : Str} {ins : List Str} {sz : Nat} {xs : List Addr} (F : Facts2 σ p0 ins pl sz) (S : Sit prog w (hd.heap_39 P) mb (n + 20) C X A (fEnv la.1.1 129 L) [("readers", .list (xs.map fun x => .val (.ref x))), ("rows", .list ((rowsP σ (pcs p0 ins pl) sz).map .str)), ("pieces", .list ((pcs p0 ins pl).map .str)), ("sign", .str σ)] s) (O : Own X (fEnv la.1.1 129 L)) (R : RdXs prog w C X s.heap σ (toldP σ sz p0 ins pl) xs)
    (k : ∀ s', Ext prog w (FrO (fEnv la.1.1 129 L)) C s s' → Sit prog w (hd.heap_39 P) mb (n + 20) C X A (fEnv la.1.1 129 L) [("cuts", .list ((cutsP σ sz p0 ins pl).map PVs)), ("rows", .list ((rowsP σ (pcs p0 ins pl) sz).map .str)), ("pieces", .list ((pcs p0 ins pl).map .str)), ("sign", .str σ)] s' → wpAny (model prog w) A (execs (la.1.2.drop 9) (fEnv la.1.1 129 L)) Q E s') :
    wpAny (model prog w) A (execs (la.1.2.drop 8) (fEnv la.1.1 129 L)) Q E s := by
  refine Mine.el1b ((cu.2 P).at_) fun o124 ho124 hd124 => ?_
  have hRd := R.rds F
  refine x_assign_comp (res := (cutsP σ sz p0 ins pl).map PVs) (J := fun _ => True) S O (kst_of rfl) ((spec_lc (ps := (rowsP σ (pcs p0 ins pl) sz).map .str) S O.ap rfl (evi_list S (ev_v S rfl rfl)) (fun _ => true) (onS fun row => PVs (cutOf σ sz p0 ins pl row)) (.inl rfl) (by rw [List.length_map]; exact Nat.le_trans (rows_num F) (by decide)) (by intro v; exact rfl) ?_).mono fun a L s' r => r.eq ?_ fun _ => trivial) (by rfl) (fun _ _ _ _ _ _ => trivial) fun s₂ e₂ S₂ _ => ?_
  · intro L' cells X'' p s' hp S' ce e'
    refine Exists.elim (List.mem_map.mp hp) fun row hrow => ?_
    obtain rfl := hrow.2
    have hr := rows_ok F hrow.1
    have hn := pcs_len F
    refine ⟨tests_nil, fun _ => ev_call_fn (ev_global S' rfl rfl) (evs_cons (ev_loc S' rfl rfl) (evs_cons (ev_free S' ce rfl rfl) (evs_cons (ev_free S' ce rfl rfl) (evs_cons (ev_free S' ce rfl rfl) evs_nil)))) (S'.base.frag _ _ ho124) hd124 fun vs s'' e r => ?_⟩
    have hcu := cu_spec (n := n + 16) (pieces := pcs p0 ins pl) (row := row) (p0 := p0) (pl := pl) (S'.ext e) r ((hRd.ext e' fun a h => h).ext e fun _ q => q.elim) (Nat.le_trans e'.size e.size) (Nat.le_of_eq F.hσ) (by rw [hn]; exact Nat.le_add_left 2 _) (by rw [hn]; exact Nat.le_trans (Nat.add_le_add_right F.n3 2) (by decide)) (by rw [R.1, told_len, hn]) rfl (by unfold pcs; rw [← List.cons_append, List.getLast?_concat]) hr.2.1 (Nat.le_trans F.l0 (by decide)) (by rw [hr.1]; exact Nat.le_trans F.ll (Nat.le_trans (by decide) F.h4)) ⟨hr.2, hr.2.rev, fun i k => (W2.cutS hr.2.spick i).spick⟩ F.wok
    rw [hn] at hcu
    exact hcu
  · rw [List.filter_eq_self.mpr (fun _ _ => rfl), map_onS]
    unfold cutsP
    rw [List.map_map]; rfl
  · exact k s₂ e₂ (S₂.sub (sub_cons rfl (sub_cons rfl (sub_cons rfl (sub_cons rfl sub_nil)))))
end Mine
end
section
open PySem PySem.W PySem.Calls PyProof.Rows
set_option Elab.async false
set_option maxRecDepth 100000
set_option linter.unusedVariables false
namespace Mine
variable {prog : Program} {w : World} {K : Frag} {mb : Str → Option Value} {X Y : Addr → Prop} {C C' : Mem} {s s' s'' : Shared} {A : Around} {env : Env} {ρ : List (Str × PV)} {n : Nat} {P : Params} {Q : Flow → Shared → Prop} {E : Value → Shared → Prop} {L : Addr}
/-! comprehensions over lists of lists -/
noncomputable def unS (p : PV) : Str := PV.casesOn p "" (fun _ => "") (fun _ => "") (fun x => x) (fun _ => "") (fun _ => "") (fun _ => "")
noncomputable def onLs (f : List Str → PV) : PV → PV := fun p => PV.casesOn p .none (fun _ => .none) (fun _ => .none) (fun _ => .none) (fun l => f (l.map unS)) (fun _ => .none) (fun _ => .none)
noncomputable def onLsB (f : List Str → Bool) : PV → Bool := fun p => PV.casesOn p false (fun _ => false) (fun _ => false) (fun _ => false) (fun l => f (l.map unS)) (fun _ => false) (fun _ => false)
theorem un_map (l : List Str) : (l.map PV.str).map unS = l := List.map_map.trans (List.map_id l)
theorem onLs_at (f : List Str → PV) (l : List Str) : onLs f (PVs l) = f l := congrArg f (un_map l)
theorem onLsB_at (f : List Str → Bool) (l : List Str) : onLsB f (PVs l) = f l := congrArg f (un_map l)
theorem map_onLs (f : List Str → PV) (l : List (List Str)) : (l.map PVs).map (onLs f) = l.map f := List.map_map.trans (List.map_congr_left fun a _ => onLs_at f a)
theorem filter_onLs (f : List Str → Bool) (l : List (List Str)) : (l.map PVs).filter (onLsB f) = (l.filter f).map PVs := by
  rw [List.filter_map]
  exact congrArg (List.map PVs) (List.filter_congr fun a _ => onLsB_at f a)
theorem ne_nil {x : List Str} : (!eqIs (x.map .str) []) = !x.isEmpty := by cases x <;> rfl
noncomputable def tf (b : Bool) : Str := if b then "True" else "False"
theorem cuts_mem {σ p0 pl : Str} {ins : List Str} {sz : Nat} {p : PV} (h : p ∈ (cutsP σ sz p0 ins pl).map PVs) : ∃ row ∈ rowsP σ (pcs p0 ins pl) sz, p = PVs (cutOf σ sz p0 ins pl row) := by
  refine Exists.elim (List.mem_map.mp h) fun c hc => ?_
  exact Exists.elim (List.mem_map.mp hc.1) fun row hr => ⟨row, hr.1, by rw [← hc.2, ← hr.2]⟩
set_option maxHeartbeats 1000000 in
/-- the first test -/
theorem c6 {σ p0 pl : Str} {ins : List Str} {sz : Nat} (F : Facts2 σ p0 ins pl sz) (hA : ∀ row ∈ rowsP σ (pcs p0 ins pl) sz, EmOk (Txt.join "..." (pcs p0 ins pl)) row (!(cutOf σ sz p0 ins pl row).isEmpty)) (S : Sit prog w (hd.heap_39 P) mb (n + 20) C X A (fEnv la.1.1 129 L) [("cuts", .list ((cutsP σ sz p0 ins pl).map PVs)), ("rows", .list ((rowsP σ (pcs p0 ins pl) sz).map .str)), ("pieces", .list ((pcs p0 ins pl).map .str)), ("sign", .str σ)] s) (O : Own X (fEnv la.1.1 129 L))
    (k : ∀ s', Ext prog w (FrO (fEnv la.1.1 129 L)) C s s' → Sit prog w (hd.heap_39 P) mb (n + 20) C X A (fEnv la.1.1 129 L) [("cuts", .list ((cutsP σ sz p0 ins pl).map PVs)), ("rows", .list ((rowsP σ (pcs p0 ins pl) sz).map .str)), ("pieces", .list ((pcs p0 ins pl).map .str))] s' → wpAny (model prog w) A (execs (la.1.2.drop 10) (fEnv la.1.1 129 L)) Q E s') :
    wpAny (model prog w) A (execs (la.1.2.drop 9) (fEnv la.1.1 129 L)) Q E s := by
  have hu : A.units < cLine := Nat.lt_of_le_of_lt (Nat.le_add_right _ _) S.rm.units
  have hn : (pcs p0 ins pl).length ≤ 8 := by rw [pcs_len F]; exact Nat.le_trans (Nat.add_le_add_right F.n3 2) (by decide)
  have hr32 := rows_num F
  refine x_pass (ts_eq (ts_cmp (p := .list (((rowsP σ (pcs p0 ins pl) sz).map fun row => tf (!(cutOf σ sz p0 ins pl row).isEmpty)).map .str)) (q := .list (((rowsP σ (pcs p0 ins pl) sz).map fun row => tf (!(cutOf σ sz p0 ins pl row).isEmpty)).map .str))
    (ev_eq (ev_lc (ps := (rowsP σ (pcs p0 ins pl) sz).map .str) S O.ap rfl (evi_list S (ev_v S rfl rfl)) (fun _ => true) (onS fun row => .str (tf (!(cutOf σ sz p0 ins pl row).isEmpty))) (.inl rfl) (by rw [List.length_map]; exact Nat.le_trans hr32 (by decide)) (by intro v; exact rfl) ?_) ?_)
    (ev_eq (ev_lc (ps := (cutsP σ sz p0 ins pl).map PVs) S O.ap rfl (evi_list S (ev_v S rfl rfl)) (fun _ => true) (onLs fun c => .str (tf (!c.isEmpty))) (.inl rfl) (by rw [List.length_map]; unfold cutsP; rw [List.length_map]; exact Nat.le_trans hr32 (by decide)) (by intro v; exact rfl) ?_) ?_)
    fun a b s' e ra rb => op_ne_list hu imm_strs imm_strs ra rb) (by rw [eqIs_str, decide_eq_true rfl]; rfl)) fun s₃ e₃ => k s₃ e₃.ofNo ((S.ext e₃).sub (sub_cons rfl (sub_cons rfl (sub_cons rfl sub_nil))))
  · intro L' cells X'' p s' hp S' ce e'
    refine Exists.elim (List.mem_map.mp hp) fun row hrow => ?_
    obtain rfl := hrow.2
    exact ⟨tests_nil, fun _ => ev_call_type (ev_builtin S' rfl rfl (by decide) rfl) (evs_cons (ev_em S' (ev_global S' rfl rfl) (evs_cons (ev_method ev_cstr (evs_cons (ev_free S' ce rfl rfl) evs_nil) (m_join (F.jp _ hn fun p hp => Nat.le_trans (F.len p hp).1 (by decide)).2)) (evs_cons (ev_loc S' rfl rfl) evs_nil)) (hA row hrow.1)) evs_nil) fun vs s' e r => c_str_bool r⟩
  · rw [List.filter_eq_self.mpr (fun _ _ => rfl), map_onS, List.map_map]; rfl
  · intro L' cells X'' p s' hp S' ce e'
    refine Exists.elim (cuts_mem hp) fun row hrow => ?_
    obtain rfl := hrow.2
    rw [onLs_at]
    exact ⟨tests_nil, fun _ => ev_call_type (ev_builtin S' rfl rfl (by decide) rfl) (evs_cons (ev_eq (ev_cmp (ev_loc S' rfl rfl) (ev_list S'.bd evs_nil (Nat.zero_le _)) fun a b s' e ra rb => op_ne_list hu imm_strs (fun _ h => absurd h List.not_mem_nil) ra rb) (congrArg PV.bool ne_nil)) evs_nil) fun vs s' e r => c_str_bool r⟩
  · rw [List.filter_eq_self.mpr (fun _ _ => rfl), map_onLs]
    unfold cutsP
    rw [List.map_map, List.map_map]; rfl
end Mine
end
section
open PySem PySem.W PySem.Calls PyProof.Rows
set_option Elab.async false
set_option maxRecDepth 100000
set_option linter.unusedVariables false
namespace Mine
variable {prog : Program} {w : World} {K : Frag} {mb : Str → Option Value} {X Y : Addr → Prop} {C C' : Mem} {s s' s'' : Shared} {A : Around} {env : Env} {ρ : List (Str × PV)} {n : Nat} {P : Params} {Q : Flow → Shared → Prop} {E : Value → Shared → Prop} {L : Addr}
/-! the shape of a cut -/
theorem cutS_head {lf : Nat → Str → Bool} {p0 r0 : Str} (i : Nat) : ∃ mid, (cutS lf p0 r0 i).1 = p0 :: mid ∧ mid.length = i := by
  induction i with
  | zero => exact ⟨[], rfl, rfl⟩
  | succ i ih => exact Exists.elim ih fun mid h => ⟨mid ++ [tk (cutS lf p0 r0 i).2 (fstK (lf (i + 1)) (cutS lf p0 r0 i).2)], by show (cutS lf p0 r0 i).1 ++ [_] = _; rw [h.1]; rfl, by rw [List.length_append, h.2]; rfl⟩
theorem cut_shape {lf : Nat → Str → Bool} {k : Nat} {row p0 pl : Str} (h : cutP lf (k + 2) row p0 pl ≠ []) : ∃ mid r, cutP lf (k + 2) row p0 pl = p0 :: (mid ++ [r, pl]) ∧ mid.length = k ∧ (cutS lf p0 (restOf row p0 pl) k).1 = p0 :: mid ∧ (cutS lf p0 (restOf row p0 pl) k).2 = r := by
  unfold cutP at h ⊢
  split at h
  · exact absurd rfl h
  · rename_i h1
    rw [if_neg h1]
    split at h
    · rename_i h2
      rw [if_pos h2]
      refine Exists.elim (cutS_head (lf := lf) (p0 := p0) (r0 := restOf row p0 pl) k) fun mid hm => ⟨mid, _, ?_, hm.2, hm.1, rfl⟩
      show (cutS lf p0 (restOf row p0 pl) k).1 ++ _ = _
      rw [hm.1]; rfl
    · exact absurd rfl h
theorem laid_at (a b r : Str) (mid : List Str) : laidS (a :: (mid ++ [r, b])) = Txt.join "" (b :: (mid.reverse ++ [r, a])) := by
  unfold laidS
  have h1 : pick (a :: (mid ++ [r, b])) (some 1) (some (-2)) none = mid := by
    rw [show (1 : Int) = ((1 : Nat) : Int) from rfl, show (-2 : Int) = -((2 : Nat) : Int) from rfl, pick_mid _ _ _ (by decide), List.length_cons, List.length_append]
    exact List.take_left
  have h2 : (a :: (mid ++ [r, b])).getLastD "" = b := by
    rw [show a :: (mid ++ [r, b]) = (a :: (mid ++ [r])) ++ [b] by rw [List.cons_append, List.append_assoc]; rfl, List.getLastD_concat]
  have h3 : (a :: (mid ++ [r, b])).getD ((a :: (mid ++ [r, b])).length - 2) "" = r := by
    rw [List.getD_eq_getElem?_getD, List.length_cons, List.length_append]
    show ((a :: (mid ++ [r, b]))[mid.length + 1]?).getD "" = r
    rw [List.getElem?_cons_succ, List.getElem?_append_right (Nat.le_refl _), Nat.sub_self]; rfl
  rw [h1, h2, h3]; rfl
theorem cut_get (a b r : Str) (mid : List Str) : ((a :: (mid ++ [r, b])).map PV.str)[(mid.length + 1 : Nat)]? = some (.str r) ∧ ((a :: (mid ++ [r, b])).map PV.str)[(mid.length + 2 : Nat)]? = some (.str b) := by
  constructor
  · rw [List.getElem?_map, List.getElem?_cons_succ, List.getElem?_append_right (Nat.le_refl _), Nat.sub_self]; rfl
  · rw [List.getElem?_map, List.getElem?_cons_succ, List.getElem?_append_right (Nat.le_succ _)]; show Option.map PV.str ([r, b][mid.length + 1 - mid.length]?) = _; rw [Nat.add_sub_cancel_left]; rfl
theorem cut_small {σ p0 pl : Str} {ins : List Str} {sz : Nat} (F : Facts2 σ p0 ins pl sz) {row : Str} (hr : row ∈ rowsP σ (pcs p0 ins pl) sz) {mid : List Str} {r : Str} {lf : Nat → Str → Bool} (h1 : (cutS lf p0 (restOf row p0 pl) ins.length).1 = p0 :: mid) (h2 : (cutS lf p0 (restOf row p0 pl) ins.length).2 = r) : (∀ y ∈ p0 :: mid, y.length ≤ 8) ∧ r.length ≤ 8 := by
  have hrest : (restOf row p0 pl).length ≤ 8 := Nat.le_trans (spick_len _ _ _) (rows_ok F hr).2.1
  rw [← h1, ← h2]
  exact ⟨cutS_small (Nat.le_trans F.l0 (by decide)) hrest _, Nat.le_trans (cutS_len _).2 hrest⟩
noncomputable def laidL (σ : Str) (sz : Nat) (p0 : Str) (ins : List Str) (pl : Str) : List Str := ((cutsP σ sz p0 ins pl).filter fun c => !c.isEmpty).map laidS
theorem neg3_1 {n : Nat} : -((n + 3 : Nat) : Int) ≤ -1 := by omega
theorem neg3_2 {n : Nat} : -((n + 3 : Nat) : Int) ≤ -2 := by omega
theorem toN3_1 {n : Nat} : (-(1 : Int) + ((n + 3 : Nat) : Int)).toNat = n + 2 := by omega
theorem toN3_2 {n : Nat} : (-(2 : Int) + ((n + 3 : Nat) : Int)).toNat = n + 1 := by omega
set_option maxHeartbeats 1000000 in
/-- laid -/
theorem c7 {σ p0 pl : Str} {ins : List Str} {sz : Nat} (F : Facts2 σ p0 ins pl sz) (S : Sit prog w (hd.heap_39 P) mb (n + 20) C X A (fEnv la.1.1 129 L) [("cuts", .list ((cutsP σ sz p0 ins pl).map PVs)), ("rows", .list ((rowsP σ (pcs p0 ins pl) sz).map .str)), ("pieces", .list ((pcs p0 ins pl).map .str))] s) (O : Own X (fEnv la.1.1 129 L))
    (k : ∀ s', Ext prog w (FrO (fEnv la.1.1 129 L)) C s s' → Sit prog w (hd.heap_39 P) mb (n + 20) C X A (fEnv la.1.1 129 L) [("laid", .list ((laidL σ sz p0 ins pl).map .str)), ("rows", .list ((rowsP σ (pcs p0 ins pl) sz).map .str)), ("pieces", .list ((pcs p0 ins pl).map .str))] s' → wpAny (model prog w) A (execs (la.1.2.drop 11) (fEnv la.1.1 129 L)) Q E s') :
    wpAny (model prog w) A (execs (la.1.2.drop 10) (fEnv la.1.1 129 L)) Q E s := by
  have hu : A.units < cLine := Nat.lt_of_le_of_lt (Nat.le_add_right _ _) S.rm.units
  have hr32 := rows_num F
  refine x_assign_comp (res := (laidL σ sz p0 ins pl).map .str) (J := fun _ => True) S O (kst_of rfl) ((spec_lc (ps := (cutsP σ sz p0 ins pl).map PVs) S O.ap rfl (evi_list S (ev_v S rfl rfl)) (onLsB fun c => !c.isEmpty) (onLs fun c => .str (laidS c)) (.inl rfl) (by rw [List.length_map]; unfold cutsP; rw [List.length_map]; exact Nat.le_trans hr32 (by decide)) (by intro v; exact rfl) ?_).mono fun a L s' r => r.eq ?_ fun _ => trivial) (by rfl) (fun _ _ _ _ _ _ => trivial) fun s₂ e₂ S₂ _ => ?_
  · intro L' cells X'' p s' hp S' ce e'
    refine Exists.elim (cuts_mem hp) fun row hrow => ?_
    obtain rfl := hrow.2
    rw [onLsB_at, onLs_at]
    refine ⟨tests_one (ts_eq (ts_cmp (ev_loc S' rfl rfl) (ev_list S'.bd evs_nil (Nat.zero_le _)) fun a b s' e ra rb => op_ne_list hu imm_strs (fun _ h => absurd h List.not_mem_nil) ra rb) ne_nil), fun hc => ?_⟩
    have hne : cutOf σ sz p0 ins pl row ≠ [] := fun q => by rw [q] at hc; cases hc
    have hsh := cut_shape (k := ins.length) hne
    clear hc
    refine Exists.elim hsh fun mid hsh => Exists.elim hsh fun r hsh => ?_
    have hsm := cut_small F hrow.1 hsh.2.2.1 hsh.2.2.2
    have heq : cutOf σ sz p0 ins pl row = p0 :: (mid ++ [r, pl]) := hsh.1
    rw [heq] at S' ⊢
    have hm3 : mid.length ≤ 3 := hsh.2.1 ▸ F.n3
    have hlen : ((p0 :: (mid ++ [r, pl])).map PV.str).length = mid.length + 3 := by rw [List.length_map, List.length_cons, List.length_append]; rfl
    have hsz : ((p0 :: (mid ++ [r, pl])).map PV.str).length ≤ sizeLine := by rw [hlen]; exact Nat.le_trans (Nat.add_le_add_right hm3 3) (by decide)
    have hms : (mid.map PV.str).length ≤ sizeLine := by rw [List.length_map]; exact Nat.le_trans hm3 (by decide)
    have hpm : pick ((p0 :: (mid ++ [r, pl])).map PV.str) (some 1) (some (-2)) none = mid.map .str := by
      rw [show (1 : Int) = ((1 : Nat) : Int) from rfl, show (-2 : Int) = -((2 : Nat) : Int) from rfl, pick_mid _ _ _ (by decide), hlen, List.map_cons, List.map_append]
      show ((mid.map PV.str) ++ _).take mid.length = _
      rw [← List.length_map (f := PV.str) (as := mid)]; exact List.take_left
    have hb8 : ∀ x ∈ pl :: (mid.reverse ++ [r, p0]), x.length ≤ 8 := fun x hx => (List.mem_cons.mp hx).elim (fun q => by rw [q]; exact Nat.le_trans F.ll (by decide)) fun hx => (List.mem_append.mp hx).elim (fun q => hsm.1 x (.tail _ (List.mem_reverse.mp q))) fun q => (List.mem_cons.mp q).elim (fun q => q ▸ hsm.2) fun q => hsm.1 x (List.mem_singleton.mp q ▸ .head _)
    rw [laid_at]
    refine ev_method ev_cstr (evs_cons (p := .list ((pl :: (mid.reverse ++ [r, p0])).map .str)) (ev_eq (ev_binop (ev_binop
      (ev_list S'.bd (evs_cons (ev_item_neg (p := .str pl) (ev_loc S' rfl rfl) (ev_neg ev_cint) (by decide) ?_ ?_ hsz) evs_nil) (show 1 ≤ sizeLine by decide))
      (ev_slice_list S'.bd (ev_eq (ev_slice_list S'.bd (ev_loc S' rfl rfl) (evp_some (X := X'') ev_cint) (evp_some (X := X'') (ev_neg ev_cint)) evp_none (by decide) hsz) (congrArg PV.list hpm)) evp_none evp_none (evp_some (X := X'') (ev_neg ev_cint)) (by decide) hms) fun a b s' e ra rb => op_add_list (S'.ext e).bd ra rb ?_)
      (ev_list S'.bd (evs_cons (ev_item_neg (p := .str r) (ev_loc S' rfl rfl) (ev_neg ev_cint) (by decide) ?_ ?_ hsz) (evs_cons (ev_item_list (p := .str p0) (ev_loc S' rfl rfl) ev_cint (by decide) rfl hsz) evs_nil)) (show 2 ≤ sizeLine by decide)) fun a b s' e ra rb => op_add_list (S'.ext e).bd ra rb ?_) ?_) evs_nil) (m_join (F.jp _ ?_ hb8).1)
    · rw [hlen]; exact neg3_1
    · rw [hlen, toN3_1]; exact (cut_get _ _ _ _).2
    · rw [pick_rev, List.length_reverse, List.length_map]; exact Nat.le_trans (Nat.add_le_add (show 1 ≤ 1 by decide) hm3) (by decide)
    · rw [hlen]; exact neg3_2
    · rw [hlen, toN3_2]; exact (cut_get _ _ _ _).1
    · rw [List.length_append, pick_rev, List.length_reverse, List.length_map]; exact Nat.le_trans (Nat.add_le_add (Nat.add_le_add (show 1 ≤ 1 by decide) hm3) (show 2 ≤ 2 by decide)) (by decide)
    · rw [pick_rev, List.map_cons, List.map_append, List.map_reverse]; rfl
    · rw [List.length_cons, List.length_append, List.length_reverse]; exact Nat.succ_le_succ (Nat.le_trans (Nat.add_le_add_right hm3 2) (by decide))
  · rw [filter_onLs, map_onLs]
    unfold laidL
    rw [List.map_map]; rfl
  · exact k s₂ e₂ (S₂.sub (sub_cons rfl (sub_cons rfl (sub_cons rfl sub_nil))))
end Mine
end
section
open PySem PySem.W PySem.Calls PyProof.Rows
set_option Elab.async false
set_option maxRecDepth 100000
set_option linter.unusedVariables false
namespace Mine
variable {prog : Program} {w : World} {K : Frag} {mb : Str → Option Value} {X Y : Addr → Prop} {C C' : Mem} {s s' s'' : Shared} {A : Around} {env : Env} {ρ : List (Str × PV)} {n : Nat} {P : Params} {Q : Flow → Shared → Prop} {E : Value → Shared → Prop} {L : Addr}
/-! sorted of a list of strs -/
theorem strs_are {h : Heap} {vs : List Value} {l : List PV} (r : Reps X h vs l) : ∀ {x : List Str}, l = x.map .str → StrsAre vs x := by
  induction r using Reps.rec (motive_1 := fun _ _ _ => True) with
  | none | bool | int | str | list | tup | val => trivial
  | nil => intro x hx; cases x with
    | nil => exact .nil
    | cons a x => cases hx
  | cons a r _ ih =>
    intro x hx
    cases x with
    | nil => cases hx
    | cons y x =>
      injection hx with h1 h2
      rw [h1] at a
      refine a.elS fun t => .cons y t (ih h2)
theorem reps_are {h : Heap} {vs : List Value} {x : List Str} (r : StrsAre vs x) : Reps X h vs (x.map .str) := by
  induction r with
  | nil => exact .nil
  | cons y t r ih => exact .cons (.str y t) ih
theorem c_sorted {x T : List Str} {vs : List Value} (bd : ∀ a, X a → a < s.heap.objs.size) (r : Reps X s.heap vs [.list (x.map .str)]) (hx : x.length < 64) (hT : ∀ ss, ss.Perm x → sortedS ss = true → ss = T) : DoV prog w C X A (call (.builtin "sorted") vs) (.list (T.map .str)) s := by
  refine Mine.Reps.elC r fun _ _ a b => ?_
  refine Mine.Reps.elN b ?_
  intro s₁ e₁ Q E k
  refine Mine.Rep.elL (a.ext e₁.ofNo) fun D items hD hl hr => ?_
  have hS := strs_are hr rfl
  have hlen : items.toList.length < 64 := by rw [hr.length, List.length_map]; exact hx
  refine with_size (sorted_strs (vs := items.toList) (by rw [Array.toArray_toList]; exact hl) hS hlen fun out ss' h1 h2 h3 hsz => ?_)
  have hk : ∀ b o, s₁.heap.get? b = some o → (sortedAll s₁.heap items.toList out).get? b = some o := fun b o h => sortedAll_old h
  refine k _ _ ⟨hsz, fun b o h _ => .inl (hk b o h), rfl, rfl⟩ (.list (fun q => Nat.lt_irrefl _ (Nat.lt_of_lt_of_le (Nat.lt_succ_of_le (Nat.le_refl _)) (Nat.le_of_lt (Nat.lt_of_lt_of_le (bd _ q) e₁.size)))) (Exists.elim (sortedAll_at s₁.heap items.toList out) fun e he => ⟨_, he, rfl, e, rfl⟩) ?_)
  rw [← hT ss' h2 h3]
  exact reps_are h1
end Mine
end
section
open PySem PySem.W PySem.Calls PyProof.Rows
set_option Elab.async false
set_option maxRecDepth 100000
set_option linter.unusedVariables false
namespace Mine
variable {prog : Program} {w : World} {K : Frag} {mb : Str → Option Value} {X Y : Addr → Prop} {C C' : Mem} {s s' s'' : Shared} {A : Around} {env : Env} {ρ : List (Str × PV)} {n : Nat} {P : Params} {Q : Flow → Shared → Prop} {E : Value → Shared → Prop} {L : Addr}
theorem laid_len {σ p0 pl : Str} {ins : List Str} {sz : Nat} (F : Facts2 σ p0 ins pl sz) : (laidL σ sz p0 ins pl).length ≤ 32 := by
  unfold laidL
  rw [List.length_map]
  refine Nat.le_trans (List.length_filter_le _ _) ?_
  unfold cutsP
  rw [List.length_map]; exact rows_num F
theorem map_id_str {l : List Str} {b : Str → Bool} : ((l.map PV.str).filter (onB b)).map id = (l.filter b).map .str := by
  rw [List.map_id, List.filter_map]; rfl
set_option maxHeartbeats 1000000 in
/-- the second test -/
theorem c8 {σ p0 pl : Str} {ins : List Str} {sz : Nat} {b2 : Str → Bool} (F : Facts2 σ p0 ins pl sz) (hB : ∀ row ∈ rowsP σ (pcs p0 ins pl) sz, EmOk (Txt.join "..." (pcs p0 ins pl).reverse) row (b2 row)) (hT : ∀ ss, ss.Perm (laidL σ sz p0 ins pl) → sortedS ss = true → ss = (rowsP σ (pcs p0 ins pl) sz).filter b2) (S : Sit prog w (hd.heap_39 P) mb (n + 20) C X A (fEnv la.1.1 129 L) [("laid", .list ((laidL σ sz p0 ins pl).map .str)), ("rows", .list ((rowsP σ (pcs p0 ins pl) sz).map .str)), ("pieces", .list ((pcs p0 ins pl).map .str))] s) (O : Own X (fEnv la.1.1 129 L))
    (k : ∀ s', Ext prog w (FrO (fEnv la.1.1 129 L)) C s s' → Sit prog w (hd.heap_39 P) mb (n + 20) C X A (fEnv la.1.1 129 L) [("laid", .list ((laidL σ sz p0 ins pl).map .str)), ("rows", .list ((rowsP σ (pcs p0 ins pl) sz).map .str)), ("pieces", .list ((pcs p0 ins pl).map .str))] s' → wpAny (model prog w) A (execs (la.1.2.drop 12) (fEnv la.1.1 129 L)) Q E s') :
    wpAny (model prog w) A (execs (la.1.2.drop 11) (fEnv la.1.1 129 L)) Q E s := by
  have hu : A.units < cLine := Nat.lt_of_le_of_lt (Nat.le_add_right _ _) S.rm.units
  have hn : (pcs p0 ins pl).length ≤ 8 := by rw [pcs_len F]; exact Nat.le_trans (Nat.add_le_add_right F.n3 2) (by decide)
  have hsz : ((pcs p0 ins pl).map PV.str).length ≤ sizeLine := by rw [List.length_map]; exact Nat.le_trans hn (by decide)
  refine x_pass (ts_eq (ts_cmp (p := .list (((rowsP σ (pcs p0 ins pl) sz).filter b2).map .str)) (q := .list (((rowsP σ (pcs p0 ins pl) sz).filter b2).map .str))
    (ev_call_builtin (ev_builtin S rfl rfl (by decide) rfl) (evs_cons (ev_v S rfl rfl) evs_nil) fun vs s' e r => c_sorted (S.ext e).bd r (Nat.lt_of_le_of_lt (laid_len F) (by decide)) hT)
    (ev_eq (ev_lc (ps := (rowsP σ (pcs p0 ins pl) sz).map .str) S O.ap rfl (evi_list S (ev_v S rfl rfl)) (onB b2) id (.inl rfl) (by rw [List.length_map]; exact Nat.le_trans (rows_num F) (by decide)) (by intro v; exact rfl) ?_) (congrArg PV.list map_id_str))
    fun a b s' e ra rb => op_ne_list hu imm_strs imm_strs ra rb) (by rw [eqIs_str, decide_eq_true rfl]; rfl)) fun s₃ e₃ => k s₃ e₃.ofNo (S.ext e₃)
  intro L' cells X'' p s' hp S' ce e'
  refine Exists.elim (List.mem_map.mp hp) fun row hrow => ?_
  obtain rfl := hrow.2
  exact ⟨tests_one (ts_bool (ev_em S' (ev_global S' rfl rfl) (evs_cons (ev_method ev_cstr (evs_cons (ev_eq (ev_slice_list S'.bd (ev_free S' ce rfl rfl) evp_none evp_none (evp_some (X := X'') (ev_neg ev_cint)) (by decide) hsz) (by rw [pick_rev, ← List.map_reverse])) evs_nil) (m_join (F.jp _ (by rw [List.length_reverse]; exact hn) fun p hp => Nat.le_trans (F.len p (List.mem_reverse.mp hp)).1 (by decide)).2)) (evs_cons (ev_loc S' rfl rfl) evs_nil)) (hB row hrow.1))), fun _ => ev_loc S' rfl rfl⟩
theorem revS_len (u : Str) : (revS u).length = u.length := by
  show (pick (lst u) none none (some (-1))).length = _
  rw [pick_rev, List.length_reverse]; rfl
theorem turn_small {σ p0 pl : Str} {ins : List Str} {sz : Nat} (F : Facts2 σ p0 ins pl sz) : ∀ p ∈ pcs p0 (ins.map revS) pl, p.length ≤ 8 := fun p hp => (List.mem_cons.mp hp).elim (fun q => q ▸ Nat.le_trans F.l0 (by decide)) fun hp => (List.mem_append.mp hp).elim (fun q => Exists.elim (List.mem_map.mp q) fun x hx => by rw [← hx.2, revS_len]; exact Nat.le_trans (F.len x (.tail _ (List.mem_append_left _ hx.1))).1 (by decide)) fun q => List.mem_singleton.mp q ▸ Nat.le_trans F.ll (by decide)
set_option maxHeartbeats 1000000 in
/-- turned, the answer -/
theorem c9 {σ p0 pl : Str} {ins : List Str} {sz : Nat} {b3 : Str → Bool} (F : Facts2 σ p0 ins pl sz) (hB : ∀ row ∈ rowsP σ (pcs p0 ins pl) sz, EmOk (Txt.join "..." (pcs p0 (ins.map revS) pl)) row (b3 row)) (hT : ((rowsP σ (pcs p0 ins pl) sz).filter b3).length = (laidL σ sz p0 ins pl).length) (S : Sit prog w (hd.heap_39 P) mb (n + 20) C X A (fEnv la.1.1 129 L) [("laid", .list ((laidL σ sz p0 ins pl).map .str)), ("rows", .list ((rowsP σ (pcs p0 ins pl) sz).map .str)), ("pieces", .list ((pcs p0 ins pl).map .str))] s) (O : Own X (fEnv la.1.1 129 L))
    (k : ∀ v s', Ext prog w (FrO (fEnv la.1.1 129 L)) C s s' → Rep X s'.heap v (.bool true) → Q (.ret v) s') :
    wpAny (model prog w) A (execs (la.1.2.drop 12) (fEnv la.1.1 129 L)) Q E s := by
  have hn : (pcs p0 ins pl).length ≤ 8 := by rw [pcs_len F]; exact Nat.le_trans (Nat.add_le_add_right F.n3 2) (by decide)
  have hsz : ((pcs p0 ins pl).map PV.str).length ≤ sizeLine := by rw [List.length_map]; exact Nat.le_trans hn (by decide)
  have hp : (pcs p0 ins pl).map PV.str = .str p0 :: (ins.map .str ++ [.str pl]) := by unfold pcs; rw [List.map_cons, List.map_append]; rfl
  have hn' : (pcs p0 (ins.map revS) pl).length ≤ 8 := by unfold pcs; rw [List.length_cons, List.length_append, List.length_map]; exact Nat.succ_le_succ (Nat.succ_le_succ (Nat.le_trans F.n3 (by decide)))
  refine x_assign (p := .list ((pcs p0 (ins.map revS) pl).map .str)) S O (kst_of rfl) (ev_eq (ev_binop (ev_binop
    (ev_eq (ev_slice_list S.bd (ev_v S rfl rfl) evp_none (evp_some (X := X) ev_cint) evp_none (by decide) hsz) (by rw [hp, pk_1]))
    (ev_lc (ps := ins.map .str) S O.ap rfl (evi_list S (ev_eq (ev_slice_list S.bd (ev_v S rfl rfl) (evp_some (X := X) ev_cint) (evp_some (X := X) (ev_neg ev_cint)) evp_none (by decide) hsz) (by rw [hp, pk_m]))) (fun _ => true) (onS fun p => .str (revS p)) (.inl rfl) (by rw [List.length_map]; exact Nat.le_trans F.n3 (by decide)) (by intro v; exact rfl) ?_) fun a b s' e ra rb => op_add_list (S.ext e).bd ra rb ?_)
    (ev_eq (ev_slice_list S.bd (ev_v S rfl rfl) (evp_some (X := X) (ev_neg ev_cint)) evp_none evp_none (by decide) hsz) (by rw [hp, pk_l])) fun a b s' e ra rb => op_add_list (S.ext e).bd ra rb ?_) ?_) (by rfl) fun s₂ e₂ S₂ => ?_
  · intro L' cells X'' p s' hp S' ce e'
    refine Exists.elim (List.mem_map.mp hp) fun x hx => ?_
    obtain rfl := hx.2
    exact ⟨tests_nil, fun _ => ev_slice_strG (ev_loc S' rfl rfl) evp_none evp_none (evp_some (X := X'') (ev_neg ev_cint)) (Nat.le_trans (F.len x (.tail _ (List.mem_append_left _ hx.1))).1 (by decide))⟩
  · rw [List.length_map, List.filter_eq_self.mpr (fun _ _ => rfl), List.length_map]
    exact Nat.le_trans (Nat.add_le_add (show 1 ≤ 1 by decide) F.n3) (by decide)
  · rw [List.length_append, List.length_map, List.filter_eq_self.mpr (fun _ _ => rfl), List.length_map]
    exact Nat.le_trans (Nat.add_le_add (Nat.add_le_add (show 1 ≤ 1 by decide) F.n3) (show 1 ≤ 1 by decide)) (by decide)
  · rw [List.filter_eq_self.mpr (fun _ _ => rfl), map_onS]
    unfold pcs
    rw [List.map_cons, List.map_append, List.map_map]
    rfl
  have hr := rows_num F
  have hz : (32 : Nat) ≤ sizeLine := by decide
  refine x_return (X := X) (p := .bool true) (ev_eq (ev_cmp (ev_call_builtin (ev_builtin S₂ rfl rfl (by decide) rfl) (evs_cons (ev_eq (ev_lc (ps := (rowsP σ (pcs p0 ins pl) sz).map .str) S₂ O.ap rfl (evi_list S₂ (ev_v S₂ rfl rfl)) (onB b3) id (.inl rfl) (by rw [List.length_map]; exact Nat.le_trans hr (by decide)) (by intro v; exact rfl) ?_) (congrArg PV.list map_id_str)) evs_nil) fun vs s' e r => c_len_list r (by rw [List.length_map]; exact Nat.le_trans (List.length_filter_le _ _) (Nat.le_trans hr hz))) (ev_call_builtin (ev_builtin S₂ rfl rfl (by decide) rfl) (evs_cons (ev_v S₂ rfl rfl) evs_nil) fun vs s' e r => c_len_list r (by rw [List.length_map]; exact Nat.le_trans (laid_len F) hz)) fun a b s' e ra rb => op_eq_int ra rb) ?_) fun v s₃ e₃ r => k v s₃ (e₂.trans e₃.ofNo) r
  · intro L' cells X'' p s' hp S' ce e'
    refine Exists.elim (List.mem_map.mp hp) fun row hrow => ?_
    obtain rfl := hrow.2
    exact ⟨tests_one (ts_bool (ev_em S' (ev_global S' rfl rfl) (evs_cons (ev_method ev_cstr (evs_cons (ev_free S' ce rfl rfl) evs_nil) (m_join (F.jp _ hn' (turn_small F)).2)) (evs_cons (ev_loc S' rfl rfl) evs_nil)) (hB row hrow.1))), fun _ => ev_loc S' rfl rfl⟩
  · rw [List.length_map, List.length_map, hT]
    exact congrArg PV.bool (beq_self_eq_true _)
end Mine
end
section
open PySem PySem.W PySem.Calls PyProof.Rows
set_option Elab.async false
set_option maxRecDepth 100000
set_option linter.unusedVariables false
namespace Mine
/-- what law 2's walk asks of the plain side -/
structure Facts3 (σ : Str) (p0 : Str) (ins : List Str) (pl : Str) (sz : Nat) : Prop where
  F : Facts2 σ p0 ins pl sz
  hA : ∀ row ∈ rowsP σ (pcs p0 ins pl) sz, EmOk (Txt.join "..." (pcs p0 ins pl)) row (!(cutOf σ sz p0 ins pl row).isEmpty)
  hB : ∃ b2 : Str → Bool, (∀ row ∈ rowsP σ (pcs p0 ins pl) sz, EmOk (Txt.join "..." (pcs p0 ins pl).reverse) row (b2 row)) ∧ ∀ ss, ss.Perm (laidL σ sz p0 ins pl) → sortedS ss = true → ss = (rowsP σ (pcs p0 ins pl) sz).filter b2
  hC : ∃ b3 : Str → Bool, (∀ row ∈ rowsP σ (pcs p0 ins pl) sz, EmOk (Txt.join "..." (pcs p0 (ins.map revS) pl)) row (b3 row)) ∧ ((rowsP σ (pcs p0 ins pl) sz).filter b3).length = (laidL σ sz p0 ins pl).length
theorem law_walk (facts : ∀ ns : List Int, Facts3 (sigOf ns) (wAt (sigOf ns) ((dAt ns 0).fmod 3)) (inOf ns) (wAt (sigOf ns) ((dAt ns 1).fmod 3)) (szOf ns)) (prog : Program) : LawGoal prog := by
  intro w mb s ns l hlen S hr
  obtain ⟨F, hA, ⟨b2, hB, hB'⟩, b3, hC, hD⟩ := facts ns
  refine call_fn (n := 39) S (la.2 w.params) (.cons hr .nil) rfl (la_bind _) fun s₀ L s₁ X' e₀ e₁ O hXX hlo S₁ => ?_
  refine c1 (n := 19) S₁ O hlen fun s₂ e₂ S₂ => ?_
  refine c2 F S₂ O fun s₃ e₃ S₃ => ?_
  refine c3 F S₃ O fun s₄ e₄ S₄ => ?_
  refine c4 (ρ := []) F (fun _ _ => rfl) S₄ O fun s₅ C' xs e₅ hC' S₅ R₅ => ?_
  refine c5 F S₅ O R₅ fun s₆ e₆ S₆ => ?_
  refine c6 F hA S₆ O fun s₇ e₇ S₇ => ?_
  refine c7 F S₇ O fun s₈ e₈ S₈ => ?_
  refine c8 F hB hB' S₈ O fun s₉ e₉ S₉ => ?_
  refine c9 F hC hD S₉ O fun v sa ea r v' hv => ?_
  have f1 : Ext prog w (FrO (fEnv la.1.1 129 L)) noMem s₁ s₄ := e₂.trans (e₃.trans e₄)
  have f2 : Ext prog w (FrO (fEnv la.1.1 129 L)) C' s₅ sa := e₆.trans (e₇.trans (e₈.trans (e₉.trans ea)))
  refine ⟨(f1.trans e₅).newC f2 fun a ha => hC' a (Nat.lt_of_lt_of_le ha f1.size), fun _ => ?_⟩
  rw [hv]
  exact Mine.Rep.elB r fun _ => .bool true
end Mine
end
section
open PySem PySem.W PySem.Calls PyProof.Rows
open PySem.StrLaws Builtin
set_option Elab.async false
set_option maxRecDepth 100000
set_option linter.unusedVariables false
namespace Mine
open V
variable {c sz : Nat} {p0 pl row : Str} {ins : List Str}
theorem two_sg2 {u : Str} (h : ∀ x ∈ lst u, x ∈ lst (sg2 (sgn c))) : Two c (lst u) := fun x hx => by
  have : x ∈ [10, c] := h x hx
  exact (List.mem_cons.mp this).elim .inr fun q => .inl (List.mem_singleton.mp q)
theorem rev_short {l : List Nat} (h : l.length ≤ 1) : l.reverse = l := by
  match l, h with
  | [], _ => rfl
  | [x], _ => rfl
theorem any_one {α : Type} {a : α} {f : α → Bool} : [a].any f = f a := Bool.or_false _
theorem told_at (F : Facts2 (sgn c) p0 ins pl sz) {i : Nat} (h : i < ins.length + 2) : (toldP (sgn c) sz p0 ins pl).getD i [] ∈ toldP (sgn c) sz p0 ins pl := by
  rw [← told_len (σ := sgn c) (sz := sz) (p0 := p0) (pl := pl)] at h
  rw [List.getD_eq_getElem?_getD, List.getElem?_eq_getElem h]
  exact List.getElem_mem h
theorem tells (F : Facts2 (sgn c) p0 ins pl sz) (hc : 97 ≤ c) (hr : row ∈ rowsP (sgn c) (pcs p0 ins pl) sz) : Tells (lfP (sgn c) (toldP (sgn c) sz p0 ins pl)) p0 ins pl row := by
  have h10 : c ≠ 10 := fun q => absurd (q ▸ hc) (by decide)
  have h46 : 46 ≠ c := fun q => absurd (q ▸ hc) (by decide)
  have h47 : 47 ≠ c := fun q => absurd (q ▸ hc) (by decide)
  have hrow := rows_ok F hr
  have hw : ∀ i, i < ins.length + 2 → ∀ w ∈ (toldP (sgn c) sz p0 ins pl).getD i [], Two c (lst w) ∧ w.length ≤ 8 := fun i hi w hw => by
    have := (told_ok F _ (told_at F hi)).2 w hw
    exact ⟨two_sg2 this.2, this.1⟩
  have h2 : Two c (lst row) := two_sg2 hrow.2.2
  refine ⟨?_, ?_, fun i p hp v hv => ?_⟩
  · rw [lf_eq h10 h46 h47 h2 (hw 0 (Nat.zero_lt_succ _))]
    exact any_one
  · have hl : lst (revS row) = (lst row).reverse := lst_revS row
    have e : (toldP (sgn c) sz p0 ins pl).getD (ins.length + 1) [] = [pl] := by
      unfold toldP
      rw [List.getD_cons_succ, List.getD_eq_getElem?_getD, List.getElem?_append_right (by rw [List.length_map]; exact Nat.le_refl _), List.length_map, Nat.sub_self]; rfl
    rw [lf_eq h10 h46 h47 (by rw [hl]; exact fun x hx => h2 x (List.mem_reverse.mp hx)) (hw (ins.length + 1) (Nat.lt_succ_self _)), e, any_one, hl]
    refine decide_eq_decide.mpr ?_
    exact (Iff.of_eq (congrArg (· <+: (lst row).reverse) (rev_short (l := lst pl) (by rw [← len_lst]; exact F.ll)).symm)).trans List.reverse_prefix
  · have hi := (List.getElem?_eq_some_iff.mp hp).1
    have hv2 : Two c (lst v) := fun x hx => h2 x (hv.subset hx)
    have e : (toldP (sgn c) sz p0 ins pl).getD (i + 1) [] = firstsP (sgn c) sz p := by
      unfold toldP
      rw [List.getD_cons_succ, List.getD_eq_getElem?_getD, List.getElem?_append_left (by rw [List.length_map]; exact hi), List.getElem?_map, hp]; rfl
    rw [lf_eq h10 h46 h47 hv2 (hw (i + 1) (Nat.succ_lt_succ (Nat.lt_succ_of_lt hi))), e, Bool.eq_iff_iff, List.any_eq_true, decide_eq_true_eq]
    constructor
    · rintro ⟨w, hm, h⟩
      exact ((firsts_mem w).mp hm).2.2.1.isInfix.trans (of_decide_eq_true h).isInfix
    · intro h
      rcases fw_or (lst p) (lst v) with ⟨d, r, e, hf⟩ | hno
      · refine ⟨ofL d, (firsts_mem _).mpr ⟨?_, fun x hx => ?_, hf⟩, decide_eq_true ⟨r, e.symm⟩⟩
        · refine Nat.le_trans (show d.length ≤ (lst v).length by rw [e, List.length_append]; exact Nat.le_add_right _ _) (Nat.le_trans hv.length_le ?_)
          rw [← len_lst, hrow.1]; exact Nat.le_refl _
        · exact hrow.2.2 x (hv.subset (by rw [e]; exact List.mem_append_left _ hx))
      · exact absurd h hno
theorem ends_len (F : Facts2 (sgn c) p0 ins pl sz) (hr : row ∈ rowsP (sgn c) (pcs p0 ins pl) sz) : p0.length + pl.length ≤ row.length := by
  rw [(rows_ok F hr).1]; exact Nat.le_trans (Nat.add_le_add F.l0 F.ll) (Nat.le_trans (by decide) F.h4)
theorem cut_iff (F : Facts2 (sgn c) p0 ins pl sz) (hc : 97 ≤ c) (hr : row ∈ rowsP (sgn c) (pcs p0 ins pl) sz) : emW (pcs p0 ins pl) row = !(cutOf (sgn c) sz p0 ins pl row).isEmpty := by
  have hz := ends_len F hr
  rw [Bool.eq_iff_iff]
  refine (em_cut hz).trans ⟨fun ⟨cs, rest, h⟩ => ?_, fun h => ?_⟩
  · unfold cutOf
    rw [cut_yes (tells F hc hr) h]; rfl
  · refine cut_no (tells F hc hr) hz fun q => ?_
    unfold cutOf at h
    rw [q] at h; cases h
theorem joinL_nil (ps : List (List Nat)) : joinL [] ps = ps.flatten := by
  induction ps with
  | nil => rfl
  | cons p ps ih =>
    cases ps with
    | nil => exact (List.append_nil p).symm
    | cons q ps => show p ++ [] ++ joinL [] (q :: ps) = _; rw [ih, List.append_nil]; rfl
theorem map_ofL (cs : List (List Nat)) : (cs.map ofL).map lst = cs := List.map_map.trans (List.map_id cs)
theorem laid_lst (F : Facts2 (sgn c) p0 ins pl sz) (hc : 97 ≤ c) (hr : row ∈ rowsP (sgn c) (pcs p0 ins pl) sz) {cs : List (List Nat)} {rest : List Nat} (h : Fits (lst p0) (ins.map lst) (lst pl) (lst row) cs rest) : lst (laidS (cutOf (sgn c) sz p0 ins pl row)) = lst pl ++ (cs.reverse.flatten ++ (rest ++ lst p0)) := by
  unfold cutOf
  rw [cut_yes (tells F hc hr) h, laid_at, lst_join]
  show joinL [] _ = _
  rw [joinL_nil, List.map_cons, List.map_append, List.map_reverse, map_ofL, List.flatten_cons, List.flatten_append]
  show lst pl ++ (cs.reverse.flatten ++ (rest ++ (lst p0 ++ []))) = _
  rw [List.append_nil]
end Mine
end
section
open PySem PySem.W PySem.Calls PyProof.Rows
open PySem.StrLaws Builtin
set_option Elab.async false
set_option maxRecDepth 100000
set_option linter.unusedVariables false
namespace Mine
open V
variable {c sz : Nat} {p0 pl row : Str} {ins : List Str}
/-! the three facts -/
noncomputable def Pc (c : Nat) (p : Str) : Prop := p.length ≤ 2 ∧ ∀ x ∈ lst p, x ∈ lst (sg2 (sgn c))
theorem em_ok (hc : 97 ≤ c) {ws : List Str} (h2 : 2 ≤ ws.length) (h5 : ws.length ≤ 5) (hp : ∀ p ∈ ws, Pc c p) (hr : row.length ≤ 8) : EmOk (Txt.join "..." ws) row (emW ws row) := by
  refine emOk_of (lst_join _ _) h2 (fun p h q => ?_) ?_ (Nat.le_trans hr (by decide)) (Nat.le_trans h5 (by decide)) (fun p h => Nat.le_trans (hp p h).1 (by decide)) rfl
  · have := two_sg2 (hp p h).2 46 q
    exact this.elim (fun e => absurd (e ▸ hc) (by decide)) fun e => absurd e (by decide)
  · refine Nat.le_trans (join_len fun p h => (hp p h).1) (Nat.le_trans (Nat.add_le_add (Nat.mul_le_mul_right 2 h5) (Nat.mul_le_mul_right _ h5)) (by decide))
theorem pcs_rev : (pcs p0 ins pl).reverse = pcs pl ins.reverse p0 := by
  unfold pcs
  rw [List.reverse_cons, List.reverse_append]; rfl
theorem rows_nd {ws : List Str} {b : Str → Bool} (hc : 97 ≤ c) : ((rowsP (sgn c) ws sz).filter b).Pairwise fun a b => LtL (lst a) (lst b) :=
  List.Pairwise.filter _ (ro_sorted (List.pairwise_cons.mpr ⟨fun x hx => List.mem_singleton.mp hx ▸ Nat.lt_of_lt_of_le (by decide : 10 < 97) hc, List.pairwise_singleton _ _⟩) _)
theorem LtL.ne {a b : List Nat} (h : LtL a b) : a ≠ b := fun e => List.lt_irrefl _ (e ▸ h.lt)
theorem laid_perm (F : Facts2 (sgn c) p0 ins pl sz) (hc : 97 ≤ c) : (laidL (sgn c) sz p0 ins pl).Perm ((rowsP (sgn c) (pcs p0 ins pl) sz).filter (emW (pcs pl ins.reverse p0))) := by
  have hL : laidL (sgn c) sz p0 ins pl = ((rowsP (sgn c) (pcs p0 ins pl) sz).filter fun r => !(cutOf (sgn c) sz p0 ins pl r).isEmpty).map fun r => laidS (cutOf (sgn c) sz p0 ins pl r) := by
    unfold laidL cutsP
    rw [List.filter_map, List.map_map]; rfl
  have hfit : ∀ u ∈ (rowsP (sgn c) (pcs p0 ins pl) sz).filter fun r => !(cutOf (sgn c) sz p0 ins pl r).isEmpty, u ∈ rowsP (sgn c) (pcs p0 ins pl) sz ∧ ∃ cs rest, Fits (lst p0) (ins.map lst) (lst pl) (lst u) cs rest := fun u hu => by
    obtain ⟨h1, h2⟩ := List.mem_filter.mp hu
    exact ⟨h1, (em_cut (ends_len F h1)).mp ((cut_iff F hc h1).trans h2)⟩
  have hrm : ∀ {x : List (List Nat)}, x = ins.map lst → x.reverse = ins.reverse.map lst := fun e => by rw [e, List.map_reverse]
  rw [hL]
  refine (List.perm_ext_iff_of_nodup (List.nodup_iff_pairwise_ne.mpr (List.pairwise_map.mpr ((rows_nd hc).imp_of_mem fun {u v} hu hv h e => ?_))) (List.nodup_iff_pairwise_ne.mpr ((rows_nd hc).imp fun h e => h.ne (congrArg lst e)))).mpr fun v => ⟨fun hv => ?_, fun hv => ?_⟩
  · obtain ⟨hu1, cs, rest, hf⟩ := hfit u hu
    obtain ⟨hv1, cs', rest', hf'⟩ := hfit v hv
    have e1 := laid_lst F hc hu1 hf
    have e2 := laid_lst F hc hv1 hf'
    have e3 : lst pl ++ (cs.reverse.flatten ++ (rest ++ lst p0)) = lst pl ++ (cs'.reverse.flatten ++ (rest' ++ lst p0)) := e1.symm.trans ((congrArg lst e).trans e2)
    have q := (hf.turn).uniq (e3 ▸ hf'.turn)
    refine h.ne ?_
    rw [hf.2, hf'.2, List.reverse_inj.mp q.1, q.2]
  · obtain ⟨u, hu, rfl⟩ := List.mem_map.mp hv
    obtain ⟨hu1, cs, rest, hf⟩ := hfit u hu
    have e1 := laid_lst F hc hu1 hf
    have hm : laidS (cutOf (sgn c) sz p0 ins pl u) ∈ rowsP (sgn c) (pcs p0 ins pl) sz := ro_perm hu1 (by rw [e1, hf.2]; exact swap_perm (flat_rev cs))
    refine List.mem_filter.mpr ⟨hm, (em_cut (by rw [Nat.add_comm]; exact ends_len F hm)).mpr ⟨cs.reverse, rest, ?_⟩⟩
    rw [e1, ← hrm rfl]; exact hf.turn
  · obtain ⟨h1, h2⟩ := List.mem_filter.mp hv
    obtain ⟨cs, rest, hf⟩ := (em_cut (by rw [Nat.add_comm]; exact ends_len F h1)).mp h2
    rw [← hrm rfl] at hf
    have hg := hf.turn'
    have hm : ofL (lst p0 ++ (cs.reverse.flatten ++ (rest ++ lst pl))) ∈ rowsP (sgn c) (pcs p0 ins pl) sz := ro_perm h1 (by rw [hf.2]; exact swap_perm (flat_rev cs))
    refine List.mem_map.mpr ⟨_, List.mem_filter.mpr ⟨hm, (cut_iff F hc hm).symm.trans ((em_cut (ends_len F hm)).mpr ⟨_, _, hg⟩)⟩, lst_inj ?_⟩
    rw [laid_lst F hc hm hg, List.reverse_reverse]; exact hf.2.symm
theorem count_le {rows : List Str} (hn : rows.Nodup) {a b : Str → Bool} (R : Str → Str → Prop) (h : ∀ u ∈ rows, a u = true → ∃ v ∈ rows, b v = true ∧ R u v) (hi : ∀ u u' v, R u v → R u' v → u = u') : (rows.filter a).length ≤ (rows.filter b).length := by
  have hf : ∀ u, ∃ v, u ∈ rows.filter a → v ∈ rows.filter b ∧ R u v := fun u => by
    by_cases hu : u ∈ rows.filter a
    · obtain ⟨h1, h2⟩ := List.mem_filter.mp hu
      obtain ⟨v, g1, g2, g3⟩ := h u h1 h2
      exact ⟨v, fun _ => ⟨List.mem_filter.mpr ⟨g1, g2⟩, g3⟩⟩
    · exact ⟨u, fun q => absurd q hu⟩
  obtain ⟨f, hf⟩ := Classical.axiomOfChoice hf
  rw [← List.length_map (f := f)]
  refine List.Nodup.length_le_of_subset (List.nodup_iff_pairwise_ne.mpr (List.pairwise_map.mpr ((List.Pairwise.filter _ (List.nodup_iff_pairwise_ne.mp hn)).imp_of_mem fun {u v} hu hv h e => h (hi u v (f u) (hf u hu).2 (e ▸ (hf v hv).2))))) fun v hv => ?_
  obtain ⟨u, hu, rfl⟩ := List.mem_map.mp hv
  exact (hf u hu).1
theorem turn_le {ws : List Str} (hc : 97 ≤ c) (hz : ∀ u ∈ rowsP (sgn c) ws sz, p0.length + pl.length ≤ u.length) (h2 : ∀ p ∈ ins, p.length ≤ 2) : ((rowsP (sgn c) ws sz).filter (emW (pcs p0 ins pl))).length ≤ ((rowsP (sgn c) ws sz).filter (emW (pcs p0 (ins.map revS) pl))).length := by
  have hrm : (ins.map lst).map List.reverse = (ins.map revS).map lst := by
    rw [List.map_map, List.map_map]
    exact List.map_congr_left fun p _ => (lst_revS p).symm
  have hl2 : ∀ p ∈ ins.map lst, p.length ≤ 2 := fun p hp => by
    obtain ⟨x, hx, rfl⟩ := List.mem_map.mp hp
    rw [← len_lst]; exact h2 x hx
  have hnd : (rowsP (sgn c) ws sz).Nodup := by
    have := rows_nd (c := c) (sz := sz) (ws := ws) (b := fun _ => true) hc
    rw [List.filter_eq_self.mpr fun _ _ => rfl] at this
    exact List.nodup_iff_pairwise_ne.mpr (this.imp fun h e => h.ne (congrArg lst e))
  refine count_le hnd (fun u v => ∃ cs rest, Fits (lst p0) (ins.map lst) (lst pl) (lst u) cs rest ∧ lst v = lst p0 ++ ((List.zipWith turn (ins.map lst) cs).flatten ++ (rest ++ lst pl))) (fun u hu ha => ?_) fun u u' v ⟨cs, rest, h1, e1⟩ ⟨cs', rest', h2, e2⟩ => ?_
  · obtain ⟨cs, rest, hf⟩ := (em_cut (hz u hu)).mp ha
    have ht := hf.1.turned hl2
    have hm : ofL (lst p0 ++ ((List.zipWith turn (ins.map lst) cs).flatten ++ (rest ++ lst pl))) ∈ rowsP (sgn c) ws sz := ro_perm hu (hf.perm ht.2)
    refine ⟨_, hm, (em_cut (hz _ hm)).mpr ⟨_, rest, ?_, rfl⟩, cs, rest, hf, rfl⟩
    rw [← hrm]; exact ht.1
  · have t1 := (h1.1.turned hl2).1
    have t2 := (h2.1.turned hl2).1
    have q := Fits.uniq (p0 := lst p0) (pl := lst pl) ⟨t1, e1⟩ ⟨t2, e2⟩
    refine lst_inj ?_
    rw [h1.2, h2.2, h1.1.turn_inj h2.1 q.1, q.2]
end Mine
end
section
open PySem PySem.W PySem.Calls PyProof.Rows
open PySem.StrLaws Builtin
set_option Elab.async false
set_option maxRecDepth 100000
set_option linter.unusedVariables false
namespace Mine
open V
variable {c sz : Nat} {p0 pl row : Str} {ins : List Str}
theorem revS_revS (u : Str) : revS (revS u) = u := lst_inj (by rw [lst_revS, lst_revS, List.reverse_reverse])
theorem revS_pc {p : Str} (h : Pc c p) : Pc c (revS p) := ⟨by rw [revS_len]; exact h.1, fun x hx => h.2 x (List.mem_reverse.mp (lst_revS p ▸ hx))⟩
theorem facts3 (F : Facts2 (sgn c) p0 ins pl sz) (hc : 97 ≤ c) : Facts3 (sgn c) p0 ins pl sz := by
  have hw := pcs_len F
  have h2 : 2 ≤ (pcs p0 ins pl).length := hw ▸ Nat.le_add_left 2 _
  have h5 : (pcs p0 ins pl).length ≤ 5 := hw ▸ Nat.add_le_add_right F.n3 2
  have hr8 : ∀ row ∈ rowsP (sgn c) (pcs p0 ins pl) sz, row.length ≤ 8 := fun row hr => (rows_ok F hr).2.1
  have hi : ∀ p ∈ ins, p.length ≤ 2 := fun p hp => (F.len p (.tail _ (List.mem_append_left _ hp))).1
  have hi' : ∀ p ∈ ins.map revS, p.length ≤ 2 := fun p hp => by
    obtain ⟨x, hx, rfl⟩ := List.mem_map.mp hp
    rw [revS_len]; exact hi x hx
  have hii : (ins.map revS).map revS = ins := List.map_map.trans ((List.map_congr_left fun p _ => revS_revS p).trans (List.map_id ins))
  have hz : ∀ u ∈ rowsP (sgn c) (pcs p0 ins pl) sz, p0.length + pl.length ≤ u.length := fun u hu => ends_len F hu
  refine ⟨F, fun row hr => cut_iff F hc hr ▸ em_ok hc h2 h5 F.len (hr8 row hr), ⟨emW (pcs pl ins.reverse p0), fun row hr => ?_, fun ss hp hs => sorted_eq (hp.trans (laid_perm F hc)) hs (rows_nd hc)⟩, ⟨emW (pcs p0 (ins.map revS) pl), fun row hr => ?_, ?_⟩⟩
  · rw [← pcs_rev]
    exact em_ok hc (by rw [List.length_reverse]; exact h2) (by rw [List.length_reverse]; exact h5) (fun p hp => F.len p (List.mem_reverse.mp hp)) (hr8 row hr)
  · have hl : (pcs p0 (ins.map revS) pl).length = (pcs p0 ins pl).length := by unfold pcs; rw [List.length_cons, List.length_cons, List.length_append, List.length_append, List.length_map]
    refine em_ok hc (hl ▸ h2) (hl ▸ h5) (fun p hp => (List.mem_cons.mp hp).elim (fun e => e ▸ F.len p0 (.head _)) fun hp => (List.mem_append.mp hp).elim (fun hp => ?_) fun e => List.mem_singleton.mp e ▸ F.len pl (.tail _ (List.mem_append_right _ (.head _)))) (hr8 row hr)
    obtain ⟨x, hx, rfl⟩ := List.mem_map.mp hp
    exact revS_pc (F.len x (.tail _ (List.mem_append_left _ hx)))
  · have hL : (laidL (sgn c) sz p0 ins pl).length = ((rowsP (sgn c) (pcs p0 ins pl) sz).filter (emW (pcs p0 ins pl))).length := by
      unfold laidL cutsP
      rw [List.length_map, List.filter_map, List.length_map]
      exact congrArg List.length (List.filter_congr fun r hr => (cut_iff F hc hr).symm)
    have a := turn_le (ws := pcs p0 ins pl) (sz := sz) hc hz hi
    have b := turn_le (ws := pcs p0 ins pl) (sz := sz) hc hz hi'
    rw [hii] at b
    rw [hL]; exact Nat.le_antisymm b a
/-! all short words -/
noncomputable def allW (sg : List Nat) : Nat → List (List Nat)
  | 0 => [[]]
  | n + 1 => [] :: sg.flatMap fun c => (allW sg n).map (c :: ·)
theorem all_mem {sg : List Nat} (n : Nat) : ∀ u : List Nat, u.length ≤ n → (∀ c ∈ u, c ∈ sg) → u ∈ allW sg n := by
  induction n with
  | zero => exact fun u h _ => by rw [List.length_eq_zero_iff.mp (Nat.le_zero.mp h)]; exact .head _
  | succ n ih =>
    intro u h hs
    cases u with
    | nil => exact .head _
    | cons c u => exact .tail _ (List.mem_flatMap.mpr ⟨c, hs c (.head _), List.mem_map.mpr ⟨u, ih u (Nat.le_of_succ_le_succ h) fun c hc => hs c (.tail _ hc), rfl⟩⟩)
theorem all_len {a b : Nat} (n : Nat) : (allW [a, b] n).length + 1 ≤ 2 ^ (n + 1) := by
  induction n with
  | zero => exact Nat.le_refl 2
  | succ n ih =>
    show ((allW [a, b] n).map (a :: ·) ++ ((allW [a, b] n).map (b :: ·) ++ [])).length + 1 + 1 ≤ _
    rw [List.append_nil, List.length_append, List.length_map, List.length_map, Nat.pow_succ, Nat.mul_two, Nat.add_assoc, Nat.add_assoc, Nat.add_comm _ (1 + 1), ← Nat.add_assoc, ← Nat.add_assoc, Nat.add_assoc, Nat.add_comm 1]
    exact Nat.add_le_add ih ih
theorem word_ok (hc : 97 ≤ c) {u : Str} (h : W2 (sgn c) u) : WordOk u (sgn c) := by
  have h46 : 46 ≠ c := fun q => absurd (q ▸ hc) (by decide)
  have h47 : 47 ≠ c := fun q => absurd (q ▸ hc) (by decide)
  have hB := parts_len u c
  have hn := parts_num u (sgn c)
  have hno := norm_ok h46 h47 h.1
  have e := norm_eq hno
  have h9 : (("q" : Str) :: partsP u (sgn c)).length ≤ 9 := by rw [List.length_cons, hn]; exact Nat.succ_le_succ h.1
  have hq : ∀ p ∈ ("q" : Str) :: partsP u (sgn c), p.length ≤ 2 := all_cons (by decide) hB
  refine ⟨h.1, parts_ok (a := 0) (b := 0) (c := 0) h.1 hq (by rw [List.length_cons, hn]; exact Nat.le_succ _) rfl, parts_ok (a := 0) (b := 0) (c := 0) h.1 (all_cons (by decide) (all_cons (by decide) hB)) (by rw [List.length_cons, List.length_cons, hn]; exact Nat.le_refl _) rfl, parts_ok (a := 0) (b := 0) (c := 0) h.1 (all_cons (by decide) fun p hp => (List.mem_append.mp hp).elim (hB p) fun q => List.mem_singleton.mp q ▸ (by decide)) (by rw [List.length_cons, List.length_append, hn]; exact Nat.le_refl _) rfl, e.symm ▸ hno, ?_, ?_, fun q => ?_⟩
  · unfold modP; exact Nat.le_trans (short_join rfl hq h9) (by decide)
  · rw [e]
    show (("/" : Str) ++ Txt.join "/" ("q" :: partsP u (sgn c))).length ≤ 1000
    rw [str_len_app]; exact Nat.le_trans (Nat.add_le_add_left (short_join rfl hq h9) _) (by decide)
  · have h1 := congrArg lst q
    rw [modP_lst] at h1
    have h2 : ∀ ps : List (List Nat), (joinL [46] ([113] :: ps)).head? = some 113 := fun ps => by cases ps <;> rfl
    have h3 := congrArg List.head? h1
    rw [h2] at h3
    cases h3
theorem facts2 (hc : 97 ≤ c) (n2 : 2 ≤ ins.length) (n3 : ins.length ≤ 3) (h4 : 4 ≤ sz) (h5 : sz ≤ 5) (len : ∀ p ∈ pcs p0 ins pl, Pc c p) (l0 : p0.length ≤ 1) (ll : pl.length ≤ 1) : Facts2 (sgn c) p0 ins pl sz := by
  have h10 : c ≠ 10 := fun q => absurd (q ▸ hc) (by decide)
  have h46 : 46 ≠ c := fun q => absurd (q ▸ hc) (by decide)
  have hdot : ∀ p, (∀ x ∈ lst p, x ∈ lst (sg2 (sgn c))) → 46 ∉ lst p := fun p hp q => (two_sg2 hp 46 q).elim (fun e => h46 e) fun e => absurd e (by decide)
  refine ⟨rfl, n2, n3, h4, h5, len, l0, ll, fun ps h8 hp => ⟨joinOk_of (B := 8) hp ?_, joinOk_of (B := 8) hp ?_⟩, fun p hp u hu => ?_, fun u hu => word_ok hc hu, fun u v hu hv h => ?_, ((allW [10, c] 8).map ofL).map fun u => modP u (sgn c), ?_, fun u hu => ?_⟩
  · exact Nat.le_trans (Nat.add_le_add (Nat.mul_le_mul_right 8 h8) (Nat.mul_le_mul_right _ h8)) (by decide)
  · exact Nat.le_trans (Nat.add_le_add (Nat.mul_le_mul_right 8 h8) (Nat.mul_le_mul_right _ h8)) (by decide)
  · have := len p (.tail _ (List.mem_append_left _ hp))
    exact em_suf (hdot p this.2) (Nat.le_trans this.1 (by decide)) (Nat.le_trans hu (by decide))
  · have h1 := congrArg lst h
    rw [modP_lst, modP_lst] at h1
    have hf : ∀ w : List Nat, ∀ p ∈ [113] :: w.map (ptL c), 46 ∉ p ∧ p ≠ [] := fun w p hp => ⟨q_free h46 (by decide) w p hp, (List.mem_cons.mp hp).elim (fun e => e ▸ List.cons_ne_nil _ _) fun hp => Exists.elim (List.mem_map.mp hp) fun x hx => hx.2 ▸ ptL_ne⟩
    have h2 := joinL_inj (hf _) (hf _) h1
    injection h2 with _ h2
    exact lst_inj (map_inj_two h10 (two_sg2 hu.2) (two_sg2 hv.2) h2)
  · rw [List.length_map, List.length_map]
    exact Nat.le_trans (Nat.le_of_succ_le (all_len 8)) (by decide)
  · exact List.mem_map.mpr ⟨u, List.mem_map.mpr ⟨lst u, all_mem 8 _ (by rw [← len_lst]; exact hu.1) hu.2, rfl⟩, rfl⟩
/-! the pieces that a script draws -/
theorem wd_pc (k : Int) : Pc c (wAt (sgn c) k) := by
  have one : ∀ x ∈ ([10, c] : List Nat), ∀ p : Str, lst p = [x] → Pc c p := fun x hx p hp => ⟨by rw [len_lst, hp]; exact Nat.le_succ 1, fun y hy => by rw [hp] at hy; exact List.mem_singleton.mp hy ▸ hx⟩
  have two : ∀ x ∈ ([10, c] : List Nat), ∀ y ∈ ([10, c] : List Nat), ∀ p : Str, lst p = [x, y] → Pc c p := fun x hx y hy p hp => ⟨by rw [len_lst, hp]; exact Nat.le_refl 2, fun z hz => by rw [hp] at hz; exact (List.mem_cons.mp hz).elim (fun e => e ▸ hx) fun e => List.mem_singleton.mp e ▸ hy⟩
  have nil : Pc c "" := ⟨Nat.zero_le _, fun x h => absurd h List.not_mem_nil⟩
  have a : (10 : Nat) ∈ ([10, c] : List Nat) := .head _
  have b : c ∈ ([10, c] : List Nat) := .tail _ (.head _)
  have key : ∀ p ∈ wds (sgn c), Pc c p := by
    unfold wds
    refine List.forall_mem_cons.mpr ⟨nil, List.forall_mem_cons.mpr ⟨one c b _ rfl, List.forall_mem_cons.mpr ⟨one 10 a _ rfl, List.forall_mem_cons.mpr ⟨two c b c b _ rfl, List.forall_mem_cons.mpr ⟨two c b 10 a _ rfl, List.forall_mem_cons.mpr ⟨two 10 a c b _ rfl, List.forall_mem_cons.mpr ⟨two 10 a 10 a _ rfl, fun p h => absurd h List.not_mem_nil⟩⟩⟩⟩⟩⟩⟩
  unfold wAt
  rw [List.getD_eq_getElem?_getD]
  cases h : (wds (sgn c))[k.toNat]? with
  | none => exact nil
  | some p => exact key p (List.mem_of_getElem? h)
theorem wd_short {x : Int} : (wAt (sgn c) (x.fmod 3)).length ≤ 1 := by
  have h0 := Int.fmod_nonneg_of_pos x (b := 3) (by decide)
  have h1 := Int.fmod_lt_of_pos x (b := 3) (by decide)
  have h2 : (x.fmod 3).toNat < 3 := (Int.toNat_lt h0).mpr h1
  unfold wAt
  match (x.fmod 3).toNat, h2 with
  | 0, _ => exact Nat.zero_le _
  | 1, _ => exact Nat.le_refl 1
  | 2, _ => exact Nat.le_refl 1
theorem in_len (ns : List Int) : 2 ≤ (inOf ns).length ∧ (inOf ns).length ≤ 3 := by
  have h := drawn_len ns
  unfold inOf
  rw [List.length_append, List.length_map, List.length_map, List.length_take, List.length_drop, List.length_drop, Nat.min_eq_left (Nat.le_sub_of_add_le h.1)]
  exact ⟨Nat.le_add_right 2 _, Nat.add_le_add_left (Nat.sub_le_sub_right h.2 4) 2⟩
theorem facts (ns : List Int) : Facts3 (sigOf ns) (wAt (sigOf ns) ((dAt ns 0).fmod 3)) (inOf ns) (wAt (sigOf ns) ((dAt ns 1).fmod 3)) (szOf ns) := by
  have hc : 97 ≤ (97 + (ns.take 5).sum.fmod 55199).toNat := by
    have := Int.fmod_nonneg_of_pos (ns.take 5).sum (b := 55199) (by decide)
    omega
  have hin : ∀ p ∈ inOf ns, Pc (97 + (ns.take 5).sum.fmod 55199).toNat p := fun p hp => (List.mem_append.mp hp).elim (fun hp => Exists.elim (List.mem_map.mp hp) fun x hx => hx.2 ▸ wd_pc _) fun hp => Exists.elim (List.mem_map.mp hp) fun x hx => hx.2 ▸ wd_pc _
  have hsz : 4 ≤ szOf ns ∧ szOf ns ≤ 5 := by unfold szOf; split <;> decide
  exact facts3 (facts2 (c := (97 + (ns.take 5).sum.fmod 55199).toNat) hc (in_len ns).1 (in_len ns).2 hsz.1 hsz.2 (fun p hp => (List.mem_cons.mp hp).elim (fun e => e ▸ wd_pc _) fun hp => (List.mem_append.mp hp).elim (hin p) fun e => List.mem_singleton.mp e ▸ wd_pc _) wd_short wd_short) hc
theorem law2 : PySem.Challenge.rw_pu0015_02.Holds := top (law_walk facts _)
end Mine
end
theorem PySem.Challenge.cw_pu0015_02_holds : PySem.Challenge.rw_pu0015_02.Holds :=
  Mine.law2
