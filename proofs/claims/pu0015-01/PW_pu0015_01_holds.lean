import PyProof.Rows.All
import Wide.All
import OpenK.AllK
import Wide.FinOn
import Lean
import PySem.Challenge.RW_pu0015_01
set_option Elab.async false
section
set_option linter.unusedVariables false
namespace Mine
/-! elimination of a whole pattern by one lemma (smaller proof terms than nested cases); the syntax constants of rfl and decide, once for all optional proofs -/
def autoR : Lean.Syntax := .node .none `Lean.Parser.Tactic.tacticSeq #[.node .none `Lean.Parser.Tactic.tacticSeq1Indented #[.node .none `null #[.node .none `Lean.Parser.Tactic.tacticRfl #[.atom .none "rfl"]]]]
def autoD : Lean.Syntax := .node .none `Lean.Parser.Tactic.tacticSeq #[.node .none `Lean.Parser.Tactic.tacticSeq1Indented #[.node .none `null #[.node .none `Lean.Parser.Tactic.decide #[.atom .none "decide", .node .none `Lean.Parser.Tactic.optConfig #[.node .none `null #[]]]]]]
theorem exq {α β : Type} {f : α → β} {v : β} {G : β → Prop} (h : ∃ t, v = f t) (k : ∀ t, G (f t)) : G v := h.elim fun t e => e ▸ k t
@[elab_as_elim] theorem rwl {α : Type} {b : α} {P : α → Prop} {a : α} (h : a = b) (k : P b) : P a := h ▸ k
theorem el0b {p1 p2 : Prop} {G : Prop} (h : p1 ∧ p2) (k : p1 → p2 → G) : G := k h.1 h.2
theorem el0c {p1 p2 p3 : Prop} {G : Prop} (h : p1 ∧ p2 ∧ p3) (k : p1 → p2 → p3 → G) : G := k h.1 h.2.1 h.2.2
theorem el0d {p1 p2 p3 p4 : Prop} {G : Prop} (h : p1 ∧ p2 ∧ p3 ∧ p4) (k : p1 → p2 → p3 → p4 → G) : G := k h.1 h.2.1 h.2.2.1 h.2.2.2
theorem el1a {α : Type} {p1 : α → Prop} {G : Prop} (h : ∃ a, p1 a) (k : ∀ a, p1 a → G) : G := h.elim fun a ha => k a ha
theorem el1b {α : Type} {p1 p2 : α → Prop} {G : Prop} (h : ∃ a, p1 a ∧ p2 a) (k : ∀ a, p1 a → p2 a → G) : G := h.elim fun a ha => k a ha.1 ha.2
theorem el1c {α : Type} {p1 p2 p3 : α → Prop} {G : Prop} (h : ∃ a, p1 a ∧ p2 a ∧ p3 a) (k : ∀ a, p1 a → p2 a → p3 a → G) : G := h.elim fun a ha => k a ha.1 ha.2.1 ha.2.2
theorem el1d {α : Type} {p1 p2 p3 p4 : α → Prop} {G : Prop} (h : ∃ a, p1 a ∧ p2 a ∧ p3 a ∧ p4 a) (k : ∀ a, p1 a → p2 a → p3 a → p4 a → G) : G := h.elim fun a ha => k a ha.1 ha.2.1 ha.2.2.1 ha.2.2.2
theorem el1e {α : Type} {p1 p2 p3 p4 p5 : α → Prop} {G : Prop} (h : ∃ a, p1 a ∧ p2 a ∧ p3 a ∧ p4 a ∧ p5 a) (k : ∀ a, p1 a → p2 a → p3 a → p4 a → p5 a → G) : G := h.elim fun a ha => k a ha.1 ha.2.1 ha.2.2.1 ha.2.2.2.1 ha.2.2.2.2
theorem el1g {α : Type} {p1 p2 p3 p4 p5 p6 p7 : α → Prop} {G : Prop} (h : ∃ a, p1 a ∧ p2 a ∧ p3 a ∧ p4 a ∧ p5 a ∧ p6 a ∧ p7 a) (k : ∀ a, p1 a → p2 a → p3 a → p4 a → p5 a → p6 a → p7 a → G) : G := h.elim fun a ha => k a ha.1 ha.2.1 ha.2.2.1 ha.2.2.2.1 ha.2.2.2.2.1 ha.2.2.2.2.2.1 ha.2.2.2.2.2.2
theorem el1h {α : Type} {p1 p2 p3 p4 p5 p6 p7 p8 : α → Prop} {G : Prop} (h : ∃ a, p1 a ∧ p2 a ∧ p3 a ∧ p4 a ∧ p5 a ∧ p6 a ∧ p7 a ∧ p8 a) (k : ∀ a, p1 a → p2 a → p3 a → p4 a → p5 a → p6 a → p7 a → p8 a → G) : G := h.elim fun a ha => k a ha.1 ha.2.1 ha.2.2.1 ha.2.2.2.1 ha.2.2.2.2.1 ha.2.2.2.2.2.1 ha.2.2.2.2.2.2.1 ha.2.2.2.2.2.2.2
theorem el2a {α β : Type} {p1 : α → β → Prop} {G : Prop} (h : ∃ a b, p1 a b) (k : ∀ a b, p1 a b → G) : G := h.elim fun a ha => ha.elim fun b hb => k a b hb
theorem el2b {α β : Type} {p1 p2 : α → β → Prop} {G : Prop} (h : ∃ a b, p1 a b ∧ p2 a b) (k : ∀ a b, p1 a b → p2 a b → G) : G := h.elim fun a ha => ha.elim fun b hb => k a b hb.1 hb.2
theorem el2c {α β : Type} {p1 p2 p3 : α → β → Prop} {G : Prop} (h : ∃ a b, p1 a b ∧ p2 a b ∧ p3 a b) (k : ∀ a b, p1 a b → p2 a b → p3 a b → G) : G := h.elim fun a ha => ha.elim fun b hb => k a b hb.1 hb.2.1 hb.2.2
theorem el2d {α β : Type} {p1 p2 p3 p4 : α → β → Prop} {G : Prop} (h : ∃ a b, p1 a b ∧ p2 a b ∧ p3 a b ∧ p4 a b) (k : ∀ a b, p1 a b → p2 a b → p3 a b → p4 a b → G) : G := h.elim fun a ha => ha.elim fun b hb => k a b hb.1 hb.2.1 hb.2.2.1 hb.2.2.2
theorem el2f {α β : Type} {p1 p2 p3 p4 p5 p6 : α → β → Prop} {G : Prop} (h : ∃ a b, p1 a b ∧ p2 a b ∧ p3 a b ∧ p4 a b ∧ p5 a b ∧ p6 a b) (k : ∀ a b, p1 a b → p2 a b → p3 a b → p4 a b → p5 a b → p6 a b → G) : G := h.elim fun a ha => ha.elim fun b hb => k a b hb.1 hb.2.1 hb.2.2.1 hb.2.2.2.1 hb.2.2.2.2.1 hb.2.2.2.2.2
theorem el2g {α β : Type} {p1 p2 p3 p4 p5 p6 p7 : α → β → Prop} {G : Prop} (h : ∃ a b, p1 a b ∧ p2 a b ∧ p3 a b ∧ p4 a b ∧ p5 a b ∧ p6 a b ∧ p7 a b) (k : ∀ a b, p1 a b → p2 a b → p3 a b → p4 a b → p5 a b → p6 a b → p7 a b → G) : G := h.elim fun a ha => ha.elim fun b hb => k a b hb.1 hb.2.1 hb.2.2.1 hb.2.2.2.1 hb.2.2.2.2.1 hb.2.2.2.2.2.1 hb.2.2.2.2.2.2
theorem el2i {α β : Type} {p1 p2 p3 p4 p5 p6 p7 p8 p9 : α → β → Prop} {G : Prop} (h : ∃ a b, p1 a b ∧ p2 a b ∧ p3 a b ∧ p4 a b ∧ p5 a b ∧ p6 a b ∧ p7 a b ∧ p8 a b ∧ p9 a b) (k : ∀ a b, p1 a b → p2 a b → p3 a b → p4 a b → p5 a b → p6 a b → p7 a b → p8 a b → p9 a b → G) : G := h.elim fun a ha => ha.elim fun b hb => k a b hb.1 hb.2.1 hb.2.2.1 hb.2.2.2.1 hb.2.2.2.2.1 hb.2.2.2.2.2.1 hb.2.2.2.2.2.2.1 hb.2.2.2.2.2.2.2.1 hb.2.2.2.2.2.2.2.2
theorem el3b {α β γ : Type} {p1 p2 : α → β → γ → Prop} {G : Prop} (h : ∃ a b c, p1 a b c ∧ p2 a b c) (k : ∀ a b c, p1 a b c → p2 a b c → G) : G := h.elim fun a ha => ha.elim fun b hb => hb.elim fun c hc => k a b c hc.1 hc.2
theorem el3c {α β γ : Type} {p1 p2 p3 : α → β → γ → Prop} {G : Prop} (h : ∃ a b c, p1 a b c ∧ p2 a b c ∧ p3 a b c) (k : ∀ a b c, p1 a b c → p2 a b c → p3 a b c → G) : G := h.elim fun a ha => ha.elim fun b hb => hb.elim fun c hc => k a b c hc.1 hc.2.1 hc.2.2
theorem el3f {α β γ : Type} {p1 p2 p3 p4 p5 p6 : α → β → γ → Prop} {G : Prop} (h : ∃ a b c, p1 a b c ∧ p2 a b c ∧ p3 a b c ∧ p4 a b c ∧ p5 a b c ∧ p6 a b c) (k : ∀ a b c, p1 a b c → p2 a b c → p3 a b c → p4 a b c → p5 a b c → p6 a b c → G) : G := h.elim fun a ha => ha.elim fun b hb => hb.elim fun c hc => k a b c hc.1 hc.2.1 hc.2.2.1 hc.2.2.2.1 hc.2.2.2.2.1 hc.2.2.2.2.2
theorem el4d {α β γ δ : Type} {p1 p2 p3 p4 : α → β → γ → δ → Prop} {G : Prop} (h : ∃ a b c d, p1 a b c d ∧ p2 a b c d ∧ p3 a b c d ∧ p4 a b c d) (k : ∀ a b c d, p1 a b c d → p2 a b c d → p3 a b c d → p4 a b c d → G) : G := h.elim fun a ha => ha.elim fun b hb => hb.elim fun c hc => hc.elim fun d hd => k a b c d hd.1 hd.2.1 hd.2.2.1 hd.2.2.2
theorem el4e {α β γ δ : Type} {p1 p2 p3 p4 p5 : α → β → γ → δ → Prop} {G : Prop} (h : ∃ a b c d, p1 a b c d ∧ p2 a b c d ∧ p3 a b c d ∧ p4 a b c d ∧ p5 a b c d) (k : ∀ a b c d, p1 a b c d → p2 a b c d → p3 a b c d → p4 a b c d → p5 a b c d → G) : G := h.elim fun a ha => ha.elim fun b hb => hb.elim fun c hc => hc.elim fun d hd => k a b c d hd.1 hd.2.1 hd.2.2.1 hd.2.2.2.1 hd.2.2.2.2
theorem el4h {α β γ δ : Type} {p1 p2 p3 p4 p5 p6 p7 p8 : α → β → γ → δ → Prop} {G : Prop} (h : ∃ a b c d, p1 a b c d ∧ p2 a b c d ∧ p3 a b c d ∧ p4 a b c d ∧ p5 a b c d ∧ p6 a b c d ∧ p7 a b c d ∧ p8 a b c d) (k : ∀ a b c d, p1 a b c d → p2 a b c d → p3 a b c d → p4 a b c d → p5 a b c d → p6 a b c d → p7 a b c d → p8 a b c d → G) : G := h.elim fun a ha => ha.elim fun b hb => hb.elim fun c hc => hc.elim fun d hd => k a b c d hd.1 hd.2.1 hd.2.2.1 hd.2.2.2.1 hd.2.2.2.2.1 hd.2.2.2.2.2.1 hd.2.2.2.2.2.2.1 hd.2.2.2.2.2.2.2
theorem el5f {α β γ δ ε : Type} {p1 p2 p3 p4 p5 p6 : α → β → γ → δ → ε → Prop} {G : Prop} (h : ∃ a b c d e, p1 a b c d e ∧ p2 a b c d e ∧ p3 a b c d e ∧ p4 a b c d e ∧ p5 a b c d e ∧ p6 a b c d e) (k : ∀ a b c d e, p1 a b c d e → p2 a b c d e → p3 a b c d e → p4 a b c d e → p5 a b c d e → p6 a b c d e → G) : G := h.elim fun a ha => ha.elim fun b hb => hb.elim fun c hc => hc.elim fun d hd => hd.elim fun e he => k a b c d e he.1 he.2.1 he.2.2.1 he.2.2.2.1 he.2.2.2.2.1 he.2.2.2.2.2
end Mine
end
section
open PySem PySem.W PySem.Calls PyProof.Rows
set_option Elab.async false
set_option maxRecDepth 100000
set_option linter.unusedVariables false
namespace Mine
/-! the heap never shrinks -/
theorem runs_size {M : Model} {Γ : Ctx} {p : Pos} {t : Sem Fin} {fs : List Frame} {s s' : Shared} {e : End} (h : Runs M Γ p t fs s e s') : s.heap.objs.size ≤ s'.heap.objs.size := by
  induction h <;> (try simp only [Shared.setGen, Heap.size_push, Heap.size_after_update] at *) <;> omega
theorem returns_size {M : Model} {Γ : Ctx} {p : Pos} {s s' : Shared} {r : Result} (h : Returns M Γ p s r s') : s.heap.objs.size ≤ s'.heap.objs.size := runs_size h
theorem wakes_size {M : Model} {Γ : Ctx} {p : Pos} {g : Nat} {r : Resume} {s s' : Shared} {res : GenResult} (h : Wakes M Γ p g r s res s') : s.heap.objs.size ≤ s'.heap.objs.size := by
  unfold Wakes at h
  split at h
  · exact h.elim
  · split at h
    · (refine Mine.el2d h fun e₁ s₁ hr _ _ hq1 => ?_; try clear h; obtain rfl := hq1); exact (runs_size hr : (s.setGen g .running).heap.objs.size ≤ s₁.heap.objs.size)
    · rw [h.2]; exact Nat.le_refl _
    · rw [h.2]; exact Nat.le_refl _
  · (refine Mine.el2d h fun e₁ s₁ hr _ _ hq2 => ?_; try clear h; obtain rfl := hq2); exact (runs_size hr : (s.setGen g .running).heap.objs.size ≤ s₁.heap.objs.size)
  · rw [h.2]; exact Nat.le_refl _
  · rw [h.2]; exact Nat.le_refl _
theorem wp_size {α : Type} (M : Model) (Γ : Ctx) (n : Nat) (t : Sem α) : ∀ (Q : α → Pos → Shared → Prop) (E : Value → Pos → Shared → Prop) (p : Pos) (s : Shared), n ≤ s.heap.objs.size → Sem.wp M Γ t Q E p s →
    Sem.wp M Γ t (fun a p' s' => n ≤ s'.heap.objs.size ∧ Q a p' s') (fun e p' s' => n ≤ s'.heap.objs.size ∧ E e p' s') p s := by
  induction t with
  | pure a => intro Q E p s hn h; exact ⟨hn, h⟩
  | raise e => intro Q E p s hn h; exact ⟨hn, h⟩
  | unsupported _ => intro Q E p s _ h; exact h
  | finish _ => intro Q E p s _ h; exact h
  | rule _ k ih => intro Q E p s hn h; exact ih () Q E p s hn h
  | «at» p' k ih => intro Q E p s hn h; exact ih () Q E p' s hn h
  | load a _ k ih => intro Q E p s hn h; refine Mine.el1b h fun o ho h => ?_; exact ⟨o, ho, ih o Q E p s hn h⟩
  | update a _ f k ih => intro Q E p s hn h; exact ⟨h.1, ih () Q E p _ (by show n ≤ (s.heap.update _ _).objs.size; rw [Heap.size_after_update]; exact hn) h.2⟩
  | loadIfAlive a k ih => intro Q E p s hn h; exact ih _ Q E p s hn h
  | point _ k ih => intro Q E p s hn h; exact ih () Q E p s hn h
  | register _ _ => intro Q E p s _ h; exact h
  | alloc o k ih => intro Q E p s hn h; exact ih _ Q E p _ (by show n ≤ (s.heap.push _).objs.size; rw [Heap.size_push]; (solve_by_elim (maxDepth := 3) [Nat.le_of_lt_succ, Nat.lt_succ_of_le, Nat.lt_succ_of_lt, Nat.le_of_lt, Nat.le_succ_of_le, Nat.pos_of_ne_zero, Nat.ne_of_gt, Nat.ne_of_lt, Nat.zero_le, Nat.le_refl, Nat.lt_succ_self, Nat.sub_le, Nat.le_of_not_lt, Nat.lt_of_not_le, Nat.le_trans, Nat.lt_of_lt_of_le, Nat.lt_of_le_of_lt, Nat.le_antisymm])) h
  | fresh k ih => intro Q E p s hn h; exact ih _ Q E p _ hn h
  | ask k ih => intro Q E p s hn h; exact ih _ Q E p s hn h
  | choose src m k ih => intro Q E p s hn h; exact ⟨h.1, ih _ Q E p _ hn h.2⟩
  | os q _ k ih => intro Q E p s hn h; exact ih _ Q E p _ hn h
  | call c hd _ _ k ih => intro Q E p s hn h; refine Mine.el2b h fun r s' hr h => ?_; exact ⟨r, s', hr, ih r Q E p s' (Nat.le_trans hn (returns_size hr)) h⟩
  | handled own k ih => intro Q E p s hn h; exact ih _ Q E p s hn h
  | genState g k ih => intro Q E p s hn h; refine Mine.el1b h fun st hs h => ?_; exact ⟨st, hs, ih _ Q E p s hn h⟩
  | newGen c k ih => intro Q E p s hn h; exact ih _ Q E p _ hn h
  | resume g r _ k ih => intro Q E p s hn h; refine Mine.el2b h fun res s' hw h => ?_; exact ⟨res, s', hw, ih res Q E p s' (Nat.le_trans hn (wakes_size hw)) h⟩
  | yield _ _ _ _ => intro Q E p s _ h; exact h
  | stack k ih => intro Q E p s hn h; exact ih _ Q E p s hn h
  | fork _ _ => intro Q E p s _ h; exact h
  | thread k ih => intro Q E p s hn h; exact ih _ Q E p s hn h
  | await _ _ _ _ _ => intro Q E p s _ h; exact h
theorem with_size {α : Type} {M : Model} {A : Around} {s : Shared} {t : Sem α} {Q : α → Shared → Prop} {E : Value → Shared → Prop}
    (h : wpAny M A t (fun a s' => s.heap.objs.size ≤ s'.heap.objs.size → Q a s') E s) : wpAny M A t Q E s :=
  fun Γ p hΓ => Sem.wp_mono M Γ t (fun a _ s' x => x.2 x.1) (fun e _ s' x => x.2) p s (wp_size M Γ _ t _ _ p s (Nat.le_refl _) (h Γ p hΓ))
end Mine
end
section
open PySem PySem.W PySem.Calls PyProof.Rows
set_option Elab.async false
set_option maxRecDepth 100000
set_option linter.unusedVariables false
namespace Mine

/-! values -/
inductive PV where
  | none | bool (b : Bool) | int (i : Int) | str (x : Str) | list (l : List PV) | tup (l : List PV) | val (v : Value)

mutual
inductive Rep (X : Addr → Prop) (h : Heap) : Value → PV → Prop
  | none : Rep X h .none .none
  | bool (b) : Rep X h (.bool b) (.bool b)
  | int (i t) : Rep X h (.int i t) (.int i)
  | str (x t) : Rep X h (.str x t) (.str x)
  | list {a items l} : ¬ X a → h.IsList a items → Reps X h items.toList l → Rep X h (.ref a) (.list l)
  | tup {a items l} : ¬ X a → h.IsTuple a items → Reps X h items.toList l → Rep X h (.ref a) (.tup l)
  | val (v) : Rep X h v (.val v)
inductive Reps (X : Addr → Prop) (h : Heap) : List Value → List PV → Prop
  | nil : Reps X h [] []
  | cons {v vs p ps} : Rep X h v p → Reps X h vs ps → Reps X h (v :: vs) (p :: ps)
end

/-- the memo dict of a reader: its entries, oldest first -/
noncomputable def MemoEs (prog : Program) (w : World) (o : Obj) (es : List (Str × Int)) : Prop :=
  ∃ vals : List (Str × Int × Tok), o.IsDictOf (strKind prog w) (intPairs vals) ∧ vals.map (fun x => (x.1, x.2.1)) = es

abbrev Mem := Addr → Option (Str → Int → Prop)
noncomputable def noMem : Mem := fun _ => none
noncomputable def noX : Addr → Prop := fun _ => False

structure Ext (prog : Program) (w : World) (X : Addr → Prop) (C : Mem) (s s' : Shared) : Prop where
  size : s.heap.objs.size ≤ s'.heap.objs.size
  keep : ∀ b o, s.heap.get? b = some o → ¬ X b → s'.heap.get? b = some o ∨
    ∃ P, C b = some P ∧ ∃ es o' more, MemoEs prog w o es ∧ s'.heap.get? b = some o' ∧ MemoEs prog w o' (es ++ more) ∧ ∀ p ∈ more, P p.1 p.2
  gens : s'.gens = s.gens
  os : s'.os = s.os

variable {prog : Program} {w : World} {X Y : Addr → Prop} {C : Mem} {s s' s'' : Shared}

theorem pairs_unique {K : Type} [DecidableEq K] {knd : KeyKind prog w K} {es : List DictEntry} {kvs kvs' : List (K × Value)} (h : Pairs knd es kvs) (h' : Pairs knd es kvs') : kvs = kvs' := by
  induction h generalizing kvs' with
  | nil => cases h'; rfl
  | cons a b _ ih => cases h' with | cons a' b' r' => rw [ih r', Prod.ext (knd.inj _ _ _ a a') (b.symm.trans b')]
theorem intPairs_inj {K : Type} [DecidableEq K] : ∀ {v v' : List (K × Int × Tok)}, intPairs v = intPairs v' → v = v'
  | [], [], _ => rfl
  | [], _ :: _, h => by simp [intPairs] at h
  | _ :: _, [], h => by simp [intPairs] at h
  | (a, b, c) :: r, (a', b', c') :: r', h => by
    simp only [intPairs, List.map_cons, List.cons.injEq, Prod.mk.injEq, Value.int.injEq] at h
    (refine Mine.el0b h fun hq1 h4 => ?_; try clear h; obtain ⟨h1, h2, h3⟩ := hq1)
    rw [h1, h2, h3, intPairs_inj h4]
theorem MemoEs.unique {o : Obj} {es es' : List (Str × Int)} (h : MemoEs prog w o es) (h' : MemoEs prog w o es') : es = es' := by
  (refine Mine.el1b h fun vals hq2 hq3 => ?_; try clear h; obtain ⟨arr, n, _, hd, _, hf, _⟩ := hq2; obtain rfl := hq3)
  (refine Mine.el1b h' fun vals' hq4 hq5 => ?_; try clear h'; obtain ⟨arr', n', _, hd', _, hf', _⟩ := hq4; obtain rfl := hq5)
  rw [hd] at hd'; injection hd' with e1 e2; subst e1
  rw [intPairs_inj (pairs_unique hf hf')]

theorem Ext.refl : Ext prog w X C s s := ⟨Nat.le_refl _, fun _ _ e _ => .inl e, rfl, rfl⟩

theorem Ext.trans (h : Ext prog w X C s s') (h' : Ext prog w X C s' s'') : Ext prog w X C s s'' := by
  refine ⟨Nat.le_trans h.size h'.size, fun b o e hx => ?_, h'.gens.trans h.gens, h'.os.trans h.os⟩
  rcases h.keep b o e hx with k | ⟨P, hP, es, o', more, m1, k, m2, hm⟩
  · exact h'.keep b o k hx
  · rcases h'.keep b o' k hx with k' | ⟨P', hP', es', o'', more', m1', k', m2', hm'⟩
    · exact .inr ⟨P, hP, es, o', more, m1, k', m2, hm⟩
    · rw [hP] at hP'; cases hP'
      have := m1'.unique m2; subst this
      refine .inr ⟨P, hP, es, o'', more ++ more', m1, k', by rw [← List.append_assoc]; exact m2', fun p hp => ?_⟩
      rcases List.mem_append.mp hp with hp | hp
      · exact hm p hp
      · exact hm' p hp

theorem Ext.mono (h : Ext prog w X C s s') (hx : ∀ a, X a → Y a) : Ext prog w Y C s s' := ⟨h.size, fun b o e hy => h.keep b o e (fun q => hy (hx _ q)), h.gens, h.os⟩
theorem Ext.ofPure (h : Ext prog w X noMem s s') : Ext prog w X C s s' := ⟨h.size, (fun b o e hy => (h.keep b o e hy).elim .inl fun q => by refine Mine.el1b q fun _ q _ => ?_; cases q), h.gens, h.os⟩
theorem Ext.ofNo (h : Ext prog w noX C s s') : Ext prog w X C s s' := h.mono fun _ q => q.elim

/-- every object kept -/
theorem Ext.ofKeep (hs : s.heap.objs.size ≤ s'.heap.objs.size) (hk : ∀ b o, s.heap.get? b = some o → s'.heap.get? b = some o) (hg : s'.gens = s.gens) (ho : s'.os = s.os) : Ext prog w X C s s' :=
  ⟨hs, fun b o e _ => .inl (hk b o e), hg, ho⟩
theorem Ext.tok {t : Nat} : Ext prog w X C s { s with toks := t } := .ofKeep (Nat.le_refl _) (fun _ _ e => e) rfl rfl
theorem Ext.tokR {t : Nat} (h : Ext prog w X C s s') : Ext prog w X C s { s' with toks := t } := h.trans .tok
theorem Ext.push {o : Obj} : Ext prog w X C s { s with heap := s.heap.push o } := .ofKeep (by show _ ≤ (s.heap.push o).objs.size; rw [Heap.size_push]; (solve_by_elim (maxDepth := 3) [Nat.le_of_lt_succ, Nat.lt_succ_of_le, Nat.lt_succ_of_lt, Nat.le_of_lt, Nat.le_succ_of_le, Nat.pos_of_ne_zero, Nat.ne_of_gt, Nat.ne_of_lt, Nat.zero_le, Nat.le_refl, Nat.lt_succ_self, Nat.sub_le, Nat.le_of_not_lt, Nat.lt_of_not_le, Nat.le_trans, Nat.lt_of_lt_of_le, Nat.lt_of_le_of_lt, Nat.le_antisymm])) (fun _ _ e => Heap.get?_push_of_some _ e) rfl rfl
theorem Ext.sameBut {a : Addr} {h' : Heap} {t : Nat} (hs : Heap.SameBut a s.heap h') (ha : X a) : Ext prog w X C s { s with heap := h', toks := t } :=
  ⟨Nat.le_of_eq hs.1.symm, fun b o e hx => .inl ((hs.2 b (fun q => hx (q ▸ ha))).trans e), rfl, rfl⟩

theorem MemoEs.dict {o : Obj} {es : List (Str × Int)} (h : MemoEs prog w o es) : ∃ a n, o.data = .dict a n := by
  (refine Mine.el1b h fun _ hq6 _ => ?_; try clear h; obtain ⟨a, n, _, q, _⟩ := hq6); exact ⟨a, n, q⟩
theorem Ext.keepAt (h : Ext prog w X C s s') {b : Addr} {o : Obj} (e : s.heap.get? b = some o) (hx : ¬ X b) (hc : C b = none) : s'.heap.get? b = some o := by
  rcases h.keep b o e hx with k | ⟨_, q, _⟩
  · exact k
  · rw [hc] at q; cases q
theorem Ext.keepD (h : Ext prog w X C s s') {b : Addr} {o : Obj} (e : s.heap.get? b = some o) (hx : ¬ X b) (hd : ∀ es n, o.data ≠ .dict es n) : s'.heap.get? b = some o := by
  rcases h.keep b o e hx with k | ⟨_, _, _, _, _, m, _⟩
  · exact k
  · refine Mine.el2a m.dict fun _ _ q => ?_; exact absurd q (hd _ _)

theorem isList_ext {a : Addr} {items : Array Value} (h : Ext prog w X C s s') (hx : ¬ X a) (hl : s.heap.IsList a items) : s'.heap.IsList a items := by
  obtain ⟨o, ho, hc, n, hd⟩ := hl
  exact ⟨o, h.keepD ho hx (by rw [hd]; first | exact fun _ _ h => by cases h | exact fun _ h => by cases h | nofun), hc, n, hd⟩
theorem isTuple_ext {a : Addr} {items : Array Value} (h : Ext prog w X C s s') (hx : ¬ X a) (hl : s.heap.IsTuple a items) : s'.heap.IsTuple a items := by
  obtain ⟨o, ho, hc, n, hd⟩ := hl
  exact ⟨o, h.keepD ho hx (by rw [hd]; first | exact fun _ _ h => by cases h | exact fun _ h => by cases h | nofun), hc, n, hd⟩

theorem rep_map {h h' : Heap} {v : Value} {p : PV} (fl : ∀ a items, ¬ X a → h.IsList a items → ¬ Y a ∧ h'.IsList a items) (ft : ∀ a items, ¬ X a → h.IsTuple a items → ¬ Y a ∧ h'.IsTuple a items) (r : Rep X h v p) : Rep Y h' v p :=
  Rep.rec (motive_1 := fun v p _ => Rep Y h' v p) (motive_2 := fun v p _ => Reps Y h' v p) .none .bool .int .str (fun hx hl _ ih => .list (fl _ _ hx hl).1 (fl _ _ hx hl).2 ih) (fun hx hl _ ih => .tup (ft _ _ hx hl).1 (ft _ _ hx hl).2 ih) .val .nil (fun _ _ a b => .cons a b) r
theorem reps_map {h h' : Heap} {v : List Value} {p : List PV} (fl : ∀ a items, ¬ X a → h.IsList a items → ¬ Y a ∧ h'.IsList a items) (ft : ∀ a items, ¬ X a → h.IsTuple a items → ¬ Y a ∧ h'.IsTuple a items) (r : Reps X h v p) : Reps Y h' v p :=
  Reps.rec (motive_1 := fun v p _ => Rep Y h' v p) (motive_2 := fun v p _ => Reps Y h' v p) .none .bool .int .str (fun hx hl _ ih => .list (fl _ _ hx hl).1 (fl _ _ hx hl).2 ih) (fun hx hl _ ih => .tup (ft _ _ hx hl).1 (ft _ _ hx hl).2 ih) .val .nil (fun _ _ a b => .cons a b) r
/-- what stands for a value -/
noncomputable def RepI (X : Addr → Prop) (h : Heap) (v : Value) : PV → Prop
  | .none => ∃ _ : True, v = .none
  | .bool b => ∃ _ : True, v = .bool b
  | .int i => ∃ t, v = .int i t
  | .str x => ∃ t, v = .str x t
  | .val u => ∃ _ : True, v = u
  | .list l => ∃ a items, v = .ref a ∧ ¬ X a ∧ h.IsList a items ∧ Reps X h items.toList l
  | .tup l => ∃ a items, v = .ref a ∧ ¬ X a ∧ h.IsTuple a items ∧ Reps X h items.toList l
theorem Rep.inv {h : Heap} {v : Value} {p : PV} (r : Rep X h v p) : RepI X h v p :=
  Rep.rec (motive_1 := fun v p _ => RepI X h v p) (motive_2 := fun _ _ _ => True) ⟨trivial, rfl⟩ (fun _ => ⟨trivial, rfl⟩) (fun _ t => ⟨t, rfl⟩) (fun _ t => ⟨t, rfl⟩) (fun hx hl hr _ => ⟨_, _, rfl, hx, hl, hr⟩) (fun hx hl hr _ => ⟨_, _, rfl, hx, hl, hr⟩) (fun _ => ⟨trivial, rfl⟩) trivial (fun _ _ _ _ => trivial) r
noncomputable def RepsI (X : Addr → Prop) (h : Heap) (vs : List Value) : List PV → Prop
  | [] => vs = []
  | p :: ps => ∃ v vs', vs = v :: vs' ∧ Rep X h v p ∧ Reps X h vs' ps
theorem Reps.inv {h : Heap} {v : List Value} {p : List PV} (r : Reps X h v p) : RepsI X h v p :=
  Reps.rec (motive_1 := fun _ _ _ => True) (motive_2 := fun v p _ => RepsI X h v p) trivial (fun _ => trivial) (fun _ _ => trivial) (fun _ _ => trivial) (fun _ _ _ _ => trivial) (fun _ _ _ _ => trivial) (fun _ => trivial) rfl (fun a b _ _ => ⟨_, _, rfl, a, b⟩) r
theorem Rep.ext {v : Value} {p : PV} (h : Ext prog w X C s s') (r : Rep X s.heap v p) : Rep X s'.heap v p := rep_map (fun _ _ hx hl => ⟨hx, isList_ext h hx hl⟩) (fun _ _ hx hl => ⟨hx, isTuple_ext h hx hl⟩) r
theorem Reps.ext {v : List Value} {p : List PV} (h : Ext prog w X C s s') (r : Reps X s.heap v p) : Reps X s'.heap v p := reps_map (fun _ _ hx hl => ⟨hx, isList_ext h hx hl⟩) (fun _ _ hx hl => ⟨hx, isTuple_ext h hx hl⟩) r
theorem up_no {a b : Addr} (q : Y a → X a ∨ b ≤ a) (hx : ¬ X a) (hlt : a < b) : ¬ Y a := fun y => (q y).elim hx fun z => Nat.lt_irrefl _ (Nat.lt_of_lt_of_le hlt z)
theorem Rep.monoX {h : Heap} {v : Value} {p : PV} (q : ∀ a, Y a → X a ∨ h.objs.size ≤ a) (r : Rep X h v p) : Rep Y h v p := rep_map (fun _ _ hx hl => ⟨up_no (q _) hx (let ⟨_, e, _⟩ := hl; Heap.lt_size e), hl⟩) (fun _ _ hx hl => ⟨up_no (q _) hx (let ⟨_, e, _⟩ := hl; Heap.lt_size e), hl⟩) r
theorem Reps.monoX {h : Heap} {v : List Value} {p : List PV} (q : ∀ a, Y a → X a ∨ h.objs.size ≤ a) (r : Reps X h v p) : Reps Y h v p := reps_map (fun _ _ hx hl => ⟨up_no (q _) hx (let ⟨_, e, _⟩ := hl; Heap.lt_size e), hl⟩) (fun _ _ hx hl => ⟨up_no (q _) hx (let ⟨_, e, _⟩ := hl; Heap.lt_size e), hl⟩) r
theorem Rep.keeps {h h' : Heap} {v : Value} {p : PV} (k : ∀ b o, h.get? b = some o → h'.get? b = some o) (r : Rep X h v p) : Rep X h' v p := rep_map (fun _ _ hx hl => ⟨hx, let ⟨o, ho, r⟩ := hl; ⟨o, k _ _ ho, r⟩⟩) (fun _ _ hx hl => ⟨hx, let ⟨o, ho, r⟩ := hl; ⟨o, k _ _ ho, r⟩⟩) r
theorem Reps.keeps {h h' : Heap} {v : List Value} {p : List PV} (k : ∀ b o, h.get? b = some o → h'.get? b = some o) (r : Reps X h v p) : Reps X h' v p := reps_map (fun _ _ hx hl => ⟨hx, let ⟨o, ho, r⟩ := hl; ⟨o, k _ _ ho, r⟩⟩) (fun _ _ hx hl => ⟨hx, let ⟨o, ho, r⟩ := hl; ⟨o, k _ _ ho, r⟩⟩) r

/-- a fact of the lists that stand for each other, by their conses -/
theorem reps_ind {h : Heap} {P : List Value → List PV → Prop} (h0 : P [] []) (h1 : ∀ {v vs p ps}, Rep X h v p → Reps X h vs ps → P vs ps → P (v :: vs) (p :: ps)) {v : List Value} {p : List PV} (r : Reps X h v p) : P v p :=
  Reps.rec (motive_1 := fun _ _ _ => True) (motive_2 := fun v p _ => P v p) trivial (fun _ => trivial) (fun _ _ => trivial) (fun _ _ => trivial) (fun _ _ _ _ => trivial) (fun _ _ _ _ => trivial) (fun _ => trivial) h0 (fun a b _ ih => h1 a b ih) r
theorem Reps.length {h : Heap} {v : List Value} {p : List PV} (r : Reps X h v p) : v.length = p.length := reps_ind (P := fun v p => v.length = p.length) rfl (fun _ _ ih => congrArg (· + 1) ih) r
theorem Reps.append {h : Heap} {v v' : List Value} {p p' : List PV} (r : Reps X h v p) (r' : Reps X h v' p') : Reps X h (v ++ v') (p ++ p') := reps_ind (P := fun v p => Reps X h (v ++ v') (p ++ p')) r' (fun a _ ih => .cons a ih) r
theorem Reps.get {h : Heap} {v : List Value} {p : List PV} (r : Reps X h v p) : ∀ (i : Nat) {q : PV}, p[i]? = some q → ∃ u, v[i]? = some u ∧ Rep X h u q :=
  reps_ind (P := fun v p => ∀ (i : Nat) {q : PV}, p[i]? = some q → ∃ u, v[i]? = some u ∧ Rep X h u q) (fun i q e => nomatch e) (fun a _ ih i => match i with
    | 0 => fun e => ⟨_, rfl, Option.some.inj e ▸ a⟩
    | i + 1 => fun e => ih i e) r
theorem Reps.take {h : Heap} {v : List Value} {p : List PV} (n : Nat) (r : Reps X h v p) : Reps X h (v.take n) (p.take n) :=
  reps_ind (P := fun v p => ∀ n : Nat, Reps X h (v.take n) (p.take n)) (fun n => by rw [List.take_nil, List.take_nil]; exact .nil) (fun a _ ih n => match n with
    | 0 => .nil
    | n + 1 => .cons a (ih n)) r n
theorem Reps.drop {h : Heap} {v : List Value} {p : List PV} (n : Nat) (r : Reps X h v p) : Reps X h (v.drop n) (p.drop n) :=
  reps_ind (P := fun v p => ∀ n : Nat, Reps X h (v.drop n) (p.drop n)) (fun n => by rw [List.drop_nil, List.drop_nil]; exact .nil) (fun a b ih n => match n with
    | 0 => .cons a b
    | n + 1 => ih n) r n

end Mine
end
section
open PySem PySem.W PySem.Calls PyProof.Rows
set_option Elab.async false
set_option linter.unusedVariables false
namespace Mine
/-! elimination of what a value stands for, by one lemma each -/
variable {X : Addr → Prop} {h : Heap}
@[elab_as_elim] theorem Rep.elS {x : Str} {G : Value → Prop} {v : Value} (r : Rep X h v (.str x)) (k : ∀ t, G (.str x t)) : G v := let ⟨t, e⟩ := r.inv; e ▸ k t
@[elab_as_elim] theorem Rep.elI {x : Int} {G : Value → Prop} {v : Value} (r : Rep X h v (.int x)) (k : ∀ t, G (.int x t)) : G v := let ⟨t, e⟩ := r.inv; e ▸ k t
@[elab_as_elim] theorem Rep.elB {b : Bool} {G : Value → Prop} {v : Value} (r : Rep X h v (.bool b)) (k : True → G (.bool b)) : G v := let ⟨t, e⟩ := r.inv; e ▸ k t
@[elab_as_elim] theorem Rep.elO {G : Value → Prop} {v : Value} (r : Rep X h v .none) (k : True → G .none) : G v := let ⟨t, e⟩ := r.inv; e ▸ k t
@[elab_as_elim] theorem Rep.elV {u : Value} {G : Value → Prop} {v : Value} (r : Rep X h v (.val u)) (k : True → G u) : G v := let ⟨t, e⟩ := r.inv; e ▸ k t
@[elab_as_elim] theorem Rep.elL {l : List PV} {G : Value → Prop} {v : Value} (r : Rep X h v (.list l)) (k : ∀ a items, ¬ X a → h.IsList a items → Reps X h items.toList l → G (.ref a)) : G v := let ⟨a, i, e, h1, h2, h3⟩ := r.inv; e ▸ k a i h1 h2 h3
@[elab_as_elim] theorem Rep.elT {l : List PV} {G : Value → Prop} {v : Value} (r : Rep X h v (.tup l)) (k : ∀ a items, ¬ X a → h.IsTuple a items → Reps X h items.toList l → G (.ref a)) : G v := let ⟨a, i, e, h1, h2, h3⟩ := r.inv; e ▸ k a i h1 h2 h3
@[elab_as_elim] theorem Reps.elN {G : List Value → Prop} {vs : List Value} (r : Reps X h vs []) (k : G []) : G vs := r.inv (v := vs) ▸ k
@[elab_as_elim] theorem Reps.elC {p : PV} {ps : List PV} {G : List Value → Prop} {vs : List Value} (r : Reps X h vs (p :: ps)) (k : ∀ a as, Rep X h a p → Reps X h as ps → G (a :: as)) : G vs := let ⟨a, i, e, h1, h2⟩ := r.inv; e ▸ k a i h1 h2
@[elab_as_elim] theorem Reps.el1 {p : PV} {G : List Value → Prop} {vs : List Value} (r : Reps X h vs [p]) (k : ∀ a, Rep X h a p → G [a]) : G vs := r.elC fun a _ h1 r => r.elN (k a h1)
@[elab_as_elim] theorem Reps.el2 {p q : PV} {G : List Value → Prop} {vs : List Value} (r : Reps X h vs [p, q]) (k : ∀ a b, Rep X h a p → Rep X h b q → G [a, b]) : G vs := r.elC fun a _ h1 r => r.el1 fun b h2 => k a b h1 h2
@[elab_as_elim] theorem Reps.el3 {p q t : PV} {G : List Value → Prop} {vs : List Value} (r : Reps X h vs [p, q, t]) (k : ∀ a b c, Rep X h a p → Rep X h b q → Rep X h c t → G [a, b, c]) : G vs := r.elC fun a _ h1 r => r.el2 fun b c h2 h3 => k a b c h1 h2 h3
@[elab_as_elim] theorem Reps.el4 {p q t u : PV} {G : List Value → Prop} {vs : List Value} (r : Reps X h vs [p, q, t, u]) (k : ∀ a b c d, Rep X h a p → Rep X h b q → Rep X h c t → Rep X h d u → G [a, b, c, d]) : G vs := r.elC fun a _ h1 r => r.el3 fun b c d h2 h3 h4 => k a b c d h1 h2 h3 h4
@[elab_as_elim] theorem Reps.el5 {p q t u y : PV} {G : List Value → Prop} {vs : List Value} (r : Reps X h vs [p, q, t, u, y]) (k : ∀ a b c d e, Rep X h a p → Rep X h b q → Rep X h c t → Rep X h d u → Rep X h e y → G [a, b, c, d, e]) : G vs := r.elC fun a _ h1 r => r.el4 fun b c d e h2 h3 h4 h5 => k a b c d e h1 h2 h3 h4 h5
theorem Reps.uncons {v : Value} {vs : List Value} {p : PV} {ps : List PV} (r : Reps X h (v :: vs) (p :: ps)) : Rep X h v p ∧ Reps X h vs ps := let ⟨_, _, e, a, b⟩ := r.inv; ⟨(List.cons.inj e).1 ▸ a, (List.cons.inj e).2 ▸ b⟩
@[elab_as_elim] theorem mapEl {α β : Type} {f : α → β} {l : List α} {G : β → Prop} {p : β} (h : p ∈ l.map f) (k : ∀ u, u ∈ l → G (f u)) : G p := let ⟨u, hu, e⟩ := List.mem_map.mp h; e ▸ k u hu
@[elab_as_elim] theorem getEl {α β : Type} {f : α → β} {l : List α} {i : Nat} {G : β → Prop} {p : β} (h : (l.map f)[i]? = some p) (k : ∀ u, l[i]? = some u → G (f u)) : G p := let ⟨u, hu, e⟩ := Option.map_eq_some_iff.mp (List.getElem?_map.symm.trans h); e ▸ k u hu
end Mine
end
section
open PySem PySem.W PySem.Calls PyProof.Rows
set_option Elab.async false
set_option maxRecDepth 100000
set_option linter.unusedVariables false
namespace Mine

noncomputable def FreeA (K : Frag) (b : Addr) : Prop := K.lookup b = none ∧ b ≠ builtinsNs ∧ b ≠ 4

structure Base (K : Frag) (mb : Str → Option Value) (h : Heap) : Prop where
  frag : K.In h
  bl : h.Ns builtinsNs mb
  blN : ∀ x : Str, x ≠ "__name__" → mb x = bootBuiltins x
  bm : ∃ ob, h.get? 4 = some ob ∧ ob.cls = .type "module" ∧ ob.dict = some builtinsNs ∧ ob.data = .plain
  nolim : K.lookup cStatics = some { cls := .none, data := .dict #[] }

structure Rm (n : Nat) (A : Around) : Prop where
  d : A.depth + n ≤ 600
  u : A.units + 100 * n ≤ 5000
  h : A.handled = none

theorem Rm.deeper {n : Nat} {A : Around} {env : Env} (h : Rm (n + 1) A) : Rm n (A.deeper env) := ⟨by have := h.d; show A.depth + 1 + n ≤ 600; omega, by have := h.u; show A.units + 3 + 100 * n ≤ 5000; omega, h.h⟩
theorem Rm.in1 {n : Nat} {A : Around} (h : Rm (n + 1) A) : Rm n A.in1 := ⟨by have := h.d; show A.depth + n ≤ 600; (solve_by_elim (maxDepth := 3) [Nat.le_of_lt_succ, Nat.lt_succ_of_le, Nat.lt_succ_of_lt, Nat.le_of_lt, Nat.le_succ_of_le, Nat.pos_of_ne_zero, Nat.ne_of_gt, Nat.ne_of_lt, Nat.zero_le, Nat.le_refl, Nat.lt_succ_self, Nat.sub_le, Nat.le_of_not_lt, Nat.lt_of_not_le, Nat.le_trans, Nat.lt_of_lt_of_le, Nat.lt_of_le_of_lt, Nat.le_antisymm]), by have := h.u; show A.units + 1 + 100 * n ≤ 5000; omega, h.h⟩
theorem Rm.room {n : Nat} {A : Around} (h : Rm n A) : A.depth < recursionLimit := by have := h.d; show A.depth < 1000; omega
theorem Rm.units {n : Nat} {A : Around} (h : Rm n A) : A.units + 100 < cLine := by have := h.u; show A.units + 100 < 9900; omega

variable {prog : Program} {w : World} {K : Frag} {mb : Str → Option Value} {X Y : Addr → Prop} {C : Mem} {s s' s'' : Shared} {A : Around} {env : Env} {ρ : List (Str × PV)} {n : Nat}

theorem Base.fresh {h : Heap} (B : Base K mb h) {b : Addr} (hb : h.objs.size ≤ b) : FreeA K b := by
  refine ⟨?_, ?_, ?_⟩
  · cases e : K.lookup b with
    | none => rfl
    | some o => exact absurd (Heap.lt_size (B.frag _ _ e)) (Nat.not_lt.mpr hb)
  · rintro rfl; exact absurd B.bl.lt (Nat.not_lt.mpr hb)
  · rintro rfl; refine Mine.el1b B.bm fun ob e _ => ?_; exact absurd (Heap.lt_size e) (Nat.not_lt.mpr hb)

theorem Base.keepsF {h h' : Heap} (B : Base K mb h) (hk : ∀ b o, h.get? b = some o → ¬ FreeA K b → h'.get? b = some o) : Base K mb h' := by
  refine ⟨fun a o e => hk a o (B.frag a o e) (fun q => by rw [q.1] at e; cases e), ?_, B.blN, ?_, B.nolim⟩
  · refine Mine.el3b B.bl fun o es ep e r => ?_
    exact ⟨o, es, ep, hk _ _ e (fun q => q.2.1 rfl), r⟩
  · refine Mine.el1b B.bm fun ob e r => ?_
    exact ⟨ob, hk _ _ e (fun q => q.2.2 rfl), r⟩
theorem Base.ext (B : Base K mb s.heap) (h : Ext prog w X C s s') (xo : ∀ a, X a → FreeA K a) (co : ∀ a P, C a = some P → FreeA K a) : Base K mb s'.heap :=
  B.keepsF fun b o e q => (h.keep b o e fun hx => q (xo _ hx)).elim id fun ⟨P, hP, _⟩ => (q (co _ _ hP)).elim

theorem Base.noLimit {h : Heap} (B : Base K mb h) : h.NoLimit := by
  refine ⟨fun _ => none, ⟨_, #[], 0, B.frag _ _ B.nolim, rfl, fun e he => by simp at he, fun _ => rfl⟩, rfl⟩

structure Fm (X : Addr → Prop) (C : Mem) (env : Env) (h : Heap) (ρ : List (Str × PV)) : Prop where
  kind : env.scope.kind = .function
  globals : env.globals = mainGlobals
  builtins : env.builtins = builtinsNs
  cl : C env.locals = none
  ns : ∃ m, h.Ns env.locals m ∧ ∀ x p, ρ.lookup x = some p → env.kindOf x = some .local → ∃ v, m x = some v ∧ Rep X h v p
  cell : ∀ x c, env.cells.lookup x = some c → ∃ ov, h.IsCell c ov ∧ ∀ p, ρ.lookup x = some p → (env.kindOf x = some .cell ∨ env.kindOf x = some .free) → ∃ v, ov = some v ∧ Rep X h v p

structure Sit (prog : Program) (w : World) (K : Frag) (mb : Str → Option Value) (n : Nat) (C : Mem) (X : Addr → Prop) (A : Around) (env : Env) (ρ : List (Str × PV)) (s : Shared) : Prop where
  base : Base K mb s.heap
  rm : Rm n A
  bd : ∀ a, X a → a < s.heap.objs.size
  xo : ∀ a, X a → FreeA K a
  co : ∀ a P, C a = some P → FreeA K a ∧ ¬ X a ∧ ∃ o es, s.heap.get? a = some o ∧ MemoEs prog w o es
  fm : Fm X C env s.heap ρ

theorem memo_ext (h : Ext prog w X C s s') {a : Addr} {o : Obj} {es : List (Str × Int)} (ho : s.heap.get? a = some o) (hm : MemoEs prog w o es) (hx : ¬ X a) : ∃ o' more, s'.heap.get? a = some o' ∧ MemoEs prog w o' (es ++ more) ∧ (∀ P, C a = some P → ∀ p ∈ more, P p.1 p.2) := by
  rcases h.keep a o ho hx with k | ⟨P, hP, es', o', more, m1, k, m2, hm'⟩
  · exact ⟨o, [], k, by rw [List.append_nil]; exact hm, fun _ _ p hp => nomatch hp⟩
  · have := m1.unique hm; subst this
    exact ⟨o', more, k, m2, fun P' hP' => by rw [hP] at hP'; cases hP'; exact hm'⟩
theorem co_ext (h : Ext prog w X C s s') (co : ∀ a P, C a = some P → FreeA K a ∧ ¬ X a ∧ ∃ o es, s.heap.get? a = some o ∧ MemoEs prog w o es) :
    ∀ a P, C a = some P → FreeA K a ∧ ¬ X a ∧ ∃ o es, s'.heap.get? a = some o ∧ MemoEs prog w o es := fun a P e => by
  obtain ⟨h1, h2, o, es, ho, hm⟩ := co a P e
  refine Mine.el2c (memo_ext h ho hm h2) fun o' more k m _ => ?_
  exact ⟨h1, h2, o', _, k, m⟩
theorem isCell_ext {c : Addr} {v : Option Value} (h : Ext prog w X C s s') (hx : ¬ X c) (hc : s.heap.IsCell c v) : s'.heap.IsCell c v := by
  (refine Mine.el1b hc fun o ho hd => ?_; try clear hc)
  exact ⟨o, h.keepD ho hx (by rw [hd]; first | exact fun _ _ h => by cases h | exact fun _ h => by cases h | nofun), hd⟩
theorem ns_ext {a : Addr} {m : Str → Option Value} (h : Ext prog w X C s s') (hx : ¬ X a) (hc : C a = none) (hn : s.heap.Ns a m) : s'.heap.Ns a m := by
  (refine Mine.el3b hn fun o es ep ho r => ?_; try clear hn)
  exact ⟨o, es, ep, h.keepAt ho hx hc, r⟩

theorem Fm.ext (F : Fm X C env s.heap ρ) (h : Ext prog w noX C s s') : Fm X C env s'.heap ρ := by
  refine ⟨F.kind, F.globals, F.builtins, F.cl, ?_, fun x c e => ?_⟩
  · refine Mine.el1b F.ns fun m hn hv => ?_
    exact ⟨m, ns_ext h (fun q => q) F.cl hn, fun x p e k => let ⟨v, h1, h2⟩ := hv x p e k; ⟨v, h1, h2.ext h.ofNo⟩⟩
  · refine Mine.el1b (F.cell x c e) fun ov hc hv => ?_
    exact ⟨ov, isCell_ext h (fun q => q) hc, fun p e k => let ⟨v, h1, h2⟩ := hv p e k; ⟨v, h1, h2.ext h.ofNo⟩⟩
theorem Sit.ext (S : Sit prog w K mb n C X A env ρ s) (h : Ext prog w noX C s s') : Sit prog w K mb n C X A env ρ s' :=
  ⟨S.base.ext h (fun _ q => q.elim) fun a P e => (S.co a P e).1, S.rm, fun a ha => Nat.lt_of_lt_of_le (S.bd a ha) h.size, S.xo, fun a P e => by
    obtain ⟨h1, h2, o, es, ho, hm⟩ := S.co a P e
    refine Mine.el2c (memo_ext h ho hm (fun q => q)) fun o' more k m _ => ?_
    exact ⟨h1, h2, o', _, k, m⟩, S.fm.ext h⟩

/-! the judgements -/
noncomputable def Do {α : Type} (prog : Program) (w : World) (C : Mem) (A : Around) (m : Sem α) (R : α → Shared → Prop) (s : Shared) : Prop :=
  ∀ s₁, Ext prog w noX C s s₁ → ∀ (Q : α → Shared → Prop) (E : Value → Shared → Prop), (∀ a s₂, Ext prog w noX C s₁ s₂ → R a s₂ → Q a s₂) → wpAny (model prog w) A m Q E s₁

abbrev DoV (prog : Program) (w : World) (C : Mem) (X : Addr → Prop) (A : Around) (m : Sem Value) (p : PV) (s : Shared) : Prop := Do prog w C A m (fun v s => Rep X s.heap v p) s
abbrev Ev (prog : Program) (w : World) (C : Mem) (X : Addr → Prop) (A : Around) (env : Env) (e : Expr) (p : PV) (s : Shared) : Prop := DoV prog w C X A (eval e env) p s
abbrev Ts (prog : Program) (w : World) (C : Mem) (A : Around) (env : Env) (e : Expr) (b : Bool) (s : Shared) : Prop := Do prog w C A (isTrue e env (eval e env)) (fun v _ => v = b) s

theorem Do.ext {α : Type} {m : Sem α} {R : α → Shared → Prop} (h : Do prog w C A m R s) (e : Ext prog w noX C s s') : Do prog w C A m R s' := fun s₁ e₁ => h s₁ (e.trans e₁)
theorem Do.run {α : Type} {m : Sem α} {R : α → Shared → Prop} {Q : α → Shared → Prop} {E : Value → Shared → Prop} (h : Do prog w C A m R s) (e : Ext prog w noX C s s')
    (k : ∀ a s₂, Ext prog w noX C s' s₂ → R a s₂ → Q a s₂) : wpAny (model prog w) A m Q E s' := h s' e Q E k
theorem Do.mono {α : Type} {m : Sem α} {R R' : α → Shared → Prop} (h : Do prog w C A m R s) (k : ∀ a s', Ext prog w noX C s s' → R a s' → R' a s') : Do prog w C A m R' s :=
  fun s₁ e₁ Q E q => h s₁ e₁ Q E fun a s₂ e₂ r => q a s₂ e₂ (k a s₂ (e₁.trans e₂) r)
/-! names -/
theorem ev_var {x : Str} {pos : Pos} {p : PV} (S : Sit prog w K mb n C X A env ρ s) (hx : ρ.lookup x = some p)
    (hk : (env.kindOf x = some .local ∨ ((env.kindOf x = some .cell ∨ env.kindOf x = some .free) ∧ (env.cells.lookup x).isSome = true)))
    (hd : autoParam ((x == ("__debug__" : Str)) = false) Mine.autoD) (hn : autoParam ((x == ("__classdict__" : Str)) = false) Mine.autoD) : Ev prog w C X A env (.Name x pos) p s := by
  intro s₁ e₁ Q E q
  have F := S.fm.ext e₁
  refine wpAny_Name ?_ hd
  rcases hk with hk | ⟨hk, hc⟩
  · refine Mine.el1b F.ns fun m hn hv => ?_
    refine Mine.el1b (hv x p hx hk) fun v h1 h2 => ?_
    exact wpAny_loadName_local F.kind hk hn h1 (q _ _ .refl h2)
  · refine Mine.el1a (Option.isSome_iff_exists.mp hc) fun c hc => ?_
    refine Mine.el1b (F.cell x c hc) fun ov hi hv => ?_
    (refine Mine.el1b (hv p hx hk) fun v hq1 h2 => ?_; obtain rfl := hq1)
    rcases hk with hk | hk
    · exact wpAny_loadName_cell F.kind hk hc hi (q _ _ .refl h2)
    · exact wpAny_loadName_free F.kind hk hc hi (q _ _ .refl h2) hn
theorem do_global {x : Str} {v : Value} (S : Sit prog w K mb n C X A env ρ s) (e : nsIn K mainGlobals x = some (some v)) : DoV prog w C X A (loadGlobal env x) (.val v) s := by
  intro s₁ e₁ Q E q
  have S₁ := S.ext e₁
  unfold loadGlobal
  rw [S.fm.globals]
  exact wpAny_bind ((looks_nsIn S₁.base.frag e).here (wpAny_pure (q _ _ .refl (.val v))))
theorem ev_global {x : Str} {pos : Pos} {v : Value} (S : Sit prog w K mb n C X A env ρ s) (e : nsIn K mainGlobals x = some (some v)) (hx : env.kindOf x = some .globalImplicit)
    (hd : autoParam ((x == ("__debug__" : Str)) = false) Mine.autoD) : Ev prog w C X A env (.Name x pos) (.val v) s :=
  fun s₁ e₁ Q E q => Name_function_global S.fm.kind hx (do_global S e s₁ e₁ Q E q) hd
theorem ev_gstr {x y : Str} {t : Tok} {pos : Pos} (S : Sit prog w K mb n C X A env ρ s) (e : nsIn K mainGlobals x = some (some (.str y t))) (hx : env.kindOf x = some .globalImplicit)
    (hd : autoParam ((x == ("__debug__" : Str)) = false) Mine.autoD) : Ev prog w C X A env (.Name x pos) (.str y) s :=
  fun s₁ e₁ Q E q => Name_function_global S.fm.kind hx (do_global S e s₁ e₁ Q E fun v s₂ e₂ r => q v s₂ e₂ (by refine Mine.Rep.elV r fun _ => ?_; exact .str _ _)) hd
theorem ev_builtin {x : Str} {pos : Pos} {v : Value} (S : Sit prog w K mb n C X A env ρ s) (e : nsIn K mainGlobals x = some none) (hv : bootBuiltins x = some v) (hn : x ≠ "__name__") (hx : env.kindOf x = some .globalImplicit)
    (hd : autoParam ((x == ("__debug__" : Str)) = false) Mine.autoD) : Ev prog w C X A env (.Name x pos) (.val v) s := by
  intro s₁ e₁ Q E q
  have S₁ := S.ext e₁
  refine Name_function_global S.fm.kind hx ?_ hd
  unfold loadGlobal
  rw [S.fm.globals, S.fm.builtins]
  refine wpAny_bind ((looks_nsIn S₁.base.frag e).here ?_)
  refine wpAny_bind (wpAny_nsGet S₁.base.bl ?_)
  rw [S₁.base.blN x hn, hv]
  exact wpAny_pure (q _ _ .refl (.val v))

/-! constants -/
theorem ev_cstr {x : Str} {k : Nat} {pos : Pos} : Ev prog w C X A env (.Constant (.str x) k pos) (.str x) s := fun s₁ e₁ Q E q => wpAny_Constant_str (q _ _ .tok (.str _ _))
theorem ev_cint {x : Int} {k : Nat} {pos : Pos} : Ev prog w C X A env (.Constant (.int x) k pos) (.int x) s := fun s₁ e₁ Q E q => wpAny_Constant_int (q _ _ .tok (.int _ _))
theorem ev_cbool {b : Bool} {k : Nat} {pos : Pos} : Ev prog w C X A env (.Constant (.bool b) k pos) (.bool b) s := fun s₁ e₁ Q E q => wpAny_Constant_bool (q _ _ .refl (.bool _))
theorem ev_cnone {k : Nat} {pos : Pos} : Ev prog w C X A env (.Constant .none k pos) .none s := fun s₁ e₁ Q E q => wpAny_Constant_none (q _ _ .refl .none)

end Mine
end
section
open PySem PySem.W PySem.Calls PyProof.Rows
set_option Elab.async false
set_option maxRecDepth 100000
set_option linter.unusedVariables false
namespace Mine
variable {prog : Program} {w : World} {K : Frag} {mb : Str → Option Value} {X Y : Addr → Prop} {C : Mem} {s s' s'' : Shared} {A : Around} {env : Env} {ρ : List (Str × PV)} {n : Nat}

/-! operators -/
theorem ev_binop {l r : Expr} {op : Operator} {pos : Pos} {p q p' : PV} (h1 : Ev prog w C X A env l p s) (h2 : Ev prog w C X A env r q s)
    (hop : ∀ a b s', Ext prog w noX C s s' → Rep X s'.heap a p → Rep X s'.heap b q → DoV prog w C X A (binaryOp op a b) p' s') : Ev prog w C X A env (.BinOp l op r pos) p' s := by
  intro s₁ e₁ Q E k
  refine wpAny_BinOp (h1 s₁ e₁ _ _ fun a s₂ e₂ ra => h2 s₂ (e₁.trans e₂) _ _ fun b s₃ e₃ rb => ?_)
  exact hop a b s₃ (e₁.trans (e₂.trans e₃)) (ra.ext e₃.ofNo) rb s₃ .refl _ _ fun v s₄ e₄ rv => k v s₄ (e₂.trans (e₃.trans e₄)) rv

theorem ev_cmp {l r : Expr} {op : CmpOp} {pos : Pos} {p q p' : PV} (h1 : Ev prog w C X A env l p s) (h2 : Ev prog w C X A env r q s)
    (hop : ∀ a b s', Ext prog w noX C s s' → Rep X s'.heap a p → Rep X s'.heap b q → DoV prog w C X A (compareOp op a b) p' s') (hm : autoParam (behindInMarks op r = false) Mine.autoR) : Ev prog w C X A env (.Compare l [op] [r] pos) p' s := by
  intro s₁ e₁ Q E k
  refine wpAny_Compare1 (h1 s₁ e₁ _ _ fun a s₂ e₂ ra => h2 s₂ (e₁.trans e₂) _ _ fun b s₃ e₃ rb => ?_) hm
  exact hop a b s₃ (e₁.trans (e₂.trans e₃)) (ra.ext e₃.ofNo) rb s₃ .refl _ _ fun v s₄ e₄ rv => k v s₄ (e₂.trans (e₃.trans e₄)) rv

theorem ts_cmp {l r : Expr} {op : CmpOp} {pos : Pos} {p q : PV} {b : Bool} (h1 : Ev prog w C X A env l p s) (h2 : Ev prog w C X A env r q s)
    (hop : ∀ a b' s', Ext prog w noX C s s' → Rep X s'.heap a p → Rep X s'.heap b' q → DoV prog w C X A (compareOp op a b') (.bool b) s') (hm : autoParam (behindInMarks op r = false) Mine.autoR) : Ts prog w C A env (.Compare l [op] [r] pos) b s := by
  intro s₁ e₁ Q E k
  refine wpAny_isTrue_Compare1 (h1 s₁ e₁ _ _ fun a s₂ e₂ ra => h2 s₂ (e₁.trans e₂) _ _ fun b s₃ e₃ rb => ?_) hm
  refine hop a b s₃ (e₁.trans (e₂.trans e₃)) (ra.ext e₃.ofNo) rb s₃ .refl _ _ fun v s₄ e₄ rv => ?_
  refine Mine.Rep.elB rv fun _ => ?_
  exact wpAny_truthy_bool (k _ s₄ (e₂.trans (e₃.trans e₄)) rfl)

theorem op_add_str {x y : Str} {a b : Value} (ha : Rep X s.heap a (.str x)) (hb : Rep X s.heap b (.str y)) (hsz : x.length + y.length ≤ sizeLine) : DoV prog w C X A (binaryOp .Add a b) (.str (x ++ y)) s := by
  refine Mine.Rep.elS ha fun _ => ?_; refine Mine.Rep.elS hb fun _ => ?_
  exact fun s₁ e₁ Q E k => SB.add (fun t' n => k _ _ .tok (.str _ _)) hsz
theorem op_add_int {x y : Int} {a b : Value} (ha : Rep X s.heap a (.int x)) (hb : Rep X s.heap b (.int y)) : DoV prog w C X A (binaryOp .Add a b) (.int (x + y)) s := by
  refine Mine.Rep.elI ha fun _ => ?_; refine Mine.Rep.elI hb fun _ => ?_
  exact fun s₁ e₁ Q E k => P.add_int (k _ _ .tok (.int _ _))
theorem op_eq_int {x y : Int} {a b : Value} (ha : Rep X s.heap a (.int x)) (hb : Rep X s.heap b (.int y)) : DoV prog w C X A (compareOp .Eq a b) (.bool (x == y)) s := by
  refine Mine.Rep.elI ha fun _ => ?_; refine Mine.Rep.elI hb fun _ => ?_
  exact fun s₁ e₁ Q E k => P.eq_int (k _ _ .refl (.bool _))
theorem op_lt_int {x y : Int} {a b : Value} (ha : Rep X s.heap a (.int x)) (hb : Rep X s.heap b (.int y)) : DoV prog w C X A (compareOp .Lt a b) (.bool (decide (x < y))) s := by
  refine Mine.Rep.elI ha fun _ => ?_; refine Mine.Rep.elI hb fun _ => ?_
  exact fun s₁ e₁ Q E k => P.lt_int (k _ _ .refl (.bool _))
theorem op_gt_int {x y : Int} {a b : Value} (ha : Rep X s.heap a (.int x)) (hb : Rep X s.heap b (.int y)) : DoV prog w C X A (compareOp .Gt a b) (.bool (decide (x > y))) s := by
  refine Mine.Rep.elI ha fun _ => ?_; refine Mine.Rep.elI hb fun _ => ?_
  exact fun s₁ e₁ Q E k => P.gt_int (k _ _ .refl (.bool _))
theorem op_ge_int {x y : Int} {a b : Value} (ha : Rep X s.heap a (.int x)) (hb : Rep X s.heap b (.int y)) : DoV prog w C X A (compareOp .GtE a b) (.bool (decide (x ≥ y))) s := by
  refine Mine.Rep.elI ha fun _ => ?_; refine Mine.Rep.elI hb fun _ => ?_
  exact fun s₁ e₁ Q E k => P.ge_int (k _ _ .refl (.bool _))
theorem beq_cps {x y : Str} : (x.cps.toList == y.cps.toList) = decide (x = y) := by
  by_cases h : x = y
  · subst h; simp
  · rw [decide_eq_false h]
    refine beq_eq_false_iff_ne.mpr fun hl => h ?_
    cases x; cases y
    simp only [Str.mk.injEq]
    exact Array.toList_inj.mp hl
theorem op_eq_str {x y : Str} {a b : Value} (ha : Rep X s.heap a (.str x)) (hb : Rep X s.heap b (.str y)) : DoV prog w C X A (compareOp .Eq a b) (.bool (decide (x = y))) s := by
  refine Mine.Rep.elS ha fun _ => ?_; refine Mine.Rep.elS hb fun _ => ?_
  exact fun s₁ e₁ Q E k => P.eq_str (by rw [beq_cps]; exact k _ _ .refl (.bool _))
theorem op_ne_str {x y : Str} {a b : Value} (ha : Rep X s.heap a (.str x)) (hb : Rep X s.heap b (.str y)) : DoV prog w C X A (compareOp .NotEq a b) (.bool (!decide (x = y))) s := by
  refine Mine.Rep.elS ha fun _ => ?_; refine Mine.Rep.elS hb fun _ => ?_
  exact fun s₁ e₁ Q E k => P.ne_str (by rw [bne, beq_cps]; exact k _ _ .refl (.bool _))
theorem op_notIn_str {x y : Str} {a b : Value} (ha : Rep X s.heap a (.str y)) (hb : Rep X s.heap b (.str x)) : DoV prog w C X A (compareOp .NotIn a b) (.bool (!Txt.contains x y)) s := by
  refine Mine.Rep.elS ha fun _ => ?_; refine Mine.Rep.elS hb fun _ => ?_
  exact fun s₁ e₁ Q E k => SB.notContains (k _ _ .refl (.bool _))

/-- a new list: its address is the next one -/
theorem rep_newList {h : Heap} {items : Array Value} {l : List PV} {n : Nat} (bd : ∀ a, X a → a < h.objs.size) (hr : Reps X h items.toList l) :
    Rep X (h.push { cls := .type "list", data := .seq items n }) (.ref h.objs.size) (.list l) :=
  .list (fun hx => Nat.lt_irrefl _ (bd _ hx)) ⟨_, Heap.get?_push_size _ rfl, rfl, n, rfl⟩ (hr.keeps fun _ _ e => Heap.get?_push_of_some _ e)

theorem op_add_list {x y : List PV} {a b : Value} (bd : ∀ a, X a → a < s.heap.objs.size) (ha : Rep X s.heap a (.list x)) (hb : Rep X s.heap b (.list y)) (hsz : x.length + y.length ≤ sizeLine) : DoV prog w C X A (binaryOp .Add a b) (.list (x ++ y)) s := by
  intro s₁ e₁ Q E k
  have ha' := ha.ext e₁.ofNo
  have hb' := hb.ext e₁.ofNo
  have bd' : ∀ a, X a → a < s₁.heap.objs.size := fun a h => Nat.lt_of_lt_of_le (bd a h) e₁.size
  refine Mine.Rep.elL ((ha')) fun l items hx hl hr => ?_
  ·
    refine Mine.Rep.elL ((hb')) fun l2 items2 hx2 hl2 hr2 => ?_
    ·
      obtain ⟨⟨cls, dd, data, sl⟩, ho, hc, n, hd⟩ := id hl
      obtain ⟨⟨cls2, dd2, data2, sl2⟩, ho2, hc2, n2, hd2⟩ := id hl2
      simp only at hc hd hc2 hd2
      subst hc hd hc2 hd2
      have h1 : items.size = x.length := by simpa using hr.length
      have h2 : items2.size = y.length := by simpa using hr2.length
      refine concat_meets ⟨_, ho, rfl⟩ ⟨_, ho2, rfl⟩ noFill_list_add seq_list_add PySem.F.slot_list_add PySem.F.entry_list_add (PySem.F.args_list_add_2 _ _) (list_addW l l2 items items2 n n2 dd dd2 sl sl2 (by omega)) ⟨ho, ho2, ?_⟩
      refine k _ _ (.push) ?_
      exact rep_newList bd' (by simpa using hr.append hr2)

end Mine
end
section
open PySem PySem.W PySem.Calls PyProof.Rows
open PySem.SeqAt (EqAt RcAt RcNeAt)
set_option Elab.async false
set_option maxRecDepth 100000
set_option linter.unusedVariables false
namespace Mine
variable {prog : Program} {w : World} {K : Frag} {mb : Str → Option Value} {X Y : Addr → Prop} {C : Mem} {s s' s'' : Shared} {A : Around} {env : Env} {ρ : List (Str × PV)} {n : Nat}

/-! equality of plain values and of lists of them -/
noncomputable def immB : PV → Bool
  | .str _ | .bool _ | .none => true
  | _ => false
noncomputable def eqI : PV → PV → Bool
  | .str a, .str b => a == b
  | .bool a, .bool b => a == b
  | .none, .none => true
  | _, _ => false
noncomputable def eqIs : List PV → List PV → Bool
  | [], [] => true
  | a :: x, b :: y => eqI a b && eqIs x y
  | _, _ => false
theorem imm_el {G : PV → Prop} {p : PV} (h : immB p = true) (h1 : G .none) (h2 : ∀ b, G (.bool b)) (h3 : ∀ x, G (.str x)) : G p := by
  cases p with
  | none => exact h1
  | bool b => exact h2 b
  | str x => exact h3 x
  | int | list | tup | val => exact absurd h Bool.false_ne_true
theorem eqAt_imm {h : Heap} {a b : Value} {p q : PV} (ha : Rep X h a p) (hb : Rep X h b q) (hp : immB p = true) (hq : immB q = true) : EqAt A s a b (eqI p q) :=
  imm_el (G := fun p => Rep X h a p → EqAt A s a b (eqI p q)) hp
    (fun ha => ha.elO fun _ => imm_el (G := fun q => Rep X h b q → EqAt A s .none b (eqI .none q)) hq (fun hb => hb.elO fun _ => EqAt.same _) (fun _ hb => hb.elB fun _ => EqAt.none_bool _) (fun _ hb => hb.elS fun _ => EqAt.none_str _ _) hb)
    (fun c ha => ha.elB fun _ => imm_el (G := fun q => Rep X h b q → EqAt A s (.bool c) b (eqI (.bool c) q)) hq (fun hb => hb.elO fun _ => EqAt.bool_none _) (fun _ hb => hb.elB fun _ => EqAt.bool_bool _ _) (fun _ hb => hb.elS fun _ => EqAt.bool_str _ _ _) hb)
    (fun x ha => ha.elS fun t => imm_el (G := fun q => Rep X h b q → EqAt A s (.str x t) b (eqI (.str x) q)) hq (fun hb => hb.elO fun _ => EqAt.str_none _ _) (fun _ hb => hb.elB fun _ => EqAt.str_bool _ _ _) (fun _ hb => hb.elS fun _ => EqAt.str_str _ _ _ _) hb) ha
theorem eqAts {h : Heap} : ∀ {vs us : List Value} {x y : List PV}, Reps X h vs x → Reps X h us y → (∀ p ∈ x, immB p = true) → (∀ p ∈ y, immB p = true) → ∀ j (h1 : j < vs.length) (h2 : j < us.length),
    EqAt A s vs[j] us[j] (eqI (x.getD j .none) (y.getD j .none)) := by
  intro vs us x y r
  induction r using Reps.rec (motive_1 := fun _ _ _ => True) generalizing us y with
  | none | bool | int | str | list | tup | val => trivial
  | nil => intro _ _ _ j h1; exact absurd h1 (Nat.not_lt_zero _)
  | cons a r _ ih =>
    intro r' hx hy j h1 h2
    cases r' with
    | nil => exact absurd h2 (Nat.not_lt_zero _)
    | cons b r' =>
      cases j with
      | zero => exact eqAt_imm a b (hx _ (.head _)) (hy _ (.head _))
      | succ j => exact ih r' (fun p hp => hx p (.tail _ hp)) (fun p hp => hy p (.tail _ hp)) j (by simpa using h1) (by simpa using h2)
theorem eqIs_range {x : List PV} : ∀ {y : List PV}, x.length = y.length → (List.range x.length).all (fun j => eqI (x.getD j .none) (y.getD j .none)) = eqIs x y := by
  induction x with
  | nil => intro y h; cases y with
    | nil => rfl
    | cons => cases h
  | cons a x ih => intro y h; cases y with
    | nil => cases h
    | cons b y =>
      rw [List.length_cons, List.range_succ_eq_map, List.all_cons, List.all_map]
      exact congrArg (eqI a b && ·) (ih (Nat.succ.inj h))
theorem eqIs_len {x : List PV} : ∀ {y : List PV}, x.length ≠ y.length → eqIs x y = false := by
  induction x with
  | nil => intro y h; cases y with
    | nil => exact absurd rfl h
    | cons => rfl
  | cons a x ih => intro y h; cases y with
    | nil => rfl
    | cons b y => exact (congrArg (eqI a b && ·) (ih fun q => h (congrArg (· + 1) q))).trans (Bool.and_false _)
theorem eqIs_map {α : Type} [DecidableEq α] {f : α → PV} (hf : ∀ a b, eqI (f a) (f b) = decide (a = b)) {x : List α} : ∀ {y : List α}, eqIs (x.map f) (y.map f) = decide (x = y) := by
  induction x with
  | nil => intro y; cases y with
    | nil => rfl
    | cons => rfl
  | cons a x ih => intro y; cases y with
    | nil => rfl
    | cons b y =>
      show (eqI (f a) (f b) && eqIs (x.map f) (y.map f)) = _
      rw [hf, ih, ← Bool.decide_and]
      exact decide_eq_decide.mpr (Iff.of_eq (List.cons.injEq ..).symm)
theorem eqIs_str {x y : List Str} : eqIs (x.map .str) (y.map .str) = decide (x = y) := eqIs_map fun _ _ => rfl
theorem eqIs_bool {x y : List Bool} : eqIs (x.map .bool) (y.map .bool) = decide (x = y) := eqIs_map fun a b => by cases a <;> cases b <;> rfl

theorem rcAt_lists {h : Shared} {l l2 : Addr} {items items2 : Array Value} {x y : List PV} (hl : h.heap.IsList l items) (hl2 : h.heap.IsList l2 items2) (hr : Reps X h.heap items.toList x) (hr2 : Reps X h.heap items2.toList y)
    (hx : ∀ p ∈ x, immB p = true) (hy : ∀ p ∈ y, immB p = true) (hu : A.units < cLine) : RcAt A h (.ref l) (.ref l2) (eqIs x y) ∧ RcNeAt A h (.ref l) (.ref l2) (!eqIs x y) := by
  have h1 : items.size = x.length := hr.length
  have h2 : items2.size = y.length := hr2.length
  by_cases hs : x.length = y.length
  · have he : ∀ j (k1 : j < items.size) (k2 : j < items2.size), EqAt A.in1 h items[j] items2[j] (eqI (x.getD j .none) (y.getD j .none)) := fun j k1 k2 => eqAts (A := A.in1) (s := h) hr hr2 hx hy j k1 k2
    have q1 := RcAt.lists hl hl2 (h1.trans (hs.trans h2.symm)) hu he
    have q2 := RcNeAt.lists hl hl2 (h1.trans (hs.trans h2.symm)) hu he
    rw [h1, eqIs_range hs] at q1 q2
    exact ⟨q1, q2⟩
  · rw [eqIs_len hs]
    exact ⟨RcAt.lists_lengths hl hl2 (bne_iff_ne.mpr fun q => hs (h1.symm.trans (q.trans h2))) hu, RcNeAt.lists_lengths hl hl2 (bne_iff_ne.mpr fun q => hs (h1.symm.trans (q.trans h2))) hu⟩

theorem op_eq_list {x y : List PV} {a b : Value} (hu : A.units < cLine) (hx : ∀ p ∈ x, immB p = true) (hy : ∀ p ∈ y, immB p = true) (ha : Rep X s.heap a (.list x)) (hb : Rep X s.heap b (.list y)) : DoV prog w C X A (compareOp .Eq a b) (.bool (eqIs x y)) s := by
  intro s₁ e₁ Q E k
  refine Mine.Rep.elL ((ha.ext e₁.ofNo)) fun _ _ _ hl hr => ?_
  refine Mine.Rep.elL ((hb.ext e₁.ofNo)) fun _ _ _ hl2 hr2 => ?_
  exact (rcAt_lists hl hl2 hr hr2 hx hy hu).1 prog w E Q (k _ _ .refl (.bool _))
theorem op_ne_list {x y : List PV} {a b : Value} (hu : A.units < cLine) (hx : ∀ p ∈ x, immB p = true) (hy : ∀ p ∈ y, immB p = true) (ha : Rep X s.heap a (.list x)) (hb : Rep X s.heap b (.list y)) : DoV prog w C X A (compareOp .NotEq a b) (.bool (!eqIs x y)) s := by
  intro s₁ e₁ Q E k
  refine Mine.Rep.elL ((ha.ext e₁.ofNo)) fun _ _ _ hl hr => ?_
  refine Mine.Rep.elL ((hb.ext e₁.ofNo)) fun _ _ _ hl2 hr2 => ?_
  exact (rcAt_lists hl hl2 hr hr2 hx hy hu).2 prog w E Q (k _ _ .refl (.bool _))

theorem imm_strs {l : List Str} : ∀ p ∈ l.map PV.str, immB p = true := fun p hp => by refine Mine.mapEl hp fun x _ => ?_; rfl
theorem imm_bools {l : List Bool} : ∀ p ∈ l.map PV.bool, immB p = true := fun p hp => by refine Mine.mapEl hp fun x _ => ?_; rfl

/-- what a plain value stands for, and whether it equals p -/
noncomputable def toPV : Value → PV
  | .str x _ => .str x
  | .bool b => .bool b
  | .none => .none
  | _ => .int 0
noncomputable def eqV (p : PV) (v : Value) : Bool := eqI (toPV v) p
theorem toPV_eq {h : Heap} {v : Value} {q : PV} (hq : Rep X h v q) (iq : immB q = true) : toPV v = q :=
  imm_el (G := fun q => Rep X h v q → toPV v = q) iq (fun r => r.elO fun _ => rfl) (fun _ r => r.elB fun _ => rfl) (fun _ r => r.elS fun _ => rfl) hq
theorem eqV_eq {h : Heap} {v : Value} {p q : PV} (hq : Rep X h v q) (iq : immB q = true) : eqV p v = eqI q p := congrArg (eqI · p) (toPV_eq hq iq)
theorem any_eqV {h : Heap} {p : PV} {vs : List Value} {x : List PV} (r : Reps X h vs x) (hx : ∀ q ∈ x, immB q = true) : vs.any (eqV p) = x.any (fun q => eqI q p) :=
  reps_ind (P := fun vs x => (∀ q ∈ x, immB q = true) → vs.any (eqV p) = x.any (fun q => eqI q p)) (fun _ => rfl) (fun a _ ih hx => by rw [List.any_cons, List.any_cons, ih fun q hq => hx q (.tail _ hq), eqV_eq a (hx _ (.head _))]) r hx
theorem eqV_at {h : Heap} {p : PV} {b : Value} (hb : Rep X h b p) (ip : immB p = true) {vs : List Value} {x : List PV} (r : Reps X h vs x) (hx : ∀ q ∈ x, immB q = true) : ∀ y ∈ vs, EqAt A s y b (eqV p y) :=
  reps_ind (P := fun vs x => (∀ q ∈ x, immB q = true) → ∀ y ∈ vs, EqAt A s y b (eqV p y)) (fun _ y hy => nomatch hy) (fun a _ ih hx y hy => by
    rcases List.mem_cons.mp hy with rfl | hy
    · rw [eqV_eq a (hx _ (.head _))]; exact eqAt_imm a hb (hx _ (.head _)) ip
    · exact ih (fun q hq => hx q (.tail _ hq)) y hy) r hx
theorem op_in_list {x : List PV} {p : PV} {a b : Value} (hx : ∀ p ∈ x, immB p = true) (ip : immB p = true) (ha : Rep X s.heap a p) (hb : Rep X s.heap b (.list x)) : DoV prog w C X A (compareOp .In a b) (.bool (x.any fun q => eqI q p)) s := by
  intro s₁ e₁ Q E k
  have ha' := ha.ext e₁.ofNo
  refine Mine.Rep.elL ((hb.ext e₁.ofNo)) fun _ _ _ hl hr => ?_
  ·
    refine PySem.SeqAt.in_listAt (eqV p) hl (fun y hy => eqV_at ha' ip hr hx y (Array.mem_toList_iff.mpr hy)) ?_
    rw [← Array.any_toList, any_eqV hr hx]
    exact k _ _ .refl (.bool _)
theorem op_notIn_list {x : List PV} {p : PV} {a b : Value} (hx : ∀ p ∈ x, immB p = true) (ip : immB p = true) (ha : Rep X s.heap a p) (hb : Rep X s.heap b (.list x)) : DoV prog w C X A (compareOp .NotIn a b) (.bool (!x.any fun q => eqI q p)) s := by
  intro s₁ e₁ Q E k
  have ha' := ha.ext e₁.ofNo
  refine Mine.Rep.elL ((hb.ext e₁.ofNo)) fun _ _ _ hl hr => ?_
  ·
    refine PySem.SeqAt.notIn_listAt (eqV p) hl (fun y hy => eqV_at ha' ip hr hx y (Array.mem_toList_iff.mpr hy)) ?_
    rw [← Array.any_toList, any_eqV hr hx]
    exact k _ _ .refl (.bool _)
theorem any_strs {l : List Str} {x : Str} : (l.map PV.str).any (fun q => eqI q (.str x)) = l.contains x := by
  induction l with
  | nil => rfl
  | cons a l ih =>
    rw [List.map_cons, List.any_cons, ih, List.contains_cons, show eqI (.str a) (.str x) = (a == x) from rfl, BEq.comm]
theorem any_bools {l : List Bool} {x : Bool} : (l.map PV.bool).any (fun q => eqI q (.bool x)) = l.contains x := by
  induction l with
  | nil => rfl
  | cons a l ih =>
    rw [List.map_cons, List.any_cons, ih, List.contains_cons, show eqI (.bool a) (.bool x) = (a == x) from rfl, BEq.comm]
end Mine
end
section
open PySem PySem.W PySem.Calls PyProof.Rows
set_option Elab.async false
set_option maxRecDepth 100000
set_option linter.unusedVariables false
namespace Mine
variable {prog : Program} {w : World} {K : Frag} {mb : Str → Option Value} {X Y : Addr → Prop} {C : Mem} {s s' s'' : Shared} {A : Around} {env : Env} {ρ : List (Str × PV)} {n : Nat}

abbrev DoVs (prog : Program) (w : World) (C : Mem) (X : Addr → Prop) (A : Around) (m : Sem (List Value)) (ps : List PV) (s : Shared) : Prop := Do prog w C A m (fun vs s => Reps X s.heap vs ps) s

/-- arguments, none starred -/
noncomputable def Evs (prog : Program) (w : World) (C : Mem) (X : Addr → Prop) (A : Around) (env : Env) (es : List Expr) (ps : List PV) (s : Shared) : Prop :=
  starEach es env = es.map (fun e => (false, eval e env)) ∧ DoVs prog w C X A (spliced (es.map fun e => (false, eval e env))) ps s
theorem evs_nil : Evs prog w C X A env [] [] s := ⟨rfl, fun s₁ e₁ Q E k => spliced_nil (k _ _ .refl .nil)⟩
theorem evs_cons {e : Expr} {es : List Expr} {p : PV} {ps : List PV} (h : Ev prog w C X A env e p s) (hs : Evs prog w C X A env es ps s) (he : autoParam (starEach (e :: es) env = (false, eval e env) :: starEach es env) Mine.autoR) : Evs prog w C X A env (e :: es) (p :: ps) s := by
  refine ⟨by rw [he, hs.1]; rfl, fun s₁ e₁ Q E k => spliced_cons (h s₁ e₁ _ _ fun v s₂ e₂ r => hs.2 s₂ (e₁.trans e₂) _ _ fun vs s₃ e₃ rs => ?_)⟩
  exact k _ _ (e₂.trans e₃) (.cons (r.ext e₃.ofNo) rs)
theorem backTo_plain {pos : Pos} {es : List Expr} : backTo pos (es.map fun e => (false, eval e env)) = es.map fun e => (false, eval e env) := by
  unfold backTo
  rw [List.map_map]
  rfl
theorem plain_any {es : List Expr} : (es.map fun e => ((false, eval e env) : Bool × Sem Value)).any (·.1) = false := by
  induction es with
  | nil => rfl
  | cons e es ih => rw [List.map_cons, List.any_cons, ih]; rfl
theorem do_evalArgs {f : Value} {es : List Expr} {ps : List PV} (h : DoVs prog w C X A (spliced (es.map fun e => (false, eval e env))) ps s) :
    Do prog w C A (evalArgs f true (es.map fun e => (false, eval e env)) []) (fun a s => Reps X s.heap a.pos ps ∧ a.kw = []) s := by
  intro s₁ e₁ Q E k
  cases es with
  | nil =>
    unfold evalArgs
    show wpAny _ _ (spliced [] >>= _) _ _ _
    refine wpAny_bind (h s₁ e₁ _ _ fun vs s₂ e₂ r => wpAny_bind (wpAny_pure (wpAny_holding ?_)))
    exact wpAny_bind (wpAny_pure (wpAny_bind (wpAny_pure (wpAny_pure (k _ _ e₂ ⟨r, rfl⟩)))))
  | cons e es => exact evalArgs_plain (h s₁ e₁ _ _ fun vs s₂ e₂ r => k _ _ e₂ ⟨r, rfl⟩)

theorem do_callWith_builtin {pos : Pos} {id : String} {first : List Value} {es : List Expr} {ps : List PV} {R : Value → Shared → Prop} (h : Evs prog w C X A env es ps s)
    (hc : ∀ vs s', Ext prog w noX C s s' → Reps X s'.heap vs ps → Do prog w C A (call (.builtin id) (first ++ vs)) R s') : Do prog w C A (callWith pos (.builtin id) first (backTo pos (starEach es env)) []) R s := by
  intro s₁ e₁ Q E k
  rw [h.1, backTo_plain]
  refine callWith_builtin plain_any (do_evalArgs h.2 s₁ e₁ _ _ fun a s₂ e₂ r => ?_)
  obtain ⟨pos', kw⟩ := a
  (refine Mine.el0b r fun hq2 hq1 => ?_; clear r; revert hq2; intro r; obtain rfl := hq1)
  exact hc _ s₂ (e₁.trans e₂) r s₂ .refl _ _ fun v s₃ e₃ rv => k v s₃ (e₂.trans e₃) rv
theorem do_callWith_type {pos : Pos} {T : String} {es : List Expr} {ps : List PV} {R : Value → Shared → Prop} (h : Evs prog w C X A env es ps s)
    (hc : ∀ vs s', Ext prog w noX C s s' → Reps X s'.heap vs ps → Do prog w C A (call (.type T) vs) R s') : Do prog w C A (callWith pos (.type T) [] (backTo pos (starEach es env)) []) R s := by
  intro s₁ e₁ Q E k
  rw [h.1, backTo_plain]
  refine PySem.callWith_type plain_any (do_evalArgs h.2 s₁ e₁ _ _ fun a s₂ e₂ r => ?_)
  obtain ⟨pos', kw⟩ := a
  (refine Mine.el0b r fun hq4 hq3 => ?_; clear r; revert hq4; intro r; obtain rfl := hq3)
  exact hc _ s₂ (e₁.trans e₂) r s₂ .refl _ _ fun v s₃ e₃ rv => k v s₃ (e₂.trans e₃) rv
theorem do_callWith_function {pos : Pos} {a : Addr} {o : Obj} {fd : FuncData} {first : List Value} {es : List Expr} {ps : List PV} {R : Value → Shared → Prop} (h : Evs prog w C X A env es ps s) (ho : s.heap.get? a = some o) (hd : o.data = .func fd)
    (hc : ∀ vs s', Ext prog w noX C s s' → Reps X s'.heap vs ps → Do prog w C A (call (.ref a) (first ++ vs)) R s') : Do prog w C A (callWith pos (.ref a) first (backTo pos (starEach es env)) []) R s := by
  intro s₁ e₁ Q E k
  rw [h.1, backTo_plain]
  refine callWith_function (o := o) (fd := fd) (do_evalArgs h.2 s₁ e₁ _ _ fun a s₂ e₂ r => ?_)
  obtain ⟨pos', kw⟩ := a
  (refine Mine.el0b r fun hq6 hq5 => ?_; clear r; revert hq6; intro r; obtain rfl := hq5)
  refine ⟨⟨(e₁.trans e₂).keepD ho (fun q => q) (by rw [hd]; first | exact fun _ _ h => by cases h | exact fun _ h => by cases h | nofun), hd⟩, ?_⟩
  exact hc _ s₂ (e₁.trans e₂) r s₂ .refl _ _ fun v s₃ e₃ rv => k v s₃ (e₂.trans e₃) rv

theorem ev_call_builtin {func : Expr} {pos : Pos} {id : String} {es : List Expr} {ps : List PV} {R : Value → Shared → Prop} (hf : Ev prog w C X A env func (.val (.builtin id)) s) (h : Evs prog w C X A env es ps s)
    (hc : ∀ vs s', Ext prog w noX C s s' → Reps X s'.heap vs ps → Do prog w C A (call (.builtin id) vs) R s')
    (he : autoParam (eval (.Call func es [] pos) env = (do callWith pos (← eval func env) [] (backTo pos (starEach es env)) (backToKw pos (keywordEach [] env)))) Mine.autoR) : Do prog w C A (eval (.Call func es [] pos) env) R s := by
  intro s₁ e₁ Q E k
  refine Call_ (hf s₁ e₁ _ _ fun f s₂ e₂ r => ?_) he
  refine Mine.Rep.elV r fun _ => ?_
  exact do_callWith_builtin h (fun vs s' e r => by simpa using hc vs s' e r) s₂ (e₁.trans e₂) _ _ fun v s₃ e₃ rv => k v s₃ (e₂.trans e₃) rv
theorem ev_call_type {func : Expr} {pos : Pos} {T : String} {es : List Expr} {ps : List PV} {R : Value → Shared → Prop} (hf : Ev prog w C X A env func (.val (.type T)) s) (h : Evs prog w C X A env es ps s)
    (hc : ∀ vs s', Ext prog w noX C s s' → Reps X s'.heap vs ps → Do prog w C A (call (.type T) vs) R s')
    (he : autoParam (eval (.Call func es [] pos) env = (do callWith pos (← eval func env) [] (backTo pos (starEach es env)) (backToKw pos (keywordEach [] env)))) Mine.autoR) : Do prog w C A (eval (.Call func es [] pos) env) R s := by
  intro s₁ e₁ Q E k
  refine Call_ (hf s₁ e₁ _ _ fun f s₂ e₂ r => ?_) he
  refine Mine.Rep.elV r fun _ => ?_
  exact do_callWith_type h hc s₂ (e₁.trans e₂) _ _ fun v s₃ e₃ rv => k v s₃ (e₂.trans e₃) rv
theorem ev_call_fn {func : Expr} {pos : Pos} {a : Addr} {o : Obj} {fd : FuncData} {es : List Expr} {ps : List PV} {R : Value → Shared → Prop} (hf : Ev prog w C X A env func (.val (.ref a)) s) (h : Evs prog w C X A env es ps s) (ho : s.heap.get? a = some o) (hd : o.data = .func fd)
    (hc : ∀ vs s', Ext prog w noX C s s' → Reps X s'.heap vs ps → Do prog w C A (call (.ref a) vs) R s')
    (he : autoParam (eval (.Call func es [] pos) env = (do callWith pos (← eval func env) [] (backTo pos (starEach es env)) (backToKw pos (keywordEach [] env)))) Mine.autoR) : Do prog w C A (eval (.Call func es [] pos) env) R s := by
  intro s₁ e₁ Q E k
  refine Call_ (hf s₁ e₁ _ _ fun f s₂ e₂ r => ?_) he
  refine Mine.Rep.elV r fun _ => ?_
  exact do_callWith_function h ho hd (fun vs s' e r => by simpa using hc vs s' e r) s₂ (e₁.trans e₂) _ _ fun v s₃ e₃ rv => k v s₃ (e₂.trans e₃) rv

/-- a method that is a built-in one -/
noncomputable def Meth (prog : Program) (w : World) (C : Mem) (X : Addr → Prop) (A : Around) (name : Str) (q : PV) (ps : List PV) (p : PV) (s : Shared) : Prop := ∃ id : String,
  (∀ v s' (pl : Sem Bool), Ext prog w noX C s s' → Rep X s'.heap v q → Do prog w C A (getMethod v name pl) (fun fx _ => fx = (.builtin id, [v])) s') ∧
  (∀ v vs s', Ext prog w noX C s s' → Rep X s'.heap v q → Reps X s'.heap vs ps → DoV prog w C X A (call (.builtin id) (v :: vs)) p s')
theorem ev_method {o : Expr} {name : Str} {apos pos : Pos} {es : List Expr} {pl : Sem Bool} {ps : List PV} {p q : PV} (ho : Ev prog w C X A env o q s) (h : Evs prog w C X A env es ps s) (m : Meth prog w C X A name q ps p s)
    (he : autoParam (eval (.Call (.Attribute o name apos) es [] pos) env = (do
      let ov ← eval o env
      standAt apos.atName
      let (f, first) ← holding [ov] (getMethod ov name pl)
      callWith pos f first (backTo pos (starEach es env)) [])) Mine.autoR) : Ev prog w C X A env (.Call (.Attribute o name apos) es [] pos) p s := by
  (refine Mine.el1b m fun id hg hc => ?_; try clear m)
  intro s₁ e₁ Q E k
  refine MethodCall_ (ho s₁ e₁ _ _ fun v s₂ e₂ r => hg v s₂ pl (e₁.trans e₂) r s₂ .refl _ _ fun fx s₃ e₃ hfx => ?_) he
  subst hfx
  refine do_callWith_builtin ⟨h.1, h.2.ext (e₁.trans (e₂.trans e₃))⟩ (fun vs s' e r' => ?_) s₃ .refl _ _ fun v s₄ e₄ rv => k v s₄ (e₂.trans (e₃.trans e₄)) rv
  exact hc v vs s' (e₁.trans (e₂.trans (e₃.trans e))) (r.ext ((e₃.trans e).ofNo)) r'
theorem evs_ext {es : List Expr} {ps : List PV} (h : Evs prog w C X A env es ps s) (e : Ext prog w noX C s s') : Evs prog w C X A env es ps s' := ⟨h.1, h.2.ext e⟩

/-! methods of str -/
section
variable {x y : Str}
theorem m_startswith : Meth prog w C X A "startswith" (.str x) [.str y] (.bool (Txt.startswith x y)) s := ⟨"str.startswith",
  fun v s' pl e r => (by refine Mine.Rep.elS r fun _ => ?_; exact fun s₁ e₁ Q E k => GM.startswith (k _ _ .refl rfl)),
  fun v vs s' e r rs => (by refine Mine.Rep.elS r fun _ => ?_; refine Mine.Reps.elC rs fun _ _ a b => ?_; refine Mine.Rep.elS a fun _ => ?_; refine Mine.Reps.elN b ?_; exact fun s₁ e₁ Q E k => SC.startswith (k _ _ .refl (.bool _)))⟩
theorem m_endswith : Meth prog w C X A "endswith" (.str x) [.str y] (.bool (Txt.endswith x y)) s := ⟨"str.endswith",
  fun v s' pl e r => (by refine Mine.Rep.elS r fun _ => ?_; exact fun s₁ e₁ Q E k => GM.endswith (k _ _ .refl rfl)),
  fun v vs s' e r rs => (by refine Mine.Rep.elS r fun _ => ?_; refine Mine.Reps.elC rs fun _ _ a b => ?_; refine Mine.Rep.elS a fun _ => ?_; refine Mine.Reps.elN b ?_; exact fun s₁ e₁ Q E k => SC.endswith (k _ _ .refl (.bool _)))⟩
theorem reps_of_strValues {h : Heap} : ∀ {l : List (Str × Tok)}, Reps X h (strValues l) ((l.map (·.1)).map .str)
  | [] => .nil
  | (x, t) :: l => .cons (.str x t) reps_of_strValues
theorem strValues_of_reps {h : Heap} : ∀ {vs : List Value} {l : List Str}, Reps X h vs (l.map .str) → ∃ l' : List (Str × Tok), vs = strValues l' ∧ l'.map (·.1) = l
  | _, [], .nil => ⟨[], rfl, rfl⟩
  | _, x :: l, .cons a r => by
    cases a with
    | str _ t =>
      refine Mine.el1b (strValues_of_reps r) fun l' h1 h2 => ?_
      exact ⟨(x, t) :: l', by rw [h1]; rfl, by rw [List.map_cons, h2]⟩
theorem split_push {t u : Tok} {E : Value → Shared → Prop} {Q : Value → Shared → Prop} (hy : (y.length == 0) = false)
    (hq : ∀ (l : List (Str × Tok)) tk, l.map (·.1) = Txt.split x y → Q (.ref s.heap.objs.size) { s with toks := tk, heap := s.heap.push { cls := .type "list", data := .seq (strValues l).toArray } })
    (hsz : x.length ≤ sizeLine) (hsz2 : (Builtin.Str.partsBetween x (Builtin.Str.occurrences x y 0 x.length (x.length + 1)) y.length).length ≤ sizeLine) :
    wpAny (model prog w) A (call (.builtin "str.split") [.str x t, .str y u]) Q E s := by
  open Builtin.Str in
  cases h1 : (decide (x.length < y.length) || decide (Builtin.Str.strKind x < Builtin.Str.strKind y))
  · cases hf : (Builtin.Str.occurrences x y 0 x.length (x.length + 1)).isEmpty
    · refine call_meets PySem.F.slot_str_split (typeIs_str _ _ _) PySem.F.entry_str_split (PySem.F.args_str_split_2 _ _) (meets_str_split_sep x y t u h1 hy hf hsz hsz2) ?_
      show wants Q E _ { s with toks := _, heap := s.heap.push { cls := .type "list", data := .seq (strsFrom s.toks (Builtin.Str.partsBetween x (Builtin.Str.occurrences x y 0 x.length (x.length + 1)) y.length)).toArray } }
      rw [strsFrom_eq]
      exact hq (numbered s.toks _) _ ((numbered_texts _ _).trans ((if_neg (ne_true_of_eq_false h1)).trans (if_neg (ne_true_of_eq_false hf))).symm)
    · exact call_meets PySem.F.slot_str_split (typeIs_str _ _ _) PySem.F.entry_str_split (PySem.F.args_str_split_2 _ _) (meets_str_split_not_found x y t u h1 hy hf)
        (hq [(x, t)] s.toks ((if_neg (ne_true_of_eq_false h1)).trans (if_pos hf)).symm)
  · exact call_meets PySem.F.slot_str_split (typeIs_str _ _ _) PySem.F.entry_str_split (PySem.F.args_str_split_2 _ _) (meets_str_split_cannot_occur x y t u h1)
      (hq [(x, t)] s.toks (if_pos h1).symm)
theorem m_split (bd : ∀ a, X a → a < s.heap.objs.size) (hy : (y.length == 0) = false) (hsz : x.length ≤ sizeLine) (hsz2 : (Builtin.Str.partsBetween x (Builtin.Str.occurrences x y 0 x.length (x.length + 1)) y.length).length ≤ sizeLine) :
    Meth prog w C X A "split" (.str x) [.str y] (.list ((Txt.split x y).map .str)) s := ⟨"str.split",
  fun v s' pl e r => (by refine Mine.Rep.elS r fun _ => ?_; exact fun s₁ e₁ Q E k => GM.split (k _ _ .refl rfl)),
  fun v vs s' e r rs => (by
    refine Mine.Rep.elS r fun _ => ?_; cases rs with
    | cons a b =>
      refine Mine.Rep.elS a fun _ => ?_; refine Mine.Reps.elN b ?_
      intro s₁ e₁ Q E k
      have bd' : ∀ a, X a → a < s₁.heap.objs.size := fun a h => Nat.lt_of_lt_of_le (bd a h) (e.trans e₁).size
      refine split_push hy (fun l tk hl => k _ _ (Ext.push.tokR) ?_) hsz hsz2
      rw [← hl]
      exact rep_newList bd' reps_of_strValues)⟩
theorem m_join {l : List Str} (hok : JoinOk x l = true) : Meth prog w C X A "join" (.str x) [.list (l.map .str)] (.str (Txt.join x l)) s := ⟨"str.join",
  fun v s' pl e r => (by refine Mine.Rep.elS r fun _ => ?_; exact fun s₁ e₁ Q E k => GM.join (k _ _ .refl rfl)),
  fun v vs s' e r rs => (by
    refine Mine.Rep.elS r fun _ => ?_; cases rs with
    | cons a b =>
      refine Mine.Reps.elN b ?_
      intro s₁ e₁ Q E k
      refine Mine.Rep.elL ((a.ext e₁.ofNo)) fun D items hx hl hr => ?_
      ·
        refine Mine.el1b (strValues_of_reps hr) fun l' h1 h2 => ?_
        refine SC.join (l := l') (by rw [← h1]; exact hl) h2 hok fun t' n => k _ _ .tok (.str _ _))⟩
end
end Mine
end
section
open PySem PySem.W PySem.Calls PyProof.Rows
set_option Elab.async false
set_option maxRecDepth 100000
set_option linter.unusedVariables false
namespace Mine
variable {prog : Program} {w : World} {K : Frag} {mb : Str → Option Value} {X Y : Addr → Prop} {C : Mem} {s s' s'' : Shared} {A : Around} {env : Env} {ρ : List (Str × PV)} {n : Nat}

/-! built-in functions -/
theorem c_len_str {x : Str} {vs : List Value} (r : Reps X s.heap vs [.str x]) (hsz : x.length ≤ sizeLine) : DoV prog w C X A (call (.builtin "len") vs) (.int x.length) s := by
  refine Mine.Reps.elC r fun _ _ a b => ?_
  ·
    refine Mine.Rep.elS a fun _ => ?_; refine Mine.Reps.elN b ?_
    have : sizeLine = 16777216 := by decide
    exact fun s₁ e₁ Q E k => P.len_str (by omega) (k _ _ .tok (.int _ _))
theorem c_len_list {l : List PV} {vs : List Value} (r : Reps X s.heap vs [.list l]) (hsz : l.length ≤ sizeLine) : DoV prog w C X A (call (.builtin "len") vs) (.int l.length) s := by
  refine Mine.Reps.elC r fun _ _ a b => ?_
  ·
    refine Mine.Reps.elN b ?_
    intro s₁ e₁ Q E k
    refine Mine.Rep.elL ((a.ext e₁.ofNo)) fun D items hx hl hr => ?_
    ·
      have h1 : items.size = l.length := by simpa using hr.length
      have : sizeLine = 16777216 := by decide
      refine call_len_list hl (by omega) ?_
      rw [h1]
      exact k _ _ .tok (.int _ _)
theorem c_chr {i : Int} {vs : List Value} (r : Reps X s.heap vs [.int i]) (h0 : 0 ≤ i) (h1 : i ≤ 1114111) : DoV prog w C X A (call (.builtin "chr") vs) (.str ⟨#[i.toNat]⟩) s := by
  refine Mine.Reps.elC r fun _ _ a b => ?_
  refine Mine.Rep.elI a fun _ => ?_; refine Mine.Reps.elN b ?_; exact fun s₁ e₁ Q E k => chr_of_range h0 h1 (k _ _ .tok (.str _ _))
theorem c_str_bool {b : Bool} {vs : List Value} (r : Reps X s.heap vs [.bool b]) : DoV prog w C X A (call (.type "str") vs) (.str (if b then "True" else "False")) s := by
  refine Mine.Reps.elC r fun _ _ a b => ?_
  refine Mine.Rep.elB a fun _ => ?_; refine Mine.Reps.elN b ?_; exact fun s₁ e₁ Q E k => P.str_of_bool (k _ _ .tok (.str _ _))
theorem c_str_int {i : Int} {vs : List Value} (r : Reps X s.heap vs [.int i]) (hi : i = 0 ∨ i = 1) : DoV prog w C X A (call (.type "str") vs) (.str (toString i)) s := by
  refine Mine.Reps.elC r fun _ _ a b => ?_
  ·
    refine Mine.Rep.elI a fun _ => ?_; refine Mine.Reps.elN b ?_
    intro s₁ e₁ Q E k
    refine P.str_of_int ?_ (k _ _ .tok (.str _ _))
    rcases hi with rfl | rfl <;> decide
theorem ints_of_reps {h : Heap} : ∀ {vs : List Value} {l : List Int}, Reps X h vs (l.map .int) → ∃ l' : List (Int × Tok), vs = l'.map (fun p => Value.int p.1 p.2) ∧ l'.map (·.1) = l
  | _, [], .nil => ⟨[], rfl, rfl⟩
  | _, x :: l, .cons a r => by
    cases a with
    | int _ t =>
      refine Mine.el1b (ints_of_reps r) fun l' h1 h2 => ?_
      exact ⟨(x, t) :: l', by rw [h1]; rfl, by rw [List.map_cons, h2]⟩
theorem c_sum {l : List Int} {vs : List Value} (hA : A.handled = none) (r : Reps X s.heap vs [.list (l.map .int)]) : DoV prog w C X A (call (.builtin "sum") vs) (.int l.sum) s := by
  refine Mine.Reps.elC r fun _ _ a b => ?_
  ·
    refine Mine.Reps.elN b ?_
    intro s₁ e₁ Q E k
    refine Mine.Rep.elL ((a.ext e₁.ofNo)) fun D items hx hl hr => ?_
    ·
      refine Mine.el1b (ints_of_reps hr) fun l' h1 h2 => ?_
      have hi : items = intItems l'.toArray := by
        apply Array.toList_inj.mp
        rw [h1]
        simp [intItems]
      rw [hi] at hl
      refine with_size (sum_intListG hA hl fun h' tk t' hk hsz => ?_)
      have hs : preSum (numAt l'.toArray) l'.toArray.size = l.sum := by
        rw [preSum_eq, List.take_of_length_le (by simp), ← h2]
      rw [hs]
      exact k _ _ (.ofKeep hsz hk rfl rfl) (.int _ _)

/-! subscripts -/
theorem ev_ifexp {test body orelse : Expr} {pos : Pos} {b : Bool} {p : PV} (ht : Ts prog w C A env test b s) (h1 : b = true → Ev prog w C X A env body p s) (h2 : b = false → Ev prog w C X A env orelse p s) : Ev prog w C X A env (.IfExp test body orelse pos) p s := by
  intro s₁ e₁ Q E k
  refine wpAny_IfExp (ht s₁ e₁ _ _ fun b' s₂ e₂ hb => ?_)
  subst hb
  cases b' with
  | true => exact h1 rfl s₂ (e₁.trans e₂) _ _ fun v s₃ e₃ r => k v s₃ (e₂.trans e₃) r
  | false => exact h2 rfl s₂ (e₁.trans e₂) _ _ fun v s₃ e₃ r => k v s₃ (e₂.trans e₃) r
theorem ev_neg {x : Expr} {pos : Pos} {i : Int} (h : Ev prog w C X A env x (.int i) s) : Ev prog w C X A env (.UnaryOp .USub x pos) (.int (-i)) s := by
  intro s₁ e₁ Q E k
  refine wpAny_UnaryOp (h s₁ e₁ _ _ fun v s₂ e₂ r => ?_)
  refine Mine.Rep.elI r fun _ => ?_
  exact P.neg_int (k _ _ e₂.tokR (.int _ _))
theorem ev_list {es : List Expr} {pos : Pos} {ps : List PV} (bd : ∀ a, X a → a < s.heap.objs.size) (h : Evs prog w C X A env es ps s) (hsz : ps.length ≤ sizeLine) : Ev prog w C X A env (.List es pos) (.list ps) s := by
  intro s₁ e₁ Q E k
  refine List_ ?_
  rw [h.1, backTo_plain]
  refine h.2 s₁ e₁ _ _ fun vs s₂ e₂ r => wpAny_newObj_type (k _ _ (e₂.trans .push) (rep_newList (fun a h => Nat.lt_of_lt_of_le (bd a h) (e₁.trans e₂).size) r)) ?_
  show vs.toArray.size ≤ sizeLine
  rw [List.size_toArray, r.length]; exact hsz

theorem wpAny_subscripted {slice : Expr} {o i : Value} {Q : Value → Shared → Prop} {E : Value → Shared → Prop} (h : wpAny (model prog w) A (getItem o i) Q E s) : wpAny (model prog w) A (subscripted slice false o i) Q E s := by
  cases slice with
  | Slice l u st p => cases st <;> exact wpAny_operating h
  | _ => exact wpAny_operating h
theorem sub_core {value slice : Expr} {pos : Pos} {q p : PV} {T id : String} (hl : typeLookup (.type T) "__getitem__" = pure (some (.builtin id))) (hv : Ev prog w C X A env value q s)
    (hg : ∀ v s₁, Ext prog w noX C s s₁ → Rep X s₁.heap v q → ∀ Q E, (∀ r s', Ext prog w noX C s₁ s' → Rep X s'.heap r p → Q r s') → wpAny (model prog w) A (eval slice env) (fun i s₂ => s₂.TypeIs v T ∧ wpAny (model prog w) A (getItem v i) Q E s₂) E s₁) :
    Ev prog w C X A env (.Subscript value slice pos) p s := by
  intro s₁ e₁ Q E k
  rw [eval_Subscript]
  refine wpAny_bind (hv s₁ e₁ _ _ fun v s₂ e₂ r => ?_)
  refine wpAny_bind (wpAny_holding (wpAny_mono (hg v s₂ (e₁.trans e₂) r (fun r s₃ => wpAny (model prog w) A (letTemporaryGo value v r >>= fun _ => pure r) Q E s₃) E fun r s₃ e₃ hr => ?_) (fun i s₃ h₃ => wpAny_bind (wpAny_standAt ?_)) fun _ _ x => x))
  rotate_left
  · (refine Mine.el0b h₃ fun hT hw => ?_; try clear h₃)
    refine wpAny_bind (m := getitemInPython v) ?_
    rw [getitemInPython_of_ne hT.not_modules]
    refine wpAny_bind (wpAny_specialOf hT hl (wpAny_pure ?_))
    exact wpAny_bind (wpAny_subscripted hw)
  · exact wpAny_bind (PySem.wpAny_letTemporaryGo (wpAny_pure (k r s₃ (e₂.trans e₃) hr)))

/-! slices -/
noncomputable def pick {α : Type} (l : List α) (lo hi st : Option Int) : List α := (sliceRange (sliceBounds lo hi st l.length).1 (sliceBounds lo hi st l.length).2.1 (sliceBounds lo hi st l.length).2.2).filterMap (l[·]?)
theorem slicePick_eq (items : Array Value) (lo hi st : Option Int) : (slicePick items lo hi st).toList = pick items.toList lo hi st := by
  unfold slicePick pick
  simp
theorem strIdx_eq (lo hi : Option Int) (st : Int) (n : Nat) : Builtin.Str.strSliceIndices lo hi st n = sliceRange (sliceBounds lo hi (some st) n).1 (sliceBounds lo hi (some st) n).2.1 (sliceBounds lo hi (some st) n).2.2 := by
  cases lo <;> cases hi <;> rfl
theorem pick_run' {α : Type} (xs : List α) (a : Nat) (k : Nat) : ((List.range k).map (a + ·)).filterMap (xs[·]?) = (xs.drop a).take k := by
  have := pick_run xs.toArray a k
  simpa using this
theorem pick_plain {α : Type} (l : List α) (lo hi : Option Int) : pick l lo hi none = (l.drop (lo.elim 0 (clipAt l.length))).take (hi.elim l.length (clipAt l.length) - lo.elim 0 (clipAt l.length)) := by
  unfold pick
  rw [sliceBounds_plain]
  simp only [sliceRange_one]
  exact pick_run' _ _ _
theorem pick_from {α : Type} (l : List α) (a : Nat) : pick l (some a) none none = l.drop a := by
  rw [pick_plain]
  show (l.drop (clipAt l.length a)).take (l.length - clipAt l.length a) = _
  rw [clipAt_nat, List.take_of_length_le (Nat.le_of_eq List.length_drop)]
  rcases Nat.le_total a l.length with h | h
  · rw [Nat.min_eq_left h]
  · rw [Nat.min_eq_right h, List.drop_of_length_le (Nat.le_refl _), List.drop_of_length_le h]
theorem pick_upto {α : Type} (l : List α) (b : Nat) : pick l none (some b) none = l.take b := by
  rw [pick_plain]
  show l.take (clipAt l.length b) = _
  rw [clipAt_nat]
  rcases Nat.le_total b l.length with h | h
  · rw [Nat.min_eq_left h]
  · rw [Nat.min_eq_right h, List.take_of_length_le (Nat.le_refl _), List.take_of_length_le h]
theorem pick_butLast {α : Type} (l : List α) (k : Nat) (hk : 1 ≤ k) : pick l none (some (-(k : Int))) none = l.take (l.length - k) := by
  rw [pick_plain]
  show l.take (clipAt l.length (-(k : Int))) = _
  rw [clipAt_neg _ _ hk]
theorem pick_range {α : Type} (l : List α) (a b : Nat) : pick l (some a) (some b) none = (l.drop a).take (b - a) := by
  rw [pick_plain]
  show (l.drop (clipAt l.length a)).take (clipAt l.length b - clipAt l.length a) = _
  rw [clipAt_nat, clipAt_nat]
  rcases Nat.le_total a l.length with h | h
  · rw [Nat.min_eq_left h]
    rcases Nat.le_total b l.length with h' | h'
    · rw [Nat.min_eq_left h']
    · rw [Nat.min_eq_right h', List.take_of_length_le (Nat.le_of_eq List.length_drop), List.take_of_length_le (Nat.le_trans (Nat.le_of_eq List.length_drop) (Nat.sub_le_sub_right h' a))]
  · rw [Nat.min_eq_right h, List.drop_of_length_le (Nat.le_refl _), List.drop_of_length_le h, List.take_nil, List.take_nil]
theorem fm_congr {α β : Type} {f g : α → Option β} : ∀ {l : List α}, (∀ x ∈ l, f x = g x) → l.filterMap f = l.filterMap g
  | [], _ => rfl
  | a :: l, h => by rw [List.filterMap_cons, List.filterMap_cons, h a (.head _), fm_congr fun x hx => h x (.tail _ hx)]
theorem pick_rev {α : Type} (l : List α) : pick l none none (some (-1)) = l.reverse := by
  unfold pick sliceBounds sliceRange
  simp only [Option.getD_some, show ¬ ((-1 : Int) > 0) by decide, if_false]
  have e : (if (l.length : Int) - 1 > -1 then ((l.length : Int) - 1 - -1 - -1 - 1) / (- -1) else 0).toNat = l.length := by
    split
    · rw [show (- -1 : Int) = 1 by decide, Int.ediv_one]; omega
    · omega
  rw [e]
  apply List.ext_getElem?
  intro i
  have key : (List.map (fun (k : Nat) => ((l.length : Int) - 1 + -1 * (k : Int)).toNat) (List.range l.length)).filterMap (l[·]?) = ((List.range l.length).map (0 + ·)).filterMap (l.reverse[·]?) := by
    rw [List.filterMap_map, List.filterMap_map]
    refine fm_congr fun k hk => ?_
    have hk' : k < l.length := List.mem_range.mp hk
    simp only [Function.comp, Nat.zero_add]
    rw [List.getElem?_reverse hk', Int.neg_mul, Int.one_mul, ← Int.sub_eq_add_neg, show (l.length : Int) - 1 = ((l.length - 1 : Nat) : Int) from (Int.ofNat_sub (Nat.lt_of_le_of_lt (Nat.zero_le k) hk')).symm, ← Int.ofNat_sub (Nat.le_sub_one_of_lt hk'), Int.toNat_natCast]
  rw [key, pick_run', List.drop_zero, List.take_of_length_le (by simp)]

theorem reps_pickIdx {h : Heap} {vs : List Value} {l : List PV} (r : Reps X h vs l) : ∀ ix : List Nat, Reps X h (ix.filterMap (vs[·]?)) (ix.filterMap (l[·]?))
  | [] => .nil
  | i :: ix => by
    have ih := reps_pickIdx r ix
    cases e : l[i]? with
    | none =>
      have e' : vs[i]? = none := by
        rw [List.getElem?_eq_none_iff] at e ⊢
        rw [r.length]; exact e
      simpa [List.filterMap_cons, e, e'] using ih
    | some q =>
      refine Mine.el1b (r.get i e) fun u h1 h2 => ?_
      simpa [List.filterMap_cons, e, h1] using Reps.cons h2 ih
theorem reps_pick {h : Heap} {vs : List Value} {l : List PV} (r : Reps X h vs l) (lo hi st : Option Int) : Reps X h (pick vs lo hi st) (pick l lo hi st) := by
  unfold pick
  rw [r.length]
  exact reps_pickIdx r _

/-- a part of a slice -/
noncomputable def EvP (prog : Program) (w : World) (C : Mem) (A : Around) (env : Env) (oe : Option Expr) (oi : Option Int) (s : Shared) : Prop := Do prog w C A (evalPart oe env) (fun v _ => IsPart v oi) s
theorem evp_none : EvP prog w C A env none none s := fun s₁ e₁ Q E k => evalPart_none_step (k _ _ .refl .none)
theorem evp_some {e : Expr} {i : Int} (h : Ev prog w C X A env e (.int i) s) : EvP prog w C A env (some e) (some i) s := fun s₁ e₁ Q E k => evalPart_some_step (h s₁ e₁ _ _ fun v s₂ e₂ r => k _ _ e₂ (by refine Mine.Rep.elI r fun _ => ?_; exact .int _ _))

theorem ev_item_list {value idx : Expr} {pos : Pos} {l : List PV} {i : Int} {p : PV} (hv : Ev prog w C X A env value (.list l) s) (hi : Ev prog w C X A env idx (.int i) s) (h0 : 0 ≤ i) (hp : l[i.toNat]? = some p) (hsz : l.length ≤ sizeLine) : Ev prog w C X A env (.Subscript value idx pos) p s := by
  refine sub_core (T := "list") slot_list_getitem.lookup hv fun v s₁ e₁ r Q E k => hi s₁ e₁ _ _ fun iv s₂ e₂ ri => ?_
  refine Mine.Rep.elI ri fun _ => ?_
  refine Mine.Rep.elL ((r.ext e₂.ofNo)) fun D items hx hl hr => ?_
  ·
    refine Mine.el1b (hr.get _ hp) fun u h1 h2 => ?_
    have h3 : items.size = l.length := by simpa using hr.length
    have h4 : i.toNat < l.length := (List.getElem?_eq_some_iff.mp hp).1
    have : sizeLine = 16777216 := by decide
    exact ⟨hl.typeIs, wpAny_getItem_list hl h0 (by omega) (by simpa using h1) (k _ _ e₂ h2)⟩
theorem ev_item_neg {value idx : Expr} {pos : Pos} {l : List PV} {i : Int} {p : PV} (hv : Ev prog w C X A env value (.list l) s) (hi : Ev prog w C X A env idx (.int i) s) (h0 : i < 0) (h1 : -(l.length : Int) ≤ i) (hp : l[(i + l.length).toNat]? = some p) (hsz : l.length ≤ sizeLine) : Ev prog w C X A env (.Subscript value idx pos) p s := by
  refine sub_core (T := "list") slot_list_getitem.lookup hv fun v s₁ e₁ r Q E k => hi s₁ e₁ _ _ fun iv s₂ e₂ ri => ?_
  refine Mine.Rep.elI ri fun _ => ?_
  refine Mine.Rep.elL ((r.ext e₂.ofNo)) fun D items hx hl hr => ?_
  ·
    refine Mine.el1b (hr.get _ hp) fun u h2 h3 => ?_
    have h4 : items.size = l.length := by simpa using hr.length
    have : sizeLine = 16777216 := by decide
    exact ⟨hl.typeIs, wpAny_getItem_list_neg hl h0 (by omega) (by omega) (by rw [h4]; simpa using h2) (k _ _ e₂ h3)⟩
theorem ev_slice_list {value : Expr} {lower upper step : Option Expr} {p0 pos : Pos} {l : List PV} {lo hi st : Option Int} (bd : ∀ a, X a → a < s.heap.objs.size) (hv : Ev prog w C X A env value (.list l) s)
    (h1 : EvP prog w C A env lower lo s) (h2 : EvP prog w C A env upper hi s) (h3 : EvP prog w C A env step st s) (h0 : st ≠ some 0) (hsz : l.length ≤ sizeLine) :
    Ev prog w C X A env (.Subscript value (.Slice lower upper step p0) pos) (.list (pick l lo hi st)) s := by
  refine sub_core (T := "list") slot_list_getitem.lookup hv fun v s₁ e₁ r Q E k => wpAny_Slice ?_
  refine h1 s₁ e₁ _ _ fun vl s₂ e₂ pl => h2 s₂ (e₁.trans e₂) _ _ fun vu s₃ e₃ pu => h3 s₃ (e₁.trans (e₂.trans e₃)) _ _ fun vs s₄ e₄ ps => ?_
  have e := e₂.trans (e₃.trans e₄)
  refine Mine.Rep.elL ((r.ext e.ofNo)) fun D items hx hl hr => ?_
  ·
    have hl' := hl.push { cls := .type "slice", data := .fields #[vl, vu, vs] }
    have hn : items.size = l.length := by simpa using hr.length
    refine ⟨hl'.typeIs, wpAny_getItem_list_slice hl' (Heap.IsSliceOf.new ..) pl pu ps h0 (k _ _ (e.trans (.trans .push .push)) ?_) (by omega)⟩
    have bd' : ∀ a, X a → a < (s₄.heap.push { cls := .type "slice", data := .fields #[vl, vu, vs] }).objs.size := fun a h => by
      rw [Heap.size_push]; exact Nat.lt_succ_of_lt (Nat.lt_of_lt_of_le (bd a h) (e₁.trans e).size)
    refine rep_newList bd' ?_
    rw [slicePick_eq]
    exact reps_pick (hr.keeps fun _ _ e => Heap.get?_push_of_some _ e) _ _ _
theorem part_value {v : Value} {k : Option Int} (h : IsPart v k) : ∃ l : Option (Int × Tok), v = partValue l ∧ l.map (·.1) = k := by
  cases h with
  | none => exact ⟨none, rfl, rfl⟩
  | int i t => exact ⟨some (i, t), rfl, rfl⟩
noncomputable def spick (x : Str) (lo hi st : Option Int) : Str := ⟨(pick x.cps.toList lo hi st).toArray⟩
theorem spick_plain (x : Str) (lo hi : Option Int) : (spick x lo hi none).cps.toList = (x.cps.toList.drop (lo.elim 0 (clipAt x.length))).take (hi.elim x.length (clipAt x.length) - lo.elim 0 (clipAt x.length)) := pick_plain _ _ _
theorem spick_len (x : Str) (lo hi : Option Int) : (spick x lo hi none).length ≤ x.length := by
  show (spick x lo hi none).cps.toList.length ≤ x.cps.toList.length
  rw [spick_plain]
  exact Nat.le_trans (List.length_take_le' _ _) (Nat.le_trans (Nat.le_of_eq List.length_drop) (Nat.sub_le _ _))
theorem drop_take_all {α : Type} {l : List α} {a b : Nat} (hb : b ≤ l.length) (h : b - a = l.length) : (l.drop a).take (b - a) = l := by
  have h2 : l.length - a = l.length := Nat.le_antisymm (Nat.sub_le _ _) (Nat.le_trans (Nat.le_of_eq h.symm) (Nat.sub_le_sub_right hb a))
  have h3 : l.drop a = l := (List.drop_sublist a l).eq_of_length (List.length_drop.trans h2)
  rw [h3, h, List.take_length]
theorem clip_le (n : Nat) (i : Int) : clipAt n i ≤ n := by
  have := clipAt_cast n i
  exact Int.ofNat_le.mp (Int.le_trans (Int.le_of_eq this) (Int.max_le.mpr ⟨Int.natCast_nonneg n, Int.min_le_right _ _⟩))
theorem spick_full {x : Str} {lo hi : Option Int} (h : (sliceRange (sliceBounds lo hi none x.length).1 (sliceBounds lo hi none x.length).2.1 (sliceBounds lo hi none x.length).2.2).length = x.length) : spick x lo hi none = x := by
  rw [sliceBounds_plain, sliceRange_one, List.length_map, List.length_range] at h
  refine congrArg (fun l : List Nat => (⟨l.toArray⟩ : Str)) ((spick_plain x lo hi).trans (drop_take_all ?_ h))
  cases hi with
  | none => exact Nat.le_refl _
  | some i => exact clip_le _ _
theorem picked_plain (x : Str) (l u : Option (Int × Tok)) : ((slicePicked x l u none).filterMap (x.cps[·]?)).toArray = (spick x (l.map (·.1)) (u.map (·.1)) none).cps := by
  unfold slicePicked
  rw [strIdx_eq]
  show _ = (List.filterMap (fun i => x.cps.toList[i]?) (sliceRange (sliceBounds _ _ _ x.cps.toList.length).1 _ _)).toArray
  simp only [Array.length_toList, Array.getElem?_toList]
  rfl
/-- a slice of a str, without a step -/
theorem ev_slice_str {value : Expr} {lower upper step : Option Expr} {p0 pos : Pos} {x : Str} {lo hi : Option Int} (hv : Ev prog w C X A env value (.str x) s)
    (h1 : EvP prog w C A env lower lo s) (h2 : EvP prog w C A env upper hi s) (h3 : EvP prog w C A env step none s) (h0 : ((none : Option Int).getD 1 == 0) = false) (hsz : x.length ≤ sizeLine) :
    Ev prog w C X A env (.Subscript value (.Slice lower upper step p0) pos) (.str (spick x lo hi none)) s := by
  refine sub_core (T := "str") PySem.F.slot_str_getitem.lookup hv fun v s₁ e₁ r Q E k => wpAny_Slice ?_
  refine h1 s₁ e₁ _ _ fun vl s₂ e₂ pl => h2 s₂ (e₁.trans e₂) _ _ fun vu s₃ e₃ pu => h3 s₃ (e₁.trans (e₂.trans e₃)) _ _ fun vs s₄ e₄ ps => ?_
  have e := e₂.trans (e₃.trans e₄)
  refine Mine.Rep.elS r fun t => ?_
  refine Exists.elim (part_value pl) fun l' hl => Exists.elim (part_value pu) fun u' hu => Exists.elim (part_value ps) fun st' hst => ?_
  rw [hl.1, hu.1, hst.1, Option.map_eq_none_iff.mp hst.2]
  refine ⟨typeIs_str _ _ _, wpAny_getItem_str_slice (l := l') (u := u') (st := none) ⟨_, Heap.get?_push_size _ rfl, rfl, rfl⟩ h0 ?_⟩
  have hp := picked_plain x l' u'
  rw [hl.2, hu.2] at hp
  unfold sliceMade
  split
  · rename_i hc
    refine k _ _ (e.trans .push) ?_
    have hc2 := beq_iff_eq.mp (Bool.and_eq_true_iff.mp hc).2
    rw [show slicePicked x l' u' none = sliceRange (sliceBounds (l'.map (·.1)) (u'.map (·.1)) none x.length).1 (sliceBounds (l'.map (·.1)) (u'.map (·.1)) none x.length).2.1 (sliceBounds (l'.map (·.1)) (u'.map (·.1)) none x.length).2.2 from strIdx_eq _ _ 1 _, hl.2, hu.2] at hc2
    rw [spick_full hc2]; exact .str _ _
  · rw [hp]
    exact ⟨Nat.le_trans (spick_len x lo hi) hsz, k _ _ (e.trans (.tokR .push)) (.str _ _)⟩
end Mine
end
section
open PySem PySem.W PySem.Calls PyProof.Rows
set_option Elab.async false
set_option maxRecDepth 100000
set_option linter.unusedVariables false
namespace Mine
variable {prog : Program} {w : World} {K : Frag} {mb : Str → Option Value} {X Y : Addr → Prop} {C : Mem} {s s' s'' : Shared} {A : Around} {env : Env} {ρ : List (Str × PV)} {n : Nat}

/-- where a name may be stored -/
noncomputable def CanSt (X : Addr → Prop) (env : Env) (x : Str) : Prop := (env.kindOf x = some .local ∧ X env.locals) ∨ (env.kindOf x = some .cell ∧ ∃ c, env.cells.lookup x = some c ∧ X c)
noncomputable def Apart (env : Env) : Prop := ∀ x y c, env.cells.lookup x = some c → env.cells.lookup y = some c → x = y

/-- the address that a store changes -/
noncomputable def StX (env : Env) (x : Str) (a : Addr) : Prop := (env.kindOf x = some .local ∧ a = env.locals) ∨ (env.kindOf x = some .cell ∧ env.cells.lookup x = some a)
theorem CanSt.sub {x : Str} (h : CanSt X env x) : ∀ a, StX env x a → X a := by
  rintro a (⟨hk, rfl⟩ | ⟨hk, hc⟩)
  · rcases h with ⟨_, h⟩ | ⟨hk', _⟩
    · exact h
    · rw [hk] at hk'; cases hk'
  · rcases h with ⟨hk', _⟩ | ⟨_, c, hc', h⟩
    · rw [hk] at hk'; cases hk'
    · rw [hc] at hc'; cases hc'; exact h
theorem store_var {x : Str} {v : Value} {p : PV} {Q : Unit → Shared → Prop} {E : Value → Shared → Prop} (S : Sit prog w K mb n C X A env ρ s) (hc : CanSt X env x) (ha : Apart env) (hr : Rep X s.heap v p)
    (k : ∀ s', Ext prog w (StX env x) C s s' → Sit prog w K mb n C X A env ((x, p) :: ρ) s' → Q () s') : wpAny (model prog w) A (storeName env x v) Q E s := by
  have F := S.fm
  have base' : ∀ {s' : Shared}, Ext prog w X C s s' → Fm X C env s'.heap ((x, p) :: ρ) → Sit prog w K mb n C X A env ((x, p) :: ρ) s' := fun e f =>
    ⟨S.base.ext e S.xo fun a P q => (S.co a P q).1, S.rm, fun a h => Nat.lt_of_lt_of_le (S.bd a h) e.size, S.xo, co_ext e S.co, f⟩
  rcases hc with ⟨hk, hx⟩ | ⟨hk, c, hcl, hx⟩
  · refine Mine.el1b F.ns fun m hn hv => ?_
    refine wpAny_storeName_local hk hn (fun h' hn' hs => ?_) (by rw [F.kind]; rfl)
    have e : Ext prog w X C s { s with heap := h', toks := s.toks + 1 } := Ext.sameBut hs hx
    refine k _ (Ext.sameBut hs (.inl ⟨hk, rfl⟩)) (base' e ⟨F.kind, F.globals, F.builtins, F.cl, ⟨_, hn', fun y q hy hyk => ?_⟩, fun y c hyc => ?_⟩)
    · rw [List.lookup_cons] at hy
      cases hb : y == x with
      | true =>
        rw [hb] at hy; cases hy
        have := beq_iff_eq.mp hb; subst this
        exact ⟨v, by simp, hr.ext e⟩
      | false =>
        rw [hb] at hy
        refine Mine.el1b (hv y q hy hyk) fun u h1 h2 => ?_
        exact ⟨u, by simp [beq_eq_false_iff_ne.mp hb, h1], h2.ext e⟩
    · refine Mine.el1b (F.cell y c hyc) fun ov hi hq => ?_
      have hne : c ≠ env.locals := by
        rintro rfl
        (refine Mine.el1b hi fun o ho hd => ?_; try clear hi)
        (refine Mine.el3c hn fun o' es ep ho' hd' _ => ?_; try clear hn)
        rw [ho] at ho'; cases ho'; rw [hd] at hd'; cases hd'
      refine ⟨ov, hi.sameBut hs hne, fun q hy hyk => ?_⟩
      rw [List.lookup_cons] at hy
      cases hb : y == x with
      | true =>
        have := beq_iff_eq.mp hb; subst this
        rw [hk] at hyk; rcases hyk with q | q <;> cases q
      | false =>
        rw [hb] at hy
        refine Mine.el1b (hq q hy hyk) fun u h1 h2 => ?_
        exact ⟨u, h1, h2.ext e⟩
  · refine Mine.el1b (F.cell x c hcl) fun ov hi hq => ?_
    refine wpAny_storeName_cell F.kind hk hcl hi fun h' hi' hs => ?_
    have e : Ext prog w X C s { s with heap := h' } := Ext.sameBut (t := s.toks) hs hx
    refine k _ (Ext.sameBut (t := s.toks) hs (.inr ⟨hk, hcl⟩)) (base' e ⟨F.kind, F.globals, F.builtins, F.cl, ?_, fun y c' hyc => ?_⟩)
    · refine Mine.el1b F.ns fun m hn hv => ?_
      have hne : env.locals ≠ c := by
        rintro rfl
        (refine Mine.el1b hi fun o ho hd => ?_; try clear hi)
        (refine Mine.el3c hn fun o' es ep ho' hd' _ => ?_; try clear hn)
        rw [ho] at ho'; cases ho'; rw [hd] at hd'; cases hd'
      refine ⟨m, hn.sameBut hs hne, fun y q hy hyk => ?_⟩
      rw [List.lookup_cons] at hy
      cases hb : y == x with
      | true =>
        have := beq_iff_eq.mp hb; subst this
        rw [hk] at hyk; cases hyk
      | false =>
        rw [hb] at hy
        refine Mine.el1b (hv y q hy hyk) fun u h1 h2 => ?_
        exact ⟨u, h1, h2.ext e⟩
    · by_cases hyx : y = x
      · subst hyx
        rw [hcl] at hyc; cases hyc
        refine ⟨_, hi', fun q hy hyk => ?_⟩
        rw [List.lookup_cons, beq_self_eq_true] at hy
        cases hy
        exact ⟨v, rfl, hr.ext e⟩
      · have hcc : c' ≠ c := by rintro rfl; exact hyx (ha _ _ _ hyc hcl)
        refine Mine.el1b (F.cell y c' hyc) fun ov' hi2 hq2 => ?_
        refine ⟨ov', hi2.sameBut hs hcc, fun q hy hyk => ?_⟩
        rw [List.lookup_cons, beq_false_of_ne hyx] at hy
        refine Mine.el1b (hq2 q hy hyk) fun u h1 h2 => ?_
        exact ⟨u, h1, h2.ext e⟩

theorem assign_var {x : Str} {px : Pos} {v : Value} {p : PV} {Q : Unit → Shared → Prop} {E : Value → Shared → Prop} (S : Sit prog w K mb n C X A env ρ s) (hc : CanSt X env x) (ha : Apart env) (hr : Rep X s.heap v p)
    (k : ∀ s', Ext prog w (StX env x) C s s' → Sit prog w K mb n C X A env ((x, p) :: ρ) s' → Q () s') : wpAny (model prog w) A (assign (.Name x px) env v) Q E s :=
  wpAny_assign_Name (store_var S hc ha hr k)

/-! a function's frame: what it owns -/
noncomputable def FrO (env : Env) (a : Addr) : Prop := a = env.locals ∨ ∃ x, env.kindOf x = some .cell ∧ env.cells.lookup x = some a
structure Own (X : Addr → Prop) (env : Env) : Prop where
  own : ∀ a, FrO env a → X a
  ap : Apart env
noncomputable def KindSt (env : Env) (x : Str) : Prop := env.kindOf x = some .local ∨ (env.kindOf x = some .cell ∧ (env.cells.lookup x).isSome = true)
theorem Own.can (O : Own X env) {x : Str} (h : KindSt env x) : CanSt X env x := by
  rcases h with h | ⟨h, hc⟩
  · exact .inl ⟨h, O.own _ (.inl rfl)⟩
  · refine Mine.el1a (Option.isSome_iff_exists.mp hc) fun c hc => ?_
    exact .inr ⟨h, c, hc, O.own _ (.inr ⟨x, h, hc⟩)⟩
theorem stX_frO {x : Str} : ∀ a, StX env x a → FrO env a := by
  rintro a (⟨_, rfl⟩ | ⟨h, hc⟩)
  · exact .inl rfl
  · exact .inr ⟨x, h, hc⟩

/-! statements -/
theorem x_nil {Q : Flow → Shared → Prop} {E : Value → Shared → Prop} (h : Q .next s) : wpAny (model prog w) A (execs [] env) Q E s := wpAny_execs_nil h
theorem x_assign {x : Str} {px pos : Pos} {e : Expr} {rest : List Stmt} {p : PV} {Q : Flow → Shared → Prop} {E : Value → Shared → Prop} (S : Sit prog w K mb n C X A env ρ s) (O : Own X env) (hk : KindSt env x) (he : Ev prog w C X A env e p s)
    (hs : swapsWith e (some (.Name x px)) pos.line env = pure false)
    (k : ∀ s', Ext prog w (FrO env) C s s' → Sit prog w K mb n C X A env ((x, p) :: ρ) s' → wpAny (model prog w) A (execs rest env) Q E s') :
    wpAny (model prog w) A (execs (.Assign [.Name x px] e pos :: rest) env) Q E s := by
  refine wpAny_execs_cons ?_
  refine wpAny_Assign_Name (he s .refl _ _ fun v s₁ e₁ r => ?_) hs
  exact store_var (S.ext e₁) (O.can hk) O.ap r fun s₂ e₂ S₂ => k s₂ (e₁.ofNo.trans (e₂.mono stX_frO)) S₂
theorem x_return {e : Expr} {pos : Pos} {rest : List Stmt} {p : PV} {Q : Flow → Shared → Prop} {E : Value → Shared → Prop} (he : Ev prog w C X A env e p s)
    (k : ∀ v s', Ext prog w noX C s s' → Rep X s'.heap v p → Q (.ret v) s') : wpAny (model prog w) A (execs (.Return (some e) pos :: rest) env) Q E s := by
  refine wpAny_execs_cons (wpAny_Return_some (he s .refl _ _ fun v s₁ e₁ r => ?_))
  exact k v s₁ e₁ r
theorem x_if {test : Expr} {body orelse rest : List Stmt} {pos : Pos} {b : Bool} {Q : Flow → Shared → Prop} {E : Value → Shared → Prop} (ht : Ts prog w C A env test b s)
    (k : ∀ s', Ext prog w noX C s s' → wpAny (model prog w) A (execs (if b then body else orelse) env) (fun f s'' => match f with | .next => wpAny (model prog w) A (execs rest env) Q E s'' | f => Q f s'') E s') :
    wpAny (model prog w) A (execs (.If test body orelse pos :: rest) env) Q E s := by
  refine wpAny_execs_cons ?_; try k_fold
  rw [exec_If]
  refine wpAny_bind (wpAny_standAt (wpAny_bind (ht s .refl _ _ fun b' s₁ e₁ hb => ?_)))
  subst hb
  have := k s₁ e₁
  cases b' with
  | true => simp only [if_true] at this ⊢; refine wpAny_mono this (fun f s₂ h => ?_) fun _ _ x => x; cases f <;> exact h
  | false => simp only [Bool.false_eq_true, if_false] at this ⊢; refine wpAny_mono this (fun f s₂ h => ?_) fun _ _ x => x; cases f <;> exact h

/-! tests -/
theorem ts_bool {e : Expr} {b : Bool} (h : Ev prog w C X A env e (.bool b) s) (hs : ∀ whole, isTrue e env whole = (do let v ← whole; standAt e.pos; holding [v] (truthy v)) := by intro _; rfl) : Ts prog w C A env e b s := by
  intro s₁ e₁ Q E k
  rw [hs]
  refine wpAny_bind (h s₁ e₁ _ _ fun v s₂ e₂ r => wpAny_bind (wpAny_standAt (wpAny_holding ?_)))
  refine Mine.Rep.elB r fun _ => ?_
  exact wpAny_truthy_bool (k _ _ e₂ rfl)
theorem ts_str {e : Expr} {x : Str} (h : Ev prog w C X A env e (.str x) s) (hs : ∀ whole, isTrue e env whole = (do let v ← whole; standAt e.pos; holding [v] (truthy v)) := by intro _; rfl) (hsz : x.length ≤ sizeLine) : Ts prog w C A env e (x.length != 0) s := by
  intro s₁ e₁ Q E k
  rw [hs]
  refine wpAny_bind (h s₁ e₁ _ _ fun v s₂ e₂ r => wpAny_bind (wpAny_standAt (wpAny_holding ?_)))
  refine Mine.Rep.elS r fun _ => ?_
  have h0 : sizeLine = 16777216 := by decide
  refine P.truthy_str (by omega) ?_
  have : ((x.length : Int) != 0) = (x.length != 0) := by
    rw [Bool.eq_iff_iff]; simp
  rw [this]
  exact k _ _ e₂.tokR rfl
theorem ts_not {e : Expr} {pos : Pos} {b : Bool} (h : Ts prog w C A env e b s) : Ts prog w C A env (.UnaryOp .Not e pos) (!b) s := by
  intro s₁ e₁ Q E k
  exact wpAny_isTrue_Not (h s₁ e₁ _ _ fun b' s₂ e₂ hb => k _ _ e₂ (by (refine Mine.rwl hb ?_; try with_reducible rfl)))
theorem ts_and2 {x y : Expr} {pos : Pos} {a b : Bool} (h1 : Ts prog w C A env x a s) (h2 : a = true → Ts prog w C A env y b s) : Ts prog w C A env (.BoolOp .And [x, y] pos) (a && b) s := by
  intro s₁ e₁ Q E k
  refine wpAny_isTrue_BoolOp (wpAny_allTrue_And_cons (h1 s₁ e₁ _ _ fun b' s₂ e₂ hb => ?_))
  subst hb
  cases b' with
  | false => exact k _ _ e₂ rfl
  | true =>
    refine wpAny_allTrue_And_cons (h2 rfl s₂ (e₁.trans e₂) _ _ fun b' s₃ e₃ hb => ?_)
    subst hb
    cases b' with
    | false => exact k _ _ (e₂.trans e₃) rfl
    | true => exact wpAny_allTrue_And_nil (k _ _ (e₂.trans e₃) rfl)
theorem ts_or2 {x y : Expr} {pos : Pos} {a b : Bool} (h1 : Ts prog w C A env x a s) (h2 : a = false → Ts prog w C A env y b s) : Ts prog w C A env (.BoolOp .Or [x, y] pos) (a || b) s := by
  intro s₁ e₁ Q E k
  refine wpAny_isTrue_BoolOp (wpAny_allTrue_Or_cons (h1 s₁ e₁ _ _ fun b' s₂ e₂ hb => ?_))
  subst hb
  cases b' with
  | true => exact k _ _ e₂ rfl
  | false =>
    refine wpAny_allTrue_Or_cons (h2 rfl s₂ (e₁.trans e₂) _ _ fun b' s₃ e₃ hb => ?_)
    subst hb
    cases b' with
    | true => exact k _ _ (e₂.trans e₃) rfl
    | false => exact wpAny_allTrue_Or_nil (k _ _ (e₂.trans e₃) rfl)
end Mine
end
section
open PySem PySem.W PySem.Calls PyProof.Rows
set_option Elab.async false
set_option maxRecDepth 100000
set_option linter.unusedVariables false
namespace Mine
variable {prog : Program} {w : World} {K : Frag} {mb : Str → Option Value} {X Y : Addr → Prop} {C : Mem} {s s' s'' : Shared} {A : Around} {env : Env} {ρ : List (Str × PV)} {n : Nat}

/-- an iterator that will hand out ps -/
noncomputable def Iter (prog : Program) (w : World) (C : Mem) (X : Addr → Prop) (A : Around) (lo : Nat) (ps : List PV) (it : Value) (s : Shared) : Prop :=
  ∃ (I : Addr) (fp wr : List Addr) (P : Nat → Value → Prop) (St : Nat → Heap → Prop), it = .ref I ∧ Walks prog w A I fp wr ps.length P St ∧ St 0 s.heap ∧ (∀ b ∈ wr, lo ≤ b) ∧ (∀ b ∈ fp, b < s.heap.objs.size ∧ C b = none ∧ ¬ X b) ∧
    (∀ i v p, P i v → ps[i]? = some p → Rep (fun a => X a ∨ a ∈ wr) s.heap v p)

noncomputable def EvI (prog : Program) (w : World) (C : Mem) (X : Addr → Prop) (A : Around) (env : Env) (e : Expr) (ps : List PV) (s : Shared) : Prop :=
  ∀ s₁, Ext prog w noX C s s₁ → ∀ (Q : Value → Shared → Prop) (E : Value → Shared → Prop), (∀ it s₂, Ext prog w noX C s₁ s₂ → Iter prog w C X A s₁.heap.objs.size ps it s₂ → Q it s₂) →
    wpAny (model prog w) A (eval e env) (fun x s₂ => wpAny (model prog w) A (pyIter x) Q E s₂) E s₁

theorem co_ne {a : Addr} {o : Obj} (S : Sit prog w K mb n C X A env ρ s) (ho : s.heap.get? a = some o) (hd : ∀ es n, o.data ≠ .dict es n) : C a = none := by
  cases e : C a with
  | none => rfl
  | some P =>
    obtain ⟨_, _, o', es, ho', vals, ⟨arr, m, _, hd', _⟩, _⟩ := S.co a P e
    rw [ho] at ho'; cases ho'
    exact absurd hd' (hd _ _)
theorem co_new {a : Addr} (S : Sit prog w K mb n C X A env ρ s) (ha : s.heap.objs.size ≤ a) : C a = none := by
  cases e : C a with
  | none => rfl
  | some P =>
    obtain ⟨_, _, o', es, ho', _⟩ := S.co a P e
    exact absurd (Heap.lt_size ho') (Nat.not_lt.mpr ha)

theorem evi_list {e : Expr} {l : List PV} (S : Sit prog w K mb n C X A env ρ s) (h : Ev prog w C X A env e (.list l) s) : EvI prog w C X A env e l s := by
  intro s₁ e₁ Q E k
  refine h s₁ e₁ _ _ fun v s₂ e₂ r => ?_
  have S₂ := S.ext (e₁.trans e₂)
  refine Mine.Rep.elL ((r)) fun a items hx hl hr => ?_
  ·
    refine wpAny_pyIter_list hl (k _ _ (e₂.trans .push) ?_)
    have ha : a < s₂.heap.objs.size := by (refine Mine.el1b hl fun _ e _ => ?_; try clear hl); exact Heap.lt_size e
    have hn : items.size = l.length := by simpa using hr.length
    refine ⟨_, _, _, _, _, rfl, hn ▸ Walks.list S.rm.h s₂.heap.objs.size a (Nat.ne_of_lt ha) items, ⟨⟨_, Heap.get?_push_size _ rfl, rfl, rfl⟩, hl.push _⟩, ?_, ?_, ?_⟩
    · intro b hb
      simp only [List.mem_singleton] at hb
      subst hb; exact e₂.size
    · intro b hb
      show b < (s₂.heap.push _).objs.size ∧ _
      rw [Heap.size_push]
      simp only [List.mem_cons, List.not_mem_nil, or_false] at hb
      rcases hb with rfl | rfl
      · exact ⟨Nat.lt_succ_self _, co_new S₂ (Nat.le_refl _), fun q => Nat.lt_irrefl _ (S₂.bd _ q)⟩
      · refine ⟨Nat.lt_succ_of_lt ha, ?_, hx⟩
        obtain ⟨o, ho, hc, m, hd⟩ := hl
        exact co_ne S₂ ho (by rw [hd]; first | exact fun _ _ h => by cases h | exact fun _ h => by cases h | nofun)
    · intro i v p hv hp
      refine Mine.el1b (hr.get i hp) fun u h1 h2 => ?_
      have : items[i]? = some u := by simpa using h1
      rw [this] at hv; cases hv
      refine (h2.monoX fun b hb => ?_).keeps fun _ _ e => Heap.get?_push_of_some _ e
      rcases hb with hb | hb
      · exact .inl hb
      · simp only [List.mem_singleton] at hb; rw [hb]; exact .inr (Nat.le_refl _)

noncomputable def chars (x : Str) : List PV := x.cps.toList.map fun c => .str ⟨#[c]⟩
theorem evi_str {e : Expr} {x : Str} (S : Sit prog w K mb n C X A env ρ s) (h : Ev prog w C X A env e (.str x) s) : EvI prog w C X A env e (chars x) s := by
  intro s₁ e₁ Q E k; try k_fold
  refine h s₁ e₁ _ _ fun v s₂ e₂ r => ?_; try k_fold
  have S₂ := S.ext (e₁.trans e₂)
  cases r with
  | str _ t =>
    refine wpAny_pyIter_str fun o St W hst => k _ _ (e₂.trans .push) ?_; try k_fold
    have hn : (chars x).length = x.cps.size := by simp [chars]
    refine ⟨_, _, _, _, _, rfl, hn ▸ W A S.rm.h, hst, ?_, ?_, ?_⟩
    · intro b hb; try k_fold
      simp only [List.mem_singleton] at hb
      subst hb; exact e₂.size
    · intro b hb; try k_fold
      simp only [List.mem_singleton] at hb
      subst hb
      show s₂.heap.objs.size < (s₂.heap.push _).objs.size ∧ _
      rw [Heap.size_push]
      exact ⟨Nat.lt_succ_self _, co_new S₂ (Nat.le_refl _), fun q => Nat.lt_irrefl _ (S₂.bd _ q)⟩
    · rintro i v p ⟨c, u, hc, rfl⟩ hp; try k_fold
      have : p = .str ⟨#[c]⟩ := by
        rw [← Array.getElem?_toList] at hc
        simp [chars, hc] at hp
        exact hp.symm
      subst this
      exact .str _ _

/-- one turn of a comprehension -/
noncomputable def tests (ifs : List Expr) (env : Env) : Sem Bool := forIn ifs true fun c r => if r = true then do let ok ← isTrue c env (eval c env); pure (ForInStep.yield ok) else pure (ForInStep.yield r)
noncomputable def TurnIs (e : Expr) (d : Nat) (it acc : Value) (env : Env) (tgt : Expr) (ifs : List Expr) (act : Sem Fin → Sem Fin) : Prop :=
  ∃ sp, compTurn e d it acc env = (standAt sp >>= fun _ => pyNext it >>= fun r => match r with
    | none => pure (.done .next)
    | some v => letOwnedTupleGo tgt it v >>= fun _ => assign tgt env v >>= fun _ => tests ifs env >>= fun ok =>
      if ok = true then act (again (.compLoop e d it acc env)) else again (.compLoop e d it acc env))
theorem turn_list {elt iter tgt : Expr} {ifs : List Expr} {scope : Scope} {pos : Pos} {it acc : Value} {env : Env} :
    TurnIs (.ListComp elt [⟨tgt, iter, ifs, 0⟩] scope pos) 0 it acc env tgt ifs (fun k => (do let _ ← call (.builtin "list.append") [acc, ← eval elt env] : Sem Unit) >>= fun _ => k) := ⟨iter.pos, by rfl⟩
theorem turn_list21 {elt iter tgt iter' tgt' : Expr} {ifs ifs' : List Expr} {scope : Scope} {pos : Pos} {it acc : Value} {env : Env} :
    TurnIs (.ListComp elt [⟨tgt, iter, ifs, 0⟩, ⟨tgt', iter', ifs', 0⟩] scope pos) 1 it acc env tgt' ifs' (fun k => (do let _ ← call (.builtin "list.append") [acc, ← eval elt env] : Sem Unit) >>= fun _ => k) := ⟨iter'.pos, by rfl⟩
theorem turn_list20 {elt iter tgt iter' tgt' : Expr} {ifs ifs' : List Expr} {scope : Scope} {pos : Pos} {it acc : Value} {env : Env} :
    TurnIs (.ListComp elt [⟨tgt, iter, ifs, 0⟩, ⟨tgt', iter', ifs', 0⟩] scope pos) 0 it acc env tgt ifs (fun k => do
      let x ← eval iter' env
      standAt iter'.pos
      let x ← foldedSetIterable iter' env x
      let _ ← runOwn (.compStart (.ListComp elt [⟨tgt, iter, ifs, 0⟩, ⟨tgt', iter', ifs', 0⟩] scope pos) 1 (← holding [x] (pyIter x)) acc env) env
      k) := ⟨iter.pos, by rfl⟩
theorem turn_dict {kx vx iter tgt : Expr} {ifs : List Expr} {scope : Scope} {pos : Pos} {it : Value} {d : Addr} {env : Env} :
    TurnIs (.DictComp kx vx [⟨tgt, iter, ifs, 0⟩] scope pos) 0 it (.ref d) env tgt ifs (fun k => (do
        let kv ← eval kx env
        let vv ← holding [kv] (eval vx env)
        standAt { kx.pos with endLine := vx.pos.endLine, endCol := vx.pos.endCol }
        holding [kv, vv] (dictSet d kv vv) : Sem Unit) >>= fun _ => k) := ⟨iter.pos, by rfl⟩

theorem Sit.drop {x : Str} {p : PV} (S : Sit prog w K mb n C X A env ((x, p) :: ρ) s) (h : ρ.lookup x = none) : Sit prog w K mb n C X A env ρ s := by
  have key : ∀ y q, ρ.lookup y = some q → ((x, p) :: ρ).lookup y = some q := fun y q e => by
    rw [List.lookup_cons]
    cases hb : y == x with
    | true => have := beq_iff_eq.mp hb; subst this; rw [h] at e; cases e
    | false => exact e
  refine ⟨S.base, S.rm, S.bd, S.xo, S.co, S.fm.kind, S.fm.globals, S.fm.builtins, S.fm.cl, ?_, fun y c e => ?_⟩
  · refine Mine.el1b S.fm.ns fun m hn hv => ?_
    exact ⟨m, hn, fun y q e k => hv y q (key y q e) k⟩
  · refine Mine.el1b (S.fm.cell y c e) fun ov hi hv => ?_
    exact ⟨ov, hi, fun q e k => hv q (key y q e) k⟩

theorem Sit.extZ {Z : Addr → Prop} (S : Sit prog w K mb n C X A env ρ s) (e : Ext prog w Z C s s') (hZX : ∀ a, Z a → X a) (hl : ¬ Z env.locals) (hcell : ∀ x c, env.cells.lookup x = some c → ¬ Z c) : Sit prog w K mb n C X A env ρ s' := by
  have eX : Ext prog w X C s s' := e.mono hZX
  refine ⟨S.base.ext eX S.xo fun a P q => (S.co a P q).1, S.rm, fun a h => Nat.lt_of_lt_of_le (S.bd a h) e.size, S.xo, co_ext eX S.co, S.fm.kind, S.fm.globals, S.fm.builtins, S.fm.cl, ?_, fun y c hc => ?_⟩
  · refine Mine.el1b S.fm.ns fun m hn hv => ?_
    exact ⟨m, ns_ext e hl S.fm.cl hn, fun y q h k => let ⟨v, h1, h2⟩ := hv y q h k; ⟨v, h1, h2.ext eX⟩⟩
  · refine Mine.el1b (S.fm.cell y c hc) fun ov hi hv => ?_
    exact ⟨ov, isCell_ext e (hcell y c hc) hi, fun q h k => let ⟨v, h1, h2⟩ := hv q h k; ⟨v, h1, h2.ext eX⟩⟩

theorem comp_loop {e : Expr} {d : Nat} {acc : Value} {cenv : Env} {x : Str} {px : Pos} {ifs : List Expr} {act : Sem Fin → Sem Fin} {ps : List PV} {Z N : Addr → Prop} {R : Result → Shared → Prop}
    {I : Addr} {fp wr : List Addr} {P : Nat → Value → Prop} {St : Nat → Heap → Prop} (Inv : Nat → Shared → Prop)
    (T : TurnIs e d (.ref I) acc cenv (.Name x px) ifs act) (hc : CanSt X cenv x) (hsx : ∀ a, StX cenv x a → Z a ∧ N a) (hwN : ∀ a, a ∈ wr → N a) (hZX : ∀ a, Z a → X a) (hwX : ∀ a, a ∈ wr → X a)
    (hlw : cenv.locals ∉ wr) (hcw : ∀ x c, cenv.cells.lookup x = some c → c ∉ wr)
    (hap : Apart cenv) (hx0 : ρ.lookup x = none)
    (W : Walks prog w A I fp wr ps.length P St) (hst : St 0 s.heap) (hfp : ∀ b ∈ fp, ¬ Z b ∧ C b = none) (hP : ∀ i v p, P i v → ps[i]? = some p → Rep X s.heap v p)
    (S : Sit prog w K mb n C X A cenv ρ s) (inv0 : Inv 0 s)
    (hInv : ∀ i s s', Inv i s → Ext prog w N C s s' → Inv i s')
    (hact : ∀ i p s', ps[i]? = some p → Ext prog w (fun a => Z a ∨ a ∈ wr) C s s' → Sit prog w K mb n C X A cenv ((x, p) :: ρ) s' → Inv i s' → ∃ (b : Bool) (T : Shared → Prop), Do prog w C A (tests ifs cenv) (fun v s'' => v = b ∧ T s'') s' ∧
      (b = false → ∀ s'', Ext prog w noX C s' s'' → T s'' → Inv i s'' → Inv (i + 1) s'') ∧
      (b = true → ∀ s'', Ext prog w noX C s' s'' → T s'' → Sit prog w K mb n C X A cenv ((x, p) :: ρ) s'' → Inv i s'' → ∀ (k : Sem Fin) (Q : Fin → Shared → Prop) (E : Value → Shared → Prop),
        (∀ s₃, Ext prog w Z C s'' s₃ → Sit prog w K mb n C X A cenv ((x, p) :: ρ) s₃ → Inv (i + 1) s₃ → wpAny (model prog w) A k Q E s₃) → wpAny (model prog w) A (act k) Q E s''))
    (hR : ∀ s', Ext prog w (fun a => Z a ∨ a ∈ wr) C s s' → Sit prog w K mb n C X A cenv ρ s' → Inv ps.length s' → R (.ok .next) s')
    (hfr : autoParam ((Code.compLoop e d (.ref I) acc cenv).isFrame = false) Mine.autoR) (hund : autoParam (A.under (Code.compLoop e d (.ref I) acc cenv) = A) Mine.autoR) :
    codeAny (model prog w) A (.compLoop e d (.ref I) acc cenv) R s := by
  refine codeAny_loop (by cases e <;> rfl) (fun k s' => ∃ i, i ≤ ps.length ∧ k = ps.length + 1 - i ∧ Ext prog w (fun a => Z a ∨ a ∈ wr) C s s' ∧ Sit prog w K mb n C X A cenv ρ s' ∧ St i s'.heap ∧ Inv i s') ?_ (ps.length + 1)
    ⟨0, Nat.zero_le _, rfl, .refl, S, hst, inv0⟩
  rintro k s₁ ⟨i, hi, rfl, e₁, S₁, st₁, inv₁⟩; try k_fold
  have hden : (model prog w).den (Code.compLoop e d (.ref I) acc cenv) = (compTurn e d (.ref I) acc cenv).onRaise (fun x => do noteFrame x cenv; theTreesLotGoes x) := by
    show (if (Code.compLoop e d (.ref I) acc cenv).isFrame = true then _ else _) = _
    rw [hfr]; rfl
  rw [hden, hund]
  refine wpAny_noted ?_; try k_fold
  refine Mine.el1a T fun sp T => ?_; try k_fold
  rw [T]
  refine wpAny_bind (wpAny_standAt (wpAny_bind ?_))
  by_cases hlt : i < ps.length
  · refine with_size (W.item i s₁ _ _ hlt st₁ fun v h' tk hPv st₂ hk hsz => ?_)
    have e₂ : Ext prog w (fun a => a ∈ wr) C s₁ { s₁ with heap := h', toks := tk } := ⟨hsz, fun b o e hb => .inl (hk b o hb e), rfl, rfl⟩
    generalize hs₂ : ({ s₁ with heap := h', toks := tk } : Shared) = s₂ at e₂ ⊢
    have st₂ : St (i + 1) s₂.heap := by rw [← hs₂]; exact st₂
    have S₂ : Sit prog w K mb n C X A cenv ρ s₂ := S₁.extZ e₂ hwX hlw hcw
    obtain ⟨p, hp⟩ : ∃ p, ps[i]? = some p := ⟨_, List.getElem?_eq_getElem hlt⟩
    have r₂ : Rep X s₂.heap v p := ((hP i v p hPv hp).ext (e₁.mono fun a h => h.elim (hZX a) (hwX a))).ext (e₂.mono hwX)
    have inv₂ : Inv i s₂ := hInv i s₁ s₂ inv₁ (e₂.mono hwN)
    dsimp only
    refine wpAny_bind (wpAny_pure (wpAny_bind (assign_var S₂ hc hap r₂ fun s₃ e₃ S₃ => ?_)))
    have st₃ : St (i + 1) s₃.heap := W.frame _ _ _ st₂ fun b hb o ho => e₃.keepAt ho (fun q => (hfp b hb).1 (hsx b q).1) (hfp b hb).2
    have inv₃ : Inv i s₃ := hInv i s₂ s₃ inv₂ (e₃.mono fun a h => (hsx a h).2)
    have e₁₃ : Ext prog w (fun a => Z a ∨ a ∈ wr) C s s₃ := e₁.trans ((e₂.mono fun a h => .inr h).trans (e₃.mono fun a h => .inl (hsx a h).1))
    refine Mine.el2c (hact i p s₃ hp e₁₃ S₃ inv₃) fun b T hb hf ht => ?_; try k_fold
    refine wpAny_bind (hb s₃ .refl _ _ fun b' s₄ e₄ hb' => ?_)
    (refine Mine.el0b hb' fun hq3 hT => ?_; try clear hb'; obtain rfl := hq3)
    have st₄ : St (i + 1) s₄.heap := W.frame _ _ _ st₃ fun b hb o ho => e₄.keepAt ho (fun q => q) (hfp b hb).2
    have inv₄ : Inv i s₄ := hInv i s₃ s₄ inv₃ e₄.ofNo
    cases b' with
    | false =>
      simp only [Bool.false_eq_true, if_false]
      refine wpAny_pure ⟨rfl, ps.length + 1 - (i + 1), by omega, i + 1, hlt, rfl, e₁₃.trans e₄.ofNo, (S₃.ext e₄).drop hx0, st₄, hf rfl s₄ e₄ hT inv₄⟩
    | true =>
      simp only [if_true]
      refine ht rfl s₄ e₄ hT (S₃.ext e₄) inv₄ _ _ _ fun s₅ e₅ S₅ inv₅ => ?_; try k_fold
      have st₅ : St (i + 1) s₅.heap := W.frame _ _ _ st₄ fun b hb o ho => e₅.keepAt ho (hfp b hb).1 (hfp b hb).2
      exact wpAny_pure ⟨rfl, ps.length + 1 - (i + 1), by omega, i + 1, hlt, rfl, e₁₃.trans (e₄.ofNo.trans (e₅.mono fun a h => .inl h)), S₅.drop hx0, st₅, inv₅⟩
  · have hin : i = ps.length := by omega
    subst hin
    refine with_size (W.done s₁ _ _ st₁ fun h' tk hk hsz => ?_)
    have e₂ : Ext prog w (fun a => a ∈ wr) C s₁ { s₁ with heap := h', toks := tk } := ⟨hsz, fun b o e hb => .inl (hk b o hb e), rfl, rfl⟩
    dsimp only
    refine wpAny_pure (hR _ (e₁.trans (e₂.mono fun a h => .inr h)) (S₁.extZ e₂ hwX hlw hcw) (hInv _ _ _ inv₁ (e₂.mono hwN)))
end Mine
end
section
open PySem PySem.W PySem.Calls PyProof.Rows
set_option Elab.async false
set_option maxRecDepth 100000
set_option linter.unusedVariables false
namespace Mine
variable {prog : Program} {w : World} {K : Frag} {mb : Str → Option Value} {X Y : Addr → Prop} {C : Mem} {s s' s'' : Shared} {A : Around} {env : Env} {ρ : List (Str × PV)} {n : Nat}

/-! the frame of a comprehension -/
noncomputable def isFree (scope : Scope) (q : Str × PV) : Bool := scope.names.lookup q.1 == some .free
theorem lk_same {β : Type} {x : Str} {v : β} {l : List (Str × β)} : List.lookup x ((x, v) :: l) = some v := by rw [List.lookup_cons, beq_self_eq_true]
theorem lk_ne {β : Type} {x y : Str} {v : β} {l : List (Str × β)} (h : x ≠ y) : List.lookup x ((y, v) :: l) = l.lookup x := by rw [List.lookup_cons, beq_false_of_ne h]
theorem lk_cases {β : Type} {x y : Str} {v c : β} {l : List (Str × β)} (h : List.lookup x ((y, v) :: l) = some c) : (x = y ∧ v = c) ∨ l.lookup x = some c := by
  by_cases e : x = y
  · rw [e, lk_same] at h; exact .inl ⟨e, Option.some.inj h⟩
  · rw [lk_ne e] at h; exact .inr h
theorem lk_keep {β : Type} {x y : Str} {v : β} {l : List (Str × β)} (h : (l.lookup x).isSome = true) : (List.lookup x ((y, v) :: l)).isSome = true := by
  by_cases e : x = y
  · rw [e, lk_same]; rfl
  · rw [lk_ne e]; exact h
theorem lookup_filter {f : Str × PV → Bool} {g : Str → Bool} (hf : ∀ q, f q = g q.1) {ρ : List (Str × PV)} {x : Str} : (ρ.filter f).lookup x = if g x then ρ.lookup x else none := by
  induction ρ with
  | nil => exact (ite_self _).symm
  | cons q ρ ih =>
    obtain ⟨y, p⟩ := q
    rw [List.filter_cons, hf]
    by_cases e : x = y
    · subst e
      by_cases hg : g x = true
      · rw [if_pos hg, if_pos hg, lk_same, lk_same]
      · rw [if_neg hg, if_neg hg, ih, if_neg hg]
    · rw [lk_ne e]
      by_cases hg : g y = true
      · rw [if_pos hg, lk_ne e]; exact ih
      · rw [if_neg hg]; exact ih

noncomputable def clOf (names : List (Str × NameKind)) (cells : List (Str × Addr)) : List (Str × Addr) := names.foldl (fun cs q => if q.2 == .free then (match cells.lookup q.1 with | some a => (q.1, a) :: cs | none => cs) else cs) []
theorem closureFor_eq {scope : Scope} (h : ∀ q ∈ scope.names, q.2 = .free → (env.cells.lookup q.1).isSome = true) : closureFor scope env = pure (clOf scope.names env.cells) := by
  unfold closureFor clOf
  have : ∀ (names : List (Str × NameKind)) (cs : List (Str × Addr)), (∀ q ∈ names, q.2 = .free → (env.cells.lookup q.1).isSome = true) →
      (forIn names cs (fun x r => do
        match x with
        | (name, kind) => if kind == .free then do pure (ForInStep.yield ((name, ← cellOf env name) :: r)) else pure (ForInStep.yield r)) : Sem (List (Str × Addr))) =
      pure (names.foldl (fun cs q => if q.2 == .free then (match env.cells.lookup q.1 with | some a => (q.1, a) :: cs | none => cs) else cs) cs) := by
    intro names
    induction names with
    | nil => intro cs _; rfl
    | cons q r ih =>
      intro cs hq
      obtain ⟨n, k⟩ := q
      rw [List.forIn_cons, List.foldl_cons]
      by_cases hk : k = .free
      · subst hk
        refine Mine.el1a (Option.isSome_iff_exists.mp (hq (n, .free) (.head _) rfl)) fun a ha => ?_
        simp only [beq_self_eq_true, if_true, ha]
        unfold cellOf
        rw [ha]
        exact ih _ fun q hm => hq q (.tail _ hm)
      · have : (k == NameKind.free) = false := by simpa using hk
        simp only [this, Bool.false_eq_true, if_false]
        exact ih _ fun q hm => hq q (.tail _ hm)
  have e := this scope.names [] h
  first
    | (rw [← bind_pure (x := (pure (List.foldl _ [] scope.names) : Sem (List (Str × Addr))))]; (refine Mine.rwl (e).symm ?_; try with_reducible rfl); rfl)
    | (rw [← e]; rfl)
    | (show (forIn _ _ _ >>= _) = _; rw [e]; rfl)
/-- by the kinds of the names: a cell, or another -/
theorem kinds_ind {P : List (Str × NameKind) → Prop} (h0 : P []) (k0 : NameKind) (hc : ∀ y names, P names → P ((y, k0) :: names)) (hs : ∀ y k names, k ≠ k0 → P names → P ((y, k) :: names)) (names : List (Str × NameKind)) : P names := by
  induction names with
  | nil => exact h0
  | cons q names ih =>
    obtain ⟨y, k⟩ := q
    by_cases h : k = k0
    · exact h ▸ hc y names ih
    · exact hs y k names h ih
theorem not_beq {k k0 : NameKind} (h : k ≠ k0) : ¬ (k == k0) = true := fun q => h (beq_iff_eq.mp q)
noncomputable def clStep (cells : List (Str × Addr)) (cs : List (Str × Addr)) (q : Str × NameKind) : List (Str × Addr) := if q.2 == .free then (match cells.lookup q.1 with | some a => (q.1, a) :: cs | none => cs) else cs
theorem clOf_fold (names : List (Str × NameKind)) (cells : List (Str × Addr)) : clOf names cells = names.foldl (clStep cells) [] := rfl
theorem cl_lookup {cells : List (Str × Addr)} {x : Str} {c : Addr} (names : List (Str × NameKind)) : ∀ cs : List (Str × Addr), (names.foldl (clStep cells) cs).lookup x = some c → cs.lookup x = some c ∨ ((x, NameKind.free) ∈ names ∧ cells.lookup x = some c) := by
  refine kinds_ind (P := fun names => ∀ cs : List (Str × Addr), (names.foldl (clStep cells) cs).lookup x = some c → cs.lookup x = some c ∨ ((x, NameKind.free) ∈ names ∧ cells.lookup x = some c)) (fun cs h => .inl h) .free (fun y names ih cs h => ?_) (fun y k names hk ih cs h => ?_) names
  · refine (ih _ h).elim (fun h1 => ?_) fun h1 => .inr ⟨.tail _ h1.1, h1.2⟩
    change List.lookup x (match cells.lookup y with | some a => (y, a) :: cs | none => cs) = some c at h1
    cases hl : cells.lookup y with
    | none => rw [hl] at h1; exact .inl h1
    | some a =>
      rw [hl] at h1
      refine (lk_cases h1).elim (fun e => .inr ?_) .inl
      rw [e.1, hl, e.2]; exact ⟨.head _, rfl⟩
  · rw [List.foldl_cons, show clStep cells cs (y, k) = cs from if_neg (not_beq hk)] at h
    exact (ih cs h).imp id fun h1 => ⟨.tail _ h1.1, h1.2⟩
theorem clOf_lookup {names : List (Str × NameKind)} {cells : List (Str × Addr)} {x : Str} {c : Addr} (h : (clOf names cells).lookup x = some c) : (x, NameKind.free) ∈ names ∧ cells.lookup x = some c :=
  (cl_lookup names [] h).resolve_left fun q => nomatch q
theorem cl_has {cells : List (Str × Addr)} {x : Str} (hc : (cells.lookup x).isSome = true) (names : List (Str × NameKind)) : ∀ cs : List (Str × Addr), (x, NameKind.free) ∈ names ∨ (cs.lookup x).isSome = true → ((names.foldl (clStep cells) cs).lookup x).isSome = true := by
  refine kinds_ind (P := fun names => ∀ cs : List (Str × Addr), (x, NameKind.free) ∈ names ∨ (cs.lookup x).isSome = true → ((names.foldl (clStep cells) cs).lookup x).isSome = true) (fun cs h => h.resolve_left List.not_mem_nil) .free (fun y names ih cs h => ih _ ?_) (fun y k names hk ih cs h => ?_) names
  · change _ ∨ (List.lookup x (match cells.lookup y with | some a => (y, a) :: cs | none => cs)).isSome = true
    by_cases e : x = y
    · subst e
      obtain ⟨a, ha⟩ := Option.isSome_iff_exists.mp hc
      rw [ha]; exact .inr (by rw [lk_same]; rfl)
    · refine h.imp (fun h => (List.mem_cons.mp h).resolve_left fun q => e (congrArg (·.1) q)) fun h => ?_
      cases cells.lookup y with
      | none => exact h
      | some a => exact lk_keep h
  · rw [List.foldl_cons, show clStep cells cs (y, k) = cs from if_neg (not_beq hk)]
    exact ih cs (h.imp (fun h => (List.mem_cons.mp h).resolve_left fun q => hk (congrArg (·.2) q).symm) id)
theorem clOf_has {names : List (Str × NameKind)} {cells : List (Str × Addr)} {x : Str} (h : (x, NameKind.free) ∈ names) (hc : (cells.lookup x).isSome = true) : ((clOf names cells).lookup x).isSome = true := cl_has hc names [] (.inl h)

theorem cells_skip {y : Str} {k : NameKind} {names : List (Str × NameKind)} {n : Nat} {acc : List (Str × Addr)} (h : k ≠ .cell) : cellsFrom n ((y, k) :: names) acc = cellsFrom n names acc := if_neg (not_beq h)
theorem push_skip {y : Str} {k : NameKind} {names : List (Str × NameKind)} {h : Heap} (hk : k ≠ .cell) : pushCells h ((y, k) :: names) = pushCells h names := if_neg (not_beq hk)
theorem cells_spec (names : List (Str × NameKind)) : ∀ (h : Heap) (acc : List (Str × Addr)) (x : Str) (c : Addr), (cellsFrom h.objs.size names acc).lookup x = some c →
    acc.lookup x = some c ∨ ((x, NameKind.cell) ∈ names ∧ h.objs.size ≤ c ∧ (pushCells h names).IsCell c none) := by
  refine kinds_ind (P := fun names => ∀ (h : Heap) (acc : List (Str × Addr)) (x : Str) (c : Addr), (cellsFrom h.objs.size names acc).lookup x = some c → acc.lookup x = some c ∨ ((x, NameKind.cell) ∈ names ∧ h.objs.size ≤ c ∧ (pushCells h names).IsCell c none)) (fun h acc x c e => .inl e) .cell (fun y names ih h acc x c e => ?_) (fun y k names hk ih h acc x c e => ?_) names
  · refine (ih (h.push { cls := .type "cell", data := .cell none }) ((y, h.objs.size) :: acc) x c (by rw [Heap.size_push]; exact e)).elim (fun q => ?_) fun q => .inr ⟨.tail _ q.1, Nat.le_of_succ_le (Nat.le_trans (Nat.le_of_eq (Heap.size_push h _).symm) q.2.1), q.2.2⟩
    refine (lk_cases q).elim (fun q => .inr ?_) .inl
    rw [q.1, ← q.2]
    exact ⟨.head _, Nat.le_refl _, _, pushCells_keeps names (h.push { cls := .type "cell", data := .cell none }) _ _ (Heap.get?_push_size _ rfl), rfl⟩
  · rw [cells_skip hk] at e
    rw [push_skip hk]
    exact (ih h acc x c e).imp id fun q => ⟨.tail _ q.1, q.2⟩
theorem cells_other (names : List (Str × NameKind)) : ∀ (n : Nat) (acc : List (Str × Addr)) (x : Str), (x, NameKind.cell) ∉ names → (cellsFrom n names acc).lookup x = acc.lookup x := by
  refine kinds_ind (P := fun names => ∀ (n : Nat) (acc : List (Str × Addr)) (x : Str), (x, NameKind.cell) ∉ names → (cellsFrom n names acc).lookup x = acc.lookup x) (fun _ _ _ _ => rfl) .cell (fun y names ih n acc x hx => ?_) (fun y k names hk ih n acc x hx => ?_) names
  · exact (ih (n + 1) _ x fun q => hx (.tail _ q)).trans (lk_ne fun e => hx (e ▸ .head _))
  · rw [cells_skip hk]; exact ih n acc x fun q => hx (.tail _ q)
theorem cells_ge (names : List (Str × NameKind)) : ∀ (n : Nat) (acc : List (Str × Addr)) (x : Str) (c : Addr), (cellsFrom n names acc).lookup x = some c → acc.lookup x = some c ∨ n ≤ c := by
  refine kinds_ind (P := fun names => ∀ (n : Nat) (acc : List (Str × Addr)) (x : Str) (c : Addr), (cellsFrom n names acc).lookup x = some c → acc.lookup x = some c ∨ n ≤ c) (fun _ _ _ _ e => .inl e) .cell (fun y names ih n acc x c e => ?_) (fun y k names hk ih n acc x c e => ?_) names
  · exact (ih (n + 1) _ x c e).elim (fun q => (lk_cases q).elim (fun q => .inr (Nat.le_of_eq q.2)) .inl) fun q => .inr (Nat.le_of_succ_le q)
  · rw [cells_skip hk] at e; exact ih n acc x c e
theorem cells_keep (names : List (Str × NameKind)) : ∀ (n : Nat) (acc : List (Str × Addr)) (x : Str), (acc.lookup x).isSome = true → ((cellsFrom n names acc).lookup x).isSome = true := by
  refine kinds_ind (P := fun names => ∀ (n : Nat) (acc : List (Str × Addr)) (x : Str), (acc.lookup x).isSome = true → ((cellsFrom n names acc).lookup x).isSome = true) (fun _ _ _ h => h) .cell (fun y names ih n acc x h => ih (n + 1) _ x (lk_keep h)) (fun y k names hk ih n acc x h => ?_) names
  rw [cells_skip hk]; exact ih n acc x h
theorem cells_has (names : List (Str × NameKind)) : ∀ (n : Nat) (acc : List (Str × Addr)) (x : Str), (x, NameKind.cell) ∈ names → ((cellsFrom n names acc).lookup x).isSome = true := by
  refine kinds_ind (P := fun names => ∀ (n : Nat) (acc : List (Str × Addr)) (x : Str), (x, NameKind.cell) ∈ names → ((cellsFrom n names acc).lookup x).isSome = true) (fun _ _ _ h => absurd h List.not_mem_nil) .cell (fun y names ih n acc x h => ?_) (fun y k names hk ih n acc x h => ?_) names
  · exact (List.mem_cons.mp h).elim (fun q => cells_keep names (n + 1) _ x (by rw [show x = y from congrArg (·.1) q, lk_same]; rfl)) (ih (n + 1) _ x)
  · rw [cells_skip hk]; exact ih n acc x ((List.mem_cons.mp h).resolve_left fun q => hk (congrArg (·.2) q).symm)
theorem cells_inj (names : List (Str × NameKind)) : ∀ (n : Nat) (acc : List (Str × Addr)), (∀ z d, acc.lookup z = some d → d < n) → (∀ y z d, acc.lookup y = some d → acc.lookup z = some d → y = z) →
    ∀ y z d, (cellsFrom n names acc).lookup y = some d → (cellsFrom n names acc).lookup z = some d → y = z := by
  refine kinds_ind (P := fun names => ∀ (n : Nat) (acc : List (Str × Addr)), (∀ z d, acc.lookup z = some d → d < n) → (∀ y z d, acc.lookup y = some d → acc.lookup z = some d → y = z) →
    ∀ y z d, (cellsFrom n names acc).lookup y = some d → (cellsFrom n names acc).lookup z = some d → y = z) (fun _ _ _ hi => hi) .cell (fun u names ih n acc hl hi => ?_) (fun y k names hk ih n acc hl hi => ?_) names
  · refine ih (n + 1) _ (fun z d e => ?_) fun y z d ey ez => ?_
    · exact (lk_cases e).elim (fun q => Nat.lt_succ_of_le (Nat.le_of_eq q.2.symm)) fun q => Nat.lt_succ_of_lt (hl z d q)
    · exact (lk_cases ey).elim (fun p => (lk_cases ez).elim (fun q => p.1.trans q.1.symm) fun q => absurd p.2 (Nat.ne_of_gt (hl z d q))) fun p => (lk_cases ez).elim (fun q => absurd q.2 (Nat.ne_of_gt (hl y d p))) fun q => hi y z d p q
  · rw [cells_skip hk]; exact ih n acc hl hi

theorem wpAny_compEnv {scope : Scope} {cl : List (Str × Addr)} {Q : Env → Shared → Prop} {E : Value → Shared → Prop}
    (hQ : ∀ cenv : Env, ({ cenv with scope := relabel scope env } : Env) = compEnvC scope (cellsFrom (s.heap.objs.size + 1) scope.names cl) s.heap.objs.size env → cenv.locals = s.heap.objs.size →
      Q cenv { s with heap := pushCells (s.heap.push { cls := .type "dict", data := .dict #[] }) scope.names }) :
    wpAny (model prog w) A (newFunctionEnv scope env.globals cl [] env.qual none .none (some env)) Q E s := by
  simp only [newFunctionEnv, Option.isSome_some, if_true]
  refine wpAny_bind (wpAny_alloc ?_)
  refine wpAny_bind (wpAny_layCells _ (fun name kind cells => by cases hkc : kind == NameKind.cell <;> simp [hkc]) _ _ _ _ ?_)
  rw [show ({ s with heap := s.heap.push { cls := .type "dict", data := .dict #[] } } : Shared).heap.objs.size = s.heap.objs.size + 1 from Heap.size_push ..]
  refine wpAny_bind ?_
  exact wpAny_pure (wpAny_pure (hQ _ rfl rfl))
theorem pushCells_size (names : List (Str × NameKind)) : ∀ (h : Heap), h.objs.size ≤ (pushCells h names).objs.size := by
  refine kinds_ind (P := fun names => ∀ (h : Heap), h.objs.size ≤ (pushCells h names).objs.size) (fun _ => Nat.le_refl _) .cell (fun y names ih h => ?_) (fun y k names hk ih h => ?_) names
  · exact Nat.le_trans (Nat.le_of_lt (Nat.lt_of_lt_of_le (Nat.lt_succ_self _) (Nat.le_of_eq (Heap.size_push h _).symm))) (ih _)
  · rw [push_skip hk]; exact ih h

/-- what a comprehension may change: its own dict and cells, and what it builds -/
noncomputable def CompN (scope : Scope) (L : Addr) (cells : List (Str × Addr)) (lo : Nat) (a : Addr) : Prop := a = L ∨ (lo ≤ a ∧ ∃ x, (x, NameKind.cell) ∈ scope.names ∧ cells.lookup x = some a)

structure ScopeOk (scope : Scope) (env : Env) : Prop where
  kind : scope.kind = .function
  nodup : (scope.names.map (·.1)).Nodup
  free : ∀ q ∈ scope.names, q.2 = .free → (env.cells.lookup q.1).isSome = true ∧ (env.kindOf q.1 = some .cell ∨ env.kindOf q.1 = some .free)
noncomputable def scopeOkB (scope : Scope) (env : Env) : Bool := scope.kind == .function && decide (scope.names.map (·.1)).Nodup && scope.names.all fun q => q.2 != .free || ((env.cells.lookup q.1).isSome && (env.kindOf q.1 == some .cell || env.kindOf q.1 == some .free))
theorem scopeOk_of {scope : Scope} (h : scopeOkB scope env = true) : ScopeOk scope env := by
  unfold scopeOkB at h
  rw [Bool.and_eq_true, Bool.and_eq_true] at h
  (refine Mine.el0b h fun hq1 h3 => ?_; try clear h; obtain ⟨h1, h2⟩ := hq1)
  refine ⟨by simpa using h1, of_decide_eq_true h2, fun q hq hf => ?_⟩
  have := List.all_eq_true.mp h3 q hq
  simpa [hf] using this

theorem lookup_of_nodup {l : List (Str × NameKind)} {x : Str} {k : NameKind} (hn : (l.map (·.1)).Nodup) (hm : (x, k) ∈ l) : l.lookup x = some k := by
  induction l with
  | nil => cases hm
  | cons q l ih =>
    obtain ⟨y, k'⟩ := q
    rw [List.map_cons, List.nodup_cons] at hn
    refine (List.mem_cons.mp hm).elim (fun e => ?_) fun hm => ?_
    · rw [← e]; exact lk_same
    · exact (lk_ne fun q => hn.1 (List.mem_map.mpr ⟨_, hm, q⟩)).trans (ih hn.2 hm)
theorem mem_of_lookup' : ∀ {l : List (Str × NameKind)} {x : Str} {k : NameKind}, l.lookup x = some k → (x, k) ∈ l := fun h => mem_of_lookup h
theorem lookup_relabel {scope : Scope} {x : Str} : (relabel scope env).names.lookup x = (scope.names.lookup x).map fun k => if (k == .free && env.scope.kind == .function && env.kindOf x == some .cell) then .cell else k := by
  unfold relabel
  show List.lookup x (scope.names.map _) = _
  generalize scope.names = l
  induction l with
  | nil => rfl
  | cons q l ih =>
    obtain ⟨y, k⟩ := q
    rw [List.map_cons, List.lookup_cons (as := l)]
    by_cases hc : (k == NameKind.free && env.scope.kind == .function && env.kindOf y == some .cell) = true
    · show List.lookup x ((if (k == NameKind.free && env.scope.kind == .function && env.kindOf y == some .cell) = true then (y, NameKind.cell) else (y, k)) :: _) = _
      rw [if_pos hc, List.lookup_cons]
      cases hb : x == y with
      | true => have := beq_iff_eq.mp hb; subst this; rw [Option.map_some, if_pos hc]
      | false => exact ih
    · show List.lookup x ((if (k == NameKind.free && env.scope.kind == .function && env.kindOf y == some .cell) = true then (y, NameKind.cell) else (y, k)) :: _) = _
      rw [if_neg hc, List.lookup_cons]
      cases hb : x == y with
      | true => have := beq_iff_eq.mp hb; subst this; rw [Option.map_some, if_neg hc]
      | false => exact ih

theorem comp_sit {scope : Scope} {wr : List Addr} (S : Sit prog w K mb n C X A env ρ s) (hap : Apart env) (hs : ScopeOk scope env) (hwr : ∀ a ∈ wr, FreeA K a ∧ a < s.heap.objs.size ∧ C a = none)
    {cells : List (Str × Addr)} (hcells : cells = cellsFrom (s.heap.objs.size + 1) scope.names (clOf scope.names env.cells))
    {X' : Addr → Prop} (hX' : ∀ a, X' a ↔ X a ∨ a ∈ wr ∨ CompN scope s.heap.objs.size cells s.heap.objs.size a)
    (F' : Fm X' C env s.heap ρ) :
    Sit prog w K mb n C X' A (compEnvC scope cells s.heap.objs.size env) (ρ.filter (isFree scope)) { s with heap := pushCells (s.heap.push { cls := .type "dict", data := .dict #[] }) scope.names } ∧
    Apart (compEnvC scope cells s.heap.objs.size env) ∧
    (∀ x c, cells.lookup x = some c → (∃ k, (x, k) ∈ scope.names ∧ k = .free ∧ env.cells.lookup x = some c) ∨ ((x, NameKind.cell) ∈ scope.names ∧ s.heap.objs.size + 1 ≤ c)) := by
  have hkeep : ∀ b o, s.heap.get? b = some o → (pushCells (s.heap.push { cls := .type "dict", data := .dict #[] }) scope.names).get? b = some o :=
    fun b o e => pushCells_keeps _ _ _ _ (Heap.get?_push_of_some _ e)
  have hsize : s.heap.objs.size + 1 ≤ (pushCells (s.heap.push { cls := .type "dict", data := .dict #[] }) scope.names).objs.size := by
    have := pushCells_size scope.names (s.heap.push { cls := .type "dict", data := .dict #[] })
    rwa [Heap.size_push] at this
  have hcl : ∀ x c, (clOf scope.names env.cells).lookup x = some c → (x, NameKind.free) ∈ scope.names ∧ env.cells.lookup x = some c := fun x c e => clOf_lookup e
  have hcellT : ∀ x c, cells.lookup x = some c → (∃ k, (x, k) ∈ scope.names ∧ k = .free ∧ env.cells.lookup x = some c) ∨ ((x, NameKind.cell) ∈ scope.names ∧ s.heap.objs.size + 1 ≤ c ∧ (pushCells (s.heap.push { cls := .type "dict", data := .dict #[] }) scope.names).IsCell c none) := fun x c e => by
    rw [hcells] at e
    rcases cells_spec scope.names (s.heap.push { cls := .type "dict", data := .dict #[] }) _ x c (by rw [Heap.size_push]; exact e) with h | ⟨h1, h2, h3⟩
    · refine Mine.el0b (hcl x c h) fun h1 h2 => ?_
      exact .inl ⟨_, h1, rfl, h2⟩
    · rw [Heap.size_push] at h2
      exact .inr ⟨h1, h2, h3⟩
  have hlt : ∀ x c, env.cells.lookup x = some c → c < s.heap.objs.size := fun x c e => by
    (refine Mine.el1b (S.fm.cell x c e) fun ov hq2 _ => ?_; obtain ⟨o, ho, _⟩ := hq2)
    exact Heap.lt_size ho
  have hbd : ∀ a, X' a → a < (pushCells (s.heap.push { cls := .type "dict", data := .dict #[] }) scope.names).objs.size := fun a h => by
    rcases (hX' a).mp h with h | h | rfl | ⟨_, x, hm, hc⟩
    · exact Nat.lt_of_lt_of_le (S.bd a h) (Nat.le_trans (Nat.le_succ _) hsize)
    · exact Nat.lt_of_lt_of_le (hwr a h).2.1 (Nat.le_trans (Nat.le_succ _) hsize)
    · exact hsize
    · rcases hcellT x a hc with ⟨k, _, _, h⟩ | ⟨_, _, o, ho, _⟩
      · exact Nat.lt_of_lt_of_le (hlt x a h) (Nat.le_trans (Nat.le_succ _) hsize)
      · exact Heap.lt_size ho
  refine ⟨⟨S.base.keepsF fun b o e _ => hkeep b o e, S.rm, hbd, fun a h => ?_, fun a P e => ?_, ?_⟩, ?_, ?_⟩
  · rcases (hX' a).mp h with h | h | rfl | ⟨hlo, _⟩
    · exact S.xo a h
    · exact (hwr a h).1
    · exact S.base.fresh (Nat.le_refl _)
    · exact S.base.fresh hlo
  · obtain ⟨h1, h2, o, es, ho, hm⟩ := S.co a P e
    refine ⟨h1, fun q => ?_, o, es, hkeep _ _ ho, hm⟩
    rcases (hX' a).mp q with q | q | rfl | ⟨hlo, _⟩
    · exact h2 q
    · rw [(hwr a q).2.2] at e; cases e
    · exact Nat.lt_irrefl _ (Heap.lt_size ho)
    · exact absurd (Heap.lt_size ho) (Nat.not_lt.mpr hlo)
  · refine ⟨by simp [compEnvC, relabel, hs.kind], S.fm.globals, S.fm.builtins, co_new S (Nat.le_refl _), ⟨fun _ => none, ?_, fun x p e k => ?_⟩, fun x c e => ?_⟩
    · have : (s.heap.push { cls := .type "dict", data := .dict #[] }).Ns s.heap.objs.size (fun _ => none) := Heap.Ns.new s.heap (.type "dict")
      exact this.keeps (pushCells_keeps _ _)
    · exfalso
      rw [lookup_filter (f := isFree scope) (g := fun x => scope.names.lookup x == some .free) (fun q => rfl)] at e
      split at e
      · rename_i hf
        have hf' : scope.names.lookup x = some .free := by simpa using hf
        have : (compEnvC scope cells s.heap.objs.size env).kindOf x = (relabel scope env).names.lookup x := rfl
        rw [this, lookup_relabel, hf'] at k
        simp only [Option.map_some, Option.some.injEq] at k
        split at k <;> cases k
      · cases e
    · rcases hcellT x c e with ⟨k, hm, rfl, hc⟩ | ⟨hm, hlo, hi⟩
      · refine Mine.el1b (F'.cell x c hc) fun ov hi hv => ?_
        refine ⟨ov, hi.keeps hkeep, fun p hp hk => ?_⟩
        rw [lookup_filter (f := isFree scope) (g := fun x => scope.names.lookup x == some .free) (fun q => rfl)] at hp
        split at hp
        · have hkind : env.kindOf x = some .cell ∨ env.kindOf x = some .free := (hs.free _ hm rfl).2
          refine Mine.el1b (hv p hp hkind) fun v h1 h2 => ?_
          exact ⟨v, h1, h2.keeps hkeep⟩
        · cases hp
      · refine ⟨none, hi, fun p hp hk => ?_⟩
        exfalso
        rw [lookup_filter (f := isFree scope) (g := fun x => scope.names.lookup x == some .free) (fun q => rfl)] at hp
        split at hp
        · rename_i hf
          have hf' : scope.names.lookup x = some .free := by simpa using hf
          rw [lookup_of_nodup hs.nodup hm] at hf'; cases hf'
        · cases hp
  · intro x y c hx hy
    have hx' : (cellsFrom (s.heap.objs.size + 1) scope.names (clOf scope.names env.cells)).lookup x = some c := by rw [← hcells]; exact hx
    have hy' : (cellsFrom (s.heap.objs.size + 1) scope.names (clOf scope.names env.cells)).lookup y = some c := by rw [← hcells]; exact hy
    exact cells_inj _ _ _ (fun z d e => Nat.lt_succ_of_lt (hlt z d (hcl z d e).2)) (fun y z d e1 e2 => hap y z d (hcl y d e1).2 (hcl z d e2).2) x y c hx' hy'
  · intro x c e
    rcases hcellT x c e with h | ⟨h1, h2, _⟩
    · exact .inl h
    · exact .inr ⟨h1, h2⟩
end Mine
end
section
open PySem PySem.W PySem.Calls PyProof.Rows
set_option Elab.async false
set_option maxRecDepth 100000
set_option linter.unusedVariables false
namespace Mine
variable {prog : Program} {w : World} {K : Frag} {mb : Str → Option Value} {X Y : Addr → Prop} {C : Mem} {s s' s'' : Shared} {A : Around} {env : Env} {ρ : List (Str × PV)} {n : Nat}

theorem comp_start {e : Expr} {d : Nat} {I : Addr} {acc : Value} {cenv : Env} {R : Result → Shared → Prop} (hloop : codeAny (model prog w) A (.compLoop e d (.ref I) acc cenv) R s)
    (hself : ∀ (Q : Value → Shared → Prop) (E : Value → Shared → Prop), Q (.ref I) s → wpAny (model prog w) A (pyIter (.ref I)) Q E s)
    (hcl : autoParam (((clausesOf e)[d]?).elim false (·.is_async != 0) = false) Mine.autoR) (hfr : autoParam ((Code.compStart e d (.ref I) acc cenv).isFrame = false) Mine.autoR) (hund : autoParam (A.under (Code.compStart e d (.ref I) acc cenv) = A) Mine.autoR)
    (hq : autoParam ((Code.compLoop e d (.ref I) acc cenv).quiet = true) Mine.autoR) :
    codeAny (model prog w) A (.compStart e d (.ref I) acc cenv) R s := by
  refine codeAny_of_tree ?_; try k_fold
  have hden : (model prog w).den (Code.compStart e d (.ref I) acc cenv) = (compStart e d (.ref I) acc cenv).onRaise (fun x => do noteFrame x cenv; standAt theWindowsPlace) := by
    show (if (Code.compStart e d (.ref I) acc cenv).isFrame = true then _ else _) = _
    rw [hfr]; rfl
  rw [hden, hund]
  refine wpAny_notedAt ?_; try k_fold
  unfold compStart
  rw [hcl]
  simp only [Bool.false_eq_true, if_false]
  refine wpAny_bind (wpAny_askSetting (wpAny_ite ?_))
  split
  · exact wpAny_pure ⟨hq, hloop⟩
  · refine wpAny_bind (wpAny_rule ?_)
    split
    · refine wpAny_bind (wpAny_standAt ?_)
      exact wpAny_bind (hself _ _ (wpAny_pure ⟨hq, hloop⟩))
    · exact wpAny_bind (hself _ _ (wpAny_pure ⟨hq, hloop⟩))

theorem Fm.monoX {h : Heap} (F : Fm X C env h ρ) (hX : ∀ a, Y a → X a ∨ h.objs.size ≤ a) : Fm Y C env h ρ := by
  refine ⟨F.kind, F.globals, F.builtins, F.cl, ?_, fun x c e => ?_⟩
  · refine Mine.el1b F.ns fun m hn hv => ?_
    exact ⟨m, hn, fun x p e k => let ⟨v, h1, h2⟩ := hv x p e k; ⟨v, h1, h2.monoX hX⟩⟩
  · refine Mine.el1b (F.cell x c e) fun ov hc hv => ?_
    exact ⟨ov, hc, fun p e k => let ⟨v, h1, h2⟩ := hv p e k; ⟨v, h1, h2.monoX hX⟩⟩
theorem Ext.freshZ {Z Z' : Addr → Prop} (h : Ext prog w Z' C s s') (h' : Ext prog w Z C s' s'') (hz : ∀ a, Z a → Z' a ∨ s.heap.objs.size ≤ a) : Ext prog w Z' C s s'' := by
  refine ⟨Nat.le_trans h.size h'.size, fun b o e hb' => ?_, h'.gens.trans h.gens, h'.os.trans h.os⟩
  have hb : ¬ Z b := fun q => (hz b q).elim hb' fun z => Nat.lt_irrefl _ (Nat.lt_of_lt_of_le (Heap.lt_size e) z)
  rcases h.keep b o e hb' with k | ⟨P, hP, es, o', more, m1, k, m2, hm⟩
  · exact h'.keep b o k hb
  · rcases h'.keep b o' k hb with k' | ⟨P', hP', es', o'', more', m1', k', m2', hm'⟩
    · exact .inr ⟨P, hP, es, o', more, m1, k', m2, hm⟩
    · rw [hP] at hP'; cases hP'
      have := m1'.unique m2; subst this
      refine .inr ⟨P, hP, es, o'', more ++ more', m1, k', by rw [← List.append_assoc]; exact m2', fun p hp => ?_⟩
      rcases List.mem_append.mp hp with hp | hp
      · exact hm p hp
      · exact hm' p hp

theorem Ext.fresh {Z : Addr → Prop} (h : Ext prog w noX C s s') (h' : Ext prog w Z C s' s'') (hz : ∀ a, Z a → s.heap.objs.size ≤ a) : Ext prog w noX C s s'' := h.freshZ h' fun a q => .inr (hz a q)
/-- what a comprehension's body may know of its frame -/
structure CE (scope : Scope) (cells : List (Str × Addr)) (L : Addr) (env : Env) (X X' : Addr → Prop) (lo : Nat) : Prop where
  ap : Apart (compEnvC scope cells L env)
  fr : ∀ x, (x, NameKind.free) ∈ scope.names → (cells.lookup x).isSome = true
  up : ∀ a, X a → X' a
  nw : ∀ a, X' a → X a ∨ lo ≤ a
  ch : ∀ x, (x, NameKind.cell) ∈ scope.names → (cells.lookup x).isSome = true
/-- where a comprehension's loop begins -/
structure CompAt (prog : Program) (w : World) (K : Frag) (mb : Str → Option Value) (n : Nat) (C : Mem) (X : Addr → Prop) (A : Around) (env : Env) (ρ : List (Str × PV)) (scope : Scope) (ps : List PV) (accObj : Obj)
    (s₁ s₄ : Shared) (acc L I : Addr) (fp wr : List Addr) (P : Nat → Value → Prop) (St : Nat → Heap → Prop) (cells : List (Str × Addr)) (X' : Addr → Prop) : Prop where
  sit : Sit prog w K mb n C X' A (compEnvC scope cells L env) (ρ.filter (isFree scope)) s₄
  ap : Apart (compEnvC scope cells L env)
  cellT : ∀ x c, cells.lookup x = some c → (∃ k, (x, k) ∈ scope.names ∧ k = .free ∧ env.cells.lookup x = some c) ∨ ((x, NameKind.cell) ∈ scope.names ∧ L + 1 ≤ c)
  cellH : ∀ x, (x, NameKind.cell) ∈ scope.names → ∃ c, cells.lookup x = some c
  cellF : ∀ x, (x, NameKind.free) ∈ scope.names → (cells.lookup x).isSome = true
  W : Walks prog w A I fp wr ps.length P St
  st : St 0 s₄.heap
  fpa : ∀ b ∈ fp, b < acc ∧ C b = none
  hP : ∀ i v p, P i v → ps[i]? = some p → Rep X' s₄.heap v p
  ext : Ext prog w noX C s₁ s₄
  accO : s₄.heap.get? acc = some accObj
  lo : s₁.heap.objs.size ≤ acc
  accL : acc < L
  wrlo : ∀ b ∈ wr, s₁.heap.objs.size ≤ b
  sub : ∀ a, X a → a < s₁.heap.objs.size
  hX : ∀ a, X' a ↔ X a ∨ a = acc ∨ a ∈ wr ∨ CompN scope L cells L a
  outer : ∀ x c, env.cells.lookup x = some c → c < s₁.heap.objs.size
  so : ScopeOk scope env

theorem comp_core {e : Expr} {scope : Scope} {pos : Pos} {g : Comprehension} {gs : List Comprehension} {use : Option (Value → Sem Unit)} {newAcc : Sem Value} {accObj : Obj} {ps : List PV} {Q : Value → Shared → Prop} {E : Value → Shared → Prop}
    (hcl : clausesOf e = g :: gs) (hset : ∀ x, foldedSetIterable g.iter env x = pure x) (S : Sit prog w K mb n C X A env ρ s) (hap : Apart env) (hs : ScopeOk scope env) (hit : EvI prog w C X A env g.iter ps s)
    (hnew : ∀ (s : Shared) (Q : Value → Shared → Prop) (E : Value → Shared → Prop), Q (.ref s.heap.objs.size) { s with heap := s.heap.push accObj } → wpAny (model prog w) A newAcc Q E s) (hfr : accObj.isFreed = false)
    (loop : ∀ s₄ acc L I fp wr P St cells X', CompAt prog w K mb n C X A env ρ scope ps accObj s s₄ acc L I fp wr P St cells X' →
      codeAny (model prog w) A (.compStart e 0 (.ref I) (.ref acc) (compEnvC scope cells L env)) (compPost (model prog w) A E use Q (.ref acc) L) s₄) :
    wpAny (model prog w) A (comprehension e scope env pos newAcc false (eval g.iter env) use) Q E s := by
  refine wpAny_comprehension_free hcl hset (closureFor_eq fun q hq hf => (hs.free q hq hf).1) hs.kind (fun x hx hl => lookup_of_nodup hs.nodup (by obtain ⟨a, b⟩ := x; simp only at hl; subst hl; exact hx)) ?_
  refine hit s .refl _ _ fun it s₂ e₂ hI => hnew _ _ _ (wpAny_compEnv fun cenv hce hloc => ?_)
  (refine Mine.el5f hI fun I fp wr P St hq1 W hst hwr hfp hP => ?_; try clear hI; obtain rfl := hq1)
  have e₃ : Ext prog w noX C s { s₂ with heap := s₂.heap.push accObj } := e₂.trans .push
  generalize hs₃ : ({ s₂ with heap := s₂.heap.push accObj } : Shared) = s₃ at e₃ hce hloc ⊢
  have hsz₃ : s₃.heap.objs.size = s₂.heap.objs.size + 1 := by rw [← hs₃]; exact Heap.size_push ..
  have hacc : s₂.heap.objs.size < s₃.heap.objs.size := by rw [hsz₃]; exact Nat.lt_succ_self _
  have haccO : s₃.heap.get? s₂.heap.objs.size = some accObj := by rw [← hs₃]; exact Heap.get?_push_size _ hfr
  have k₂₃ : ∀ b o, s₂.heap.get? b = some o → s₃.heap.get? b = some o := fun b o h => by rw [← hs₃]; exact Heap.get?_push_of_some _ h
  have S₂ := S.ext e₂
  have S₃ := S.ext e₃
  rw [hce, hloc]
  have hcells : cellsFrom (s₃.heap.objs.size + 1) scope.names (clOf scope.names env.cells) = cellsFrom (s₃.heap.objs.size + 1) scope.names (clOf scope.names env.cells) := rfl
  generalize hC : cellsFrom (s₃.heap.objs.size + 1) scope.names (clOf scope.names env.cells) = cells at hcells ⊢
  let X' : Addr → Prop := fun a => X a ∨ a ∈ s₂.heap.objs.size :: wr ∨ CompN scope s₃.heap.objs.size cells s₃.heap.objs.size a
  have hX'lo : ∀ a, X' a → X a ∨ s.heap.objs.size ≤ a := fun a h => by
    rcases h with h | h | h | ⟨h, _⟩
    · exact .inl h
    · rcases List.mem_cons.mp h with rfl | h
      · exact .inr e₂.size
      · exact .inr (hwr a h)
    · rw [h]; exact .inr e₃.size
    · exact .inr (Nat.le_trans e₃.size h)
  have F' : Fm X' C env s₃.heap ρ := (S.fm.monoX hX'lo).ext e₃
  obtain ⟨S₄, hap₄, hcT⟩ := comp_sit (scope := scope) (wr := s₂.heap.objs.size :: wr) S₃ hap hs (fun a h => by
    rcases List.mem_cons.mp h with h | h
    · rw [h]; exact ⟨S₂.base.fresh (Nat.le_refl _), hacc, co_new S₂ (Nat.le_refl _)⟩
    · have q := hfp a (W.sub a h)
      exact ⟨S.base.fresh (hwr a h), Nat.lt_trans q.1 hacc, q.2.1⟩) hC.symm (X' := X') (fun a => Iff.rfl) F'
  have e₄ : Ext prog w noX C s₃ { s₃ with heap := pushCells (s₃.heap.push { cls := .type "dict", data := .dict #[] }) scope.names } := by
    refine .ofKeep ?_ (fun b o h => pushCells_keeps _ _ _ _ (Heap.get?_push_of_some _ h)) rfl rfl
    have := pushCells_size scope.names (s₃.heap.push { cls := .type "dict", data := .dict #[] })
    rw [Heap.size_push] at this
    exact Nat.le_trans (Nat.le_succ _) this
  have k₃₄ : ∀ b o, s₃.heap.get? b = some o → (pushCells (s₃.heap.push { cls := .type "dict", data := .dict #[] }) scope.names).get? b = some o := fun b o h => pushCells_keeps _ _ _ _ (Heap.get?_push_of_some _ h)
  refine loop _ s₂.heap.objs.size s₃.heap.objs.size I fp wr P St cells X' ⟨S₄, hap₄, hcT, fun x hx => ?_, fun x hx => ?_, W, W.frame _ _ _ hst fun b hb o h => k₃₄ _ _ (k₂₃ _ _ h), fun b hb => ⟨(hfp b hb).1, (hfp b hb).2.1⟩, fun i v p hv hp => ?_, e₃.trans e₄, ?_, e₂.size, hacc, hwr, fun a h => S.bd a h, fun a => ?_, fun x c h => ?_, hs⟩
  · rw [← hC]; exact Option.isSome_iff_exists.mp (cells_has _ _ _ x hx)
  · rw [← hC]; exact cells_keep _ _ _ x (clOf_has hx (hs.free _ hx rfl).1)
  · refine ((hP i v p hv hp).monoX (Y := X') fun a h => ?_).keeps fun b o h => k₃₄ _ _ (k₂₃ _ _ h)
    rcases h with h | h | h | ⟨h, _⟩
    · exact .inl (.inl h)
    · rcases List.mem_cons.mp h with h | h
      · rw [h]; exact .inr (Nat.le_refl _)
      · exact .inl (.inr h)
    · rw [h]; exact .inr (Nat.le_of_lt hacc)
    · exact .inr (Nat.le_trans (Nat.le_of_lt hacc) h)
  · exact k₃₄ _ _ haccO
  · show (X a ∨ a ∈ s₂.heap.objs.size :: wr ∨ _) ↔ _
    rw [List.mem_cons, or_assoc]
  · (refine Mine.el1b (S.fm.cell x c h) fun ov hq2 _ => ?_; obtain ⟨o, ho, _⟩ := hq2)
    exact Heap.lt_size ho
theorem CompAt.ce {scope : Scope} {ps : List PV} {accObj : Obj} {s₁ s₄ : Shared} {acc L I : Addr} {fp wr : List Addr} {P : Nat → Value → Prop} {St : Nat → Heap → Prop} {cells : List (Str × Addr)} {X' : Addr → Prop}
    (H : CompAt prog w K mb n C X A env ρ scope ps accObj s₁ s₄ acc L I fp wr P St cells X') {lo : Nat} (hlo : lo ≤ s₁.heap.objs.size) : CE scope cells L env X X' lo := by
  refine ⟨H.ap, H.cellF, fun a h => (H.hX a).mpr (.inl h), fun a h => ?_, fun x hx => by refine Mine.el1a (H.cellH x hx) fun c hc => ?_; rw [hc]; rfl⟩
  have hL : s₁.heap.objs.size ≤ L := Nat.le_trans H.lo (Nat.le_of_lt H.accL)
  rcases (H.hX a).mp h with h | rfl | h | rfl | ⟨h, _⟩
  · exact .inl h
  · exact .inr (Nat.le_trans hlo H.lo)
  · exact .inr (Nat.le_trans hlo (H.wrlo a h))
  · exact .inr (Nat.le_trans hlo hL)
  · exact .inr (Nat.le_trans hlo (Nat.le_trans hL h))
end Mine
end
section
open PySem PySem.W PySem.Calls PyProof.Rows
set_option Elab.async false
set_option maxRecDepth 100000
set_option linter.unusedVariables false
namespace Mine
variable {prog : Program} {w : World} {K : Frag} {mb : Str → Option Value} {X Y : Addr → Prop} {C : Mem} {s s' s'' : Shared} {A : Around} {env : Env} {ρ : List (Str × PV)} {n : Nat}

noncomputable def AccL (X : Addr → Prop) (acc : Addr) (l : List PV) (h : Heap) : Prop := ∃ items, h.IsList acc items ∧ Reps X h items.toList l

theorem emit_list {elt : Expr} {acc : Addr} {done : List PV} {q : PV} {k : Sem Fin} {Q : Fin → Shared → Prop} {E : Value → Shared → Prop} {J : Shared → Prop} (hX : X acc) (hacc : AccL X acc done s.heap) (hsz : done.length ≤ sizeLine)
    (he : Do prog w C A (eval elt env) (fun v s => Rep X s.heap v q ∧ J s) s)
    (hCa : C acc = none) (hJ : ∀ s s', J s → Ext prog w (fun a => a = acc) C s s' → J s')
    (hk : ∀ s', Ext prog w (fun a => a = acc) C s s' → AccL X acc (done ++ [q]) s'.heap → J s' → wpAny (model prog w) A k Q E s') :
    wpAny (model prog w) A ((do let _ ← call (.builtin "list.append") [.ref acc, ← eval elt env] : Sem Unit) >>= fun _ => k) Q E s := by
  refine wpAny_bind (wpAny_bind (he s .refl _ _ fun v s₁ e₁ r => ?_))
  (refine Mine.el1b hacc fun items hl hr => ?_; try clear hacc)
  refine Mine.el0b r fun r j => ?_
  have hl₁ : s₁.heap.IsList acc items := isList_ext e₁ (fun q => q) hl
  have hr₁ := hr.ext e₁.ofNo
  have hn : items.size = done.length := by simpa using hr.length
  refine wpAny_bind (wpAny_list_append hl₁ (fun h' hl' hs => wpAny_pure ?_) (by omega))
  have e₂ : Ext prog w (fun a => a = acc) C s₁ { s₁ with heap := h' } := Ext.sameBut (t := s₁.toks) hs rfl
  have e₂X : Ext prog w X C s₁ { s₁ with heap := h' } := e₂.mono fun a h => h ▸ hX
  refine hk _ (e₁.ofNo.trans e₂) ⟨_, hl', ?_⟩ (hJ _ _ j e₂)
  rw [Array.toList_push]
  exact (hr₁.ext e₂X).append (.cons (r.ext e₂X) .nil)

theorem CompAt.canSt {scope : Scope} {ps : List PV} {accObj : Obj} {s₁ s₄ : Shared} {acc L I : Addr} {fp wr : List Addr} {P : Nat → Value → Prop} {St : Nat → Heap → Prop} {cells : List (Str × Addr)} {X' : Addr → Prop}
    (H : CompAt prog w K mb n C X A env ρ scope ps accObj s₁ s₄ acc L I fp wr P St cells X') {x : Str} (hx : scope.names.lookup x = some .local ∨ scope.names.lookup x = some .cell) : CanSt X' (compEnvC scope cells L env) x ∧ ∀ a, StX (compEnvC scope cells L env) x a → CompN scope L cells L a := by
  have hk : (compEnvC scope cells L env).kindOf x = (relabel scope env).names.lookup x := rfl
  rcases hx with hx | hx
  · have hkx : (compEnvC scope cells L env).kindOf x = some .local := by rw [hk, lookup_relabel, hx]; rfl
    refine ⟨.inl ⟨hkx, (H.hX _).mpr (.inr (.inr (.inr (.inl rfl))))⟩, ?_⟩
    rintro a (⟨_, rfl⟩ | ⟨h, _⟩)
    · exact .inl rfl
    · rw [hkx] at h; cases h
  · have hkx : (compEnvC scope cells L env).kindOf x = some .cell := by rw [hk, lookup_relabel, hx]; rfl
    have hm := mem_of_lookup' hx
    refine Mine.el1a (H.cellH x hm) fun c hc => ?_
    have hlo : L ≤ c := by
      rcases H.cellT x c hc with ⟨k, hm', rfl, _⟩ | ⟨_, h⟩
      · rw [lookup_of_nodup H.so.nodup hm'] at hx; cases hx
      · exact Nat.le_trans (Nat.le_succ _) h
    have hN : CompN scope L cells L c := .inr ⟨hlo, x, hm, hc⟩
    refine ⟨.inr ⟨hkx, c, hc, (H.hX _).mpr (.inr (.inr (.inr hN)))⟩, ?_⟩
    rintro a (⟨h, _⟩ | ⟨_, h⟩)
    · rw [hkx] at h; cases h
    · have : cells.lookup x = some a := h
      rw [hc] at this; cases this; exact hN

/-- stable against whatever happens to what is made from here on -/
noncomputable def StableJ (prog : Program) (w : World) (C : Mem) (lo : Nat) (J : Nat → Shared → Prop) : Prop := ∀ (Z : Addr → Prop) i s s', (∀ a, Z a → lo ≤ a) → J i s → Ext prog w Z C s s' → J i s'

/-- a clause of a list comprehension that ends in the element: the loop -/
theorem list_inner {e elt : Expr} {d : Nat} {scope : Scope} {acc L I : Addr} {cells : List (Str × Addr)} {X' Z : Addr → Prop} {fp wr : List Addr} {P : Nat → Value → Prop} {St : Nat → Heap → Prop} {ps : List PV} {x : Str} {px : Pos} {ifs : List Expr}
    {R : Result → Shared → Prop} {done : List PV} {ρ' : List (Str × PV)} (lo : Nat) (J : Nat → Shared → Prop) (hJ : StableJ prog w C lo J) (g : Nat → PV → List PV)
    (T : TurnIs e d (.ref I) (.ref acc) (compEnvC scope cells L env) (.Name x px) ifs (fun k => (do let _ ← call (.builtin "list.append") [.ref acc, ← eval elt (compEnvC scope cells L env)] : Sem Unit) >>= fun _ => k))
    (hc : CanSt X' (compEnvC scope cells L env) x) (hsx : ∀ a, StX (compEnvC scope cells L env) x a → Z a ∧ a ≠ acc ∧ lo ≤ a) (hZ : Z acc) (hZX : ∀ a, Z a → X' a) (hwX : ∀ a, a ∈ wr → X' a) (hwa : acc ∉ wr) (hwlo : ∀ a ∈ wr, lo ≤ a) (halo : lo ≤ acc)
    (hlw : L ∉ wr) (hcw : ∀ x c, cells.lookup x = some c → c ∉ wr) (hap : Apart (compEnvC scope cells L env)) (hx0 : ρ'.lookup x = none)
    (W : Walks prog w A I fp wr ps.length P St) (hst : St 0 s.heap) (hfp : ∀ b ∈ fp, ¬ Z b ∧ C b = none) (hP : ∀ i v p, P i v → ps[i]? = some p → Rep X' s.heap v p)
    (S : Sit prog w K mb n C X' A (compEnvC scope cells L env) ρ' s) (hacc : AccL X' acc done s.heap) (hCa : C acc = none) (j0 : J 0 s)
    (hsz : done.length + ((ps.zipIdx.flatMap fun q => g q.2 q.1)).length ≤ sizeLine)
    (body : ∀ i p s', ps[i]? = some p → Sit prog w K mb n C X' A (compEnvC scope cells L env) ((x, p) :: ρ') s' → J i s' → ∃ (b : Bool) (T : Shared → Prop), Do prog w C A (tests ifs (compEnvC scope cells L env)) (fun v s'' => v = b ∧ T s'') s' ∧
      (b = false → g i p = [] ∧ ∀ s'', Ext prog w noX C s' s'' → T s'' → J i s'' → J (i + 1) s'') ∧
      (b = true → ∃ q, g i p = [q] ∧ ∀ s'', Ext prog w noX C s' s'' → T s'' → J i s'' → Do prog w C A (eval elt (compEnvC scope cells L env)) (fun v s => Rep X' s.heap v q ∧ J (i + 1) s) s''))
    (hR : ∀ s', Ext prog w (fun a => Z a ∨ a ∈ wr) C s s' → Sit prog w K mb n C X' A (compEnvC scope cells L env) ρ' s' → AccL X' acc (done ++ ps.zipIdx.flatMap fun q => g q.2 q.1) s'.heap → J ps.length s' → R (.ok .next) s')
    (hfr : autoParam ((Code.compLoop e d (.ref I) (.ref acc) (compEnvC scope cells L env)).isFrame = false) Mine.autoR) (hund : autoParam (A.under (Code.compLoop e d (.ref I) (.ref acc) (compEnvC scope cells L env)) = A) Mine.autoR) :
    codeAny (model prog w) A (.compLoop e d (.ref I) (.ref acc) (compEnvC scope cells L env)) R s := by
  let res : Nat → List PV := fun i => (ps.zipIdx.take i).flatMap fun q => g q.2 q.1
  have hres : ∀ i p, ps[i]? = some p → res (i + 1) = res i ++ g i p := fun i p hp => by
    show (ps.zipIdx.take (i + 1)).flatMap _ = _
    have hz : ps.zipIdx[i]? = some (p, i) := by simp [List.getElem?_zipIdx, hp]
    rw [List.take_add_one, hz]
    simp [res]
  have hresn : res ps.length = ps.zipIdx.flatMap fun q => g q.2 q.1 := by
    show (ps.zipIdx.take ps.length).flatMap _ = _
    rw [List.take_of_length_le (by simp)]
  have hresle : ∀ i, (res i).length ≤ (ps.zipIdx.flatMap fun q => g q.2 q.1).length := fun i => by
    show ((ps.zipIdx.take i).flatMap _).length ≤ _
    conv => rhs; rw [← List.take_append_drop i ps.zipIdx, List.flatMap_append, List.length_append]
    exact Nat.le_add_right _ _
  refine comp_loop (N := fun a => X' a ∧ a ≠ acc ∧ lo ≤ a) (Z := Z) (fun i s' => AccL X' acc (done ++ res i) s'.heap ∧ J i s') T hc (fun a h => ⟨(hsx a h).1, hZX a (hsx a h).1, (hsx a h).2⟩) (fun a h => ⟨hwX a h, fun q => hwa (q ▸ h), hwlo a h⟩) hZX hwX hlw hcw hap hx0 W hst hfp hP S ⟨by simpa [res] using hacc, j0⟩ ?_ ?_ ?_ hfr hund
  · rintro i s₁ s₂ ⟨⟨items, hl, hr⟩, hj⟩ e
    exact ⟨⟨items, isList_ext e (fun q => q.2.1 rfl) hl, hr.ext (e.mono fun a h => h.1)⟩, hJ _ i s₁ s₂ (fun a h => h.2.2) hj e⟩
  · rintro i p s₁ hp e S₁ ⟨ha, hj⟩
    refine Mine.el2c (body i p s₁ hp S₁ hj) fun b T hb hf ht => ?_
    refine ⟨b, T, hb, fun hb0 s₂ e₂ hT h₂ => ?_, fun hb1 s₂ e₂ hT S₂ h₂ k Q E hk => ?_⟩
    · refine Mine.el0b (hf hb0) fun hg hj' => ?_
      rw [hres i p hp, hg, List.append_nil]
      exact ⟨h₂.1, hj' s₂ e₂ hT h₂.2⟩
    · refine Mine.el1b (ht hb1) fun q hg hd => ?_
      have hlen : (done ++ res i).length ≤ sizeLine := by
        have := hresle i
        rw [List.length_append]; omega
      refine emit_list (hZX acc hZ) h₂.1 hlen (hd s₂ e₂ hT h₂.2) hCa (fun s s' hj e => hJ (fun a => a = acc) _ s s' (fun a h => h ▸ halo) hj e) fun s₃ e₃ ha₃ hj₃ => ?_
      have e₃Z : Ext prog w Z C s₂ s₃ := e₃.mono fun a h => h ▸ hZ
      have haL : ¬ L = acc := fun q => by
        have hn := S₂.fm.ns
        (refine Mine.el1b hn fun m hq1 _ => ?_; try clear hn; obtain ⟨o, es, ep, ho, hd, _⟩ := hq1)
        (refine Mine.el1b h₂.1 fun items hq2 _ => ?_; obtain ⟨o', ho', _, n', hd'⟩ := hq2)
        have ho2 : s₂.heap.get? acc = some o := by rw [← q]; exact ho
        rw [ho2] at ho'; cases ho'
        rw [hd] at hd'; cases hd'
      have haC : ∀ x c, cells.lookup x = some c → ¬ c = acc := fun x c hc q => by
        (refine Mine.el1b (S₂.fm.cell x c hc) fun ov hq3 _ => ?_; obtain ⟨o, ho, hd⟩ := hq3)
        (refine Mine.el1b h₂.1 fun items hq4 _ => ?_; obtain ⟨o', ho', _, n', hd'⟩ := hq4)
        rw [q, ho'] at ho; cases ho
        rw [hd] at hd'; cases hd'
      refine hk s₃ e₃Z (S₂.extZ e₃ (fun a h => h ▸ hZX acc hZ) haL haC) ⟨?_, hj₃⟩
      rw [hres i p hp, hg, ← List.append_assoc]
      exact ha₃
  · rintro s₁ e S₁ ⟨h1, h2⟩
    rw [hresn] at h1
    exact hR s₁ e S₁ h1 h2

theorem filter_free_none {scope : Scope} {x : Str} (hx : scope.names.lookup x = some .local ∨ scope.names.lookup x = some .cell) : (ρ.filter (isFree scope)).lookup x = none := by
  rw [lookup_filter (f := isFree scope) (g := fun x => scope.names.lookup x == some .free) (fun q => rfl)]
  rcases hx with h | h <;> rw [h] <;> rfl

/-- the first clause's loop, begun -/
theorem list_one {elt iter : Expr} {x : Str} {px : Pos} {ifs : List Expr} {scope : Scope} {pos : Pos} {ps : List PV} {R : Result → Shared → Prop} {s₁ s₄ : Shared} {acc L I : Addr} {fp wr : List Addr} {P : Nat → Value → Prop} {St : Nat → Heap → Prop} {cells : List (Str × Addr)} {X' : Addr → Prop}
    (H : CompAt prog w K mb n C X A env ρ scope ps { cls := .type "list", data := .seq #[] } s₁ s₄ acc L I fp wr P St cells X')
    (J : Nat → Shared → Prop) (hJ : StableJ prog w C s₁.heap.objs.size J) (g : Nat → PV → List PV) (j0 : J 0 s₁) (hx : scope.names.lookup x = some .local ∨ scope.names.lookup x = some .cell)
    (hsz : ((ps.zipIdx.flatMap fun q => g q.2 q.1)).length ≤ sizeLine)
    (body : ∀ i p s', ps[i]? = some p → Sit prog w K mb n C X' A (compEnvC scope cells L env) ((x, p) :: ρ.filter (isFree scope)) s' → J i s' → ∃ (b : Bool) (T : Shared → Prop), Do prog w C A (tests ifs (compEnvC scope cells L env)) (fun v s'' => v = b ∧ T s'') s' ∧
      (b = false → g i p = [] ∧ ∀ s'', Ext prog w noX C s' s'' → T s'' → J i s'' → J (i + 1) s'') ∧
      (b = true → ∃ q, g i p = [q] ∧ ∀ s'', Ext prog w noX C s' s'' → T s'' → J i s'' → Do prog w C A (eval elt (compEnvC scope cells L env)) (fun v s => Rep X' s.heap v q ∧ J (i + 1) s) s''))
    (hR : ∀ s', Ext prog w noX C s₁ s' → (∃ m, s'.heap.Ns L m) → AccL X' acc (ps.zipIdx.flatMap fun q => g q.2 q.1) s'.heap → J ps.length s' → R (.ok .next) s') :
    codeAny (model prog w) A (.compStart (.ListComp elt [⟨.Name x px, iter, ifs, 0⟩] scope pos) 0 (.ref I) (.ref acc) (compEnvC scope cells L env)) R s₄ := by
  have hc := H.canSt hx
  have hLlo : s₁.heap.objs.size ≤ L := Nat.le_trans H.lo (Nat.le_of_lt H.accL)
  have hNlo : ∀ a, CompN scope L cells L a → s₁.heap.objs.size ≤ a := by
    rintro a (rfl | ⟨h, _⟩)
    · exact hLlo
    · exact Nat.le_trans hLlo h
  have hwrlt : ∀ b ∈ wr, b < acc := fun b hb => (H.fpa b (H.W.sub b hb)).1
  refine comp_start ?_ (fun Q E q => H.W.self 0 s₄ Q E H.st q)
  refine list_inner (done := []) (Z := fun a => a = acc ∨ CompN scope L cells L a) s₁.heap.objs.size J hJ g turn_list hc.1 (fun a h => ⟨.inr (hc.2 a h), ?_, hNlo a (hc.2 a h)⟩) (.inl rfl) (fun a h => (H.hX a).mpr ?_) (fun a h => (H.hX a).mpr (.inr (.inr (.inl h))))
    (fun h => Nat.lt_irrefl _ (hwrlt acc h)) H.wrlo H.lo (fun h => Nat.lt_asymm H.accL (hwrlt L h)) (fun x c h hw => ?_) H.ap (filter_free_none hx) H.W H.st (fun b hb => ⟨?_, (H.fpa b hb).2⟩) H.hP H.sit
    ⟨#[], ⟨_, H.accO, rfl, 0, rfl⟩, .nil⟩ ?_ (hJ noX 0 _ _ (fun _ q => q.elim) j0 H.ext) (by simpa using hsz) body fun s₅ e₅ S₅ hacc hj => ?_
  · rcases hc.2 a h with rfl | ⟨q, _⟩
    · exact (Nat.ne_of_lt H.accL).symm
    · exact (Nat.ne_of_lt (Nat.lt_of_lt_of_le H.accL q)).symm
  · rcases h with h | h
    · exact .inr (.inl h)
    · exact .inr (.inr (.inr h))
  · rcases H.cellT x c h with ⟨k, _, _, h⟩ | ⟨_, h⟩
    · exact Nat.lt_irrefl _ (Nat.lt_of_lt_of_le (H.outer x c h) (H.wrlo c hw))
    · exact Nat.lt_asymm (Nat.lt_trans (hwrlt c hw) H.accL) h
  · rintro (rfl | rfl | ⟨h, _⟩)
    · exact Nat.lt_irrefl _ (H.fpa _ hb).1
    · exact Nat.lt_asymm H.accL (H.fpa _ hb).1
    · exact Nat.lt_irrefl _ (Nat.lt_trans H.accL (Nat.lt_of_le_of_lt h (H.fpa _ hb).1))
  · exact co_ne H.sit H.accO (by first | exact fun _ _ h => by cases h | exact fun _ h => by cases h | nofun)
  · refine hR s₅ (H.ext.fresh e₅ ?_) ?_ (by simpa using hacc) hj
    · rintro a ((rfl | h) | h)
      · exact H.lo
      · exact hNlo a h
      · exact H.wrlo a h
    · refine Mine.el1b S₅.fm.ns fun m hn _ => ?_
      exact ⟨m, hn⟩

theorem Rep.ofSub {h : Heap} {v : Value} {p : PV} (r : Rep Y h v p) (hs : ∀ a, X a → Y a) : Rep X h v p := r.monoX fun a ha => .inl (hs a ha)
theorem Reps.ofSub {h : Heap} {v : List Value} {p : List PV} (r : Reps Y h v p) (hs : ∀ a, X a → Y a) : Reps X h v p := r.monoX fun a ha => .inl (hs a ha)

/-- a list comprehension with one clause -/
theorem ev_listcomp1 {elt iter : Expr} {x : Str} {px : Pos} {ifs : List Expr} {scope : Scope} {pos : Pos} {ps : List PV} (S : Sit prog w K mb n C X A env ρ s) (hap : Apart env) (hs : scopeOkB scope env = true) (hit : EvI prog w C X A env iter ps s)
    (J : Nat → Shared → Prop) (g : Nat → PV → List PV) (hx : scope.names.lookup x = some .local ∨ scope.names.lookup x = some .cell) (hsz : ((ps.zipIdx.flatMap fun q => g q.2 q.1)).length ≤ sizeLine)
    (hset : ∀ x, foldedSetIterable iter env x = pure x) (hJ : StableJ prog w C s.heap.objs.size J) (j0 : J 0 s)
    (body : ∀ L cells X' i p s', ps[i]? = some p → Sit prog w K mb n C X' A (compEnvC scope cells L env) ((x, p) :: ρ.filter (isFree scope)) s' → CE scope cells L env X X' s.heap.objs.size → J i s' → ∃ (b : Bool) (T : Shared → Prop), Do prog w C A (tests ifs (compEnvC scope cells L env)) (fun v s'' => v = b ∧ T s'') s' ∧
      (b = false → g i p = [] ∧ ∀ s'', Ext prog w noX C s' s'' → T s'' → J i s'' → J (i + 1) s'') ∧
      (b = true → ∃ q, g i p = [q] ∧ ∀ s'', Ext prog w noX C s' s'' → T s'' → J i s'' → Do prog w C A (eval elt (compEnvC scope cells L env)) (fun v s => Rep X' s.heap v q ∧ J (i + 1) s) s'')) :
    Do prog w C A (eval (.ListComp elt [⟨.Name x px, iter, ifs, 0⟩] scope pos) env) (fun v s' => Rep X s'.heap v (.list (ps.zipIdx.flatMap fun q => g q.2 q.1)) ∧ J ps.length s') s := by
  intro s₁ e₁ Q E k
  have S₁ := S.ext e₁
  have hJ₁ : StableJ prog w C s₁.heap.objs.size J := fun Z i a b hz => hJ Z i a b fun c hc => Nat.le_trans e₁.size (hz c hc)
  show wpAny _ A (comprehension (.ListComp elt [⟨.Name x px, iter, ifs, 0⟩] scope pos) scope env _ (newList []) false (eval iter env)) Q E s₁
  refine comp_core (g := ⟨.Name x px, iter, ifs, 0⟩) (gs := []) (ps := ps) (accObj := { cls := .type "list", data := .seq #[] }) rfl hset S₁ hap (scopeOk_of hs) (fun s₂ e₂ => hit s₂ (e₁.trans e₂)) (fun s Q E q => wpAny_newObj_type q (by show ([] : List Value).toArray.size ≤ sizeLine; decide)) rfl ?_
  intro s₄ acc L I fp wr P St cells X' H
  refine list_one H J hJ₁ g (hJ noX 0 _ _ (fun _ q => q.elim) j0 e₁) hx hsz (fun i p s' hp S' => body L cells X' i p s' hp S' (H.ce e₁.size)) fun s₅ e₅ hns hacc hj => ?_
  (refine Mine.el1a hns fun m hn => ?_; try clear hns)
  refine ⟨m, hn, fun h' hs' => k _ _ ?_ ⟨?_, ?_⟩⟩
  · exact e₅.fresh (Ext.sameBut (X := fun a => a = L) (t := s₅.toks) hs' rfl) fun a h => by rw [h]; exact Nat.le_trans H.lo (Nat.le_of_lt H.accL)
  · (refine Mine.el1b hacc fun items hl hr => ?_; try clear hacc)
    have hXacc : ¬ X acc := fun q => Nat.lt_irrefl _ (Nat.lt_of_lt_of_le (H.sub _ q) H.lo)
    have eL : Ext prog w (fun a => a = L) C s₅ { s₅ with heap := h' } := Ext.sameBut (t := s₅.toks) hs' rfl
    have eX : Ext prog w X' C s₅ { s₅ with heap := h' } := eL.mono fun a h => (H.hX a).mpr (.inr (.inr (.inr (.inl h))))
    refine .list hXacc (isList_ext eL (Nat.ne_of_lt H.accL) hl) ((hr.ext eX).ofSub fun a h => (H.hX a).mpr (.inl h))
  · exact hJ₁ (fun a => a = L) _ _ _ (fun a h => by rw [h]; exact Nat.le_trans H.lo (Nat.le_of_lt H.accL)) hj (Ext.sameBut (t := s₅.toks) hs' rfl)
end Mine
end
section
open PySem PySem.W PySem.Calls PyProof.Rows
set_option Elab.async false
set_option maxRecDepth 100000
set_option linter.unusedVariables false
namespace Mine
variable {prog : Program} {w : World} {K : Frag} {mb : Str → Option Value} {X Y : Addr → Prop} {C : Mem} {s s' s'' : Shared} {A : Around} {env : Env} {ρ : List (Str × PV)} {n : Nat}

theorem Sit.ofSub (S : Sit prog w K mb n C Y A env ρ s) (hs : ∀ a, X a → Y a) : Sit prog w K mb n C X A env ρ s :=
  ⟨S.base, S.rm, fun a h => S.bd a (hs a h), fun a h => S.xo a (hs a h), fun a P e => let ⟨h1, h2, r⟩ := S.co a P e; ⟨h1, fun q => h2 (hs a q), r⟩, S.fm.monoX fun a h => .inl (hs a h)⟩
theorem Sit.addX {wr : List Addr} (S : Sit prog w K mb n C X A env ρ s) (e : Ext prog w noX C s s') (hw : ∀ a ∈ wr, s.heap.objs.size ≤ a ∧ a < s'.heap.objs.size ∧ C a = none) : Sit prog w K mb n C (fun a => X a ∨ a ∈ wr) A env ρ s' := by
  have S' := S.ext e
  refine ⟨S'.base, S.rm, fun a h => h.elim (S'.bd a) fun h => (hw a h).2.1, fun a h => h.elim (S.xo a) fun h => S.base.fresh (hw a h).1, fun a P q => ?_, (S.fm.monoX fun a h => h.elim .inl fun h => .inr (hw a h).1).ext e⟩
  refine Mine.el0c (S'.co a P q) fun h1 h2 r => ?_
  exact ⟨h1, fun h => h.elim h2 fun h => (by rw [(hw a h).2.2] at q; cases q), r⟩
theorem AccL.addX {acc : Addr} {l : List PV} {wr : List Addr} (h : AccL X acc l s.heap) (hw : ∀ a ∈ wr, s.heap.objs.size ≤ a) (e : Ext prog w noX C s s') : AccL (fun a => X a ∨ a ∈ wr) acc l s'.heap := by
  (refine Mine.el1b h fun items hl hr => ?_; try clear h)
  exact ⟨items, isList_ext e (fun q => q) hl, (hr.monoX fun a h => h.elim .inl fun h => .inr (hw a h)).ext e.ofNo⟩
theorem AccL.ofSub {acc : Addr} {l : List PV} {h : Heap} (x : AccL Y acc l h) (hs : ∀ a, X a → Y a) : AccL X acc l h := let ⟨items, hl, hr⟩ := x; ⟨items, hl, hr.ofSub hs⟩

theorem CanSt.mono {x : Str} (h : CanSt X env x) (hs : ∀ a, X a → Y a) : CanSt Y env x := h.imp (fun ⟨a, b⟩ => ⟨a, hs _ b⟩) fun ⟨a, c, b, d⟩ => ⟨a, c, b, hs _ d⟩
theorem tests_triv {ifs : List Expr} {cenv : Env} {b : Bool} (h : Do prog w C A (tests ifs cenv) (fun v _ => v = b) s) : Do prog w C A (tests ifs cenv) (fun v s'' => v = b ∧ True) s := h.mono fun _ _ _ q => ⟨q, trivial⟩
theorem tests_nil {cenv : Env} : Do prog w C A (tests [] cenv) (fun v _ => v = true) s := fun s₁ e₁ Q E k => wpAny_tests_nil (k _ _ .refl rfl)
theorem tests_one {c : Expr} {b : Bool} (h : Ts prog w C A env c b s) : Do prog w C A (tests [c] env) (fun v _ => v = b) s := fun s₁ e₁ Q E k => wpAny_tests_one (h s₁ e₁ Q E k)

theorem flat_filter {ps : List PV} {tst : PV → Bool} {f : PV → PV} : (ps.zipIdx.flatMap fun q => if tst q.1 then [f q.1] else []) = (ps.filter tst).map f := by
  have : ∀ (l : List PV) (k : Nat), ((l.zipIdx k).flatMap fun q => if tst q.1 then [f q.1] else []) = (l.filter tst).map f := by
    intro l
    induction l with
    | nil => intro k; rfl
    | cons a l ih =>
      intro k
      rw [List.zipIdx_cons, List.flatMap_cons, ih, List.filter_cons]
      cases tst a <;> simp
  exact this ps 0

/-- a list comprehension with one clause, its parts plain -/
theorem ev_lc {elt iter : Expr} {x : Str} {px : Pos} {ifs : List Expr} {scope : Scope} {pos : Pos} {ps : List PV} (S : Sit prog w K mb n C X A env ρ s) (hap : Apart env) (hs : scopeOkB scope env = true) (hit : EvI prog w C X A env iter ps s)
    (tst : PV → Bool) (f : PV → PV) (hx : scope.names.lookup x = some .local ∨ scope.names.lookup x = some .cell) (hsz : ps.length ≤ sizeLine)
    (hset : ∀ x, foldedSetIterable iter env x = pure x)
    (body : ∀ L cells X' p s', p ∈ ps → Sit prog w K mb n C X' A (compEnvC scope cells L env) ((x, p) :: ρ.filter (isFree scope)) s' → CE scope cells L env X X' s.heap.objs.size → Ext prog w (fun a => s.heap.objs.size ≤ a) C s s' →
      Do prog w C A (tests ifs (compEnvC scope cells L env)) (fun v _ => v = tst p) s' ∧ (tst p = true → Ev prog w C X' A (compEnvC scope cells L env) elt (f p) s')) :
    Ev prog w C X A env (.ListComp elt [⟨.Name x px, iter, ifs, 0⟩] scope pos) (.list ((ps.filter tst).map f)) s := by
  rw [← flat_filter]
  refine Do.mono (ev_listcomp1 S hap hs hit (fun _ s' => Ext prog w (fun a => s.heap.objs.size ≤ a) C s s') (fun _ p => if tst p then [f p] else []) hx ?_ hset ?_ .refl ?_) fun v s' e r => r.1
  · rw [flat_filter, List.length_map]
    exact Nat.le_trans (List.length_filter_le _ _) hsz
  · intro Z i a b hz ha hab
    exact ha.trans (hab.mono hz)
  · intro L cells X' i p s' hp S' hap' hE
    refine Mine.el0b (body L cells X' p s' (List.mem_of_getElem? hp) S' hap' hE) fun h1 h2 => ?_
    refine ⟨tst p, fun _ => True, tests_triv h1, fun hb => ⟨by simp [hb], fun s'' e _ h => h⟩, fun hb => ⟨f p, by simp [hb], fun s'' e _ h => ?_⟩⟩
    intro s₃ e₃ Q E k
    exact h2 hb s₃ (e.trans e₃) _ _ fun v s₄ e₄ r => k v s₄ e₄ ⟨r, h.trans ((e₃.trans e₄).ofNo)⟩

/-- two clauses, the first without tests -/
theorem list_two {elt iter iter2 : Expr} {x x2 : Str} {px px2 : Pos} {ifs2 : List Expr} {scope : Scope} {pos : Pos} {ps : List PV} {R : Result → Shared → Prop} {s₁ s₄ : Shared} {acc L I : Addr} {fp wr : List Addr} {P : Nat → Value → Prop} {St : Nat → Heap → Prop} {cells : List (Str × Addr)} {X' : Addr → Prop}
    (H : CompAt prog w K mb n C X A env ρ scope ps { cls := .type "list", data := .seq #[] } s₁ s₄ acc L I fp wr P St cells X')
    (J : Nat → Nat → Shared → Prop) (hJ : ∀ i, StableJ prog w C s₁.heap.objs.size (J i)) (ps2 : Nat → PV → List PV) (hJn : ∀ i p s, ps[i]? = some p → J i (ps2 i p).length s → J (i + 1) 0 s) (g : Nat → PV → Nat → PV → List PV) (j0 : J 0 0 s₁)
    (hx : scope.names.lookup x = some .local ∨ scope.names.lookup x = some .cell) (hx2 : scope.names.lookup x2 = some .local ∨ scope.names.lookup x2 = some .cell) (hne : (x2 == x) = false)
    (hset2 : ∀ v, foldedSetIterable iter2 (compEnvC scope cells L env) v = pure v)
    (hsz : (ps.zipIdx.flatMap fun q => (ps2 q.2 q.1).zipIdx.flatMap fun r => g q.2 q.1 r.2 r.1).length ≤ sizeLine)
    (hit2 : ∀ i p s', ps[i]? = some p → Sit prog w K mb n C X' A (compEnvC scope cells L env) ((x, p) :: ρ.filter (isFree scope)) s' → EvI prog w C X' A (compEnvC scope cells L env) iter2 (ps2 i p) s')
    (body : ∀ X'' i p j q s', ps[i]? = some p → (ps2 i p)[j]? = some q → (∀ a, X' a → X'' a) → (∀ a, X'' a → X' a ∨ s₁.heap.objs.size ≤ a) → Sit prog w K mb n C X'' A (compEnvC scope cells L env) ((x2, q) :: (x, p) :: ρ.filter (isFree scope)) s' → J i j s' → ∃ (b : Bool) (T : Shared → Prop), Do prog w C A (tests ifs2 (compEnvC scope cells L env)) (fun v s'' => v = b ∧ T s'') s' ∧
      (b = false → g i p j q = [] ∧ ∀ s'', Ext prog w noX C s' s'' → T s'' → J i j s'' → J i (j + 1) s'') ∧
      (b = true → ∃ r, g i p j q = [r] ∧ ∀ s'', Ext prog w noX C s' s'' → T s'' → J i j s'' → Do prog w C A (eval elt (compEnvC scope cells L env)) (fun v s => Rep X'' s.heap v r ∧ J i (j + 1) s) s''))
    (hR : ∀ s', Ext prog w noX C s₁ s' → (∃ m, s'.heap.Ns L m) → AccL X' acc (ps.zipIdx.flatMap fun q => (ps2 q.2 q.1).zipIdx.flatMap fun r => g q.2 q.1 r.2 r.1) s'.heap → J ps.length 0 s' → R (.ok .next) s') :
    codeAny (model prog w) A (.compStart (.ListComp elt [⟨.Name x px, iter, [], 0⟩, ⟨.Name x2 px2, iter2, ifs2, 0⟩] scope pos) 0 (.ref I) (.ref acc) (compEnvC scope cells L env)) R s₄ := by
  have hc := H.canSt hx
  have hc2 := H.canSt hx2
  have hLlo : s₁.heap.objs.size ≤ L := Nat.le_trans H.lo (Nat.le_of_lt H.accL)
  have hNlo : ∀ a, CompN scope L cells L a → s₁.heap.objs.size ≤ a := by
    rintro a (rfl | ⟨h, _⟩)
    · exact hLlo
    · exact Nat.le_trans hLlo h
  have hNacc : ∀ a, CompN scope L cells L a → a ≠ acc := by
    rintro a (rfl | ⟨q, _⟩)
    · exact (Nat.ne_of_lt H.accL).symm
    · exact (Nat.ne_of_lt (Nat.lt_of_lt_of_le H.accL q)).symm
  have hwrlt : ∀ b ∈ wr, b < acc := fun b hb => (H.fpa b (H.W.sub b hb)).1
  have hCa : C acc = none := co_ne H.sit H.accO (by first | exact fun _ _ h => by cases h | exact fun _ h => by cases h | nofun)
  have hZX : ∀ a, (a = acc ∨ CompN scope L cells L a) → X' a := fun a h => (H.hX a).mpr (h.elim (fun h => .inr (.inl h)) fun h => .inr (.inr (.inr h)))
  let G : Nat → PV → List PV := fun i p => (ps2 i p).zipIdx.flatMap fun r => g i p r.2 r.1
  let res : Nat → List PV := fun i => (ps.zipIdx.take i).flatMap fun q => G q.2 q.1
  have hres : ∀ i p, ps[i]? = some p → res (i + 1) = res i ++ G i p := fun i p hp => by
    show (ps.zipIdx.take (i + 1)).flatMap _ = _
    have hz : ps.zipIdx[i]? = some (p, i) := by simp [List.getElem?_zipIdx, hp]
    rw [List.take_add_one, hz]
    simp [res]
  have hresn : res ps.length = ps.zipIdx.flatMap fun q => G q.2 q.1 := by
    show (ps.zipIdx.take ps.length).flatMap _ = _
    rw [List.take_of_length_le (by simp)]
  have hresle : ∀ i, (res i).length ≤ (ps.zipIdx.flatMap fun q => G q.2 q.1).length := fun i => by
    show ((ps.zipIdx.take i).flatMap _).length ≤ _
    conv => rhs; rw [← List.take_append_drop i ps.zipIdx, List.flatMap_append, List.length_append]
    exact Nat.le_add_right _ _
  refine comp_start ?_ (fun Q E q => H.W.self 0 s₄ Q E H.st q)
  refine comp_loop (N := fun a => X' a ∧ a ≠ acc ∧ s₁.heap.objs.size ≤ a) (Z := fun a => a = acc ∨ CompN scope L cells L a) (fun i s' => AccL X' acc (res i) s'.heap ∧ J i 0 s') turn_list20 hc.1
    (fun a h => ⟨.inr (hc.2 a h), hZX a (.inr (hc.2 a h)), hNacc a (hc.2 a h), hNlo a (hc.2 a h)⟩) (fun a h => ⟨(H.hX a).mpr (.inr (.inr (.inl h))), fun q => Nat.lt_irrefl _ (hwrlt acc (q ▸ h)), H.wrlo a h⟩) hZX (fun a h => (H.hX a).mpr (.inr (.inr (.inl h))))
    (fun h => Nat.lt_asymm H.accL (hwrlt L h)) (fun y c h hw => ?_) H.ap (filter_free_none hx) H.W H.st (fun b hb => ⟨?_, (H.fpa b hb).2⟩) H.hP H.sit ⟨⟨#[], ⟨_, H.accO, rfl, 0, rfl⟩, .nil⟩, hJ 0 noX 0 _ _ (fun _ q => q.elim) j0 H.ext⟩ ?_ ?_ ?_
  · rcases H.cellT y c h with ⟨k, _, _, h⟩ | ⟨_, h⟩
    · exact Nat.lt_irrefl _ (Nat.lt_of_lt_of_le (H.outer y c h) (H.wrlo c hw))
    · exact Nat.lt_asymm (Nat.lt_trans (hwrlt c hw) H.accL) h
  · rintro (rfl | rfl | ⟨h, _⟩)
    · exact Nat.lt_irrefl _ (H.fpa _ hb).1
    · exact Nat.lt_asymm H.accL (H.fpa _ hb).1
    · exact Nat.lt_irrefl _ (Nat.lt_trans H.accL (Nat.lt_of_le_of_lt h (H.fpa _ hb).1))
  · rintro i sa sb ⟨⟨items, hl, hr⟩, hj⟩ e
    exact ⟨⟨items, isList_ext e (fun q => q.2.1 rfl) hl, hr.ext (e.mono fun a h => h.1)⟩, hJ i _ 0 sa sb (fun a h => h.2.2) hj e⟩
  · rintro i p sa hp e Sa ⟨ha, hj⟩
    refine ⟨true, fun _ => True, tests_triv tests_nil, (fun q => by cases q), fun _ sb eb _ Sb hb k Q E hk => ?_⟩
    show wpAny _ A (eval iter2 _ >>= _) Q E sb
    refine wpAny_bind (wpAny_mono (hit2 i p sb hp Sb sb .refl (fun it s₂ => wpAny (model prog w) A (runOwn (.compStart (.ListComp elt [⟨.Name x px, iter, [], 0⟩, ⟨.Name x2 px2, iter2, ifs2, 0⟩] scope pos) 1 it (.ref acc) (compEnvC scope cells L env)) (compEnvC scope cells L env) >>= fun _ => k) Q E s₂) E fun it s₂ e₂ hI => ?_)
      (fun v s₂ h₂ => wpAny_bind (wpAny_standAt (wpAny_bind (wpAny_of_eq (hset2 v) (wpAny_bind (wpAny_holding h₂)))))) fun _ _ q => q)
    (refine Mine.el5f hI fun I2 fp2 wr2 P2 St2 hq1 W2 hst2 hwr2 hfp2 hP2 => ?_; try clear hI; obtain rfl := hq1)
    have hw2 : ∀ a ∈ wr2, sb.heap.objs.size ≤ a ∧ a < s₂.heap.objs.size ∧ C a = none := fun a h => ⟨hwr2 a h, (hfp2 a (W2.sub a h)).1, (hfp2 a (W2.sub a h)).2.1⟩
    have S2 : Sit prog w K mb n C (fun a => X' a ∨ a ∈ wr2) A (compEnvC scope cells L env) ((x, p) :: ρ.filter (isFree scope)) s₂ := Sb.addX e₂ hw2
    have hA2 : AccL (fun a => X' a ∨ a ∈ wr2) acc (res i) s₂.heap := hb.1.addX (fun a h => hwr2 a h) e₂
    have hXlt : ∀ a, X' a → a < sb.heap.objs.size := fun a h => Sb.bd a h
    refine wpAny_bind (wpAny_runOwn ?_)
    refine comp_start ?_ (fun Q E q => W2.self 0 s₂ Q E hst2 q)
    have hb2 : ∀ z, (z = acc ∨ CompN scope L cells L z) → z < sb.heap.objs.size := fun z h => hXlt z (hZX z h)
    have hs1b : s₁.heap.objs.size ≤ sb.heap.objs.size := Nat.le_trans H.lo (Nat.le_of_lt (hb2 acc (.inl rfl)))
    have hlenG : (res i).length + (G i p).length ≤ sizeLine := by
      have := hresle (i + 1)
      rw [hres i p hp, List.length_append] at this
      exact Nat.le_trans this hsz
    refine list_inner (done := res i) (Z := fun a => a = acc ∨ CompN scope L cells L a) (X' := fun a => X' a ∨ a ∈ wr2) s₁.heap.objs.size (J i) (hJ i) (g i p) turn_list21 (hc2.1.mono fun a h => .inl h) (fun a h => ⟨.inr (hc2.2 a h), hNacc a (hc2.2 a h), hNlo a (hc2.2 a h)⟩) (.inl rfl) (fun a h => .inl (hZX a h)) (fun a h => .inr h)
      (fun h => Nat.lt_irrefl _ (Nat.lt_of_lt_of_le (hb2 acc (.inl rfl)) (hwr2 acc h))) (fun a h => Nat.le_trans hs1b (hwr2 a h)) H.lo (fun h => Nat.lt_irrefl _ (Nat.lt_of_lt_of_le (hb2 L (.inr (.inl rfl))) (hwr2 L h))) (fun y c hy hw => ?_) H.ap ?_ W2 hst2 (fun b hb => ⟨fun q => (hfp2 b hb).2.2 (hZX b q), (hfp2 b hb).2.1⟩) hP2 S2 hA2 hCa
      (hJ i noX 0 _ _ (fun _ q => q.elim) hb.2 e₂) hlenG (fun j q s' hq S' hj => body _ i p j q s' hp hq (fun a h => .inl h) (fun a h => h.imp id fun h => Nat.le_trans hs1b (hwr2 a h)) S' hj) fun s₃ e₃ S₃ hacc₃ hj₃ => ?_
    · (refine Mine.el1b (Sb.fm.cell y c hy) fun ov hq2 _ => ?_; obtain ⟨o, ho, _⟩ := hq2)
      exact Nat.lt_irrefl _ (Nat.lt_of_lt_of_le (Heap.lt_size ho) (hwr2 c hw))
    · rw [List.lookup_cons, hne]; exact filter_free_none hx2
    · refine hk s₃ ((e₂.ofNo).freshZ e₃ fun a h => h.elim .inl fun h => .inr (hwr2 a h)) (S₃.ofSub fun a h => .inl h) ⟨?_, hJn i p s₃ hp hj₃⟩
      rw [hres i p hp]
      exact hacc₃.ofSub fun a h => .inl h
  · rintro sa e Sa ⟨h1, h2⟩
    rw [hresn] at h1
    refine hR sa (H.ext.fresh e ?_) ?_ h1 h2
    · rintro a ((rfl | h) | h)
      · exact H.lo
      · exact hNlo a h
      · exact H.wrlo a h
    · refine Mine.el1b Sa.fm.ns fun m hn _ => ?_
      exact ⟨m, hn⟩
/-! what a comprehension makes of strs, of ints -/
noncomputable def onS (f : Str → PV) : PV → PV
  | .str x => f x
  | p => p
noncomputable def onI (f : Int → PV) : PV → PV
  | .int x => f x
  | p => p
noncomputable def onB (f : Str → Bool) : PV → Bool
  | .str x => f x
  | _ => false
theorem map_onS (f : Str → PV) (l : List Str) : (l.map PV.str).map (onS f) = l.map f := List.map_map.trans rfl
theorem map_onI (f : Int → PV) (l : List Int) : (l.map PV.int).map (onI f) = l.map f := List.map_map.trans rfl
end Mine
end
section
open PySem PySem.W PySem.Calls PyProof.Rows
set_option Elab.async false
set_option maxRecDepth 100000
set_option linter.unusedVariables false
namespace Mine
variable {prog : Program} {w : World} {K : Frag} {mb : Str → Option Value} {X Y : Addr → Prop} {C : Mem} {s s' s'' : Shared} {A : Around} {env : Env} {ρ : List (Str × PV)} {n : Nat}

/-- what a comprehension comes to, however it is used -/
noncomputable def CompSpec (prog : Program) (w : World) (C : Mem) (X : Addr → Prop) (A : Around) (env : Env) (e : Expr) (scope : Scope) (newAcc : Sem Value) (iter : Expr) (R : Addr → Addr → Shared → Prop) (s : Shared) : Prop :=
  ∀ s₁, Ext prog w noX C s s₁ → ∀ pos use (Q : Value → Shared → Prop) (E : Value → Shared → Prop),
    (∀ acc L s₅, Ext prog w noX C s₁ s₅ → (∃ m, s₅.heap.Ns L m) → s₁.heap.objs.size ≤ L → L < s₅.heap.objs.size → C L = none → R acc L s₅ → compPost (model prog w) A E use Q (.ref acc) L (.ok .next) s₅) →
    wpAny (model prog w) A (comprehension e scope env pos newAcc false (eval iter env) use) Q E s₁

noncomputable def RList (prog : Program) (w : World) (X : Addr → Prop) (res : List PV) (J : Shared → Prop) (acc L : Addr) (s : Shared) : Prop := Rep (fun a => X a ∨ a = L) s.heap (.ref acc) (.list res) ∧ J s

theorem spec_list2 {elt iter iter2 : Expr} {x x2 : Str} {px px2 : Pos} {ifs2 : List Expr} {scope : Scope} {pos : Pos} {ps : List PV} (S : Sit prog w K mb n C X A env ρ s) (hap : Apart env) (hs : scopeOkB scope env = true) (hit : EvI prog w C X A env iter ps s)
    (J : Nat → Nat → Shared → Prop) (ps2 : Nat → PV → List PV) (hJn : ∀ i p s, ps[i]? = some p → J i (ps2 i p).length s → J (i + 1) 0 s) (g : Nat → PV → Nat → PV → List PV)
    (hx : scope.names.lookup x = some .local ∨ scope.names.lookup x = some .cell) (hx2 : scope.names.lookup x2 = some .local ∨ scope.names.lookup x2 = some .cell) (hne : (x2 == x) = false)
    (hset : ∀ v, foldedSetIterable iter env v = pure v) (hset2 : ∀ cells L v, foldedSetIterable iter2 (compEnvC scope cells L env) v = pure v)
    (hsz : (ps.zipIdx.flatMap fun q => (ps2 q.2 q.1).zipIdx.flatMap fun r => g q.2 q.1 r.2 r.1).length ≤ sizeLine)
    (hJ : ∀ i, StableJ prog w C s.heap.objs.size (J i)) (j0 : J 0 0 s)
    (hit2 : ∀ L cells X' i p s', ps[i]? = some p → Sit prog w K mb n C X' A (compEnvC scope cells L env) ((x, p) :: ρ.filter (isFree scope)) s' → CE scope cells L env X X' s.heap.objs.size → EvI prog w C X' A (compEnvC scope cells L env) iter2 (ps2 i p) s')
    (body : ∀ L cells X' i p j q s', ps[i]? = some p → (ps2 i p)[j]? = some q → Sit prog w K mb n C X' A (compEnvC scope cells L env) ((x2, q) :: (x, p) :: ρ.filter (isFree scope)) s' → CE scope cells L env X X' s.heap.objs.size → J i j s' → ∃ (b : Bool) (T : Shared → Prop), Do prog w C A (tests ifs2 (compEnvC scope cells L env)) (fun v s'' => v = b ∧ T s'') s' ∧
      (b = false → g i p j q = [] ∧ ∀ s'', Ext prog w noX C s' s'' → T s'' → J i j s'' → J i (j + 1) s'') ∧
      (b = true → ∃ r, g i p j q = [r] ∧ ∀ s'', Ext prog w noX C s' s'' → T s'' → J i j s'' → Do prog w C A (eval elt (compEnvC scope cells L env)) (fun v s => Rep X' s.heap v r ∧ J i (j + 1) s) s'')) :
    CompSpec prog w C X A env (.ListComp elt [⟨.Name x px, iter, [], 0⟩, ⟨.Name x2 px2, iter2, ifs2, 0⟩] scope pos) scope (newList []) iter (RList prog w X (ps.zipIdx.flatMap fun q => (ps2 q.2 q.1).zipIdx.flatMap fun r => g q.2 q.1 r.2 r.1) (J ps.length 0)) s := by
  intro s₁ e₁ pos' use Q E k
  have S₁ := S.ext e₁
  have hJ₁ : ∀ i, StableJ prog w C s₁.heap.objs.size (J i) := fun i' Z i a b hz => hJ i' Z i a b fun c hc => Nat.le_trans e₁.size (hz c hc)
  refine comp_core (g := ⟨.Name x px, iter, [], 0⟩) (gs := [⟨.Name x2 px2, iter2, ifs2, 0⟩]) (ps := ps) (accObj := { cls := .type "list", data := .seq #[] }) rfl hset S₁ hap (scopeOk_of hs) (fun s₂ e₂ => hit s₂ (e₁.trans e₂)) (fun s Q E q => wpAny_newObj_type q (by show ([] : List Value).toArray.size ≤ sizeLine; decide)) rfl ?_
  intro s₄ acc L I fp wr P St cells X' H
  refine list_two H J hJ₁ ps2 hJn g (hJ 0 noX 0 _ _ (fun _ q => q.elim) j0 e₁) hx hx2 hne (hset2 cells L) hsz (fun i p s' hp S' => hit2 L cells X' i p s' hp S' (H.ce e₁.size)) (fun X'' i p j q s' hp hq hu hn S' => body L cells X'' i p j q s' hp hq S' ⟨H.ap, H.cellF, fun a h => hu a ((H.ce e₁.size).up a h), fun a h => (hn a h).elim ((H.ce e₁.size).nw a) fun h => .inr (Nat.le_trans e₁.size h), (H.ce e₁.size).ch⟩) fun s₅ e₅ hns hacc hj => ?_
  refine k acc L s₅ e₅ hns (Nat.le_trans H.lo (Nat.le_of_lt H.accL)) (let ⟨m, hn⟩ := hns; hn.lt) H.sit.fm.cl ⟨?_, hj⟩
  (refine Mine.el1b hacc fun items hl hr => ?_; try clear hacc)
  refine .list (fun q => ?_) hl (hr.ofSub fun a h => (H.hX a).mpr (h.elim .inl fun h => .inr (.inr (.inr (.inl h)))))
  rcases q with q | q
  · exact Nat.lt_irrefl _ (Nat.lt_of_lt_of_le (H.sub _ q) H.lo)
  · exact Nat.ne_of_lt H.accL q

/-- as an expression -/
theorem ev_of_spec {elt iter : Expr} {tgt : Expr} {ifs : List Expr} {gs : List Comprehension} {scope : Scope} {pos : Pos} {res : List PV} {J : Shared → Prop}
    (h : CompSpec prog w C X A env (.ListComp elt (⟨tgt, iter, ifs, 0⟩ :: gs) scope pos) scope (newList []) iter (RList prog w X res J) s)
    (hJ : ∀ (Z : Addr → Prop) s₁ s₂, (∀ a, Z a → s.heap.objs.size ≤ a) → J s₁ → Ext prog w Z C s₁ s₂ → J s₂) :
    Do prog w C A (eval (.ListComp elt (⟨tgt, iter, ifs, 0⟩ :: gs) scope pos) env) (fun v s' => Rep X s'.heap v (.list res) ∧ J s') s := by
  intro s₁ e₁ Q E k
  show wpAny _ A (comprehension (.ListComp elt (⟨tgt, iter, ifs, 0⟩ :: gs) scope pos) scope env _ (newList []) false (eval iter env)) Q E s₁
  refine h s₁ e₁ _ none Q E fun acc L s₅ e₅ hns hlo hlt hCL hR => ?_
  (refine Mine.el1a hns fun m hn => ?_; try clear hns)
  refine ⟨m, hn, fun h' hs' => ?_⟩
  have eL : Ext prog w (fun a => a = L) C s₅ { s₅ with heap := h' } := Ext.sameBut (t := s₅.toks) hs' rfl
  refine k _ _ (e₅.fresh eL fun a h => h ▸ hlo) ⟨(hR.1.ext (eL.mono fun a h => .inr h)).ofSub fun a h => .inl h, hJ _ _ _ (fun a h => ?_) hR.2 eL⟩
  rw [h]; exact Nat.le_trans e₁.size hlo

/-- stored into a local name of the frame -/
theorem x_assign_comp {y : Str} {py pos' : Pos} {rest : List Stmt} {elt iter : Expr} {tgt : Expr} {ifs : List Expr} {gs : List Comprehension} {scope : Scope} {pos : Pos} {res : List PV} {J : Shared → Prop} {Q : Flow → Shared → Prop} {E : Value → Shared → Prop}
    (S : Sit prog w K mb n C X A env ρ s) (O : Own X env) (hky : KindSt env y)
    (h : CompSpec prog w C X A env (.ListComp elt (⟨tgt, iter, ifs, 0⟩ :: gs) scope pos) scope (newList []) iter (RList prog w X res J) s)
    (hsw : swapsWith (.ListComp elt (⟨tgt, iter, ifs, 0⟩ :: gs) scope pos) (some (.Name y py)) pos'.line env = pure true)
    (hJ : ∀ (Z : Addr → Prop) s₁ s₂, (∀ a, Z a → s.heap.objs.size ≤ a ∨ FrO env a) → J s₁ → Ext prog w Z C s₁ s₂ → J s₂)
    (k : ∀ s', Ext prog w (FrO env) C s s' → Sit prog w K mb n C X A env ((y, .list res) :: ρ) s' → J s' → wpAny (model prog w) A (execs rest env) Q E s') :
    wpAny (model prog w) A (execs (.Assign [.Name y py] (.ListComp elt (⟨tgt, iter, ifs, 0⟩ :: gs) scope pos) pos' :: rest) env) Q E s := by
  have hc := O.can hky
  have ha := O.ap
  refine wpAny_execs_cons ?_; try k_fold
  rw [exec_Assign_Name_used _ _ _ _ hsw]
  refine wpAny_bind (wpAny_standAt (wpAny_bind ?_))
  show wpAny _ A (do let _ ← comprehension (.ListComp elt (⟨tgt, iter, ifs, 0⟩ :: gs) scope pos) scope env _ (newList []) false (eval iter env) (some (assign (.Name y py) env))) _ _ s
  refine wpAny_bind (wpAny_mono (h s .refl _ (some (assign (.Name y py) env)) (fun _ s' => wpAny (model prog w) A (execs rest env) Q E s') E fun acc L s₅ e₅ hns hlo hlt hCL hR => ?_) (fun _ s' q => wpAny_pure (wpAny_pure q)) fun _ _ q => q)
  have S₅ : Sit prog w K mb n C (fun a => X a ∨ a ∈ [L]) A env ρ s₅ := S.addX e₅ (wr := [L]) fun a h => by
    simp only [List.mem_singleton] at h; subst h; exact ⟨hlo, hlt, hCL⟩
  have hr : Rep (fun a => X a ∨ a ∈ [L]) s₅.heap (.ref acc) (.list res) := hR.1.ofSub fun a h => h.imp id fun h => by simpa using h
  refine assign_var S₅ (hc.mono fun a h => .inl h) ha hr fun s₆ e₆ S₆ => ?_; try k_fold
  (refine Mine.el1a hns fun m hn => ?_; try clear hns)
  have hLst : ¬ StX env y L := fun q => Nat.lt_irrefl _ (Nat.lt_of_lt_of_le (S.bd L (hc.sub L q)) hlo)
  refine ⟨m, ns_ext e₆ hLst hCL hn, fun h' hs' => ?_⟩
  have eL : Ext prog w (fun a => a = L) C s₆ { s₆ with heap := h' } := Ext.sameBut (t := s₆.toks) hs' rfl
  have hloc : ¬ env.locals = L := fun q => by
    refine Mine.el1b S.fm.ns fun m hn _ => ?_; try k_fold
    exact Nat.lt_irrefl _ (Nat.lt_of_lt_of_le hn.lt (q ▸ hlo))
  have hcell : ∀ x c, env.cells.lookup x = some c → ¬ c = L := fun x c hx q => by
    (refine Mine.el1b (S.fm.cell x c hx) fun ov hq1 _ => ?_; obtain ⟨o, ho, _⟩ := hq1)
    exact Nat.lt_irrefl _ (Nat.lt_of_lt_of_le (Heap.lt_size ho) (q ▸ hlo))
  have S₇ := (S₆.extZ eL (fun a h => .inr (by simp [h])) hloc hcell).ofSub (X := X) fun a h => .inl h
  refine k _ ?_ S₇ (hJ (fun a => a = L) _ _ (fun a h => .inl (h ▸ hlo)) (hJ (StX env y) _ _ (fun a h => .inr (stX_frO a h)) hR.2 e₆) eL)
  exact ((e₅.ofNo (X := FrO env)).trans (e₆.mono stX_frO)).freshZ eL fun a h => .inr (h ▸ hlo)
end Mine
end
section
open PySem PySem.W PySem.Calls PyProof.Rows
set_option Elab.async false
set_option maxRecDepth 100000
set_option linter.unusedVariables false
namespace Mine
variable {prog : Program} {w : World} {K : Frag} {mb : Str → Option Value} {X Y : Addr → Prop} {C : Mem} {s s' s'' : Shared} {A : Around} {env : Env} {ρ : List (Str × PV)} {n : Nat}

/-- the frame of a call -/
noncomputable def fEnv (fd : FuncData) (a L : Addr) : Env := newEnv fd.scope L fd.globals (cellsFrom (L + 1) fd.scope.names fd.closure) (fd.qualname ++ ".<locals>.") (some a) fd.code none fd.builtins

theorem bind_all {env' : Env} {A' : Around} (f : Str × Value → PUnit → Sem (ForInStep PUnit)) (hf : ∀ n v u, f (n, v) u = (do storeName env' n v; pure (.yield ⟨⟩))) (O : Own X env') :
    ∀ (names : List Str) (vs : List Value) (ps : List PV) (ρ' : List (Str × PV)) (s : Shared) (Q : PUnit → Shared → Prop) (E : Value → Shared → Prop), Sit prog w K mb n C X A' env' ρ' s → Reps X s.heap vs ps → names.length = vs.length → (∀ x ∈ names, KindSt env' x) →
      (∀ s', Ext prog w (FrO env') C s s' → Sit prog w K mb n C X A' env' ((names.zip ps).reverse ++ ρ') s' → Q ⟨⟩ s') → wpAny (model prog w) A' (forIn (names.zip vs) ⟨⟩ f) Q E s  := by
  intro names
  induction names with
  | nil => intro vs ps ρ' s Q E S r hl hk h; rw [List.zip_nil_left, List.forIn_nil]; exact wpAny_pure (h s .refl S)
  | cons x names ih =>
    intro vs ps ρ' s Q E S r hl hk h
    cases vs with
    | nil => simp at hl
    | cons v vs =>
      cases r with
      | cons r rs =>
        rw [List.zip_cons_cons, List.forIn_cons, hf]
        refine wpAny_bind (wpAny_bind (store_var S (O.can (hk x (.head _))) O.ap r fun s₁ e₁ S₁ => wpAny_pure ?_))
        have e₁' := e₁.mono (stX_frO (env := env') (x := x))
        refine ih vs _ ((x, _) :: ρ') s₁ Q E S₁ (rs.ext (e₁'.mono O.own)) (by simpa using hl) (fun y hy => hk y (.tail _ hy)) fun s₂ e₂ S₂ => h s₂ (e₁'.trans e₂) ?_
        rw [List.zip_cons_cons, List.reverse_cons, List.append_assoc]
        exact S₂

theorem newFrame {fd : FuncData} {a : Addr} {names : List Str} {vs : List Value} {ps : List PV} {A' : Around} {E : Value → Shared → Prop} {Q : Env → Shared → Prop} (S : Sit prog w K mb n C X A env ρ s) (hA' : Rm n A')
    (hk : fd.scope.kind = .function) (hg : fd.globals = mainGlobals) (hb : fd.builtins = builtinsNs) (hclo : fd.closure = []) (hr : Reps X s.heap vs ps) (hl : names.length = vs.length)
    (hkind : ∀ L, ∀ x ∈ names, KindSt (fEnv fd a L) x)
    (hQ : ∀ L s₁ X', Ext prog w noX C s s₁ → s.heap.objs.size ≤ L → Own X' (fEnv fd a L) → (∀ b, X b → X' b) → (∀ b, FrO (fEnv fd a L) b → s.heap.objs.size ≤ b) → (∀ A'', Rm n A'' → Sit prog w K mb n C X' A'' (fEnv fd a L) (names.zip ps).reverse s₁) → Q (fEnv fd a L) s₁) :
    wpAny (model prog w) A' (newFunctionEnv fd.scope fd.globals fd.closure (names.zip vs) (fd.qualname ++ ".<locals>.") (some a) fd.code none fd.builtins) Q E s := by
  simp only [newFunctionEnv, Option.isSome_none, Bool.false_eq_true, if_false]
  refine wpAny_bind (wpAny_alloc ?_)
  refine wpAny_bind (wpAny_layCells _ (fun name kind cells => by cases hkc : kind == NameKind.cell <;> simp [hkc]) _ _ _ _ ?_)
  rw [show ({ s with heap := s.heap.push { cls := .type "frame", data := .dict #[] } } : Shared).heap.objs.size = s.heap.objs.size + 1 from Heap.size_push ..]
  let env' := fEnv fd a s.heap.objs.size
  let X' : Addr → Prop := fun b => X b ∨ FrO env' b
  have hkeep : ∀ b o, s.heap.get? b = some o → (pushCells (s.heap.push { cls := .type "frame", data := .dict #[] }) fd.scope.names).get? b = some o :=
    fun b o e => pushCells_keeps _ _ _ _ (Heap.get?_push_of_some _ e)
  have hsize : s.heap.objs.size + 1 ≤ (pushCells (s.heap.push { cls := .type "frame", data := .dict #[] }) fd.scope.names).objs.size := by
    have := pushCells_size fd.scope.names (s.heap.push { cls := .type "frame", data := .dict #[] })
    rwa [Heap.size_push] at this
  have hcT : ∀ x c, env'.cells.lookup x = some c → s.heap.objs.size + 1 ≤ c ∧ (pushCells (s.heap.push { cls := .type "frame", data := .dict #[] }) fd.scope.names).IsCell c none := fun x c e => by
    have e' : (cellsFrom (s.heap.objs.size + 1) fd.scope.names fd.closure).lookup x = some c := e
    rw [hclo] at e'
    rcases cells_spec fd.scope.names (s.heap.push { cls := .type "frame", data := .dict #[] }) [] x c (by rw [Heap.size_push]; exact e') with h | ⟨h1, h2, h3⟩
    · cases h
    · rw [Heap.size_push] at h2; exact ⟨h2, h3⟩
  have hlo : ∀ b, FrO env' b → s.heap.objs.size ≤ b := by
    rintro b (rfl | ⟨x, _, hc⟩)
    · exact Nat.le_refl _
    · exact Nat.le_trans (Nat.le_succ _) (hcT x b hc).1
  have hX' : ∀ b, X' b → X b ∨ s.heap.objs.size ≤ b := fun b h => h.imp id (hlo b)
  have e₁ : Ext prog w noX C s { s with heap := pushCells (s.heap.push { cls := .type "frame", data := .dict #[] }) fd.scope.names } :=
    .ofKeep (Nat.le_trans (Nat.le_succ _) hsize) hkeep rfl rfl
  have ap : Apart env' := fun x y c hx hy => by
    have hx' : (cellsFrom (s.heap.objs.size + 1) fd.scope.names fd.closure).lookup x = some c := hx
    have hy' : (cellsFrom (s.heap.objs.size + 1) fd.scope.names fd.closure).lookup y = some c := hy
    rw [hclo] at hx' hy'
    exact cells_inj _ _ [] (fun _ _ q => nomatch q) (fun _ _ _ q => nomatch q) x y c hx' hy'
  have O : Own X' env' := ⟨fun b h => .inr h, ap⟩
  have S₁ : ∀ A'', Rm n A'' → Sit prog w K mb n C X' A'' env' [] { s with heap := pushCells (s.heap.push { cls := .type "frame", data := .dict #[] }) fd.scope.names } := fun A'' hA'' => by
    refine ⟨S.base.keepsF fun b o e _ => hkeep b o e, hA'', ?_, fun b h => ?_, fun b P q => ?_, hk, hg, hb, co_new S (Nat.le_refl _), ⟨fun _ => none, ?_, fun x p q => by cases q⟩, fun x c q => ⟨none, (hcT x c q).2, fun p q => by cases q⟩⟩
    · rintro b (h | rfl | ⟨x, _, hc⟩)
      · exact Nat.lt_of_lt_of_le (S.bd b h) (Nat.le_trans (Nat.le_succ _) hsize)
      · exact hsize
      · refine Mine.el1b ((hcT x b hc).2) fun o ho _ => ?_
        exact Heap.lt_size ho
    · exact h.elim (S.xo b) fun h => S.base.fresh (hlo b h)
    · obtain ⟨h1, h2, o, es, ho, hm⟩ := S.co b P q
      exact ⟨h1, fun h => h.elim h2 fun h => absurd (Heap.lt_size ho) (Nat.not_lt.mpr (hlo b h)), o, es, hkeep _ _ ho, hm⟩
    · exact (Heap.Ns.new s.heap (.type "frame")).keeps (pushCells_keeps _ _)
  refine wpAny_bind ?_
  refine bind_all (n := n) (K := K) (mb := mb) (env' := env') _ (fun _ _ _ => rfl) O names vs ps [] _ _ _ (S₁ A' hA') ((hr.monoX hX').keeps hkeep) hl (hkind _) fun s₂ e₂ S₂ => wpAny_pure (hQ s.heap.objs.size s₂ X' (e₁.fresh e₂ hlo) (Nat.le_refl _) O (fun b h => .inl h) hlo fun A'' hA'' => ?_)
  rw [List.append_nil] at S₂
  exact ⟨S₂.base, hA'', S₂.bd, S₂.xo, S₂.co, S₂.fm⟩

/-- a def of the text, called by its places -/
theorem ks_nil : ∀ x ∈ ([] : List Str), KindSt env x := fun _ h => nomatch h
theorem ks_cons {x : Str} {xs : List Str} (h : KindSt env x) (t : ∀ y ∈ xs, KindSt env y) : ∀ y ∈ x :: xs, KindSt env y := fun y hy => (List.mem_cons.mp hy).elim (fun e => e ▸ h) (t y)
structure FnAt (K : Frag) (a : Addr) (fd : FuncData) (names : List Str) (body : List Stmt) : Prop where
  at_ : ∃ o, K.lookup a = some o ∧ o.data = .func fd
  code : ∃ c oc vs t, fd.code = .ref c ∧ K.lookup c = some oc ∧ oc.data = .fields vs ∧ vs[1]? = some (.str fd.qualname t)
  body : fd.body = .stmts body
  kind : fd.scope.kind = .function
  co : fd.scope.isCoroutine = false
  gen : fd.scope.isGenerator = false
  globals : fd.globals = mainGlobals
  builtins : fd.builtins = builtinsNs
  closure : fd.closure = []
  kinds : ∀ L, ∀ x ∈ names, KindSt (fEnv fd a L) x

theorem call_fn' {a : Addr} {fd : FuncData} {names : List Str} {body : List Stmt} {vs vs' : List Value} {ps : List PV} {R : Value → Shared → Prop} (S : Sit prog w K mb (n + 1) C X A env ρ s) (F : FnAt K a fd names body) (hr : Reps X s.heap vs' ps) (hl : names.length = vs'.length)
    (hbind : ∀ (s : Shared) (Q : List (Str × Value) → Shared → Prop) (E : Value → Shared → Prop), Base K mb s.heap → Q (names.zip vs') s → wpAny (model prog w) A.in1 (bindArgs fd ⟨vs, []⟩) Q E s)
    (h : ∀ s₀ L s₁ X', Ext prog w noX C s s₀ → Ext prog w noX C s₀ s₁ → Own X' (fEnv fd a L) → (∀ b, X b → X' b) → (∀ b, FrO (fEnv fd a L) b → s₀.heap.objs.size ≤ b) → Sit prog w K mb n C X' (A.deeper (fEnv fd a L)) (fEnv fd a L) (names.zip ps).reverse s₁ →
      wpAny (model prog w) (A.deeper (fEnv fd a L)) (execs body (fEnv fd a L)) (fun f s' => ∀ v, v = (match f with | .ret v => v | _ => .none) → Ext prog w (FrO (fEnv fd a L)) C s₁ s' ∧ (Ext prog w noX C s₀ s' → R v s')) (fun _ _ => False) s₁) :
    Do prog w C A (call (.ref a) vs) R s := by
  intro s₁ e₁ Q E k
  have S₁ := S.ext e₁
  refine Mine.el1b F.at_ fun o ho hd => ?_
  refine Mine.el4d F.code fun c oc fs t hc1 hc2 hc3 hc4 => ?_
  refine wpAny_call (codeAny_call_function S.rm.room (S₁.base.frag _ _ ho) hd F.co F.gen F.body ⟨c, oc, fs, t, hc1, S₁.base.frag _ _ hc2, hc3, hc4⟩ ?_)
  have S₁' : Sit prog w K mb n C X A.in1 env ρ s₁ := ⟨S₁.base, S.rm.in1, S₁.bd, S₁.xo, S₁.co, S₁.fm⟩
  refine hbind _ _ _ S₁.base (newFrame S₁' S.rm.in1 F.kind F.globals F.builtins F.closure (hr.ext e₁.ofNo) hl F.kinds fun L s₂ X' e₂ hL O hXX hlo S₂ => ⟨(S₂ A.in1 S.rm.in1).base.noLimit, codeAny_func ?_⟩)
  refine wpAny_mono (h s₁ L s₂ X' e₁ e₂ O hXX hlo (S₂ _ S.rm.deeper)) (fun f s' hf => ?_) fun _ _ x => x.elim
  refine Mine.el0b (hf _ rfl) fun e₃ r => ?_
  have e := e₂.fresh e₃ hlo
  exact k _ _ e (r e)
theorem call_fn {a : Addr} {fd : FuncData} {names : List Str} {body : List Stmt} {vs : List Value} {ps : List PV} {R : Value → Shared → Prop} (S : Sit prog w K mb (n + 1) C X A env ρ s) (F : FnAt K a fd names body) (hr : Reps X s.heap vs ps) (hl : names.length = vs.length)
    (hbind : bindArgs fd ⟨vs, []⟩ = pure (names.zip vs))
    (h : ∀ s₀ L s₁ X', Ext prog w noX C s s₀ → Ext prog w noX C s₀ s₁ → Own X' (fEnv fd a L) → (∀ b, X b → X' b) → (∀ b, FrO (fEnv fd a L) b → s₀.heap.objs.size ≤ b) → Sit prog w K mb n C X' (A.deeper (fEnv fd a L)) (fEnv fd a L) (names.zip ps).reverse s₁ →
      wpAny (model prog w) (A.deeper (fEnv fd a L)) (execs body (fEnv fd a L)) (fun f s' => ∀ v, v = (match f with | .ret v => v | _ => .none) → Ext prog w (FrO (fEnv fd a L)) C s₁ s' ∧ (Ext prog w noX C s₀ s' → R v s')) (fun _ _ => False) s₁) :
    Do prog w C A (call (.ref a) vs) R s :=
  call_fn' S F hr hl (fun s Q E _ hq => by rw [hbind]; exact wpAny_pure hq) h
end Mine
end
section
open PySem PySem.W PySem.Calls PyProof.Rows
set_option Elab.async false
set_option maxRecDepth 100000
set_option linter.unusedVariables false
namespace Mine
variable {prog : Program} {w : World} {K : Frag} {mb : Str → Option Value} {X Y : Addr → Prop} {C : Mem} {s s' s'' : Shared} {A : Around} {env : Env} {ρ : List (Str × PV)} {n : Nat}

/-- a frame with fewer names known -/
theorem Sit.sub {ρ' : List (Str × PV)} (S : Sit prog w K mb n C X A env ρ s) (h : ∀ x p, ρ'.lookup x = some p → ρ.lookup x = some p) : Sit prog w K mb n C X A env ρ' s := by
  refine ⟨S.base, S.rm, S.bd, S.xo, S.co, S.fm.kind, S.fm.globals, S.fm.builtins, S.fm.cl, ?_, fun y c e => ?_⟩
  · refine Mine.el1b S.fm.ns fun m hn hv => ?_
    exact ⟨m, hn, fun y q e k => hv y q (h y q e) k⟩
  · refine Mine.el1b (S.fm.cell y c e) fun ov hi hv => ?_
    exact ⟨ov, hi, fun q e k => hv q (h y q e) k⟩
theorem Own.mono (O : Own X env) (h : ∀ a, X a → Y a) : Own Y env := ⟨fun a q => h a (O.own a q), O.ap⟩

/-- what a loop carries along, besides the frame -/
noncomputable def LoopJ (prog : Program) (w : World) (C : Mem) (env : Env) (X : Addr → Prop) (lo : Nat) (J : (Addr → Prop) → Nat → Shared → Prop) : Prop :=
  (∀ X' i s s' Z, (∀ a, X a → X' a) → (∀ a, Z a → X' a ∧ (FrO env a ∨ lo ≤ a)) → J X' i s → Ext prog w Z C s s' → J X' i s')

theorem for_loop {x : Str} {px : Pos} {body : List Stmt} {R : Result → Shared → Prop} {it : Value} {ps : List PV} {Z : Addr → Prop} {s₀ : Shared} (S₀ : Sit prog w K mb n C X A env ρ s₀) (e₀ : Ext prog w noX C s₀ s) (hI : Iter prog w C X A s₀.heap.objs.size ps it s) (O : Own X env) (hk : KindSt env x)
    (hZ : ∀ a, FrO env a → Z a) (hZX : ∀ a, Z a → X a) (ρs : Nat → List (Str × PV)) (J : (Addr → Prop) → Nat → Shared → Prop) (hJ : LoopJ prog w C env X s₀.heap.objs.size J)
    (h0 : ∀ y p, (ρs 0).lookup y = some p → ρ.lookup y = some p) (j0 : ∀ X', (∀ a, X a → X' a) → (∀ a, X' a → X a ∨ s₀.heap.objs.size ≤ a) → J X' 0 s₀)
    (hbody : ∀ X' i p s', ps[i]? = some p → (∀ a, X a → X' a) → Own X' env → Ext prog w Z C s₀ s' → Sit prog w K mb n C X' A env ((x, p) :: ρs i) s' → J X' i s' →
      wpAny (model prog w) A (execs body env) (fun f s'' => Ext prog w Z C s' s'' ∧ (match f with | .next | .cont => Sit prog w K mb n C X' A env (ρs (i + 1)) s'' ∧ J X' (i + 1) s'' | .brk => False | .ret v => Ext prog w Z C s₀ s'' → R (.ok (.ret v)) s'')) (fun _ _ => False) s')
    (hend : ∀ X' s', (∀ a, X a → X' a) → Own X' env → Ext prog w Z C s₀ s' → Sit prog w K mb n C X' A env (ρs ps.length) s' → J X' ps.length s' → R (.ok .next) s') :
    codeAny (model prog w) A (.forLoop (.Name x px) it body [] env) R s := by
  (refine Mine.el5f hI fun I fp wr P St hq1 W hst hwr hfp hP => ?_; try clear hI; obtain rfl := hq1)
  let X' : Addr → Prop := fun a => X a ∨ a ∈ wr
  have hXX : ∀ a, X a → X' a := fun a h => .inl h
  have hX'lo : ∀ a, X' a → X a ∨ s₀.heap.objs.size ≤ a := fun a h => h.imp id (hwr a)
  have O' : Own X' env := O.mono hXX
  have hw : ∀ a ∈ wr, s₀.heap.objs.size ≤ a ∧ a < s.heap.objs.size ∧ C a = none := fun a h => ⟨hwr a h, (hfp a (W.sub a h)).1, (hfp a (W.sub a h)).2.1⟩
  have hlw : env.locals ∉ wr := fun h => Nat.lt_irrefl _ (Nat.lt_of_lt_of_le (by (refine Mine.el1b S₀.fm.ns fun m hq2 _ => ?_; obtain ⟨o, es, ep, ho, _⟩ := hq2); exact Heap.lt_size ho) (hwr _ h))
  have hcw : ∀ x c, env.cells.lookup x = some c → c ∉ wr := fun y c hc h => by
    (refine Mine.el1b (S₀.fm.cell y c hc) fun ov hq3 _ => ?_; obtain ⟨o, ho, _⟩ := hq3)
    exact Nat.lt_irrefl _ (Nat.lt_of_lt_of_le (Heap.lt_size ho) (hwr _ h))
  have hwN : ∀ a, a ∈ wr → X' a ∧ (FrO env a ∨ s₀.heap.objs.size ≤ a) := fun a h => ⟨.inr h, .inr (hwr a h)⟩
  have hfpZ : ∀ b ∈ fp, ¬ Z b ∧ C b = none := fun b hb => ⟨fun q => (hfp b hb).2.2 (hZX b q), (hfp b hb).2.1⟩
  have jn : ∀ {i sa sb}, J X' i sa → Ext prog w noX C sa sb → J X' i sb := fun h e => hJ X' _ _ _ noX hXX (fun _ q => q.elim) h e
  have S : Sit prog w K mb n C X' A env (ρs 0) s := (S₀.addX e₀ hw).sub h0
  have hZw : ∀ a, (Z a ∨ a ∈ wr) → X' a := fun a h => h.imp (hZX a) id
  have hide : ∀ {sa}, Ext prog w (fun a => Z a ∨ a ∈ wr) C s sa → Ext prog w Z C s₀ sa := fun e => e₀.ofNo.freshZ e fun a h => h.imp id (hwr a)
  refine codeAny_forLoop (fun k s' => ∃ i, i ≤ ps.length ∧ k = ps.length + 1 - i ∧ Ext prog w (fun a => Z a ∨ a ∈ wr) C s s' ∧ Sit prog w K mb n C X' A env (ρs i) s' ∧ St i s'.heap ∧ J X' i s') ?_ (ps.length + 1)
    ⟨0, Nat.zero_le _, rfl, .refl, S, hst, jn (j0 X' hXX hX'lo) e₀⟩
  rintro k s₁ ⟨i, hi, rfl, e₁, S₁, st₁, inv₁⟩
  by_cases hlt : i < ps.length
  · refine with_size (W.item i s₁ _ _ hlt st₁ fun v h' tk hPv st₂ hk' hsz => ?_)
    have e₂ : Ext prog w (fun a => a ∈ wr) C s₁ { s₁ with heap := h', toks := tk } := ⟨hsz, fun b o e hb => .inl (hk' b o hb e), rfl, rfl⟩
    generalize hs₂ : ({ s₁ with heap := h', toks := tk } : Shared) = s₂ at e₂ ⊢
    have st₂ : St (i + 1) s₂.heap := by rw [← hs₂]; exact st₂
    have S₂ : Sit prog w K mb n C X' A env (ρs i) s₂ := S₁.extZ e₂ (fun a h => .inr h) hlw hcw
    obtain ⟨p, hp⟩ : ∃ p, ps[i]? = some p := ⟨_, List.getElem?_eq_getElem hlt⟩
    have r₂ : Rep X' s₂.heap v p := ((hP i v p hPv hp).ext (e₁.mono hZw)).ext (e₂.mono fun a h => .inr h)
    have inv₂ : J X' i s₂ := hJ X' i s₁ s₂ _ hXX hwN inv₁ e₂
    dsimp only
    refine assign_var S₂ (O'.can hk) O'.ap r₂ fun s₃ e₃ S₃ => ?_
    have st₃ : St (i + 1) s₃.heap := W.frame _ _ _ st₂ fun b hb o ho => e₃.keepAt ho (fun q => (hfpZ b hb).1 (hZ b (stX_frO b q))) (hfpZ b hb).2
    have inv₃ : J X' i s₃ := hJ X' i s₂ s₃ _ hXX (fun a h => ⟨O'.own a (stX_frO a h), .inl (stX_frO a h)⟩) inv₂ e₃
    have e₁₃ : Ext prog w (fun a => Z a ∨ a ∈ wr) C s s₃ := e₁.trans ((e₂.mono fun a h => .inr h).trans (e₃.mono fun a h => .inl (hZ a (stX_frO a h))))
    refine wpAny_mono (hbody X' i p s₃ hp hXX O' (hide e₁₃) S₃ inv₃) (fun f s₄ h₄ => ?_) fun _ _ q => q.elim
    refine Mine.el0b h₄ fun e₄ h₄ => ?_
    have st₄ : St (i + 1) s₄.heap := W.frame _ _ _ st₃ fun b hb o ho => e₄.keepAt ho (hfpZ b hb).1 (hfpZ b hb).2
    have e₁₄ := e₁₃.trans (e₄.mono fun a h => (.inl h : Z a ∨ a ∈ wr))
    cases f with
    | next => exact ⟨ps.length + 1 - (i + 1), by omega, i + 1, hlt, rfl, e₁₄, h₄.1, st₄, h₄.2⟩
    | cont => exact ⟨ps.length + 1 - (i + 1), by omega, i + 1, hlt, rfl, e₁₄, h₄.1, st₄, h₄.2⟩
    | brk => exact h₄.elim
    | ret v => exact h₄ (hide e₁₄)
  · have hin : i = ps.length := by omega
    subst hin
    refine with_size (W.done s₁ _ _ st₁ fun h' tk hk' hsz => ?_)
    have e₂ : Ext prog w (fun a => a ∈ wr) C s₁ { s₁ with heap := h', toks := tk } := ⟨hsz, fun b o e hb => .inl (hk' b o hb e), rfl, rfl⟩
    dsimp only
    refine wpAny_execs_nil (hend X' _ hXX O' (hide (e₁.trans (e₂.mono fun a h => .inr h))) (S₁.extZ e₂ (fun a h => .inr h) hlw hcw) (hJ X' _ _ _ _ hXX hwN inv₁ e₂))

/-- for x in iter: body -/
theorem x_for {x : Str} {px pos : Pos} {iter : Expr} {body rest : List Stmt} {ps : List PV} {Z : Addr → Prop} {Q : Flow → Shared → Prop} {E : Value → Shared → Prop} (S : Sit prog w K mb n C X A env ρ s) (hit : EvI prog w C X A env iter ps s) (O : Own X env) (hk : KindSt env x)
    (hset : ∀ v, foldedSetIterable iter env v = pure v)
    (hZ : ∀ a, FrO env a → Z a) (hZX : ∀ a, Z a → X a) (ρs : Nat → List (Str × PV)) (J : (Addr → Prop) → Nat → Shared → Prop) (hJ : LoopJ prog w C env X s.heap.objs.size J)
    (h0 : ∀ y p, (ρs 0).lookup y = some p → ρ.lookup y = some p) (j0 : ∀ X', (∀ a, X a → X' a) → (∀ a, X' a → X a ∨ s.heap.objs.size ≤ a) → J X' 0 s)
    (hbody : ∀ X' i p s', ps[i]? = some p → (∀ a, X a → X' a) → Own X' env → Ext prog w Z C s s' → Sit prog w K mb n C X' A env ((x, p) :: ρs i) s' → J X' i s' →
      wpAny (model prog w) A (execs body env) (fun f s'' => Ext prog w Z C s' s'' ∧ (match f with | .next | .cont => Sit prog w K mb n C X' A env (ρs (i + 1)) s'' ∧ J X' (i + 1) s'' | .brk => False | .ret v => Ext prog w Z C s s'' → Q (.ret v) s'')) (fun _ _ => False) s')
    (hend : ∀ X' s', (∀ a, X a → X' a) → Own X' env → Ext prog w Z C s s' → Sit prog w K mb n C X' A env (ρs ps.length) s' → J X' ps.length s' → wpAny (model prog w) A (execs rest env) Q E s') :
    wpAny (model prog w) A (execs (.For (.Name x px) iter body [] pos :: rest) env) Q E s := by
  refine wpAny_execs_cons (wpAny_For (hit s .refl _ _ fun it s₁ e₁ hI => ?_) hset)
  exact for_loop S e₁ hI O hk hZ hZX ρs J hJ h0 j0 hbody hend

end Mine
end
section
open PySem PySem.W PySem.Calls PyProof.Rows
set_option Elab.async false
set_option maxRecDepth 100000
set_option linter.unusedVariables false
namespace Mine
variable {prog : Program} {w : World} {K : Frag} {mb : Str → Option Value} {X Y : Addr → Prop} {C : Mem} {s s' s'' : Shared} {A : Around} {env : Env} {ρ : List (Str × PV)} {n : Nat}

theorem op_mod_int {x y : Int} {a b : Value} (ha : Rep X s.heap a (.int x)) (hb : Rep X s.heap b (.int y)) (hy : (y == 0) = false) : DoV prog w C X A (binaryOp .Mod a b) (.int (x.fmod y)) s := by
  refine Mine.Rep.elI ha fun _ => ?_; refine Mine.Rep.elI hb fun _ => ?_
  refine fun s₁ e₁ Q E k => AutoIntOps.mod_1 (by rw [hy]; decide) ?_
  exact k _ _ .tok (.int _ _)
/-! str.find, from a place up to a place -/
noncomputable def findP (x y : Str) (i j : Int) : Int := match Builtin.Str.occurrences x y (fromIndex x.length i) (min (fromIndex x.length j) x.length) 1 with | k :: _ => (k : Int) | [] => -1
theorem gives_find4 (x y : Str) (i j : Int) (t u v v' : Tok) : Gives (Builtin.«str.find» ⟨[.str x t, .str y u, .int i v, .int j v'], []⟩) (.int (findP x y i j)) := by
  unfold findP
  show Gives (match Builtin.Str.occurrences x y (fromIndex x.length i) (min (fromIndex x.length j) x.length) 1 with | k :: _ => retInt k | [] => (do rule "str.find.not-found"; retInt (-1))) _
  cases Builtin.Str.occurrences x y (fromIndex x.length i) (min (fromIndex x.length j) x.length) 1 with
  | nil => exact .rule (.of_eq rfl)
  | cons k _ => exact .of_eq rfl
theorem m_find {x y : Str} {i j : Int} : Meth prog w C X A "find" (.str x) [.str y, .int i, .int j] (.int (findP x y i j)) s := ⟨"str.find",
  fun v s' pl e r => (by refine Mine.Rep.elS r fun _ => ?_; exact fun s₁ e₁ Q E k => GM.find (k _ _ .refl rfl)),
  fun v vs s' e r rs => (by
    refine Mine.Rep.elS r fun _ => ?_
    refine Mine.Reps.elC rs fun _ _ a1 b1 => ?_
    refine Mine.Reps.elC b1 fun _ _ a2 b2 => ?_
    refine Mine.Reps.elC b2 fun _ _ a3 b3 => ?_
    refine Mine.Reps.elN b3 ?_
    refine Mine.Rep.elS a1 fun _ => ?_
    refine Mine.Rep.elI a2 fun _ => ?_
    refine Mine.Rep.elI a3 fun _ => ?_
    exact fun s₁ e₁ Q E k => call_gives PySem.F.slot_str_find (typeIs_str _ _ _) PySem.F.entry_str_find (PySem.F.args_str_find_4 _ _ _ _) (gives_find4 x y i j _ _ _ _) (k _ _ .tok (.int _ _)))⟩

/-! tuples -/
theorem rep_newTup {h : Heap} {items : Array Value} {l : List PV} {n : Nat} (bd : ∀ a, X a → a < h.objs.size) (hr : Reps X h items.toList l) :
    Rep X (h.push { cls := .type "tuple", data := .seq items n }) (.ref h.objs.size) (.tup l) :=
  .tup (fun hx => Nat.lt_irrefl _ (bd _ hx)) ⟨_, Heap.get?_push_size _ rfl, rfl, n, rfl⟩ (hr.keeps fun _ _ e => Heap.get?_push_of_some _ e)
theorem ev_tuple {es : List Expr} {k : Nat} {pos : Pos} {ps : List PV} (bd : ∀ a, X a → a < s.heap.objs.size) (h : Evs prog w C X A env es ps s) (hsz : ps.length ≤ sizeLine) : Ev prog w C X A env (.Tuple es k pos) (.tup ps) s := by
  intro s₁ e₁ Q E k
  refine wpAny_Tuple ?_
  rw [h.1, backTo_plain]
  refine h.2 s₁ e₁ _ _ fun vs s₂ e₂ r => ⟨by rw [r.length]; exact hsz, k _ _ (e₂.trans .push) (rep_newTup (fun a h => Nat.lt_of_lt_of_le (bd a h) (e₁.trans e₂).size) r)⟩

theorem extBut_push {h' : Heap} (he : Heap.ExtBut s.heap.objs.size s.heap h') (hsz : s.heap.objs.size ≤ h'.objs.size) : Ext prog w noX C s { s with heap := h' } :=
  ⟨hsz, fun b o e _ => .inl (he b o (Nat.ne_of_lt (Heap.lt_size e)) e), rfl, rfl⟩

theorem bind2 {x y : Str} {v u : Value} {p q : PV} {Q : Unit → Shared → Prop} {E : Value → Shared → Prop} (S : Sit prog w K mb n C X A env ρ s) (O : Own X env) (hx : KindSt env x) (hy : KindSt env y) (r : Rep X s.heap v p) (r' : Rep X s.heap u q)
    (k : ∀ s', Ext prog w (FrO env) C s s' → Sit prog w K mb n C X A env ((y, q) :: (x, p) :: ρ) s' → Q () s') : wpAny (model prog w) A (assignInOrder [fun v => bindName env x v, fun v => bindName env y v] [v, u]) Q E s := by
  refine wpAny_bind (wpAny_holding (wpAny_bindName (store_var S (O.can hx) O.ap r fun s₁ e₁ S₁ => ?_)))
  have e₁' := e₁.mono (stX_frO (env := env) (x := x))
  refine wpAny_bind (wpAny_holding (wpAny_bindName (store_var S₁ (O.can hy) O.ap (r'.ext (e₁'.mono O.own)) fun s₂ e₂ S₂ => ?_)))
  exact wpAny_pure (k s₂ (e₁'.trans (e₂.mono stX_frO)) S₂)

/-- x, y = (a, b), stored from the last -/
theorem x_assign_pair {x y : Str} {px py tpos pos : Pos} {value : Expr} {j : Nat} {rest : List Stmt} {p q : PV} {Q : Flow → Shared → Prop} {E : Value → Shared → Prop} (S : Sit prog w K mb n C X A env ρ s) (O : Own X env) (hx : KindSt env x) (hy : KindSt env y) (he : Ev prog w C X A env value (.tup [p, q]) s)
    (hs : swapsWithSole [.Tuple [.Name x px, .Name y py] j tpos] value pos.line env = pure false) (hw : swappedStores [.Tuple [.Name x px, .Name y py] j tpos] value env = pure (some [x, y]))
    (k : ∀ s', Ext prog w (FrO env) C s s' → Sit prog w K mb n C X A env ((x, p) :: (y, q) :: ρ) s' → wpAny (model prog w) A (execs rest env) Q E s') :
    wpAny (model prog w) A (execs (.Assign [.Tuple [.Name x px, .Name y py] j tpos] value pos :: rest) env) Q E s := by
  refine wpAny_execs_cons (Assign_Tuple_swapped (names := [x, y]) (he s .refl _ _ fun v s₁ e₁ r => ?_) hs hw)
  refine Mine.Rep.elT r fun a items hx' ht hr => ?_
  ·
    have hn : items.size = 2 := by simpa using hr.length
    refine with_size ?_; try k_fold
    show wpAny _ A (unpackItems (.ref a) 2 none) _ _ s₁
    rw [← hn]
    refine wpAny_unpackItems_tuple S.rm.h ht fun h' he hsz => ?_; try k_fold
    have e₂ : Ext prog w noX C s₁ { s₁ with heap := h' } := extBut_push he hsz
    have hr₂ := hr.ext e₂.ofNo
    generalize hi : items.toList = il at hr₂ ⊢
    refine Mine.Reps.elC hr₂ fun _ _ r1 hr₂ => ?_
    ·
      refine Mine.Reps.elC hr₂ fun _ _ r2 hr₂ => ?_
      ·
        cases hr₂
        exact bind2 (S.ext (e₁.trans e₂)) O hy hx r2 r1 fun s₃ e₃ S₃ => k s₃ ((e₁.trans e₂).ofNo.trans e₃) S₃

theorem bind3 {x y z : Str} {px py pz : Pos} {v u t : Value} {p q r : PV} {Q : Unit → Shared → Prop} {E : Value → Shared → Prop} (S : Sit prog w K mb n C X A env ρ s) (O : Own X env) (hx : KindSt env x) (hy : KindSt env y) (hz : KindSt env z) (r1 : Rep X s.heap v p) (r2 : Rep X s.heap u q) (r3 : Rep X s.heap t r)
    (k : ∀ s', Ext prog w (FrO env) C s s' → Sit prog w K mb n C X A env ((z, r) :: (y, q) :: (x, p) :: ρ) s' → Q () s') : wpAny (model prog w) A (assignInOrder [fun v => assign (.Name x px) env v, fun v => assign (.Name y py) env v, fun v => assign (.Name z pz) env v] [v, u, t]) Q E s := by
  refine wpAny_bind (wpAny_holding (assign_var S (O.can hx) O.ap r1 fun s₁ e₁ S₁ => ?_))
  have e₁' := e₁.mono (stX_frO (env := env) (x := x))
  refine wpAny_bind (wpAny_holding (assign_var S₁ (O.can hy) O.ap (r2.ext (e₁'.mono O.own)) fun s₂ e₂ S₂ => ?_))
  have e₂' := e₁'.trans (e₂.mono (stX_frO (env := env) (x := y)))
  refine wpAny_bind (wpAny_holding (assign_var S₂ (O.can hz) O.ap (r3.ext (e₂'.mono O.own)) fun s₃ e₃ S₃ => ?_))
  exact wpAny_pure (k s₃ (e₂'.trans (e₃.mono stX_frO)) S₃)

/-- x, y, z = a tuple -/
theorem x_assign_three {x y z : Str} {px py pz tpos pos : Pos} {value : Expr} {j : Nat} {rest : List Stmt} {p q r : PV} {Q : Flow → Shared → Prop} {E : Value → Shared → Prop} (S : Sit prog w K mb n C X A env ρ s) (O : Own X env) (hx : KindSt env x) (hy : KindSt env y) (hz : KindSt env z) (he : Ev prog w C X A env value (.tup [p, q, r]) s)
    (hs : swapsWithSole [.Tuple [.Name x px, .Name y py, .Name z pz] j tpos] value pos.line env = pure false) (hw : swappedStores [.Tuple [.Name x px, .Name y py, .Name z pz] j tpos] value env = pure none)
    (k : ∀ s', Ext prog w (FrO env) C s s' → Sit prog w K mb n C X A env ((z, r) :: (y, q) :: (x, p) :: ρ) s' → wpAny (model prog w) A (execs rest env) Q E s') :
    wpAny (model prog w) A (execs (.Assign [.Tuple [.Name x px, .Name y py, .Name z pz] j tpos] value pos :: rest) env) Q E s := by
  refine wpAny_execs_cons (Assign_Tuple (he s .refl _ _ fun v s₁ e₁ r' => ?_) hs hw)
  refine Mine.Rep.elT r' fun a items hx' ht hr => ?_
  ·
    have hn : items.size = 3 := by simpa using hr.length
    rw [arm_assign_Tuple]
    refine wpAny_bind (wpAny_standAt ?_)
    unfold unpack
    rw [show (assignEach [Expr.Name x px, .Name y py, .Name z pz] env).length = items.size by rw [hn]; rfl, show (assignEach [Expr.Name x px, .Name y py, .Name z pz] env).findIdx? (·.1) = none from rfl]
    refine wpAny_bind (wpAny_holding (with_size (wpAny_unpackItems_tuple S.rm.h ht fun h' he hsz => ?_)))
    have e₂ : Ext prog w noX C s₁ { s₁ with heap := h' } := extBut_push he hsz
    have hr₂ := hr.ext e₂.ofNo
    generalize hi : items.toList = il at hr₂ ⊢
    refine Mine.Reps.elC hr₂ fun _ _ r1 hr₂ => ?_
    ·
      refine Mine.Reps.elC hr₂ fun _ _ r2 hr₂ => ?_
      ·
        refine Mine.Reps.elC hr₂ fun _ _ r3 hr₂ => ?_
        ·
          cases hr₂
          exact bind3 (S.ext (e₁.trans e₂)) O hx hy hz r1 r2 r3 fun s₃ e₃ S₃ => k s₃ ((e₁.trans e₂).ofNo.trans e₃) S₃

/-! x op= e, of ints -/
theorem x_aug {x : Str} {px pos : Pos} {op : Operator} {value : Expr} {rest : List Stmt} {i : Int} {p q : PV} {Q : Flow → Shared → Prop} {E : Value → Shared → Prop} (S : Sit prog w K mb n C X A env ρ s) (O : Own X env) (hk : env.kindOf x = some .local) (hx : ρ.lookup x = some p) (he : Ev prog w C X A env value q s)
    (hop : ∀ a b s', Rep X s'.heap a p → Rep X s'.heap b q → DoV prog w C X A (inplaceOp op a b) (.int i) s')
    (k : ∀ s', Ext prog w (FrO env) C s s' → Sit prog w K mb n C X A env ((x, .int i) :: ρ) s' → wpAny (model prog w) A (execs rest env) Q E s') :
    wpAny (model prog w) A (execs (.AugAssign (.Name x px) op value pos :: rest) env) Q E s := by
  refine Mine.el1b S.fm.ns fun m hn hv => ?_
  refine Mine.el1b (hv x p hx hk) fun v h1 h2 => ?_
  refine wpAny_execs_cons (wpAny_AugAssign_Name (wpAny_loadName_local S.fm.kind hk hn h1 (he s .refl _ _ fun u s₁ e₁ r₁ => hop v u s₁ (h2.ext e₁.ofNo) r₁ s₁ .refl _ _ fun r s₂ e₂ r₂ => ?_)))
  refine store_var (S.ext (e₁.trans e₂)) (O.can (.inl hk)) O.ap r₂ fun s₃ e₃ S₃ => k s₃ ((e₁.trans e₂).ofNo.trans (e₃.mono stX_frO)) S₃
theorem op_iadd {x y : Int} {a b : Value} (ha : Rep X s.heap a (.int x)) (hb : Rep X s.heap b (.int y)) : DoV prog w C X A (inplaceOp .Add a b) (.int (x + y)) s := by
  refine Mine.Rep.elI ha fun _ => ?_; refine Mine.Rep.elI hb fun _ => ?_
  exact fun s₁ e₁ Q E k => P.iadd_int (k _ _ .tok (.int _ _))
theorem op_isub {x y : Int} {a b : Value} (ha : Rep X s.heap a (.int x)) (hb : Rep X s.heap b (.int y)) : DoV prog w C X A (inplaceOp .Sub a b) (.int (x - y)) s := by
  refine Mine.Rep.elI ha fun _ => ?_; refine Mine.Rep.elI hb fun _ => ?_
  exact fun s₁ e₁ Q E k => P.isub_int (k _ _ .tok (.int _ _))
theorem x_assert {test : Expr} {msg : Option Expr} {pos : Pos} {rest : List Stmt} {Q : Flow → Shared → Prop} {E : Value → Shared → Prop} (h : Ts prog w C A env test true s) (k : ∀ s', Ext prog w noX C s s' → wpAny (model prog w) A (execs rest env) Q E s') :
    wpAny (model prog w) A (execs (.Assert test msg pos :: rest) env) Q E s :=
  wpAny_execs_cons (wpAny_Assert_holds (h s .refl _ _ fun b s₁ e₁ hb => ⟨hb, k s₁ e₁⟩))
theorem x_continue {pos : Pos} {rest : List Stmt} {Q : Flow → Shared → Prop} {E : Value → Shared → Prop} (h : Q .cont s) : wpAny (model prog w) A (execs (.Continue pos :: rest) env) Q E s :=
  wpAny_execs_cons (wpAny_Continue h)

/-! lists that change -/
noncomputable def Mut (X : Addr → Prop) (a : Addr) (l : List PV) (h : Heap) : Prop := ∃ items, h.PlainList a items ∧ Reps X h items.toList l
noncomputable def EvM (prog : Program) (w : World) (C : Mem) (X : Addr → Prop) (A : Around) (env : Env) (e : Expr) (l : List PV) (s : Shared) : Prop :=
  Do prog w C A (eval e env) (fun v s' => ∃ a, v = .ref a ∧ s.heap.objs.size ≤ a ∧ Mut (fun b => X b ∨ b = a) a l s'.heap) s
noncomputable def imm : PV → Bool
  | .none | .bool _ | .int _ | .str _ => true
  | _ => false
theorem Rep.imm {h h' : Heap} {v : Value} {p : PV} (r : Rep X h v p) (hi : imm p = true) : Rep Y h' v p := by
  cases r <;> first | (cases hi; done) | constructor
theorem ev_imm {e : Expr} {p : PV} (h : Ev prog w C X A env e p s) (hi : imm p = true) : Ev prog w C Y A env e p s := Do.mono h fun v s' _ r => r.imm hi
theorem Mut.isList {a : Addr} {l : List PV} {h : Heap} (m : Mut X a l h) (hY : ∀ b, Y b → X b) (ha : ¬ Y a) : Rep Y h (.ref a) (.list l) := let ⟨_, hl, hr⟩ := m; .list ha hl.isList (hr.ofSub hY)
theorem Mut.ext {a : Addr} {l : List PV} {Z : Addr → Prop} (m : Mut X a l s.heap) (e : Ext prog w Z C s s') (hZ : ∀ b, Z b → X b) (ha : ¬ Z a) : Mut X a l s'.heap := by
  (refine Mine.el1b m fun items hq27 hr => ?_; try clear m; obtain ⟨k, ho⟩ := hq27)
  exact ⟨items, ⟨k, e.keepD ho ha (by first | exact fun _ _ h => by cases h | exact fun _ h => by cases h | nofun)⟩, hr.ext (e.mono hZ)⟩
theorem Sit.retype {x : Str} {p q : PV} (S : Sit prog w K mb n C X A env ((x, p) :: ρ) s) (h : ∀ v, Rep X s.heap v p → Rep X s.heap v q) : Sit prog w K mb n C X A env ((x, q) :: ρ) s := by
  have key : ∀ y r, ((x, q) :: ρ).lookup y = some r → ∃ r', ((x, p) :: ρ).lookup y = some r' ∧ ∀ v, Rep X s.heap v r' → Rep X s.heap v r := fun y r e => by
    rw [List.lookup_cons] at e
    cases hb : y == x with
    | true => rw [hb] at e; cases e; exact ⟨p, by rw [List.lookup_cons, hb], h⟩
    | false => rw [hb] at e; exact ⟨r, by rw [List.lookup_cons, hb]; exact e, fun _ q => q⟩
  refine ⟨S.base, S.rm, S.bd, S.xo, S.co, S.fm.kind, S.fm.globals, S.fm.builtins, S.fm.cl, ?_, fun y c e => ?_⟩
  · refine Mine.el1b S.fm.ns fun m hn hv => ?_
    refine ⟨m, hn, fun y r e k => ?_⟩
    refine Mine.el1b (key y r e) fun r' e' hr => ?_
    refine Mine.el1b (hv y r' e' k) fun v h1 h2 => ?_
    exact ⟨v, h1, hr v h2⟩
  · refine Mine.el1b (S.fm.cell y c e) fun ov hi hv => ?_
    refine ⟨ov, hi, fun r e k => ?_⟩
    refine Mine.el1b (key y r e) fun r' e' hr => ?_
    refine Mine.el1b (hv r' e' k) fun v h1 h2 => ?_
    exact ⟨v, h1, hr v h2⟩
/-- to look at a list that changes -/
theorem Sit.freeze {x : Str} {a : Addr} {l : List PV} (S : Sit prog w K mb n C Y A env ((x, .val (.ref a)) :: ρ) s) (m : Mut Y a l s.heap) (hX : ∀ b, X b → Y b) (ha : ¬ X a) : Sit prog w K mb n C X A env ((x, .list l) :: ρ) s :=
  (S.ofSub hX).retype fun v r => by refine Mine.Rep.elV r fun _ => ?_; exact m.isList hX ha

theorem x_assign_mut {x : Str} {px pos : Pos} {e : Expr} {rest : List Stmt} {l : List PV} {Q : Flow → Shared → Prop} {E : Value → Shared → Prop} (S : Sit prog w K mb n C X A env ρ s) (O : Own X env) (hk : KindSt env x) (he : EvM prog w C X A env e l s)
    (hs : swapsWith e (some (.Name x px)) pos.line env = pure false)
    (k : ∀ a s' X', X' = (fun b => X b ∨ b = a) → s.heap.objs.size ≤ a → ¬ X a → ¬ FrO env a → C a = none → Ext prog w (FrO env) C s s' → Own X' env → Sit prog w K mb n C X' A env ((x, .val (.ref a)) :: ρ) s' → Mut X' a l s'.heap → wpAny (model prog w) A (execs rest env) Q E s') :
    wpAny (model prog w) A (execs (.Assign [.Name x px] e pos :: rest) env) Q E s := by
  refine wpAny_execs_cons ?_; try k_fold
  refine wpAny_Assign_Name (he s .refl _ _ fun v s₁ e₁ r => ?_) hs
  (refine Mine.el1c r fun a hq29 ha hm => ?_; try clear r; obtain rfl := hq29)
  have hxa : ¬ X a := fun q => Nat.lt_irrefl _ (Nat.lt_of_lt_of_le (S.bd a q) ha)
  have hca : C a = none := co_new S ha
  have hlt : a < s₁.heap.objs.size := let ⟨_, ⟨_, ho⟩, _⟩ := hm; Heap.lt_size ho
  have S₁ : Sit prog w K mb n C (fun b => X b ∨ b = a) A env ρ s₁ := (S.addX (wr := [a]) e₁ (fun b hb => by rw [List.mem_singleton] at hb; subst hb; exact ⟨ha, hlt, hca⟩)).ofSub fun b h => h.imp id (by rintro rfl; exact .head _)
  have O₁ : Own (fun b => X b ∨ b = a) env := O.mono fun b h => .inl h
  refine store_var S₁ (O₁.can hk) O₁.ap (.val _) fun s₂ e₂ S₂ => ?_; try k_fold
  have hfa : ¬ FrO env a := fun q => hxa (O.own a q)
  exact k a s₂ _ rfl ha hxa hfa hca (e₁.ofNo.trans (e₂.mono stX_frO)) O₁ S₂ (hm.ext e₂ (fun b h => O₁.own b (stX_frO b h)) fun q => hfa (stX_frO a q))

theorem Reps.eraseIdx {h : Heap} {vs : List Value} {ps : List PV} (r : Reps X h vs ps) (j : Nat) : Reps X h (vs.eraseIdx j) (ps.eraseIdx j) := by
  rw [List.eraseIdx_eq_take_drop_succ, List.eraseIdx_eq_take_drop_succ]
  exact (r.take j).append (r.drop (j + 1))
/-- del x[i] -/
theorem x_del {x : Str} {px spos pos : Pos} {idx : Expr} {rest : List Stmt} {a : Addr} {l : List PV} {i : Int} {j : Nat} {Q : Flow → Shared → Prop} {E : Value → Shared → Prop} (S : Sit prog w K mb n C X A env ρ s) (O : Own X env) (hx : ρ.lookup x = some (.val (.ref a))) (hk : env.kindOf x = some .local)
    (hm : Mut X a l s.heap) (hX : X a) (hfa : ¬ FrO env a) (hi : Ev prog w C X A env idx (.int i) s) (hfit : Builtin.List.listFitsIndex i = true) (hj : seqIndex? i l.length = some j) (hsz : l.length ≤ sizeLine)
    (k : ∀ s', Ext prog w (fun b => b = a) C s s' → Sit prog w K mb n C X A env ρ s' → Mut X a (l.eraseIdx j) s'.heap → wpAny (model prog w) A (execs rest env) Q E s') (hd : autoParam ((x == ("__debug__" : Str)) = false) Mine.autoD) :
    wpAny (model prog w) A (execs (.Delete [.Subscript (.Name x px) idx spos] pos :: rest) env) Q E s := by
  refine wpAny_execs_cons (wpAny_Delete (wpAny_deleteEach_cons (wpAny_delete_Subscript ?_)))
  refine Mine.el1b S.fm.ns fun m hn hv => ?_; try k_fold
  refine Mine.el1b (hv x _ hx hk) fun v h1 h2 => ?_; try k_fold
  cases h2
  refine wpAny_Name (wpAny_loadName_local S.fm.kind hk hn h1 ?_) hd
  refine hi s .refl _ _ fun iv s₁ e₁ r => ?_; try k_fold
  refine Mine.Rep.elI r fun _ => ?_; try k_fold
  refine Mine.el1b (hm.ext e₁ (fun _ q => q.elim) (fun q => q)) fun items hl hr => ?_; try k_fold
  have hlen : items.size = l.length := by simpa using hr.length
  refine wpAny_delItem_plain hl hfit (by rw [hlen]; exact hj) (fun h' hl' hs => wpAny_deleteEach_nil ?_) (by omega)
  have e₂ : Ext prog w (fun b => b = a) C s₁ { s₁ with heap := h' } := Ext.sameBut (t := s₁.toks) hs rfl
  refine k _ (e₁.ofNo.trans e₂) ((S.ext e₁).extZ e₂ (fun b h => h ▸ hX) (fun q => hfa (.inl q.symm)) fun y c hc q => ?_) ⟨_, hl', ?_⟩
  · (refine Mine.el1b ((S.ext e₁).fm.cell y c hc) fun ov hq31 _ => ?_; obtain ⟨o, ho, hd'⟩ := hq31)
    (refine Mine.el1a hl fun n' ho' => ?_; try clear hl)
    rw [q, ho'] at ho; cases ho; cases hd'
  · have := (hr.eraseIdx j).ext (e₂.mono fun b h => h ▸ hX)
    simpa [List.eraseIdx_eq_take_drop_succ, Array.toList_eraseIdxIfInBounds] using this
end Mine
end
section
open PySem PySem.W PySem.Calls PyProof.Rows
set_option Elab.async false
set_option maxRecDepth 100000
set_option linter.unusedVariables false
namespace Mine
variable {prog : Program} {w : World} {K : Frag} {mb : Str → Option Value} {X Y : Addr → Prop} {C : Mem} {s s' s'' : Shared} {A : Around} {env : Env} {ρ : List (Str × PV)} {n : Nat}

noncomputable def Sub (ρ' ρ : List (Str × PV)) : Prop := ∀ x p, ρ'.lookup x = some p → ρ.lookup x = some p
theorem sub_nil : Sub [] ρ := fun _ _ e => nomatch e
theorem sub_cons {ρ' : List (Str × PV)} {x : Str} {p : PV} (h : ρ.lookup x = some p) (t : Sub ρ' ρ) : Sub ((x, p) :: ρ') ρ := fun y q e => by
  rw [List.lookup_cons] at e
  cases hb : y == x with
  | true => rw [hb] at e; cases e; rw [beq_iff_eq.mp hb]; exact h
  | false => rw [hb] at e; exact t y q e
theorem sub_refl : Sub ρ ρ := fun _ _ e => e
theorem sub_tail {x : Str} {p : PV} (h : ρ.lookup x = none) : Sub ρ ((x, p) :: ρ) := fun y q e => by
  rw [List.lookup_cons]
  cases hb : y == x with
  | true => rw [beq_iff_eq.mp hb, h] at e; cases e
  | false => exact e
theorem len_sz {i : Nat} (h : i ≤ 1000) : i ≤ sizeLine := Nat.le_trans h (by decide)
theorem split_parts (x y : Str) (h : x.length ≤ 1000) : (Builtin.Str.partsBetween x (Builtin.Str.occurrences x y 0 x.length (x.length + 1)) y.length).length ≤ sizeLine := by
  have := StrLaws.occ_length_le x y 0 x.length (x.length + 1)
  have hp : ∀ (cuts : List Nat) (w : Nat), (Builtin.Str.partsBetween x cuts w).length = cuts.length + 1 := fun cuts w => by simp [Builtin.Str.partsBetween]
  rw [hp]
  exact len_sz' (by omega)
where len_sz' {i : Nat} (h : i ≤ 1002) : i ≤ sizeLine := Nat.le_trans h (by decide)

/-- split, its list a new one -/
theorem evm_split {o arg : Expr} {apos pos : Pos} {pl : Sem Bool} {x y : Str} (S : Sit prog w K mb n C X A env ρ s) (ho : Ev prog w C X A env o (.str x) s) (h : Evs prog w C X A env [arg] [.str y] s) (hy : (y.length == 0) = false) (hx : x.length ≤ 1000)
    (he : autoParam (eval (.Call (.Attribute o "split" apos) [arg] [] pos) env = (do
      let ov ← eval o env
      standAt apos.atName
      let (f, first) ← holding [ov] (getMethod ov "split" pl)
      callWith pos f first (backTo pos (starEach [arg] env)) [])) Mine.autoR) : EvM prog w C X A env (.Call (.Attribute o "split" apos) [arg] [] pos) ((Txt.split x y).map .str) s := by
  intro s₁ e₁ Q E k
  refine MethodCall_ (ho s₁ e₁ _ _ fun v s₂ e₂ r => ?_) he
  refine Mine.Rep.elS r fun _ => ?_
  refine GM.split ?_
  refine do_callWith_builtin (ps := [.str y]) (R := fun v s' => ∃ a, v = .ref a ∧ s.heap.objs.size ≤ a ∧ Mut (fun b => X b ∨ b = a) a ((Txt.split x y).map .str) s'.heap) (evs_ext h (e₁.trans e₂)) (fun vs s₃ e₃ rs => ?_) s₂ .refl _ _ fun v s₃ e₃ r => k v s₃ (e₂.trans e₃) r
  refine Mine.Reps.elC rs fun _ _ a b => ?_
  ·
    refine Mine.Rep.elS a fun _ => ?_; refine Mine.Reps.elN b ?_
    intro s₄ e₄ Q E k
    refine split_push hy (fun l tk hl => k _ _ (Ext.push.tokR) ⟨_, rfl, (e₁.trans (e₂.trans (e₃.trans e₄))).size, ?_⟩) (len_sz hx) (split_parts x y hx)
    rw [← hl]
    exact ⟨_, ⟨_, Heap.get?_push_size _ rfl⟩, reps_of_strValues⟩

theorem seq0 {k : Nat} (h : 0 < k) : seqIndex? 0 k = some 0 := by simp [seqIndex?]; (solve_by_elim (maxDepth := 3) [Nat.le_of_lt_succ, Nat.lt_succ_of_le, Nat.lt_succ_of_lt, Nat.le_of_lt, Nat.le_succ_of_le, Nat.pos_of_ne_zero, Nat.ne_of_gt, Nat.ne_of_lt, Nat.zero_le, Nat.le_refl, Nat.lt_succ_self, Nat.sub_le, Nat.le_of_not_lt, Nat.lt_of_not_le, Nat.le_trans, Nat.lt_of_lt_of_le, Nat.lt_of_le_of_lt, Nat.le_antisymm])
theorem seqm1 {k : Nat} (h : 0 < k) : seqIndex? (-1) k = some (k - 1) := by
  have h1 : (if (-1 : Int) < 0 then -1 + (k : Int) else -1) = -1 + k := if_pos (by decide)
  simp only [seqIndex?, h1]
  rw [if_pos (by simp; omega)]
  congr 1; omega
theorem last_idx {α : Type} (l : List α) (h : l ≠ []) : l[(-1 + (l.length : Int)).toNat]? = some (l.getLast h) := by
  have hp : 0 < l.length := List.length_pos_iff.mpr h
  rw [show (-1 + (l.length : Int)).toNat = l.length - 1 by omega, List.getLast_eq_getElem, List.getElem?_eq_getElem (by omega)]
theorem ts_eq {e : Expr} {b b' : Bool} (h : Ts prog w C A env e b s) (hb : b = b') : Ts prog w C A env e b' s := hb ▸ h
theorem ev_eq {e : Expr} {p p' : PV} (h : Ev prog w C X A env e p s) (hb : p = p') : Ev prog w C X A env e p' s := hb ▸ h
/-- an if statement, with what holds behind it -/
theorem x_if2 {test : Expr} {body orelse rest : List Stmt} {pos : Pos} {b : Bool} {Q : Flow → Shared → Prop} {E : Value → Shared → Prop} (Mid : Shared → Prop) (ht : Ts prog w C A env test b s)
    (k : ∀ s', Ext prog w noX C s s' → wpAny (model prog w) A (execs (if b then body else orelse) env) (fun f s'' => match f with | .next => Mid s'' | f => Q f s'') E s')
    (h : ∀ s', Mid s' → wpAny (model prog w) A (execs rest env) Q E s') :
    wpAny (model prog w) A (execs (.If test body orelse pos :: rest) env) Q E s := by
  refine x_if ht fun s₁ e₁ => wpAny_mono (k s₁ e₁) (fun f s₂ h₂ => ?_) fun _ _ x => x
  cases f <;> first | exact h s₂ h₂ | exact h₂
end Mine
end
section
open PySem PySem.W PySem.Calls PyProof.Rows
set_option Elab.async false
set_option maxRecDepth 100000
set_option linter.unusedVariables false
namespace Mine
variable {prog : Program} {w : World} {K : Frag} {mb : Str → Option Value} {X Y : Addr → Prop} {C : Mem} {s s' s'' : Shared} {A : Around} {env : Env} {ρ : List (Str × PV)} {n : Nat} {E : Value → Shared → Prop}

noncomputable def Byt (w : World) : Bool := w.params.followText "set-order"
/-- a set of strs -/
noncomputable def SetS (prog : Program) (w : World) (h : Heap) (a : Addr) (l : List Str) : Prop :=
  ∃ o es ep t, h.get? a = some o ∧ o.ExactSet ∧ o.data = .set es ep t ∧ ElemsOf (strKind prog w) es.toList ∧ (∀ x, x ∈ l ↔ ∃ e ∈ es.toList, (strKind prog w).is x e.2 = true)
    ∧ es.size < scanBound ∧ t.fits es.size = true ∧ t.led = (!Byt w) ∧ (es.size ≠ 0 → t.plain = false) ∧ es.size ≤ l.length
theorem SetS.at {h h' : Heap} {a : Addr} {l : List Str} (S : SetS prog w h a l) (k : ∀ o, h.get? a = some o → h'.get? a = some o) : SetS prog w h' a l :=
  let ⟨o, es, ep, t, ho, r⟩ := S; ⟨o, es, ep, t, k _ ho, r⟩
theorem orS_led (t : SetTable) (k : Nat) : (t.orStandIn k).led = t.led ∧ ((t.orStandIn k).plain = true → t.plain = true) := by
  unfold SetTable.orStandIn
  split
  · exact ⟨rfl, id⟩
  · exact ⟨rfl, fun h => by cases h⟩
theorem lay_led (t : SetTable) (es : Array (Int × Value)) (h : Int) (x : Value) : (layNew t es h x).2.1.led = t.led ∧ ((layNew t es h x).2.1.plain = true → t.plain = true) := by
  unfold layNew
  split
  · rename_i slot wd _
    exact orS_led (t.put slot).1 _
  · exact ⟨rfl, fun h => by cases h⟩
theorem relay_led (t : SetTable) (es : Array (Int × Value)) (k : Nat) : (relayAll t es k).2.1.led = t.led ∧ ((relayAll t es k).2.1.plain = true → t.plain = true) := by
  unfold relayAll
  split
  · rename_i t' order hr
    have : t'.led = t.led ∧ t'.plain = t.plain := by
      unfold SetTable.relaid SetTable.laid at hr
      cases hc : SetTable.layClean (SetTable.sizeAbove k - 1) (es.map (·.1)) with
      | none => rw [hc] at hr; cases hr
      | some ow => rw [hc] at hr; cases hr; exact ⟨rfl, rfl⟩
    dsimp only
    split
    · exact ⟨this.1, fun h => by rw [← this.2]; exact h⟩
    · exact ⟨rfl, fun h => by cases h⟩
  · exact ⟨rfl, fun h => by cases h⟩

theorem sets_store {h : Heap} {a : Addr} {o : Obj} {es : Array (Int × Value)} {ep : Nat} {t : SetTable} {l : List Str} (ho : h.get? a = some o) (hex : o.ExactSet) (hd : o.data = .set es ep t)
    {es' : Array (Int × Value)} {t' : SetTable} (hel : ElemsOf (strKind prog w) es'.toList) (hm : ∀ x, x ∈ l ↔ ∃ e ∈ es'.toList, (strKind prog w).is x e.2 = true) (hb : es'.size < scanBound) (hf : t'.fits es'.size = true)
    (hl : t'.led = (!Byt w)) (hp : t'.plain = false) (hz : es'.size ≤ l.length) :
    (h.update a (Obj.putSet es' t')).get? a = some { o with data := .set es' (ep + 1) t' } ∧ SetS prog w (h.update a (Obj.putSet es' t')) a l := by
  have hg : (h.update a (Obj.putSet es' t')).get? a = some { o with data := .set es' (ep + 1) t' } := by
    have := Heap.get?_update_self (Obj.putSet es' t') ho (by rw [putSet_of es' t' hd]; rfl)
    rw [putSet_of es' t' hd] at this; exact this
  exact ⟨hg, _, es', ep + 1, t', hg, hex, rfl, hel, hm, hb, hf, hl, fun _ => hp, hz⟩

theorem sets_add {a : Addr} {l : List Str} {x : Str} {tk : Tok} {Q : Bool → Shared → Prop} (S : SetS prog w s.heap a l) (hroom : l.length + 1 < scanBound)
    (h : ∀ b h', Heap.SameBut a s.heap h' → SetS prog w h' a (l ++ [x]) → Q b { s with heap := h' }) : wpAny (model prog w) A (setAddHashed a (.str x tk) ((strKind prog w).hash x)) Q E s := by
  obtain ⟨o, es, ep, t, ho, hex, hd, hel, hm, hb, hf, hled, hpl, hz⟩ := S
  have hkey := strKind_is prog w x tk
  unfold setAddHashed setAddHashedIn
  refine wpAny_holding (wpAny_bind (wpAny_setState_of ho hd hf ?_))
  dsimp only
  rw [byScan_of (knd := strKind prog w) rfl hb hel]
  simp only [↓reduceIte]
  unfold setAddByScan
  refine wpAny_bind (wpAny_bind (wpAny_rule (wpAny_bind (wpAny_setScan_of hkey ho hd hf hel ?_))))
  cases hr : List.findIdx? (fun e => (strKind prog w).is x e.2) es.toList with
  | some j =>
    dsimp only
    obtain ⟨hj, hpj, _⟩ := List.findIdx?_eq_some_iff_getElem.mp hr
    have hx : x ∈ l := (hm x).mpr ⟨_, List.getElem_mem hj, hpj⟩
    refine wpAny_pure (wpAny_pure ?_)
    have e : s = { s with heap := s.heap } := by cases s; rfl
    rw [e]
    refine h _ s.heap (Heap.SameBut.refl a s.heap) ⟨o, es, ep, t, ho, hex, hd, hel, fun y => ?_, hb, hf, hled, hpl, by simp; (solve_by_elim (maxDepth := 3) [Nat.le_of_lt_succ, Nat.lt_succ_of_le, Nat.lt_succ_of_lt, Nat.le_of_lt, Nat.le_succ_of_le, Nat.pos_of_ne_zero, Nat.ne_of_gt, Nat.ne_of_lt, Nat.zero_le, Nat.le_refl, Nat.lt_succ_self, Nat.sub_le, Nat.le_of_not_lt, Nat.lt_of_not_le, Nat.le_trans, Nat.lt_of_lt_of_le, Nat.lt_of_le_of_lt, Nat.le_antisymm])⟩
    rw [List.mem_append, List.mem_singleton, ← hm y]
    exact ⟨fun q => q.elim id fun q => q ▸ hx, .inl⟩
  | none =>
    dsimp only
    have hperm := layNew_perm t es ((strKind prog w).hash x) (.str x tk)
    have hfits := layNew_fits t es ((strKind prog w).hash x) (.str x tk)
    have hll := lay_led t es ((strKind prog w).hash x) (.str x tk)
    generalize hL : layNew t es ((strKind prog w).hash x) (.str x tk) = L at hperm hfits hll ⊢
    obtain ⟨es1, t1, wasDummy, gave⟩ := L
    dsimp only at hperm hfits hll ⊢
    rw [Array.toList_push] at hperm
    have hel1 : ElemsOf (strKind prog w) es1.toList := (hel.push hkey rfl).perm hperm
    have hm1 : ∀ y, y ∈ l ++ [x] ↔ ∃ e ∈ es1.toList, (strKind prog w).is y e.2 = true := fun y => by
      rw [List.mem_append, List.mem_singleton, hm y]
      constructor
      · rintro (⟨e, he, hp⟩ | rfl)
        · exact ⟨e, hperm.mem_iff.mpr (List.mem_append_left _ he), hp⟩
        · exact ⟨_, hperm.mem_iff.mpr (List.mem_append_right _ (List.mem_singleton.mpr rfl)), hkey⟩
      · rintro ⟨e, he, hp⟩
        rcases List.mem_append.mp (hperm.mem_iff.mp he) with he | he
        · exact .inl ⟨e, he, hp⟩
        · rw [List.mem_singleton] at he; subst he; exact .inr ((strKind prog w).inj _ _ _ hp hkey)
    have hsz1 : es1.size = es.size + 1 := by rw [← Array.length_toList, hperm.length_eq, List.length_append, Array.length_toList]; rfl
    have hb1 : es1.size < scanBound := by omega
    have hz1 : es1.size ≤ (l ++ [x]).length := by simp; omega
    have hgw : ∀ (b : Bool) {s₁ : Shared} {Q' : Unit → Shared → Prop}, Q' () s₁ → wpAny (model prog w) A (match b with | true => rule "set.scan.the-table-gave-way" | false => pure ()) Q' E s₁ :=
      fun b s₁ Q' hq => by cases b <;> first | exact wpAny_pure hq | exact wpAny_rule hq
    refine wpAny_bind (hgw _ ?_)
    have tail : ∀ t2 : SetTable, t2.fits es1.size = true → t2.led = (!Byt w) → t2.plain = false → wpAny (model prog w) A (do
        storeSet a es1 t2
        if (!wasDummy && t2.tooFull) = true then do
            (match (relayAll t2 es1 (SetTable.grown es1.size)).2.2 with | true => rule "set.scan.the-table-gave-way" | false => pure ())
            storeSet a (relayAll t2 es1 (SetTable.grown es1.size)).1 (relayAll t2 es1 (SetTable.grown es1.size)).2.1
            pure (some true)
          else pure (some true)) (fun (r : Option Bool) s' => ∃ h', r = some true ∧ s' = { s with heap := h' } ∧ Heap.SameBut a s.heap h' ∧ SetS prog w h' a (l ++ [x])) E s := fun t2 hf2 hl2 hp2 => by
      refine wpAny_bind (wpAny_storeSet_of ho hd ?_ (fits_of_scanBound hb1))
      refine Mine.el0b (sets_store (prog := prog) (w := w) ho hex hd hel1 hm1 hb1 hf2 hl2 hp2 hz1) fun ho1 hS1 => ?_
      have hsb1 := Heap.SameBut.update s.heap a (Obj.putSet es1 t2)
      split
      · have hp := relayAll_perm t2 es1 (SetTable.grown es1.size)
        have hfr := relayAll_fits t2 es1 (SetTable.grown es1.size)
        have hlr := relay_led t2 es1 (SetTable.grown es1.size)
        generalize hRl : relayAll t2 es1 (SetTable.grown es1.size) = Rl at hp hfr hlr ⊢
        obtain ⟨es2, t3, gave2⟩ := Rl
        dsimp only at hp hfr hlr ⊢
        have hsz : es2.size = es1.size := by (refine Mine.rwl (Array.length_toList).symm ?_; refine Mine.rwl hp.length_eq ?_; refine Mine.rwl Array.length_toList ?_; try with_reducible rfl)
        refine wpAny_bind (hgw _ (wpAny_bind (wpAny_storeSet_of ho1 rfl ?_ (fits_of_scanBound (by omega)))))
        obtain ⟨_, hS2⟩ := sets_store (prog := prog) (w := w) (l := l ++ [x]) ho1 hex rfl (hel1.perm hp) (fun y => (hm1 y).trans ⟨fun ⟨e, he, q⟩ => ⟨e, hp.mem_iff.mpr he, q⟩, fun ⟨e, he, q⟩ => ⟨e, hp.mem_iff.mp he, q⟩⟩) (by omega) hfr (hlr.1.trans hl2)
          (by cases hq : t3.plain with | false => rfl | true => rw [← hp2, hlr.2 hq]) (by omega)
        exact wpAny_pure ⟨_, rfl, rfl, hsb1.trans (Heap.SameBut.update _ a _), hS2⟩
      · exact wpAny_pure ⟨_, rfl, rfl, hsb1, hS1⟩
    split
    · rename_i hpl1
      refine wpAny_bind ?_
      rw [hashByValue_scannable 8 (x := .str x tk) rfl]
      refine wpAny_pure (wpAny_mono (tail { t1 with plain := false } (SetTable.fits_plain_off hfits) (hll.1.trans hled) rfl) (fun r s' hr => ?_) fun _ _ q => q)
      (refine Mine.el1d hr fun h' hq1 hq2 hsb hS => ?_; try clear hr; obtain rfl := hq1; obtain rfl := hq2)
      exact wpAny_pure (h _ _ hsb hS)
    · rename_i hpl1
      refine wpAny_bind (wpAny_pure ?_)
      simp only [↓reduceIte]
      refine wpAny_mono (tail t1 hfits (hll.1.trans hled) (by simpa using hpl1)) (fun r s' hr => ?_) fun _ _ q => q
      (refine Mine.el1d hr fun h' hq3 hq4 hsb hS => ?_; try clear hr; obtain rfl := hq3; obtain rfl := hq4)
      exact wpAny_pure (h _ _ hsb hS)
end Mine
end
section
open PySem PySem.W PySem.Calls PyProof.Rows
set_option Elab.async false
set_option maxRecDepth 100000
set_option linter.unusedVariables false
namespace Mine
variable {prog : Program} {w : World} {K : Frag} {mb : Str → Option Value} {X Y : Addr → Prop} {C : Mem} {s s' s'' : Shared} {A : Around} {env : Env} {ρ : List (Str × PV)} {n : Nat} {E : Value → Shared → Prop}

/-- the loop that fills a set from an iterator over strs -/
theorem set_fill {I : Addr} {fp wr : List Addr} {P : Nat → Value → Prop} {St : Nat → Heap → Prop} {l : List Str} {R : Result → Shared → Prop} (W : Walks prog w A.in1 I fp wr l.length P St) (a : Addr) (haf : a ∉ fp)
    (hP : ∀ i v, P i v → ∃ x t, l[i]? = some x ∧ v = .str x t) (hb : l.length + 1 < scanBound) :
    ∀ (k i : Nat) (s : Shared), l.length - i = k → i ≤ l.length → St i s.heap → SetS prog w s.heap a (l.take i) →
      (∀ h' tk, (∀ b o, b ∉ a :: wr → s.heap.get? b = some o → h'.get? b = some o) → SetS prog w h' a l → R (.ok (.ret .none)) { s with heap := h', toks := tk }) →
      codeAny (model prog w) A (.builtin "set.update.loop" ⟨[.ref a, .ref I], []⟩) R s := by
  have haw : a ∉ wr := fun h => haf (W.sub _ h)
  intro k; try k_fold
  induction k with
  | zero =>
    intro i s hk hi hst hS hR; try k_fold
    have hin : i = l.length := by omega
    subst hin
    rw [List.take_length] at hS
    refine codeAny_builtin PyProof.Rows.F.entry_set_update_loop ?_; try k_fold
    rw [Around.under_plainId PyProof.Rows.F.plain_set_update_loop _]
    show wpAny _ A.in1 (pyNext (.ref I) >>= _) _ _ s
    refine wpAny_bind (W.done s _ _ hst fun h' tk hm => ?_)
    show wpAny _ A.in1 (ret Value.none) _ _ _
    exact wpAny_pure (hR h' tk (fun b o hb e => hm b o (fun q => hb (List.mem_cons_of_mem _ q)) e) (hS.at fun o e => hm a o haw e))
  | succ k ih =>
    intro i s hk hi hst hS hR; try k_fold
    have hlt : i < l.length := by omega
    refine codeAny_builtin PyProof.Rows.F.entry_set_update_loop ?_; try k_fold
    rw [Around.under_plainId PyProof.Rows.F.plain_set_update_loop _]
    show wpAny _ A.in1 (pyNext (.ref I) >>= _) _ _ s
    refine wpAny_bind (W.item i s _ _ hlt hst fun v h₁ tk₁ hPv hst₁ hm => ?_)
    (refine Mine.el2b (hP i v hPv) fun x t hx hq1 => ?_; obtain rfl := hq1)
    have hS₁ : SetS prog w h₁ a (l.take i) := hS.at fun o e => hm a o haw e
    show wpAny _ A.in1 (holding [Value.str x t] (setAdd a (.str x t)) >>= _) _ _ _
    refine wpAny_bind (wpAny_holding ?_)
    unfold setAdd
    refine wpAny_holding (wpAny_bind ((strKind prog w).pyHash (k := x) (strKind_is _ _ _ _) ?_))
    refine sets_add (s := { s with heap := h₁, toks := tk₁ + 1 }) (l := l.take i) hS₁ (by rw [List.length_take]; omega) fun b h₂ hsb hS₂ => ?_; try k_fold
    have htk : l.take i ++ [x] = l.take (i + 1) := by rw [List.take_add_one, hx]; rfl
    rw [htk] at hS₂
    refine wpAny_pure ⟨plainId_quiet PyProof.Rows.F.plain_set_update_loop _, ih (i + 1) _ (by omega) hlt (W.frame _ h₁ _ hst₁ fun b hb o e => ?_) hS₂ fun h₃ tk₃ hm₃ hS₃ => ?_⟩
    · show h₂.get? b = _
      rw [hsb.2 b (fun q => haf (q ▸ hb))]; exact e
    · refine hR h₃ tk₃ (fun b o hb e => hm₃ b o hb ?_) hS₃
      show h₂.get? b = _
      rw [hsb.2 b (fun q => hb (by rw [q]; exact List.mem_cons_self))]
      exact hm b o (fun q => hb (List.mem_cons_of_mem _ q)) e

theorem code_new1 (a : Value) {Q₁ : Value → Shared → Prop}
    (h : Q₁ (.ref s.heap.objs.size) { s with heap := s.heap.push { cls := .type "set", dict := none, data := .set #[] 0 (.fresh 0 0 (!Byt w)) } }) :
    codeAny (model prog w) A (.call (.builtin "set.__new__") ⟨[.type "set", a], []⟩) (wants Q₁ E) s := by
  refine codeAny_of_tree ?_
  show wpAny _ A.in1 (do checkBuiltinCall "set.__new__" ⟨[.type "set", a], []⟩; again (.builtin "set.__new__" ⟨[.type "set", a], []⟩)) _ _ s
  refine wpAny_bind (wpAny_of_eq (PySem.F.newCall_set_1 a) (wpAny_pure ⟨plainId_quiet PySem.F.plain_set_new _, codeAny_builtin PySem.F.entry_set_new ?_⟩))
  rw [Around.under_plainId PySem.F.plain_set_new _]
  unfold Builtin.«set.__new__» Builtin.Frozenset.newClass
  have hsub := sub_set_self
  obtain ⟨hp, g, d, tk, os⟩ := s
  dsimp only
  wp_walk
  refine wpAny_askSetting (wpAny_pure ?_)
  dsimp only
  simp only [newObj]
  refine wpAny_bind (wpAny_alloc (wpAny_pure ?_))
  exact wpAny_pure h

set_option maxHeartbeats 3200000 in
theorem call_set1 {d : Addr} {items : Array Value} {l : List Str} {Q : Value → Shared → Prop} (hh : A.handled = none) (hl : s.heap.IsList d items) (hi : ∀ (i : Nat) (v : Value), items[i]? = some v → ∃ (x : Str) (t : Tok), l[i]? = some x ∧ v = .str x t) (hlen : items.size = l.length) (hb : l.length + 1 < scanBound)
    (h : ∀ (h' : Heap) (tk : Nat), SetS prog w h' s.heap.objs.size l → (∀ b o, b < s.heap.objs.size → s.heap.get? b = some o → h'.get? b = some o) → Q (.ref s.heap.objs.size) { s with heap := h', toks := tk }) :
    wpAny (model prog w) A (call (.type "set") [.ref d]) Q E s := by
  refine Mine.el2a PySem.F.called_set.mro fun c tl hmro => ?_; try k_fold
  have hmade := PySem.F.called_set.made
  have hsub := PySem.F.called_set.sub
  refine wpAny_call (codeAny_of_tree ?_)
  show wpAny _ _ (callAny (.type "set") _) _ _ _
  refine wpAny_pure ⟨Code.quiet_builtin _ (by decide +kernel), codeAny_builtin PySem.F.entry_type_call ?_⟩
  rw [Around.under_plain (weight_type_call_type "set" [.ref d] []) rfl]
  have h1 := PySem.F.called_set.notType
  have h2 := PySem.F.called_set.canCreate
  have hct := PySem.F.typeCall_set_1 (.ref d)
  repeat (any_goals (first | assumption | wp_step))
  generalize hso : ({ cls := .type "set", dict := none, data := .set #[] 0 (.fresh 0 0 (!Byt w)) } : Obj) = so
  refine codeAny_mono (code_new1 (.ref d) (E := E) (Q₁ := fun obj s₁ => obj = .ref s.heap.objs.size ∧ s₁ = { s with heap := s.heap.push so }) ⟨rfl, by rw [hso]⟩) fun r s₁ hr => ?_; try k_fold
  cases r with
  | error e => exact hr
  | ok fl =>
    cases fl with
    | ret obj =>
      (refine Mine.el0b hr fun hq2 hq3 => ?_; try clear hr; obtain rfl := hq2; obtain rfl := hq3)
      have hS : (s.heap.push so).get? s.heap.objs.size = some so := Heap.get?_push_size _ (by subst hso; rfl)
      have hT : Shared.TypeIs { s with heap := s.heap.push so } (.ref s.heap.objs.size) "set" := ⟨_, hS, by subst hso; rfl⟩
      have hli := PySem.F.called_set.init.lookup
      have hbi := PySem.F.called_set.init.bind (.ref s.heap.objs.size)
      repeat (any_goals (first | assumption | wp_step))
      refine codeAny_mono (codeAny_call_builtin (R := wants (fun r s₂ => r = .none ∧ ∃ h' tk, s₂ = { s with heap := h', toks := tk } ∧ SetS prog w h' s.heap.objs.size l ∧
          (∀ b o, b < s.heap.objs.size → s.heap.get? b = some o → h'.get? b = some o)) E) PySem.F.called_set.init.plain PySem.F.entry_set_init (check_set_init_1 hT ?_)) fun r₂ s₂ hr₂ => ?_
      · obtain ⟨ol, hol, hcl, nl, hdl⟩ := hl
        obtain ⟨ocls, odict, odata, oslots⟩ := ol
        simp only at hcl hdl
        subst hcl; subst hdl
        have hol' : (s.heap.push so).get? d = some { cls := .type "list", dict := odict, data := .seq items nl, slots := oslots } := Heap.get?_push_of_some _ hol
        have hsls := PySem.F.sub_list_set
        have hslf := PySem.F.sub_list_frozenset
        have hne : (Value.type "list" == Value.type "dict") = false := by decide
        have hl1 : (s.heap.push so).IsList d items := ⟨_, hol', rfl, nl, rfl⟩
        subst hso
        unfold Builtin.«set.__init__» noKeywords Builtin.Frozenset.updateFrom
        generalize hPI : pyIter = PI
        wp_walk
        subst hPI
        refine wpAny_pyIter_list hl1 ?_; try k_fold
        refine wpAny_bind (wpAny_runValue ?_)
        generalize hso : ({ cls := .type "set", dict := none, data := .set #[] 0 (.fresh 0 0 (!Byt w)) } : Obj) = so at hS hT hol' hl1 ⊢
        have hlS : d < s.heap.objs.size := Heap.lt_size hol
        have hh3 : A.in1.in1.in1.handled = none := by simp [hh]
        have hneI : d ≠ (s.heap.push so).objs.size := by
          rw [Heap.size_push]; exact Nat.ne_of_lt (Nat.lt_succ_of_lt hlS)
        have hSf : s.heap.objs.size ∉ [(s.heap.push so).objs.size, d] := by
          rw [Heap.size_push]; simp only [List.mem_cons, List.mem_singleton, List.not_mem_nil, or_false, not_or]
          exact ⟨Nat.ne_of_lt (Nat.lt_succ_self _), Nat.ne_of_gt hlS⟩
        have hW := Walks.list (prog := prog) (w := w) hh3 (s.heap.push so).objs.size d hneI items
        rw [hlen] at hW
        refine set_fill hW s.heap.objs.size hSf hi hb (l.length - 0) 0 _ (by omega) (Nat.zero_le _) ⟨⟨_, Heap.get?_push_size _ rfl, rfl, rfl⟩, (hl1.push _)⟩ ?_ ?_
        · refine ⟨so, #[], 0, .fresh 0 0 (!Byt w), Heap.get?_push_of_some _ hS, ?_, ?_, fun e he => by simp at he, fun x => by simp, by decide, rfl, rfl, fun q => (q rfl).elim, Nat.zero_le _⟩
          · subst hso; exact ⟨rfl, rfl, rfl⟩
          · subst hso; rfl
        · intro h' tk' hm hS'; try k_fold
          show wpAny _ _ _ _ _ _
          refine wpAny_pure ?_; try k_fold
          show wpAny _ _ (ret Value.none) _ _ _
          refine wpAny_pure ⟨rfl, h', tk', rfl, hS', fun b o hb e => ?_⟩
          have hb1 : b ≠ s.heap.objs.size := Nat.ne_of_lt hb
          have hb2 : b ≠ (s.heap.push so).objs.size := by
            rw [Heap.size_push]; exact Nat.ne_of_lt (Nat.lt_succ_of_lt hb)
          exact hm b o (by simp only [List.mem_cons, List.mem_singleton, List.not_mem_nil, or_false, not_or]; exact ⟨hb1, hb2⟩) (Heap.get?_push_of_some _ (Heap.get?_push_of_some _ e))
      · cases r₂ with
        | error e => exact hr₂
        | ok fl₂ =>
          cases fl₂ with
          | ret r =>
            obtain ⟨rfl, h', tk, rfl, hS', hk'⟩ := hr₂
            repeat (any_goals (first | assumption | wp_step))
            exact h _ _ hS' hk'
          | _ => exact hr₂.elim
    | _ => exact hr.elim
end Mine
end
section
open PySem PySem.W PySem.Calls PyProof.Rows
set_option Elab.async false
set_option maxRecDepth 100000
set_option linter.unusedVariables false
namespace Mine
variable {prog : Program} {w : World} {K : Frag} {mb : Str → Option Value} {X Y : Addr → Prop} {C : Mem} {s s' s'' : Shared} {A : Around} {env : Env} {ρ : List (Str × PV)} {n : Nat} {E : Value → Shared → Prop}

theorem erase_perm {α : Type} {l : List α} {i : Nat} (h : i < l.length) : (l[i] :: l.eraseIdx i).Perm l := by
  have h2 : l = l.take i ++ l[i] :: l.drop (i + 1) := by rw [← List.drop_eq_getElem_cons h, List.take_append_drop]
  rw [List.eraseIdx_eq_take_drop_succ]
  refine List.Perm.trans (List.perm_middle).symm ?_
  exact .of_eq h2.symm
theorem wpAny_choose {src : Source} {k : Nat} {Q : Nat → Shared → Prop} (hk : k ≠ 0) (h : ∀ i d, i < k → Q i { s with drawn := d }) : wpAny (model prog w) A (choose src k) Q E s := fun Γ p _ => by
  show Sem.wp _ _ (Sem.choose src k Sem.pure) _ _ _ _
  rw [Sem.wp_choose]
  refine ⟨hk, ?_⟩
  exact h _ _ (Nat.mod_lt _ (Nat.pos_of_ne_zero hk))
theorem wpAny_drawOrder {α : Type} : ∀ (k : Nat) (xs : List α) (s : Shared) (Q : List α → Shared → Prop), xs.length ≤ k → (∀ l d, l.Perm xs → Q l { s with drawn := d }) → wpAny (model prog w) A (drawOrder k xs) Q E s
  | 0, xs, s, Q, hk, h => by
    have : xs = [] := List.length_eq_zero_iff.mp (by omega)
    subst this
    exact wpAny_pure (by have := h [] s.drawn (.refl _); exact this)
  | k + 1, [], s, Q, hk, h => wpAny_pure (by have := h [] s.drawn (.refl _); exact this)
  | k + 1, x :: xs, s, Q, hk, h => by
    show wpAny _ A (choose .order (x :: xs).length >>= _) _ _ _
    refine wpAny_bind (wpAny_choose (by simp) fun i d hi => ?_)
    rw [List.getElem?_eq_getElem hi]
    refine wpAny_bind (wpAny_drawOrder k _ _ _ (by rw [List.length_eraseIdx_of_lt hi]; simp at hk ⊢; (assumption)) fun l d' hl => wpAny_pure (h _ _ ?_))
    exact (hl.cons _).trans (erase_perm hi)

theorem pickGo_perm {α : Type} (next : Nat → Nat) : ∀ (fuel k : Nat) (left : List α) (out : Array α), fuel = left.length → (pickOrder.go next fuel k left out).toList.Perm (out.toList ++ left)
  | 0, k, left, out, h => by
    have : left = [] := List.length_eq_zero_iff.mp h.symm
    subst this; simp [pickOrder.go]
  | fuel + 1, k, left, out, h => by
    have hp : 0 < left.length := by omega
    have hi := Nat.mod_lt (next k) hp
    rw [pickOrder.go, List.getElem?_eq_getElem hi]
    dsimp only
    refine (pickGo_perm next fuel (k + 1) _ _ (by rw [List.length_eraseIdx_of_lt hi]; omega)).trans ?_
    rw [Array.toList_push, List.append_assoc]
    exact List.Perm.append_left _ (erase_perm hi)
theorem pick_perm {α : Type} (next : Nat → Nat) (xs : Array α) : (pickOrder next xs).toList.Perm xs.toList := by
  have := pickGo_perm next xs.size 0 xs.toList #[] (by simp)
  rw [List.nil_append] at this
  exact this

noncomputable def SetAt (h : Heap) (a : Addr) (es : Array (Int × Value)) (ep : Nat) (t : SetTable) : Prop := ∃ o, h.get? a = some o ∧ o.ExactSet ∧ o.data = .set es ep t
noncomputable def ItAt (h : Heap) (I : Addr) (f : Value) (i : Nat) (a : Addr) (k ep : Nat) : Prop := ∃ o, h.get? I = some o ∧ o.cls = .type "set_iterator" ∧ o.data = .fields #[f, .int i 0, .ref a, .int k 0, .int ep 0]

theorem slot_setiter_next : Slot "set_iterator" "__next__" "set_iterator.__next__" :=
  .of (owner := "set_iterator") (n := "__next__") (by rw [typeLookup_type, builtinLookup_eq_fast]; kernel_rfl) (by decide +kernel) (by decide +kernel) (by decide +kernel)
    (by first | exact .inl (by decide +kernel) | exact .inr (by decide +kernel)) (by rw [isSubtype_type]; kernel_rfl)
theorem slot_setiter_iter : Slot "set_iterator" "__iter__" "set_iterator.__iter__" :=
  .of (owner := "set_iterator") (n := "__iter__") (by rw [typeLookup_type, builtinLookup_eq_fast]; kernel_rfl) (by decide +kernel) (by decide +kernel) (by decide +kernel)
    (by first | exact .inl (by decide +kernel) | exact .inr (by decide +kernel)) (by rw [isSubtype_type]; kernel_rfl)
theorem entry_setiter_next : entryFor table "set_iterator.__next__" = some Builtin.«set_iterator.__next__» := entryFor_of_tree (by kernel_rfl)
theorem entry_setiter_iter : entryFor table "set_iterator.__iter__" = some Builtin.«dict_keyiterator.__iter__» :=
  entryFor_alias (id' := "dict_keyiterator.__iter__") (by kernel_rfl) rfl (by decide +kernel) (by kernel_rfl)
theorem entry_set_iter : entryFor table "set.__iter__" = some Builtin.«frozenset.__iter__» :=
  entryFor_alias (id' := "frozenset.__iter__") (by kernel_rfl) rfl (by decide +kernel) (by kernel_rfl)
theorem args_setiter_next (a : Value) : argsOk "set_iterator.__next__" ⟨[a], []⟩ := by unfold argsOk; kernel_rfl
theorem args_setiter_iter (a : Value) : argsOk "set_iterator.__iter__" ⟨[a], []⟩ := by unfold argsOk; kernel_rfl

theorem setNext_eq (a : Addr) (slot i ep : Nat) : setNext a slot i ep = (do
    let (es, epoch, t) ← setState a
    if ← setsByText then
      if epoch != ep then unsupported "set_iterator.__next__:elements-changed"
      return ((← setWalk a)[i]?).map fun e => (e.2, slot)
    if !t.plain && es.size > 1 then unsupported "set_iterator.__next__:the-table-is-plain-no-more"
    let _ ← (do if !t.led && !es.isEmpty then unsupported "set:maker-not-led" : Sem Unit)
    let j := SetTable.below t.place slot
    return match es[j]?, t.place[j]? with
      | some (_, x), some p => some (x, p + 1)
      | _, _ => none) := rfl
theorem setWalk_eq (a : Addr) : setWalk a = (do
    let (es, epoch, t) ← setState a
    if ← setsByText then return pickOrder ((← ask).params.setOrder a epoch) es
    if !t.plain && es.size > 1 then return (← drawOrder es.size es.toList).toArray
    let _ ← (do if !t.led && es.size > 1 then unsupported "set:maker-not-led" : Sem Unit)
    return es) := rfl
theorem setDrawn_eq (a : Addr) : setDrawn a = (do
    let (es, _, t) ← setState a
    let byText ← setsByText
    return !byText && (!t.plain && es.size > 1)) := rfl
theorem wpAny_byText {Q : Bool → Shared → Prop} (h : Q (Byt w) s) : wpAny (model prog w) A setsByText Q E s := wpAny_bind (wpAny_askSetting (wpAny_pure h))

theorem next_text {a : Addr} {es : Array (Int × Value)} {ep slot i : Nat} {t : SetTable} {Q : Option (Value × Nat) → Shared → Prop} (hw : Byt w = true) (S : SetAt s.heap a es ep t) (hf : t.fits es.size = true)
    (h : Q (((pickOrder (w.params.setOrder a ep) es)[i]?).map fun e => (e.2, slot)) s) : wpAny (model prog w) A (setNext a slot i ep) Q E s := by
  (refine Mine.el1c S fun o ho hex hd => ?_; try clear S)
  rw [setNext_eq]
  refine wpAny_bind (wpAny_setState_of ho hd hf (wpAny_bind (wpAny_byText ?_)))
  rw [hw]
  dsimp only
  rw [if_pos rfl, if_neg (by simp)]
  rw [setWalk_eq]
  refine wpAny_bind (wpAny_bind (wpAny_setState_of ho hd hf (wpAny_bind (wpAny_byText ?_))))
  rw [hw, if_pos rfl]
  exact wpAny_bind (wpAny_askSetting (wpAny_pure (wpAny_pure h)))
theorem next_one {a : Addr} {es : Array (Int × Value)} {ep slot i : Nat} {t : SetTable} {Q : Option (Value × Nat) → Shared → Prop} (hw : Byt w = false) (S : SetAt s.heap a es ep t) (hf : t.fits es.size = true) (h1 : es.size ≤ 1) (hl : es.size ≠ 0 → t.led = true)
    (h : Q (match es[SetTable.below t.place slot]?, t.place[SetTable.below t.place slot]? with | some (_, x), some p => some (x, p + 1) | _, _ => none) s) : wpAny (model prog w) A (setNext a slot i ep) Q E s := by
  (refine Mine.el1c S fun o ho hex hd => ?_; try clear S)
  rw [setNext_eq]
  refine wpAny_bind (wpAny_setState_of ho hd hf (wpAny_bind (wpAny_byText ?_)))
  rw [hw]
  dsimp only
  have h2 : decide (es.size > 1) = false := decide_eq_false (by omega)
  have h3 : (!t.led && !es.isEmpty) = false := by
    cases hq : t.led with
    | true => rfl
    | false =>
      have : es.size = 0 := by
        rcases Nat.eq_zero_or_pos es.size with h | h
        · exact h
        · rw [hl (by (solve_by_elim (maxDepth := 3) [Nat.le_of_lt_succ, Nat.lt_succ_of_le, Nat.lt_succ_of_lt, Nat.le_of_lt, Nat.le_succ_of_le, Nat.pos_of_ne_zero, Nat.ne_of_gt, Nat.ne_of_lt, Nat.zero_le, Nat.le_refl, Nat.lt_succ_self, Nat.sub_le, Nat.le_of_not_lt, Nat.lt_of_not_le, Nat.le_trans, Nat.lt_of_lt_of_le, Nat.lt_of_le_of_lt, Nat.le_antisymm]))] at hq; cases hq
      simp [Array.isEmpty, this]
  rw [if_neg (by decide), h2, Bool.and_false, if_neg (by decide), h3]
  exact wpAny_bind (wpAny_pure (wpAny_pure h))
end Mine
end
section
open PySem PySem.W PySem.Calls PyProof.Rows
set_option Elab.async false
set_option maxRecDepth 100000
set_option linter.unusedVariables false
namespace Mine
variable {prog : Program} {w : World} {K : Frag} {mb : Str → Option Value} {X Y : Addr → Prop} {C : Mem} {s s' s'' : Shared} {A : Around} {env : Env} {ρ : List (Str × PV)} {n : Nat} {E : Value → Shared → Prop}

theorem ItAt.typeIs {I a : Addr} {f : Value} {i k ep : Nat} (h : ItAt s.heap I f i a k ep) : s.TypeIs (.ref I) "set_iterator" := let ⟨o, ho, hc, _⟩ := h; ⟨o, ho, hc⟩
theorem ItAt.at {h h' : Heap} {I a : Addr} {f : Value} {i k ep : Nat} (x : ItAt h I f i a k ep) (e : ∀ o, h.get? I = some o → h'.get? I = some o) : ItAt h' I f i a k ep := let ⟨o, ho, r⟩ := x; ⟨o, e _ ho, r⟩
theorem SetAt.at {h h' : Heap} {a : Addr} {es : Array (Int × Value)} {ep : Nat} {t : SetTable} (x : SetAt h a es ep t) (e : ∀ o, h.get? a = some o → h'.get? a = some o) : SetAt h' a es ep t := let ⟨o, ho, r⟩ := x; ⟨o, e _ ho, r⟩

/-- what the step of the iterator does, up to the choice of its road -/
theorem set_next {I a : Addr} {f : Value} {i : Nat} {es : Array (Int × Value)} {ep : Nat} {t : SetTable} {Q : Option Value → Shared → Prop} (hit : ItAt s.heap I f i a es.size ep) (S : SetAt s.heap a es ep t) (hf : t.fits es.size = true)
    (body : wpAny (model prog w) A.in1 (if let .int slot _ := f then (do
        match ← setNext a slot.toNat i ep with
        | some (x, next) =>
          setField (.ref I) 0 (rawInt next)
          setField (.ref I) 1 (rawInt (i + 1))
          ret x
        | none => setField (.ref I) 2 .none; raiseNew (← newExc (.type "StopIteration") []))
      else (do
        let some places ← seqItems? f | unsupported "internal:set_iterator"
        match places[i]? with
        | some (.int place _) =>
          let x ← setNextDrawn a place.toNat ep
          setField (.ref I) 1 (rawInt (i + 1))
          ret x
        | some _ => unsupported "internal:set_iterator"
        | none => setField (.ref I) 0 (rawInt 0); setField (.ref I) 2 .none; raiseNew (← newExc (.type "StopIteration") []))) 
      (fun r s' => ∃ v, r = .done (.ret v) ∧ Q (some v) s') (fun e s' => s'.TypeIs e "StopIteration" ∧ Q none s') s) :
    wpAny (model prog w) A (pyNext (.ref I)) Q E s := by
  refine Mine.el1c (id hit) fun o ho hc hd => ?_
  refine Mine.el1c (id S) fun os hos hexs hds => ?_
  unfold pyNext
  refine wpAny_bind (wpAny_attempt (wpAny_callSpecial?_slot (name := Str.ofString "__next__") hit.typeIs slot_setiter_next
    (wpAny_call_entry slot_setiter_next hit.typeIs entry_setiter_next ?_ (args_setiter_next _))))
  show wpAny _ _ (fieldsOf (.ref I) >>= _) _ _ s
  refine wpAny_bind (wpAny_fieldsOf ho hd ?_)
  show wpAny _ _ (setEntries a >>= _) _ _ s
  refine wpAny_bind (wpAny_setEntries_of hos hds hf ?_)
  dsimp only
  rw [if_neg (by simp)]
  simp only [Int.toNat_natCast]
  refine wpAny_mono body (fun r s' hr => ?_) fun e s' hr => ?_
  · (refine Mine.el1b hr fun v hq1 hq => ?_; try clear hr; obtain rfl := hq1)
    exact ⟨v, rfl, wpAny_pure hq⟩
  · exact wpAny_bind (wpAny_isInstance (T := "StopIteration") (b := true) hr.1 isSubtype_stop (wpAny_pure hr.2))

theorem stop_now {Q : Fin → Shared → Prop} {N : Shared → Prop} (hh : A.handled = none) (hq : ∀ h', (∀ b o, s.heap.get? b = some o → h'.get? b = some o) → N { s with heap := h' }) :
    wpAny (model prog w) A (do raiseNew (← newExc (.type "StopIteration") [])) Q (fun e s' => s'.TypeIs e "StopIteration" ∧ N s') s := by
  refine wpAny_bind ?_; try k_fold
  simp only [newExc, newTuple]
  refine wpAny_bind (wpAny_newObj_type ?_ (by size_fits))
  refine wpAny_bind (m := firstArgMember _ _) (wpAny_of_eq (a := Value.none) (by first | rfl | (simp only [firstArgMember]; rfl)) ?_)
  refine wpAny_newObj_type ?_ (by size_fits)
  simp only [raiseNew]
  refine wpAny_bind (wpAny_handled ?_)
  rw [hh]
  refine wpAny_bind (wpAny_pure (wpAny_throw ⟨⟨_, Heap.get?_push_size _ rfl, rfl⟩, hq _ fun b o e => Heap.get?_push_of_some _ (Heap.get?_push_of_some _ e)⟩))

theorem set_item_slot {I a : Addr} {slot nx i : Nat} {u : Tok} {x : Value} {es : Array (Int × Value)} {ep : Nat} {t : SetTable} {Q : Option Value → Shared → Prop} (hit : ItAt s.heap I (.int slot u) i a es.size ep) (S : SetAt s.heap a es ep t) (hf : t.fits es.size = true)
    (hn : ∀ (Q : Option (Value × Nat) → Shared → Prop) (E : Value → Shared → Prop), Q (some (x, nx)) s → wpAny (model prog w) A.in1 (setNext a slot i ep) Q E s)
    (hQ : ∀ h', ItAt h' I (.int nx 0) (i + 1) a es.size ep → Heap.SameBut I s.heap h' → Q (some x) { s with heap := h' }) : wpAny (model prog w) A (pyNext (.ref I)) Q E s := by
  refine set_next hit S hf ?_; try k_fold
  dsimp only
  simp only [Int.toNat_natCast]
  refine wpAny_bind (hn _ _ ?_)
  dsimp only
  (refine Mine.el1c hit fun o ho hc hd => ?_; try clear hit)
  refine wpAny_bind (wpAny_setField ho hd (by simp) ?_)
  have ho1 := Heap.get?_update_self (Obj.mapFields (·.setIfInBounds 0 (rawInt nx))) ho (Obj.isFreed_of_fields (Obj.data_mapFields hd _))
  have hd1 := Obj.data_mapFields hd (·.setIfInBounds 0 (rawInt nx))
  refine wpAny_bind (wpAny_setField ho1 hd1 (by simp) (wpAny_pure ⟨x, rfl, hQ _ ?_ ((Heap.SameBut.update ..).trans (Heap.SameBut.update ..))⟩))
  exact ⟨_, Heap.get?_update_self _ ho1 (Obj.isFreed_of_fields (Obj.data_mapFields hd1 _)), (Obj.cls_mapFields ..).trans ((Obj.cls_mapFields ..).trans hc), by
    rw [Obj.data_mapFields hd1]; simp [rawInt]⟩
theorem set_end_slot {I a : Addr} {slot i : Nat} {u : Tok} {es : Array (Int × Value)} {ep : Nat} {t : SetTable} {Q : Option Value → Shared → Prop} (hh : A.handled = none) (hit : ItAt s.heap I (.int slot u) i a es.size ep) (S : SetAt s.heap a es ep t) (hf : t.fits es.size = true)
    (hn : ∀ (Q : Option (Value × Nat) → Shared → Prop) (E : Value → Shared → Prop), Q none s → wpAny (model prog w) A.in1 (setNext a slot i ep) Q E s)
    (hQ : ∀ h', Heap.ExtBut I s.heap h' → Q none { s with heap := h' }) : wpAny (model prog w) A (pyNext (.ref I)) Q E s := by
  refine set_next hit S hf ?_
  dsimp only
  simp only [Int.toNat_natCast]
  refine wpAny_bind (hn _ _ ?_)
  dsimp only
  (refine Mine.el1c hit fun o ho hc hd => ?_; try clear hit)
  refine wpAny_bind (wpAny_setField ho hd (by simp) ?_)
  exact stop_now (by simpa using hh) fun h' hk => hQ h' fun b o hb e => hk b o ((Heap.SameBut.update ..).extBut b o hb e)
theorem set_item_drawn {I a T : Addr} {places : Array Value} {m i pl : Nat} {u : Tok} {x : Value} {es : Array (Int × Value)} {ep : Nat} {t : SetTable} {Q : Option Value → Shared → Prop} (hit : ItAt s.heap I (.ref T) i a es.size ep) (S : SetAt s.heap a es ep t) (hf : t.fits es.size = true) (hT : s.heap.IsTuple T places)
    (hp : places[i]? = some (.int pl u)) (hx : es[pl]?.map (·.2) = some x)
    (hQ : ∀ h', ItAt h' I (.ref T) (i + 1) a es.size ep → Heap.SameBut I s.heap h' → Q (some x) { s with heap := h' }) : wpAny (model prog w) A (pyNext (.ref I)) Q E s := by
  refine set_next hit S hf ?_; try k_fold
  dsimp only
  obtain ⟨oT, hoT, _, nT, hdT⟩ := hT
  refine wpAny_bind (wpAny_seqItems hoT hdT ?_)
  dsimp only
  rw [hp]
  dsimp only
  (refine Mine.el1c hit fun o ho hc hd => ?_; try clear hit)
  refine Mine.el1c (id S) fun os hos hexs hds => ?_; try k_fold
  refine wpAny_bind ?_; try k_fold
  unfold setNextDrawn
  refine wpAny_bind (wpAny_setState_of hos hds hf ?_)
  dsimp only
  rw [if_neg (by simp), Int.toNat_natCast]
  obtain ⟨e, he, rfl⟩ : ∃ e, es[pl]? = some e ∧ e.2 = x := by simpa using hx
  rw [he]
  refine wpAny_bind (wpAny_pure (wpAny_pure ?_))
  refine wpAny_bind (wpAny_setField ho hd (by simp) (wpAny_pure ⟨_, rfl, hQ _ ?_ (Heap.SameBut.update ..)⟩))
  exact ⟨_, Heap.get?_update_self _ ho (Obj.isFreed_of_fields (Obj.data_mapFields hd _)), (Obj.cls_mapFields ..).trans hc, by
    rw [Obj.data_mapFields hd]; simp [rawInt]⟩
theorem set_end_drawn {I a T : Addr} {places : Array Value} {i : Nat} {es : Array (Int × Value)} {ep : Nat} {t : SetTable} {Q : Option Value → Shared → Prop} (hh : A.handled = none) (hit : ItAt s.heap I (.ref T) i a es.size ep) (S : SetAt s.heap a es ep t) (hf : t.fits es.size = true) (hT : s.heap.IsTuple T places)
    (hp : places[i]? = none) (hQ : ∀ h', Heap.ExtBut I s.heap h' → Q none { s with heap := h' }) : wpAny (model prog w) A (pyNext (.ref I)) Q E s := by
  refine set_next hit S hf ?_; try k_fold
  dsimp only
  obtain ⟨oT, hoT, _, nT, hdT⟩ := hT
  refine wpAny_bind (wpAny_seqItems hoT hdT ?_)
  dsimp only
  rw [hp]
  dsimp only
  (refine Mine.el1c hit fun o ho hc hd => ?_; try clear hit)
  refine wpAny_bind (wpAny_setField ho hd (by simp) ?_)
  have ho1 := Heap.get?_update_self (Obj.mapFields (·.setIfInBounds 0 (rawInt 0))) ho (Obj.isFreed_of_fields (Obj.data_mapFields hd _))
  have hd1 := Obj.data_mapFields hd (·.setIfInBounds 0 (rawInt 0))
  refine wpAny_bind (wpAny_setField ho1 hd1 (by simp) ?_)
  exact stop_now (by simpa using hh) fun h' hk => hQ h' fun b o hb e => hk b o ((Heap.SameBut.update ..).extBut b o hb ((Heap.SameBut.update ..).extBut b o hb e))
theorem set_iter_self {I a : Addr} {f : Value} {i k ep : Nat} {Q : Value → Shared → Prop} (hit : ItAt s.heap I f i a k ep) (h : Q (.ref I) s) : wpAny (model prog w) A (pyIter (.ref I)) Q E s := by
  refine wpAny_pyIter_slot hit.typeIs slot_setiter_iter (wpAny_call_entry slot_setiter_iter hit.typeIs entry_setiter_iter ?_ (args_setiter_iter _))
  show wpAny _ _ (ret (.ref I)) _ _ s
  exact wpAny_pure ⟨_, rfl, "set_iterator", _, hit.typeIs, slot_setiter_next.lookup, h⟩
end Mine
end
section
open PySem PySem.W PySem.Calls PyProof.Rows
set_option Elab.async false
set_option maxRecDepth 100000
set_option linter.unusedVariables false
namespace Mine
variable {prog : Program} {w : World} {K : Frag} {mb : Str → Option Value} {X Y : Addr → Prop} {C : Mem} {s s' s'' : Shared} {A : Around} {env : Env} {ρ : List (Str × PV)} {n : Nat} {E : Value → Shared → Prop}

noncomputable def SetW (prog : Program) (w : World) (h : Heap) (a : Addr) (l : List Str) : Prop :=
  ∃ es ep t, SetAt h a es ep t ∧ ElemsOf (strKind prog w) es.toList ∧ (∀ x, x ∈ l ↔ ∃ e ∈ es.toList, (strKind prog w).is x e.2 = true)
    ∧ es.size < scanBound ∧ t.fits es.size = true ∧ (es.size ≠ 0 → t.led = (!Byt w) ∧ t.plain = false)
theorem SetS.use {h : Heap} {a : Addr} {l : List Str} (S : SetS prog w h a l) : SetW prog w h a l := by
  obtain ⟨o, es, ep, t, ho, hex, hd, hel, hm, hb, hf, hl, hp, _⟩ := S
  exact ⟨es, ep, t, ⟨o, ho, hex, hd⟩, hel, hm, hb, hf, fun q => ⟨hl, hp q⟩⟩
theorem SetW.setOf {h : Heap} {a : Addr} {l : List Str} (S : SetW prog w h a l) : ∃ n, h.SetOf (strKind prog w) a (fun k => decide (k ∈ l)) n := by
  (refine Mine.el3f S fun es ep t hq1 hel hm hb hf _ => ?_; try clear S; obtain ⟨o, ho, hex, hd⟩ := hq1)
  exact ⟨_, o, es, ep, t, ho, hex, hd, hel, fun k => by rw [decide_eq_true_eq]; exact hm k, hb, hf, rfl⟩
theorem SetW.ext {Z : Addr → Prop} {a : Addr} {l : List Str} (S : SetW prog w s.heap a l) (e : Ext prog w Z C s s') (ha : ¬ Z a) : SetW prog w s'.heap a l := by
  (refine Mine.el3b S fun es ep t hq2 r => ?_; try clear S; obtain ⟨o, ho, hex, hd⟩ := hq2)
  exact ⟨es, ep, t, ⟨o, e.keepD ho ha (by rw [hd]; first | exact fun _ _ h => by cases h | exact fun _ h => by cases h | nofun), hex, hd⟩, r⟩

theorem walks_text (hw : Byt w = true) (hh : A.handled = none) (I a : Addr) (hne : a ≠ I) (es : Array (Int × Value)) (ep : Nat) (t : SetTable) (hf : t.fits es.size = true) :
    Walks prog w A I [I, a] [I] es.size (fun i v => ((pickOrder (w.params.setOrder a ep) es).toList.map (·.2))[i]? = some v) (fun i h => ItAt h I (.int 0 0) i a es.size ep ∧ SetAt h a es ep t) where
  sub := fun b hb => by simp at hb; simp [hb]
  frame := fun _ _ _ st hk => ⟨st.1.at fun o e => hk I (by simp) o e, st.2.at fun o e => hk a (by simp) o e⟩
  item := fun i s Q E hi st hQ => by
    have hl := (pick_perm (w.params.setOrder a ep) es).length_eq
    simp only [Array.length_toList] at hl
    have hi' : i < (pickOrder (w.params.setOrder a ep) es).size := by omega
    refine set_item_slot (x := (pickOrder (w.params.setOrder a ep) es)[i].2) (nx := 0) st.1 st.2 hf (fun Q E h => next_text hw st.2 hf (by rw [Array.getElem?_eq_getElem hi']; exact h)) fun h' hit' hs' => ?_
    exact hQ _ h' s.toks (by simp [hi']) ⟨hit', st.2.at fun o e => hs'.extBut a o hne e⟩ fun b o hb e => hs'.extBut b o (fun h => hb (by simp [h])) e
  done := fun s Q E st hQ => by
    have hl := (pick_perm (w.params.setOrder a ep) es).length_eq
    simp only [Array.length_toList] at hl
    refine set_end_slot hh st.1 st.2 hf (fun Q E h => next_text hw st.2 hf (by rw [Array.getElem?_eq_none (by omega)]; exact h)) fun h' he' => hQ h' s.toks fun b o hb e => he' b o (fun h => hb (by simp [h])) e
  self := fun _ _ _ _ st hQ => set_iter_self st.1 hQ

theorem below_at0 (p : Nat) : SetTable.below #[p] 0 = 0 := by
  unfold SetTable.below
  show SetTable.below.go #[p] 0 1 0 1 = 0
  simp [SetTable.below.go]
theorem below_at1 (p : Nat) : SetTable.below #[p] (p + 1) = 1 := by
  unfold SetTable.below
  show SetTable.below.go #[p] (p + 1) 1 0 1 = 1
  simp [SetTable.below.go]
theorem walks_one (hw : Byt w = false) (hh : A.handled = none) (I a : Addr) (hne : a ≠ I) (es : Array (Int × Value)) (ep : Nat) (t : SetTable) (hf : t.fits es.size = true) (h1 : es.size ≤ 1) (hl : es.size ≠ 0 → t.led = true) :
    Walks prog w A I [I, a] [I] es.size (fun i v => (es.toList.map (·.2))[i]? = some v) (fun i h => ∃ slot : Nat, ItAt h I (.int slot 0) i a es.size ep ∧ SetAt h a es ep t ∧ SetTable.below t.place slot = i) where
  sub := fun b hb => by simp at hb; simp [hb]
  frame := fun _ _ _ ⟨slot, st⟩ hk => ⟨slot, st.1.at fun o e => hk I (by simp) o e, st.2.1.at fun o e => hk a (by simp) o e, st.2.2⟩
  item := fun i s Q E hi ⟨slot, st⟩ hQ => by
    have hpl : t.place.size = es.size := by simp [SetTable.fits] at hf; exact hf.1
    have hs1 : es.size = 1 := by omega
    have hi0 : i = 0 := by omega
    subst hi0
    obtain ⟨p, hp⟩ : ∃ p, t.place = #[p] := by
      have h0 : t.place.size = 1 := by omega
      exact ⟨t.place[0], by apply Array.ext <;> simp [h0]; intro i hi; have : i = 0 := by omega
                            subst this; rfl⟩
    refine set_item_slot (x := es[0].2) (nx := p + 1) st.1 st.2.1 hf (fun Q E h => next_one hw st.2.1 hf h1 hl ?_) fun h' hit' hs' => ?_
    · rw [st.2.2, Array.getElem?_eq_getElem (by omega), hp]
      exact h
    · exact hQ _ h' s.toks (by simp [hs1]) ⟨p + 1, hit', st.2.1.at fun o e => hs'.extBut a o hne e, by rw [hp]; exact below_at1 p⟩ fun b o hb e => hs'.extBut b o (fun h => hb (by simp [h])) e
  done := fun s Q E ⟨slot, st⟩ hQ => by
    refine set_end_slot hh st.1 st.2.1 hf (fun Q E h => next_one hw st.2.1 hf h1 hl ?_) fun h' he' => hQ h' s.toks fun b o hb e => he' b o (fun h => hb (by simp [h])) e
    rw [st.2.2, Array.getElem?_eq_none (Nat.le_refl _)]
    exact h
  self := fun _ _ _ _ ⟨slot, st⟩ hQ => set_iter_self st.1 hQ

theorem walks_drawn (hh : A.handled = none) (I a T : Addr) (hne : a ≠ I) (hnT : T ≠ I) (es : Array (Int × Value)) (ep : Nat) (t : SetTable) (hf : t.fits es.size = true) (places : List Nat) (hpl : places.Perm (List.range es.size)) :
    Walks prog w A I [I, a, T] [I] es.size (fun i v => (places.filterMap fun p => es[p]?.map (·.2))[i]? = some v) (fun i h => ItAt h I (.ref T) i a es.size ep ∧ SetAt h a es ep t ∧ h.IsTuple T (places.map fun (p : Nat) => rawInt p).toArray) where
  sub := fun b hb => by simp at hb; simp [hb]
  frame := fun _ _ _ st hk => ⟨st.1.at fun o e => hk I (by simp) o e, st.2.1.at fun o e => hk a (by simp) o e, let ⟨o, ho, r⟩ := st.2.2; ⟨o, hk T (by simp) o ho, r⟩⟩
  item := fun i s Q E hi st hQ => by
    have hlen : places.length = es.size := by (refine Mine.rwl hpl.length_eq ?_; refine Mine.rwl List.length_range ?_; try with_reducible rfl)
    have hi' : i < places.length := by omega
    have hp : places[i] < es.size := List.mem_range.mp (hpl.mem_iff.mp (List.getElem_mem hi'))
    refine set_item_drawn (x := es[places[i]].2) (pl := places[i]) (u := 0) (m := 0) st.1 st.2.1 hf st.2.2 (by simp [hi', rawInt]) (by simp [hp]) fun h' hit' hs' => ?_
    refine hQ _ h' s.toks ?_ ⟨hit', st.2.1.at fun o e => hs'.extBut a o hne e, let ⟨o, ho, r⟩ := st.2.2; ⟨o, hs'.extBut T o hnT ho, r⟩⟩ fun b o hb e => hs'.extBut b o (fun h => hb (by simp [h])) e
    have hall : ∀ p ∈ places, p < es.size := fun p h => List.mem_range.mp (hpl.mem_iff.mp h)
    have hfm : ∀ l : List Nat, (∀ p ∈ l, p < es.size) → ∀ i (hi : i < l.length), (l.filterMap fun p => es[p]?.map (·.2))[i]? = (es[l[i]]?).map (·.2) := by
      intro l
      induction l with
      | nil => intro _ i hi; simp at hi
      | cons q l ih =>
        intro ha i hi
        have hq := ha q (.head _)
        rw [List.filterMap_cons, Array.getElem?_eq_getElem hq]
        cases i with
        | zero => simp [hq]
        | succ i => simpa using ih (fun p h => ha p (.tail _ h)) i (by simpa using hi)
    rw [hfm places hall i hi', Array.getElem?_eq_getElem hp]; rfl
  done := fun s Q E st hQ => by
    have hlen : places.length = es.size := by (refine Mine.rwl hpl.length_eq ?_; refine Mine.rwl List.length_range ?_; try with_reducible rfl)
    exact set_end_drawn hh st.1 st.2.1 hf st.2.2 (by simp [hlen]) fun h' he' => hQ h' s.toks fun b o hb e => he' b o (fun h => hb (by simp [h])) e
  self := fun _ _ _ _ st hQ => set_iter_self st.1 hQ
end Mine
end
section
open PySem PySem.W PySem.Calls PyProof.Rows
set_option Elab.async false
set_option maxRecDepth 100000
set_option linter.unusedVariables false
namespace Mine
variable {prog : Program} {w : World} {K : Frag} {mb : Str → Option Value} {X Y : Addr → Prop} {C : Mem} {s s' s'' : Shared} {A : Around} {env : Env} {ρ : List (Str × PV)} {n : Nat} {E : Value → Shared → Prop}

noncomputable def keyOf : Value → Str
  | .str x _ => x
  | _ => ⟨#[]⟩
theorem keys_of {es : List (Int × Value)} {l : List Str} {vs : List Value} (hel : ElemsOf (strKind prog w) es) (hm : ∀ x, x ∈ l ↔ ∃ e ∈ es, (strKind prog w).is x e.2 = true) (hp : vs.Perm (es.map (·.2))) :
    (∀ v ∈ vs, ∃ t, v = .str (keyOf v) t) ∧ (∀ x, x ∈ vs.map keyOf ↔ x ∈ l) := by
  have h1 : ∀ v ∈ vs, ∃ t, v = .str (keyOf v) t := fun v hv => by
    (refine Mine.el1b (List.mem_map.mp (hp.mem_iff.mp hv)) fun e he hq1 => ?_; obtain rfl := hq1)
    (refine Mine.el0b (hel e he) fun hq2 _ => ?_; obtain ⟨k, hk, _⟩ := hq2)
    refine Mine.el1a (Value.isStrOf_shape hk) fun t ht => ?_
    rw [ht]; exact ⟨t, rfl⟩
  refine ⟨h1, fun x => ?_⟩
  rw [hm x, List.mem_map]
  constructor
  · rintro ⟨v, hv, rfl⟩
    refine Mine.el1b (List.mem_map.mp (hp.mem_iff.mp hv)) fun e he hev => ?_
    refine Mine.el1a (h1 v hv) fun t ht => ?_
    refine ⟨e, he, ?_⟩
    rw [hev, ht]
    exact strKind_is prog w _ t
  · rintro ⟨e, he, hk⟩
    refine Mine.el1a (Value.isStrOf_shape hk) fun t ht => ?_
    exact ⟨e.2, hp.mem_iff.mpr (List.mem_map.mpr ⟨e, he, rfl⟩), by rw [ht]; rfl⟩

theorem filt_perm {es : Array (Int × Value)} {places : List Nat} (hp : places.Perm (List.range es.size)) : (places.filterMap fun p => es[p]?.map (·.2)).Perm (es.toList.map (·.2)) := by
  refine (hp.filterMap _).trans (.of_eq ?_)
  apply List.ext_getElem?
  intro i
  have hfm : ∀ (l : List Nat) (i : Nat), (∀ p ∈ l, p < es.size) → (l.filterMap fun p => es[p]?.map (·.2))[i]? = (l[i]?).bind fun (p : Nat) => (es[p]?).map (fun (e : Int × Value) => e.2) := by
    intro l
    induction l with
    | nil => intro i _; simp
    | cons q l ih =>
      intro i ha
      have hq := ha q (.head _)
      rw [List.filterMap_cons, Array.getElem?_eq_getElem hq]
      cases i with
      | zero => simp [hq]
      | succ i => simpa using ih i (fun p h => ha p (.tail _ h))
  rw [hfm _ _ fun p h => List.mem_range.mp h]
  by_cases h : i < es.size
  · simp [h]
  · simp [h]

theorem iter_set {a : Addr} {l : List Str} {Q : Value → Shared → Prop} (S : Sit prog w K mb n C X A env ρ s) (hS : SetW prog w s.heap a l) (hXa : ¬ X a)
    (k : ∀ (xs : List Str) it s₂, (∀ x, x ∈ xs ↔ x ∈ l) → Ext prog w noX C s s₂ → Iter prog w C X A s.heap.objs.size (xs.map .str) it s₂ → Q it s₂) : wpAny (model prog w) A (pyIter (.ref a)) Q E s := by
  (refine Mine.el3f hS fun es ep t hA hel hm hb hf hlp => ?_; try clear hS)
  refine Mine.el1c (id hA) fun o ho hex hd => ?_
  have hT : s.TypeIs (.ref a) "set" := ⟨o, ho, hex.1⟩
  have hCa : C a = none := co_ne S ho (by rw [hd]; first | exact fun _ _ h => by cases h | exact fun _ h => by cases h | nofun)
  have halt : a < s.heap.objs.size := Heap.lt_size ho
  have mk : ∀ (s₂ : Shared) (I : Addr) (fp : List Addr) (vs : List Value) (St : Nat → Heap → Prop), Ext prog w noX C s s₂ → Walks prog w A I fp [I] vs.length (fun i v => vs[i]? = some v) St → St 0 s₂.heap → s.heap.objs.size ≤ I →
      (∀ b ∈ fp, b = a ∨ (s.heap.objs.size ≤ b ∧ b < s₂.heap.objs.size)) → vs.Perm (es.toList.map (·.2)) → Q (.ref I) s₂ := fun s₂ I fp vs St e W st hI hfp hp => by
    refine Mine.el0b (keys_of hel hm hp) fun h1 h2 => ?_
    refine k (vs.map keyOf) _ s₂ h2 e ⟨I, fp, [I], fun i v => vs[i]? = some v, St, rfl, ?_, st, fun b hb => ?_, fun b hb => ?_, fun i v p hv hpp => ?_⟩
    · rw [List.length_map, List.length_map]; exact W
    · rw [List.mem_singleton] at hb; subst hb; exact hI
    · rcases hfp b hb with rfl | ⟨h3, h4⟩
      · exact ⟨Nat.lt_of_lt_of_le halt e.size, hCa, hXa⟩
      · exact ⟨h4, co_new S h3, fun q => Nat.lt_irrefl _ (Nat.lt_of_lt_of_le (S.bd b q) h3)⟩
    · refine Mine.el1a (h1 v (List.mem_of_getElem? hv)) fun u hu => ?_
      rw [List.getElem?_map, List.getElem?_map, hv] at hpp
      cases hpp
      rw [hu]; exact .str _ _
  refine wpAny_pyIter_slot hT PySem.F.slot_set_iter (wpAny_call_entry PySem.F.slot_set_iter hT entry_set_iter ?_ (PySem.F.args_set_iter_1 _))
  show wpAny _ _ (Builtin.Frozenset.sizeOf a >>= _) _ _ s
  refine wpAny_bind (wpAny_bind (wpAny_setEntries_of ho hd hf (wpAny_pure ?_)))
  rw [setDrawn_eq]
  refine wpAny_bind (wpAny_bind (wpAny_setState_of ho hd hf (wpAny_bind (wpAny_byText (wpAny_pure ?_)))))
  cases hdr : (!Byt w && (!t.plain && decide (es.size > 1))) with
  | false =>
    rw [if_neg (by decide)]
    refine wpAny_bind (wpAny_pure (wpAny_bind (wpAny_setEpoch_of ho hd hf (wpAny_bind (wpAny_newObj_type (wpAny_pure ⟨_, rfl, "set_iterator", _, ⟨_, Heap.get?_push_size _ rfl, rfl⟩, slot_setiter_next.lookup, ?_⟩))))))
    have hne : a ≠ s.heap.objs.size := Nat.ne_of_lt halt
    have hit : ItAt (s.heap.push { cls := .type "set_iterator", data := .fields [rawInt 0, rawInt 0, .ref a, rawInt es.size, rawInt ep].toArray }) s.heap.objs.size (.int 0 0) 0 a es.size ep := ⟨_, Heap.get?_push_size _ rfl, rfl, rfl⟩
    have hA' : SetAt (s.heap.push { cls := .type "set_iterator", data := .fields [rawInt 0, rawInt 0, .ref a, rawInt es.size, rawInt ep].toArray }) a es ep t := hA.at fun o e => Heap.get?_push_of_some _ e
    have hfp : ∀ b ∈ [s.heap.objs.size, a], b = a ∨ (s.heap.objs.size ≤ b ∧ b < (s.heap.push { cls := .type "set_iterator", data := .fields [rawInt 0, rawInt 0, .ref a, rawInt es.size, rawInt ep].toArray }).objs.size) := fun b hb => by
      simp only [List.mem_cons, List.not_mem_nil, or_false] at hb
      rcases hb with rfl | rfl
      · exact .inr ⟨Nat.le_refl _, by rw [Heap.size_push]; exact Nat.lt_succ_self _⟩
      · exact .inl rfl
    cases hw : Byt w with
    | true =>
      have hpp := pick_perm (w.params.setOrder a ep) es
      refine mk _ _ _ ((pickOrder (w.params.setOrder a ep) es).toList.map (·.2)) (fun i h => ItAt h s.heap.objs.size (.int 0 0) i a es.size ep ∧ SetAt h a es ep t) .push ?_ ⟨hit, hA'⟩ (Nat.le_refl _) hfp (hpp.map _)
      rw [List.length_map, hpp.length_eq, Array.length_toList]
      exact walks_text hw S.rm.h _ _ hne es ep t hf
    | false =>
      rw [hw] at hdr
      have h1 : es.size ≤ 1 := by
        rcases Nat.lt_or_ge 1 es.size with h | h
        · have := (hlp (by omega)).2
          simp [this] at hdr
          omega
        · exact h
      refine mk _ _ _ (es.toList.map (·.2)) (fun i h => ∃ slot : Nat, ItAt h s.heap.objs.size (.int slot 0) i a es.size ep ∧ SetAt h a es ep t ∧ SetTable.below t.place slot = i) .push ?_ ⟨0, hit, hA', ?_⟩ (Nat.le_refl _) hfp (.refl _)
      · rw [List.length_map, Array.length_toList]
        exact walks_one hw S.rm.h _ _ hne es ep t hf h1 fun q => by rw [(hlp q).1, hw]; rfl
      · have hpl : t.place.size = es.size := by simp [SetTable.fits] at hf; exact hf.1
        rcases Nat.eq_zero_or_pos es.size with h | h
        · have : t.place = #[] := Array.eq_empty_of_size_eq_zero (by omega)
          rw [this]; rfl
        · obtain ⟨p, hp⟩ : ∃ p, t.place = #[p] := by
            have h0 : t.place.size = 1 := by omega
            exact ⟨t.place[0], by apply Array.ext <;> simp [h0]; intro i hi; have : i = 0 := by omega
                                  subst this; rfl⟩
          rw [hp]; exact below_at0 p
  | true =>
    rw [if_pos rfl]
    refine wpAny_bind (wpAny_drawOrder es.size (List.range es.size) _ _ (Nat.le_of_eq List.length_range) fun places d hpl => ?_)
    have hlen : places.length = es.size := by (refine Mine.rwl hpl.length_eq ?_; refine Mine.rwl List.length_range ?_; try with_reducible rfl)
    refine wpAny_bind (wpAny_newObj_type ?_ (by show (places.map fun (i : Nat) => rawInt i).toArray.size ≤ sizeLine; simp only [List.size_toArray, List.length_map, hlen]; exact fits_of_scanBound hb))
    have e₁ : Ext prog w noX C s { s with drawn := d } := .ofKeep (Nat.le_refl _) (fun b o e => e) rfl rfl
    generalize hs₁ : ({ s with drawn := d } : Shared) = s₁ at e₁ ⊢
    have hh₁ : s₁.heap = s.heap := by (refine Mine.rwl (hs₁).symm ?_; try with_reducible rfl)
    have e₂ : Ext prog w noX C s₁ { s₁ with heap := s₁.heap.push { cls := .type "tuple", data := .seq (places.map fun (i : Nat) => rawInt i).toArray } } := .push
    have ht₂ : (s₁.heap.push { cls := .type "tuple", data := .seq (places.map fun (i : Nat) => rawInt i).toArray }).IsTuple s₁.heap.objs.size (places.map fun (i : Nat) => rawInt i).toArray := ⟨_, Heap.get?_push_size _ rfl, rfl, _, rfl⟩
    have hA₁ : SetAt s₁.heap a es ep t := by rw [hh₁]; exact hA
    have hA₂ : SetAt (s₁.heap.push { cls := .type "tuple", data := .seq (places.map fun (i : Nat) => rawInt i).toArray }) a es ep t := hA₁.at fun o e => Heap.get?_push_of_some _ e
    have hsz₂ : (s₁.heap.push { cls := .type "tuple", data := .seq (places.map fun (i : Nat) => rawInt i).toArray }).objs.size = s.heap.objs.size + 1 := by rw [Heap.size_push, hh₁]
    rw [hh₁] at ht₂
    have hT1 : s₁.heap.objs.size = s.heap.objs.size := by (refine Mine.rwl hh₁ ?_; try with_reducible rfl)
    generalize hs₂ : ({ s₁ with heap := s₁.heap.push { cls := .type "tuple", data := .seq (places.map fun (i : Nat) => rawInt i).toArray } } : Shared) = s₂ at e₂ ⊢
    have hh₂ : s₂.heap = s₁.heap.push { cls := .type "tuple", data := .seq (places.map fun (i : Nat) => rawInt i).toArray } := by (refine Mine.rwl (hs₂).symm ?_; try with_reducible rfl)
    rw [← hh₂] at hA₂ hsz₂
    rw [hh₁] at hh₂
    rw [← hh₂] at ht₂
    refine Mine.el1c (id hA₂) fun o₂ ho₂ hex₂ hd₂ => ?_
    refine wpAny_bind (wpAny_setEpoch_of ho₂ hd₂ hf (wpAny_bind (wpAny_newObj_type (wpAny_pure ⟨_, rfl, "set_iterator", _, ⟨_, Heap.get?_push_size _ rfl, rfl⟩, slot_setiter_next.lookup, ?_⟩))))
    rw [hT1]
    have hne : a ≠ s₂.heap.objs.size := by rw [hsz₂]; exact Nat.ne_of_lt (Nat.lt_succ_of_lt halt)
    have hnT : s.heap.objs.size ≠ s₂.heap.objs.size := by rw [hsz₂]; exact Nat.ne_of_lt (Nat.lt_succ_self _)
    have hfp := filt_perm hpl
    refine mk _ s₂.heap.objs.size [s₂.heap.objs.size, a, s.heap.objs.size] (places.filterMap fun p => es[p]?.map (·.2)) (fun i h => ItAt h s₂.heap.objs.size (.ref s.heap.objs.size) i a es.size ep ∧ SetAt h a es ep t ∧ h.IsTuple s.heap.objs.size (places.map fun (p : Nat) => rawInt p).toArray) ((e₁.trans e₂).trans .push) ?_ ⟨⟨_, Heap.get?_push_size _ rfl, rfl, rfl⟩, hA₂.at fun o e => Heap.get?_push_of_some _ e, let ⟨o, ho, r⟩ := ht₂; ⟨o, Heap.get?_push_of_some _ ho, r⟩⟩ (by rw [hsz₂]; exact Nat.le_succ _) ?_ hfp
    · rw [hfp.length_eq, List.length_map, Array.length_toList]
      exact walks_drawn S.rm.h _ _ _ hne hnT es ep t hf places hpl
    · intro b hb
      show b = a ∨ _ ∧ b < (s₂.heap.push _).objs.size
      rw [Heap.size_push, hsz₂]
      simp only [List.mem_cons, List.not_mem_nil, or_false] at hb
      rcases hb with rfl | rfl | rfl
      · exact .inr ⟨by rw [hsz₂]; exact Nat.le_succ _, by rw [hsz₂]; exact Nat.lt_succ_self _⟩
      · exact .inl rfl
      · exact .inr ⟨Nat.le_refl _, Nat.lt_succ_of_lt (Nat.lt_succ_self _)⟩
end Mine
end
section
open PySem PySem.W PySem.Calls PyProof.Rows
set_option Elab.async false
set_option maxRecDepth 100000
set_option linter.unusedVariables false
namespace Mine
variable {prog : Program} {w : World} {K : Frag} {mb : Str → Option Value} {X Y : Addr → Prop} {C : Mem} {s s' s'' : Shared} {A : Around} {env : Env} {ρ : List (Str × PV)} {n : Nat} {E : Value → Shared → Prop}

/-! the memo -/
noncomputable def MemoOk (prog : Program) (w : World) (h : Heap) (c : Addr) (P : Str → Int → Prop) : Prop := ∃ o es, h.get? c = some o ∧ MemoEs prog w o es ∧ ∀ p ∈ es, (p.1 = "<string>" ∧ p.2 = 1) ∨ P p.1 p.2
noncomputable def Has (prog : Program) (w : World) (h : Heap) (c : Addr) (m : Str) (i : Int) : Prop := ∃ o es, h.get? c = some o ∧ MemoEs prog w o es ∧ (m, i) ∈ es
theorem MemoOk.ext {Z : Addr → Prop} {c : Addr} {P : Str → Int → Prop} (h : MemoOk prog w s.heap c P) (e : Ext prog w Z C s s') (hZ : ¬ Z c) (hC : C c = some P) : MemoOk prog w s'.heap c P := by
  (refine Mine.el2c h fun o es ho hm hp => ?_; try clear h)
  refine Mine.el2c (memo_ext e ho hm hZ) fun o' more ho' hm' hq => ?_
  refine ⟨o', _, ho', hm', fun p h => ?_⟩
  rcases List.mem_append.mp h with h | h
  · exact hp p h
  · exact .inr (hq P hC p h)
theorem Has.ext {Z : Addr → Prop} {c : Addr} {m : Str} {i : Int} (h : Has prog w s.heap c m i) (e : Ext prog w Z C s s') (hZ : ¬ Z c) : Has prog w s'.heap c m i := by
  (refine Mine.el2c h fun o es ho hm hp => ?_; try clear h)
  refine Mine.el2c (memo_ext e ho hm hZ) fun o' more ho' hm' hq => ?_
  exact ⟨o', _, ho', hm', List.mem_append_left _ hp⟩

/-! the class -/
structure ClsAt (K : Frag) (cl N : Addr) (mN : Str → Option Value) : Prop where
  cls : ∃ nm q bs sn sub col dd k0 k1 k2 k3 k5, K.lookup cl = some (excClassObj nm q cl N bs [.type "object"] true sn sub false col dd k0 k1 k2 k3 k5 "object.__new__")
  ns : ∃ o es ep, K.lookup N = some o ∧ o.data = .dict es ep ∧ StrKeys es ∧ ∀ name, nsFind es name = mN name
  ga : mN "__getattribute__" = none
  gt : mN "__getattr__" = none
  sa : mN "__setattr__" = none
theorem ClsAt.nsH {cl N : Addr} {mN : Str → Option Value} {h : Heap} (H : ClsAt K cl N mN) (B : K.In h) : h.Ns N mN := let ⟨o, es, ep, e, r⟩ := H.ns; ⟨o, es, ep, B _ _ e, r⟩

/-- an object with its table of attributes -/
noncomputable def Ins (C : Mem) (cl : Addr) (h : Heap) (b : Nat) (x : Addr) (mA : Str → Option Value) : Prop :=
  ∃ dx o, h.get? x = some o ∧ o.cls = .ref cl ∧ o.data = .plain ∧ o.dict = some dx ∧ dx ≠ x ∧ h.Ns1 dx mA ∧ x < b ∧ dx < b ∧ C dx = none
theorem Ins.inst {cl : Addr} {h : Heap} {b : Nat} {x : Addr} {mA : Str → Option Value} (I : Ins C cl h b x mA) : h.Inst x cl mA := by
  (refine Mine.el2g I fun dx o ho hc hd hdx hne hn _ => ?_; try clear I)
  exact ⟨o, ho, hc, (by rw [hd]; first | exact fun _ _ h => by cases h | exact fun _ h => by cases h | nofun), .inr ⟨dx, hdx, hne, hn⟩⟩
theorem Ins.ext {cl : Addr} {Z : Addr → Prop} {b : Nat} {x : Addr} {mA : Str → Option Value} (I : Ins C cl s.heap b x mA) (e : Ext prog w Z C s s') (hZ : ∀ a, Z a → b ≤ a) : Ins C cl s'.heap b x mA := by
  (refine Mine.el2i I fun dx o ho hc hd hdx hne hn h1 h2 h3 => ?_; try clear I)
  exact ⟨dx, o, e.keepD ho (fun q => Nat.lt_irrefl _ (Nat.lt_of_lt_of_le h1 (hZ _ q))) (by rw [hd]; first | exact fun _ _ h => by cases h | exact fun _ h => by cases h | nofun), hc, hd, hdx, hne, hn.at fun o ho => e.keepAt ho (fun q => Nat.lt_irrefl _ (Nat.lt_of_lt_of_le h2 (hZ _ q))) h3, h1, h2, h3⟩

noncomputable def ListAt (h : Heap) (a : Addr) (l : List Str) : Prop := ∃ items, h.IsList a items ∧ ∃ tl : List (Str × Tok), items.toList = strValues tl ∧ tl.map (·.1) = l
theorem ListAt.rep {h : Heap} {a : Addr} {l : List Str} (x : ListAt h a l) (hX : ¬ X a) : Rep X h (.ref a) (.list (l.map .str)) := by
  obtain ⟨items, hl, tl, ht, rfl⟩ := x
  exact .list hX hl (by rw [ht]; exact reps_of_strValues)
theorem ListAt.ext {Z : Addr → Prop} {a : Addr} {l : List Str} (x : ListAt s.heap a l) (e : Ext prog w Z C s s') (hZ : ¬ Z a) : ListAt s'.heap a l := let ⟨items, hl, r⟩ := x; ⟨items, isList_ext e hZ hl, r⟩
theorem Rep.listAt {h : Heap} {v : Value} {l : List Str} (r : Rep X h v (.list (l.map .str))) : ∃ a, v = .ref a ∧ ¬ X a ∧ ListAt h a l := by
  refine Mine.Rep.elL r fun a items hx hl hr => ?_
  refine Mine.el1b (strValues_of_reps hr) fun tl h1 h2 => ?_
  exact ⟨a, rfl, hx, items, hl, tl, h1, h2⟩

/-- a reader -/
noncomputable def Rdr (prog : Program) (w : World) (C : Mem) (cl : Addr) (h : Heap) (b : Nat) (x c : Addr) (mods dirs : List Str) : Prop :=
  ∃ ms ds mA, Ins C cl h b x mA ∧ mA "_mods" = some (.ref ms) ∧ mA "_dirs" = some (.ref ds) ∧ mA "_ignore" = some (.ref c) ∧ mA "names" = none ∧ SetW prog w h ms mods ∧ ListAt h ds dirs ∧ ms < b ∧ ds < b ∧ c < b ∧ (c == sysModules) = false
theorem Rdr.ext {Z : Addr → Prop} {cl : Addr} {b : Nat} {x c : Addr} {mods dirs : List Str} (R : Rdr prog w C cl s.heap b x c mods dirs) (e : Ext prog w Z C s s') (hZ : ∀ a, Z a → b ≤ a) : Rdr prog w C cl s'.heap b x c mods dirs := by
  obtain ⟨ms, ds, mA, I, h1, h2, h3, h4, hS, hL, b1, b2, b3⟩ := R
  exact ⟨ms, ds, mA, I.ext e hZ, h1, h2, h3, h4, hS.ext e fun q => Nat.lt_irrefl _ (Nat.lt_of_lt_of_le b1 (hZ _ q)), hL.ext e fun q => Nat.lt_irrefl _ (Nat.lt_of_lt_of_le b2 (hZ _ q)), b1, b2, b3⟩

/-- self.name -/
theorem ev_attr {cl N x : Addr} {mN mA : Str → Option Value} {b : Nat} {v : Value} {o : Expr} {name : Str} {pos : Pos} (S : Sit prog w K mb n C X A env ρ s) (H : ClsAt K cl N mN) (I : Ins C cl s.heap b x mA) (ho : Ev prog w C X A env o (.val (.ref x)) s) (hv : mA name = some v) (hna : mN name = none) (hB : typeLookup (.type "object") name = pure none) (hh : handedOut v = pure v)
    (he : autoParam (eval (.Attribute o name pos) env = (do
      let ov ← eval o env
      standAt pos.atName
      holding [ov] (getAttr ov name true) >>= fun r => pure r)) Mine.autoR) : Ev prog w C X A env (.Attribute o name pos) (.val v) s := by
  intro s₁ e₁ Q E k; try k_fold
  rw [he]
  refine wpAny_bind (ho s₁ e₁ _ _ fun ov s₂ e₂ r => wpAny_bind (wpAny_standAt (wpAny_bind (wpAny_holding ?_))))
  refine Mine.Rep.elV r fun _ => ?_; try k_fold
  have S₂ := S.ext (e₁.trans e₂)
  have I₂ := I.ext (e₁.trans e₂) (fun _ q => q.elim)
  obtain ⟨nm, q, bs, sn, sub, col, dd, k0, k1, k2, k3, k5, hcl⟩ := H.cls
  have hC := S₂.base.frag _ _ hcl
  have hn := H.nsH S₂.base.frag
  have hI := I₂.inst
  obtain ⟨h, g, d, t, os⟩ := s₂
  exact load_attr hC hn H.ga hna hB hI hv hh (wpAny_pure (k _ _ e₂.tokR (.val _)))

/-- m in self._ignore -/
theorem va_same {k : Str} {v : Value} {l : List (Str × Value)} : valueAt ((k, v) :: l) k = some v := by unfold valueAt; rw [List.find?_cons_of_pos (by exact decide_eq_true rfl)]; rfl
theorem va_ne {k k' : Str} {v : Value} {l : List (Str × Value)} (h : k' ≠ k) : valueAt ((k', v) :: l) k = valueAt l k := by unfold valueAt; rw [List.find?_cons_of_neg (by exact fun q => h (of_decide_eq_true q))]
theorem valueAt_intPairs {vals : List (Str × Int × Tok)} {k : Str} : (∃ i t, valueAt (intPairs vals) k = some (.int i t) ∧ (k, i) ∈ vals.map (fun x => (x.1, x.2.1))) ∨ (valueAt (intPairs vals) k = none ∧ ∀ i, (k, i) ∉ vals.map (fun x => (x.1, x.2.1))) := by
  induction vals with
  | nil => exact .inr ⟨rfl, fun i => List.not_mem_nil⟩
  | cons a r ih =>
    obtain ⟨k', i', t'⟩ := a
    by_cases h : k' = k
    · subst h
      exact .inl ⟨i', t', va_same, .head _⟩
    · rw [show valueAt (intPairs ((k', i', t') :: r)) k = valueAt (intPairs r) k from va_ne h]
      exact ih.imp (fun h1 => Exists.elim h1 fun i h1 => Exists.elim h1 fun t h1 => ⟨i, t, h1.1, .tail _ h1.2⟩) fun h2 => ⟨h2.1, fun i q => (List.mem_cons.mp q).elim (fun q => h (congrArg (·.1) q).symm) (h2.2 i)⟩
theorem memo_look {h : Heap} {c : Addr} {o : Obj} {es : List (Str × Int)} (ho : h.get? c = some o) (hm : MemoEs prog w o es) (k : Str) : ∃ f : Str → Option Value, h.MapOf (strKind prog w) c f ∧ ((∃ i t, f k = some (.int i t) ∧ (k, i) ∈ es) ∨ (f k = none ∧ ∀ i, (k, i) ∉ es)) := by
  (refine Mine.el1b hm fun vals hd hq4 => ?_; try clear hm; obtain rfl := hq4)
  exact ⟨_, (Heap.dictOf_iff.mpr ⟨o, ho, hd⟩).mapOf, valueAt_intPairs⟩

theorem stored_new {vals : List (Str × Int × Tok)} {k : Str} {i : Int} {t : Tok} (h : ∀ i, (k, i) ∉ vals.map (fun x => (x.1, x.2.1))) : stored (intPairs vals) k (.int i t) = intPairs (vals ++ [(k, i, t)]) := by
  have hn : (intPairs vals).any (fun kv => decide (kv.1 = k)) = false := List.any_eq_false.mpr fun kv hkv he =>
    Exists.elim (List.mem_map.mp hkv) fun x hx => h x.2.1 (List.mem_map.mpr ⟨x, hx.1, by rw [← of_decide_eq_true he, ← hx.2]⟩)
  unfold stored
  rw [hn, if_neg (by decide)]
  exact (List.map_append (l₁ := vals) (l₂ := [(k, i, t)])).symm
theorem stored_old {vals : List (Str × Int × Tok)} {k : Str} {i j : Int} {t : Tok} (h : (k, j) ∈ vals.map (fun x => (x.1, x.2.1))) (hall : ∀ j, (k, j) ∈ vals.map (fun x => (x.1, x.2.1)) → j = i) :
    ∃ vals' : List (Str × Int × Tok), stored (intPairs vals) k (.int i t) = intPairs vals' ∧ vals'.map (fun x => (x.1, x.2.1)) = vals.map (fun x => (x.1, x.2.1)) := by
  refine ⟨vals.map fun x => if x.1 = k then (x.1, i, t) else x, ?_, ?_⟩
  · have hy : (intPairs vals).any (fun kv => decide (kv.1 = k)) = true := Exists.elim (List.mem_map.mp h) fun x hx =>
      List.any_eq_true.mpr ⟨(x.1, .int x.2.1 x.2.2), List.mem_map.mpr ⟨_, hx.1, rfl⟩, decide_eq_true (congrArg (·.1) hx.2)⟩
    unfold stored
    rw [hy, if_pos rfl]
    unfold intPairs
    rw [List.map_map, List.map_map]
    refine List.map_congr_left fun x _ => ?_
    show (if x.1 = k then _ else _) = _
    by_cases hk : x.1 = k
    · rw [if_pos hk, Function.comp, if_pos hk]
    · rw [if_neg hk, Function.comp, if_neg hk]
  · rw [List.map_map]
    refine List.map_congr_left fun x hx => ?_
    rw [Function.comp]
    by_cases hk : x.1 = k
    · rw [if_pos hk, ← hall x.2.1 (List.mem_map.mpr ⟨x, hx, by rw [hk]⟩)]
    · rw [if_neg hk]
/-- self._ignore[m] = i -/
theorem memo_set {c : Addr} {P : Str → Int → Prop} {k : Str} {tk u : Tok} {i : Int} {KS : List Str} {Q : Unit → Shared → Prop} (hC : C c = some P) (hM : MemoOk prog w s.heap c P) (hk : k ≠ "<string>") (hP : P k i) (hcons : ∀ j, P k j → j = i) (hKS : ∀ m i, P m i → m ∈ KS) (hlen : KS.length ≤ 100000)
    (h : ∀ s', Ext prog w noX C s s' → Has prog w s'.heap c k i → Q () s') : wpAny (model prog w) A (setItem (.ref c) (.str k tk) (.int i u)) Q E s := by
  (refine Mine.el2c hM fun o es ho hq7 hp => ?_; try clear hM; obtain ⟨vals, hd, rfl⟩ := hq7)
  have hnd : ((intPairs vals).map (·.1)).Nodup := let ⟨_, _, _, _, _, _, hn⟩ := hd; hn
  have hsub : ∀ m ∈ (intPairs vals).map (·.1), m ∈ (("<string>" : Str) :: KS) := fun m hm => by
    refine Mine.mapEl hm fun q hq => Mine.mapEl hq fun v hv => ?_
    exact (hp (v.1, v.2.1) (List.mem_map.mpr ⟨_, hv, rfl⟩)).elim (fun q => List.mem_cons.mpr (.inl q.1)) fun q => .tail _ (hKS _ _ q)
  have hlen' : (intPairs vals).length ≤ 100001 := by
    have := hnd.length_le_of_subset hsub
    rw [List.length_map] at this
    exact Nat.le_trans this (Nat.succ_le_succ hlen)
  refine with_size (wpAny_setItem_pairs (knd := strKind prog w) (strKind_is prog w k tk) (Heap.dictOf_iff.mpr ⟨o, ho, hd⟩) (fun h' hd' hs hsz => ?_) (Nat.le_trans hlen' (by decide)))
  have fin : ∀ more : List (Str × Int), (∀ p ∈ more, P p.1 p.2) → (∃ vals', stored (intPairs vals) k (.int i u) = intPairs vals' ∧ vals'.map (fun x => (x.1, x.2.1)) = vals.map (fun x => (x.1, x.2.1)) ++ more) → (k, i) ∈ vals.map (fun x => (x.1, x.2.1)) ++ more → Q () { s with heap := h', toks := s.toks + 1 } := by
    rintro more hmore ⟨vals', h1, h2⟩ hin
    rw [h1] at hd'
    refine Mine.el1b (Heap.dictOf_iff.mp hd') fun o' ho' hd' => ?_
    have hm' : MemoEs prog w o' (vals.map (fun x => (x.1, x.2.1)) ++ more) := ⟨_, hd', h2⟩
    refine h _ ⟨hsz, fun b o₂ hb _ => ?_, rfl, rfl⟩ ⟨o', _, ho', hm', hin⟩
    by_cases hbc : b = c
    · subst hbc
      rw [ho] at hb; cases hb
      exact .inr ⟨P, hC, _, o', more, ⟨vals, hd, rfl⟩, ho', hm', hmore⟩
    · exact .inl ((hs.2 b hbc).trans hb)
  have hall : ∀ j, (k, j) ∈ vals.map (fun x => (x.1, x.2.1)) → j = i := fun j hj => (hp (k, j) hj).elim (fun q => absurd q.1 hk) fun q => hcons j q
  rcases valueAt_intPairs (vals := vals) (k := k) with ⟨j, t, _, hj⟩ | ⟨_, hno⟩
  · refine Mine.el1b (stored_old (t := u) hj hall) fun vals' h1 h2 => ?_
    exact fin [] (fun p q => nomatch q) ⟨vals', h1, by rw [h2, List.append_nil]⟩ (by rw [List.append_nil, ← hall j hj]; exact hj)
  · exact fin [(k, i)] (fun p q => by rw [List.mem_singleton] at q; subst q; exact hP) ⟨_, stored_new hno, List.map_append⟩ (List.mem_append_right _ (.head _))

/-- a test that tells of the state behind it -/
theorem x_ifR {test : Expr} {body orelse rest : List Stmt} {pos : Pos} {T : Bool → Shared → Prop} {Q : Flow → Shared → Prop} {E : Value → Shared → Prop} (ht : Do prog w C A (isTrue test env (eval test env)) T s)
    (k : ∀ b s', Ext prog w noX C s s' → T b s' → wpAny (model prog w) A (execs (if b then body else orelse) env) (fun f s'' => match f with | .next => wpAny (model prog w) A (execs rest env) Q E s'' | f => Q f s'') E s') :
    wpAny (model prog w) A (execs (.If test body orelse pos :: rest) env) Q E s := by
  refine wpAny_execs_cons ?_; try k_fold
  rw [exec_If]
  refine wpAny_bind (wpAny_standAt (wpAny_bind (ht s .refl _ _ fun b s₁ e₁ hb => ?_)))
  have := k b s₁ e₁ hb
  cases b with
  | true => simp only [if_true] at this ⊢; refine wpAny_mono this (fun f s₂ h => ?_) fun _ _ x => x; cases f <;> exact h
  | false => simp only [Bool.false_eq_true, if_false] at this ⊢; refine wpAny_mono this (fun f s₂ h => ?_) fun _ _ x => x; cases f <;> exact h
theorem ts_in_memo {l r : Expr} {pos : Pos} {c : Addr} {P : Str → Int → Prop} {m : Str} {i : Int} (S : Sit prog w K mb n C X A env ρ s) (h1 : Ev prog w C X A env l (.str m) s) (h2 : Ev prog w C X A env r (.val (.ref c)) s) (hC : C c = some P) (hM : MemoOk prog w s.heap c P) (hm : m ≠ "<string>") (hcons : ∀ j, P m j → j = i) (hc4 : (c == sysModules) = false) (hmk : autoParam (behindInMarks .In r = false) Mine.autoR) :
    Do prog w C A (isTrue (.Compare l [.In] [r] pos) env (eval (.Compare l [.In] [r] pos) env)) (fun b s' => (b = true → Has prog w s'.heap c m i) ∧ (b = false → ∀ j, ¬ Has prog w s'.heap c m j)) s := by
  intro s₁ e₁ Q E k
  refine wpAny_isTrue_Compare1 (h1 s₁ e₁ _ _ fun a s₂ e₂ ra => h2 s₂ (e₁.trans e₂) _ _ fun b s₃ e₃ rb => ?_) hmk
  refine Mine.Rep.elS ra fun _ => ?_; refine Mine.Rep.elV rb fun _ => ?_
  have e := e₁.trans (e₂.trans e₃)
  refine Mine.el2c (hM.ext e (fun q => q) hC) fun o es ho hmm hp => ?_
  refine Mine.el1b (memo_look ho hmm m) fun f hf hcase => ?_
  refine wpAny_in_of (strKind_is prog w m _) hc4 hf (wpAny_truthy_bool (k _ _ (e₂.trans e₃).tokR ⟨fun q => ?_, fun q => ?_⟩))
  · rcases hcase with ⟨j, t, h1, h2⟩ | ⟨h1, _⟩
    · have := (hp _ h2).elim (fun q => absurd q.1 hm) fun q => hcons j q
      subst this
      exact ⟨o, es, ho, hmm, h2⟩
    · rw [h1] at q; cases q
  · rcases hcase with ⟨j, t, h1, h2⟩ | ⟨_, h2⟩
    · rw [h1] at q; cases q
    · rintro j ⟨o', es', ho', hmm', h3⟩
      have hoo : o = o' := Option.some.inj (ho.symm.trans ho')
      subst hoo
      rw [hmm.unique hmm'] at h2
      exact h2 j h3
/-- self._ignore[m] -/
theorem ev_memo {value slice : Expr} {pos : Pos} {c : Addr} {P : Str → Int → Prop} {m : Str} {i : Int} (hv : Ev prog w C X A env value (.val (.ref c)) s) (hi : Ev prog w C X A env slice (.str m) s) (hC : C c = some P) (hM : MemoOk prog w s.heap c P) (hm : m ≠ "<string>") (hcons : ∀ j, P m j → j = i) (hH : Has prog w s.heap c m i) : Ev prog w C X A env (.Subscript value slice pos) (.int i) s := by
  refine sub_core (T := "dict") PySem.slot_dict_getitem.lookup hv fun v s₁ e₁ r Q E k => hi s₁ e₁ _ _ fun iv s₂ e₂ ri => ?_
  refine Mine.Rep.elV r fun _ => ?_; refine Mine.Rep.elS ri fun _ => ?_
  refine Mine.el2c (hH.ext (e₁.trans e₂) (fun q => q)) fun o es ho hmm hin => ?_
  refine Mine.el2c (hM.ext (e₁.trans e₂) (fun q => q) hC) fun o' es' ho' hmm' hp => ?_
  obtain rfl := Option.some.inj (ho.symm.trans ho')
  obtain rfl := hmm.unique hmm'
  refine Mine.el1b (memo_look ho hmm m) fun f hf hcase => ?_
  rcases hcase with ⟨j, t, h1, h2⟩ | ⟨_, h2⟩
  · have := (hp _ h2).elim (fun q => absurd q.1 hm) fun q => hcons j q
    subst this
    exact ⟨hf.typeIs, wpAny_getItem_of (strKind_is prog w m _) hf h1 (k _ _ e₂.tokR (.int _ _))⟩
  · exact absurd hin (h2 i)
end Mine
end
section
open PySem PySem.W PySem.Calls PyProof.Rows
set_option Elab.async false
set_option maxRecDepth 100000
set_option linter.unusedVariables false
namespace Mine
variable {prog : Program} {w : World} {K : Frag} {mb : Str → Option Value} {X Y : Addr → Prop} {C : Mem} {s s' s'' : Shared} {A : Around} {env : Env} {ρ : List (Str × PV)} {n : Nat}

/-- a def whose arguments are laid first -/
theorem call_fnB {a : Addr} {fd : FuncData} {names : List Str} {body : List Stmt} {vs : List Value} {ps : List Value → List PV} {D : List Value → Shared → Prop} {R : Value → Shared → Prop} (S : Sit prog w K mb (n + 1) C X A env ρ s) (F : FnAt K a fd names body)
    (hbind : ∀ (s₁ : Shared) (Q : List (Str × Value) → Shared → Prop) (E : Value → Shared → Prop), Ext prog w noX C s s₁ → (∀ vs' s₂, names.length = vs'.length → Ext prog w noX C s₁ s₂ → Reps X s₂.heap vs' (ps vs') → D vs' s₂ → Q (names.zip vs') s₂) → wpAny (model prog w) A.in1 (bindArgs fd ⟨vs, []⟩) Q E s₁)
    (h : ∀ s₀ L s₁ X' vs', Ext prog w noX C s s₀ → D vs' s₀ → Ext prog w noX C s₀ s₁ → Own X' (fEnv fd a L) → (∀ b, X b → X' b) → (∀ b, FrO (fEnv fd a L) b → s₀.heap.objs.size ≤ b) → Sit prog w K mb n C X' (A.deeper (fEnv fd a L)) (fEnv fd a L) (names.zip (ps vs')).reverse s₁ →
      wpAny (model prog w) (A.deeper (fEnv fd a L)) (execs body (fEnv fd a L)) (fun f s' => ∀ v, v = (match f with | .ret v => v | _ => .none) → Ext prog w (FrO (fEnv fd a L)) C s₁ s' ∧ (Ext prog w noX C s₀ s' → R v s')) (fun _ _ => False) s₁) :
    Do prog w C A (call (.ref a) vs) R s := by
  intro s₁ e₁ Q E k
  have S₁ := S.ext e₁
  refine Mine.el1b F.at_ fun o ho hd => ?_
  refine Mine.el4d F.code fun c oc fs t hc1 hc2 hc3 hc4 => ?_
  refine wpAny_call (codeAny_call_function S.rm.room (S₁.base.frag _ _ ho) hd F.co F.gen F.body ⟨c, oc, fs, t, hc1, S₁.base.frag _ _ hc2, hc3, hc4⟩ ?_)
  refine hbind s₁ _ _ e₁ fun vs' s₀ hl e₀ hr hD => ?_
  have S₀ := S₁.ext e₀
  have S₁' : Sit prog w K mb n C X A.in1 env ρ s₀ := ⟨S₀.base, S.rm.in1, S₀.bd, S₀.xo, S₀.co, S₀.fm⟩
  refine newFrame S₁' S.rm.in1 F.kind F.globals F.builtins F.closure hr hl F.kinds fun L s₂ X' e₂ hL O hXX hlo S₂ => ⟨(S₂ A.in1 S.rm.in1).base.noLimit, codeAny_func ?_⟩
  refine wpAny_mono (h s₀ L s₂ X' vs' (e₁.trans e₀) hD e₂ O hXX hlo (S₂ _ S.rm.deeper)) (fun f s' hf => ?_) fun _ _ x => x.elim
  refine Mine.el0b (hf _ rfl) fun e₃ r => ?_
  have e := e₂.fresh e₃ hlo
  exact k _ _ (e₀.trans e) (r e)

/-! small rules -/
theorem ev_item_tup {value idx : Expr} {pos : Pos} {l : List PV} {i : Int} {p : PV} (hv : Ev prog w C X A env value (.tup l) s) (hi : Ev prog w C X A env idx (.int i) s) (h0 : 0 ≤ i) (hp : l[i.toNat]? = some p) (hsz : l.length ≤ sizeLine) : Ev prog w C X A env (.Subscript value idx pos) p s := by
  refine sub_core (T := "tuple") PySem.F.slot_tuple_getitem.lookup hv fun v s₁ e₁ r Q E k => hi s₁ e₁ _ _ fun iv s₂ e₂ ri => ?_
  refine Mine.Rep.elI ri fun _ => ?_
  refine Mine.Rep.elT ((r.ext e₂.ofNo)) fun D items hx hl hr => ?_
  ·
    refine Mine.el1b (hr.get _ hp) fun u h1 h2 => ?_
    have hn : items.size = l.length := by simpa using hr.length
    have hlt : i.toNat < l.length := (List.getElem?_eq_some_iff.mp hp).1
    have h0' : sizeLine = 16777216 := by decide
    have hsq : seqIndex? i items.size = some i.toNat := by
      have h3 : (if i < 0 then i + (items.size : Int) else i) = i := if_neg (by omega)
      simp only [seqIndex?, h3]
      exact if_pos (by simp; omega)
    exact ⟨hl.typeIs, PyProof.Rows.getItem_tuple hl (by omega) (by omega) hsq (by simpa using h1) (k _ _ e₂ h2)⟩
theorem ev_or_str {x y : Expr} {pos : Pos} {a : Str} (h1 : Ev prog w C X A env x (.str a) s) (ha : (a.length != 0) = true) (hsz : a.length ≤ sizeLine) : Ev prog w C X A env (.BoolOp .Or [x, y] pos) (.str a) s := by
  intro s₁ e₁ Q E k
  refine wpAny_Or2 (h1 s₁ e₁ _ _ fun v s₂ e₂ r => ?_)
  refine Mine.Rep.elS r fun _ => ?_
  have h0 : sizeLine = 16777216 := by decide
  refine P.truthy_str (by omega) ?_
  have : ((a.length : Int) != 0) = true := by rw [← ha, Bool.eq_iff_iff]; simp
  rw [this, if_pos rfl]
  exact k _ _ e₂.tokR (.str _ _)
theorem ts_or_first {x : Expr} {rest : List Expr} {pos : Pos} (h : Ts prog w C A env x true s) : Ts prog w C A env (.BoolOp .Or (x :: rest) pos) true s := by
  intro s₁ e₁ Q E k
  refine wpAny_isTrue_BoolOp (wpAny_allTrue_Or_cons (h s₁ e₁ _ _ fun b s₂ e₂ hb => ?_))
  subst hb
  exact k _ _ e₂ rfl
theorem x_expr {e : Expr} {pos : Pos} {rest : List Stmt} {Q : Flow → Shared → Prop} {E : Value → Shared → Prop} (h : wpAny (model prog w) A (eval e env) (fun v s' => v = .none ∧ wpAny (model prog w) A (execs rest env) Q E s') E s)
    (hi : autoParam (interactive env = false) Mine.autoR) (hs : autoParam (swapsWith e none pos.line env = pure false) Mine.autoR) : wpAny (model prog w) A (execs (.Expr e pos :: rest) env) Q E s :=
  wpAny_execs_cons (wpAny_Expr (wpAny_mono h (fun v s' hv => by (refine Mine.el0b hv fun hq4 hq5 => ?_; clear hv; revert hq5; intro hv; obtain rfl := hq4); exact hv) fun _ _ q => q) hi hs)
theorem mem_lookup {α : Type} : ∀ {l : List (Str × α)} {x : Str} {a : α}, l.lookup x = some a → (x, a) ∈ l
  | [], _, _, h => by cases h
  | (y, b) :: l, x, a, h => by
    rw [List.lookup_cons] at h
    cases hb : x == y with
    | true => rw [hb] at h; cases h; rw [beq_iff_eq.mp hb]; exact .head _
    | false => rw [hb] at h; exact .tail _ (mem_lookup h)
/-- a name of the frame around, in a comprehension -/
theorem ev_free {scope : Scope} {cells : List (Str × Addr)} {L : Addr} {X₀ : Addr → Prop} {lo : Nat} {x : Str} {pos : Pos} {p : PV} (S : Sit prog w K mb n C X A (compEnvC scope cells L env) ρ s) (ce : CE scope cells L env Y X₀ lo) (hx : ρ.lookup x = some p) (hs : scope.names.lookup x = some .free)
    (hd : autoParam ((x == ("__debug__" : Str)) = false) Mine.autoD) (hn : autoParam ((x == ("__classdict__" : Str)) = false) Mine.autoD) : Ev prog w C X A (compEnvC scope cells L env) (.Name x pos) p s := by
  refine ev_var S hx (.inr ⟨?_, ce.fr x (mem_lookup hs)⟩) hd hn
  have hk : (compEnvC scope cells L env).kindOf x = (relabel scope env).names.lookup x := rfl
  rw [hk, lookup_relabel, hs]
  simp only [Option.map_some]
  split <;> simp
theorem ev_loc {scope : Scope} {cells : List (Str × Addr)} {L : Addr} {x : Str} {pos : Pos} {p : PV} (S : Sit prog w K mb n C X A (compEnvC scope cells L env) ρ s) (hx : ρ.lookup x = some p) (hs : scope.names.lookup x = some .local)
    (hd : autoParam ((x == ("__debug__" : Str)) = false) Mine.autoD) (hn : autoParam ((x == ("__classdict__" : Str)) = false) Mine.autoD) : Ev prog w C X A (compEnvC scope cells L env) (.Name x pos) p s := by
  refine ev_var S hx (.inl ?_) hd hn
  have hk : (compEnvC scope cells L env).kindOf x = (relabel scope env).names.lookup x := rfl
  rw [hk, lookup_relabel, hs]
  rfl
end Mine
end
section
open PySem PySem.W PySem.Calls PyProof.Rows
set_option Elab.async false
set_option maxRecDepth 100000
set_option linter.unusedVariables false
namespace Mine
variable {prog : Program} {w : World} {K : Frag} {mb : Str → Option Value} {X Y : Addr → Prop} {C : Mem} {s s' s'' : Shared} {A : Around} {env : Env} {ρ : List (Str × PV)} {n : Nat}

theorem Mut.monoX {a : Addr} {l : List PV} {h : Heap} (m : Mut X a l h) (hY : ∀ b, Y b → X b ∨ h.objs.size ≤ b) : Mut Y a l h := let ⟨items, hl, hr⟩ := m; ⟨items, hl, hr.monoX hY⟩
theorem evm_list {es : List Expr} {pos : Pos} {ps : List PV} (S : Sit prog w K mb n C X A env ρ s) (h : Evs prog w C X A env es ps s) (hsz : ps.length ≤ sizeLine) : EvM prog w C X A env (.List es pos) ps s := by
  intro s₁ e₁ Q E k
  refine List_ ?_
  rw [h.1, backTo_plain]
  refine h.2 s₁ e₁ _ _ fun vs s₂ e₂ r => wpAny_newObj_type (k _ _ (e₂.trans .push) ⟨_, rfl, (e₁.trans e₂).size, vs.toArray, ⟨_, Heap.get?_push_size _ rfl⟩, ?_⟩) ?_
  · exact (r.monoX fun b hb => hb.imp id (by rintro rfl; exact Nat.le_refl _)).keeps fun _ _ e => Heap.get?_push_of_some _ e
  · show vs.toArray.size ≤ sizeLine
    rw [List.size_toArray, r.length]; exact hsz

/-- x.append(e) -/
theorem x_append {x : Str} {px apos cpos pos : Pos} {e : Expr} {rest : List Stmt} {a : Addr} {l : List PV} {p : PV} {pl : Sem Bool} {Q : Flow → Shared → Prop} {E : Value → Shared → Prop} (S : Sit prog w K mb n C X A env ρ s) (hx : ρ.lookup x = some (.val (.ref a))) (hk : env.kindOf x = some .local)
    (hm : Mut X a l s.heap) (hX : X a) (hfa : ¬ FrO env a) (he : Ev prog w C X A env e p s) (hsz : l.length ≤ sizeLine)
    (k : ∀ s', Ext prog w (fun b => b = a) C s s' → Sit prog w K mb n C X A env ρ s' → Mut X a (l ++ [p]) s'.heap → wpAny (model prog w) A (execs rest env) Q E s')
    (hst : autoParam (starEach [e] env = [(false, eval e env)]) Mine.autoR)
    (hev : autoParam (eval (.Call (.Attribute (.Name x px) "append" apos) [e] [] cpos) env = (do
      let ov ← eval (.Name x px) env
      standAt apos.atName
      let (f, first) ← holding [ov] (getMethod ov "append" pl)
      callWith cpos f first (backTo cpos (starEach [e] env)) [])) Mine.autoR)
    (hi : autoParam (interactive env = false) Mine.autoR) (hs : autoParam (swapsWith (.Call (.Attribute (.Name x px) "append" apos) [e] [] cpos) none pos.line env = pure false) Mine.autoR) (hd : autoParam ((x == ("__debug__" : Str)) = false) Mine.autoD) :
    wpAny (model prog w) A (execs (.Expr (.Call (.Attribute (.Name x px) "append" apos) [e] [] cpos) pos :: rest) env) Q E s := by
  refine x_expr ?_ hi hs
  refine Mine.el1b S.fm.ns fun m hn hv => ?_; try k_fold
  refine Mine.el1b (hv x _ hx hk) fun v h1 h2 => ?_; try k_fold
  cases h2
  refine MethodCall_ (wpAny_Name (wpAny_loadName_local S.fm.kind hk hn h1 ?_) hd) hev
  (refine Mine.el1b hm fun items hl hr => ?_; try clear hm)
  refine Mine.el1a (id hl) fun j ho => ?_; try k_fold
  refine getMethod_list_append ho rfl rfl ?_; try k_fold
  have hE : Evs prog w C X A env [e] [p] s := evs_cons he evs_nil hst
  show wpAny _ A (callWith cpos (.builtin "list.append") [.ref a] (backTo cpos (starEach [e] env)) []) _ _ s
  rw [hE.1, backTo_plain]
  refine callWith_builtin plain_any (do_evalArgs hE.2 s .refl _ _ fun av s₁ e₁ r => ?_)
  obtain ⟨pos', kw⟩ := av
  (refine Mine.el0b r fun hq2 hq1 => ?_; clear r; revert hq2; intro r; obtain rfl := hq1)
  refine Mine.Reps.elC r fun _ _ r1 r2 => ?_
  ·
    obtain ⟨_, rfl⟩ := r2.inv
    have S₁ := S.ext e₁
    have hl₁ : s₁.heap.PlainList a items := ⟨j, e₁.keepD ho (fun q => q) (by first | exact fun _ _ h => by cases h | exact fun _ h => by cases h | nofun)⟩
    have hlen : items.size = l.length := by simpa using hr.length
    refine wpAny_list_append_plain hl₁ (fun h' hl' hs' => ⟨rfl, ?_⟩) (by omega)
    have e₂ : Ext prog w (fun b => b = a) C s₁ { s₁ with heap := h' } := Ext.sameBut (t := s₁.toks) hs' rfl
    have e₂X : Ext prog w X C s₁ { s₁ with heap := h' } := e₂.mono fun b h => h ▸ hX
    refine k _ (e₁.ofNo.trans e₂) (S₁.extZ e₂ (fun b h => h ▸ hX) (fun q => hfa (.inl q.symm)) fun y c hc q => ?_) ⟨_, hl', ?_⟩
    · (refine Mine.el1b (S₁.fm.cell y c hc) fun ov hq5 _ => ?_; obtain ⟨o, ho', hd'⟩ := hq5)
      (refine Mine.el1a hl₁ fun n' ho'' => ?_; try clear hl₁)
      rw [q, ho''] at ho'; cases ho'; cases hd'
    · rw [Array.toList_push]
      exact ((hr.ext e₁.ofNo).ext e₂X).append (.cons (r1.ext e₂X) .nil)
end Mine
end
section
open PySem PySem.W PySem.Calls PyProof.Rows
set_option Elab.async false
set_option maxRecDepth 100000
set_option linter.unusedVariables false
namespace Mine
variable {prog : Program} {w : World} {K : Frag} {mb : Str → Option Value} {X Y : Addr → Prop} {C : Mem} {s s' s'' : Shared} {A : Around} {env : Env} {ρ : List (Str × PV)} {n : Nat}

/-- a def that may also change what stood before the call (at Z) -/
theorem call_raw {a : Addr} {fd : FuncData} {names : List Str} {body : List Stmt} {vs vs' : List Value} {ps : List PV} {Z : Addr → Prop} {Q : Value → Shared → Prop} {E : Value → Shared → Prop} (S : Sit prog w K mb (n + 1) C X A env ρ s) (F : FnAt K a fd names body) (hr : Reps X s.heap vs' ps) (hl : names.length = vs'.length)
    (hbind : ∀ (Q : List (Str × Value) → Shared → Prop) (E : Value → Shared → Prop), Q (names.zip vs') s → wpAny (model prog w) A.in1 (bindArgs fd ⟨vs, []⟩) Q E s)
    (h : ∀ L s₁ X', Ext prog w noX C s s₁ → Own X' (fEnv fd a L) → (∀ b, X b → X' b) → (∀ b, X' b → X b ∨ FrO (fEnv fd a L) b) → (∀ b, FrO (fEnv fd a L) b → s.heap.objs.size ≤ b) → Sit prog w K mb n C X' (A.deeper (fEnv fd a L)) (fEnv fd a L) (names.zip ps).reverse s₁ →
      wpAny (model prog w) (A.deeper (fEnv fd a L)) (execs body (fEnv fd a L)) (fun f s' => ∀ v, v = (match f with | .ret v => v | _ => .none) → Ext prog w (fun b => FrO (fEnv fd a L) b ∨ Z b) C s₁ s' ∧ (Ext prog w Z C s s' → Q v s')) (fun _ _ => False) s₁) :
    wpAny (model prog w) A (call (.ref a) vs) Q E s := by
  refine Mine.el1b F.at_ fun o ho hd => ?_
  refine Mine.el4d F.code fun c oc fs t hc1 hc2 hc3 hc4 => ?_
  refine wpAny_call (codeAny_call_function S.rm.room (S.base.frag _ _ ho) hd F.co F.gen F.body ⟨c, oc, fs, t, hc1, S.base.frag _ _ hc2, hc3, hc4⟩ ?_)
  have S' : Sit prog w K mb n C X A.in1 env ρ s := ⟨S.base, S.rm.in1, S.bd, S.xo, S.co, S.fm⟩
  refine hbind _ _ (newFrame S' S.rm.in1 F.kind F.globals F.builtins F.closure hr hl F.kinds fun L s₂ X' e₂ hL O hXX hlo S₂ => ⟨(S₂ A.in1 S.rm.in1).base.noLimit, codeAny_func ?_⟩)
  have O2 : Own (fun b => X b ∨ FrO (fEnv fd a L) b) (fEnv fd a L) := ⟨fun b q => .inr q, O.ap⟩
  have S₃ : Sit prog w K mb n C (fun b => X b ∨ FrO (fEnv fd a L) b) (A.deeper (fEnv fd a L)) (fEnv fd a L) (names.zip ps).reverse s₂ := (S₂ _ S.rm.deeper).ofSub fun b q => Or.elim q (hXX b) (O.own b)
  refine wpAny_mono (h L s₂ _ e₂ O2 (fun b q => .inl q) (fun b q => q) hlo S₃) (fun f s' hf => ?_) fun _ _ x => x.elim
  refine Mine.el0b (hf _ rfl) fun e₃ r => ?_
  exact r (e₂.ofNo.freshZ e₃ fun b q => q.elim (fun q => .inr (hlo b q)) .inl)
end Mine
end
section
open PySem PySem.W PySem.Calls PyProof.Rows
set_option Elab.async false
set_option linter.unusedVariables false
namespace Mine
/-! what _ellipsis_match computes -/
noncomputable def emGo (got : Str) (hi : Int) : List Str → Int → Bool
  | [], _ => true
  | y :: ys, lo => if findP got y lo hi < 0 then false else emGo got hi ys (findP got y lo hi + y.length)
noncomputable def emC (got : Str) (lo : Nat) (ws1 : List Str) (b : Str) : Bool :=
  if b.length != 0 && !Txt.endswith got b then false else
  if (lo : Int) > got.length - b.length then false else emGo got (got.length - b.length) (if b.length != 0 then ws1.dropLast else ws1) lo
noncomputable def emB (got : Str) (a : Str) (ws : List Str) : Bool :=
  if a.length != 0 && !Txt.startswith got a then false else
  emC got a.length (if a.length != 0 then ws.tail else ws) ((if a.length != 0 then ws.tail else ws).getLastD ⟨#[]⟩)
noncomputable def emW (ws : List Str) (got : Str) : Bool := emB got (ws.headD ⟨#[]⟩) ws
theorem emW_no1 {got w0 : Str} {wr : List Str} (h : (w0.length != 0 && !Txt.startswith got w0) = true) : emW (w0 :: wr) got = false := by
  show emB got w0 (w0 :: wr) = false
  unfold emB; rw [if_pos h]
theorem emW_1 {got w0 wl : Str} {wr ws1 : List Str} (h : (w0.length != 0 && !Txt.startswith got w0) = false) (hws1 : (if w0.length != 0 then wr else w0 :: wr) = ws1) (hne : ws1 ≠ []) (hwd : ws1.getLast hne = wl) : emW (w0 :: wr) got = emC got w0.length ws1 wl := by
  show emB got w0 (w0 :: wr) = _
  unfold emB
  rw [if_neg (by rw [h]; decide), List.tail_cons, hws1, List.getLastD_eq_getLast?, List.getLast?_eq_some_getLast hne, hwd]
  rfl
theorem emC_no {got wl : Str} {ws1 : List Str} {lo : Nat} (h : (wl.length != 0 && !Txt.endswith got wl) = true) : emC got lo ws1 wl = false := by unfold emC; rw [if_pos h]
theorem emC_1 {got wl : Str} {ws1 ws2 : List Str} {lo : Nat} (h : (wl.length != 0 && !Txt.endswith got wl) = false) (hws2 : (if wl.length != 0 then ws1.dropLast else ws1) = ws2) : emC got lo ws1 wl = if (lo : Int) > got.length - wl.length then false else emGo got (got.length - wl.length) ws2 lo := by
  unfold emC; rw [if_neg (by rw [h]; decide), hws2]
noncomputable def emPos (got : Str) (hi lo : Int) (ws : List Str) : Nat → Int
  | 0 => lo
  | i + 1 => match ws[i]? with | some y => findP got y (emPos got hi lo ws i) hi + y.length | none => 0
theorem emGo_step {got : Str} {hi lo : Int} {ws : List Str} {i : Nat} {y : Str} (hy : ws[i]? = some y) (h : emGo got hi ws lo = emGo got hi (ws.drop i) (emPos got hi lo ws i)) :
    (findP got y (emPos got hi lo ws i) hi < 0 → emGo got hi ws lo = false) ∧ (¬ findP got y (emPos got hi lo ws i) hi < 0 → emGo got hi ws lo = emGo got hi (ws.drop (i + 1)) (emPos got hi lo ws (i + 1))) := by
  have hd : ws.drop i = y :: ws.drop (i + 1) := by
    obtain ⟨hlt, rfl⟩ := List.getElem?_eq_some_iff.mp hy
    exact List.drop_eq_getElem_cons hlt
  rw [h, hd]
  simp only [emGo, emPos, hy]
  exact ⟨fun q => if_pos q, fun q => if_neg q⟩
end Mine
end
section
open PySem PySem.W PySem.Calls PyProof.Rows
set_option Elab.async false
set_option linter.unusedVariables false
namespace Mine
/-! what names computes -/
noncomputable def nmB (mods dirs : List Str) (fn : Option Str) (m : Str) : Bool :=
  decide (m ∈ mods) || mods.any (fun y => Txt.startswith m (y ++ ".")) || (match fn with | none => true | some f => dirs.any fun d => Txt.startswith f (d ++ "/"))
noncomputable def nmR (mods dirs : List Str) (fn : Option Str) (m : Str) : Int := if nmB mods dirs fn m then 1 else 0
noncomputable def fnPV : Option Str → PV
  | none => .none
  | some f => .str f
theorem any_same {xs l : List Str} {f : Str → Bool} (h : ∀ x, x ∈ xs ↔ x ∈ l) : xs.any f = l.any f := by
  rw [Bool.eq_iff_iff, List.any_eq_true, List.any_eq_true]
  exact ⟨fun ⟨x, a, b⟩ => ⟨x, (h x).mp a, b⟩, fun ⟨x, a, b⟩ => ⟨x, (h x).mpr a, b⟩⟩
theorem len_sz1 {i : Nat} (h : i ≤ 1000) {j : Nat} (hj : autoParam (j ≤ 1) Mine.autoD) : i + j ≤ sizeLine := Nat.le_trans (Nat.add_le_add h hj) (by decide)
end Mine
end
section
open PySem PySem.W PySem.Calls PyProof.Rows
set_option Elab.async false
set_option linter.unusedVariables false
namespace Mine
/-! plain words of both laws -/
noncomputable def partsP (word sign : Str) : List Str := word.cps.toList.map fun c => if (⟨#[c]⟩ : Str) = sign then sign else sign ++ sign
/-- _ellipsis_match, its answer known -/
structure EmOk (want got : Str) (r : Bool) : Prop where
  ex : ∃ ws, Txt.contains want "..." = true ∧ Txt.split want "..." = ws ∧ 2 ≤ ws.length ∧ want.length ≤ 1000 ∧ got.length ≤ 1000 ∧ ws.length ≤ 1000 ∧ (∀ y ∈ ws, y.length ≤ 1000) ∧ emW ws got = r
noncomputable def keptP (comps : List Str) : List Str := comps.filter fun c => c.length != 0 && !decide (c = ".")
noncomputable def normP (p : Str) : Str := "/" ++ Txt.join "/" (keptP (Txt.split (spick p (some 1) none none) "/"))
theorem str_len_app (x y : Str) : (x ++ y).length = x.length + y.length := by
  show (x.cps ++ y.cps).size = _
  rw [Array.size_append]; rfl
/-- a path that normpath takes to r -/
structure NormOk (p r : Str) : Prop where
  ex : ∃ comps, p.length ≤ 1000 ∧ (p.length != 0) = true ∧ spick p none (some 1) none = "/" ∧ spick p (some 1) (some 2) none ≠ "/" ∧ (spick p (some 1) none none).length ≤ 1000 ∧ Txt.split (spick p (some 1) none none) "/" = comps ∧ comps.length ≤ 1000 ∧ (∀ c ∈ comps, c.length ≤ 1000 ∧ c ≠ "..") ∧ JoinOk "/" (keptP comps) = true ∧ (Txt.join "/" (keptP comps)).length ≤ 100000 ∧ r = "/" ++ Txt.join "/" (keptP comps)
noncomputable def leadPath (word sign : Str) : Str := Txt.join "/" (("/q" :: "." :: partsP word sign))
noncomputable def fileP (σ lack : Str) : Str := Txt.join "/" ("/q" :: (partsP lack σ ++ [("f" : Str)]))
end Mine
end
section
open PySem PySem.W PySem.Calls PyProof.Rows
set_option Elab.async false
set_option linter.unusedVariables false
namespace Mine
/-! what _law_grown computes -/
noncomputable def chrs (x : Str) : List Str := x.cps.toList.map fun c => ⟨#[c]⟩
noncomputable def grStep (kp : Str → Bool) (signs : Str) (level : List Str) : List Str := level.flatMap fun w => ((chrs signs).filter fun c => kp (w ++ c)).map fun c => w ++ c
noncomputable def grLv (kp : Str → Bool) (signs : Str) : Nat → List Str
  | 0 => [⟨#[]⟩]
  | i + 1 => grStep kp signs (grLv kp signs i)
noncomputable def grW (kp : Str → Bool) (signs : Str) : Nat → List Str
  | 0 => [⟨#[]⟩]
  | i + 1 => grW kp signs i ++ grLv kp signs (i + 1)
/-- the words asked in the first turns -/
noncomputable def AskW (kp : Str → Bool) (signs : Str) (i : Nat) (u : Str) : Prop := ∃ j, j < i ∧ ∃ w ∈ grLv kp signs j, ∃ c ∈ chrs signs, u = w ++ c
noncomputable def PairAsk (lv cs : List Str) (a b : Nat) (u : Str) : Prop := ∃ a' b' w c, lv[a']? = some w ∧ cs[b']? = some c ∧ (a' < a ∨ (a' = a ∧ b' < b)) ∧ u = w ++ c
theorem pairAsk_all {lv cs : List Str} {u w c : Str} (hw : w ∈ lv) (hc : c ∈ cs) (hu : u = w ++ c) : PairAsk lv cs lv.length 0 u := by
  obtain ⟨a, ha, rfl⟩ := List.getElem_of_mem hw
  obtain ⟨b, hb, rfl⟩ := List.getElem_of_mem hc
  exact ⟨a, b, _, _, List.getElem?_eq_getElem ha, List.getElem?_eq_getElem hb, .inl ha, hu⟩
theorem pairAsk_row {lv cs : List Str} {a : Nat} {u : Str} (h : PairAsk lv cs (a + 1) 0 u) : PairAsk lv cs a cs.length u := by
  (refine Mine.el4d h fun a' b' w c h1 h2 h3 h4 => ?_; try clear h)
  refine ⟨a', b', w, c, h1, h2, ?_, h4⟩
  have hb := (List.getElem?_eq_some_iff.mp h2).1
  rcases h3 with h | ⟨_, h⟩
  · rcases Nat.lt_succ_iff_lt_or_eq.mp h with h | h
    · exact .inl h
    · exact .inr ⟨h, hb⟩
  · exact absurd h (Nat.not_lt_zero _)
theorem pairAsk_step {lv cs : List Str} {a b : Nat} {u w c : Str} (hw : lv[a]? = some w) (hc : cs[b]? = some c) (h : PairAsk lv cs a (b + 1) u) : PairAsk lv cs a b u ∨ u = w ++ c := by
  (refine Mine.el4d h fun a' b' w' c' h1 h2 h3 h4 => ?_; try clear h)
  rcases h3 with h | ⟨rfl, h⟩
  · exact .inl ⟨a', b', w', c', h1, h2, .inl h, h4⟩
  · rcases Nat.lt_succ_iff_lt_or_eq.mp h with h | rfl
    · exact .inl ⟨a', b', w', c', h1, h2, .inr ⟨rfl, h⟩, h4⟩
    · rw [hw] at h1; rw [hc] at h2
      cases h1; cases h2
      exact .inr h4
/-! what _law_longest computes -/
noncomputable def longP (em : Str → Bool) : List Str → Option Str
  | [] => none
  | b :: bs => if em b then some b else longP em bs
noncomputable def optPV : Option Str → PV
  | none => .none
  | some x => .str x
end Mine
end
section
open PySem PySem.W PySem.Calls PyProof.Rows
set_option Elab.async false
set_option maxRecDepth 100000
set_option linter.unusedVariables false
namespace Mine
variable {prog : Program} {w : World} {K : Frag} {mb : Str → Option Value} {X Y : Addr → Prop} {C C' : Mem} {s s' s'' : Shared} {A : Around} {env : Env} {ρ : List (Str × PV)} {n : Nat}

/-! a new memo -/
noncomputable def setC (C : Mem) (c : Addr) (P : Str → Int → Prop) : Mem := fun a => if a = c then some P else C a
theorem setC_self {c : Addr} {P : Str → Int → Prop} : setC C c P c = some P := if_pos rfl
theorem setC_ne {a c : Addr} {P : Str → Int → Prop} (h : a ≠ c) : setC C c P a = C a := if_neg h
theorem Ext.newC {Z : Addr → Prop} (h : Ext prog w Z C s s') (h' : Ext prog w Z C' s' s'') (hC : ∀ a, a < s.heap.objs.size → C' a = C a) : Ext prog w Z C s s'' := by
  refine ⟨Nat.le_trans h.size h'.size, fun b o e hx => ?_, h'.gens.trans h.gens, h'.os.trans h.os⟩
  have hb : C' b = C b := hC b (Heap.lt_size e)
  rcases h.keep b o e hx with k | ⟨P, hP, es, o', more, m1, k, m2, hm⟩
  · rcases h'.keep b o k hx with k' | ⟨P, hP, r⟩
    · exact .inl k'
    · exact .inr ⟨P, hb ▸ hP, r⟩
  · rcases h'.keep b o' k hx with k' | ⟨P', hP', es', o'', more', m1', k', m2', hm'⟩
    · exact .inr ⟨P, hP, es, o', more, m1, k', m2, hm⟩
    · rw [hb, hP] at hP'; cases hP'
      have := m1'.unique m2; subst this
      refine .inr ⟨P, hP, es, o'', more ++ more', m1, k', by rw [← List.append_assoc]; exact m2', fun p hp => ?_⟩
      rcases List.mem_append.mp hp with hp | hp
      · exact hm p hp
      · exact hm' p hp
/-- the memo of a new reader -/
noncomputable def NewMemo (prog : Program) (w : World) (h : Heap) (c : Addr) : Prop := ∃ o, h.get? c = some o ∧ MemoEs prog w o [("<string>", 1)]
theorem Sit.newC {c : Addr} {P : Str → Int → Prop} (S : Sit prog w K mb n C X A env ρ s) (hf : FreeA K c) (hX : ¬ X c) (hm : NewMemo prog w s.heap c) (hl : env.locals ≠ c) : Sit prog w K mb n (setC C c P) X A env ρ s := by
  refine ⟨S.base, S.rm, S.bd, S.xo, fun a P' h => ?_, S.fm.kind, S.fm.globals, S.fm.builtins, by rw [setC_ne hl]; exact S.fm.cl, S.fm.ns, S.fm.cell⟩
  by_cases ha : a = c
  · subst ha
    (refine Mine.el1b hm fun o ho he => ?_; try clear hm)
    exact ⟨hf, hX, o, _, ho, he⟩
  · rw [setC_ne ha] at h
    exact S.co a P' h
theorem NewMemo.ok {h : Heap} {c : Addr} {P : Str → Int → Prop} (m : NewMemo prog w h c) : MemoOk prog w h c P := by
  (refine Mine.el1b m fun o ho he => ?_; try clear m)
  exact ⟨o, _, ho, he, fun p hp => by rw [List.mem_singleton] at hp; subst hp; exact .inl ⟨rfl, rfl⟩⟩
theorem NewMemo.ext {Z : Addr → Prop} {c : Addr} (m : NewMemo prog w s.heap c) (e : Ext prog w Z C s s') (hZ : ¬ Z c) (hC : C c = none) : NewMemo prog w s'.heap c := let ⟨o, ho, he⟩ := m; ⟨o, e.keepAt ho hZ hC, he⟩
theorem Rdr.newC {cl x c : Addr} {b : Nat} {mods dirs : List Str} {h : Heap} {P : Str → Int → Prop} (R : Rdr prog w C cl h b x c mods dirs) (hdx : ∀ dx o, h.get? x = some o → o.dict = some dx → dx ≠ c) : Rdr prog w (setC C c P) cl h b x c mods dirs := by
  (refine Mine.el3b R fun ms ds mA hq1 r => ?_; try clear R; obtain ⟨dx, o, ho, h1, h2, h3, h4, h5, h6, h7, h8⟩ := hq1)
  exact ⟨ms, ds, mA, ⟨dx, o, ho, h1, h2, h3, h4, h5, h6, h7, by rw [setC_ne (hdx dx o ho h3)]; exact h8⟩, r⟩

/-- an if expression that tells more -/
theorem ev_ifexpR {test body orelse : Expr} {pos : Pos} {b : Bool} {R : Value → Shared → Prop} (ht : Ts prog w C A env test b s) (h1 : b = true → Do prog w C A (eval body env) R s) (h2 : b = false → Do prog w C A (eval orelse env) R s) : Do prog w C A (eval (.IfExp test body orelse pos) env) R s := by
  intro s₁ e₁ Q E k
  refine wpAny_IfExp (ht s₁ e₁ _ _ fun b' s₂ e₂ hb => ?_)
  subst hb
  cases b' with
  | true => exact h1 rfl s₂ (e₁.trans e₂) _ _ fun v s₃ e₃ r => k v s₃ (e₂.trans e₃) r
  | false => exact h2 rfl s₂ (e₁.trans e₂) _ _ fun v s₃ e₃ r => k v s₃ (e₂.trans e₃) r

/-- an object that is being filled -/
noncomputable def InsM (C : Mem) (cl : Addr) (h : Heap) (x dx : Addr) (mA : Str → Option Value) : Prop :=
  ∃ o, h.get? x = some o ∧ o.cls = .ref cl ∧ o.data = .plain ∧ o.dict = some dx ∧ dx ≠ x ∧ h.Ns1 dx mA ∧ C dx = none
theorem InsM.ext {cl x dx : Addr} {Z : Addr → Prop} {mA : Str → Option Value} (I : InsM C cl s.heap x dx mA) (e : Ext prog w Z C s s') (h1 : ¬ Z x) (h2 : ¬ Z dx) : InsM C cl s'.heap x dx mA := by
  (refine Mine.el1g I fun o ho hc hd hdx hne hn h3 => ?_; try clear I)
  exact ⟨o, e.keepD ho h1 (by rw [hd]; first | exact fun _ _ h => by cases h | exact fun _ h => by cases h | nofun), hc, hd, hdx, hne, hn.at fun o ho => e.keepAt ho h2 h3, h3⟩
/-- self.name = value -/
theorem x_setattr {cl N x dx : Addr} {mN mA : Str → Option Value} {ns : List Str} {o value : Expr} {name : Str} {apos pos : Pos} {rest : List Stmt} {R : Value → Shared → Prop} {Q : Flow → Shared → Prop} {E : Value → Shared → Prop} (S : Sit prog w K mb n C X A env ρ s) (O : Own X env) (H : ClsAt K cl N mN) (I : InsM C cl s.heap x dx mA)
    (hxX : X x) (hdX : X dx) (hxF : ¬ FrO env x) (hdF : ¬ FrO env dx) (hv : Do prog w C A (eval value env) R s) (ho : Ev prog w C X A env o (.val (.ref x)) s) (hna : mN name = none) (hB : typeLookup (.type "object") name = pure none) (hxc : x ≠ cl) (hw : PySem.Within mA ns) (hns : ns.length ≤ sizeLine)
    (hcell : ∀ y c, env.cells.lookup y = some c → c ≠ x ∧ c ≠ dx)
    (hs : swapsWithSole [.Attribute o name apos] value pos.line env = pure false) (hsw : swappedStores [.Attribute o name apos] value env = pure none)
    (k : ∀ v s₁ s', R v s₁ → Ext prog w noX C s s₁ → Ext prog w (fun b => b = x ∨ b = dx) C s₁ s' → Sit prog w K mb n C X A env ρ s' → InsM C cl s'.heap x dx (fun y => if y = name then some v else mA y) → wpAny (model prog w) A (execs rest env) Q E s') :
    wpAny (model prog w) A (execs (.Assign [.Attribute o name apos] value pos :: rest) env) Q E s := by
  refine wpAny_execs_cons ?_; try k_fold
  rw [exec_Assign]
  refine wpAny_bind (wpAny_standAt ?_)
  rw [hs]
  refine wpAny_bind (wpAny_pure ?_)
  rw [if_neg (by decide)]
  refine wpAny_bind (hv s .refl _ _ fun v s₁ e₁ rv => ?_)
  rw [hsw]
  refine wpAny_bind (wpAny_pure ?_)
  show wpAny _ A (do assignAll v [assign (.Attribute o name apos) env]; pure Flow.next) _ _ s₁
  refine wpAny_bind ?_; try k_fold
  show wpAny _ A (assign (.Attribute o name apos) env v) _ _ s₁
  rw [arm_assign_Attribute]
  refine wpAny_bind (wpAny_holding (ho.run e₁ fun ov s₂ e₂ r => wpAny_bind (wpAny_standAt (wpAny_bind (wpAny_holding ?_)))))
  refine Mine.Rep.elV r fun _ => ?_; try k_fold
  have S₂ := S.ext (e₁.trans e₂)
  refine Mine.el1g (I.ext (e₁.trans e₂) (fun q => q) (fun q => q)) fun oo hoo hc hd hdx hne hn hCd => ?_; try k_fold
  obtain ⟨nm, q, bs, sn, sub, col, dd, k0, k1, k2, k3, k5, hcl⟩ := H.cls
  have hC := S₂.base.frag _ _ hcl
  have hnN := H.nsH S₂.base.frag
  have hI : s₂.heap.Inst x cl mA := ⟨oo, hoo, hc, (by rw [hd]; first | exact fun _ _ h => by cases h | exact fun _ h => by cases h | nofun), .inr ⟨dx, hdx, hne, hn⟩⟩
  refine with_size ?_; try k_fold
  obtain ⟨h, g, d, t, os⟩ := s₂
  refine store_attr F.store_object hC hnN H.sa hna hB hxc hI (fun h' tk' hI' hk hx' hsz => ?_) hw hns
  refine wpAny_release (wpAny_pure ?_)
  have e₃ : Ext prog w (fun b => b = x ∨ b = dx) C ⟨h, g, d, t, os⟩ ⟨h', g, d, tk', os⟩ := ⟨hsz, fun b o e hb => .inl (hk b o (fun q => hb (.inl q)) (fun o₀ dx' h1 h2 q => hb (.inr (by
    rw [hoo] at h1; cases h1; rw [hdx] at h2; cases h2; exact q))) e), rfl, rfl⟩
  refine k v s₁ _ rv e₁ (e₂.ofNo.trans e₃) (S₂.extZ e₃ (fun b q => q.elim (fun q => q ▸ hxX) fun q => q ▸ hdX) (fun q => q.elim (fun q => hxF (.inl q.symm)) fun q => hdF (.inl q.symm)) fun y c hy q => ?_) ?_
  · exact q.elim (hcell y c hy).1 (hcell y c hy).2
  · refine Mine.el1e (hx' oo hoo) fun o₁ ho₁ hc₁ hd₁ _ hdx₁ => ?_; try k_fold
    (refine Mine.el1d hI' fun o₂ ho₂ _ _ hh => ?_; try clear hI')
    obtain rfl := Option.some.inj (ho₁.symm.trans ho₂)
    refine ⟨o₁, ho₁, hc₁.trans hc, hd₁.trans hd, hdx₁ dx hdx, hne, ?_, hCd⟩
    rcases hh with ⟨h0, _⟩ | ⟨d', h1, _, h2⟩
    · rw [hdx₁ dx hdx] at h0; cases h0
    · rw [hdx₁ dx hdx] at h1; cases h1; exact h2
end Mine
end
section
open PySem PySem.W PySem.Calls PyProof.Rows
set_option Elab.async false
set_option maxRecDepth 100000
set_option linter.unusedVariables false
namespace Mine
variable {prog : Program} {w : World} {K : Frag} {mb : Str → Option Value} {X Y : Addr → Prop} {C C' : Mem} {s s' s'' : Shared} {A : Around} {env : Env} {ρ : List (Str × PV)} {n : Nat}

/-- {'<string>': 1} -/
theorem do_memo {pos p1 p2 : Pos} {k1 k2 : Nat} : Do prog w C A (eval (.Dict [some (.Constant (.str "<string>") k1 p1)] [.Constant (.int 1) k2 p2] pos) env) (fun v s' => ∃ c, v = .ref c ∧ s.heap.objs.size ≤ c ∧ NewMemo prog w s'.heap c) s := by
  intro s₁ e₁ Q E k
  refine with_size (wpAny_Dict_walk (knd := strKind prog w) rfl rfl (by nofun) (show 1 ≤ 15 by decide) (pairTrees_cons_walk ?_))
  have e₂ : Ext prog w noX C s₁ { s₁ with heap := s₁.heap.push { cls := .type "dict", data := .dict #[] } } := .push
  refine ev_cstr (X := noX) (C := noMem) _ .refl _ _ fun kv s₂ e₃ rk => ev_cint (X := noX) (C := noMem) _ .refl _ _ fun vv s₃ e₄ rv => pairTrees_nil_walk ?_
  (refine Mine.el1a rk.inv fun tk hq1 => ?_; obtain rfl := hq1)
  (refine Mine.el1a rv.inv fun tv hq2 => ?_; obtain rfl := hq2)
  have hnew : (s₁.heap.push { cls := .type "dict", data := .dict #[] }).get? s₁.heap.objs.size = some { cls := .type "dict", data := .dict #[] } := Heap.get?_push_size _ rfl
  refine ⟨[("<string>", .int 1 tv)], ?_, ?_, fun h' hd hs hsz => k _ _ ?_ ⟨_, rfl, e₁.size, ?_⟩⟩
  · exact ⟨strKind_is prog w _ tk, rfl, trivial⟩
  · refine Mine.el3b (Heap.DictOf.new (knd := strKind prog w) s₁.heap) fun o es ep ho r => ?_
    exact ⟨o, es, ep, e₄.keepAt (e₃.keepAt ho (fun q => q) rfl) (fun q => q) rfl, r⟩
  · exact (e₂.trans (e₃.ofPure.trans e₄.ofPure)).fresh (Ext.sameBut (X := fun b => b = s₁.heap.objs.size) hs rfl) fun a q => q ▸ Nat.le_refl _
  · refine Mine.el1b (Heap.dictOf_iff.mp hd) fun o ho hh => ?_
    exact ⟨o, ho, [("<string>", 1, tv)], hh, rfl⟩

noncomputable def lstPV : Option (List Str) → PV
  | none => .none
  | some l => .list (l.map .str)
theorem ts_lst {x : Str} {pos : Pos} {ol : Option (List Str)} (h : Ev prog w C X A env (.Name x pos) (lstPV ol) s) (hl : (ol.getD []).length ≤ sizeLine) : Ts prog w C A env (.Name x pos) (!(ol.getD []).isEmpty) s := by
  intro s₁ e₁ Q E k
  show wpAny _ A (eval (.Name x pos) env >>= _) _ _ _
  refine wpAny_bind (h s₁ e₁ _ _ fun v s₂ e₂ r => wpAny_bind (wpAny_standAt (wpAny_holding ?_)))
  cases ol with
  | none => refine Mine.Rep.elO r fun _ => ?_; exact truthy_none (k _ _ e₂ rfl)
  | some l =>
    refine Mine.Rep.elL r fun a items hx hl' hr => ?_
    ·
      have hn : items.size = l.length := by simpa using hr.length
      have h0 : sizeLine = 16777216 := by decide
      have hl2 : l.length ≤ sizeLine := hl
      refine wpAny_truthy_list hl' (by omega) ?_
      have : items.isEmpty = l.isEmpty := by
        cases l with
        | nil => simp at hn; simp [hn]
        | cons a b => simp at hn; simp [Array.isEmpty, hn]
      rw [this]
      exact k _ _ e₂.tokR rfl
/-- set() -/
theorem do_set0 : Do prog w C A (call (.type "set") []) (fun v s' => ∃ a, v = .ref a ∧ s.heap.objs.size ≤ a ∧ SetW prog w s'.heap a []) s := by
  intro s₁ e₁ Q E k
  refine call_set_0 fun led => k _ _ .push ⟨_, rfl, e₁.size, #[], 0, .fresh 0 0 led, ⟨_, Heap.get?_push_size _ rfl, ⟨rfl, rfl, rfl⟩, rfl⟩, fun e he => by simp at he, fun x => by simp, by decide, rfl, fun q => (q rfl).elim⟩
/-- set(l) -/
theorem do_set1 {vs : List Value} {l : List Str} (hh : A.handled = none) (r : Reps X s.heap vs [.list (l.map .str)]) (hl : l.length ≤ 4000) : Do prog w C A (call (.type "set") vs) (fun v s' => ∃ a, v = .ref a ∧ s.heap.objs.size ≤ a ∧ SetW prog w s'.heap a l) s := by
  refine Mine.Reps.elC r fun _ _ r1 r2 => ?_
  ·
    obtain ⟨_, rfl⟩ := r2.inv
    intro s₁ e₁ Q E k
    obtain ⟨d, rfl, hx, items, hil, tl, ht, hm⟩ := (r1.ext e₁.ofNo).listAt
    have hlen : items.size = l.length := by rw [← Array.length_toList, ht, ← hm]; simp [strValues]
    refine with_size (call_set1 hh hil (fun i v hv => ?_) hlen (Nat.lt_of_le_of_lt (Nat.succ_le_succ hl) (by decide)) fun h' tk hS hk hsz => k _ _ (.ofKeep hsz (fun b o e => hk b o (Heap.lt_size e) e) rfl rfl) ⟨_, rfl, e₁.size, hS.use⟩)
    rw [← Array.getElem?_toList, ht] at hv
    simp only [strValues, List.getElem?_map, Option.map_eq_some_iff] at hv
    (refine Mine.el1b hv fun hq8 h1 hq9 => ?_; try clear hv; obtain ⟨x, t⟩ := hq8; obtain rfl := hq9)
    exact ⟨x, t, by rw [← hm, List.getElem?_map, h1]; rfl, rfl⟩
end Mine
end
section
open PySem PySem.W PySem.Calls PyProof.Rows
set_option Elab.async false
set_option maxRecDepth 100000
set_option linter.unusedVariables false
namespace Mine
section
variable {prog : Program} {w : World} {A : Around} {E : Value → Shared → Prop} {h : Heap} {g : Array GenState} {d : Drawn} {t : Nat} {os : OsState}
variable {nm q : Str} {C N : Addr} {bs : List Value} {sn : List Str} {sub : List Value} {col : Option Bool} {dd : Option Addr} {k0 k1 k2 k3 k5 : Option Value} {newId : String}
/-- a class called: the object stands right behind the heap's end -/
theorem make_at (F : ObjNewFacts newId) {mN : Str → Option Value} {rest : List Value} {fI : Addr} {oI : Obj} {Q : Value → Shared → Prop}
    (hC : h.get? C = some (excClassObj nm q C N bs [.type "object"] true sn sub false col dd k0 k1 k2 k3 k5 newId)) (hn : h.Ns N mN) (hi : mN "__init__" = some (.ref fI)) (hfI : h.get? fI = some oI) (hfc : oI.cls = .type "function")
    (hq : wpAny (model prog w) (A.under (.builtin "type.__call__" ⟨.ref C :: rest, []⟩)) (call (.ref fI) (.ref (h.objs.size + 1) :: rest)) (fun r s' => r = .none ∧ Q (.ref (h.objs.size + 1)) s') E ⟨(h.push { cls := .type "dict", data := .dict #[] }).push { cls := .ref C, dict := some h.objs.size, data := .plain }, g, d, t, os⟩) :
    wpAny (model prog w) A (call (.ref C) rest) Q E ⟨h, g, d, t, os⟩ := by
  have f1 := tc_lookup
  have f2 := tc_bind (.ref C)
  have hT : (⟨h, g, d, t, os⟩ : Shared).TypeIs (.ref C) "type" := ⟨_, hC, rfl⟩
  refine wpAny_call (codeAny_of_tree ?_)
  show wpAny _ _ (callAny (.ref C) _) _ _ _
  repeat (any_goals (first | assumption | with_reducible refine wpAny_loadPart_at hC ?_ | wp_step))
  refine ⟨rfl, ?_⟩
  refine codeAny_call_builtin_at (Code.quiet_builtin _ (by decide +kernel)) entry_typeCall (wpAny_check_type_call_sub hC ?_)
  have hmro : mroOf (.type "object") = pure [.type "object"] := by kernel_rfl
  have hlk : typeLookup (.type "object") "__init__" = pure (some (.builtin "object.__init__")) := by rw [typeLookup_type, builtinLookup_eq_fast]; kernel_rfl
  repeat (first | with_reducible refine wpAny_loadPart_at hC ?_ | with_reducible refine wpAny_madeBy_exc hC ?_ | wp_step)
  refine codeAny_call_builtin_code (Code.quiet_builtin _ F.quiet) (wpAny_check_obj_new F hC ?_)
  refine codeAny_obj_new F hC hn hi ?_; try k_fold
  show wpAny _ _ _ _ _ _
  generalize hh : (h.push { cls := .type "dict", data := .dict #[] }).push { cls := .ref C, dict := some h.objs.size, data := .plain } = h2 at hq ⊢
  have keep : ∀ b o, h.get? b = some o → h2.get? b = some o := fun b o e => by rw [← hh]; exact Heap.get?_push_of_some _ (Heap.get?_push_of_some _ e)
  have hC₁ := keep _ _ hC
  have hfI₁ := keep _ _ hfI
  have hn₁ : h2.Ns N mN := let ⟨o, es, ep, e, r⟩ := hn; ⟨o, es, ep, keep _ _ e, r⟩
  have hget : h2.get? (h.objs.size + 1) = some { cls := .ref C, dict := some h.objs.size, data := .plain } := by rw [← hh]; heap_get
  have hcC : (Value.ref C :: [Value.type "object"]).contains (.ref C) = true := by simp
  unfold isInstance
  repeat (first | with_reducible refine wpAny_loadPart_at hget ?_ | (with_reducible refine wpAny_isSubtype_exc hC₁ ?_; rw [hcC]) | wp_step)
  show wpAny _ _ (typeLookup (.ref C) _) _ _ _
  refine wpAny_typeLookup_exc hC₁ hn₁ hmro hlk ?_; try k_fold
  rw [hi]
  refine wpAny_holding (wpAny_bind ?_)
  unfold bindSpecial
  refine wpAny_bind (wpAny_typeOf (T := "function") ⟨_, hfI₁, hfc⟩ ?_)
  rw [if_pos (by decide)]
  refine wpAny_pure (wpAny_bind (wpAny_mono hq (fun r s' hr => ?_) fun _ _ x => x))
  obtain ⟨rfl, hQ⟩ := hr
  wp_walk
  exact hQ
end
end Mine
end
section
open PySem PySem.W PySem.Calls PyProof.Rows
set_option Elab.async false
set_option maxRecDepth 100000
set_option linter.unusedVariables false
namespace Mine
variable {prog : Program} {w : World} {K : Frag} {mb : Str → Option Value} {X Y : Addr → Prop} {C C' : Mem} {s s' s'' : Shared} {A : Around} {env : Env} {ρ : List (Str × PV)} {n : Nat}

/-! values without parts -/
noncomputable def flat : PV → Bool
  | .none | .bool _ | .int _ | .str _ | .val _ => true
  | _ => false
theorem Rep.flat {h h' : Heap} {v : Value} {p : PV} (r : Rep X h v p) (hi : flat p = true) : Rep Y h' v p := by
  cases r with
  | none => exact .none
  | bool b => exact .bool b
  | int i t => exact .int i t
  | str x t => exact .str x t
  | list _ _ _ => cases hi
  | tup _ _ _ => cases hi
  | val v => exact .val v

/-! a lambda that stands in the heap, its cells known -/
structure LamAt (h : Heap) (lo : Nat) (a : Addr) (fd : FuncData) (body : Expr) (ρf : List (Str × PV)) : Prop where
  at_ : a < lo ∧ ∃ o, h.get? a = some o ∧ o.data = .func fd
  code : ∃ c oc vs t, fd.code = .ref c ∧ c < lo ∧ h.get? c = some oc ∧ oc.data = .fields vs ∧ vs[1]? = some (.str fd.qualname t)
  body : fd.body = .expr body
  kind : fd.scope.kind = .function
  co : fd.scope.isCoroutine = false
  gen : fd.scope.isGenerator = false
  globals : fd.globals = mainGlobals
  builtins : fd.builtins = builtinsNs
  nocell : ∀ x, (x, NameKind.cell) ∉ fd.scope.names
  inj : ∀ x y c, fd.closure.lookup x = some c → fd.closure.lookup y = some c → x = y
  cells : ∀ x c, fd.closure.lookup x = some c → c < lo ∧ ∃ ov, h.IsCell c ov ∧ ∀ p, ρf.lookup x = some p → ∃ v, ov = some v ∧ Rep noX h v p
  fl : ∀ x p, ρf.lookup x = some p → flat p = true ∧ fd.scope.names.lookup x = some .free
theorem LamAt.ext {lo : Nat} {a : Addr} {fd : FuncData} {body : Expr} {ρf : List (Str × PV)} {Z : Addr → Prop} (F : LamAt s.heap lo a fd body ρf) (e : Ext prog w Z C s s') (hZ : ∀ b, Z b → lo ≤ b) : LamAt s'.heap lo a fd body ρf := by
  have no : ∀ {b}, b < lo → ¬ Z b := fun h q => Nat.lt_irrefl _ (Nat.lt_of_lt_of_le h (hZ _ q))
  obtain ⟨ha, o, ho, hd⟩ := F.at_
  refine Mine.el4e F.code fun c oc vs t h1 h2 h3 h4 h5 => ?_
  refine ⟨⟨ha, o, e.keepD ho (no ha) (by rw [hd]; first | exact fun _ _ h => by cases h | exact fun _ h => by cases h | nofun), hd⟩, ⟨c, oc, vs, t, h1, h2, e.keepD h3 (no h2) (by rw [h4]; first | exact fun _ _ h => by cases h | exact fun _ h => by cases h | nofun), h4, h5⟩, F.body, F.kind, F.co, F.gen, F.globals, F.builtins, F.nocell, F.inj, fun x c hx => ?_, F.fl⟩
  obtain ⟨q1, ov, q2, q3⟩ := F.cells x c hx
  refine ⟨q1, ov, isCell_ext e (no q1) q2, fun p hp => ?_⟩
  refine Mine.el1b (q3 p hp) fun v r1 r2 => ?_
  exact ⟨v, r1, r2.flat (F.fl x p hp).1⟩

theorem newFrameC {lo : Nat} {fd : FuncData} {a : Addr} {body : Expr} {ρf : List (Str × PV)} {names : List Str} {vs : List Value} {ps : List PV} {A' : Around} {E : Value → Shared → Prop} {Q : Env → Shared → Prop} (S : Sit prog w K mb n C X A env ρ s) (hA' : Rm n A')
    (F : LamAt s.heap lo a fd body ρf) (hlos : lo ≤ s.heap.objs.size) (hr : Reps X s.heap vs ps) (hl : names.length = vs.length) (hkind : ∀ x ∈ names, fd.scope.names.lookup x = some .local)
    (hQ : ∀ L s₁ X', Ext prog w noX C s s₁ → s.heap.objs.size ≤ L → (∀ b, X b → X' b) → (∀ b, X' b → X b ∨ s.heap.objs.size ≤ b) → (∀ A'', Rm n A'' → Sit prog w K mb n C X' A'' (fEnv fd a L) ((names.zip ps).reverse ++ ρf) s₁) → Q (fEnv fd a L) s₁) :
    wpAny (model prog w) A' (newFunctionEnv fd.scope fd.globals fd.closure (names.zip vs) (fd.qualname ++ ".<locals>.") (some a) fd.code none fd.builtins) Q E s := by
  simp only [newFunctionEnv, Option.isSome_none, Bool.false_eq_true, if_false]
  refine wpAny_bind (wpAny_alloc ?_)
  refine wpAny_bind (wpAny_layCells _ (fun name kind cells => by cases hkc : kind == NameKind.cell <;> simp [hkc]) _ _ _ _ ?_)
  rw [show ({ s with heap := s.heap.push { cls := .type "frame", data := .dict #[] } } : Shared).heap.objs.size = s.heap.objs.size + 1 from Heap.size_push ..]
  let env' := fEnv fd a s.heap.objs.size
  have hcl : ∀ x, env'.cells.lookup x = fd.closure.lookup x := fun x => cells_other _ _ _ x (F.nocell x)
  have hkc : ∀ x, env'.kindOf x ≠ some .cell := fun x q => F.nocell x (mem_of_lookup' q)
  have hFr : ∀ b, FrO env' b → b = s.heap.objs.size := by
    rintro b (h | ⟨x, h, _⟩)
    · exact h
    · exact absurd h (hkc x)
  let X' : Addr → Prop := fun b => X b ∨ FrO env' b
  have hkeep : ∀ b o, s.heap.get? b = some o → (pushCells (s.heap.push { cls := .type "frame", data := .dict #[] }) fd.scope.names).get? b = some o :=
    fun b o e => pushCells_keeps _ _ _ _ (Heap.get?_push_of_some _ e)
  have hsize : s.heap.objs.size + 1 ≤ (pushCells (s.heap.push { cls := .type "frame", data := .dict #[] }) fd.scope.names).objs.size := by
    have := pushCells_size fd.scope.names (s.heap.push { cls := .type "frame", data := .dict #[] })
    rwa [Heap.size_push] at this
  have hlo : ∀ b, FrO env' b → s.heap.objs.size ≤ b := fun b h => Nat.le_of_eq (hFr b h).symm
  have hX' : ∀ b, X' b → X b ∨ s.heap.objs.size ≤ b := fun b h => h.imp id (hlo b)
  have e₁ : Ext prog w noX C s { s with heap := pushCells (s.heap.push { cls := .type "frame", data := .dict #[] }) fd.scope.names } :=
    .ofKeep (Nat.le_trans (Nat.le_succ _) hsize) hkeep rfl rfl
  have ap : Apart env' := fun x y c hx hy => by rw [hcl] at hx hy; exact F.inj x y c hx hy
  have O : Own X' env' := ⟨fun b h => .inr h, ap⟩
  have S₁ : ∀ A'', Rm n A'' → Sit prog w K mb n C X' A'' env' ρf { s with heap := pushCells (s.heap.push { cls := .type "frame", data := .dict #[] }) fd.scope.names } := fun A'' hA'' => by
    refine ⟨S.base.keepsF fun b o e _ => hkeep b o e, hA'', ?_, fun b h => ?_, fun b P q => ?_, F.kind, F.globals, F.builtins, co_new S (Nat.le_refl _), ⟨fun _ => none, ?_, fun x p q hk => ?_⟩, fun x c q => ?_⟩
    · rintro b (h | h)
      · exact Nat.lt_of_lt_of_le (S.bd b h) (Nat.le_trans (Nat.le_succ _) hsize)
      · rw [hFr b h]; exact hsize
    · exact h.elim (S.xo b) fun h => S.base.fresh (hlo b h)
    · obtain ⟨h1, h2, o, es, ho, hm⟩ := S.co b P q
      exact ⟨h1, fun h => h.elim h2 fun h => absurd (Heap.lt_size ho) (Nat.not_lt.mpr (hlo b h)), o, es, hkeep _ _ ho, hm⟩
    · exact (Heap.Ns.new s.heap (.type "frame")).keeps (pushCells_keeps _ _)
    · have := (F.fl x p q).2
      rw [show env'.kindOf x = fd.scope.names.lookup x from rfl, this] at hk
      cases hk
    · rw [hcl] at q
      obtain ⟨q1, ov, ⟨oc, q2, q2'⟩, q3⟩ := F.cells x c q
      refine ⟨ov, ⟨oc, hkeep _ _ q2, q2'⟩, fun p hp _ => ?_⟩
      refine Mine.el1b (q3 p hp) fun v r1 r2 => ?_
      exact ⟨v, r1, r2.flat (F.fl x p hp).1⟩
  refine wpAny_bind ?_
  refine bind_all (n := n) (K := K) (mb := mb) (env' := env') _ (fun _ _ _ => rfl) O names vs ps ρf _ _ _ (S₁ A' hA') ((hr.monoX hX').keeps hkeep) hl (fun x hx => .inl (hkind x hx)) fun s₂ e₂ S₂ => wpAny_pure (hQ s.heap.objs.size s₂ X' (e₁.fresh e₂ hlo) (Nat.le_refl _) (fun b h => .inl h) hX' fun A'' hA'' => ?_)
  exact ⟨S₂.base, hA'', S₂.bd, S₂.xo, S₂.co, S₂.fm⟩
theorem call_lam {lo : Nat} {a : Addr} {fd : FuncData} {body : Expr} {ρf : List (Str × PV)} {names : List Str} {vs : List Value} {ps : List PV} {R : Value → Shared → Prop} (S : Sit prog w K mb (n + 1) C X A env ρ s) (F : LamAt s.heap lo a fd body ρf) (hlos : lo ≤ s.heap.objs.size) (hr : Reps X s.heap vs ps) (hl : names.length = vs.length)
    (hkind : ∀ x ∈ names, fd.scope.names.lookup x = some .local) (hbind : bindArgs fd ⟨vs, []⟩ = pure (names.zip vs))
    (h : ∀ L s₁ X', Ext prog w noX C s s₁ → (∀ b, X b → X' b) → Sit prog w K mb n C X' (A.deeper (fEnv fd a L)) (fEnv fd a L) ((names.zip ps).reverse ++ ρf) s₁ → Do prog w C (A.deeper (fEnv fd a L)) (eval body (fEnv fd a L)) R s₁) :
    Do prog w C A (call (.ref a) vs) R s := by
  intro s₁ e₁ Q E k
  have S₁ := S.ext e₁
  have F₁ := F.ext e₁ (fun _ q => q.elim)
  obtain ⟨_, o, ho, hd⟩ := F₁.at_
  refine Mine.el4e F₁.code fun c oc fs t hc1 _ hc2 hc3 hc4 => ?_
  refine wpAny_call (kla_callFunE S.rm.room ho hd F₁.co F₁.gen F₁.body ⟨c, oc, fs, t, hc1, hc2, hc3, hc4⟩ ?_)
  rw [hbind]
  have S₁' : Sit prog w K mb n C X A.in1 env ρ s₁ := ⟨S₁.base, S.rm.in1, S₁.bd, S₁.xo, S₁.co, S₁.fm⟩
  refine wpAny_pure (newFrameC S₁' S.rm.in1 F₁ (Nat.le_trans hlos e₁.size) (hr.ext e₁.ofNo) hl hkind fun L s₂ X' e₂ hL hXX hX2 S₂ => ⟨(S₂ A.in1 S.rm.in1).base.noLimit, kla_codeExpr ?_⟩)
  exact (h L s₂ X' (e₁.trans e₂) hXX (S₂ _ S.rm.deeper)) s₂ .refl _ _ fun v s₃ e₃ r => k v s₃ (e₂.trans e₃) r
end Mine
end
section
open PySem PySem.W PySem.Calls PyProof.Rows
set_option Elab.async false
set_option maxRecDepth 100000
set_option linter.unusedVariables false
namespace Mine
variable {prog : Program} {w : World} {K : Frag} {mb : Str → Option Value} {X Y : Addr → Prop} {C C' : Mem} {s s' s'' : Shared} {A : Around} {env : Env} {ρ : List (Str × PV)} {n : Nat}
noncomputable def strKeysB (es : Array DictEntry) : Bool := es.toList.all fun e => match e.key with | .str _ _ => true | _ => false
theorem strKeys_of {es : Array DictEntry} (h : strKeysB es = true) : StrKeys es := fun e he => by
  have := List.all_eq_true.mp h e (by simpa using he)
  split at this
  · rename_i x t q; exact ⟨x, t, q⟩
  · cases this
/-- what a lambda's making needs of the written part -/
structure GlobK (K : Frag) : Prop where
  gl : ∃ o es ep, K.lookup mainGlobals = some o ∧ o.data = .dict es ep ∧ strKeysB es = true
  bu : nsIn K mainGlobals "__builtins__" = some (some (.ref 4))
theorem GlobK.ns {h : Heap} (G : GlobK K) (B : K.In h) : ∃ mg, h.Ns mainGlobals mg ∧ mg "__builtins__" = some (.ref 4) := by
  refine Mine.el3c G.gl fun o es ep h1 h2 h3 => ?_
  have hn : h.Ns mainGlobals (fun x => nsFind es x) := ⟨o, es, ep, B _ _ h1, h2, strKeys_of h3, fun _ => rfl⟩
  exact ⟨_, hn, mg_of B hn G.bu⟩
/-- a lambda made -/
theorem ev_lambda {params : Arguments} {body : Expr} {scope : Scope} {pos : Pos} {c P : Addr} {ps : Array Value} {Q : Value → Shared → Prop} {E : Value → Shared → Prop} (S : Sit prog w K mb n C X A env ρ s) (G : GlobK K)
    (hfree : ∀ q ∈ scope.names, q.2 = .free → (env.cells.lookup q.1).isSome = true) (hdef : defaultsOf params env = ([], [])) (hcode : env.code = .ref c) (hC : codeHdIn K c P = true) (hP : s.heap.get? P = some (tabObj ps)) (ht : TriplesOk ps.toList) (hnf : codeAmong pos ps.toList = none) (hg : mainGlobals ≠ P) (hP4 : (4 : Addr) ≠ P)
    (k : ∀ a c' ctv pm s', Ext prog w (fun b => b = P) C s s' → s.heap.objs.size ≤ a → s.heap.objs.size ≤ c' → s'.heap.get? a = some (kla_obj "<lambda>" (env.qual ++ "<lambda>") params body scope (clOf scope.names env.cells) pm c' ctv) → s'.heap.CodeRec (.ref c') (env.qual ++ "<lambda>") →
      s'.heap.get? P = some (tabObj (ps ++ #[rawInt pos.line, rawInt pos.col, .ref c'])) → Q (.ref a) s') :
    wpAny (model prog w) A (eval (.Lambda params body scope pos) env) Q E s := by
  refine Mine.el1b (G.ns S.base.frag) fun mg hmg hbu => ?_
  refine Mine.el1d S.base.bm fun ob b1 b2 b3 b4 => ?_
  refine with_size (kla_eval hdef (kla_makeFunction (mg := mg) (closureFor_eq hfree) S.fm.globals hmg hcode (codeHd_of_K S.base.frag hC) hP ht hnf hg ⟨4, ob, hbu, by decide, by decide, hP4, b1, b2, b3, b4⟩ fun c' ctv h' tk hx hge hlt hrec htb hsz => ?_))
  have hle : s.heap.objs.size ≤ h'.objs.size := Nat.le_of_lt (Nat.lt_of_le_of_lt hge hlt)
  (refine Mine.el4d hrec fun c2 oc vs t hc2 hoc hdc hv => ?_; try clear hrec)
  refine k _ c' ctv _ _ ⟨hsz, fun b o e hb => .inl (Heap.get?_push_of_some _ (hx b o hb e)), rfl, rfl⟩ hle hge (Heap.get?_push_size _ rfl) ⟨c2, oc, vs, t, hc2, Heap.get?_push_of_some _ hoc, hdc, hv⟩ (Heap.get?_push_of_some _ htb)

/-- x = f(first, ..), the first argument by hand -/
theorem x_assign_first {x : Str} {px cpos pos : Pos} {func fst : Expr} {es : List Expr} {rest : List Stmt} {a : Addr} {o : Obj} {fd : FuncData} {ps : List PV} {p : PV} {Lm : Value → Shared → Prop} {R : Value → Shared → Prop} {Q : Flow → Shared → Prop} {E : Value → Shared → Prop}
    (hk : KindSt env x) (hs : swapsWith (.Call func (fst :: es) [] cpos) (some (.Name x px)) pos.line env = pure false) (hf : Ev prog w C X A env func (.val (.ref a)) s) (ho : s.heap.get? a = some o) (hd : o.data = .func fd)
    (hfst : ∀ s₁, Ext prog w noX C s s₁ → ∀ (Q : Value → Shared → Prop) (E : Value → Shared → Prop), (∀ v s₂, Lm v s₂ → Q v s₂) → wpAny (model prog w) A (eval fst env) Q E s₁)
    (hO : Own X env) (hS : ∀ v s₂, Lm v s₂ → Sit prog w K mb n C X A env ρ s₂ ∧ s₂.heap.get? a = some o) (hes : ∀ v s₂, Lm v s₂ → Evs prog w C X A env es ps s₂)
    (hcall : ∀ v vs s₂ s₃, Lm v s₂ → Ext prog w noX C s₂ s₃ → Reps X s₃.heap vs ps → Do prog w C A (call (.ref a) (v :: vs)) (fun r s₄ => Rep X s₄.heap r p ∧ R v s₄) s₃)
    (k : ∀ v s₂ s₃ s₄, Lm v s₂ → Ext prog w noX C s₂ s₃ → R v s₃ → Ext prog w (StX env x) C s₃ s₄ → Sit prog w K mb n C X A env ((x, p) :: ρ) s₄ → wpAny (model prog w) A (execs rest env) Q E s₄)
    (hst : autoParam (starEach (fst :: es) env = (false, eval fst env) :: starEach es env) Mine.autoR)
    (he : autoParam (eval (.Call func (fst :: es) [] cpos) env = (do callWith cpos (← eval func env) [] (backTo cpos (starEach (fst :: es) env)) (backToKw cpos (keywordEach [] env)))) Mine.autoR) :
    wpAny (model prog w) A (execs (.Assign [.Name x px] (.Call func (fst :: es) [] cpos) pos :: rest) env) Q E s := by
  refine wpAny_execs_cons (wpAny_Assign_Name ?_ hs)
  refine Call_ (hf s .refl _ _ fun f s₁ e₁ r => ?_) he
  refine Mine.Rep.elV r fun _ => ?_; try k_fold
  show wpAny _ _ (callWith cpos (.ref a) [] (backTo cpos (starEach (fst :: es) env)) []) _ _ _
  rw [hst]
  show wpAny _ _ (callWith cpos (.ref a) [] ((false, eval fst env) :: backTo cpos (starEach es env)) []) _ _ _
  refine callWith_function (o := o) (fd := fd) (evalArgs_plain ?_)
  refine spliced_cons (hfst s₁ e₁ _ _ fun v s₂ hL => ?_)
  have hE := hes v s₂ hL
  refine Mine.el0b (hS v s₂ hL) fun S₂ ho₂ => ?_; try k_fold
  rw [hE.1, backTo_plain]
  refine hE.2 s₂ .refl _ _ fun vs s₃ e₃ rs => ?_; try k_fold
  refine ⟨⟨e₃.keepD ho₂ (fun q => q) (by rw [hd]; first | exact fun _ _ h => by cases h | exact fun _ h => by cases h | nofun), hd⟩, ?_⟩
  refine hcall v vs s₂ s₃ hL e₃ rs s₃ .refl _ _ fun r s₄ e₄ hr => ?_; try k_fold
  exact store_var (S₂.ext (e₃.trans e₄)) (hO.can hk) hO.ap hr.1 fun s₅ e₅ S₅ => k v s₂ s₄ s₅ hL (e₃.trans e₄) hr.2 e₅ S₅

/-! a range -/
theorem evi_range {e : Expr} {r : Nat} {f : Expr} {cpos : Pos} (S : Sit prog w K mb n C X A env ρ s) (hf : Ev prog w C X A env f (.val (.type "range")) s) (h : Ev prog w C X A env e (.int r) s) (hr : r ≤ 100000)
    (hst : autoParam (starEach [e] env = (false, eval e env) :: starEach [] env) Mine.autoR)
    (he : autoParam (eval (.Call f [e] [] cpos) env = (do callWith cpos (← eval f env) [] (backTo cpos (starEach [e] env)) (backToKw cpos (keywordEach [] env)))) Mine.autoR) :
    EvI prog w C X A env (.Call f [e] [] cpos) ((List.range r).map fun (i : Nat) => PV.int (i : Int)) s := by
  intro s₁ e₁ Q E k; try k_fold
  have hes : Evs prog w C X A env [e] [.int r] s := evs_cons h evs_nil hst
  refine Call_ (hf s₁ e₁ _ _ fun f s₂ e₂ rf => ?_) he
  refine Mine.Rep.elV rf fun _ => ?_; try k_fold
  show wpAny _ _ (callWith cpos (.type "range") [] (backTo cpos (starEach [e] env)) []) _ _ _
  rw [hes.1, backTo_plain]
  refine PySem.callWith_type plain_any (do_evalArgs hes.2 s₂ (e₁.trans e₂) _ _ fun a s₃ e₃ ra => ?_)
  obtain ⟨pos', kw⟩ := a
  (refine Mine.el0b ra fun hq4 hq3 => ?_; clear ra; revert hq4; intro ra; obtain rfl := hq3)
  refine Mine.Reps.elC ra fun _ _ r1 r2 => ?_
  ·
    obtain ⟨_, rfl⟩ := r2.inv
    cases r1 with
    | int _ t =>
      show wpAny _ _ (call (.type "range") [.int r t]) _ _ _
      refine call_range_1 ?_; try k_fold
      have hsize : Builtin.Range.rangeSize 0 (r : Int) 1 = (r : Int) := by rw [rangeSize_one]; split <;> omega
      refine wpAny_pyIter_range (IsRange.new _ _ _ _ _ _ _) (small_one (by omega) (by omega) (by omega) (by omega)) ?_; try k_fold
      have S₃ := S.ext (e₁.trans (e₂.trans e₃))
      have hpu : ∀ (g : Heap) (o : Obj), (g.push o).objs.size = g.objs.size + 1 := fun g o => Heap.size_push ..
      refine k _ _ (e₂.trans (e₃.trans ((Ext.trans (s' := { s₃ with heap := s₃.heap.push { cls := .type "range", data := .fields #[.int 0 s₃.toks, .int r t, .int 1 (s₃.toks + 1)] }, toks := s₃.toks + 1 + 1 }) (Ext.tokR (Ext.push)) .push)))) ?_; try k_fold
      refine ⟨_, _, _, _, _, rfl, by rw [List.length_map, List.length_range]; exact LCg.range_walks S.rm.h 0 r, ?_, ?_, ?_, ?_⟩
      · show IsRangeIter _ _ _ _ _
        rw [hsize]
        have hg := Heap.get?_push_size (s₃.heap.push { cls := .type "range", data := .fields #[.int 0 s₃.toks, .int r t, .int 1 (s₃.toks + 1)] }) (o := { cls := .type "range_iterator", data := .fields #[rawInt 0, rawInt (r : Int), rawInt 1] }) rfl
        simpa using hg
      · intro b hb; try k_fold
        rw [List.mem_singleton.mp hb]
        show s₁.heap.objs.size ≤ (s₃.heap.push _).objs.size
        rw [hpu]
        have := e₂.size; have := e₃.size
        omega
      · intro b hb; try k_fold
        rw [List.mem_singleton.mp hb]
        rw [hpu]
        show s₃.heap.objs.size + 1 < ((s₃.heap.push _).push _).objs.size ∧ _ ∧ _
        rw [hpu, hpu]
        exact ⟨Nat.lt_succ_self (s₃.heap.objs.size + 1), co_new S₃ (Nat.le_succ _), fun q => Nat.lt_irrefl _ (Nat.lt_of_lt_of_le (S₃.bd _ q) (Nat.le_succ _))⟩
      · intro i v p hv hp; try k_fold
        (refine Mine.el1a hv fun t hq7 => ?_; try clear hv; obtain rfl := hq7)
        rw [List.getElem?_map] at hp
        (refine Mine.el1b (Option.map_eq_some_iff.mp hp) fun j hj hq8 => ?_; obtain rfl := hq8)
        obtain ⟨hlt, hj⟩ := List.getElem?_eq_some_iff.mp hj
        rw [List.getElem_range] at hj
        subst hj
        rw [Int.zero_add]
        exact .int _ _

/-! the class called, a method of its object -/
theorem ev_call_cls {func : Expr} {pos : Pos} {a : Addr} {es : List Expr} {ps : List PV} {R : Value → Shared → Prop} (S : Sit prog w K mb n C X A env ρ s) (hf : Ev prog w C X A env func (.val (.ref a)) s) (h : Evs prog w C X A env es ps s) (hk : keepIn K (.ref a) = true)
    (hc : ∀ vs s', Ext prog w noX C s s' → Reps X s'.heap vs ps → Do prog w C A (call (.ref a) vs) R s')
    (he : autoParam (eval (.Call func es [] pos) env = (do callWith pos (← eval func env) [] (backTo pos (starEach es env)) (backToKw pos (keywordEach [] env)))) Mine.autoR) : Do prog w C A (eval (.Call func es [] pos) env) R s := by
  intro s₁ e₁ Q E k
  refine Call_ (hf s₁ e₁ _ _ fun f s₂ e₂ r => ?_) he
  refine Mine.Rep.elV r fun _ => ?_
  rw [h.1, backTo_plain]
  refine callWith_of (P := K.In) (by rw [plain_any]; rfl) (keeps_K hk) (do_evalArgs h.2 s₂ (e₁.trans e₂) _ _ fun a s₃ e₃ ra => ?_)
  obtain ⟨pos', kw⟩ := a
  (refine Mine.el0b ra fun hq11 hq10 => ?_; clear ra; revert hq11; intro ra; obtain rfl := hq10)
  refine ⟨(S.ext (e₁.trans (e₂.trans e₃))).base.frag, ?_⟩
  exact hc _ s₃ (e₁.trans (e₂.trans e₃)) ra s₃ .refl _ _ fun v s₄ e₄ rv => k v s₄ (e₂.trans (e₃.trans e₄)) rv
theorem ev_meth_fn {cl N x f : Addr} {mN mA : Str → Option Value} {b : Nat} {o : Expr} {name : Str} {apos pos : Pos} {es : List Expr} {pl : Sem Bool} {ps : List PV} {of : Obj} {fd : FuncData} {R : Value → Shared → Prop} (S : Sit prog w K mb n C X A env ρ s) (H : ClsAt K cl N mN) (I : Ins C cl s.heap b x mA)
    (ho : Ev prog w C X A env o (.val (.ref x)) s) (h : Evs prog w C X A env es ps s) (hf : mN name = some (.ref f)) (hfo : K.lookup f = some of) (hfc : of.cls = .type "function") (hfd : of.data = .func fd) (hsh : mA name = none) (hB : typeLookup (.type "object") name = pure none)
    (hc : ∀ vs s', Ext prog w noX C s s' → Reps X s'.heap vs ps → Do prog w C A (call (.ref f) (.ref x :: vs)) R s')
    (he : autoParam (eval (.Call (.Attribute o name apos) es [] pos) env = (do
      let ov ← eval o env
      standAt apos.atName
      let (f, first) ← holding [ov] (getMethod ov name pl)
      callWith pos f first (backTo pos (starEach es env)) [])) Mine.autoR) : Do prog w C A (eval (.Call (.Attribute o name apos) es [] pos) env) R s := by
  intro s₁ e₁ Q E k; try k_fold
  refine MethodCall_ (ho s₁ e₁ _ _ fun v s₂ e₂ r => ?_) he
  refine Mine.Rep.elV r fun _ => ?_; try k_fold
  have S₂ := S.ext (e₁.trans e₂)
  have I₂ := (I.ext (e₁.trans e₂) (fun _ q => q.elim)).inst
  obtain ⟨nm, q, bs, sn, sub, col, dd, k0, k1, k2, k3, k5, hcl⟩ := H.cls
  have hC := S₂.base.frag _ _ hcl
  have hn := H.nsH S₂.base.frag
  have hfo₂ := S₂.base.frag _ _ hfo
  have hcall := do_callWith_function (pos := pos) (first := [.ref x]) (evs_ext h (e₁.trans e₂)) hfo₂ hfd (fun vs s' e r => hc vs s' ((e₁.trans e₂).trans e) r) s₂ .refl Q E fun v s₃ e₃ rv => k v s₃ (e₂.trans e₃) rv
  obtain ⟨hh, g, d, t, os⟩ := s₂
  exact method_of hC hn H.ga H.gt hf hfo₂ hfc hB I₂ hsh hcall
end Mine
end
section
open PySem PySem.W PySem.Calls PyProof.Rows
open PySem.SeqAt (EqAt RcAt RcNeAt)
set_option Elab.async false
set_option maxRecDepth 100000
set_option linter.unusedVariables false
namespace Mine
variable {prog : Program} {w : World} {K : Frag} {mb : Str → Option Value} {X Y : Addr → Prop} {C C' : Mem} {s s' s'' : Shared} {A : Around} {env : Env} {ρ : List (Str × PV)} {n : Nat}
/-! dicts under strs -/
noncomputable def DictL (prog : Program) (w : World) (X : Addr → Prop) (h : Heap) (d : Addr) (ks : List Str) (f : Str → PV) : Prop :=
  ∃ kvs : List (Str × Value), h.DictOf (strKind prog w) d kvs ∧ kvs.map (·.1) = ks ∧ Reps X h (kvs.map (·.2)) (ks.map f)
theorem dictOf_ext {Z : Addr → Prop} {d : Addr} {kvs : List (Str × Value)} (h : s.heap.DictOf (strKind prog w) d kvs) (e : Ext prog w Z C s s') (hd : ¬ Z d) (hC : C d = none) : s'.heap.DictOf (strKind prog w) d kvs := by
  refine Mine.el1b (Heap.dictOf_iff.mp h) fun o ho hh => ?_
  exact Heap.dictOf_iff.mpr ⟨o, e.keepAt ho hd hC, hh⟩
theorem DictL.ext {Z : Addr → Prop} {d : Addr} {ks : List Str} {f : Str → PV} (D : DictL prog w X s.heap d ks f) (e : Ext prog w Z C s s') (hZ : ∀ a, Z a → X a) (hd : ¬ Z d) (hC : C d = none) : DictL prog w X s'.heap d ks f := by
  (refine Mine.el1c D fun kvs h1 h2 h3 => ?_; try clear D)
  exact ⟨kvs, dictOf_ext h1 e hd hC, h2, h3.ext (e.mono hZ)⟩
theorem DictL.ofSub {h : Heap} {d : Addr} {ks : List Str} {f : Str → PV} (D : DictL prog w Y h d ks f) (hs : ∀ a, X a → Y a) : DictL prog w X h d ks f := by
  (refine Mine.el1c D fun kvs h1 h2 h3 => ?_; try clear D)
  exact ⟨kvs, h1, h2, h3.ofSub hs⟩
theorem stored_fresh {kvs : List (Str × Value)} {k : Str} {v : Value} (h : k ∉ kvs.map (·.1)) : stored kvs k v = kvs ++ [(k, v)] := by
  unfold stored
  rw [if_neg]
  intro q
  refine Mine.el1b (List.any_eq_true.mp q) fun p hp hq => ?_
  exact h (List.mem_map.mpr ⟨p, hp, of_decide_eq_true hq⟩)

theorem dict_one {kx vx iter : Expr} {x : Str} {px : Pos} {scope : Scope} {pos : Pos} {ks : List Str} {f : Str → PV} {R : Result → Shared → Prop} {s₁ s₄ : Shared} {acc L I : Addr} {fp wr : List Addr} {P : Nat → Value → Prop} {St : Nat → Heap → Prop} {cells : List (Str × Addr)} {X' : Addr → Prop}
    (H : CompAt prog w K mb n C X A env ρ scope (ks.map .str) { cls := .type "dict", data := .dict #[] } s₁ s₄ acc L I fp wr P St cells X') (hCa : C acc = none)
    (J : Nat → Shared → Prop) (hJ : StableJ prog w C s₁.heap.objs.size J) (j0 : J 0 s₁) (hx : scope.names.lookup x = some .local ∨ scope.names.lookup x = some .cell) (hnd : ks.Nodup) (hsz : ks.length ≤ sizeLine)
    (body : ∀ i k s', ks[i]? = some k → Sit prog w K mb n C X' A (compEnvC scope cells L env) ((x, .str k) :: ρ.filter (isFree scope)) s' → J i s' → Ev prog w C X' A (compEnvC scope cells L env) kx (.str k) s' ∧
      ∀ s'', Ext prog w noX C s' s'' → Sit prog w K mb n C X' A (compEnvC scope cells L env) ((x, .str k) :: ρ.filter (isFree scope)) s'' → J i s'' → Do prog w C A (eval vx (compEnvC scope cells L env)) (fun v s => Rep X' s.heap v (f k) ∧ J (i + 1) s) s'')
    (hR : ∀ s', Ext prog w noX C s₁ s' → (∃ m, s'.heap.Ns L m) → DictL prog w X' s'.heap acc ks f → J ks.length s' → R (.ok .next) s') :
    codeAny (model prog w) A (.compStart (.DictComp kx vx [⟨.Name x px, iter, [], 0⟩] scope pos) 0 (.ref I) (.ref acc) (compEnvC scope cells L env)) R s₄ := by
  have hc := H.canSt hx
  have hLlo : s₁.heap.objs.size ≤ L := Nat.le_trans H.lo (Nat.le_of_lt H.accL)
  have hNlo : ∀ a, CompN scope L cells L a → s₁.heap.objs.size ≤ a := by
    rintro a (rfl | ⟨h, _⟩)
    · exact hLlo
    · exact Nat.le_trans hLlo h
  have hNacc : ∀ a, CompN scope L cells L a → a ≠ acc := by
    rintro a (rfl | ⟨q, _⟩)
    · exact (Nat.ne_of_lt H.accL).symm
    · exact (Nat.ne_of_lt (Nat.lt_of_lt_of_le H.accL q)).symm
  have hwrlt : ∀ b ∈ wr, b < acc := fun b hb => (H.fpa b (H.W.sub b hb)).1
  have hXacc : X' acc := (H.hX acc).mpr (.inr (.inl rfl))
  refine comp_start ?_ (fun Q E q => H.W.self 0 s₄ Q E H.st q)
  refine comp_loop (ρ := ρ.filter (isFree scope)) (N := fun a => X' a ∧ a ≠ acc ∧ s₁.heap.objs.size ≤ a) (Z := fun a => a = acc ∨ CompN scope L cells L a) (fun i s' => DictL prog w X' s'.heap acc (ks.take i) f ∧ J i s') turn_dict hc.1
    (fun a h => ⟨.inr (hc.2 a h), (H.hX a).mpr (.inr (.inr (.inr (hc.2 a h)))), hNacc a (hc.2 a h), hNlo a (hc.2 a h)⟩) (fun a h => ⟨(H.hX a).mpr (.inr (.inr (.inl h))), fun q => Nat.lt_irrefl _ (q ▸ hwrlt a h), H.wrlo a h⟩)
    (fun a h => h.elim (fun h => h ▸ hXacc) fun h => (H.hX a).mpr (.inr (.inr (.inr h)))) (fun a h => (H.hX a).mpr (.inr (.inr (.inl h)))) (fun h => Nat.lt_asymm H.accL (hwrlt L h)) (fun x c h hw => ?_) H.ap (filter_free_none hx) H.W H.st (fun b hb => ⟨?_, (H.fpa b hb).2⟩) H.hP H.sit
    ⟨⟨[], Heap.dictOf_iff.mpr ⟨_, H.accO, ?_⟩, by simp, by simpa using Reps.nil⟩, hJ noX 0 _ _ (fun _ q => q.elim) j0 H.ext⟩ ?_ ?_ ?_
  · rcases H.cellT x c h with ⟨k, _, _, h⟩ | ⟨_, h⟩
    · exact Nat.lt_irrefl _ (Nat.lt_of_lt_of_le (H.outer x c h) (H.wrlo c hw))
    · exact Nat.lt_asymm (Nat.lt_trans (hwrlt c hw) H.accL) h
  · rintro (rfl | rfl | ⟨h, _⟩)
    · exact Nat.lt_irrefl _ (H.fpa _ hb).1
    · exact Nat.lt_asymm H.accL (H.fpa _ hb).1
    · exact Nat.lt_irrefl _ (Nat.lt_trans H.accL (Nat.lt_of_le_of_lt h (H.fpa _ hb).1))
  · have hd := Heap.DictOf.new (knd := strKind prog w) s₄.heap
    refine Mine.el1b (Heap.dictOf_iff.mp hd) fun o ho hh => ?_
    have ho' : (s₄.heap.push { cls := .type "dict", data := .dict #[] }).get? s₄.heap.objs.size = some { cls := .type "dict", data := .dict #[] } := Heap.get?_push_size _ rfl
    rw [ho'] at ho; cases ho
    exact hh
  · rintro i s₂ s₃ ⟨hd, hj⟩ e
    exact ⟨hd.ext e (fun a h => h.1) (fun q => q.2.1 rfl) hCa, hJ _ i s₂ s₃ (fun a h => h.2.2) hj e⟩
  · rintro i p s₂ hp e S₂ ⟨hd, hj⟩
    obtain ⟨k, hk, rfl⟩ : ∃ k, ks[i]? = some k ∧ PV.str k = p := by simpa using hp
    refine ⟨true, fun _ => True, tests_triv tests_nil, (fun q => nomatch q), fun _ s₃ e₃ _ S₃ h₃ kk Q E hkk => ?_⟩
    refine Mine.el0b (body i k s₂ hk S₂ hj) fun hkx hvx => ?_
    have hlen : i < ks.length := (List.getElem?_eq_some_iff.mp hk).1
    have htk : ks.take (i + 1) = ks.take i ++ [k] := by rw [List.take_add_one, hk]; rfl
    refine wpAny_bind (wpAny_bind (hkx.run e₃ fun kv s₄ e₄ r₄ => wpAny_bind (wpAny_holding (hvx s₄ (e₃.trans e₄) (S₃.ext e₄) (hJ noX i _ _ (fun _ q => q.elim) h₃.2 e₄) s₄ .refl _ _ fun vv s₅ e₅ r₅ => ?_))))
    cases r₄ with
    | str _ tk =>
      (refine Mine.el0b r₅ fun rv j₅ => ?_; try clear r₅)
      have D₅ := h₃.1.ext (e₄.trans e₅) (fun _ q => q.elim) (fun q => q) hCa
      (refine Mine.el1c D₅ fun kvs h1 h2 h3 => ?_; try clear D₅)
      refine wpAny_bind (wpAny_standAt (wpAny_holding (wpAny_dictSet_pairs (knd := strKind prog w) (strKind_is prog w k _) h1 (fun h' hd' hs' => ?_) ?_)))
      · have hkn : k ∉ kvs.map (·.1) := by
          rw [h2]; intro q
          obtain ⟨j, hj, hjk⟩ := List.mem_take_iff_getElem.mp q
          have hji : j < i := by omega
          have h0 := List.pairwise_iff_getElem.mp hnd j i (by omega) hlen hji
          have hki : ks[i] = k := by rw [List.getElem?_eq_getElem hlen] at hk; exact Option.some.inj hk
          exact h0 (hjk.trans hki.symm)
        rw [stored_fresh hkn] at hd'
        have e₆ : Ext prog w (fun a => a = acc) C s₅ { s₅ with heap := h', toks := s₅.toks + 1 } := Ext.sameBut hs' rfl
        have e₆X : Ext prog w X' C s₅ { s₅ with heap := h', toks := s₅.toks + 1 } := e₆.mono fun a h => h ▸ hXacc
        have hloc : ¬ L = acc := (Nat.ne_of_lt H.accL).symm
        have S₆ := (S₃.ext (e₄.trans e₅)).extZ e₆ (fun a h => h ▸ hXacc) hloc fun y c hc q => by
          rcases H.cellT y c hc with ⟨k, _, _, h⟩ | ⟨_, h⟩
          · exact Nat.lt_irrefl _ (Nat.lt_of_lt_of_le (H.outer y c h) (q ▸ H.lo))
          · rw [q] at h; exact Nat.lt_asymm H.accL h
        refine hkk _ ((e₄.trans e₅).ofNo.trans (e₆.mono fun a h => .inl h)) S₆ ⟨⟨kvs ++ [(k, vv)], hd', by rw [List.map_append, h2, htk]; rfl, ?_⟩, hJ _ _ _ _ (fun a h => by rw [h]; exact H.lo) j₅ e₆⟩
        rw [htk, List.map_append, List.map_append]
        exact (h3.ext e₆X).append (.cons (rv.ext e₆X) .nil)
      · have := congrArg List.length h2
        rw [List.length_map, List.length_take] at this
        omega
  · rintro s₅ e₅ S₅ ⟨hd, hj⟩
    refine hR s₅ (H.ext.fresh e₅ ?_) ?_ ?_ ?_
    · rintro a ((rfl | h) | h)
      · exact H.lo
      · exact hNlo a h
      · exact H.wrlo a h
    · refine Mine.el1b S₅.fm.ns fun m hn _ => ?_
      exact ⟨m, hn⟩
    · rw [List.length_map, List.take_length] at hd; exact hd
    · rw [List.length_map] at hj; exact hj
/-- {k: v for k in iter} -/
theorem ev_dictcomp {kx vx iter : Expr} {x : Str} {px : Pos} {scope : Scope} {pos : Pos} {ks : List Str} {f : Str → PV} (S : Sit prog w K mb n C X A env ρ s) (hap : Apart env) (hs : scopeOkB scope env = true) (hit : EvI prog w C X A env iter (ks.map .str) s)
    (J : Nat → Shared → Prop) (hx : scope.names.lookup x = some .local ∨ scope.names.lookup x = some .cell) (hnd : ks.Nodup) (hsz : ks.length ≤ sizeLine)
    (hset : ∀ x, foldedSetIterable iter env x = pure x) (hJ : StableJ prog w C s.heap.objs.size J) (j0 : J 0 s)
    (body : ∀ L cells X' i k s', ks[i]? = some k → Sit prog w K mb n C X' A (compEnvC scope cells L env) ((x, .str k) :: ρ.filter (isFree scope)) s' → CE scope cells L env X X' s.heap.objs.size → Ext prog w (fun a => s.heap.objs.size ≤ a) C s s' → J i s' → Ev prog w C X' A (compEnvC scope cells L env) kx (.str k) s' ∧
      ∀ s'', Ext prog w noX C s' s'' → Sit prog w K mb n C X' A (compEnvC scope cells L env) ((x, .str k) :: ρ.filter (isFree scope)) s'' → J i s'' → Do prog w C A (eval vx (compEnvC scope cells L env)) (fun v s => Rep X' s.heap v (f k) ∧ J (i + 1) s) s'') :
    Do prog w C A (eval (.DictComp kx vx [⟨.Name x px, iter, [], 0⟩] scope pos) env) (fun v s' => ∃ d, v = .ref d ∧ s.heap.objs.size ≤ d ∧ DictL prog w X s'.heap d ks f ∧ J ks.length s') s := by
  intro s₁ e₁ Q E k
  have S₁ := S.ext e₁
  let J' : Nat → Shared → Prop := fun i s' => J i s' ∧ Ext prog w (fun a => s.heap.objs.size ≤ a) C s s'
  have hJ₁ : StableJ prog w C s₁.heap.objs.size J' := fun Z i a b hz h e => ⟨hJ Z i a b (fun c hc => Nat.le_trans e₁.size (hz c hc)) h.1 e, h.2.trans (e.mono fun c hc => Nat.le_trans e₁.size (hz c hc))⟩
  show wpAny _ A (comprehension (.DictComp kx vx [⟨.Name x px, iter, [], 0⟩] scope pos) scope env _ newDict false (eval iter env)) Q E s₁
  refine comp_core (g := ⟨.Name x px, iter, [], 0⟩) (gs := []) (ps := ks.map .str) (accObj := { cls := .type "dict", data := .dict #[] }) rfl hset S₁ hap (scopeOk_of hs) (fun s₂ e₂ => hit s₂ (e₁.trans e₂)) (fun s Q E q => wpAny_newObj_type q) rfl ?_
  intro s₄ acc L I fp wr P St cells X' H
  have hCa : C acc = none := co_new S₁ H.lo
  refine dict_one (f := f) H hCa J' hJ₁ ⟨hJ noX 0 _ _ (fun _ q => q.elim) j0 e₁, e₁.ofNo⟩ hx hnd hsz (fun i k s' hp S' hj => ?_) fun s₅ e₅ hns hacc hj => ?_
  · refine Mine.el0b (body L cells X' i k s' hp S' (H.ce e₁.size) hj.2 hj.1) fun b1 b2 => ?_
    refine ⟨b1, fun s'' e S'' hj' => Do.mono (b2 s'' e S'' hj'.1) fun v s''' e' r => ⟨r.1, r.2, hj'.2.trans e'.ofNo⟩⟩
  (refine Mine.el1a hns fun m hn => ?_; try clear hns)
  refine ⟨m, hn, fun h' hs' => k _ _ ?_ ⟨acc, rfl, Nat.le_trans e₁.size H.lo, ?_, ?_⟩⟩
  · exact e₅.fresh (Ext.sameBut (X := fun a => a = L) (t := s₅.toks) hs' rfl) fun a h => by rw [h]; exact Nat.le_trans H.lo (Nat.le_of_lt H.accL)
  · have eL : Ext prog w (fun a => a = L) C s₅ { s₅ with heap := h' } := Ext.sameBut (t := s₅.toks) hs' rfl
    exact (hacc.ext eL (fun a h => (H.hX a).mpr (.inr (.inr (.inr (.inl h))))) (Nat.ne_of_lt H.accL) hCa).ofSub fun a h => (H.hX a).mpr (.inl h)
  · exact (hJ₁ (fun a => a = L) _ _ _ (fun a h => by rw [h]; exact Nat.le_trans H.lo (Nat.le_of_lt H.accL)) hj (Ext.sameBut (t := s₅.toks) hs' rfl)).1
end Mine
end
section
open PySem PySem.W PySem.Calls PyProof.Rows
open PySem.SeqAt (EqAt RcAt RcNeAt)
set_option Elab.async false
set_option maxRecDepth 100000
set_option linter.unusedVariables false
namespace Mine
variable {prog : Program} {w : World} {K : Frag} {mb : Str → Option Value} {X Y : Addr → Prop} {C C' : Mem} {s s' s'' : Shared} {A : Around} {env : Env} {ρ : List (Str × PV)} {n : Nat}
/-! list * int -/
theorem reps_rep {h : Heap} {vs : List Value} {l : List PV} (r : Reps X h vs l) : ∀ k : Nat, Reps X h (List.replicate k vs).flatten (List.replicate k l).flatten
  | 0 => .nil
  | k + 1 => by
    rw [List.replicate_succ, List.replicate_succ, List.flatten_cons, List.flatten_cons]
    exact r.append (reps_rep r k)
theorem op_mul_list {x : List PV} {i : Nat} {a b : Value} (bd : ∀ a, X a → a < s.heap.objs.size) (ha : Rep X s.heap a (.list x)) (hb : Rep X s.heap b (.int i)) (hi : i ≤ 1000) (hx : x.length ≤ 1000) : DoV prog w C X A (binaryOp .Mult a b) (.list (List.replicate i x).flatten) s := by
  intro s₁ e₁ Q E kk
  have ha' := ha.ext e₁.ofNo
  have bd' : ∀ a, X a → a < s₁.heap.objs.size := fun a h => Nat.lt_of_lt_of_le (bd a h) e₁.size
  cases hb with
  | int _ u =>
    refine Mine.Rep.elL ((ha')) fun l items hxl hl hr => ?_
    ·
      obtain ⟨⟨cls, d, data, sl⟩, ho, hcl, k, hd⟩ := id hl
      simp only at hcl hd
      subst hcl hd
      have h1 : items.size = x.length := by simpa using hr.length
      have hsz' : items.size * (i : Int).toNat ≤ 1000000 := by
        rw [h1, Int.toNat_natCast]
        exact Nat.mul_le_mul hx hi
      have hlo : -(2 ^ 63 : Int) ≤ (i : Int) := by omega
      have hhi : (i : Int) < 2 ^ 63 := by omega
      have hsz : items.size * (i : Int).toNat ≤ 2 ^ 24 := Nat.le_trans hsz' (by decide)
      have hin : (i : Int).toNat = i := Int.toNat_natCast i
      generalize (i : Int) = xi at hlo hhi hsz hin ⊢
      refine wpAny_binaryOp_repeat_ref (T := "list") (U := "int") (by decide) ⟨_, ho, rfl⟩ (fun s' => typeIs_int s' xi u) noFill_list_mul PySem.F.fills_int_mul PySem.F.slot_int_rmul repeat_list PySem.F.slot_int_index.lookup
        (call_meets PySem.F.slot_int_rmul (typeIs_int s₁ xi u) PySem.F.entry_int_rmul (PySem.F.args_int_rmul_2 _ _) (lm_int_rmul_list_any xi u l items k d sl)
          ⟨ho, rfl, ⟨_, ho, rfl⟩, call_meets PySem.F.slot_list_mul ⟨_, ho, rfl⟩ PySem.F.entry_list_mul (PySem.F.args_list_mul_2 _ _)
            (lm_list_mul_any l items k d sl xi u (by simp [Builtin.List.listFitsIndex]; omega) (by omega) (by simp [Builtin.List.listTooLong, sizeLine]; omega))
            ⟨ho, ?_⟩⟩)
      refine kk _ _ .push (rep_newList bd' ?_)
      rw [listMul_foldl_if, hin]
      exact reps_rep hr i

/-! dicts compared -/
theorem eqI_self {p : PV} (h : immB p = true) : eqI p p = true := imm_el (G := fun p => eqI p p = true) h rfl (fun b => by cases b <;> rfl) fun x => beq_self_eq_true x
theorem eqIs_self {x : List PV} (h : ∀ p ∈ x, immB p = true) : eqIs x x = true := by
  induction x with
  | nil => rfl
  | cons p x ih => exact Bool.and_eq_true_iff.mpr ⟨eqI_self (h p (.head _)), ih fun q hq => h q (.tail _ hq)⟩
theorem reps_toPV {h : Heap} {vs : List Value} {x : List PV} (r : Reps X h vs x) : (∀ p ∈ x, immB p = true) → vs.map toPV = x :=
  reps_ind (P := fun vs x => (∀ p ∈ x, immB p = true) → vs.map toPV = x) (fun _ => rfl) (fun a _ ih hx => by rw [List.map_cons, toPV_eq a (hx _ (.head _)), ih fun q hq => hx q (.tail _ hq)]) r
theorem list_same {h : Heap} {a : Addr} {i j : Array Value} (h1 : h.IsList a i) (h2 : h.IsList a j) : i = j := by
  obtain ⟨o, ho, _, n, hd⟩ := h1
  obtain ⟨o', ho', _, m, hd'⟩ := h2
  rw [Option.some.inj (ho'.symm.trans ho), hd] at hd'
  exact (Data.seq.inj hd').1
theorem eqAt_list {v u : Value} {x y : List PV} (ha : Rep X s.heap v (.list x)) (hb : Rep X s.heap u (.list y)) (hx : ∀ p ∈ x, immB p = true) (hy : ∀ p ∈ y, immB p = true) (hu : A.units < cLine) : EqAt A s v u (eqIs x y) := by
  refine ha.elL fun a items _ hl hr => hb.elL fun b items2 _ hl2 hr2 => ?_
  by_cases h : a = b
  · rw [← h] at hl2 ⊢
    rw [← list_same hl hl2] at hr2
    rw [← reps_toPV hr hx, reps_toPV hr2 hy, eqIs_self hy]
    exact EqAt.same _
  · exact EqAt.of_refs h (rcAt_lists hl hl2 hr hr2 hx hy hu).1
theorem value_of {h : Heap} {f : Str → PV} {k : Str} {kvs : List (Str × Value)} : ∀ {ks : List Str}, kvs.map (·.1) = ks → Reps X h (kvs.map (·.2)) (ks.map f) → k ∈ ks → ∃ u, valueAt kvs k = some u ∧ Rep X h u (f k) := by
  induction kvs with
  | nil => intro ks hb _ hk; rw [← hb] at hk; exact absurd hk List.not_mem_nil
  | cons q kvs ih =>
    intro ks hb r hk
    rw [← hb] at r hk
    by_cases hq : q.1 = k
    · refine ⟨q.2, ?_, hq ▸ r.uncons.1⟩
      unfold valueAt
      rw [List.find?_cons_of_pos (by exact decide_eq_true hq)]; rfl
    · refine Exists.elim (ih rfl r.uncons.2 ((List.mem_cons.mp hk).resolve_left fun e => hq e.symm)) fun u hu => ⟨u, ?_, hu.2⟩
      unfold valueAt
      rw [List.find?_cons_of_neg (by exact fun q => hq (of_decide_eq_true q))]
      exact hu.1
theorem keqHits {f g : Str → List Bool} {kb : List (Str × Value)} {ks : List Str} (hu : A.units < cLine) (hb : kb.map (·.1) = ks) (rb : Reps X s.heap (kb.map (·.2)) (ks.map fun k => .list ((g k).map .bool)))
    (ka : List (Str × Value)) : ∀ (ks' : List Str), (∀ k ∈ ks', k ∈ ks) → ka.map (·.1) = ks' → Reps X s.heap (ka.map (·.2)) (ks'.map fun k => .list ((f k).map .bool)) → KeqHits A s kb ka (ks'.all fun k => decide (f k = g k)) := by
  induction ka with
  | nil => intro ks' _ h _; rw [← h]; exact .nil
  | cons q ka ih =>
    intro ks' hs h r
    obtain ⟨k, v⟩ := q
    rw [← h] at hs r ⊢
    refine Exists.elim (value_of hb rb (hs k (.head _))) fun u hu' => ?_
    refine .hit hu'.1 ?_ (ih _ (fun q hq => hs q (.tail _ hq)) rfl r.uncons.2)
    show EqAt A s v u (decide (f k = g k))
    rw [← eqIs_bool]
    exact eqAt_list r.uncons.1 hu'.2 imm_bools imm_bools hu
theorem op_ne_dict {d1 d2 : Addr} {ks : List Str} {f g : Str → List Bool} {a b : Value} (hu : A.in1.units < cLine) (hu0 : A.units < cLine) (hnd : ks.Nodup) (h1 : (d1 == sysModules) = false) (h2 : (d2 == sysModules) = false) (hC1 : C d1 = none) (hC2 : C d2 = none)
    (D1 : DictL prog w X s.heap d1 ks fun k => .list ((f k).map .bool)) (D2 : DictL prog w X s.heap d2 ks fun k => .list ((g k).map .bool)) (ha : Rep X s.heap a (.val (.ref d1))) (hb : Rep X s.heap b (.val (.ref d2))) :
    DoV prog w C X A (compareOp .NotEq a b) (.bool (!(ks.all fun k => decide (f k = g k)))) s := by
  intro s₁ e₁ Q E k
  refine Mine.Rep.elV ha fun _ => ?_; refine Mine.Rep.elV hb fun _ => ?_
  refine Mine.el1c (D1.ext e₁ (fun _ q => q.elim) (fun q => q) hC1) fun ka a1 a2 a3 => ?_
  refine Mine.el1c (D2.ext e₁ (fun _ q => q.elim) (fun q => q) hC2) fun kb b1 b2 b3 => ?_
  have hlen : ka.length = kb.length := by rw [← List.length_map (f := (·.1)), a2, ← b2, List.length_map]
  refine keq_ne h1 h2 a1 b1 hu0 (fun _ => keqHits hu b2 b3 ka ks (fun _ h => h) a2 a3) ?_
  rw [hlen, beq_self_eq_true, Bool.true_and]
  exact k _ _ .refl (.bool _)
/-- d[k] -/
theorem ev_dsub {value slice : Expr} {pos : Pos} {d : Addr} {k : Str} {ks : List Str} {f : Str → PV} (hv : Ev prog w C X A env value (.val (.ref d)) s) (hi : Ev prog w C X A env slice (.str k) s) (D : DictL prog w X s.heap d ks f) (hC : C d = none) (hnd : ks.Nodup) (hk : k ∈ ks) : Ev prog w C X A env (.Subscript value slice pos) (f k) s := by
  refine sub_core (T := "dict") PySem.slot_dict_getitem.lookup hv fun v s₁ e₁ r Q E kk => hi s₁ e₁ _ _ fun iv s₂ e₂ ri => ?_
  refine Mine.Rep.elV r fun _ => ?_; refine Mine.Rep.elS ri fun _ => ?_
  refine Mine.el1c (D.ext (e₁.trans e₂) (fun _ q => q.elim) (fun q => q) hC) fun kvs h1 h2 h3 => ?_
  refine Exists.elim (value_of h2 h3 hk) fun u hu => ?_
  exact ⟨h1.mapOf.typeIs, wpAny_getItem_of (strKind_is prog w _ _) h1.mapOf hu.1 (kk _ _ e₂.tokR (hu.2.ext (prog := prog) (w := w) (Ext.ofNo (C := C) Ext.tok)))⟩
end Mine
end
section
open PySem PySem.W PySem.Calls PyProof.Rows
set_option Elab.async false
set_option maxRecDepth 100000
set_option linter.unusedVariables false
namespace Mine
variable {prog : Program} {w : World} {K : Frag} {mb : Str → Option Value} {X Y : Addr → Prop} {C C' : Mem} {s s' s'' : Shared} {A : Around} {env : Env} {ρ : List (Str × PV)} {n : Nat}
/-- a test whose call leaves something behind -/
theorem ts_boolR {e : Expr} {b : Bool} {H : Shared → Prop} (h : Do prog w C A (eval e env) (fun v s => Rep X s.heap v (.bool b) ∧ H s) s) (hs : ∀ whole, isTrue e env whole = (do let v ← whole; standAt e.pos; holding [v] (truthy v)) := by intro _; rfl) :
    Do prog w C A (isTrue e env (eval e env)) (fun v s => v = b ∧ H s) s := by
  intro s₁ e₁ Q E k
  rw [hs]
  refine wpAny_bind (h s₁ e₁ _ _ fun v s₂ e₂ r => wpAny_bind (wpAny_standAt (wpAny_holding ?_)))
  refine Mine.el0b r fun r hH => ?_
  refine Mine.Rep.elB r fun _ => ?_
  exact wpAny_truthy_bool (k _ _ e₂ ⟨rfl, hH⟩)
theorem tests_oneR {c : Expr} {R : Bool → Shared → Prop} (h : Do prog w C A (isTrue c env (eval c env)) R s) : Do prog w C A (tests [c] env) R s := fun s₁ e₁ Q E k => wpAny_tests_one (h s₁ e₁ Q E k)
theorem zipIdx_flat {α β : Type} {g : α → List β} : ∀ (l : List α) (k : Nat), ((l.zipIdx k).flatMap fun q => g q.1) = l.flatMap g
  | [], _ => rfl
  | a :: l, k => by rw [List.zipIdx_cons, List.flatMap_cons, List.flatMap_cons, zipIdx_flat l]
theorem flat2 {α β γ : Type} {ps : List α} {ps2 : α → List β} {g : α → β → List γ} : (ps.zipIdx.flatMap fun q => (ps2 q.1).zipIdx.flatMap fun r => g q.1 r.1) = ps.flatMap fun p => (ps2 p).flatMap (g p) := by
  rw [zipIdx_flat (g := fun p => (ps2 p).zipIdx.flatMap fun r => g p r.1) ps 0]
  congr 1
  funext p
  exact zipIdx_flat (g := g p) (ps2 p) 0
theorem flat_tst {α β : Type} {l : List α} {tst : α → Bool} {f : α → β} : (l.flatMap fun q => if tst q then [f q] else []) = (l.filter tst).map f := by
  induction l with
  | nil => rfl
  | cons a l ih => rw [List.flatMap_cons, ih, List.filter_cons]; cases tst a <;> simp
theorem CompSpec.mono {e : Expr} {scope : Scope} {newAcc : Sem Value} {iter : Expr} {R R' : Addr → Addr → Shared → Prop} (h : CompSpec prog w C X A env e scope newAcc iter R s) (hR : ∀ a L s', R a L s' → R' a L s') : CompSpec prog w C X A env e scope newAcc iter R' s :=
  fun s₁ e₁ pos use Q E k => h s₁ e₁ pos use Q E fun acc L s₅ a b c d e r => k acc L s₅ a b c d e (hR _ _ _ r)
theorem RList.eq {res res' : List PV} {J J' : Shared → Prop} {acc L : Addr} (h : RList prog w X res J acc L s) (hr : res = res') (hJ : J s → J' s) : RList prog w X res' J' acc L s := by
  subst hr; exact ⟨h.1, hJ h.2⟩
/-- two clauses, their parts plain, as a spec -/
theorem spec_lc2 {elt iter iter2 : Expr} {x x2 : Str} {px px2 : Pos} {ifs2 : List Expr} {scope : Scope} {pos : Pos} {ps : List PV} (S : Sit prog w K mb n C X A env ρ s) (hap : Apart env) (hs : scopeOkB scope env = true) (hit : EvI prog w C X A env iter ps s)
    (ps2 : PV → List PV) (tst : PV → PV → Bool) (f : PV → PV → PV) (hx : scope.names.lookup x = some .local ∨ scope.names.lookup x = some .cell) (hx2 : scope.names.lookup x2 = some .local ∨ scope.names.lookup x2 = some .cell) (hne : (x2 == x) = false)
    (hsz : (ps.flatMap fun p => ((ps2 p).filter (tst p)).map (f p)).length ≤ sizeLine)
    (hset : ∀ v, foldedSetIterable iter env v = pure v) (hset2 : ∀ cells L v, foldedSetIterable iter2 (compEnvC scope cells L env) v = pure v)
    (hit2 : ∀ L cells X' p s', p ∈ ps → Sit prog w K mb n C X' A (compEnvC scope cells L env) ((x, p) :: ρ.filter (isFree scope)) s' → CE scope cells L env X X' s.heap.objs.size → EvI prog w C X' A (compEnvC scope cells L env) iter2 (ps2 p) s')
    (body : ∀ L cells X' p q s', p ∈ ps → q ∈ ps2 p → Sit prog w K mb n C X' A (compEnvC scope cells L env) ((x2, q) :: (x, p) :: ρ.filter (isFree scope)) s' → CE scope cells L env X X' s.heap.objs.size → Ext prog w (fun a => s.heap.objs.size ≤ a) C s s' →
      Do prog w C A (tests ifs2 (compEnvC scope cells L env)) (fun v _ => v = tst p q) s' ∧ (tst p q = true → Ev prog w C X' A (compEnvC scope cells L env) elt (f p q) s')) :
    CompSpec prog w C X A env (.ListComp elt [⟨.Name x px, iter, [], 0⟩, ⟨.Name x2 px2, iter2, ifs2, 0⟩] scope pos) scope (newList []) iter (RList prog w X (ps.flatMap fun p => ((ps2 p).filter (tst p)).map (f p)) fun _ => True) s := by
  have hfl : (ps.zipIdx.flatMap fun q => (ps2 q.1).zipIdx.flatMap fun r => if tst q.1 r.1 then [f q.1 r.1] else []) = ps.flatMap fun p => ((ps2 p).filter (tst p)).map (f p) := by
    rw [flat2 (g := fun p q => if tst p q then [f p q] else [])]
    congr 1
    funext p
    exact flat_tst
  refine (spec_list2 S hap hs hit (fun _ _ s' => Ext prog w (fun a => s.heap.objs.size ≤ a) C s s') (fun _ p => ps2 p) (fun _ _ _ _ h => h) (fun _ p _ q => if tst p q then [f p q] else []) hx hx2 hne hset hset2 (by rw [hfl]; exact hsz) ?_ .refl (fun L cells X' i p s' hp S' ce => hit2 L cells X' p s' (List.mem_of_getElem? hp) S' ce) ?_).mono fun a L s' r => r.eq hfl fun _ => trivial
  · intro j Z i a b hz ha hab
    exact ha.trans (hab.mono hz)
  · intro L cells X' i p j q s' hp hq S' hap' hE
    refine Mine.el0b (body L cells X' p q s' (List.mem_of_getElem? hp) (List.mem_of_getElem? hq) S' hap' hE) fun h1 h2 => ?_
    refine ⟨tst p q, fun _ => True, tests_triv h1, fun hb => ⟨by simp [hb], fun s'' e _ h => h⟩, fun hb => ⟨f p q, by simp [hb], fun s'' e _ h => ?_⟩⟩
    intro s₃ e₃ Q E k
    exact h2 hb s₃ (e.trans e₃) _ _ fun v s₄ e₄ r => k v s₄ e₄ ⟨r, h.trans ((e₃.trans e₄).ofNo)⟩
theorem ev_plain {elt iter : Expr} {tgt : Expr} {ifs : List Expr} {gs : List Comprehension} {scope : Scope} {pos : Pos} {res : List PV}
    (h : CompSpec prog w C X A env (.ListComp elt (⟨tgt, iter, ifs, 0⟩ :: gs) scope pos) scope (newList []) iter (RList prog w X res fun _ => True) s) : Ev prog w C X A env (.ListComp elt (⟨tgt, iter, ifs, 0⟩ :: gs) scope pos) (.list res) s :=
  (ev_of_spec h fun _ _ _ _ _ _ => trivial).mono fun _ _ _ r => r.1
end Mine
end
section
open PySem PySem.W PyProof.Rows
set_option Elab.async false
set_option maxRecDepth 100000
set_option maxHeartbeats 8000000
namespace Mine
open_top hd for PySem.Challenge.rw_pu0015_01
end Mine
end
section
open PySem PySem.W PySem.Calls PyProof.Rows
set_option Elab.async false
set_option maxRecDepth 100000
set_option linter.unusedVariables false
namespace Mine
variable {prog : Program} {w : World} {K : Frag} {mb : Str → Option Value} {X Y : Addr → Prop} {C : Mem} {s s' s'' : Shared} {A : Around} {env : Env} {ρ : List (Str × PV)} {n : Nat}
noncomputable def em : { p : FuncData × List Stmt // ∀ P, FnAt (hd.heap_39 P) 28 p.1 ["want", "got"] p.2 } := ⟨(_, _), fun P => {
  at_ := ⟨_, rfl, rfl⟩
  code := ⟨27, _, _, _, rfl, rfl, rfl, rfl⟩
  body := rfl
  kind := rfl
  co := rfl
  gen := rfl
  globals := rfl
  builtins := rfl
  closure := rfl
  kinds := fun L => by repeat (first | exact ks_nil | refine ks_cons (by first | exact .inl rfl | exact .inr ⟨rfl, rfl⟩) ?_) }⟩
theorem em_bind (v u : Value) : bindArgs em.1.1 ⟨[v, u], []⟩ = pure [(("want" : Str), v), (("got" : Str), u)] := by rfl
theorem em_spec {P : Params} {want got : Str} {ws : List Str} {vs : List Value} (S : Sit prog w (hd.heap_39 P) mb (n + 1) C X A env ρ s) (hr : Reps X s.heap vs [.str want, .str got]) (hc : Txt.contains want "..." = true) (hs : Txt.split want "..." = ws) (h2 : 2 ≤ ws.length)
    (hw : want.length ≤ 1000) (hg : got.length ≤ 1000) (hl : ws.length ≤ 1000) (hlw : ∀ y ∈ ws, y.length ≤ 1000) : DoV prog w C X A (call (.ref 28) vs) (.bool (emW ws got)) s := by
  (refine Mine.Reps.el2 hr fun _ _ r1 r2 => ?_; have hr' := Reps.cons r1 (.cons r2 .nil))

  refine call_fn S (em.2 P) hr' rfl (em_bind _ _) fun s₀ L s₁ X' e₀ e₁ O hXX hlo S₁ => ?_
  k_fold
  refine x_if (ts_cmp (ev_gstr S₁ rfl rfl) (ev_var S₁ rfl (.inl rfl)) fun a b s' e ra rb => op_notIn_str ra rb) fun s₂ e₂ => ?_
  rw [hc]
  refine x_nil ?_
  dsimp only
  have S₂ := S₁.ext e₂
  refine x_assign_mut S₂ O (.inl rfl) (evm_split S₂ (ev_var S₂ rfl (.inl rfl)) (evs_cons (ev_gstr S₂ rfl rfl) evs_nil) rfl hw) (by rfl) fun a s₃ X₃ hX₃ ha hxa hfa hca e₃ O₃ S₃ M₃ => ?_
  rw [hs] at M₃
  have hX : ∀ b, X' b → X₃ b := fun b h => by rw [hX₃]; exact .inl h
  have hXa : X₃ a := by rw [hX₃]; exact .inr rfl
  have hrest : ∀ s', Ext prog w (FrO (fEnv em.1.1 28 L)) C s₂ s' → Ext prog w (FrO (fEnv em.1.1 28 L)) C s₁ s' := fun s' e => e₂.ofNo.trans e
  have ham : ∀ s', s'.heap.objs.size ≤ a → ∀ s'', Ext prog w (fun b => b = a) C s' s'' → True := fun _ _ _ _ => trivial
  -- assert
  have Sf₃ := S₃.freeze M₃ hX hxa
  have hlm : (ws.map PV.str).length ≤ sizeLine := by rw [List.length_map]; exact len_sz hl
  refine x_assert (ts_eq (ts_cmp (op := .GtE) (ev_call_builtin (ev_builtin Sf₃ rfl rfl (by decide) rfl) (evs_cons (ev_var Sf₃ rfl (.inl rfl)) evs_nil) fun vs s' e r => c_len_list r hlm) (ev_cint) fun a b s' e ra rb => op_ge_int ra rb) (by rw [List.length_map]; exact decide_eq_true (by omega))) fun s₄ e₄ => ?_
  have S₄ := S₃.ext e₄
  have M₄ := M₃.ext e₄ (fun _ q => q.elim) (fun q => q)
  have e₁₄ : Ext prog w (FrO (fEnv em.1.1 28 L)) C s₁ s₄ := hrest _ (e₃.trans e₄.ofNo)
  refine x_assign_pair S₄ O₃ (.inl rfl) (.inl rfl) (ev_tuple S₄.bd (evs_cons ev_cint (evs_cons (ev_call_builtin (ev_builtin S₄ rfl rfl (by decide) rfl) (evs_cons (ev_var S₄ rfl (.inl rfl)) evs_nil) fun vs s' e r => c_len_str r (len_sz hg)) evs_nil)) (show 2 ≤ sizeLine by decide)) (by rfl) rfl fun s₅ e₅ S₅ => ?_
  have M₅ := M₄.ext e₅ O₃.own hfa
  have S₅ := S₅.sub (ρ' := [("ws", .val (.ref a)), ("startpos", .int 0), ("endpos", .int got.length), ("got", .str got)]) (sub_cons rfl (sub_cons rfl (sub_cons rfl (sub_cons rfl sub_nil))))
  have e₁₅ := e₁₄.trans e₅
  obtain ⟨w0, wr, rfl⟩ : ∃ w0 wr, ws = w0 :: wr := by cases ws with | nil => simp at h2 | cons a b => exact ⟨a, b, rfl⟩
  have h0 : w0.length ≤ 1000 := hlw w0 (.head _)
  have Sf₅ := S₅.freeze M₅ hX hxa
  refine x_assign S₅ O₃ (.inl rfl) (ev_imm (ev_item_list (ev_var Sf₅ rfl (.inl rfl)) ev_cint (by decide) (p := .str w0) rfl hlm) rfl) (by rfl) fun s₆ e₆ S₆ => ?_
  have M₆ := M₅.ext e₆ O₃.own hfa
  have e₁₆ := e₁₅.trans e₆
  have hsa : ∀ {s'}, Ext prog w (fun b => b = a) C s₆ s' → Ext prog w noX C s₂ s₂ := fun _ => .refl
  have hide : ∀ {sx sy}, Ext prog w (FrO (fEnv em.1.1 28 L)) C s₁ sx → Ext prog w (fun b => b = a) C sx sy → Ext prog w (FrO (fEnv em.1.1 28 L)) C s₁ sy := fun e e' => e.freshZ e' fun b h => .inr (h ▸ Nat.le_trans e₂.size ha)
  have ret : ∀ {sx v b}, Ext prog w (FrO (fEnv em.1.1 28 L)) C s₁ sx → Rep X₃ sx.heap v (.bool b) → b = emW (w0 :: wr) got → (∀ v', v' = v → Ext prog w (FrO (fEnv em.1.1 28 L)) C s₁ sx ∧ (Ext prog w noX C s₀ sx → Rep X sx.heap v' (.bool (emW (w0 :: wr) got)))) := fun e r hb v' hv => by
    subst hv hb; exact ⟨e, fun _ => r.imm rfl⟩
  -- if w:
  refine x_if2 (fun s' => (w0.length != 0 && !Txt.startswith got w0) = false ∧ Ext prog w (FrO (fEnv em.1.1 28 L)) C s₁ s' ∧ Sit prog w (hd.heap_39 P) mb n C X₃ (A.deeper (fEnv em.1.1 28 L)) (fEnv em.1.1 28 L) [("ws", .val (.ref a)), ("startpos", .int w0.length), ("endpos", .int got.length), ("got", .str got)] s' ∧ Mut X₃ a ((if w0.length != 0 then wr else w0 :: wr).map .str) s'.heap)
    (ts_str (ev_var S₆ rfl (.inl rfl)) (hsz := len_sz h0)) (fun s₇ e₇ => ?_) ?_
  · have S₇ := S₆.ext e₇
    have M₇ := M₆.ext e₇ (fun _ q => q.elim) (fun q => q)
    have e₁₇ := e₁₆.trans e₇.ofNo
    cases hb : w0.length != 0 with
    | false =>
      refine x_nil ⟨by simp, e₁₇, S₇.sub (sub_cons rfl (sub_cons ?_ (sub_cons rfl (sub_cons rfl sub_nil)))), M₇⟩
      have : w0.length = 0 := by simpa using hb
      rw [this]; rfl
    | true =>
      refine x_if (ts_bool (ev_method (ev_var S₇ rfl (.inl rfl)) (evs_cons (ev_var S₇ rfl (.inl rfl)) evs_nil) m_startswith)) fun s₈ e₈ => ?_
      have S₈ := S₇.ext e₈
      have M₈ := M₇.ext e₈ (fun _ q => q.elim) (fun q => q)
      have e₁₈ := e₁₇.trans e₈.ofNo
      cases hst : Txt.startswith got w0 with
      | false =>
        exact x_return ev_cbool fun v s₉ e₉ r => ret (e₁₈.trans e₉.ofNo) r (emW_no1 (by rw [hb, hst]; rfl)).symm
      | true =>
        refine x_assign S₈ O₃ (.inl rfl) (ev_call_builtin (ev_builtin S₈ rfl rfl (by decide) rfl) (evs_cons (ev_var S₈ rfl (.inl rfl)) evs_nil) fun vs s' e r => c_len_str r (len_sz h0)) (by rfl) fun s₉ e₉ S₉ => ?_
        have M₉ := M₈.ext e₉ O₃.own hfa
        refine x_del S₉ O₃ rfl rfl M₉ hXa hfa ev_cint (by decide) (seq0 (by simp)) hlm fun sa ea Sa Ma => x_nil ?_
        exact x_nil ⟨by simp, hide (e₁₈.trans e₉) ea, Sa.sub (sub_cons rfl (sub_cons rfl (sub_cons rfl (sub_cons rfl sub_nil)))), Ma⟩
  rintro s₇ ⟨hA, e₁₇, S₇, M₇⟩
  generalize hws1 : (if w0.length != 0 then wr else w0 :: wr) = ws1 at M₇
  have hne : ws1 ≠ [] := by
    rintro rfl
    cases hb : w0.length != 0 <;> simp [hb] at hws1
    subst hws1; simp at h2
  have hl1 : ws1.length ≤ 1000 := by
    rw [← hws1]; split
    · simp at hl; omega
    · exact hl
  have hlw1 : ∀ y ∈ ws1, y.length ≤ 1000 := by
    rw [← hws1]; intro y hy; split at hy
    · exact hlw y (.tail _ hy)
    · exact hlw y hy
  have hne' : (ws1.map PV.str) ≠ [] := by simpa using hne
  have hlm1 : (ws1.map PV.str).length ≤ sizeLine := by rw [List.length_map]; exact len_sz hl1
  have hpos : 0 < (ws1.map PV.str).length := List.length_pos_iff.mpr hne'
  have hwl : (ws1.map PV.str).getLast hne' = .str (ws1.getLast hne) := by rw [List.getLast_map]
  have hle : (ws1.getLast hne).length ≤ 1000 := hlw1 _ (List.getLast_mem hne)
  have Sf₇ := S₇.freeze M₇ hX hxa
  refine x_assign S₇ O₃ (.inl rfl) (ev_imm (ev_item_neg (ev_var Sf₇ rfl (.inl rfl)) (ev_neg ev_cint) (by decide) (by omega) (p := .str (ws1.getLast hne)) (by rw [← hwl]; exact last_idx _ hne') hlm1) rfl) (by rfl) fun s₈ e₈ S₈ => ?_
  have M₈ := M₇.ext e₈ O₃.own hfa
  have e₁₈ := e₁₇.trans e₈
  generalize hwd : ws1.getLast hne = wl at S₈ hle
  refine x_if2 (fun s' => (wl.length != 0 && !Txt.endswith got wl) = false ∧ Ext prog w (FrO (fEnv em.1.1 28 L)) C s₁ s' ∧ Sit prog w (hd.heap_39 P) mb n C X₃ (A.deeper (fEnv em.1.1 28 L)) (fEnv em.1.1 28 L) [("ws", .val (.ref a)), ("startpos", .int w0.length), ("endpos", .int (got.length - wl.length)), ("got", .str got)] s' ∧ Mut X₃ a ((if wl.length != 0 then ws1.dropLast else ws1).map .str) s'.heap)
    (ts_str (ev_var S₈ rfl (.inl rfl)) (hsz := len_sz hle)) (fun s₉ e₉ => ?_) ?_
  · have S₉ := S₈.ext e₉
    have M₉ := M₈.ext e₉ (fun _ q => q.elim) (fun q => q)
    have e₁₉ := e₁₈.trans e₉.ofNo
    cases hb : wl.length != 0 with
    | false =>
      refine x_nil ⟨by simp, e₁₉, S₉.sub (sub_cons rfl (sub_cons rfl (sub_cons ?_ (sub_cons rfl sub_nil)))), M₉⟩
      have : wl.length = 0 := by simpa using hb
      rw [this]
      rfl
    | true =>
      refine x_if (ts_bool (ev_method (ev_var S₉ rfl (.inl rfl)) (evs_cons (ev_var S₉ rfl (.inl rfl)) evs_nil) m_endswith)) fun sa ea => ?_
      have Sa := S₉.ext ea
      have Ma := M₉.ext ea (fun _ q => q.elim) (fun q => q)
      have e₁a := e₁₉.trans ea.ofNo
      cases hst : Txt.endswith got wl with
      | false =>
        exact x_return ev_cbool fun v sb eb r => ret (e₁a.trans eb.ofNo) r ((emW_1 hA hws1 hne hwd).trans (emC_no (by rw [hb, hst]; rfl))).symm
      | true =>
        refine x_aug Sa O₃ rfl rfl (ev_call_builtin (ev_builtin Sa rfl rfl (by decide) rfl) (evs_cons (ev_var Sa rfl (.inl rfl)) evs_nil) fun vs s' e r => c_len_str r (len_sz hle)) (fun a b s' ra rb => op_isub ra rb) fun sb eb Sb => ?_
        have Mb := Ma.ext eb O₃.own hfa
        refine x_del Sb O₃ rfl rfl Mb hXa hfa (ev_neg ev_cint) (by decide) (seqm1 hpos) hlm1 fun sc ec Sc Mc => x_nil ?_
        refine x_nil ⟨by simp, hide (e₁a.trans eb) ec, Sc.sub (sub_cons rfl (sub_cons rfl (sub_cons rfl (sub_cons rfl sub_nil)))), ?_⟩
        simp only [if_true]; rw [List.map_dropLast, ← List.eraseIdx_length_sub_one]
        exact Mc
  rintro s₉ ⟨hB, e₁₉, S₉, M₉⟩
  generalize hws2 : (if wl.length != 0 then ws1.dropLast else ws1) = ws2 at M₉
  have hl2 : ws2.length ≤ 1000 := by
    rw [← hws2]; split
    · rw [List.length_dropLast]; omega
    · exact hl1
  have hlw2 : ∀ y ∈ ws2, y.length ≤ 1000 := by
    rw [← hws2]; intro y hy; split at hy
    · exact hlw1 y (List.dropLast_subset _ hy)
    · exact hlw1 y hy
  have hem := (emW_1 hA hws1 hne hwd).trans (emC_1 (lo := w0.length) hB hws2)
  refine x_if2 (fun s' => ¬ (w0.length : Int) > got.length - wl.length ∧ Ext prog w (FrO (fEnv em.1.1 28 L)) C s₁ s' ∧ Ext prog w noX C s₉ s')
    (ts_cmp (ev_var S₉ rfl (.inl rfl)) (ev_var S₉ rfl (.inl rfl)) fun a b s' e ra rb => op_gt_int ra rb) (fun sa ea => ?_) ?_
  · by_cases hgt : (w0.length : Int) > got.length - wl.length
    · rw [decide_eq_true hgt]
      exact x_return ev_cbool fun v sb eb r => ret (e₁₉.trans (ea.trans eb).ofNo) r (by rw [hem, if_pos hgt])
    · rw [decide_eq_false hgt]
      exact x_nil ⟨hgt, e₁₉.trans ea.ofNo, ea⟩
  rintro sa ⟨hgt, e₁a, ea⟩
  rw [if_neg hgt] at hem
  have Sa := (S₉.ext ea).freeze (M₉.ext ea (fun _ q => q.elim) (fun q => q)) hX hxa
  refine x_for (Z := FrO (fEnv em.1.1 28 L)) Sa (evi_list Sa (ev_var Sa rfl (.inl rfl))) O (.inl rfl) (by intro v; rfl) (fun _ h => h) O.own
    (fun i => [("startpos", .int (emPos got (got.length - wl.length) w0.length ws2 i)), ("endpos", .int (got.length - wl.length)), ("got", .str got)])
    (fun _ i _ => emGo got (got.length - wl.length) ws2 w0.length = emGo got (got.length - wl.length) (ws2.drop i) (emPos got (got.length - wl.length) w0.length ws2 i)) (fun _ _ _ _ _ _ _ h _ => h)
    (sub_cons rfl (sub_cons rfl (sub_cons rfl sub_nil))) (fun _ _ _ => rfl) ?_ ?_
  · intro Xb i p sb hp hXb Ob eb Sb hJ
    obtain ⟨y, hy, rfl⟩ : ∃ y, ws2[i]? = some y ∧ PV.str y = p := by simpa using hp
    have hy1 : y.length ≤ 1000 := hlw2 y (List.mem_of_getElem? hy)
    refine Mine.el0b (emGo_step hy hJ) fun hno hyes => ?_
    refine x_assign Sb Ob (.inl rfl) (ev_method (ev_var Sb rfl (.inl rfl)) (evs_cons (ev_var Sb rfl (.inl rfl)) (evs_cons (ev_var Sb rfl (.inl rfl)) (evs_cons (ev_var Sb rfl (.inl rfl)) evs_nil))) m_find) (by rfl) fun sc ec Sc => ?_
    refine x_if (ts_cmp (ev_var Sc rfl (.inl rfl)) ev_cint fun a b s' e ra rb => op_lt_int ra rb) fun sd ed => ?_
    have Sd := Sc.ext ed
    by_cases hlt : findP got y (emPos got (got.length - wl.length) w0.length ws2 i) (got.length - wl.length) < 0
    · rw [decide_eq_true hlt]
      exact x_return (X := X₃) ev_cbool fun v se ee r => ⟨ec.trans (ed.trans ee).ofNo, fun e' => ret (e₁a.trans e') r (by rw [hem, hno hlt])⟩
    · rw [decide_eq_false hlt]
      refine x_nil (x_aug Sd Ob rfl rfl (ev_call_builtin (ev_builtin Sd rfl rfl (by decide) rfl) (evs_cons (ev_var Sd rfl (.inl rfl)) evs_nil) fun vs s' e r => c_len_str r (len_sz hy1)) (fun a b s' ra rb => op_iadd ra rb) fun se ee Se => x_nil ⟨ec.trans (ed.ofNo.trans ee), Se.sub (sub_cons ?_ (sub_cons rfl (sub_cons rfl sub_nil))), hyes hlt⟩)
      simp only [emPos, hy]; rfl
  · intro Xb sb hXb Ob eb Sb hJ
    refine x_return (X := X₃) ev_cbool fun v sc ec r => ret (e₁a.trans (eb.trans ec.ofNo)) r ?_
    rw [hem, hJ, List.length_map, List.drop_length]; rfl
end Mine
end
section
open PySem PySem.W PySem.Calls PyProof.Rows
set_option Elab.async false
set_option maxRecDepth 100000
set_option linter.unusedVariables false
namespace Mine
variable {prog : Program} {w : World} {K : Frag} {mb : Str → Option Value} {X Y : Addr → Prop} {C : Mem} {s s' s'' : Shared} {A : Around} {env : Env} {ρ : List (Str × PV)} {n : Nat}
noncomputable def nm : { p : FuncData × List Stmt // ∀ P, FnAt (hd.heap_39 P) 83 p.1 ["self", "filename", "modulename"] p.2 } := ⟨(_, _), fun P => {
  at_ := ⟨_, rfl, rfl⟩
  code := ⟨82, _, _, _, rfl, rfl, rfl, rfl⟩
  body := rfl
  kind := rfl
  co := rfl
  gen := rfl
  globals := rfl
  builtins := rfl
  closure := rfl
  kinds := fun L => by repeat (first | exact ks_nil | refine ks_cons (by first | exact .inl rfl | exact .inr ⟨rfl, rfl⟩) ?_) }⟩
theorem nm_bind (v u t : Value) : bindArgs nm.1.1 ⟨[v, u, t], []⟩ = pure [(("self" : Str), v), (("filename" : Str), u), (("modulename" : Str), t)] := by rfl
theorem nsOf_ex {P : Params} : ∃ o es ep, (hd.heap_39 P).lookup 85 = some o ∧ o.data = .dict es ep ∧ StrKeys es := by
  refine ⟨_, _, _, rfl, rfl, ?_⟩
  intro e he
  simp only [List.mem_toArray, List.mem_cons, List.not_mem_nil, or_false] at he
  rcases he with rfl | rfl | rfl | rfl | rfl | rfl | rfl | rfl <;> exact ⟨_, _, rfl⟩
noncomputable def mN1 (P : Params) (x : Str) : Option Value := match (hd.heap_39 P).lookup 85 with
  | some o => (match o.data with | .dict es _ => nsFind es x | _ => none)
  | none => none
theorem cls_at {P : Params} : ClsAt (hd.heap_39 P) 86 85 (mN1 P) where
  cls := ⟨_, _, _, _, _, _, _, _, _, _, _, _, rfl⟩
  ns := by
    refine Mine.el3c (nsOf_ex (P := P)) fun o es ep h1 h2 h3 => ?_
    refine ⟨o, es, ep, h1, h2, h3, fun x => ?_⟩
    unfold mN1
    rw [h1]
    simp only [h2]
  ga := rfl
  gt := rfl
  sa := rfl
theorem obj_no1 : typeLookup (.type "object") "_ignore" = pure none := by rw [typeLookup_type, builtinLookup_eq_fast]; kernel_rfl
theorem obj_no2 : typeLookup (.type "object") "_mods" = pure none := by rw [typeLookup_type, builtinLookup_eq_fast]; kernel_rfl
theorem obj_no3 : typeLookup (.type "object") "_dirs" = pure none := by rw [typeLookup_type, builtinLookup_eq_fast]; kernel_rfl

theorem op_in_set {a : Addr} {l : List Str} {m : Str} {v u : Value} (hS : SetW prog w s.heap a l) (ha : Rep X s.heap v (.str m)) (hb : Rep X s.heap u (.val (.ref a))) : DoV prog w C X A (compareOp .In v u) (.bool (decide (m ∈ l))) s := by
  refine Mine.Rep.elS ha fun _ => ?_; refine Mine.Rep.elV hb fun _ => ?_
  intro s₁ e₁ Q E k
  refine Mine.el1a ((hS.ext e₁ (fun q => q)).setOf) fun k' hk => ?_
  exact wpAny_inSet_of (knd := strKind prog w) (strKind_is prog w m _) rfl hk (k _ _ .tok (.bool _))
theorem op_is_none {fn : Option Str} {v u : Value} (ha : Rep X s.heap v (fnPV fn)) (hb : Rep X s.heap u .none) : DoV prog w C X A (compareOp .Is v u) (.bool fn.isNone) s := by
  cases hb
  intro s₁ e₁ Q E k
  have hv : (v == Value.none) = fn.isNone := by
    cases fn <;> cases ha <;> rfl
  exact is_none (by rw [hv]; exact k _ _ .refl (.bool _))
theorem nm_spec {P : Params} {x c : Addr} {b : Nat} {mods dirs KS : List Str} {Pm : Str → Int → Prop} {fn : Option Str} {m : Str} {r : Int} {vs : List Value} (S : Sit prog w (hd.heap_39 P) mb (n + 1) C X A env ρ s) (hr : Reps X s.heap vs [.val (.ref x), fnPV fn, .str m])
    (R : Rdr prog w C 86 s.heap b x c mods dirs) (hb : b ≤ s.heap.objs.size) (hC : C c = some Pm) (hM : MemoOk prog w s.heap c Pm) (hm : m ≠ "<string>") (hP : ∀ i, Pm m i → i = r) (hnew : Has prog w s.heap c m r ∨ (Pm m r ∧ r = nmR mods dirs fn m)) (hKS : ∀ m i, Pm m i → m ∈ KS) (hlen : KS.length ≤ 100000)
    (z1 : ∀ y ∈ mods, y.length ≤ 1000) (z2 : ∀ y ∈ dirs, y.length ≤ 1000) :
    Do prog w C A (call (.ref 83) vs) (fun v s' => Rep X s'.heap v (.int r) ∧ Has prog w s'.heap c m r) s := by
  (refine Mine.Reps.el3 hr fun _ _ _ r1 r2 r3 => ?_; have hr' := Reps.cons r1 (.cons r2 (.cons r3 .nil)))

  refine call_fn S (nm.2 P) hr' rfl (nm_bind _ _ _) fun s₀ L s₁ X' e₀ e₁ O hXX hlo S₁ => ?_
  k_fold
  have O' : Own (FrO (fEnv nm.1.1 83 L)) (fEnv nm.1.1 83 L) := ⟨fun a h => h, O.ap⟩
  have S₁ := S₁.ofSub O.own
  have e01 := e₀.trans e₁
  have hZb : ∀ a, FrO (fEnv nm.1.1 83 L) a → b ≤ a := fun a h => Nat.le_trans (Nat.le_trans hb e₀.size) (hlo a h)
  obtain ⟨ms, ds, mA, I, a1, a2, a3, a4, hS, hL, b1, b2, b3, b4⟩ := R.ext e01 (fun _ q => q.elim)
  have lt_no : ∀ {a}, a < b → ¬ FrO (fEnv nm.1.1 83 L) a := fun h q => Nat.lt_irrefl _ (Nat.lt_of_lt_of_le h (hZb _ q))
  have hM₁ := hM.ext e01 (fun q => q) hC
  have at1 : ∀ {s' : Shared} {ρ' : List (Str × PV)} {p1 p2 : Pos}, Ext prog w (FrO (fEnv nm.1.1 83 L)) C s₁ s' → Sit prog w (hd.heap_39 P) mb n C (FrO (fEnv nm.1.1 83 L)) (A.deeper (fEnv nm.1.1 83 L)) (fEnv nm.1.1 83 L) ρ' s' → ρ'.lookup ("self" : Str) = some (.val (.ref x)) → Ev prog w C (FrO (fEnv nm.1.1 83 L)) (A.deeper (fEnv nm.1.1 83 L)) (fEnv nm.1.1 83 L) (.Attribute (.Name "self" p1) "_ignore" p2) (.val (.ref c)) s' := fun e S' h =>
    ev_attr S' cls_at (I.ext e hZb) (ev_var S' h (.inl rfl)) a3 rfl obj_no1 rfl
  have at2 : ∀ {s' : Shared} {ρ' : List (Str × PV)} {p1 p2 : Pos}, Ext prog w (FrO (fEnv nm.1.1 83 L)) C s₁ s' → Sit prog w (hd.heap_39 P) mb n C (FrO (fEnv nm.1.1 83 L)) (A.deeper (fEnv nm.1.1 83 L)) (fEnv nm.1.1 83 L) ρ' s' → ρ'.lookup ("self" : Str) = some (.val (.ref x)) → Ev prog w C (FrO (fEnv nm.1.1 83 L)) (A.deeper (fEnv nm.1.1 83 L)) (fEnv nm.1.1 83 L) (.Attribute (.Name "self" p1) "_mods" p2) (.val (.ref ms)) s' := fun e S' h =>
    ev_attr S' cls_at (I.ext e hZb) (ev_var S' h (.inl rfl)) a1 rfl obj_no2 rfl
  have at3 : ∀ {s' : Shared} {ρ' : List (Str × PV)} {p1 p2 : Pos}, Ext prog w (FrO (fEnv nm.1.1 83 L)) C s₁ s' → Sit prog w (hd.heap_39 P) mb n C (FrO (fEnv nm.1.1 83 L)) (A.deeper (fEnv nm.1.1 83 L)) (fEnv nm.1.1 83 L) ρ' s' → ρ'.lookup ("self" : Str) = some (.val (.ref x)) → Ev prog w C (FrO (fEnv nm.1.1 83 L)) (A.deeper (fEnv nm.1.1 83 L)) (fEnv nm.1.1 83 L) (.Attribute (.Name "self" p1) "_dirs" p2) (.list (dirs.map .str)) s' := fun {s' ρ' p1 p2} e S' h =>
    Do.mono (ev_attr S' cls_at (I.ext e hZb) (ev_var S' h (.inl rfl)) a2 rfl obj_no3 rfl) fun v s'' e'' r => by
      refine Mine.Rep.elV r fun _ => ?_
      exact ((hL.ext e (lt_no b2)).ext e'' (fun q => q)).rep (lt_no b2)
  have fin : ∀ {V : Int} {p1 p2 p3 p4 p5 p6 p7 p8 : Pos} {k1 k2 : Nat} {s' : Shared} {ρ' : List (Str × PV)}, V = r → Pm m r → Ext prog w (FrO (fEnv nm.1.1 83 L)) C s₁ s' → Sit prog w (hd.heap_39 P) mb n C (FrO (fEnv nm.1.1 83 L)) (A.deeper (fEnv nm.1.1 83 L)) (fEnv nm.1.1 83 L) ρ' s' → ρ'.lookup ("self" : Str) = some (.val (.ref x)) → ρ'.lookup ("modulename" : Str) = some (.str m) →
      wpAny (model prog w) (A.deeper (fEnv nm.1.1 83 L)) (execs [.Assign [.Subscript (.Attribute (.Name "self" p1) "_ignore" p2) (.Name "modulename" p3) p4] (.Constant (.int V) k1 p5) p6, .Return (some (.Constant (.int V) k2 p7)) p8] (fEnv nm.1.1 83 L))
        (fun f s'' => ∃ v, f = .ret v ∧ Rep X s''.heap v (.int r) ∧ Has prog w s''.heap c m r ∧ Ext prog w (FrO (fEnv nm.1.1 83 L)) C s₁ s'' ∧ Ext prog w noX C s' s'') (fun _ _ => False) s' := by
    intro V p1 p2 p3 p4 p5 p6 p7 p8 k1 k2 s' ρ' hV hPm e S' h1 h2
    subst hV
    refine wpAny_execs_cons (wpAny_Assign_Subscript ?_)
    refine (ev_cint (X := FrO (fEnv nm.1.1 83 L)) (C := C) s' .refl _ _ fun v sa ea ra => ?_)
    refine Mine.Rep.elI ra fun _ => ?_
    refine at1 (e.trans ea.ofNo) (S'.ext ea) h1 sa .refl _ _ fun ov sb eb rb => ?_
    refine Mine.Rep.elV rb fun _ => ?_
    refine (ev_var (S'.ext (ea.trans eb)) h2 (.inl rfl)).run .refl fun iv sc ec rc => ?_
    refine Mine.Rep.elS rc fun _ => ?_
    have e' := ea.trans (eb.trans ec)
    refine memo_set hC (hM₁.ext (e.trans e'.ofNo) (lt_no b3) hC) hm hPm hP hKS hlen fun sd ed hH => ?_
    exact x_return (X := X) (C := C) ev_cint fun v se ee re => ⟨v, rfl, re, hH.ext ee (fun q => q), e.trans (e'.trans (ed.trans ee)).ofNo, e'.trans (ed.trans ee)⟩
  -- if modulename in self._ignore
  refine x_ifR (ts_in_memo S₁ (ev_var S₁ rfl (.inl rfl)) (at1 .refl S₁ rfl) hC hM₁ hm hP b4) fun bb s₂ e₂ hT => ?_
  have S₂ := S₁.ext e₂
  have e₁₂ : Ext prog w (FrO (fEnv nm.1.1 83 L)) C s₁ s₂ := e₂.ofNo
  cases bb with
  | true =>
    refine x_return (ev_memo (at1 e₁₂ S₂ rfl) (ev_var S₂ rfl (.inl rfl)) hC (hM₁.ext e₂ (fun q => q) hC) hm hP (hT.1 rfl)) fun v s₃ e₃ rv v' hv => ?_
    subst hv
    exact ⟨e₁₂.trans e₃.ofNo, fun _ => ⟨rv.imm rfl, (hT.1 rfl).ext e₃ (fun q => q)⟩⟩
  | false =>
  refine x_nil ?_
  dsimp only
  refine Mine.el0b (hnew.resolve_left fun q => hT.2 rfl r (q.ext (e01.trans e₂) (fun q => q))) fun hPr hrr => ?_
  clear hT
  -- if modulename in self._mods
  have hS₂ := hS.ext e₁₂ (lt_no b1)
  refine x_if (ts_cmp (ev_var S₂ rfl (.inl rfl)) (at2 e₁₂ S₂ rfl) fun a b s' e ra rb => op_in_set (hS₂.ext e (fun q => q)) ra rb) fun s₃ e₃ => ?_
  have S₃ := S₂.ext e₃
  have e₁₃ := e₁₂.trans e₃.ofNo
  cases hin : decide (m ∈ mods) with
  | true =>
    refine wpAny_mono (fin (by rw [hrr]; simp [nmR, nmB, hin]) hPr e₁₃ S₃ rfl rfl) (fun f s₄ hf => ?_) fun _ _ q => q
    (refine Mine.el1e hf fun v hq13 h1 h2 h3 h4 => ?_; try clear hf; obtain rfl := hq13)
    exact fun v' hv => hv ▸ ⟨h3, fun _ => ⟨h1, h2⟩⟩
  | false =>
  refine x_nil ?_
  dsimp only
  -- for mod in self._mods
  refine wpAny_execs_cons (wpAny_For ((at2 e₁₃ S₃ rfl).run .refl fun ov s₄ e₄ r4 => ?_))
  refine Mine.Rep.elV r4 fun _ => ?_
  have S₄ := S₃.ext e₄
  have e₁₄ := e₁₃.trans e₄.ofNo
  refine iter_set S₄ (hS.ext e₁₄ (lt_no b1)) (lt_no b1) fun xs it s₅ hxs e₅ hI => ?_
  refine for_loop (Z := FrO (fEnv nm.1.1 83 L)) (ρ := [("modulename", .str m), ("filename", fnPV fn), ("self", .val (.ref x))]) S₄ e₅ hI O' (.inl rfl) (fun _ h => h) (fun _ h => h) (fun i => [("modulename", .str m), ("filename", fnPV fn), ("self", .val (.ref x))])
    (fun _ i _ => (xs.take i).any (fun y => Txt.startswith m (y ++ ".")) = false) (fun _ _ _ _ _ _ _ h _ => h) sub_refl (fun _ _ _ => rfl) ?_ ?_
  · intro Xb i p sb hp hXb Ob eb Sb hJ
    obtain ⟨y, hy, rfl⟩ : ∃ y, xs[i]? = some y ∧ PV.str y = p := by simpa using hp
    have hy1 : y.length ≤ 1000 := z1 y ((hxs y).mp (List.mem_of_getElem? hy))
    have Sb0 := Sb
    have Sb := Sb.ofSub hXb
    have e₁b := e₁₄.trans eb
    refine x_if (ts_bool (ev_method (ev_var Sb rfl (.inl rfl)) (evs_cons (ev_binop (ev_var Sb rfl (.inl rfl)) ev_cstr fun a b s' e ra rb => op_add_str ra rb (len_sz1 hy1)) evs_nil) m_startswith)) fun sc ec => ?_
    have Sc := Sb.ext ec
    have e₁c := e₁b.trans ec.ofNo
    cases hst : Txt.startswith m (y ++ ".") with
    | true =>
      have hany : mods.any (fun y => Txt.startswith m (y ++ ".")) = true := List.any_eq_true.mpr ⟨y, (hxs y).mp (List.mem_of_getElem? hy), hst⟩
      refine wpAny_mono (fin (by rw [hrr]; simp [nmR, nmB, hany]) hPr e₁c Sc rfl rfl) (fun f sd hf => ?_) fun _ _ q => q
      (refine Mine.el1e hf fun v hq15 h1 h2 h3 h4 => ?_; try clear hf; obtain rfl := hq15)
      exact ⟨(ec.trans h4).ofNo, fun _ v' hv => hv ▸ ⟨h3, fun _ => ⟨h1, h2⟩⟩⟩
    | false =>
      refine x_nil (x_nil ⟨ec.ofNo, ?_, ?_⟩)
      · exact (Sb0.ext ec).sub (sub_tail rfl)
      · rw [List.take_add_one, hy, List.any_append, hJ]; simp [hst]
  intro X₆ s₆ hX₆ O₆ e₆ S₆ hJ₆
  have hno : mods.any (fun y => Txt.startswith m (y ++ ".")) = false := by
    rw [← any_same hxs]
    rw [List.length_map, List.take_length] at hJ₆
    exact hJ₆
  clear hJ₆
  have S₆ := S₆.ofSub hX₆
  have e₁₆ := e₁₄.trans e₆
  -- if filename is None
  refine x_if (ts_cmp (ev_var S₆ rfl (.inl rfl)) ev_cnone fun a b s' e ra rb => op_is_none ra rb) fun s₇ e₇ => ?_
  have S₇ := S₆.ext e₇
  have e₁₇ := e₁₆.trans e₇.ofNo
  cases fn with
  | none =>
    simp only [Option.isNone_none, if_true]
    refine wpAny_mono (fin (by rw [hrr]; simp [nmR, nmB]) hPr e₁₇ S₇ rfl rfl) (fun f s₈ hf => ?_) fun _ _ q => q
    (refine Mine.el1e hf fun v hq16 h1 h2 h3 h4 => ?_; try clear hf; obtain rfl := hq16)
    exact fun v' hv => hv ▸ ⟨h3, fun _ => ⟨h1, h2⟩⟩
  | some fl =>
  simp only [Option.isNone_some, Bool.false_eq_true, if_false]
  refine x_nil ?_
  dsimp only
  -- for d in self._dirs
  refine x_for (Z := FrO (fEnv nm.1.1 83 L)) S₇ (evi_list S₇ (at3 e₁₇ S₇ rfl)) O' (.inl rfl) (by intro v; rfl) (fun _ h => h) (fun _ h => h) (fun i => [("modulename", .str m), ("filename", .str fl), ("self", .val (.ref x))])
    (fun _ i _ => (dirs.take i).any (fun d => Txt.startswith fl (d ++ "/")) = false) (fun _ _ _ _ _ _ _ h _ => h) sub_refl (fun _ _ _ => rfl) ?_ ?_
  · intro Xb i p sb hp hXb Ob eb Sb0 hJ
    obtain ⟨y, hy, rfl⟩ : ∃ y, dirs[i]? = some y ∧ PV.str y = p := by simpa using hp
    have hy1 : y.length ≤ 1000 := z2 y (List.mem_of_getElem? hy)
    have Sb := Sb0.ofSub hXb
    have e₁b := e₁₇.trans eb
    refine x_if (ts_bool (ev_method (ev_var Sb rfl (.inl rfl)) (evs_cons (ev_binop (ev_var Sb rfl (.inl rfl)) (ev_gstr Sb rfl rfl) fun a b s' e ra rb => op_add_str ra rb (len_sz1 hy1)) evs_nil) m_startswith)) fun sc ec => ?_
    have Sc := Sb.ext ec
    have e₁c := e₁b.trans ec.ofNo
    cases hst : Txt.startswith fl (y ++ "/") with
    | true =>
      have hany : dirs.any (fun d => Txt.startswith fl (d ++ "/")) = true := List.any_eq_true.mpr ⟨y, List.mem_of_getElem? hy, hst⟩
      refine wpAny_mono (fin (by rw [hrr]; simp [nmR, nmB, hany]) hPr e₁c Sc rfl rfl) (fun f sd hf => ?_) fun _ _ q => q
      (refine Mine.el1e hf fun v hq17 h1 h2 h3 h4 => ?_; try clear hf; obtain rfl := hq17)
      exact ⟨(ec.trans h4).ofNo, fun _ v' hv => hv ▸ ⟨h3, fun _ => ⟨h1, h2⟩⟩⟩
    | false =>
      refine x_nil (x_nil ⟨ec.ofNo, (Sb0.ext ec).sub (sub_tail rfl), ?_⟩)
      rw [List.take_add_one, hy, List.any_append, hJ]; simp [hst]
  · intro X₈ s₈ hX₈ O₈ e₈ S₈ hJ₈
    rw [List.length_map, List.take_length] at hJ₈
    have S₈ := S₈.ofSub hX₈
    have e₁₈ := e₁₇.trans e₈
    refine wpAny_mono (fin (by rw [hrr]; simp [nmR, nmB, hin, hno, hJ₈]) hPr e₁₈ S₈ rfl rfl) (fun f s₉ hf => ?_) fun _ _ q => q.elim
    (refine Mine.el1e hf fun v hq18 h1 h2 h3 h4 => ?_; try clear hf; obtain rfl := hq18)
    exact fun v' hv => hv ▸ ⟨h3, fun _ => ⟨h1, h2⟩⟩
end Mine
end
section
open PySem PySem.W PySem.Calls PyProof.Rows
set_option Elab.async false
set_option maxRecDepth 100000
set_option linter.unusedVariables false
namespace Mine
variable {prog : Program} {w : World} {K : Frag} {mb : Str → Option Value} {X Y : Addr → Prop} {C : Mem} {s s' s'' : Shared} {A : Around} {env : Env} {ρ : List (Str × PV)} {n : Nat}
noncomputable def pa : { p : FuncData × List Stmt // ∀ P, FnAt (hd.heap_39 P) 100 p.1 ["word", "sign"] p.2 } := ⟨(_, _), fun P => {
  at_ := ⟨_, rfl, rfl⟩
  code := ⟨99, _, _, _, rfl, rfl, rfl, rfl⟩
  body := rfl
  kind := rfl
  co := rfl
  gen := rfl
  globals := rfl
  builtins := rfl
  closure := rfl
  kinds := fun L => by repeat (first | exact ks_nil | refine ks_cons (by first | exact .inl rfl | exact .inr ⟨rfl, rfl⟩) ?_) }⟩
theorem pa_bind (v u : Value) : bindArgs pa.1.1 ⟨[v, u], []⟩ = pure [(("word" : Str), v), (("sign" : Str), u)] := by rfl
theorem pa_spec {P : Params} {word sign : Str} {vs : List Value} (S : Sit prog w (hd.heap_39 P) mb (n + 1) C X A env ρ s) (hr : Reps X s.heap vs [.str word, .str sign]) (h1 : word.length ≤ 1000) (h2 : sign.length ≤ 1000) : DoV prog w C X A (call (.ref 100) vs) (.list ((partsP word sign).map .str)) s := by
  (refine Mine.Reps.el2 hr fun _ _ r1 r2 => ?_; have hr' := Reps.cons r1 (.cons r2 .nil))

  refine call_fn S (pa.2 P) hr' rfl (pa_bind _ _) fun s₀ L s₁ X' e₀ e₁ O hXX hlo S₁ => ?_
  k_fold
  refine x_return (X := X') (C := C) (p := .list ((partsP word sign).map .str)) ?_ fun v s' e' r v' hv => by
    subst hv
    exact ⟨e'.ofNo, fun _ => r.ofSub hXX⟩
  refine ev_eq (ev_lc S₁ O.ap rfl (evi_str S₁ (ev_var S₁ rfl (.inl rfl))) (fun _ => true) (onS fun x => .str (if x = sign then sign else sign ++ sign)) (.inl rfl) (by simp [chars]; exact len_sz h1) (by intro v; exact rfl) ?_) ?_
  · intro L' cells X'' p s' hp S' ce e'
    refine ⟨tests_nil, fun _ => ?_⟩
    obtain ⟨c, hc, rfl⟩ : ∃ c, c ∈ word.cps.toList ∧ PV.str ⟨#[c]⟩ = p := by simpa [chars] using hp
    refine ev_ifexp (b := decide ((⟨#[c]⟩ : Str) = sign)) (ts_cmp (ev_loc S' rfl rfl) (ev_free S' ce rfl rfl) fun a b s' e ra rb => op_eq_str ra rb) (fun hb => ?_) fun hb => ?_
    · show Ev _ _ _ _ _ _ _ (.str (if _ then _ else _)) _
      rw [if_pos (of_decide_eq_true hb)]
      exact ev_free S' ce rfl rfl
    · show Ev _ _ _ _ _ _ _ (.str (if _ then _ else _)) _
      rw [if_neg (of_decide_eq_false hb)]
      exact ev_binop (ev_free S' ce rfl rfl) (ev_free S' ce rfl rfl) fun a b s' e ra rb => op_add_str ra rb (Nat.le_trans (Nat.add_le_add h2 h2) (by decide))
  · rw [List.filter_eq_self.mpr (fun _ _ => rfl)]
    simp only [chars, partsP, List.map_map]
    rfl
noncomputable def tu : { p : FuncData × List Stmt // ∀ P, FnAt (hd.heap_39 P) 107 p.1 ["word", "sign"] p.2 } := ⟨(_, _), fun P => {
  at_ := ⟨_, rfl, rfl⟩
  code := ⟨106, _, _, _, rfl, rfl, rfl, rfl⟩
  body := rfl
  kind := rfl
  co := rfl
  gen := rfl
  globals := rfl
  builtins := rfl
  closure := rfl
  kinds := fun L => by repeat (first | exact ks_nil | refine ks_cons (by first | exact .inl rfl | exact .inr ⟨rfl, rfl⟩) ?_) }⟩
theorem tu_bind (v0 v1 : Value) : bindArgs tu.1.1 ⟨[v0, v1], []⟩ = pure [(("word" : Str), v0), (("sign" : Str), v1)] := by rfl
noncomputable def turnedP (word sign : Str) : Str := Txt.join "." (partsP word sign).reverse
theorem tu_spec {P : Params} {word sign : Str} {vs : List Value} (S : Sit prog w (hd.heap_39 P) mb (n + 2) C X A env ρ s) (hr : Reps X s.heap vs [.str word, .str sign]) (h1 : word.length ≤ 1000) (h2 : sign.length ≤ 1000) (hj : JoinOk "." (partsP word sign).reverse = true) : DoV prog w C X A (call (.ref 107) vs) (.str (turnedP word sign)) s := by
  (refine Mine.Reps.el2 hr fun _ _ r1 r2 => ?_; have hr' := Reps.cons r1 (.cons r2 .nil))

  refine call_fn S (tu.2 P) hr' rfl (tu_bind _ _) fun s₀ L s₁ X' e₀ e₁ O hXX hlo S₁ => ?_
  k_fold
  have hpl : ((partsP word sign).map PV.str).length ≤ sizeLine := by simp [partsP]; exact len_sz h1
  refine Mine.el1b ((pa.2 P).at_) fun o100 ho100 hd100 => ?_
  refine x_return (X := X') (C := C) (p := .str (turnedP word sign)) (ev_method ev_cstr (evs_cons (ev_eq (ev_slice_list S₁.bd (ev_call_fn (ev_global S₁ rfl rfl) (evs_cons (ev_var S₁ rfl (.inl rfl)) (evs_cons (ev_var S₁ rfl (.inl rfl)) evs_nil)) (S₁.base.frag _ _ ho100) hd100 fun vs s' e r => pa_spec (S₁.ext e) r h1 h2) evp_none evp_none (evp_some (X := X') (ev_neg ev_cint)) (by decide) hpl) ?_) evs_nil) (m_join hj)) fun v s' e' r v' hv => ?_
  · rw [pick_rev, ← List.map_reverse]
  · subst hv
    exact ⟨e'.ofNo, fun _ => r.imm rfl⟩
noncomputable def ki : { p : FuncData × List Stmt // ∀ P, FnAt (hd.heap_39 P) 35 p.1 ["name", "x"] p.2 } := ⟨(_, _), fun P => {
  at_ := ⟨_, rfl, rfl⟩
  code := ⟨34, _, _, _, rfl, rfl, rfl, rfl⟩
  body := rfl
  kind := rfl
  co := rfl
  gen := rfl
  globals := rfl
  builtins := rfl
  closure := rfl
  kinds := fun L => by repeat (first | exact ks_nil | refine ks_cons (by first | exact .inl rfl | exact .inr ⟨rfl, rfl⟩) ?_) }⟩
theorem ki_bind (v0 v1 : Value) : bindArgs ki.1.1 ⟨[v0, v1], []⟩ = pure [(("name" : Str), v0), (("x" : Str), v1)] := by rfl
theorem ki_spec {P : Params} {nm x : Str} {vs : List Value} (S : Sit prog w (hd.heap_39 P) mb (n + 1) C X A env ρ s) (hr : Reps X s.heap vs [.str nm, .str x]) : DoV prog w C X A (call (.ref 35) vs) (.str ⟨#[]⟩) s := by
  (refine Mine.Reps.el2 hr fun _ _ r1 r2 => ?_; have hr' := Reps.cons r1 (.cons r2 .nil))

  refine call_fn S (ki.2 P) hr' rfl (ki_bind _ _) fun s₀ L s₁ X' e₀ e₁ O hXX hlo S₁ => ?_
  k_fold
  refine x_assign (p := .val (.type "str")) S₁ O (.inl rfl) (ev_call_type (ev_builtin S₁ rfl rfl (by decide) rfl) (evs_cons (ev_var S₁ rfl (.inl rfl)) evs_nil) fun vs s' e r => ?_) (by rfl) fun s₂ e₂ S₂ => ?_
  · cases r with
    | cons a b =>
      refine Mine.Rep.elS a fun _ => ?_; refine Mine.Reps.elN b ?_
      exact fun s₁ e₁ Q E k => call_type_of (typeIs_str _ _ _) (by decide) (k _ _ .refl (.val _))
  · refine x_if (ts_cmp (p := .val (.type "str")) (q := .val (.type "str")) (b := true) (ev_var S₂ rfl (.inl rfl)) (ev_builtin S₂ rfl rfl (by decide) rfl) fun a b s' e ra rb => ?_) fun s₃ e₃ => ?_
    · refine Mine.Rep.elV ra fun _ => ?_; refine Mine.Rep.elV rb fun _ => ?_
      exact fun s₁ e₁ Q E k => wpAny_bind (wpAny_pure (wpAny_pure (k _ _ .refl (.bool _))))
    · simp only [if_true]
      refine x_return (X := X') (C := C) ev_cstr fun v s' e' r v' hv => ?_
      subst hv
      exact ⟨e₂.trans (e₃.trans e').ofNo, fun _ => r.imm rfl⟩
end Mine
end
section
open PySem PySem.W PySem.Calls PyProof.Rows
set_option Elab.async false
set_option maxRecDepth 100000
set_option linter.unusedVariables false
namespace Mine
variable {prog : Program} {w : World} {K : Frag} {mb : Str → Option Value} {X Y : Addr → Prop} {C : Mem} {s s' s'' : Shared} {A : Around} {env : Env} {ρ : List (Str × PV)} {n : Nat}
noncomputable def sr : { p : FuncData × List Stmt // ∀ P, FnAt (hd.heap_39 P) 49 p.1 ["p"] p.2 } := ⟨(_, _), fun P => {
  at_ := ⟨_, rfl, rfl⟩
  code := ⟨48, _, _, _, rfl, rfl, rfl, rfl⟩
  body := rfl
  kind := rfl
  co := rfl
  gen := rfl
  globals := rfl
  builtins := rfl
  closure := rfl
  kinds := fun L => by repeat (first | exact ks_nil | refine ks_cons (by first | exact .inl rfl | exact .inr ⟨rfl, rfl⟩) ?_) }⟩
theorem sr_bind (v0 : Value) : bindArgs sr.1.1 ⟨[v0], []⟩ = pure [(("p" : Str), v0)] := by rfl
theorem sr_spec {P : Params} {p : Str} {vs : List Value} (S : Sit prog w (hd.heap_39 P) mb (n + 1) C X A env ρ s) (hr : Reps X s.heap vs [.str p]) (hp : p.length ≤ 1000) (h1 : spick p none (some 1) none = "/") (h2 : spick p (some 1) (some 2) none ≠ "/") :
    DoV prog w C X A (call (.ref 49) vs) (.tup [.str ⟨#[]⟩, .str "/", .str (spick p (some 1) none none)]) s := by
  (refine Mine.Reps.el1 hr fun _ r1 => ?_; have hr' := Reps.cons r1 .nil)

  refine call_fn S (sr.2 P) hr' rfl (sr_bind _) fun s₀ L s₁ X' e₀ e₁ O hXX hlo S₁ => ?_
  k_fold
  refine x_assign S₁ O (.inl rfl) ev_cstr (by rfl) fun s₂ e₂ S₂ => ?_
  refine x_assign S₂ O (.inl rfl) ev_cstr (by rfl) fun s₃ e₃ S₃ => ?_
  refine x_if (ts_cmp (ev_slice_str (ev_var S₃ rfl (.inl rfl)) evp_none (evp_some (X := X') ev_cint) evp_none (by decide) (len_sz hp)) (ev_var S₃ rfl (.inl rfl)) fun a b s' e ra rb => op_ne_str ra rb) fun s₄ e₄ => ?_
  have S₄ := S₃.ext e₄
  rw [h1, decide_eq_true rfl]
  simp only [Bool.not_true, Bool.false_eq_true, if_false]
  refine x_if (ts_or_first (ts_eq (ts_cmp (ev_slice_str (ev_var S₄ rfl (.inl rfl)) (evp_some (X := X') ev_cint) (evp_some (X := X') ev_cint) evp_none (by decide) (len_sz hp)) (ev_var S₄ rfl (.inl rfl)) fun a b s' e ra rb => op_ne_str ra rb) (by rw [decide_eq_false h2]; rfl))) fun s₅ e₅ => ?_
  have S₅ := S₄.ext e₅
  refine x_return (ev_tuple S₅.bd (evs_cons (ev_var S₅ rfl (.inl rfl)) (evs_cons (ev_var S₅ rfl (.inl rfl)) (evs_cons (ev_slice_str (ev_var S₅ rfl (.inl rfl)) (evp_some (X := X') ev_cint) evp_none evp_none (by decide) (len_sz hp)) evs_nil))) (show 3 ≤ sizeLine by decide)) fun v s₆ e₆ r v' hv => ?_
  subst hv
  exact ⟨e₂.trans (e₃.trans (e₄.trans (e₅.trans e₆)).ofNo), fun _ => r.ofSub hXX⟩
noncomputable def cp : { p : FuncData × List Stmt // ∀ P, FnAt (hd.heap_39 P) 42 p.1 ["name", "cname", "argname", "args", "kwargs"] p.2 } := ⟨(_, _), fun P => {
  at_ := ⟨_, rfl, rfl⟩
  code := ⟨41, _, _, _, rfl, rfl, rfl, rfl⟩
  body := rfl
  kind := rfl
  co := rfl
  gen := rfl
  globals := rfl
  builtins := rfl
  closure := rfl
  kinds := fun L => by repeat (first | exact ks_nil | refine ks_cons (by first | exact .inl rfl | exact .inr ⟨rfl, rfl⟩) ?_) }⟩
theorem cp_bind (v0 v1 v2 v3 v4 : Value) : bindArgs cp.1.1 ⟨[v0, v1, v2, v3, v4], []⟩ = pure [(("name" : Str), v0), (("cname" : Str), v1), (("argname" : Str), v2), (("args" : Str), v3), (("kwargs" : Str), v4)] := by rfl
theorem c_len_tup {l : List PV} {vs : List Value} (r : Reps X s.heap vs [.tup l]) (hsz : l.length ≤ sizeLine) : DoV prog w C X A (call (.builtin "len") vs) (.int l.length) s := by
  refine Mine.Reps.elC r fun _ _ a b => ?_
  ·
    refine Mine.Reps.elN b ?_
    intro s₁ e₁ Q E k
    refine Mine.Rep.elT ((a.ext e₁.ofNo)) fun d items hx hl hr => ?_
    ·
      have hn : items.size = l.length := by simpa using hr.length
      have h0 : sizeLine = 16777216 := by decide
      refine PyProof.Rows.len_tuple hl (by omega) ?_
      rw [hn]
      exact k _ _ .tok (.int _ _)
theorem cp_spec {P : Params} {a b c x : Str} {d : Addr} {vs : List Value} (S : Sit prog w (hd.heap_39 P) mb (n + 2) C X A env ρ s) (hr : Reps X s.heap vs [.str a, .str b, .str c, .tup [.str x], .val (.ref d)]) (hdd : s.heap.DictOf (strKind prog w) d []) (hds : (d == sysModules) = false) (hCd : C d = none) :
    DoV prog w C X A (call (.ref 42) vs) (.str x) s := by
  (refine Mine.Reps.el5 hr fun _ _ _ _ _ r1 r2 r3 r4 r5 => ?_; have hr' := Reps.cons r1 (.cons r2 (.cons r3 (.cons r4 (.cons r5 .nil)))))

  refine call_fn S (cp.2 P) hr' rfl (cp_bind _ _ _ _ _) fun s₀ L s₁ X' e₀ e₁ O hXX hlo S₁ => ?_
  k_fold
  have hdk : ∀ s', Ext prog w noX C s₁ s' → s'.heap.DictOf (strKind prog w) d [] := fun s' e => by
    refine Mine.el1b (Heap.dictOf_iff.mp hdd) fun o ho hh => ?_
    exact Heap.dictOf_iff.mpr ⟨o, (e₀.trans (e₁.trans e)).keepAt ho (fun q => q) hCd, hh⟩
  have hkw : ∀ pos, Ts prog w C (A.deeper (fEnv cp.1.1 42 L)) (fEnv cp.1.1 42 L) (.Name "kwargs" pos) false s₁ := fun pos sa ea Q E k => by
    show wpAny _ _ (eval (.Name "kwargs" pos) (fEnv cp.1.1 42 L) >>= _) _ _ _
    refine wpAny_bind ((ev_var S₁ rfl (.inl rfl)).run ea fun v sb eb r => wpAny_bind (wpAny_standAt (wpAny_holding ?_)))
    refine Mine.Rep.elV r fun _ => ?_
    exact wpAny_truthy_dict hds (hdk sb (ea.trans eb)) (by decide) (k _ _ eb.tokR rfl)
  refine x_if2 (fun s' => Ext prog w (FrO (fEnv cp.1.1 42 L)) C s₁ s' ∧ Sit prog w (hd.heap_39 P) mb (n + 1) C X' (A.deeper (fEnv cp.1.1 42 L)) (fEnv cp.1.1 42 L) [("x", .str x), ("name", .str a)] s')
    (ts_and2 (ts_cmp (ev_call_builtin (ev_builtin S₁ rfl rfl (by decide) rfl) (evs_cons (ev_var S₁ rfl (.inl rfl)) evs_nil) fun vs s' e r => c_len_tup r (show 1 ≤ sizeLine by decide)) ev_cint fun a b s' e ra rb => op_eq_int ra rb) fun _ => ts_not (hkw _)) (fun s₂ e₂ => ?_) ?_
  · have S₂ := S₁.ext e₂
    show wpAny _ _ (execs (if true = true then _ else _) (fEnv cp.1.1 42 L)) _ _ _
    refine x_assign S₂ O (.inl rfl) (ev_item_tup (ev_var S₂ rfl (.inl rfl)) ev_cint (by decide) (p := .str x) rfl (show 1 ≤ sizeLine by decide)) (by rfl) fun s₃ e₃ S₃ => x_nil ⟨e₂.ofNo.trans e₃, S₃.sub (sub_cons rfl (sub_cons rfl sub_nil))⟩
  · rintro s₂ ⟨e₁₂, S₂⟩
    refine Mine.el1b ((ki.2 P).at_) fun o35 ho35 hd35 => ?_
    refine x_assign S₂ O (.inl rfl) (ev_call_fn (ev_global S₂ rfl rfl) (evs_cons (ev_var S₂ rfl (.inl rfl)) (evs_cons (ev_var S₂ rfl (.inl rfl)) evs_nil)) (S₂.base.frag _ _ ho35) hd35 fun vs s' e r => ki_spec (S₂.ext e) r) (by rfl) fun s₃ e₃ S₃ => ?_
    refine x_if (ts_str (ev_var S₃ rfl (.inl rfl)) (hsz := by decide)) fun s₄ e₄ => ?_
    have S₄ := S₃.ext e₄
    show wpAny _ _ (execs (if false = true then _ else _) (fEnv cp.1.1 42 L)) _ _ _
    refine x_nil (x_return (ev_var S₄ rfl (.inl rfl)) fun v s₅ e₅ r v' hv => ?_)
    subst hv
    exact ⟨e₁₂.trans (e₃.trans (e₄.trans e₅).ofNo), fun _ => r.imm rfl⟩
noncomputable def np : { p : FuncData × List Stmt // ∀ P, FnAt (hd.heap_39 P) 56 p.1 ["path"] p.2 } := ⟨(_, _), fun P => {
  at_ := ⟨_, rfl, rfl⟩
  code := ⟨55, _, _, _, rfl, rfl, rfl, rfl⟩
  body := rfl
  kind := rfl
  co := rfl
  gen := rfl
  globals := rfl
  builtins := rfl
  closure := rfl
  kinds := fun L => by repeat (first | exact ks_nil | refine ks_cons (by first | exact .inl rfl | exact .inr ⟨rfl, rfl⟩) ?_) }⟩
theorem np_bind (v0 : Value) : bindArgs np.1.1 ⟨[v0], []⟩ = pure [(("path" : Str), v0)] := by rfl

theorem np_spec {P : Params} {p : Str} {comps : List Str} {vs : List Value} (S : Sit prog w (hd.heap_39 P) mb (n + 2) C X A env ρ s) (hr : Reps X s.heap vs [.str p]) (hp : p.length ≤ 1000) (hp0 : (p.length != 0) = true) (h1 : spick p none (some 1) none = "/") (h2 : spick p (some 1) (some 2) none ≠ "/")
    (hq : (spick p (some 1) none none).length ≤ 1000) (hc : Txt.split (spick p (some 1) none none) "/" = comps) (hcl : comps.length ≤ 1000) (hce : ∀ c ∈ comps, c.length ≤ 1000 ∧ c ≠ "..") (hj : JoinOk "/" (keptP comps) = true) (hjl : (Txt.join "/" (keptP comps)).length ≤ 100000) :
    DoV prog w C X A (call (.ref 56) vs) (.str ("/" ++ Txt.join "/" (keptP comps))) s := by
  (refine Mine.Reps.el1 hr fun _ r1 => ?_; have hr' := Reps.cons r1 .nil)

  refine call_fn S (np.2 P) hr' rfl (np_bind _) fun s₀ L s₁ X' e₀ e₁ O hXX hlo S₁ => ?_
  k_fold
  refine x_assign S₁ O (.inl rfl) ev_cstr (by rfl) fun s₂ e₂ S₂ => ?_
  refine x_assign S₂ O (.inl rfl) ev_cstr (by rfl) fun s₃ e₃ S₃ => ?_
  refine x_assign S₃ O (.inl rfl) ev_cstr (by rfl) fun s₄ e₄ S₄ => ?_
  have e₁₄ := e₂.trans (e₃.trans e₄)
  refine x_if (ts_not (ts_str (ev_var S₄ rfl (.inl rfl)) (hsz := len_sz hp))) fun s₅ e₅ => ?_
  have S₅ := S₄.ext e₅
  rw [hp0]
  simp only [Bool.not_true, Bool.false_eq_true, if_false]
  refine x_nil ?_
  dsimp only
  refine Mine.el1b ((sr.2 P).at_) fun o49 ho49 hd49 => ?_
  refine x_assign_three S₅ O (.inl rfl) (.inl rfl) (.inl rfl) (ev_call_fn (ev_global S₅ rfl rfl) (evs_cons (ev_var S₅ rfl (.inl rfl)) evs_nil) (S₅.base.frag _ _ ho49) hd49 fun vs s' e r => sr_spec (S₅.ext e) r hp h1 h2) (by rfl) rfl fun s₆ e₆ S₆ => ?_
  refine x_assign S₆ O (.inl rfl) (ev_method (ev_var S₆ rfl (.inl rfl)) (evs_cons (ev_var S₆ rfl (.inl rfl)) evs_nil) (m_split S₆.bd rfl (len_sz hq) (split_parts _ _ hq))) (by rfl) fun s₇ e₇ S₇ => ?_
  rw [hc] at S₇
  have e₁₇ := e₁₄.trans (e₅.ofNo.trans (e₆.trans e₇))
  refine x_assign_mut S₇ O (.inl rfl) (evm_list S₇ evs_nil (show 0 ≤ sizeLine by decide)) (by rfl) fun a s₈ X₈ hX₈ ha hxa hfa hca e₈ O₈ S₈ M₈ => ?_
  have hXa : X₈ a := by rw [hX₈]; exact .inr rfl
  have hX : ∀ b, X' b → X₈ b := fun b h => by rw [hX₈]; exact .inl h
  have S₈ := S₈.sub (ρ' := [("new_comps", .val (.ref a)), ("comps", .list (comps.map .str)), ("initial_slashes", .str "/"), ("sep", .str "/"), ("dot", .str "."), ("dotdot", .str "..")]) (sub_cons rfl (sub_cons rfl (sub_cons rfl (sub_cons rfl (sub_cons rfl (sub_cons rfl sub_nil))))))
  have hlt8 : a < s₈.heap.objs.size := let ⟨_, ⟨_, ho⟩, _⟩ := M₈; Heap.lt_size ho
  refine x_for (Z := fun b => FrO (fEnv np.1.1 56 L) b ∨ b = a) S₈ (evi_list S₈ (ev_var S₈ rfl (.inl rfl))) O₈ (.inl rfl) (by intro v; rfl) (fun _ h => .inl h) (fun b h => h.elim (O₈.own b) fun h => h ▸ hXa)
    (fun i => [("new_comps", .val (.ref a)), ("initial_slashes", .str "/"), ("sep", .str "/"), ("dot", .str "."), ("dotdot", .str "..")])
    (fun Xj i sj => Mut Xj a ((keptP (comps.take i)).map .str) sj.heap) ?_ (sub_cons rfl (sub_cons rfl (sub_cons rfl (sub_cons rfl (sub_cons rfl sub_nil))))) (fun Xj h1 h2 => M₈.monoX h2) ?_ ?_
  · intro Xj i sa sb Z hXj hZ hm e
    refine hm.ext e (fun b h => (hZ b h).1) fun q => ?_
    rcases (hZ a q).2 with q | q
    · exact hfa q
    · exact Nat.lt_irrefl _ (Nat.lt_of_lt_of_le hlt8 q)
  · intro Xb i pv sb hpv hXb Ob eb Sb Mb
    obtain ⟨y, hy, rfl⟩ : ∃ y, comps[i]? = some y ∧ PV.str y = pv := by simpa using hpv
    refine Mine.el0b (hce y (List.mem_of_getElem? hy)) fun hy1 hy2 => ?_
    have htk : comps.take (i + 1) = comps.take i ++ [y] := by rw [List.take_add_one, hy]; rfl
    refine x_if (ts_or2 (ts_not (ts_str (ev_var Sb rfl (.inl rfl)) (hsz := len_sz hy1))) fun _ => ts_cmp (ev_var Sb rfl (.inl rfl)) (ev_var Sb rfl (.inl rfl)) fun a b s' e ra rb => op_eq_str ra rb) fun sc ec => ?_
    have Sc := Sb.ext ec
    have Mc := Mb.ext ec (fun _ q => q.elim) (fun q => q)
    cases hk : (!(y.length != 0) || decide (y = ".")) with
    | true =>
      refine x_continue ⟨ec.ofNo, Sc.sub (sub_cons rfl (sub_cons rfl (sub_cons rfl (sub_cons rfl (sub_cons rfl sub_nil))))), ?_⟩
      have : keptP (comps.take (i + 1)) = keptP (comps.take i) := by
        rw [htk, keptP, List.filter_append]
        have h0 : (y.length != 0 && !decide (y = ".")) = false := by
          cases h3 : y.length != 0 <;> cases h4 : decide (y = ".") <;> simp [h3, h4] at hk ⊢
        simp [h0, keptP]
      rw [this]; exact Mc
    | false =>
      refine x_nil ?_
      dsimp only
      refine x_if (ts_or_first (ts_eq (ts_cmp (ev_var Sc rfl (.inl rfl)) (ev_var Sc rfl (.inl rfl)) fun a b s' e ra rb => op_ne_str ra rb) (by rw [decide_eq_false hy2]; rfl))) fun sd ed => ?_
      have Sd := Sc.ext ed
      have Md := Mc.ext ed (fun _ q => q.elim) (fun q => q)
      refine x_append Sd rfl rfl Md (hXb a hXa) hfa (ev_var Sd rfl (.inl rfl)) (by rw [List.length_map]; exact Nat.le_trans (List.length_filter_le _ _) (Nat.le_trans (List.length_take_le' _ _) (len_sz hcl))) (hi := rfl) fun se ee Se Me => x_nil (x_nil ⟨(ec.trans ed).ofNo.trans (ee.mono fun b h => .inr h), Se.sub (sub_cons rfl (sub_cons rfl (sub_cons rfl (sub_cons rfl (sub_cons rfl sub_nil))))), ?_⟩)
      have : keptP (comps.take (i + 1)) = keptP (comps.take i) ++ [y] := by
        rw [htk, keptP, List.filter_append]
        have h0 : (y.length != 0 && !decide (y = ".")) = true := by
          cases h3 : y.length != 0 <;> cases h4 : decide (y = ".") <;> simp [h3, h4] at hk ⊢
        simp [h0, keptP]
      rw [this, List.map_append]; exact Me
  · intro X₉ s₉ hX₉ O₉ e₉ S₉ M₉
    rw [List.length_map, List.take_length] at M₉
    refine x_assign S₉ O₉ (.inl rfl) (ev_var S₉ rfl (.inl rfl)) (by rfl) fun sa ea Sa => ?_
    have Ma := M₉.ext ea O₉.own hfa
    have Sf := Sa.freeze Ma (fun b h => hX₉ b (hX b h)) hxa
    have hsz : (1 : Nat) + (Txt.join "/" (keptP comps)).length ≤ sizeLine := Nat.le_trans (Nat.add_le_add (Nat.le_refl _) hjl) (by decide)
    refine x_assign Sf O (.inl rfl) (ev_binop (ev_var Sf rfl (.inl rfl)) (ev_method (ev_var Sf rfl (.inl rfl)) (evs_cons (ev_var Sf rfl (.inl rfl)) evs_nil) (m_join hj)) fun a b s' e ra rb => op_add_str ra rb hsz) (by rfl) fun sb eb Sb => ?_
    refine x_return (ev_or_str (ev_var Sb rfl (.inl rfl)) ?_ ?_) fun v sc ec r v' hv => ?_
    · rw [str_len_app]
      have h3 : ("/" : Str).length = 1 := rfl
      rw [h3, bne_iff_ne]; omega
    · rw [str_len_app]; exact hsz
    · subst hv
      refine ⟨?_, fun _ => r.imm rfl⟩
      have e₁₉ : Ext prog w (FrO (fEnv np.1.1 56 L)) C s₁ s₉ := (e₁₇.trans e₈).freshZ e₉ fun b h => h.elim .inl fun (q : b = a) => .inr (q ▸ Nat.le_trans e₁₇.size ha)
      exact e₁₉.trans (ea.trans (eb.trans ec.ofNo))
noncomputable def no : { p : FuncData × List Stmt // ∀ P, FnAt (hd.heap_39 P) 63 p.1 ["args", "kwargs"] p.2 } := ⟨(_, _), fun P => {
  at_ := ⟨_, rfl, rfl⟩
  code := ⟨62, _, _, _, rfl, rfl, rfl, rfl⟩
  body := rfl
  kind := rfl
  co := rfl
  gen := rfl
  globals := rfl
  builtins := rfl
  closure := rfl
  kinds := fun L => by repeat (first | exact ks_nil | refine ks_cons (by first | exact .inl rfl | exact .inr ⟨rfl, rfl⟩) ?_) }⟩

theorem no_spec {P : Params} {p : Str} {comps : List Str} {vs : List Value} (S : Sit prog w (hd.heap_39 P) mb (n + 3) C X A env ρ s) (hr : Reps X s.heap vs [.str p]) (hp : p.length ≤ 1000) (hp0 : (p.length != 0) = true) (h1 : spick p none (some 1) none = "/") (h2 : spick p (some 1) (some 2) none ≠ "/")
    (hq : (spick p (some 1) none none).length ≤ 1000) (hc : Txt.split (spick p (some 1) none none) "/" = comps) (hcl : comps.length ≤ 1000) (hce : ∀ c ∈ comps, c.length ≤ 1000 ∧ c ≠ "..") (hj : JoinOk "/" (keptP comps) = true) (hjl : (Txt.join "/" (keptP comps)).length ≤ 100000) :
    DoV prog w C X A (call (.ref 63) vs) (.str ("/" ++ Txt.join "/" (keptP comps))) s := by
  refine Mine.Reps.elC hr fun _ _ r1 hr => ?_; refine Mine.Reps.elN hr ?_
  (refine Mine.el1a r1.inv fun tp hq20 => ?_; obtain rfl := hq20)
  refine call_fnB (ps := fun vs' => [.tup [.str p], .val (vs'.getD 1 .none)]) (D := fun vs' s₂ => ∃ d, vs'.getD 1 .none = .ref d ∧ s₂.heap.DictOf (strKind prog w) d [] ∧ (d == sysModules) = false ∧ C d = none) S (no.2 P) ?_ ?_
  · intro s₁ Q E e₁ k
    show wpAny _ _ (newTuple [.str p tp] >>= fun t => (alloc { cls := .type "dict", data := .dict #[] } >>= fun d => pure [(("args" : Str), t), (("kwargs" : Str), .ref d)])) _ _ _
    have S₁ := S.ext e₁
    refine wpAny_bind (wpAny_newObj_type ?_ (by show 1 ≤ sizeLine; decide))
    refine wpAny_bind (wpAny_alloc (wpAny_pure ?_))
    have e₂ : Ext prog w noX C s₁ { s₁ with heap := s₁.heap.push { cls := .type "tuple", data := .seq [Value.str p tp].toArray } } := .push
    have hsz : (s₁.heap.push { cls := .type "tuple", data := .seq [Value.str p tp].toArray }).objs.size = s₁.heap.objs.size + 1 := Heap.size_push ..
    have h4 : 4 < s₁.heap.objs.size := by refine Mine.el1b S₁.base.bm fun ob e _ => ?_; exact Heap.lt_size e
    refine k [.ref s₁.heap.objs.size, .ref (s₁.heap.push { cls := .type "tuple", data := .seq [Value.str p tp].toArray }).objs.size] _ rfl (e₂.trans .push) (.cons ?_ (.cons (.val _) .nil)) ⟨_, rfl, Heap.DictOf.new _, ?_, ?_⟩
    · exact (rep_newTup S₁.bd (.cons (.str p tp) .nil)).keeps fun _ _ e => Heap.get?_push_of_some _ e
    · rw [hsz, beq_eq_false_iff_ne]
      show s₁.heap.objs.size + 1 ≠ 1
      omega
    · exact co_new S₁ (by rw [hsz]; exact Nat.le_succ _)
  · rintro s₀ L s₁ X' vs' e₀ ⟨d, hvd, hdd, hds, hCd⟩ e₁ O hXX hlo S₁
    rw [hvd] at S₁
    k_fold
    refine Mine.el1b ((cp.2 P).at_) fun o42 ho42 hd42 => ?_
    refine Mine.el1b ((np.2 P).at_) fun o56 ho56 hd56 => ?_
    refine x_return (ev_call_fn (ev_global S₁ rfl rfl) (evs_cons (ev_call_fn (ev_global S₁ rfl rfl) (evs_cons ev_cstr (evs_cons ev_cstr (evs_cons ev_cstr (evs_cons (ev_var S₁ rfl (.inl rfl)) (evs_cons (ev_var S₁ rfl (.inl rfl)) evs_nil))))) (S₁.base.frag _ _ ho42) hd42 fun vs s' e r => cp_spec (S₁.ext e) r ?_ hds hCd) evs_nil) (S₁.base.frag _ _ ho56) hd56 fun vs s' e r => np_spec (S₁.ext e) r hp hp0 h1 h2 hq hc hcl hce hj hjl) fun v s' e' r v' hv => ?_
    · refine Mine.el1b (Heap.dictOf_iff.mp hdd) fun o ho hh => ?_
      exact Heap.dictOf_iff.mpr ⟨o, (e₁.trans e).keepAt ho (fun q => q) hCd, hh⟩
    · subst hv
      exact ⟨e'.ofNo, fun _ => r.imm rfl⟩
end Mine
end
section
open PySem PySem.W PySem.Calls PyProof.Rows
set_option Elab.async false
set_option maxRecDepth 100000
set_option linter.unusedVariables false
namespace Mine
variable {prog : Program} {w : World} {K : Frag} {mb : Str → Option Value} {X Y : Addr → Prop} {C : Mem} {s s' s'' : Shared} {A : Around} {env : Env} {ρ : List (Str × PV)} {n : Nat}
noncomputable def ini : { p : FuncData × List Stmt // ∀ P, FnAt (hd.heap_39 P) 76 p.1 ["self", "modules", "dirs"] p.2 } := ⟨(_, _), fun P => {
  at_ := ⟨_, rfl, rfl⟩
  code := ⟨75, _, _, _, rfl, rfl, rfl, rfl⟩
  body := rfl
  kind := rfl
  co := rfl
  gen := rfl
  globals := rfl
  builtins := rfl
  closure := rfl
  kinds := fun L => by repeat (first | exact ks_nil | refine ks_cons (by first | exact .inl rfl | exact .inr ⟨rfl, rfl⟩) ?_) }⟩

theorem ini_bind {P : Params} {vs : List Value} {x vm vd : Value} (hv : (vs = [] ∧ vm = .none ∧ vd = .none) ∨ (vs = [vm] ∧ vd = .none) ∨ vs = [vm, vd]) (B : (hd.heap_39 P).In s.heap) (Q : List (Str × Value) → Shared → Prop) (E : Value → Shared → Prop) (hq : Q [(("self" : Str), x), (("modules" : Str), vm), (("dirs" : Str), vd)] s) :
    wpAny (model prog w) A (bindArgs ini.1.1 ⟨x :: vs, []⟩) Q E s := by
  rcases hv with ⟨rfl, rfl, rfl⟩ | ⟨rfl, rfl⟩ | rfl
  all_goals
    show wpAny _ _ (seqItems? (.ref 71) >>= _) _ _ s
    exact wpAny_bind (wpAny_seqItems (B _ _ rfl) rfl (wpAny_pure hq))

/-- a reader just made: nothing of it lies where the maker's frame may store -/
inductive RNew (prog : Program) (w : World) (C : Mem) (X : Addr → Prop) (h : Heap) (lo : Nat) (x c : Addr) (mods dirs : List Str) : Prop
  | mk (ms ds dx mA o) : h.get? x = some o → o.cls = .ref 86 → o.data = .plain → o.dict = some dx → dx ≠ x → h.Ns1 dx mA → C dx = none → mA "_mods" = some (.ref ms) → mA "_dirs" = some (.ref ds) → mA "_ignore" = some (.ref c) → mA "names" = none → SetW prog w h ms mods → ListAt h ds dirs → (c == sysModules) = false → NewMemo prog w h c → C c = none → dx ≠ c → lo ≤ c → lo ≤ x → lo ≤ dx → ¬ X x → ¬ X dx → ¬ X ms → ¬ X ds → ¬ X c → RNew prog w C X h lo x c mods dirs
theorem RNew.ext {Z : Addr → Prop} {lo : Nat} {x c : Addr} {mods dirs : List Str} (R : RNew prog w C X s.heap lo x c mods dirs) (e : Ext prog w Z C s s') (hZ : ∀ a, Z a → X a) : RNew prog w C X s'.heap lo x c mods dirs := by
  obtain ⟨ms, ds, dx, mA, o, h1, h2, h3, h4, h5, h6, h7, a1, a2, a3, a4, h8, h9, h10, h11, h12, h13, l1, l2, l3, n1, n2, n3, n4, n5⟩ := R
  (refine Mine.el3c h6 fun o' es ep g1 g2 g3 => ?_; try clear h6)
  exact ⟨ms, ds, dx, mA, o, e.keepD h1 (fun q => n1 (hZ _ q)) (by rw [h3]; first | exact fun _ _ h => by cases h | exact fun _ h => by cases h | nofun), h2, h3, h4, h5, ⟨o', es, ep, e.keepAt g1 (fun q => n2 (hZ _ q)) h7, g2, g3⟩, h7, a1, a2, a3, a4, h8.ext e (fun q => n3 (hZ _ q)), h9.ext e (fun q => n4 (hZ _ q)), h10, h11.ext e (fun q => n5 (hZ _ q)) h12, h12, h13, l1, l2, l3, n1, n2, n3, n4, n5⟩
theorem RNew.mono {h : Heap} {lo lo' : Nat} {x c : Addr} {mods dirs : List Str} (R : RNew prog w C X h lo x c mods dirs) (hl : lo' ≤ lo) (hs : ∀ a, Y a → X a) : RNew prog w C Y h lo' x c mods dirs := by
  obtain ⟨ms, ds, dx, mA, o, h1, h2, h3, h4, h5, h6, h7, a1, a2, a3, a4, h8, h9, h10, h11, h12, h13, l1, l2, l3, n1, n2, n3, n4, n5⟩ := R
  exact ⟨ms, ds, dx, mA, o, h1, h2, h3, h4, h5, h6, h7, a1, a2, a3, a4, h8, h9, h10, h11, h12, h13, Nat.le_trans hl l1, Nat.le_trans hl l2, Nat.le_trans hl l3, fun q => n1 (hs _ q), fun q => n2 (hs _ q), fun q => n3 (hs _ q), fun q => n4 (hs _ q), fun q => n5 (hs _ q)⟩
theorem RNew.rdr {h : Heap} {lo : Nat} {x c : Addr} {mods dirs : List Str} (R : RNew prog w C X h lo x c mods dirs) : Rdr prog w C 86 h h.objs.size x c mods dirs := by
  obtain ⟨ms, ds, dx, mA, o, h1, h2, h3, h4, h5, h6, h7, a1, a2, a3, a4, h8, h9, h10, h11, h12, h13, l1, l2, l3, n1, n2, n3, n4, n5⟩ := R
  refine ⟨ms, ds, mA, ⟨dx, o, h1, h2, h3, h4, h5, h6, Heap.lt_size h1, h6.lt, h7⟩, a1, a2, a3, a4, h8, h9, ?_, ?_, ?_, h10⟩
  · (refine Mine.el3b h8 fun es ep t hq1 _ => ?_; try clear h8; obtain ⟨o, ho, _⟩ := hq1); exact Heap.lt_size ho
  · (refine Mine.el1b h9 fun items hq2 _ => ?_; try clear h9; obtain ⟨o, ho, _⟩ := hq2); exact Heap.lt_size ho
  · (refine Mine.el1b h11 fun o ho _ => ?_; try clear h11); exact Heap.lt_size ho
theorem no_spec' {P : Params} {p r : Str} {vs : List Value} (S : Sit prog w (hd.heap_39 P) mb (n + 3) C X A env ρ s) (hr : Reps X s.heap vs [.str p]) (h : NormOk p r) : DoV prog w C X A (call (.ref 63) vs) (.str r) s := by
  obtain ⟨comps, h1, h2, h3, h4, h5, h6, h7, h8, h9, h10, rfl⟩ := h.ex
  exact no_spec S hr h1 h2 h3 h4 h5 h6 h7 h8 h9 h10
theorem rm_under {C0 : Addr} {vs : List Value} (h : Rm (n + 1) A) : Rm n (A.under (.builtin "type.__call__" ⟨.ref C0 :: vs, []⟩)) := by
  refine ⟨?_, ?_, h.h⟩
  · show A.depth + 1 + n ≤ 600
    have := h.d; omega
  · have hu : (A.under (.builtin "type.__call__" ⟨.ref C0 :: vs, []⟩)).units ≤ A.units + 100 := by
      show A.units + _ ≤ A.units + 100
      refine Nat.add_le_add_left ?_ _
      show _ ≤ 100
      first | exact (by decide : (1 : Nat) ≤ 100) | exact (by decide : (3 : Nat) ≤ 100) | exact (by decide : (2 : Nat) ≤ 100) | exact (by decide : (0 : Nat) ≤ 100)
    have := h.u; omega

theorem fr_ne {sx : Shared} {ρ' : List (Str × PV)} {A' : Around} {X' : Addr → Prop} {env' : Env} {a : Addr} {o : Obj} (S : Sit prog w K mb n C X' A' env' ρ' sx) (ho : sx.heap.get? a = some o) (hd : ∀ v, o.data ≠ .cell v) : ∀ y c, env'.cells.lookup y = some c → c ≠ a := fun y c hc q => by
  (refine Mine.el1b (S.fm.cell y c hc) fun ov hq4 _ => ?_; obtain ⟨o', ho', hd'⟩ := hq4)
  rw [q, ho] at ho'; cases ho'
  exact hd _ hd'
set_option maxHeartbeats 2000000 in
theorem ini_spec {P : Params} {x dx : Addr} {om od : Option (List Str)} {nf : Str → Str} {vs : List Value} {vm vd : Value} {Q : Value → Shared → Prop} {E : Value → Shared → Prop} (S : Sit prog w (hd.heap_39 P) mb (n + 5) C X A env ρ s) (I : InsM C 86 s.heap x dx (fun _ => none)) (hxX : X x) (hdX : X dx) (hx86 : x ≠ 86)
    (hv : (vs = [] ∧ vm = .none ∧ vd = .none) ∨ (vs = [vm] ∧ vd = .none) ∨ vs = [vm, vd]) (rm : Rep X s.heap vm (lstPV om)) (rd : Rep X s.heap vd (lstPV od)) (z1 : (om.getD []).length ≤ 4000) (z2 : (od.getD []).length ≤ 4000) (hN : ∀ d ∈ od.getD [], NormOk d (nf d))
    (k : ∀ s' ms ds c mA, Ext prog w (fun b => b = x ∨ b = dx) C s s' → InsM C 86 s'.heap x dx mA → mA "_mods" = some (.ref ms) → mA "_dirs" = some (.ref ds) → mA "_ignore" = some (.ref c) → mA "names" = none → SetW prog w s'.heap ms (om.getD []) → ListAt s'.heap ds ((od.getD []).map nf) → NewMemo prog w s'.heap c → s.heap.objs.size ≤ c → ¬ X ms → ¬ X ds → Q .none s') :
    wpAny (model prog w) A (call (.ref 76) (.ref x :: vs)) Q E s := by
  refine call_raw (Z := fun b => b = x ∨ b = dx) (vs' := [.ref x, vm, vd]) (ps := [.val (.ref x), lstPV om, lstPV od]) S (ini.2 P) (.cons (.val _) (.cons rm (.cons rd .nil))) rfl (fun Q E hq => ini_bind hv S.base.frag Q E hq) fun L s₁ X' e₁ O hXX hXX2 hlo S₁ => ?_
  k_fold
  have hbd : ∀ {a}, X a → ¬ FrO (fEnv ini.1.1 76 L) a := fun h q => Nat.lt_irrefl _ (Nat.lt_of_lt_of_le (S.bd _ h) (hlo _ q))
  have I₁ := I.ext e₁ (fun q => q) (fun q => q)
  have hcl : ∀ {sx : Shared} {ρx : List (Str × PV)} {mx : Str → Option Value}, Sit prog w (hd.heap_39 P) mb (n + 4) C X' (A.deeper (fEnv ini.1.1 76 L)) (fEnv ini.1.1 76 L) ρx sx → InsM C 86 sx.heap x dx mx → ∀ y c, (fEnv ini.1.1 76 L).cells.lookup y = some c → c ≠ x ∧ c ≠ dx := fun S' I' y c hc => by
    (refine Mine.el1g I' fun o ho _ hd _ _ hq5 _ => ?_; try clear I'; obtain ⟨o', es, ep, ho', hd', _⟩ := hq5)
    exact ⟨fr_ne S' ho (by rw [hd]; first | exact fun _ _ h => by cases h | exact fun _ h => by cases h | nofun) y c hc, fr_ne S' ho' (by rw [hd']; first | exact fun _ _ h => by cases h | exact fun _ h => by cases h | nofun) y c hc⟩
  refine x_setattr (ns := []) (R := fun v s' => ∃ ms, v = .ref ms ∧ s₁.heap.objs.size ≤ ms ∧ SetW prog w s'.heap ms (om.getD [])) S₁ O cls_at I₁ (hXX _ hxX) (hXX _ hdX) (hbd hxX) (hbd hdX) ?_ (ev_var S₁ rfl (.inl rfl)) rfl obj_no2 hx86 ?_ (by decide) (hcl S₁ I₁) (by rfl) (by rfl) fun v1 sa s₂ r1 ea e₂ S₂ I₂ => ?_
  · refine ev_ifexpR (ts_not (ts_lst (ol := om) (ev_var S₁ rfl (.inl rfl)) (Nat.le_trans z1 (by decide)))) (fun hb => ev_call_type (ev_builtin S₁ rfl rfl (by decide) rfl) evs_nil fun vs s' e r => ?_) fun hb => ?_
    · obtain ⟨_, rfl⟩ := r.inv
      have hnil : om.getD [] = [] := by simpa using hb
      rw [hnil]
      exact Do.mono do_set0 fun v sb eb ⟨a, h1, h2, h3⟩ => ⟨a, h1, Nat.le_trans e.size h2, h3⟩
    · obtain ⟨l, rfl⟩ : ∃ l, om = some l := by cases om with | none => simp at hb | some l => exact ⟨l, rfl⟩
      exact ev_call_type (ev_builtin S₁ rfl rfl (by decide) rfl) (evs_cons (ev_var S₁ rfl (.inl rfl)) evs_nil) fun vs s' e r => Do.mono (do_set1 S₁.rm.h r z1) fun v sb eb ⟨a, h1, h2, h3⟩ => ⟨a, h1, Nat.le_trans e.size h2, h3⟩
  · exact PySem.Within.nil
  (refine Mine.el1c r1 fun ms hq7 hms hS₁ => ?_; try clear r1; obtain rfl := hq7)
  have hx1 : x < s₁.heap.objs.size := Nat.lt_of_lt_of_le (S.bd _ hxX) e₁.size
  have hd1 : dx < s₁.heap.objs.size := Nat.lt_of_lt_of_le (S.bd _ hdX) e₁.size
  have hXlt : ∀ b, X' b → b < s₁.heap.objs.size := fun b h => S₁.bd b h
  have hmsX : ¬ X' ms := fun q => Nat.lt_irrefl _ (Nat.lt_of_lt_of_le (hXlt _ q) hms)
  have hS₂ : SetW prog w s₂.heap ms (om.getD []) := hS₁.ext e₂ fun q => hmsX (q.elim (fun q => q ▸ hXX _ hxX) fun q => q ▸ hXX _ hdX)
  have hZX : ∀ b, (b = x ∨ b = dx) → X' b := fun b q => q.elim (fun q => q ▸ hXX _ hxX) fun q => q ▸ hXX _ hdX
  refine x_setattr (ns := ["_mods"]) (R := fun v s' => ∃ ds, v = .ref ds ∧ ¬ X' ds ∧ ListAt s'.heap ds ((od.getD []).map nf)) S₂ O cls_at I₂ (hXX _ hxX) (hXX _ hdX) (hbd hxX) (hbd hdX) ?_ (ev_var S₂ rfl (.inl rfl)) rfl obj_no3 hx86 ?_ (by decide) (hcl S₂ I₂) rfl rfl fun v2 sb s₃ r2 eb e₃ S₃ I₃ => ?_
  · refine Mine.el1b ((no.2 P).at_) fun o63 ho63 hd63 => ?_
    refine ev_ifexpR (ts_not (ts_lst (ol := od) (ev_var S₂ rfl (.inl rfl)) (Nat.le_trans z2 (by decide)))) (fun hb => ?_) fun hb => ?_
    · have hnil : od.getD [] = [] := by simpa using hb
      rw [hnil]
      refine Do.mono (ev_list S₂.bd evs_nil (show 0 ≤ sizeLine by decide)) fun v sb eb r => ?_
      refine Mine.el1c (Rep.listAt (l := []) r) fun a h1 h2 h3 => ?_
      exact ⟨a, h1, h2, h3⟩
    · obtain ⟨l, rfl⟩ : ∃ l, od = some l := by cases od with | none => simp at hb | some l => exact ⟨l, rfl⟩
      refine Do.mono (ev_lc (ps := l.map .str) S₂ O.ap rfl (evi_list S₂ (ev_var S₂ rfl (.inl rfl))) (fun _ => true) (onS fun x => .str (nf x)) (.inl rfl) (by rw [List.length_map]; exact Nat.le_trans z2 (by decide)) (by intro v; exact rfl) ?_) fun v sb eb r => ?_
      · intro L' cells X'' p s' hp S' ce e'
        refine ⟨tests_nil, fun _ => ?_⟩
        obtain ⟨d, hd, rfl⟩ : ∃ d, d ∈ l ∧ PV.str d = p := by simpa using hp
        exact ev_call_fn (ev_global S' rfl rfl) (evs_cons (ev_loc S' rfl rfl) evs_nil) (S'.base.frag _ _ ho63) hd63 fun vs s' e r => no_spec' (S'.ext e) r (hN d hd)
      · rw [List.filter_eq_self.mpr (fun _ _ => rfl)] at r
        have hm : (l.map PV.str).map (onS fun x => PV.str (nf x)) = (l.map nf).map .str := by rw [map_onS, List.map_map]; rfl
        rw [hm] at r
        refine Mine.el1c (Rep.listAt r) fun a h1 h2 h3 => ?_
        exact ⟨a, h1, h2, h3⟩
  · intro y hy
    dsimp only at hy
    split at hy
    · rename_i h; rw [h]; exact .head _
    · exact absurd rfl hy
  (refine Mine.el1c r2 fun ds hq8 hdsX hL₁ => ?_; try clear r2; obtain rfl := hq8)
  have hL₃ := hL₁.ext e₃ fun q => hdsX (hZX _ q)
  have hS₃ := (hS₂.ext eb (fun q => q)).ext e₃ fun q => hmsX (hZX _ q)
  refine x_setattr (ns := ["_mods", "_dirs"]) (R := fun v s' => ∃ c, v = .ref c ∧ s₃.heap.objs.size ≤ c ∧ NewMemo prog w s'.heap c) S₃ O cls_at I₃ (hXX _ hxX) (hXX _ hdX) (hbd hxX) (hbd hdX) do_memo (ev_var S₃ rfl (.inl rfl)) rfl obj_no1 hx86 ?_ (by decide) (hcl S₃ I₃) (by rfl) (by rfl) fun v3 sc s₄ r3 ec e₄ S₄ I₄ => ?_
  · intro y hy
    dsimp only at hy
    split at hy
    · rename_i h; rw [h]; exact .tail _ (.head _)
    · split at hy
      · rename_i h; rw [h]; exact .head _
      · exact absurd rfl hy
  (refine Mine.el1c r3 fun c hq9 hc hm₁ => ?_; try clear r3; obtain rfl := hq9)
  have hcX : ¬ X' c := fun q => Nat.lt_irrefl _ (Nat.lt_of_lt_of_le (S₃.bd _ q) hc)
  refine x_nil fun v hv => ?_
  subst hv
  refine ⟨(ea.ofNo.trans ((e₂.mono fun b h => .inr h).trans (eb.ofNo.trans ((e₃.mono fun b h => .inr h).trans (ec.ofNo.trans (e₄.mono fun b h => .inr h)))))), fun e => ?_⟩
  have hCc : C c = none := co_new S₃ hc
  refine k s₄ ms ds c _ e I₄ rfl rfl rfl rfl ((hS₃.ext ec (fun q => q)).ext e₄ fun q => hmsX (hZX _ q)) ((hL₃.ext ec (fun q => q)).ext e₄ fun q => hdsX (hZX _ q)) (hm₁.ext e₄ (fun q => hcX (hZX _ q)) hCc) ?_ (fun q => hmsX (hXX _ q)) (fun q => hdsX (hXX _ q))
  exact Nat.le_trans e₁.size (Nat.le_trans ea.size (Nat.le_trans e₂.size (Nat.le_trans eb.size (Nat.le_trans e₃.size hc))))
set_option maxHeartbeats 1000000 in
theorem mk_spec {P : Params} {om od : Option (List Str)} {nf : Str → Str} {vs : List Value} {vm vd : Value} (S : Sit prog w (hd.heap_39 P) mb (n + 6) C X A env ρ s) (hv : (vs = [] ∧ vm = .none ∧ vd = .none) ∨ (vs = [vm] ∧ vd = .none) ∨ vs = [vm, vd])
    (rm : Rep X s.heap vm (lstPV om)) (rd : Rep X s.heap vd (lstPV od)) (z1 : (om.getD []).length ≤ 4000) (z2 : (od.getD []).length ≤ 4000) (hN : ∀ d ∈ od.getD [], NormOk d (nf d)) :
    Do prog w C A (call (.ref 86) vs) (fun v s' => ∃ x c, v = .ref x ∧ RNew prog w C X s'.heap s.heap.objs.size x c (om.getD []) ((od.getD []).map nf)) s := by
  intro s₁ e₁ Q E k
  have S₁ := S.ext e₁
  obtain ⟨nm, q, bs, sn, sub, col, dd, k0, k1, k2, k3, k5, hcl⟩ := (cls_at (P := P)).cls
  have hC := S₁.base.frag _ _ hcl
  have hn := (cls_at (P := P)).nsH S₁.base.frag
  obtain ⟨o76, ho76, hf76⟩ : ∃ o, (hd.heap_39 P).lookup 76 = some o ∧ o.cls = .type "function" := ⟨_, rfl, rfl⟩
  have ho76' := S₁.base.frag _ _ ho76
  have hlo := e₁.size
  cases s₁ with | mk h g d t os =>
  refine make_at (fI := 76) F.objNew hC hn rfl ho76' hf76 ?_
  generalize hs₂ : (⟨(h.push { cls := .type "dict", data := .dict #[] }).push { cls := .ref 86, dict := some h.objs.size, data := .plain }, g, d, t, os⟩ : Shared) = s₂
  have e₂ : Ext prog w noX C ⟨h, g, d, t, os⟩ s₂ := by
    rw [← hs₂]
    exact Ext.trans (s' := ⟨h.push { cls := .type "dict", data := .dict #[] }, g, d, t, os⟩) .push .push
  have hsz : s₂.heap.objs.size = h.objs.size + 2 := by rw [← hs₂]; show ((h.push _).push _).objs.size = _; rw [Heap.size_push, Heap.size_push]
  have hCd : ∀ a, h.objs.size ≤ a → C a = none := fun a ha => co_new S₁ ha
  have S₂ := S₁.addX (wr := [h.objs.size, h.objs.size + 1]) e₂ (fun a ha => by
    simp only [List.mem_cons, List.not_mem_nil, or_false] at ha
    rcases ha with rfl | rfl
    · exact ⟨Nat.le_refl _, by rw [hsz]; exact Nat.lt_add_of_pos_right (by decide), hCd _ (Nat.le_refl _)⟩
    · exact ⟨Nat.le_succ _, by rw [hsz]; exact Nat.lt_succ_self _, hCd _ (Nat.le_succ _)⟩)
  have I₂ : InsM C 86 s₂.heap (h.objs.size + 1) h.objs.size (fun _ => none) := by
    rw [← hs₂]
    have hp : (h.push { cls := .type "dict", data := .dict #[] }).objs.size = h.objs.size + 1 := Heap.size_push ..
    refine ⟨{ cls := .ref 86, dict := some h.objs.size, data := .plain }, ?_, rfl, rfl, rfl, Nat.ne_of_lt (Nat.lt_succ_self _), ?_, hCd _ (Nat.le_refl _)⟩
    · rw [← hp]; exact Heap.get?_push_size _ rfl
    exact Heap.Ns1.of_empty ⟨_, _, _, Heap.get?_push_of_some _ (Heap.get?_push_size _ rfl), rfl, (fun e he => by simp at he), fun _ => rfl⟩
  have hmx : ∀ a, (X a ∨ a ∈ [h.objs.size, h.objs.size + 1]) → X a ∨ h.objs.size ≤ a := by
    intro a ha
    rcases ha with ha | ha
    · exact .inl ha
    · simp only [List.mem_cons, List.not_mem_nil, or_false] at ha
      rcases ha with rfl | rfl
      · exact .inr (Nat.le_refl _)
      · exact .inr (Nat.le_succ _)
  have h4 : 86 < h.objs.size := Heap.lt_size hC
  refine ini_spec (x := h.objs.size + 1) (dx := h.objs.size) { S₂ with rm := rm_under S₂.rm } I₂ (.inr (.tail _ (.head _))) (.inr (.head _)) (fun q => by have : h.objs.size + 1 = 86 := q; omega) hv (((rm.ext e₁.ofNo).monoX hmx).ext e₂.ofNo) (((rd.ext e₁.ofNo).monoX hmx).ext e₂.ofNo) z1 z2 hN fun s' ms ds c mA e' I' a1 a2 a3 a4 hS' hL' hM' hc hms hds => ⟨rfl, ?_⟩
  have hCc : C c = none := hCd c (by omega)
  have hs0 : s.heap.objs.size ≤ h.objs.size := hlo
  have hXn : ∀ a, h.objs.size ≤ a → ¬ X a := fun a ha q => Nat.lt_irrefl _ (Nat.lt_of_lt_of_le (S.bd a q) (Nat.le_trans hs0 ha))
  (refine Mine.el1g I' fun ox hox hoc hod hodx hne hns hCdx => ?_; try clear I')
  refine k _ _ (e₂.fresh e' fun a ha => ?_) ⟨_, c, rfl, ms, ds, h.objs.size, mA, ox, hox, hoc, hod, hodx, hne, hns, hCdx, a1, a2, a3, a4, hS', hL', ?_, hM', hCc, ?_, ?_, ?_, hs0, hXn _ (Nat.le_succ _), hXn _ (Nat.le_refl _), fun q => hms (.inl q), fun q => hds (.inl q), hXn _ (by omega)⟩
  · rcases ha with rfl | rfl
    · exact Nat.le_succ _
    · exact Nat.le_refl _
  · rw [beq_eq_false_iff_ne]; exact Nat.ne_of_gt (Nat.lt_of_lt_of_le (by omega : 1 < s₂.heap.objs.size) hc)
  · exact Nat.ne_of_lt (Nat.lt_of_lt_of_le (by omega : h.objs.size < s₂.heap.objs.size) hc)
  · omega
  · exact Nat.le_trans hs0 (Nat.le_succ _)
end Mine
end
section
open PySem PySem.W PySem.Calls PyProof.Rows
set_option Elab.async false
set_option maxRecDepth 100000
set_option linter.unusedVariables false
namespace Mine
variable {prog : Program} {w : World} {K : Frag} {mb : Str → Option Value} {X Y : Addr → Prop} {C : Mem} {s s' s'' : Shared} {A : Around} {env : Env} {ρ : List (Str × PV)} {n : Nat}
noncomputable def gr : { p : FuncData × List Stmt // ∀ P, FnAt (hd.heap_39 P) 95 p.1 ["kept", "signs", "size"] p.2 } := ⟨(_, _), fun P => {
  at_ := ⟨_, rfl, rfl⟩
  code := ⟨94, _, _, _, rfl, rfl, rfl, rfl⟩
  body := rfl
  kind := rfl
  co := rfl
  gen := rfl
  globals := rfl
  builtins := rfl
  closure := rfl
  kinds := fun L => by repeat (first | exact ks_nil | refine ks_cons (by first | exact .inl rfl | exact .inr ⟨rfl, rfl⟩) ?_) }⟩
theorem gr_bind (v0 v1 v2 : Value) : bindArgs gr.1.1 ⟨[v0, v1, v2], []⟩ = pure [(("kept" : Str), v0), (("signs" : Str), v1), (("size" : Str), v2)] := by rfl

noncomputable def kpPV (kp : Str → Bool) : PV → PV → Bool
  | .str w, .str c => kp (w ++ c)
  | _, _ => false
noncomputable def catPV : PV → PV → PV
  | .str w, .str c => .str (w ++ c)
  | _, _ => .none
theorem gr_row {kp : Str → Bool} {w : Str} : ∀ l : List Nat, (((l.map fun c => PV.str ⟨#[c]⟩).filter (kpPV kp (.str w))).map (catPV (.str w))) = (((l.map fun c => (⟨#[c]⟩ : Str)).filter fun c => kp (w ++ c)).map fun c => w ++ c).map PV.str
  | [] => rfl
  | c :: l => by
    have ih := gr_row (kp := kp) (w := w) l
    simp only [List.map_cons, List.filter_cons]
    have h0 : kpPV kp (.str w) (.str ⟨#[c]⟩) = kp (w ++ ⟨#[c]⟩) := rfl
    rw [h0]
    cases kp (w ++ ⟨#[c]⟩)
    · simpa using ih
    · simp only [if_true, List.map_cons, ih]; rfl
theorem gr_flat {kp : Str → Bool} {signs : Str} {lv : List Str} : ((lv.map PV.str).zipIdx.flatMap fun q => (chars signs).zipIdx.flatMap fun r => if kpPV kp q.1 r.1 then [catPV q.1 r.1] else []) = (grStep kp signs lv).map .str := by
  rw [flat2 (ps2 := fun _ => chars signs) (g := fun p q => if kpPV kp p q then [catPV p q] else [])]
  unfold grStep
  induction lv with
  | nil => rfl
  | cons w lv ih =>
    rw [List.map_cons, List.flatMap_cons, List.flatMap_cons, List.map_append, ih]
    congr 1
    rw [flat_tst]
    exact gr_row _
set_option maxHeartbeats 1600000 in
theorem gr_spec {P : Params} {f : Addr} {signs : Str} {size : Nat} {kp : Str → Bool} {H : Str → Shared → Prop} {W : Str → Prop} {lo : Nat} {vs : List Value} (S : Sit prog w (hd.heap_39 P) mb (n + 5) C X A env ρ s) (hr : Reps X s.heap vs [.val (.ref f), .str signs, .int size])
    (hlo : lo ≤ s.heap.objs.size) (hfo : ∃ o fd, s.heap.get? f = some o ∧ o.data = .func fd ∧ f < lo)
    (hH : ∀ u Z s s', (∀ a, Z a → lo ≤ a) → H u s → Ext prog w Z C s s' → H u s')
    (hW : ∀ i w c, i ≤ size → w ∈ grLv kp signs i → c ∈ chrs signs → W (w ++ c))
    (hkept : ∀ u X' A' env' ρ' s' v, W u → Sit prog w (hd.heap_39 P) mb (n + 4) C X' A' env' ρ' s' → Ext prog w (fun a => lo ≤ a) C s s' → Rep X' s'.heap v (.str u) → Do prog w C A' (call (.ref f) [v]) (fun r s'' => Rep X' s''.heap r (.bool (kp u)) ∧ H u s'') s')
    (z0 : size ≤ 100) (z1 : signs.length ≤ 10) (z2 : ∀ i, i ≤ size + 1 → (grLv kp signs i).length ≤ 1000 ∧ (grW kp signs i).length ≤ 1000) (z3 : ∀ i u, i ≤ size → u ∈ grLv kp signs i → u.length ≤ 1000) :
    Do prog w C A (call (.ref 95) vs) (fun v s' => Rep X s'.heap v (.list ((grW kp signs (size + 1)).map .str)) ∧ ∀ u, AskW kp signs (size + 1) u → H u s') s := by
  (refine Mine.Reps.el3 hr fun _ _ _ r1 r2 r3 => ?_; have hr' := Reps.cons r1 (.cons r2 (.cons r3 .nil)))

  refine call_fn S (gr.2 P) hr' rfl (gr_bind _ _ _) fun s₀ L s₁ X' e₀ e₁ O hXX hlo1 S₁ => ?_
  k_fold
  have hlo0 : lo ≤ s₀.heap.objs.size := Nat.le_trans hlo e₀.size
  have hFl : ∀ a, FrO (fEnv gr.1.1 95 L) a → lo ≤ a := fun a h => Nat.le_trans hlo0 (hlo1 a h)
  have e01 : Ext prog w (fun a => lo ≤ a) C s s₁ := (e₀.trans e₁).ofNo
  refine x_assign (p := .list ((grW kp signs 0).map .str)) S₁ O (.inl rfl) (ev_list S₁.bd (evs_cons ev_cstr evs_nil) (show 1 ≤ sizeLine by decide)) (by rfl) fun s₂ e₂ S₂ => ?_
  refine x_assign (p := .list ((grLv kp signs 0).map .str)) S₂ O (.inl rfl) (ev_list S₂.bd (evs_cons ev_cstr evs_nil) (show 1 ≤ sizeLine by decide)) (by rfl) fun s₃ e₃ S₃ => ?_
  have e₁₃ := e₂.trans e₃
  have e03 : Ext prog w (fun a => lo ≤ a) C s s₃ := e01.trans (e₁₃.mono hFl)
  refine x_for (Z := FrO (fEnv gr.1.1 95 L)) S₃ (evi_range (r := size + 1) S₃ (ev_builtin S₃ rfl rfl (by decide) rfl) (ev_eq (ev_binop (ev_var S₃ rfl (.inl rfl)) ev_cint fun a b s' e ra rb => op_add_int ra rb) (by simp)) (by (exact Nat.lt_of_le_of_lt (by assumption) (by decide)))) O (.inl rfl) (by intro v; rfl) (fun _ h => h) O.own
    (fun i => [("level", .list ((grLv kp signs i).map .str)), ("words", .list ((grW kp signs i).map .str)), ("kept", .val (.ref f)), ("signs", .str signs)])
    (fun _ i s' => (∀ u, AskW kp signs i u → H u s') ∧ Ext prog w (fun a => lo ≤ a) C s s') ?_ (sub_cons rfl (sub_cons rfl (sub_cons rfl (sub_cons rfl sub_nil)))) (fun _ _ _ => ⟨fun u ⟨j, h, _⟩ => absurd h (Nat.not_lt_zero _), e03⟩) ?_ ?_
  · rintro Xj i sa sb Z hXj hZ ⟨h1, h2⟩ e
    have hZl : ∀ a, Z a → lo ≤ a := fun a h => (hZ a h).2.elim (hFl a) fun q => Nat.le_trans hlo (Nat.le_trans e03.size q)
    exact ⟨fun u hu => hH u Z _ _ hZl (h1 u hu) e, h2.trans (e.mono hZl)⟩
  · rintro Xb i p sb hp hXb Ob eb Sb ⟨hJ, hEb⟩
    have hi : i < size + 1 := by
      have := (List.getElem?_eq_some_iff.mp hp).1
      simpa using this
    have hlb : lo ≤ sb.heap.objs.size := Nat.le_trans hlo hEb.size
    refine x_assign_comp (res := (grLv kp signs (i + 1)).map .str) (J := fun s' => (∀ u, PairAsk (grLv kp signs i) (chrs signs) (grLv kp signs i).length 0 u → H u s') ∧ Ext prog w (fun a => lo ≤ a) C s s') Sb Ob (.inl rfl) ?_ rfl ?_ fun sc ec Sc hJc => ?_
    · refine (spec_list2 (ps := (grLv kp signs i).map .str) Sb Ob.ap rfl (evi_list Sb (ev_var Sb rfl (.inl rfl))) (fun a b s' => (∀ u, PairAsk (grLv kp signs i) (chrs signs) a b u → H u s') ∧ Ext prog w (fun a => lo ≤ a) C s s') (fun _ _ => chars signs) ?_
        (fun _ p _ q => if kpPV kp p q then [catPV p q] else []) (.inl rfl) (.inl rfl) rfl (by intro v; exact rfl) (by intro cells L v; exact rfl) ?_ ?_ ?_ ?_ ?_).mono fun a L s' r => r.eq ?_ ?_
      · rintro a p s' hp ⟨h1, h2⟩
        have hl : (chars signs).length = (chrs signs).length := by simp [chars, chrs]
        rw [hl] at h1
        exact ⟨fun u hu => h1 u (pairAsk_row hu), h2⟩
      · rw [gr_flat, List.length_map]
        exact len_sz (z2 (i + 1) (by (assumption))).1
      · rintro a Z b sc sd hz ⟨h1, h2⟩ e
        have hZl : ∀ a, Z a → lo ≤ a := fun a h => Nat.le_trans hlb (hz a h)
        exact ⟨fun u hu => hH u Z _ _ hZl (h1 u hu) e, h2.trans (e.mono hZl)⟩
      · refine ⟨fun u hu => ?_, hEb⟩
        (refine Mine.el4d hu fun a' b' w' c' _ _ h _ => ?_; try clear hu)
        rcases h with h | ⟨_, h⟩ <;> exact absurd h (Nat.not_lt_zero _)
      · intro L' cells X'' a p s' hp S' ce
        exact evi_str S' (ev_free S' ce rfl rfl)
      · rintro L' cells X'' a p b q s' hp hq S' ce ⟨hj1, hj2⟩
        obtain ⟨u0, hu0, rfl⟩ : ∃ y, (grLv kp signs i)[a]? = some y ∧ PV.str y = p := by simpa using hp
        obtain ⟨c0, hc0, rfl⟩ : ∃ y, (chrs signs)[b]? = some y ∧ PV.str y = q := by
          unfold chars at hq; unfold chrs
          rw [List.getElem?_map] at hq ⊢
          (refine Mine.el1b (Option.map_eq_some_iff.mp hq) fun c hc hq7 => ?_; obtain rfl := hq7)
          exact ⟨_, by rw [hc]; rfl, rfl⟩
        have hu1 : u0.length ≤ 1000 := z3 i u0 (by (solve_by_elim (maxDepth := 3) [Nat.le_of_lt_succ, Nat.lt_succ_of_le, Nat.lt_succ_of_lt, Nat.le_of_lt, Nat.le_succ_of_le, Nat.pos_of_ne_zero, Nat.ne_of_gt, Nat.ne_of_lt, Nat.zero_le, Nat.le_refl, Nat.lt_succ_self, Nat.sub_le, Nat.le_of_not_lt, Nat.lt_of_not_le, Nat.le_trans, Nat.lt_of_lt_of_le, Nat.lt_of_le_of_lt, Nat.le_antisymm])) (List.mem_of_getElem? hu0)
        have hc1 : c0.length ≤ 1 := by
          obtain ⟨c, _, rfl⟩ : ∃ c, c ∈ signs.cps.toList ∧ (⟨#[c]⟩ : Str) = c0 := by simpa [chrs] using List.mem_of_getElem? hc0
          exact Nat.le_refl _
        have hsum : u0.length + c0.length ≤ sizeLine := Nat.le_trans (Nat.add_le_add hu1 hc1) (by decide)
        have hWu : W (u0 ++ c0) := hW i u0 c0 (by (solve_by_elim (maxDepth := 3) [Nat.le_of_lt_succ, Nat.lt_succ_of_le, Nat.lt_succ_of_lt, Nat.le_of_lt, Nat.le_succ_of_le, Nat.pos_of_ne_zero, Nat.ne_of_gt, Nat.ne_of_lt, Nat.zero_le, Nat.le_refl, Nat.lt_succ_self, Nat.sub_le, Nat.le_of_not_lt, Nat.lt_of_not_le, Nat.le_trans, Nat.lt_of_lt_of_le, Nat.lt_of_le_of_lt, Nat.le_antisymm])) (List.mem_of_getElem? hu0) (List.mem_of_getElem? hc0)
        (refine Mine.el2c hfo fun o fd ho hd0 hfl => ?_; try clear hfo)
        have ho' : s'.heap.get? f = some o := hj2.keepD ho (fun q => Nat.lt_irrefl _ (Nat.lt_of_lt_of_le hfl q)) (by rw [hd0]; first | exact fun _ _ h => by cases h | exact fun _ h => by cases h | nofun)
        refine ⟨kp (u0 ++ c0), H (u0 ++ c0), tests_oneR (ts_boolR (X := X'') (ev_call_fn (ev_free S' ce rfl rfl) (evs_cons (ev_binop (ev_loc S' rfl rfl) (ev_loc S' rfl rfl) fun a b s' e ra rb => op_add_str ra rb hsum) evs_nil) ho' hd0 fun vs s'' e r => ?_)), fun hb => ⟨by simp [kpPV, hb], fun s'' e hT hj => ⟨fun u hu => ?_, hj.2⟩⟩, fun hb => ⟨.str (u0 ++ c0), by simp [kpPV, catPV, hb], fun s'' e hT hj => ?_⟩⟩
        · cases r with
          | cons r0 r1 => cases r1 with
            | nil => exact hkept _ X'' _ _ _ s'' _ hWu (S'.ext e) (hj2.trans e.ofNo) r0
        · rcases pairAsk_step hu0 hc0 hu with h | rfl
          · exact hj.1 u h
          · exact hT
        · refine Do.mono (ev_binop (ev_loc (S'.ext e) rfl rfl) (ev_loc (S'.ext e) rfl rfl) fun a b s' e ra rb => op_add_str ra rb hsum) fun v s₃ e₃ r => ⟨r, fun u hu => ?_, hj.2.trans e₃.ofNo⟩
          refine hH u noX _ _ (fun _ q => q.elim) ?_ e₃
          rcases pairAsk_step hu0 hc0 hu with h | rfl
          · exact hj.1 u h
          · exact hT
      · exact gr_flat
      · rw [List.length_map]; exact fun h => h
    · rintro Z sc sd hz ⟨h1, h2⟩ e
      have hZl : ∀ a, Z a → lo ≤ a := fun a h => (hz a h).elim (fun q => Nat.le_trans hlb q) (hFl a)
      exact ⟨fun u hu => hH u Z _ _ hZl (h1 u hu) e, h2.trans (e.mono hZl)⟩
    · refine x_assign Sc Ob (.inl rfl) (ev_binop (ev_var Sc rfl (.inl rfl)) (ev_var Sc rfl (.inl rfl)) fun a b s' e ra rb => op_add_list (Sc.ext e).bd ra rb ?_) (by rfl) fun sd ed Sd => x_nil ?_
      · rw [List.length_map, List.length_map]
        exact Nat.le_trans (Nat.add_le_add (z2 i (by (solve_by_elim (maxDepth := 3) [Nat.le_of_lt_succ, Nat.lt_succ_of_le, Nat.lt_succ_of_lt, Nat.le_of_lt, Nat.le_succ_of_le, Nat.pos_of_ne_zero, Nat.ne_of_gt, Nat.ne_of_lt, Nat.zero_le, Nat.le_refl, Nat.lt_succ_self, Nat.sub_le, Nat.le_of_not_lt, Nat.lt_of_not_le, Nat.le_trans, Nat.lt_of_lt_of_le, Nat.lt_of_le_of_lt, Nat.le_antisymm]))).2 (z2 (i + 1) (by (assumption))).1) (by decide)
      · refine ⟨ec.trans ed, Sd.sub (sub_cons rfl (sub_cons ?_ (sub_cons rfl (sub_cons rfl sub_nil)))), fun u hu => ?_, hJc.2.trans (ed.mono hFl)⟩
        · show some (PV.list ((grW kp signs i).map .str ++ (grLv kp signs (i + 1)).map .str)) = _
          rw [← List.map_append]; rfl
        · obtain ⟨j, hj, w', hw', c', hc', rfl⟩ := hu
          refine hH _ (FrO (fEnv gr.1.1 95 L)) _ _ hFl ?_ ed
          rcases Nat.lt_succ_iff_lt_or_eq.mp hj with h | rfl
          · exact hH _ (FrO (fEnv gr.1.1 95 L)) _ _ hFl (hJ _ ⟨j, h, w', hw', c', hc', rfl⟩) ec
          · exact hJc.1 _ (pairAsk_all hw' hc' rfl)
  · rintro Xb sb hXb Ob eb Sb ⟨hJ, hEb⟩
    rw [List.length_map, List.length_range] at Sb hJ
    refine x_return (ev_var Sb rfl (.inl rfl)) fun v sc ec r v' hv => ?_
    subst hv
    exact ⟨e₁₃.trans (eb.trans ec.ofNo), fun _ => ⟨r.ofSub fun a h => hXb a (hXX a h), fun u hu => hH u noX _ _ (fun _ q => q.elim) (hJ u hu) ec⟩⟩
end Mine
end
section
open PySem PySem.W PySem.Calls PyProof.Rows
set_option Elab.async false
set_option maxRecDepth 100000
set_option linter.unusedVariables false
namespace Mine
variable {prog : Program} {w : World} {K : Frag} {mb : Str → Option Value} {X Y : Addr → Prop} {C : Mem} {s s' s'' : Shared} {A : Around} {env : Env} {ρ : List (Str × PV)} {n : Nat}
/-- a name stored, with what holds of its value -/
theorem x_assignR {x : Str} {px pos : Pos} {e : Expr} {rest : List Stmt} {R : PV → Shared → Prop} {Q : Flow → Shared → Prop} {E : Value → Shared → Prop} (S : Sit prog w K mb n C X A env ρ s) (O : Own X env) (hk : KindSt env x) (he : Do prog w C A (eval e env) (fun v s => ∃ p, Rep X s.heap v p ∧ R p s) s)
    (hs : swapsWith e (some (.Name x px)) pos.line env = pure false)
    (k : ∀ p s₁ s', Ext prog w noX C s s₁ → R p s₁ → Ext prog w (StX env x) C s₁ s' → Sit prog w K mb n C X A env ((x, p) :: ρ) s' → wpAny (model prog w) A (execs rest env) Q E s') :
    wpAny (model prog w) A (execs (.Assign [.Name x px] e pos :: rest) env) Q E s := by
  refine wpAny_execs_cons (wpAny_Assign_Name (he s .refl _ _ fun v s₁ e₁ r => ?_) hs)
  refine Mine.el1b r fun p r hR => ?_
  exact store_var (S.ext e₁) (O.can hk) O.ap r fun s₂ e₂ S₂ => k p s₁ s₂ e₁ hR e₂ S₂
/-! a reader at hand -/
structure RdAt (prog : Program) (w : World) (C : Mem) (h : Heap) (b : Nat) (x c : Addr) (mods dirs : List Str) (Pm : Str → Int → Prop) (KS : List Str) : Prop where
  rdr : Rdr prog w C 86 h b x c mods dirs
  mem : C c = some Pm
  ok : MemoOk prog w h c Pm
  ks : ∀ m i, Pm m i → m ∈ KS
  len : KS.length ≤ 100000
  z1 : ∀ y ∈ mods, y.length ≤ 1000
  z2 : ∀ y ∈ dirs, y.length ≤ 1000
theorem Rdr.lt {h : Heap} {b : Nat} {x c : Addr} {mods dirs : List Str} (R : Rdr prog w C 86 h b x c mods dirs) : c < b := by
  obtain ⟨ms, ds, mA, _, _, _, _, _, _, _, _, _, h, _⟩ := R
  exact h
theorem RdAt.ext {Z : Addr → Prop} {b : Nat} {x c : Addr} {mods dirs KS : List Str} {Pm : Str → Int → Prop} (R : RdAt prog w C s.heap b x c mods dirs Pm KS) (e : Ext prog w Z C s s') (hZ : ∀ a, Z a → b ≤ a) : RdAt prog w C s'.heap b x c mods dirs Pm KS :=
  ⟨R.rdr.ext e hZ, R.mem, R.ok.ext e (fun q => Nat.lt_irrefl _ (Nat.lt_of_lt_of_le R.rdr.lt (hZ _ q))) R.mem, R.ks, R.len, R.z1, R.z2⟩
theorem RNew.rd {h : Heap} {lo : Nat} {x c : Addr} {mods dirs KS : List Str} {Pm : Str → Int → Prop} (R : RNew prog w C X h lo x c mods dirs) (ks : ∀ m i, Pm m i → m ∈ KS) (len : KS.length ≤ 100000) (z1 : ∀ y ∈ mods, y.length ≤ 1000) (z2 : ∀ y ∈ dirs, y.length ≤ 1000) :
    RdAt prog w (setC C c Pm) h h.objs.size x c mods dirs Pm KS := by
  have hR := R.rdr
  obtain ⟨ms, ds, dx, mA, o, h1, h2, h3, h4, h5, h6, h7, a1, a2, a3, a4, h8, h9, h10, h11, h12, h13, l1, l2, l3, n1, n2, n3, n4, n5⟩ := R
  exact ⟨hR.newC fun dx' o' ho' hd' => by rw [h1] at ho'; cases ho'; rw [h4] at hd'; cases hd'; exact h13, setC_self, h11.ok, ks, len, z1, z2⟩
/-- the frame behind a reader's making -/
theorem Sit.reader {s₀ : Shared} {lo : Nat} {x c : Addr} {mods dirs : List Str} {Pm : Str → Int → Prop} (S : Sit prog w K mb n C X A env ρ s) (R : RNew prog w C X s.heap lo x c mods dirs) (B : Base K mb s₀.heap) (hlo : s₀.heap.objs.size ≤ lo) (hl : env.locals < lo) : Sit prog w K mb n (setC C c Pm) X A env ρ s := by
  obtain ⟨ms, ds, dx, mA, o, h1, h2, h3, h4, h5, h6, h7, a1, a2, a3, a4, h8, h9, h10, h11, h12, h13, l1, l2, l3, n1, n2, n3, n4, n5⟩ := R
  exact S.newC (B.fresh (Nat.le_trans hlo l1)) n5 h11 (Nat.ne_of_lt (Nat.lt_of_lt_of_le hl l1))
theorem obj_no4 : typeLookup (.type "object") "names" = pure none := by rw [typeLookup_type, builtinLookup_eq_fast]; kernel_rfl
/-- reader.names(fn, m) -/
theorem ev_names {P : Params} {b : Nat} {x c : Addr} {mods dirs KS : List Str} {Pm : Str → Int → Prop} {fn : Option Str} {m : Str} {r : Int} {o : Expr} {apos pos : Pos} {es : List Expr} {pl : Sem Bool} (S : Sit prog w (hd.heap_39 P) mb (n + 1) C X A env ρ s) (R : RdAt prog w C s.heap b x c mods dirs Pm KS) (hb : b ≤ s.heap.objs.size)
    (ho : Ev prog w C X A env o (.val (.ref x)) s) (h : Evs prog w C X A env es [fnPV fn, .str m] s) (hm : m ≠ "<string>") (hP : ∀ i, Pm m i → i = r) (hnew : Has prog w s.heap c m r ∨ (Pm m r ∧ r = nmR mods dirs fn m))
    (he : autoParam (eval (.Call (.Attribute o "names" apos) es [] pos) env = (do
      let ov ← eval o env
      standAt apos.atName
      let (f, first) ← holding [ov] (getMethod ov "names" pl)
      callWith pos f first (backTo pos (starEach es env)) [])) Mine.autoR) : Do prog w C A (eval (.Call (.Attribute o "names" apos) es [] pos) env) (fun v s' => Rep X s'.heap v (.int r) ∧ Has prog w s'.heap c m r) s := by
  obtain ⟨o83, ho83, hf83⟩ : ∃ o, (hd.heap_39 P).lookup 83 = some o ∧ o.cls = .type "function" := ⟨_, rfl, rfl⟩
  refine Mine.el1b ((nm.2 P).at_) fun o83' ho83' hd83 => ?_
  obtain rfl : o83 = o83' := Option.some.inj (ho83.symm.trans ho83')
  obtain ⟨ms, ds, mA, I, a1, a2, a3, a4, hS, hL, b1, b2, b3, b4⟩ := R.rdr
  refine ev_meth_fn (pl := pl) S cls_at I ho h (f := 83) rfl ho83 hf83 hd83 a4 obj_no4 (fun vs s' e r' => ?_) he
  have R' := R.ext e (fun _ q => q.elim)
  exact nm_spec (S.ext e) (.cons (.val _) r') R'.rdr (Nat.le_trans hb e.size) R'.mem R'.ok hm hP (hnew.imp (fun q => q.ext e (fun q => q)) id) R.ks R.len R.z1 R.z2
theorem em_spec' {P : Params} {want got : Str} {r : Bool} {vs : List Value} (S : Sit prog w (hd.heap_39 P) mb (n + 1) C X A env ρ s) (hr : Reps X s.heap vs [.str want, .str got]) (h : EmOk want got r) : DoV prog w C X A (call (.ref 28) vs) (.bool r) s := by
  (refine Mine.el1h h.ex fun ws h1 h2 h3 h4 h5 h6 h7 hq1 => ?_; obtain rfl := hq1)
  exact em_spec S hr h1 h2 h3 h4 h5 h6 h7
theorem ev_em {P : Params} {want got : Str} {r : Bool} {func a1 a2 : Expr} {pos : Pos} (S : Sit prog w (hd.heap_39 P) mb (n + 1) C X A env ρ s) (hf : Ev prog w C X A env func (.val (.ref 28)) s) (h : Evs prog w C X A env [a1, a2] [.str want, .str got] s) (hr : EmOk want got r)
    (he : autoParam (eval (.Call func [a1, a2] [] pos) env = (do callWith pos (← eval func env) [] (backTo pos (starEach [a1, a2] env)) (backToKw pos (keywordEach [] env)))) Mine.autoR) : Ev prog w C X A env (.Call func [a1, a2] [] pos) (.bool r) s := by
  refine Mine.el1b ((em.2 P).at_) fun o28 ho28 hd28 => ?_
  exact ev_call_fn hf h (S.base.frag _ _ ho28) hd28 (fun vs s' e r => em_spec' (S.ext e) r hr) he
noncomputable def lo : { p : FuncData × List Stmt // ∀ P, FnAt (hd.heap_39 P) 119 p.1 ["begins", "known"] p.2 } := ⟨(_, _), fun P => {
  at_ := ⟨_, rfl, rfl⟩
  code := ⟨118, _, _, _, rfl, rfl, rfl, rfl⟩
  body := rfl
  kind := rfl
  co := rfl
  gen := rfl
  globals := rfl
  builtins := rfl
  closure := rfl
  kinds := fun L => by repeat (first | exact ks_nil | refine ks_cons (by first | exact .inl rfl | exact .inr ⟨rfl, rfl⟩) ?_) }⟩
theorem lo_bind (v0 v1 : Value) : bindArgs lo.1.1 ⟨[v0, v1], []⟩ = pure [(("begins" : Str), v0), (("known" : Str), v1)] := by rfl
theorem lo_spec {P : Params} {begins : List Str} {known : Str} {em : Str → Bool} {vs : List Value} (S : Sit prog w (hd.heap_39 P) mb (n + 2) C X A env ρ s) (hr : Reps X s.heap vs [.list (begins.map .str), .str known]) (h : ∀ b ∈ begins, EmOk ("..." ++ b) known (em b)) (z : begins.length ≤ 1000) (z1 : ∀ b ∈ begins, b.length ≤ 900) :
    DoV prog w C X A (call (.ref 119) vs) (optPV (longP em begins.reverse)) s := by
  (refine Mine.Reps.el2 hr fun _ _ r1 r2 => ?_; have hr' := Reps.cons r1 (.cons r2 .nil))

  refine call_fn S (lo.2 P) hr' rfl (lo_bind _ _) fun s₀ L s₁ X' e₀ e₁ O hXX hlo1 S₁ => ?_
  k_fold
  have hlen : (begins.map PV.str).length ≤ sizeLine := by rw [List.length_map]; exact len_sz z
  refine x_for (Z := FrO (fEnv lo.1.1 119 L)) (ps := begins.reverse.map .str) S₁ (evi_list S₁ (ev_eq (ev_slice_list S₁.bd (ev_var S₁ rfl (.inl rfl)) evp_none evp_none (evp_some (X := X') (ev_neg ev_cint)) (by decide) hlen) (by rw [pick_rev, List.map_reverse]))) O (.inl rfl) (by intro v; rfl) (fun _ h => h) O.own
    (fun i => [("begins", .list (begins.map .str)), ("known", .str known)])
    (fun _ i s' => longP em begins.reverse = longP em (begins.reverse.drop i)) (fun _ _ _ _ _ _ _ h _ => h) (sub_cons rfl (sub_cons rfl sub_nil)) (fun _ _ _ => rfl) ?_ ?_
  · intro Xb i p sb hp hXb Ob eb Sb hJ
    obtain ⟨y, hy, rfl⟩ : ∃ y, begins.reverse[i]? = some y ∧ PV.str y = p := by rw [List.getElem?_map] at hp; exact Option.map_eq_some_iff.mp hp
    have hym : y ∈ begins := List.mem_reverse.mp (List.mem_of_getElem? hy)
    have hd : begins.reverse.drop i = y :: begins.reverse.drop (i + 1) := by
      obtain ⟨hlt, rfl⟩ := List.getElem?_eq_some_iff.mp hy
      exact List.drop_eq_getElem_cons hlt
    refine x_if (ts_bool (ev_em Sb (ev_global Sb rfl rfl) (evs_cons (ev_binop ev_cstr (ev_var Sb rfl (.inl rfl)) fun a b s' e ra rb => op_add_str ra rb ?_) (evs_cons (ev_var Sb rfl (.inl rfl)) evs_nil)) (h y hym))) fun sc ec => ?_
    · exact Nat.le_trans (Nat.add_le_add (show (3 : Nat) ≤ 3 by decide) (z1 y hym)) (by decide)
    have Sc := Sb.ext ec
    cases hem : em y with
    | true =>
      simp only [if_true]
      refine x_return (X := X') (C := C) (p := .str y) (ev_imm (ev_var Sc rfl (.inl rfl)) rfl) fun v sd ed r => ⟨(ec.trans ed).ofNo, fun e' v' hv => ?_⟩
      subst hv
      refine ⟨e', fun _ => ?_⟩
      rw [hJ, hd, longP, if_pos hem]
      exact r.imm rfl
    | false =>
      simp only [Bool.false_eq_true, if_false]
      refine x_nil (x_nil ⟨ec.ofNo, Sc.sub (sub_tail rfl), ?_⟩)
      rw [hJ, hd, longP, if_neg (by rw [hem]; decide)]
  · intro Xb sb hXb Ob eb Sb hJ
    rw [List.length_map, List.drop_length] at hJ
    refine x_return (X := X') (C := C) ev_cnone fun v sc ec r v' hv => ?_
    subst hv
    rw [hJ]
    exact ⟨eb.trans ec.ofNo, fun _ => r.imm rfl⟩
end Mine
end
section
open PySem PySem.W PySem.Calls PyProof.Rows
set_option Elab.async false
set_option maxRecDepth 100000
set_option linter.unusedVariables false
namespace Mine
variable {prog : Program} {w : World} {K : Frag} {mb : Str → Option Value} {X Y : Addr → Prop} {C : Mem} {s s' s'' : Shared} {A : Around} {env : Env} {ρ : List (Str × PV)} {n : Nat}
noncomputable def leadsP (d : Str) (files : List Str) : List Bool := files.map fun f => nmR [] [d] (some f) f == 1
noncomputable def le : { p : FuncData × List Stmt // ∀ P, FnAt (hd.heap_39 P) 112 p.1 ["word", "sign", "files"] p.2 } := ⟨(_, _), fun P => {
  at_ := ⟨_, rfl, rfl⟩
  code := ⟨111, _, _, _, rfl, rfl, rfl, rfl⟩
  body := rfl
  kind := rfl
  co := rfl
  gen := rfl
  globals := rfl
  builtins := rfl
  closure := rfl
  kinds := fun L => by repeat (first | exact ks_nil | refine ks_cons (by first | exact .inl rfl | exact .inr ⟨rfl, rfl⟩) ?_) }⟩
theorem le_bind (v0 v1 v2 : Value) : bindArgs le.1.1 ⟨[v0, v1, v2], []⟩ = pure [(("word" : Str), v0), (("sign" : Str), v1), (("files" : Str), v2)] := by rfl
set_option maxHeartbeats 1000000 in
theorem le_spec {P : Params} {word sign d : Str} {files : List Str} {vs : List Value} (S : Sit prog w (hd.heap_39 P) mb (n + 8) C X A env ρ s) (hr : Reps X s.heap vs [.str word, .str sign, .list (files.map .str)]) (h1 : word.length ≤ 1000) (h2 : sign.length ≤ 1000) (hj : JoinOk "/" (("/q" :: "." :: partsP word sign)) = true) (hN : NormOk (leadPath word sign) d)
    (z : files.length ≤ 1000) (zf : ∀ f ∈ files, f ≠ "<string>") (zd : d.length ≤ 1000) : DoV prog w C X A (call (.ref 112) vs) (.list ((leadsP d files).map .bool)) s := by
  (refine Mine.Reps.el3 hr fun _ _ _ r1 r2 r3 => ?_; have hr' := Reps.cons r1 (.cons r2 (.cons r3 .nil)))

  refine call_fn S (le.2 P) hr' rfl (le_bind _ _ _) fun s₀ L s₁ X' e₀ e₁ O hXX hlo1 S₁ => ?_
  k_fold
  refine Mine.el1b ((pa.2 P).at_) fun o100 ho100 hd100 => ?_
  have hpl : (partsP word sign).length ≤ 1000 := by simp [partsP]; exact h1
  refine x_assignR (R := fun p s' => ∃ x c, p = .val (.ref x) ∧ RNew prog w C X' s'.heap s₁.heap.objs.size x c [] [d]) S₁ O (by first | exact .inl rfl | exact .inr ⟨rfl, rfl⟩) ?_ (by rfl) fun p s₂ s₃ e₂ hR e₃ S₃ => ?_
  · refine ev_call_cls S₁ (ev_global S₁ rfl rfl) (evs_cons ev_cnone (evs_cons (ev_list S₁.bd (evs_cons (ev_method ev_cstr (evs_cons (ev_eq (ev_binop (ev_list S₁.bd (evs_cons ev_cstr (evs_cons ev_cstr evs_nil)) (show 2 ≤ sizeLine by decide)) (ev_call_fn (ev_global S₁ rfl rfl) (evs_cons (ev_var S₁ rfl (.inl rfl)) (evs_cons (ev_var S₁ rfl (by first | exact .inl rfl | exact .inr ⟨.inl rfl, rfl⟩)) evs_nil)) (S₁.base.frag _ _ ho100) hd100 fun vs s' e r => pa_spec (S₁.ext e) r h1 h2) fun a b s' e ra rb => op_add_list (S₁.ext e).bd ra rb ?_) ?_) evs_nil) (m_join hj)) evs_nil) (show 1 ≤ sizeLine by decide)) evs_nil)) (by rfl) fun vs s' e r => ?_
    · rw [List.length_map]
      exact Nat.le_trans (Nat.add_le_add (show 2 ≤ 2 by decide) hpl) (by decide)
    · rfl
    · cases r with
      | cons r0 r => cases r with
        | cons r1 r => cases r with
          | nil =>
            refine Do.mono (mk_spec (om := none) (od := some [leadPath word sign]) (nf := fun _ => d) (S₁.ext e) (.inr (.inr rfl)) r0 r1 (by decide) (show (1 : Nat) ≤ 4000 by decide) (fun d' hd' => by simp at hd'; rw [hd']; exact hN)) fun v sb eb ⟨x, c, hv, hR⟩ => ⟨_, by rw [hv]; exact .val _, x, c, rfl, hR.mono e.size fun a h => h⟩
  · (refine Mine.el2b hR fun x c hq7 hq8 => ?_; clear hR; revert hq8; intro hR; obtain rfl := hq7)
    have hR₃ := hR.ext e₃ fun a h => O.own a (stX_frO a h)
    have e₁₃ : Ext prog w (FrO (fEnv le.1.1 112 L)) C s₁ s₃ := e₂.ofNo.trans (e₃.mono stX_frO)
    let Pm : Str → Int → Prop := fun m i => ∃ f ∈ files, m = f ∧ i = nmR [] [d] (some f) f
    have hloc : (fEnv le.1.1 112 L).locals < s₁.heap.objs.size := by refine Mine.el1b S₁.fm.ns fun m hn _ => ?_; exact hn.lt
    have S₄ := S₃.reader (Pm := Pm) (s₀ := s₁) hR₃ S₁.base (Nat.le_refl _) hloc
    have hc : s₁.heap.objs.size ≤ c := by
      obtain ⟨ms, ds, dx, mA, o, _, _, _, _, _, _, _, _, _, _, _, _, _, _, _, _, _, l1, _⟩ := hR₃
      exact l1
    have hRd := hR₃.rd (Pm := Pm) (KS := files) (fun m i ⟨f, hf, hm, _⟩ => hm ▸ hf) (Nat.le_trans z (by decide)) (fun y hy => by cases hy) (fun y hy => by simp at hy; rw [hy]; exact zd)
    refine x_return (C := setC C c Pm) (p := .list ((leadsP d files).map .bool)) (X := X') ?_ fun v s' e' r v' hv => ?_
    · refine ev_eq (ev_lc (ps := files.map .str) S₄ O.ap rfl (evi_list S₄ (ev_var S₄ rfl (.inl rfl))) (fun _ => true) (onS fun f => .bool (nmR [] [d] (some f) f == 1)) (.inl rfl) (by rw [List.length_map]; exact len_sz z) (by intro v; exact rfl) ?_) ?_
      · intro L' cells X'' p s' hp S' ce e'
        (refine Mine.el1b (List.mem_map.mp hp) fun f hf hq9 => ?_; obtain rfl := hq9)
        refine ⟨tests_nil, fun _ => ?_⟩
        refine ev_cmp (p := .int (nmR [] [d] (some f) f)) (Do.mono (ev_names S' (hRd.ext e' fun a h => h) e'.size (ev_free S' ce rfl rfl) (evs_cons (ev_loc S' rfl rfl) (evs_cons (ev_loc S' rfl rfl) evs_nil)) (fn := some f) (m := f) (zf f hf) (fun i ⟨f', _, hm, hi⟩ => by (refine Mine.rwl hi ?_; refine Mine.rwl (hm).symm ?_; try with_reducible rfl)) (.inr ⟨⟨f, hf, rfl, rfl⟩, rfl⟩)) fun v s'' e r => r.1) ev_cint fun a b s' e ra rb => op_eq_int ra rb
      · rw [List.filter_eq_self.mpr (fun _ _ => rfl)]
        rw [map_onS]; unfold leadsP; rw [List.map_map]; rfl
    · subst hv
      have e₁' : Ext prog w (FrO (fEnv le.1.1 112 L)) C s₁ s' := e₁₃.newC e'.ofNo fun a ha => setC_ne (Nat.ne_of_lt (Nat.lt_of_lt_of_le ha hc))
      exact ⟨e₁', fun _ => r.ofSub hXX⟩
end Mine
end
section
open PySem PySem.W PySem.Calls PyProof.Rows
set_option Elab.async false
set_option maxRecDepth 100000
set_option linter.unusedVariables false
namespace Mine
variable {prog : Program} {w : World} {K : Frag} {mb : Str → Option Value} {X Y : Addr → Prop} {C : Mem} {s s' s'' : Shared} {A : Around} {env : Env} {ρ : List (Str × PV)} {n : Nat}
noncomputable def la : { p : FuncData × List Stmt // ∀ P, FnAt (hd.heap_39 P) 124 p.1 ["script"] p.2 } := ⟨(_, _), fun P => {
  at_ := ⟨_, rfl, rfl⟩
  code := ⟨123, _, _, _, rfl, rfl, rfl, rfl⟩
  body := rfl
  kind := rfl
  co := rfl
  gen := rfl
  globals := rfl
  builtins := rfl
  closure := rfl
  kinds := fun L => by repeat (first | exact ks_nil | refine ks_cons (by first | exact .inl rfl | exact .inr ⟨rfl, rfl⟩) ?_) }⟩
theorem la_bind (v0 : Value) : bindArgs la.1.1 ⟨[v0], []⟩ = pure [(("script" : Str), v0)] := by rfl
theorem glob1 {P : Params} : GlobK (hd.heap_39 P) := ⟨⟨_, _, _, rfl, rfl, rfl⟩, rfl⟩
noncomputable def env0 : Env := newEnv { kind := .function, names := [], isGenerator := false, isCoroutine := false } mainGlobals mainGlobals [] "" none .none none builtinsNs
theorem reps_ints {h : Heap} : ∀ {vs : List Value} {ns : List Int}, IntsAre vs ns → Reps X h vs (ns.map .int)
  | _, _, .nil => .nil
  | _, _, .cons n t h => .cons (.int n t) (reps_ints h)
/-- what the law's walk must show -/
noncomputable def LawGoal (prog : Program) : Prop := ∀ (w : World) (mb : Str → Option Value) (s : Shared) (ns : List Int) (l : Addr), ns.length ≤ 63 → Sit prog w (hd.heap_39 w.params) mb 40 noMem (fun a => a = 121) callerA env0 [] s → Rep (fun a => a = 121) s.heap (.ref l) (.list (ns.map .int)) → s.heap.get? 121 = some (tabObj #[]) →
  ∀ (Q : Value → Shared → Prop) (E : Value → Shared → Prop), (∀ s', Ext prog w (fun a => a = 121) noMem s s' → (∃ more, s'.heap.get? 121 = some (tabObj more)) → Q (.bool true) s') → wpAny (model prog w) callerA (call (.ref 124) [.ref l]) Q E s
set_option maxHeartbeats 8000000 in
theorem top (hw : LawGoal Challenge.rw_pu0015_01.row.prog) : PySem.Challenge.rw_pu0015_01.Holds := Mine.hd (by
  k_fill
  intro w s₀ s₁ mg mb G Y fa o pm cd doc dV kV ho hd hcd hD hmg hg args vals as hpre hlay hrd hwl hlo; try k_fold
  have KX := km_in_of Y
  have T1 := km_tabs_of Y
  refine Ground.open G ?_; try k_fold
  intro T B D TE TW; try k_fold
  have hlaw := mg_of (n := "law") (v := .ref 124) KX (Top.g T) (by rfl)
  obtain rfl : fa = 124 := by
    have h2 : some (Value.ref fa) = some (Value.ref 124) := hmg.symm.trans hlaw
    injection h2 with h2; injection h2
  clear hmg hlaw ho hd hcd hD
  wrow_args hpre hlay hrd hwl hlo
  rename_i ns _ _ _ _ _ _ _ l vs _ hL _ _ _ hI _ hlen _
  have hbm := mg_of (n := "__builtins__") (v := .ref 4) KX (Top.g T) (by rfl)
  have h121 := T1 121 (.head _)
  have hlt : 121 < s₁.heap.objs.size := Heap.lt_size h121
  refine hw w mb s₁ ns l (by omega) ?_ ?_ h121 _ _ fun s' e h' => ?_
  · refine ⟨⟨KX, T.b, T.builtins, ?_, rfl⟩, ⟨by decide, by decide, rfl⟩, fun a h => h ▸ hlt, fun a h => h ▸ ⟨rfl, by decide, by decide⟩, fun a P q => (by cases q), rfl, rfl, rfl, rfl, ⟨mg, T.g, fun x p q => by cases q⟩, fun x c q => by cases q⟩
    refine Mine.el2f T.bmain fun bm ob b1 b2 b3 b4 b5 b6 => ?_; try k_fold
    obtain rfl : bm = 4 := by
      have h2 : some (Value.ref bm) = some (Value.ref 4) := b1.symm.trans hbm
      injection h2 with h2; injection h2
    exact ⟨ob, b3, b4, b5, b6⟩
  · refine .list (fun q => ?_) hL ?_
    · rw [q] at hL
      (refine Mine.el1c hL fun ol hol hcl _ => ?_; try clear hL)
      rw [h121] at hol; cases hol; cases hcl
    · exact reps_ints hI
  · (refine Mine.el1a h' fun more hm => ?_; try clear h')
    have hcode : ∃ c o vs, s₁.heap.get? c = some o ∧ o.cls = .type "code" ∧ o.data = .fields vs ∧ vs[11]? = some (.ref 121) := ⟨123, _, _, KX _ _ rfl, rfl, rfl, rfl⟩
    have hkeep : ∀ b o, s₁.heap.get? b = some o → b ≠ 121 → s'.heap.get? b = some o := fun b o e0 hb => e.keepAt e0 hb rfl
    refine ⟨.inl ⟨.bool true, .bool true, [], rfl, raisesW_false (by wrow_none_raised), .bool true, postW_of rfl (by wtm_val) rfl, unshared_nil⟩, ⟨fun b o e0 => ?_, fun b o e0 => ?_⟩, e.os, .of_eq (e.gens.trans hg)⟩
    · by_cases hb : b = 121
      · subst hb
        rw [h121] at e0; cases e0
        exact .inr (.inl ⟨hcode, rfl, #[], more, rfl, by rw [hm]; simp⟩)
      · exact .inl (hkeep b o e0 hb)
    · by_cases hb : b = 121
      · exact ⟨_, hb ▸ hm⟩
      · exact ⟨o, hkeep b o e0 hb⟩)
end Mine
end
section
open PySem PySem.W PySem.Calls PyProof.Rows
set_option Elab.async false
set_option linter.unusedVariables false
namespace Mine
/-! what law 1 computes, and what must hold of it -/
noncomputable def sgOf (σ : Str) : Str := σ ++ "\n"
noncomputable def inW (sg : Str) (m : Nat) (u : Str) : Prop := u.length ≤ m ∧ ∀ c ∈ u.cps.toList, c ∈ sg.cps.toList
noncomputable def lackP (sg : Str) (found : List Str) : List Str := found.flatMap fun w => ((chrs sg).filter fun c => !found.contains (w ++ c) && found.contains (spick (w ++ c) (some 1) none none)).map fun c => w ++ c
noncomputable def lackP' (sg : Str) (found l : List Str) : List Str := l.flatMap fun w => ((chrs sg).filter fun c => !found.contains (w ++ c) && found.contains (spick (w ++ c) (some 1) none none)).map fun c => w ++ c
noncomputable def kp2P (mods : List Str) (σ u : Str) : Bool := nmR mods [] (some "f") (turnedP u σ) == 0
noncomputable def beginsP (σ : Str) (dOf : Str → Str) (found lacking : List Str) : List Str := found.filter fun w => (leadsP (dOf w) (lacking.map (fileP σ))).contains true
noncomputable def goesP (found : List Str) (w : Str) : List Str := found.filter fun m => found.contains (w ++ m)
set_option genInjectivity false in
set_option genSizeOf false in
structure Facts1 (σ t : Str) where
  hσ : σ.length = 1
  ht : t.length ≤ 6
  kp : Str → Bool
  em1 : ∀ u, inW (sgOf σ) 8 u → EmOk ("..." ++ u ++ "...") t (kp u)
  tj : ∀ u, inW (sgOf σ) 8 u → JoinOk "." (partsP u σ).reverse = true
  tn : ∀ u, inW (sgOf σ) 8 u → turnedP u σ ≠ "<string>" ∧ (turnedP u σ).length ≤ 1000
  found : List Str
  hfound : grW kp (sgOf σ) (t.length + 1) = found
  lacking : List Str
  hlack : lackP (sgOf σ) found = lacking
  thr : grW (kp2P (lacking.map fun l => turnedP l σ) σ) (sgOf σ) (t.length + 1) = found
  last : ∃ l, found = l ++ [t]
  nd : found.Nodup
  ks : List Str
  ksOk : ∀ u, inW (sgOf σ) 8 u → turnedP u σ ∈ ks
  ksLen : ks.length ≤ 100000
  tinj : ∀ u ∈ found, ∀ v ∈ found, turnedP u σ = turnedP v σ → u = v
  jf : ∀ l ∈ lacking, JoinOk "/" ("/q" :: (partsP l σ ++ [("f" : Str)])) = true
  fn : ∀ l ∈ lacking, fileP σ l ≠ "<string>"
  jp : ∀ w ∈ found, JoinOk "/" ("/q" :: "." :: partsP w σ) = true
  dOf : Str → Str
  dOk : ∀ w ∈ found, NormOk (leadPath w σ) (dOf w) ∧ (dOf w).length ≤ 1000
  em2 : Str → Str → Bool
  em2Ok : ∀ w ∈ found, ∀ l ∈ lacking, EmOk (w ++ "...") l (em2 w l)
  leads : ∀ w ∈ found, leadsP (dOf w) (lacking.map (fileP σ)) = lacking.map (em2 w)
  laps : ∀ l ∈ lacking, ∀ dots ∈ (["", "..."] : List Str), EmOk (dots ++ spick l none (some (-1)) none ++ "..." ++ spick l (some 1) none none ++ dots) l (decide (l.length < 3))
  begins : List Str
  hbegins : beginsP σ dOf found lacking = begins
  em3 : Str → Str → Bool
  em3Ok : ∀ b ∈ begins, ∀ k ∈ found, EmOk ("..." ++ b) k (em3 b k)
  fin : ∀ k ∈ found, ∃ x, (begins.filter fun b => decide (goesP found b = goesP found k)) = [x] ∧ longP (fun b => em3 b k) begins.reverse = some x

/-! sizes, for any test -/
section
variable {kp : Str → Bool} {sg : Str}
theorem chrs_len : (chrs sg).length = sg.length := by simp [chrs, Str.length]
theorem mem_chrs {c : Str} (h : c ∈ chrs sg) : c.length = 1 ∧ ∀ d ∈ c.cps.toList, d ∈ sg.cps.toList := by
  (refine Mine.el1b (List.mem_map.mp h) fun d hd hq1 => ?_; obtain rfl := hq1)
  refine ⟨rfl, fun e he => ?_⟩
  simp at he; rw [he]; exact hd
theorem inW_cat {m : Nat} {u c : Str} (h : inW sg m u) (hc : c ∈ chrs sg) : inW sg (m + 1) (u ++ c) := by
  refine Mine.el0b (mem_chrs hc) fun h1 h2 => ?_
  refine ⟨?_, fun d hd => ?_⟩
  · rw [str_len_app, h1]; exact Nat.succ_le_succ h.1
  · have : d ∈ u.cps.toList ++ c.cps.toList := by rw [← Array.toList_append]; exact hd
    exact (List.mem_append.mp this).elim (h.2 d) (h2 d)
theorem inW_mono {m m' : Nat} {u : Str} (h : inW sg m u) (hm : m ≤ m') : inW sg m' u := ⟨Nat.le_trans h.1 hm, h.2⟩
theorem grLv_in : ∀ (i : Nat) (u : Str), u ∈ grLv kp sg i → inW sg i u
  | 0, u, h => by
    simp [grLv] at h; subst h
    exact ⟨Nat.le_refl _, fun c hc => by simp at hc⟩
  | i + 1, u, h => by
    refine Mine.el1b (List.mem_flatMap.mp h) fun w hw hu => ?_
    (refine Mine.el1b (List.mem_map.mp hu) fun c hc hq2 => ?_; obtain rfl := hq2)
    exact inW_cat (grLv_in i w hw) (List.mem_filter.mp hc).1
theorem grLv_len (h2 : sg.length ≤ 2) : ∀ i, (grLv kp sg i).length ≤ 2 ^ i
  | 0 => Nat.le_refl _
  | i + 1 => by
    have ih := grLv_len h2 i
    have : ∀ l : List Str, (grStep kp sg l).length ≤ 2 * l.length := by
      intro l
      induction l with
      | nil => exact Nat.le_refl _
      | cons a l ih =>
        unfold grStep at ih ⊢
        rw [List.flatMap_cons, List.length_append, List.length_map, List.length_cons]
        have : ((chrs sg).filter fun c => kp (a ++ c)).length ≤ 2 := Nat.le_trans (List.length_filter_le _ _) (by rw [chrs_len]; exact h2)
        omega
    have := this (grLv kp sg i)
    show (grStep kp sg (grLv kp sg i)).length ≤ _
    rw [Nat.pow_succ]; omega
theorem grW_len (h2 : sg.length ≤ 2) : ∀ i, (grW kp sg i).length ≤ 2 ^ (i + 1)
  | 0 => (show (1 : Nat) ≤ 2 ^ 1 by decide)
  | i + 1 => by
    have ih := grW_len h2 i
    have := grLv_len (kp := kp) h2 (i + 1)
    show (grW kp sg i ++ grLv kp sg (i + 1)).length ≤ _
    rw [List.length_append, Nat.pow_succ]; omega
theorem grW_in : ∀ (i : Nat) (u : Str), u ∈ grW kp sg i → inW sg i u
  | 0, u, h => grLv_in (kp := kp) 0 u h
  | i + 1, u, h => (List.mem_append.mp h).elim (fun h => inW_mono (grW_in i u h) (Nat.le_succ i)) fun h => grLv_in (i + 1) u h
theorem grW_cons : ∀ i, ∃ l, grW kp sg i = (⟨#[]⟩ : Str) :: l ∧ ∀ u ∈ l, AskW kp sg i u ∧ kp u = true
  | 0 => ⟨[], rfl, fun u h => by cases h⟩
  | i + 1 => by
    refine Mine.el1b (grW_cons i) fun l h1 h2 => ?_
    refine ⟨l ++ grLv kp sg (i + 1), by show grW kp sg i ++ _ = _; rw [h1]; rfl, fun u hu => ?_⟩
    rcases List.mem_append.mp hu with h | h
    · (refine Mine.el0b (h2 u h) fun hq3 hk => ?_; obtain ⟨j, hj, r⟩ := hq3)
      exact ⟨⟨j, Nat.lt_succ_of_lt hj, r⟩, hk⟩
    · refine Mine.el1b (List.mem_flatMap.mp h) fun w hw hu => ?_
      (refine Mine.el1b (List.mem_map.mp hu) fun c hc hq4 => ?_; obtain rfl := hq4)
      refine Mine.el0b (List.mem_filter.mp hc) fun hc1 hc2 => ?_
      exact ⟨⟨i, Nat.lt_succ_self i, w, hw, c, hc1, rfl⟩, hc2⟩
end
end Mine
end
section
open PySem PySem.W PySem.Calls PyProof.Rows
set_option Elab.async false
set_option maxRecDepth 100000
set_option linter.unusedVariables false
namespace Mine
variable {prog : Program} {w : World} {K : Frag} {mb : Str → Option Value} {X Y : Addr → Prop} {C : Mem} {s s' s'' : Shared} {A : Around} {env : Env} {ρ : List (Str × PV)} {n : Nat} {P : Params} {Q : Flow → Shared → Prop} {E : Value → Shared → Prop} {L : Addr}
noncomputable def kstB (env : Env) (x : Str) : Bool := env.kindOf x == some .local || (env.kindOf x == some .cell && (env.cells.lookup x).isSome)
theorem kst_of {x : Str} (h : kstB env x = true) : KindSt env x := by
  unfold kstB at h
  simp only [Bool.or_eq_true, Bool.and_eq_true, beq_iff_eq] at h
  exact h
noncomputable def kvB (env : Env) (x : Str) : Bool := env.kindOf x == some .local || ((env.kindOf x == some .cell || env.kindOf x == some .free) && (env.cells.lookup x).isSome)
theorem kv_of {x : Str} (h : kvB env x = true) : env.kindOf x = some .local ∨ ((env.kindOf x = some .cell ∨ env.kindOf x = some .free) ∧ (env.cells.lookup x).isSome = true) := by
  unfold kvB at h
  simp only [Bool.or_eq_true, Bool.and_eq_true, beq_iff_eq] at h
  exact h
theorem ev_v {x : Str} {pos : Pos} {p : PV} (S : Sit prog w K mb n C X A env ρ s) (hx : ρ.lookup x = some p) (hk : kvB env x = true)
    (hd : autoParam ((x == ("__debug__" : Str)) = false) Mine.autoD) (hn : autoParam ((x == ("__classdict__" : Str)) = false) Mine.autoD) : Ev prog w C X A env (.Name x pos) p s := ev_var S hx (kv_of hk) hd hn
theorem op_eq_bool {x y : Bool} {a b : Value} (ha : Rep X s.heap a (.bool x)) (hb : Rep X s.heap b (.bool y)) : DoV prog w C X A (compareOp .Eq a b) (.bool (x == y)) s := by
  refine Mine.Rep.elB ha fun _ => ?_; refine Mine.Rep.elB hb fun _ => ?_
  exact fun s₁ e₁ Q E k => eq_bool (k _ _ .refl (.bool _))
noncomputable def sigOf (ns : List Int) : Str := ⟨#[(97 + (ns.take 6).sum.fmod 55199).toNat]⟩
noncomputable def drawnOf (ns : List Int) : List Int := ns.take 6 ++ [0, 1, 0, 0].drop ns.length
noncomputable def textOf (ns : List Int) : List Str := (drawnOf ns).map fun x => if x.fmod 2 == 0 then sigOf ns else "\n"
set_option maxHeartbeats 1000000 in
/-- sign, drawn, text -/
theorem b1 {ns : List Int} (S : Sit prog w (hd.heap_39 P) mb (n + 20) C X A (fEnv la.1.1 124 L) [("script", .list (ns.map .int))] s) (O : Own X (fEnv la.1.1 124 L)) (hlen : ns.length ≤ 63) (hj : JoinOk "" (textOf ns) = true)
    (k : ∀ s', Ext prog w (FrO (fEnv la.1.1 124 L)) C s s' → Sit prog w (hd.heap_39 P) mb (n + 20) C X A (fEnv la.1.1 124 L) [("sign", .str (sigOf ns)), ("text", .str (Txt.join "" (textOf ns)))] s' → wpAny (model prog w) A (execs (la.1.2.drop 3) (fEnv la.1.1 124 L)) Q E s') :
    wpAny (model prog w) A (execs la.1.2 (fEnv la.1.1 124 L)) Q E s := by
  have hl : (ns.map PV.int).length ≤ sizeLine := by rw [List.length_map]; exact len_sz (Nat.le_trans hlen (by decide))
  have h6 : pick (ns.map PV.int) none (some 6) none = (ns.take 6).map .int := by
    rw [show (6 : Int) = ((6 : Nat) : Int) from rfl, pick_upto, List.map_take]
  have hm0 : 0 ≤ (ns.take 6).sum.fmod 55199 := Int.fmod_nonneg_of_pos _ (by decide)
  have hm1 : (ns.take 6).sum.fmod 55199 < 55199 := Int.fmod_lt_of_pos _ (by decide)
  refine x_assign S O (kst_of rfl) (ev_call_builtin (ev_builtin S rfl rfl (by decide) rfl) (evs_cons (ev_binop ev_cint (ev_binop (ev_call_builtin (ev_builtin S rfl rfl (by decide) rfl) (evs_cons (ev_eq (ev_slice_list S.bd (ev_v S rfl rfl) evp_none (evp_some (X := X) ev_cint) evp_none (by decide) hl) (by (refine Mine.rwl h6 ?_; try with_reducible rfl))) evs_nil) fun vs s' e r => c_sum S.rm.h r) ev_cint fun a b s' e ra rb => op_mod_int ra rb rfl) fun a b s' e ra rb => op_add_int ra rb) evs_nil) fun vs s' e r => c_chr r (by omega) (by omega)) (by rfl) fun s₂ e₂ S₂ => ?_
  have hd4 : pick [PV.int 0, .int 1, .int 0, .int 0] (some ((ns.map PV.int).length : Int)) none none = ([0, 1, 0, 0].drop ns.length).map PV.int := by
    rw [pick_from, List.length_map, List.map_drop]; rfl
  refine x_assign (p := .list ((drawnOf ns).map .int)) S₂ O (kst_of rfl) (ev_eq (ev_binop (ev_eq (ev_slice_list S₂.bd (ev_v S₂ rfl rfl) evp_none (evp_some (X := X) ev_cint) evp_none (by decide) hl) (by (refine Mine.rwl h6 ?_; try with_reducible rfl))) (ev_eq (ev_slice_list S₂.bd (ev_list S₂.bd (evs_cons ev_cint (evs_cons ev_cint (evs_cons ev_cint (evs_cons ev_cint evs_nil)))) (show 4 ≤ sizeLine by decide)) (evp_some (ev_call_builtin (ev_builtin S₂ rfl rfl (by decide) rfl) (evs_cons (ev_v S₂ rfl rfl) evs_nil) fun vs s' e r => c_len_list r hl)) evp_none evp_none (by decide) (show 4 ≤ sizeLine by decide)) (by (refine Mine.rwl hd4 ?_; try with_reducible rfl))) fun a b s' e ra rb => op_add_list (S₂.ext e).bd ra rb ?_) (by rw [← List.map_append]; rfl)) (by rfl) fun s₃ e₃ S₃ => ?_
  · rw [List.length_map, List.length_map]
    refine Nat.le_trans (Nat.add_le_add (List.length_take_le _ _) (?_ : _ ≤ 4)) (by decide)
    rw [List.length_drop]; exact Nat.sub_le _ _
  have hdl : (drawnOf ns).length ≤ 10 := by
    unfold drawnOf
    rw [List.length_append, List.length_drop]
    exact Nat.add_le_add (List.length_take_le _ _) (Nat.sub_le _ _)
  refine x_assign (p := .str (Txt.join "" (textOf ns))) S₃ O (kst_of rfl) (ev_method ev_cstr (evs_cons (ev_eq (ev_lc (ps := (drawnOf ns).map .int) S₃ O.ap rfl (evi_list S₃ (ev_v S₃ rfl rfl)) (fun _ => true) (onI fun x => .str (if x.fmod 2 == 0 then sigOf ns else "\n")) (.inl rfl) (by rw [List.length_map]; exact len_sz (Nat.le_trans hdl (by decide))) (by intro v; exact rfl) ?_) ?_) evs_nil) (m_join hj)) (by rfl) fun s₄ e₄ S₄ => ?_
  · intro L' cells X'' p s' hp S' ce e'
    (refine Mine.el1b (List.mem_map.mp hp) fun x hx hq3 => ?_; obtain rfl := hq3)
    refine ⟨tests_nil, fun _ => ev_ifexp (b := x.fmod 2 == 0) (ts_cmp (ev_binop (ev_loc S' rfl rfl) ev_cint fun a b s' e ra rb => op_mod_int ra rb rfl) ev_cint fun a b s' e ra rb => op_eq_int ra rb) (fun hb => ?_) fun hb => ?_⟩
    · show Ev _ _ _ _ _ _ _ (.str (if (x.fmod 2 == 0) = true then _ else _)) _
      rw [if_pos hb]; exact ev_free S' ce rfl rfl
    · show Ev _ _ _ _ _ _ _ (.str (if (x.fmod 2 == 0) = true then _ else _)) _
      rw [if_neg (by rw [hb]; decide)]; exact ev_cstr
  · rw [List.filter_eq_self.mpr (fun _ _ => rfl)]
    rw [map_onI]; unfold textOf; rw [List.map_map]; rfl
  · exact k s₄ (e₂.trans (e₃.trans e₄)) (S₄.sub (sub_cons rfl (sub_cons rfl sub_nil)))
end Mine
end
section
open PySem PySem.W PySem.Calls PyProof.Rows
set_option Elab.async false
set_option maxRecDepth 100000
set_option linter.unusedVariables false
namespace Mine
variable {prog : Program} {w : World} {K : Frag} {mb : Str → Option Value} {X Y : Addr → Prop} {C : Mem} {s s' s'' : Shared} {A : Around} {env : Env} {ρ : List (Str × PV)} {n : Nat} {P : Params} {Q : Flow → Shared → Prop} {E : Value → Shared → Prop} {L : Addr}
/-- a lambda just made -/
theorem lam_at {a c' : Addr} {name qual : Str} {params : Arguments} {body : Expr} {scope : Scope} {pm ctv : Value} {ρf : List (Str × PV)} (S : Sit prog w K mb n C X A env ρ s) (ap : Apart env) (ho : s.heap.get? a = some (kla_obj name qual params body scope (clOf scope.names env.cells) pm c' ctv)) (hcr : s.heap.CodeRec (.ref c') qual)
    (hk : scope.kind = .function) (hco : scope.isCoroutine = false) (hgen : scope.isGenerator = false) (hnc : (scope.names.all fun q => q.2 != .cell) = true)
    (hf : ∀ x p, ρf.lookup x = some p → ρ.lookup x = some p ∧ flat p = true ∧ scope.names.lookup x = some .free ∧ (env.kindOf x = some .cell ∨ env.kindOf x = some .free)) :
    LamAt s.heap s.heap.objs.size a (kla_fn name qual params body scope (clOf scope.names env.cells) pm (.ref c') ctv) body ρf := by
  have hcl : ∀ x c, (clOf scope.names env.cells).lookup x = some c → env.cells.lookup x = some c := fun x c h => (clOf_lookup h).2
  (refine Mine.el4d hcr fun c2 oc vs t h1 h2 h3 h4 => ?_; try clear hcr)
  cases h1
  refine ⟨⟨Heap.lt_size ho, _, ho, rfl⟩, ⟨c', oc, vs, t, rfl, Heap.lt_size h2, h2, h3, h4⟩, rfl, hk, hco, hgen, rfl, rfl, fun x hx => ?_, fun x y c hx hy => ap x y c (hcl x c hx) (hcl y c hy), fun x c hx => ?_, fun x p hx => ⟨(hf x p hx).2.1, (hf x p hx).2.2.1⟩⟩
  · have := List.all_eq_true.mp hnc _ hx
    simp at this
  · refine Mine.el1b (S.fm.cell x c (hcl x c hx)) fun ov hi hv => ?_
    refine ⟨by (refine Mine.el1b hi fun o ho _ => ?_; try clear hi); exact Heap.lt_size ho, ov, hi, fun p hp => ?_⟩
    refine Mine.el0d (hf x p hp) fun q1 q2 q3 q4 => ?_
    refine Mine.el1b (hv p q1 q4) fun v r1 r2 => ?_
    exact ⟨v, r1, r2.flat q2⟩
theorem free_of {scope : Scope} (h : (scope.names.all fun q => q.2 != .free || (env.cells.lookup q.1).isSome) = true) : ∀ q ∈ scope.names, q.2 = .free → (env.cells.lookup q.1).isSome = true := fun q hq hf => by
  have := List.all_eq_true.mp h q hq
  rw [hf] at this
  simpa using this
/-- a kept word's test, standing at a -/
noncomputable def KeptAt (prog : Program) (w : World) (K : Frag) (mb : Str → Option Value) (C : Mem) (n : Nat) (s : Shared) (a : Addr) (W : Str → Prop) (kp : Str → Bool) (H : Str → Shared → Prop) : Prop :=
  (∃ o fd, s.heap.get? a = some o ∧ o.data = .func fd ∧ a < s.heap.objs.size) ∧
  ∀ u X' A' env' ρ' s' v, W u → Sit prog w K mb n C X' A' env' ρ' s' → Ext prog w (fun b => s.heap.objs.size ≤ b) C s s' → Rep X' s'.heap v (.str u) → Do prog w C A' (call (.ref a) [v]) (fun r s'' => Rep X' s''.heap r (.bool (kp u)) ∧ H u s'') s'
theorem kept_spec {f : Addr} {sg : Str} {m : Nat} {kp : Str → Bool} {H : Str → Shared → Prop} {s0 : Shared} {vs : List Value} (S0 : KeptAt prog w (hd.heap_39 P) mb C (n + 4) s0 f (inW sg 8) kp H) (S : Sit prog w (hd.heap_39 P) mb (n + 5) C X A env ρ s) (e : Ext prog w noX C s0 s) (hr : Reps X s.heap vs [.val (.ref f), .str sg, .int m]) (h2 : sg.length ≤ 2) (hm : m ≤ 6)
    (hH : ∀ u Z s s', (∀ a, Z a → s0.heap.objs.size ≤ a) → H u s → Ext prog w Z C s s' → H u s') :
    Do prog w C A (call (.ref 95) vs) (fun v s' => Rep X s'.heap v (.list ((grW kp sg (m + 1)).map .str)) ∧ ∀ u, AskW kp sg (m + 1) u → H u s') s := by
  (refine Mine.el0b S0 fun hq1 hcall => ?_; try clear S0; obtain ⟨o, fd, ho, hd, hlt⟩ := hq1)
  refine gr_spec (W := inW sg 8) (lo := s0.heap.objs.size) S hr e.size ⟨o, fd, e.keepD ho (fun q => q) (by rw [hd]; first | exact fun _ _ h => by cases h | exact fun _ h => by cases h | nofun), hd, hlt⟩ hH (fun i w c hi hw hc => inW_mono (inW_cat (grLv_in i w hw) hc) (by omega)) (fun u X' A' env' ρ' s' v hu S' e' r => hcall u X' A' env' ρ' s' v hu S' (e.ofNo.trans e') r) (by omega) (by omega) (fun i hi => ?_) fun i u hi hu => ?_
  · have h7 : 2 ^ i ≤ 2 ^ 7 := Nat.pow_le_pow_right (by decide) (by omega)
    have h8 : 2 ^ (i + 1) ≤ 2 ^ 8 := Nat.pow_le_pow_right (by decide) (by omega)
    exact ⟨Nat.le_trans (grLv_len h2 i) (Nat.le_trans h7 (by decide)), Nat.le_trans (grW_len h2 i) (Nat.le_trans h8 (by decide))⟩
  · have := (grLv_in i u hu).1
    omega
set_option maxHeartbeats 2000000 in
/-- found -/
theorem b2 {σ t : Str} (F : Facts1 σ t) (S : Sit prog w (hd.heap_39 P) mb (n + 20) C X A (fEnv la.1.1 124 L) [("sign", .str σ), ("text", .str t)] s) (O : Own X (fEnv la.1.1 124 L)) (hX : X 121) (hFr : ¬ FrO (fEnv la.1.1 124 L) 121) (hcell : ∀ x c, (fEnv la.1.1 124 L).cells.lookup x = some c → ¬ c = 121) (hC : C 121 = none) (h121 : s.heap.get? 121 = some (tabObj #[]))
    (k : ∀ s' c', Ext prog w (fun a => FrO (fEnv la.1.1 124 L) a ∨ a = 121) C s s' → Sit prog w (hd.heap_39 P) mb (n + 20) C X A (fEnv la.1.1 124 L) [("found", .list (F.found.map .str)), ("sign", .str σ), ("text", .str t)] s' → s'.heap.get? 121 = some (tabObj #[rawInt 149, rawInt 23, .ref c']) → wpAny (model prog w) A (execs (la.1.2.drop 4) (fEnv la.1.1 124 L)) Q E s') :
    wpAny (model prog w) A (execs (la.1.2.drop 3) (fEnv la.1.1 124 L)) Q E s := by
  refine Mine.el1b ((gr.2 P).at_) fun o95 ho95 hd95 => ?_
  have hloc : ¬ (fEnv la.1.1 124 L).locals = 121 := fun q => hFr (.inl q.symm)
  have hsg : (sgOf σ).length ≤ 2 := by unfold sgOf; rw [str_len_app, F.hσ]; exact Nat.le_refl _
  refine x_assign_first (K := hd.heap_39 P) (mb := mb) (n := n + 20) (ρ := [("sign", .str σ), ("text", .str t)]) (o := o95) (fd := gr.1.1) (a := 95) (ps := [.str (sgOf σ), .int t.length]) (p := .list (F.found.map .str)) (R := fun _ _ => True)
    (Lm := fun v s₂ => ∃ a c', v = .ref a ∧ Ext prog w (fun b => b = 121) C s s₂ ∧ s₂.heap.get? 121 = some (tabObj #[rawInt 149, rawInt 23, .ref c']) ∧ KeptAt prog w (hd.heap_39 P) mb C (n + 19) s₂ a (inW (sgOf σ) 8) F.kp fun _ _ => True)
    (kst_of rfl) (by rfl) (ev_global S rfl rfl) (S.base.frag _ _ ho95) hd95 ?_ O ?_ ?_ ?_ ?_
  · intro s₁ e₁ Q E hQ
    refine ev_lambda (c := 123) (P := 121) (S.ext e₁) glob1 (free_of rfl) (by rfl) rfl (by rfl) (e₁.keepAt h121 (fun q => q) hC) trivial rfl (by decide) (by decide) fun a c' ctv pm s₂ e₂ ha hc' hobj hcr htab => hQ _ _ ⟨a, c', rfl, e₁.ofNo.trans e₂, by rw [htab]; rfl, ?_⟩
    have S₂ := (S.ext e₁).extZ e₂ (fun a h => h ▸ hX) hloc hcell
    have LA := lam_at (ρf := [("text", .str t)]) S₂ O.ap hobj hcr rfl rfl rfl rfl fun x p hx => by
      rw [List.lookup_cons] at hx
      split at hx
      · rename_i hb
        have := beq_iff_eq.mp hb; subst this
        cases hx
        exact ⟨rfl, rfl, rfl, .inl rfl⟩
      · cases hx
    obtain ⟨hlt, o, ho, hd⟩ := LA.at_
    refine ⟨⟨o, _, ho, hd, hlt⟩, fun u X' A' env'' ρ' s' v hu S' e' r => ?_⟩
    have LA' := LA.ext e' (fun b h => h)
    refine call_lam (names := ["word"]) (ps := [.str u]) S' LA' e'.size (.cons r .nil) rfl (fun x hx => by rw [List.mem_singleton.mp hx]; rfl) (by rfl) fun L' s'' X'' e'' hXX S'' => ?_
    have hul : u.length ≤ 8 := hu.1
    refine Do.mono (ev_em S'' (ev_global S'' rfl rfl) (evs_cons (ev_binop (ev_binop ev_cstr (ev_v S'' rfl rfl) fun a b s' e ra rb => op_add_str ra rb (Nat.le_trans (Nat.add_le_add (show (3 : Nat) ≤ 3 by decide) hul) (by decide))) ev_cstr fun a b s' e ra rb => op_add_str ra rb (by rw [str_len_app]; exact Nat.le_trans (Nat.add_le_add (Nat.add_le_add (show (3 : Nat) ≤ 3 by decide) hul) (show (3 : Nat) ≤ 3 by decide)) (by decide))) (evs_cons (ev_v S'' rfl rfl) evs_nil)) (F.em1 u hu)) fun v s3 e3 r => ⟨r.imm rfl, trivial⟩
  · rintro v s₂ ⟨a, c', rfl, e₂, htab, hk⟩
    exact ⟨S.extZ e₂ (fun a h => h ▸ hX) hloc hcell, e₂.keepD (S.base.frag _ _ ho95) (by decide) (by rw [hd95]; first | exact fun _ _ h => by cases h | exact fun _ h => by cases h | nofun)⟩
  · rintro v s₂ ⟨a, c', rfl, e₂, htab, hk⟩
    have S₂ := S.extZ e₂ (fun a h => h ▸ hX) hloc hcell
    exact evs_cons (ev_binop (ev_v S₂ rfl rfl) ev_cstr fun a b s' e ra rb => op_add_str ra rb (by rw [F.hσ]; decide)) (evs_cons (ev_call_builtin (ev_builtin S₂ rfl rfl (by decide) rfl) (evs_cons (ev_v S₂ rfl rfl) evs_nil) fun vs s' e r => c_len_str r (len_sz (Nat.le_trans F.ht (by decide)))) evs_nil)
  · rintro v vs s₂ s₃ ⟨a, c', rfl, e₂, htab, hk⟩ e₃ rs
    have S₂ := S.extZ e₂ (fun a h => h ▸ hX) hloc hcell
    have := kept_spec (n := n + 15) hk (S₂.ext e₃) e₃ (.cons (.val _) rs) hsg F.ht (fun _ _ _ _ _ _ _ => trivial)
    rw [F.hfound] at this
    exact this.mono fun v s₄ e₄ r => ⟨r.1, trivial⟩
  · rintro v s₂ s₃ s₄ ⟨a, c', rfl, e₂, htab, hk⟩ e₃ _ e₄ S₄
    have hst : ∀ a, StX (fEnv la.1.1 124 L) "found" a → FrO (fEnv la.1.1 124 L) a := stX_frO
    exact k s₄ c' ((e₂.mono fun a h => .inr h).trans (e₃.ofNo.trans (e₄.mono fun a h => .inl (hst a h)))) S₄ (e₄.keepAt (e₃.keepAt htab (fun q => q) hC) (fun q => hFr (hst _ q)) hC)
end Mine
end
section
open PySem PySem.W PySem.Calls PyProof.Rows
set_option Elab.async false
set_option maxRecDepth 100000
set_option linter.unusedVariables false
namespace Mine
variable {prog : Program} {w : World} {K : Frag} {mb : Str → Option Value} {X Y : Addr → Prop} {C : Mem} {s s' s'' : Shared} {A : Around} {env : Env} {ρ : List (Str × PV)} {n : Nat} {P : Params} {Q : Flow → Shared → Prop} {E : Value → Shared → Prop} {L : Addr}
/-- a reader in use -/
inductive RdX (prog : Program) (w : World) (C : Mem) (X : Addr → Prop) (h : Heap) (x c : Addr) (mods dirs : List Str) (Pm : Str → Int → Prop) : Prop
  | mk (ms ds dx mA o) : h.get? x = some o → o.cls = .ref 86 → o.data = .plain → o.dict = some dx → dx ≠ x → h.Ns1 dx mA → C dx = none → mA "_mods" = some (.ref ms) → mA "_dirs" = some (.ref ds) → mA "_ignore" = some (.ref c) → mA "names" = none → SetW prog w h ms mods → ListAt h ds dirs → (c == sysModules) = false → MemoOk prog w h c Pm → C c = some Pm → ¬ X x → ¬ X dx → ¬ X ms → ¬ X ds → ¬ X c → RdX prog w C X h x c mods dirs Pm
theorem RdX.ext {Z : Addr → Prop} {x c : Addr} {mods dirs : List Str} {Pm : Str → Int → Prop} (R : RdX prog w C X s.heap x c mods dirs Pm) (e : Ext prog w Z C s s') (hZ : ∀ a, Z a → X a) : RdX prog w C X s'.heap x c mods dirs Pm := by
  obtain ⟨ms, ds, dx, mA, o, h1, h2, h3, h4, h5, h6, h7, a1, a2, a3, a4, h8, h9, h10, h11, h12, n1, n2, n3, n4, n5⟩ := R
  (refine Mine.el3c h6 fun o' es ep g1 g2 g3 => ?_; try clear h6)
  exact ⟨ms, ds, dx, mA, o, e.keepD h1 (fun q => n1 (hZ _ q)) (by rw [h3]; first | exact fun _ _ h => by cases h | exact fun _ h => by cases h | nofun), h2, h3, h4, h5, ⟨o', es, ep, e.keepAt g1 (fun q => n2 (hZ _ q)) h7, g2, g3⟩, h7, a1, a2, a3, a4, h8.ext e (fun q => n3 (hZ _ q)), h9.ext e (fun q => n4 (hZ _ q)), h10, h11.ext e (fun q => n5 (hZ _ q)) h12, h12, n1, n2, n3, n4, n5⟩
theorem RdX.at {h : Heap} {x c : Addr} {mods dirs KS : List Str} {Pm : Str → Int → Prop} (R : RdX prog w C X h x c mods dirs Pm) (ks : ∀ m i, Pm m i → m ∈ KS) (len : KS.length ≤ 100000) (z1 : ∀ y ∈ mods, y.length ≤ 1000) (z2 : ∀ y ∈ dirs, y.length ≤ 1000) :
    RdAt prog w C h h.objs.size x c mods dirs Pm KS := by
  obtain ⟨ms, ds, dx, mA, o, h1, h2, h3, h4, h5, h6, h7, a1, a2, a3, a4, h8, h9, h10, h11, h12, n1, n2, n3, n4, n5⟩ := R
  refine ⟨⟨ms, ds, mA, ⟨dx, o, h1, h2, h3, h4, h5, h6, Heap.lt_size h1, h6.lt, h7⟩, a1, a2, a3, a4, h8, h9, ?_, ?_, ?_, h10⟩, h12, h11, ks, len, z1, z2⟩
  · (refine Mine.el3b h8 fun es ep t hq1 _ => ?_; try clear h8; obtain ⟨o, ho, _⟩ := hq1); exact Heap.lt_size ho
  · (refine Mine.el1b h9 fun items hq2 _ => ?_; try clear h9; obtain ⟨o, ho, _⟩ := hq2); exact Heap.lt_size ho
  · (refine Mine.el2b h11 fun o es ho _ => ?_; try clear h11); exact Heap.lt_size ho
theorem RNew.rdx {h : Heap} {lo : Nat} {x c : Addr} {mods dirs : List Str} {Pm : Str → Int → Prop} (R : RNew prog w C X h lo x c mods dirs) : RdX prog w (setC C c Pm) X h x c mods dirs Pm := by
  obtain ⟨ms, ds, dx, mA, o, h1, h2, h3, h4, h5, h6, h7, a1, a2, a3, a4, h8, h9, h10, h11, h12, h13, l1, l2, l3, n1, n2, n3, n4, n5⟩ := R
  exact ⟨ms, ds, dx, mA, o, h1, h2, h3, h4, h5, h6, by rw [setC_ne h13]; exact h7, a1, a2, a3, a4, h8, h9, h10, h11.ok, setC_self, n1, n2, n3, n4, n5⟩
theorem gr_flat' {kp : Str → Bool} {signs : Str} {lv : List Str} : ((lv.map PV.str).flatMap fun p => ((chars signs).filter (kpPV kp p)).map (catPV p)) = (grStep kp signs lv).map .str := by
  rw [← gr_flat, flat2 (ps2 := fun _ => chars signs) (g := fun p q => if kpPV kp p q then [catPV p q] else [])]
  congr 1
  funext p
  exact flat_tst.symm
noncomputable def kpL (found : List Str) (x : Str) : Bool := !found.contains x && found.contains (spick x (some 1) none none)
theorem found_in {σ t : Str} (F : Facts1 σ t) {u : Str} (h : u ∈ F.found) : inW (sgOf σ) 7 u := by
  rw [← F.hfound] at h
  exact inW_mono (grW_in _ u h) (by have := F.ht; (exact Nat.lt_of_le_of_lt (by assumption) (by decide)))
theorem sg_len {σ t : Str} (F : Facts1 σ t) : (sgOf σ).length ≤ 2 := by unfold sgOf; rw [str_len_app, F.hσ]; exact Nat.le_refl _
theorem found_len {σ t : Str} (F : Facts1 σ t) : F.found.length ≤ 256 := by
  have := grW_len (kp := F.kp) (sg_len F) (t.length + 1)
  rw [F.hfound] at this
  have h8 : 2 ^ (t.length + 1 + 1) ≤ 2 ^ 8 := Nat.pow_le_pow_right (by decide) (by have := F.ht; omega)
  exact Nat.le_trans this h8
theorem lack_in {σ t : Str} (F : Facts1 σ t) {u : Str} (h : u ∈ F.lacking) : inW (sgOf σ) 8 u := by
  rw [← F.hlack] at h
  refine Mine.el1b (List.mem_flatMap.mp h) fun w hw hu => ?_
  (refine Mine.el1b (List.mem_map.mp hu) fun c hc hq3 => ?_; obtain rfl := hq3)
  exact inW_cat (found_in F hw) (List.mem_filter.mp hc).1
theorem lack_len {σ t : Str} (F : Facts1 σ t) : F.lacking.length ≤ 512 := by
  rw [← F.hlack]
  have h0 := found_len F
  have : ∀ l : List Str, (lackP' (sgOf σ) F.found l).length ≤ 2 * l.length := by
    intro l
    induction l with
    | nil => exact Nat.le_refl _
    | cons a l ih =>
      unfold lackP' at ih ⊢
      rw [List.flatMap_cons, List.length_append, List.length_map, List.length_cons]
      have : ((chrs (sgOf σ)).filter fun c => !F.found.contains (a ++ c) && F.found.contains (spick (a ++ c) (some 1) none none)).length ≤ 2 := Nat.le_trans (List.length_filter_le _ _) (by rw [chrs_len]; exact sg_len F)
      omega
  have := this F.found
  show (lackP' (sgOf σ) F.found F.found).length ≤ 512
  omega
set_option maxHeartbeats 1000000 in
/-- lacking -/
theorem b3 {σ t : Str} (F : Facts1 σ t) (S : Sit prog w (hd.heap_39 P) mb (n + 20) C X A (fEnv la.1.1 124 L) [("found", .list (F.found.map .str)), ("sign", .str σ), ("text", .str t)] s) (O : Own X (fEnv la.1.1 124 L))
    (k : ∀ s', Ext prog w (FrO (fEnv la.1.1 124 L)) C s s' → Sit prog w (hd.heap_39 P) mb (n + 20) C X A (fEnv la.1.1 124 L) [("lacking", .list (F.lacking.map .str)), ("found", .list (F.found.map .str)), ("sign", .str σ), ("text", .str t)] s' → wpAny (model prog w) A (execs (la.1.2.drop 5) (fEnv la.1.1 124 L)) Q E s') :
    wpAny (model prog w) A (execs (la.1.2.drop 4) (fEnv la.1.1 124 L)) Q E s := by
  have hfl : (grStep (kpL F.found) (sgOf σ) F.found) = F.lacking := F.hlack
  refine x_assign (p := .list (F.lacking.map .str)) S O (kst_of rfl) (ev_eq (ev_plain (spec_lc2 (ps := F.found.map .str) S O.ap rfl (evi_list S (ev_v S rfl rfl)) (fun _ => chars (sgOf σ)) (kpPV (kpL F.found)) catPV (.inl rfl) (.inl rfl) rfl ?_ (by intro v; exact rfl) (by intro cells L v; exact rfl) ?_ ?_)) (by (refine Mine.rwl gr_flat' ?_; refine Mine.rwl hfl ?_; try with_reducible rfl))) rfl fun s₂ e₂ S₂ => k s₂ e₂ S₂
  · rw [gr_flat', hfl, List.length_map]
    exact Nat.le_trans (lack_len F) (by decide)
  · intro L' cells X'' p s' hp S' ce
    exact evi_str S' (ev_binop (ev_free S' ce rfl rfl) ev_cstr fun a b s' e ra rb => op_add_str ra rb (by rw [F.hσ]; decide))
  · intro L' cells X'' p q s' hp hq S' ce e'
    (refine Mine.el1b (List.mem_map.mp hp) fun u hu hq4 => ?_; obtain rfl := hq4)
    (refine Mine.el1b (List.mem_map.mp hq) fun d hd hq5 => ?_; obtain rfl := hq5)
    have hul : u.length ≤ 7 := (found_in F hu).1
    have hsum : u.length + (⟨#[d]⟩ : Str).length ≤ sizeLine := Nat.le_trans (Nat.add_le_add hul (Nat.le_refl 1)) (by decide)
    have hE1 : ∀ {p1 p2 p3 : Pos}, Ev prog w C X'' A _ (.BinOp (.Name "word" p1) .Add (.Name "one" p2) p3) (.str (u ++ ⟨#[d]⟩)) s' := fun {p1 p2 p3} => ev_binop (ev_loc S' rfl rfl) (ev_loc S' rfl rfl) fun a b s' e ra rb => op_add_str ra rb hsum
    refine ⟨tests_one (ts_eq (ts_and2 (ts_cmp hE1 (ev_free S' ce rfl rfl) fun a b s' e ra rb => op_notIn_list imm_strs rfl ra rb) fun _ => ts_cmp (ev_slice_str hE1 (evp_some (X := X'') ev_cint) evp_none evp_none rfl (by rw [str_len_app]; exact hsum)) (ev_free S' ce rfl rfl) fun a b s' e ra rb => op_in_list imm_strs rfl ra rb) ?_), fun _ => hE1⟩
    rw [any_strs, any_strs]
    rfl
end Mine
end
section
open PySem PySem.W PySem.Calls PyProof.Rows
set_option Elab.async false
set_option maxRecDepth 100000
set_option linter.unusedVariables false
namespace Mine
variable {prog : Program} {w : World} {K : Frag} {mb : Str → Option Value} {X Y : Addr → Prop} {C : Mem} {s s' s'' : Shared} {A : Around} {env : Env} {ρ : List (Str × PV)} {n : Nat} {P : Params} {Q : Flow → Shared → Prop} {E : Value → Shared → Prop} {L : Addr}
theorem ev_cmpR {l r : Expr} {op : CmpOp} {pos : Pos} {p q p' : PV} {H : Shared → Prop} (h1 : Do prog w C A (eval l env) (fun v s => Rep X s.heap v p ∧ H s) s) (hH : ∀ s s', H s → Ext prog w noX C s s' → H s') (h2 : Ev prog w C X A env r q s)
    (hop : ∀ a b s', Ext prog w noX C s s' → Rep X s'.heap a p → Rep X s'.heap b q → DoV prog w C X A (compareOp op a b) p' s') (hm : autoParam (behindInMarks op r = false) Mine.autoR) : Do prog w C A (eval (.Compare l [op] [r] pos) env) (fun v s => Rep X s.heap v p' ∧ H s) s := by
  intro s₁ e₁ Q E k
  refine wpAny_Compare1 (h1 s₁ e₁ _ _ fun a s₂ e₂ ra => h2 s₂ (e₁.trans e₂) _ _ fun b s₃ e₃ rb => ?_) hm
  exact hop a b s₃ (e₁.trans (e₂.trans e₃)) (ra.1.ext e₃.ofNo) rb s₃ .refl _ _ fun v s₄ e₄ rv => k v s₄ (e₂.trans (e₃.trans e₄)) ⟨rv, hH _ _ ra.2 (e₃.trans e₄)⟩
noncomputable def modsOf {σ t : Str} (F : Facts1 σ t) : List Str := F.lacking.map fun l => turnedP l σ
noncomputable def Pm1 {σ t : Str} (F : Facts1 σ t) (m : Str) (i : Int) : Prop := ∃ u, inW (sgOf σ) 8 u ∧ m = turnedP u σ ∧ i = nmR (modsOf F) [] (some "f") m
/-- _law_turned called -/
theorem ev_tu {u σ t : Str} {func a1 a2 : Expr} {pos : Pos} (F : Facts1 σ t) (S : Sit prog w (hd.heap_39 P) mb (n + 2) C X A env ρ s) (hf : Ev prog w C X A env func (.val (.ref 107)) s) (h : Evs prog w C X A env [a1, a2] [.str u, .str σ] s) (hu : inW (sgOf σ) 8 u)
    (he : autoParam (eval (.Call func [a1, a2] [] pos) env = (do callWith pos (← eval func env) [] (backTo pos (starEach [a1, a2] env)) (backToKw pos (keywordEach [] env)))) Mine.autoR) : Ev prog w C X A env (.Call func [a1, a2] [] pos) (.str (turnedP u σ)) s := by
  refine Mine.el1b ((tu.2 P).at_) fun o107 ho107 hd107 => ?_
  exact ev_call_fn hf h (S.base.frag _ _ ho107) hd107 (fun vs s' e r => tu_spec (S.ext e) r (Nat.le_trans hu.1 (by decide)) (by rw [F.hσ]; decide) (F.tj u hu)) he
set_option maxHeartbeats 1000000 in
/-- reader -/
theorem b4 {σ t : Str} (F : Facts1 σ t) (S : Sit prog w (hd.heap_39 P) mb (n + 20) C X A (fEnv la.1.1 124 L) [("lacking", .list (F.lacking.map .str)), ("found", .list (F.found.map .str)), ("sign", .str σ), ("text", .str t)] s) (O : Own X (fEnv la.1.1 124 L))
    (k : ∀ s' x c, Ext prog w (FrO (fEnv la.1.1 124 L)) C s s' → s.heap.objs.size ≤ c → Sit prog w (hd.heap_39 P) mb (n + 20) (setC C c (Pm1 F)) X A (fEnv la.1.1 124 L) [("reader", .val (.ref x)), ("lacking", .list (F.lacking.map .str)), ("found", .list (F.found.map .str)), ("sign", .str σ), ("text", .str t)] s' → RdX prog w (setC C c (Pm1 F)) X s'.heap x c (modsOf F) [] (Pm1 F) →
      wpAny (model prog w) A (execs (la.1.2.drop 6) (fEnv la.1.1 124 L)) Q E s') :
    wpAny (model prog w) A (execs (la.1.2.drop 5) (fEnv la.1.1 124 L)) Q E s := by
  refine x_assignR (R := fun p s' => ∃ x c, p = .val (.ref x) ∧ RNew prog w C X s'.heap s.heap.objs.size x c (modsOf F) []) S O (kst_of rfl) ?_ (by rfl) fun p s₂ s₃ e₂ hR e₃ S₃ => ?_
  · refine ev_call_cls S (ev_global S rfl rfl) (evs_cons (ev_eq (p' := .list ((modsOf F).map .str)) (ev_lc (ps := F.lacking.map .str) S O.ap rfl (evi_list S (ev_v S rfl rfl)) (fun _ => true) (onS fun x => .str (turnedP x σ)) (.inl rfl) (by rw [List.length_map]; exact Nat.le_trans (lack_len F) (by decide)) (by intro v; exact rfl) ?_) ?_) evs_nil) (by rfl) fun vs s' e r => ?_
    · intro L' cells X'' p s' hp S' ce e'
      (refine Mine.el1b (List.mem_map.mp hp) fun u hu hq1 => ?_; obtain rfl := hq1)
      exact ⟨tests_nil, fun _ => ev_tu F S' (ev_global S' rfl rfl) (evs_cons (ev_loc S' rfl rfl) (evs_cons (ev_free S' ce rfl rfl) evs_nil)) (lack_in F hu)⟩
    · rw [List.filter_eq_self.mpr (fun _ _ => rfl)]
      rw [map_onS]; unfold modsOf; rw [List.map_map]; rfl
    · cases r with
      | cons r0 r => cases r with
        | nil =>
          refine Do.mono (mk_spec (om := some (modsOf F)) (od := none) (nf := id) (vd := .none) (S.ext e) (.inr (.inl ⟨rfl, rfl⟩)) r0 .none (show (modsOf F).length ≤ 4000 by unfold modsOf; rw [List.length_map]; exact Nat.le_trans (lack_len F) (by decide)) (by decide) (fun d' hd' => by cases hd')) fun v sb eb ⟨x, c, hv, hR⟩ => ⟨_, by rw [hv]; exact .val _, x, c, rfl, hR.mono e.size fun a h => h⟩
  · (refine Mine.el2b hR fun x c hq2 hq3 => ?_; clear hR; revert hq3; intro hR; obtain rfl := hq2)
    have hR₃ := hR.ext e₃ fun a h => O.own a (stX_frO a h)
    have hloc : (fEnv la.1.1 124 L).locals < s.heap.objs.size := by refine Mine.el1b S.fm.ns fun m hn _ => ?_; exact hn.lt
    have hc : s.heap.objs.size ≤ c := by
      obtain ⟨ms, ds, dx, mA, o, _, _, _, _, _, _, _, _, _, _, _, _, _, _, _, _, _, l1, _⟩ := hR₃
      exact l1
    exact k s₃ x c (e₂.ofNo.trans (e₃.mono stX_frO)) hc (S₃.reader (s₀ := s) hR₃ S.base (Nat.le_refl _) hloc) hR₃.rdx
theorem rd1_at {σ t : Str} (F : Facts1 σ t) {h : Heap} {x c : Addr} (R : RdX prog w C X h x c (modsOf F) [] (Pm1 F)) : RdAt prog w C h h.objs.size x c (modsOf F) [] (Pm1 F) F.ks :=
  R.at (fun m i ⟨u, hu, hm, _⟩ => hm ▸ F.ksOk u hu) F.ksLen (fun y hy => by
    (refine Mine.el1b (List.mem_map.mp hy) fun l hl hq4 => ?_; obtain rfl := hq4)
    exact (F.tn l (lack_in F hl)).2) (fun y hy => by cases hy)
set_option maxHeartbeats 2000000 in
/-- through -/
theorem b5 {σ t : Str} {x c : Addr} {c' : Value} (F : Facts1 σ t) (S : Sit prog w (hd.heap_39 P) mb (n + 20) C X A (fEnv la.1.1 124 L) [("reader", .val (.ref x)), ("lacking", .list (F.lacking.map .str)), ("found", .list (F.found.map .str)), ("sign", .str σ), ("text", .str t)] s) (O : Own X (fEnv la.1.1 124 L))
    (R : RdX prog w C X s.heap x c (modsOf F) [] (Pm1 F)) (hX : X 121) (hFr : ¬ FrO (fEnv la.1.1 124 L) 121) (hcell : ∀ x c, (fEnv la.1.1 124 L).cells.lookup x = some c → ¬ c = 121) (hC : C 121 = none) (h121 : s.heap.get? 121 = some (tabObj #[rawInt 149, rawInt 23, c']))
    (k : ∀ s' more, Ext prog w (fun a => FrO (fEnv la.1.1 124 L) a ∨ a = 121) C s s' → Sit prog w (hd.heap_39 P) mb (n + 20) C X A (fEnv la.1.1 124 L) [("through", .list (F.found.map .str)), ("reader", .val (.ref x)), ("lacking", .list (F.lacking.map .str)), ("found", .list (F.found.map .str)), ("sign", .str σ), ("text", .str t)] s' → s'.heap.get? 121 = some (tabObj more) →
      RdX prog w C X s'.heap x c (modsOf F) [] (Pm1 F) → (∀ u ∈ F.found.drop 1, Has prog w s'.heap c (turnedP u σ) 0) → wpAny (model prog w) A (execs (la.1.2.drop 7) (fEnv la.1.1 124 L)) Q E s') :
    wpAny (model prog w) A (execs (la.1.2.drop 6) (fEnv la.1.1 124 L)) Q E s := by
  refine Mine.el1b ((gr.2 P).at_) fun o95 ho95 hd95 => ?_
  have hloc : ¬ (fEnv la.1.1 124 L).locals = 121 := fun q => hFr (.inl q.symm)
  let H : Str → Shared → Prop := fun u s' => Has prog w s'.heap c (turnedP u σ) (nmR (modsOf F) [] (some "f") (turnedP u σ))
  refine x_assign_first (K := hd.heap_39 P) (mb := mb) (n := n + 20) (ρ := [("reader", .val (.ref x)), ("lacking", .list (F.lacking.map .str)), ("found", .list (F.found.map .str)), ("sign", .str σ), ("text", .str t)]) (o := o95) (fd := gr.1.1) (a := 95) (ps := [.str (sgOf σ), .int t.length]) (p := .list (F.found.map .str)) (R := fun _ s' => ∀ u ∈ F.found.drop 1, Has prog w s'.heap c (turnedP u σ) 0)
    (Lm := fun v s₂ => ∃ a more, v = .ref a ∧ Ext prog w (fun b => b = 121) C s s₂ ∧ s₂.heap.get? 121 = some (tabObj more) ∧ KeptAt prog w (hd.heap_39 P) mb C (n + 19) s₂ a (inW (sgOf σ) 8) (kp2P (modsOf F) σ) H)
    (kst_of rfl) (by rfl) (ev_global S rfl rfl) (S.base.frag _ _ ho95) hd95 ?_ O ?_ ?_ ?_ ?_
  · intro s₁ e₁ Q E hQ
    refine ev_lambda (c := 123) (P := 121) (S.ext e₁) glob1 (free_of rfl) (by rfl) rfl (by rfl) (e₁.keepAt h121 (fun q => q) hC) trivial rfl (by decide) (by decide) fun a c' ctv pm s₂ e₂ ha hc' hobj hcr htab => hQ _ _ ⟨a, _, rfl, e₁.ofNo.trans e₂, htab, ?_⟩
    have S₂ := (S.ext e₁).extZ e₂ (fun a h => h ▸ hX) hloc hcell
    have R₂ := (R.ext e₁ (fun _ q => q.elim)).ext e₂ (fun a h => h ▸ hX)
    have LA := lam_at (ρf := [("reader", .val (.ref x)), ("sign", .str σ)]) S₂ O.ap hobj hcr rfl rfl rfl rfl fun x p hx => by
      rw [List.lookup_cons] at hx
      split at hx
      · rename_i hb
        have := beq_iff_eq.mp hb; subst this
        cases hx
        exact ⟨rfl, rfl, rfl, .inl rfl⟩
      · rw [List.lookup_cons] at hx
        split at hx
        · rename_i hb
          have := beq_iff_eq.mp hb; subst this
          cases hx
          exact ⟨rfl, rfl, rfl, .inl rfl⟩
        · cases hx
    obtain ⟨hlt, o, ho, hd⟩ := LA.at_
    refine ⟨⟨o, _, ho, hd, hlt⟩, fun u X' A' env'' ρ' s' v hu S' e' r => ?_⟩
    have LA' := LA.ext e' (fun b h => h)
    have RA := (rd1_at F R₂).ext e' (fun b h => h)
    refine call_lam (names := ["word"]) (ps := [.str u]) S' LA' e'.size (.cons r .nil) rfl (fun x hx => by rw [List.mem_singleton.mp hx]; rfl) (by rfl) fun L' s'' X'' e'' hXX S'' => ?_
    have RA2 := RA.ext e'' (fun _ q => q.elim)
    refine Do.mono (ev_cmpR (X := X'') (p := .int (nmR (modsOf F) [] (some "f") (turnedP u σ))) (H := H u) (ev_names S'' RA2 (Nat.le_trans e'.size e''.size) (ev_v S'' rfl rfl) (evs_cons ev_cstr (evs_cons (ev_tu F S'' (ev_global S'' rfl rfl) (evs_cons (ev_v S'' rfl rfl) (evs_cons (ev_v S'' rfl rfl) evs_nil)) hu) evs_nil)) (fn := some "f") (F.tn u hu).1 (fun i ⟨u', _, hm, hi⟩ => hi) (.inr ⟨⟨u, hu, rfl, rfl⟩, rfl⟩)) (fun _ _ h e => h.ext e (fun q => q)) ev_cint fun a b s' e ra rb => op_eq_int ra rb) fun v s3 e3 r => ⟨r.1.imm rfl, r.2⟩
  · rintro v s₂ ⟨a, c', rfl, e₂, htab, hk⟩
    exact ⟨S.extZ e₂ (fun a h => h ▸ hX) hloc hcell, e₂.keepD (S.base.frag _ _ ho95) (by decide) (by rw [hd95]; first | exact fun _ _ h => by cases h | exact fun _ h => by cases h | nofun)⟩
  · rintro v s₂ ⟨a, c', rfl, e₂, htab, hk⟩
    have S₂ := S.extZ e₂ (fun a h => h ▸ hX) hloc hcell
    exact evs_cons (ev_binop (ev_v S₂ rfl rfl) ev_cstr fun a b s' e ra rb => op_add_str ra rb (by rw [F.hσ]; decide)) (evs_cons (ev_call_builtin (ev_builtin S₂ rfl rfl (by decide) rfl) (evs_cons (ev_v S₂ rfl rfl) evs_nil) fun vs s' e r => c_len_str r (len_sz (Nat.le_trans F.ht (by decide)))) evs_nil)
  · rintro v vs s₂ s₃ ⟨a, c', rfl, e₂, htab, hk⟩ e₃ rs
    have S₂ := S.extZ e₂ (fun a h => h ▸ hX) hloc hcell
    have R₂ := R.ext e₂ (fun a h => h ▸ hX)
    have hcl := (rd1_at F R₂).rdr.lt
    have := kept_spec (n := n + 15) hk (S₂.ext e₃) e₃ (.cons (.val _) rs) (sg_len F) F.ht (fun u Z s s' hZ hh e => hh.ext e fun q => Nat.lt_irrefl _ (Nat.lt_of_lt_of_le hcl (hZ _ q)))
    have hthr : grW (kp2P (modsOf F) σ) (sgOf σ) (t.length + 1) = F.found := F.thr
    rw [hthr] at this
    refine this.mono fun v s₄ e₄ r => ⟨r.1, fun u hu => ?_⟩
    refine Mine.el1b (grW_cons (kp := kp2P (modsOf F) σ) (sg := sgOf σ) (t.length + 1)) fun l hl hall => ?_
    rw [hthr] at hl
    rw [hl] at hu
    refine Mine.el0b (hall u hu) fun h1 h2 => ?_
    have h0 := r.2 u h1
    have hz : nmR (modsOf F) [] (some "f") (turnedP u σ) = 0 := beq_iff_eq.mp h2
    show Has prog w s₄.heap c (turnedP u σ) 0
    rw [← hz]; exact h0
  · rintro v s₂ s₃ s₄ ⟨a, c', rfl, e₂, htab, hk⟩ e₃ hR e₄ S₄
    have hst : ∀ a, StX (fEnv la.1.1 124 L) "through" a → FrO (fEnv la.1.1 124 L) a := stX_frO
    have R₃ := (R.ext e₂ (fun a h => h ▸ hX)).ext e₃ (fun _ q => q.elim)
    have hcX : ¬ X c := by
      obtain ⟨ms, ds, dx, mA, o, h1, h2, h3, h4, h5, h6, h7, a1, a2, a3, a4, h8, h9, h10, h11, h12, n1, n2, n3, n4, n5⟩ := R
      exact n5
    exact k s₄ _ ((e₂.mono fun a h => .inr h).trans (e₃.ofNo.trans (e₄.mono fun a h => .inl (hst a h)))) S₄ (e₄.keepAt (e₃.keepAt htab (fun q => q) hC) (fun q => hFr (hst _ q)) hC) (R₃.ext e₄ fun a h => O.own a (hst a h)) fun u hu => (hR u hu).ext e₄ fun q => hcX (O.own _ (hst _ q))
end Mine
end
section
open PySem PySem.W PySem.Calls PyProof.Rows
set_option Elab.async false
set_option maxRecDepth 100000
set_option linter.unusedVariables false
namespace Mine
variable {prog : Program} {w : World} {K : Frag} {mb : Str → Option Value} {X Y : Addr → Prop} {C : Mem} {s s' s'' : Shared} {A : Around} {env : Env} {ρ : List (Str × PV)} {n : Nat} {P : Params} {Q : Flow → Shared → Prop} {E : Value → Shared → Prop} {L : Addr}
/-- if test: return False, the test false -/
theorem x_pass {test : Expr} {body rest : List Stmt} {pos : Pos} (ht : Ts prog w C A env test false s) (k : ∀ s', Ext prog w noX C s s' → wpAny (model prog w) A (execs rest env) Q E s') :
    wpAny (model prog w) A (execs (.If test body [] pos :: rest) env) Q E s := by
  refine x_if ht fun s' e => ?_
  show wpAny _ _ (execs (if false = true then _ else _) env) _ _ _
  rw [if_neg (by decide)]
  exact x_nil (k s' e)
theorem rep_flat (k : Nat) (x : Str) : (List.replicate k [PV.str x]).flatten = (List.replicate k x).map .str := by
  induction k with
  | zero => rfl
  | succ k ih => rw [List.replicate_succ, List.flatten_cons, ih, List.replicate_succ]; rfl
set_option maxHeartbeats 1000000 in
/-- the first two tests -/
theorem b6 {σ t : Str} {x c : Addr} (F : Facts1 σ t) (S : Sit prog w (hd.heap_39 P) mb (n + 20) C X A (fEnv la.1.1 124 L) [("through", .list (F.found.map .str)), ("reader", .val (.ref x)), ("lacking", .list (F.lacking.map .str)), ("found", .list (F.found.map .str)), ("sign", .str σ), ("text", .str t)] s) (O : Own X (fEnv la.1.1 124 L))
    (R : RdX prog w C X s.heap x c (modsOf F) [] (Pm1 F)) (hH : ∀ u ∈ F.found.drop 1, Has prog w s.heap c (turnedP u σ) 0)
    (k : ∀ s', Ext prog w noX C s s' → wpAny (model prog w) A (execs (la.1.2.drop 9) (fEnv la.1.1 124 L)) Q E s') :
    wpAny (model prog w) A (execs (la.1.2.drop 7) (fEnv la.1.1 124 L)) Q E s := by
  have hu : A.units < cLine := Nat.lt_of_le_of_lt (Nat.le_add_right _ _) S.rm.units
  have hfl : (F.found.map PV.str).length ≤ sizeLine := by rw [List.length_map]; exact Nat.le_trans (found_len F) (by decide)
  refine Mine.el1a F.last fun l hl => ?_
  have hne : F.found.map PV.str ≠ [] := by rw [hl]; simp
  have hlast : (F.found.map PV.str).getLast hne = .str t := by simp [hl]
  have hpos : 0 < (F.found.map PV.str).length := List.length_pos_iff.mpr hne
  refine x_pass (ts_eq (ts_or2 (ts_cmp (ev_v S rfl rfl) (ev_v S rfl rfl) fun a b s' e ra rb => op_ne_list hu imm_strs imm_strs ra rb) fun _ => ts_cmp (ev_item_neg (p := .str t) (ev_v S rfl rfl) (ev_neg ev_cint) (by decide) (by omega) (by rw [← hlast]; exact last_idx _ hne) hfl) (ev_v S rfl rfl) fun a b s' e ra rb => op_ne_str ra rb) (by rw [eqIs_str, decide_eq_true rfl, decide_eq_true rfl]; rfl)) fun s₂ e₂ => ?_
  have S₂ := S.ext e₂
  have R₂ := R.ext e₂ (fun _ q => q.elim)
  have RA := rd1_at F R₂
  have hdr : pick (F.found.map PV.str) (some 1) none none = (F.found.drop 1).map .str := by
    rw [show (1 : Int) = ((1 : Nat) : Int) from rfl, pick_from, List.map_drop]
  have hdl : (F.found.drop 1).length ≤ 256 := by rw [List.length_drop]; have := found_len F; omega
  have hsl : ∀ {p1 p2 p3 p4 p5 : Pos} {k1 : Nat}, Ev prog w C X A (fEnv la.1.1 124 L) (.Subscript (.Name "through" p1) (.Slice (some (.Constant (.int 1) k1 p2)) none none p3) p4) (.list ((F.found.drop 1).map .str)) s₂ := fun {p1 p2 p3 p4 p5 k1} => ev_eq (ev_slice_list S₂.bd (ev_v S₂ rfl rfl) (evp_some (X := X) ev_cint) evp_none evp_none (by decide) hfl) (by (refine Mine.rwl hdr ?_; try with_reducible rfl))
  refine x_pass (ts_eq (ts_cmp (p := .list ((List.replicate (F.found.drop 1).length ("0" : Str)).map .str)) (q := .list ((List.replicate (F.found.drop 1).length ("0" : Str)).map .str))
    (ev_eq (ev_lc (ps := (F.found.drop 1).map .str) S₂ O.ap rfl (evi_list S₂ (hsl (p5 := default))) (fun _ => true) (fun p => .str "0") (.inl rfl) (by rw [List.length_map]; exact Nat.le_trans hdl (by decide)) (by intro v; exact rfl) ?_) ?_)
    (ev_eq (ev_binop (ev_list S₂.bd (evs_cons ev_cstr evs_nil) (show 1 ≤ sizeLine by decide)) (ev_call_builtin (ev_builtin S₂ rfl rfl (by decide) rfl) (evs_cons (hsl (p5 := default)) evs_nil) fun vs s' e r => c_len_list r (by rw [List.length_map]; exact Nat.le_trans hdl (by decide))) fun a b s' e ra rb => op_mul_list (S₂.ext e).bd ra rb (by rw [List.length_map]; exact Nat.le_trans hdl (by decide)) (show 1 ≤ 1000 by decide)) (by rw [List.length_map, rep_flat]))
    fun a b s' e ra rb => op_ne_list hu imm_strs imm_strs ra rb) (by rw [eqIs_str, decide_eq_true rfl]; rfl)) fun s₃ e₃ => k s₃ (e₂.trans e₃)
  · intro L' cells X'' p s' hp S' ce e'
    (refine Mine.el1b (List.mem_map.mp hp) fun u hum hq1 => ?_; obtain rfl := hq1)
    have huf : u ∈ F.found := List.mem_of_mem_drop hum
    have huw : inW (sgOf σ) 8 u := inW_mono (found_in F huf) (by decide)
    have hcX : ¬ (s₂.heap.objs.size ≤ c) := fun q => Nat.lt_irrefl _ (Nat.lt_of_lt_of_le RA.rdr.lt q)
    refine ⟨tests_nil, fun _ => ev_eq (ev_call_type (ev_builtin S' rfl rfl (by decide) rfl) (evs_cons (p := .int 0) (Do.mono (ev_names S' (RA.ext e' fun a h => h) e'.size (ev_free S' ce rfl rfl) (evs_cons ev_cnone (evs_cons (ev_tu F S' (ev_global S' rfl rfl) (evs_cons (ev_loc S' rfl rfl) (evs_cons (ev_free S' ce rfl rfl) evs_nil)) huw) evs_nil)) (fn := none) (F.tn u huw).1 ?_ (.inl ((((hH u hum).ext e₂ (fun q => q)).ext e' hcX)))) fun v s'' e r => r.1) evs_nil) fun vs s'' e r => c_str_int r (.inl rfl)) (by rfl)⟩
    rintro i ⟨u', _, hm, hi⟩
    refine Mine.el1b (grW_cons (kp := kp2P (modsOf F) σ) (sg := sgOf σ) (t.length + 1)) fun l' hl' hall => ?_
    have hthr : grW (kp2P (modsOf F) σ) (sgOf σ) (t.length + 1) = F.found := F.thr
    rw [hthr] at hl'
    rw [hl'] at hum
    rw [hi]
    exact beq_iff_eq.mp (hall u hum).2
  · rw [List.filter_eq_self.mpr (by simp), List.map_map]
    congr 1
    rw [List.map_replicate, List.eq_replicate_iff]
    exact ⟨by simp, fun b hb => by (refine Mine.el1b (List.mem_map.mp hb) fun _ _ hq2 => ?_; obtain rfl := hq2); rfl⟩
end Mine
end
section
open PySem PySem.W PySem.Calls PyProof.Rows
set_option Elab.async false
set_option maxRecDepth 100000
set_option linter.unusedVariables false
namespace Mine
variable {prog : Program} {w : World} {K : Frag} {mb : Str → Option Value} {X Y : Addr → Prop} {C : Mem} {s s' s'' : Shared} {A : Around} {env : Env} {ρ : List (Str × PV)} {n : Nat} {P : Params} {Q : Flow → Shared → Prop} {E : Value → Shared → Prop} {L : Addr}
theorem ts_cmpD {l r : Expr} {op : CmpOp} {pos : Pos} {p : PV} {b : Bool} {R : Value → Shared → Prop} (h1 : Ev prog w C X A env l p s) (h2 : Do prog w C A (eval r env) R s)
    (hop : ∀ a b' s', Ext prog w noX C s s' → Rep X s'.heap a p → R b' s' → DoV prog w C X A (compareOp op a b') (.bool b) s') (hm : autoParam (behindInMarks op r = false) Mine.autoR) : Ts prog w C A env (.Compare l [op] [r] pos) b s := by
  intro s₁ e₁ Q E k
  refine wpAny_isTrue_Compare1 (h1 s₁ e₁ _ _ fun a s₂ e₂ ra => h2 s₂ (e₁.trans e₂) _ _ fun b s₃ e₃ rb => ?_) hm
  refine hop a b s₃ (e₁.trans (e₂.trans e₃)) (ra.ext e₃.ofNo) rb s₃ .refl _ _ fun v s₄ e₄ rv => ?_
  refine Mine.Rep.elB rv fun _ => ?_
  exact wpAny_truthy_bool (k _ s₄ (e₂.trans (e₃.trans e₄)) rfl)
/-- a comprehension within one -/
noncomputable def nestB (scope2 scope : Scope) : Bool := scope2.kind == .function && decide (scope2.names.map (·.1)).Nodup && scope2.names.all fun q => q.2 != .free || (scope.names.lookup q.1 == some .free || scope.names.lookup q.1 == some .cell)
theorem nest_ok {scope2 scope : Scope} {cells : List (Str × Addr)} {L : Addr} {X₀ : Addr → Prop} {lo : Nat} (ce : CE scope cells L env Y X₀ lo) (h : nestB scope2 scope = true) : scopeOkB scope2 (compEnvC scope cells L env) = true := by
  unfold nestB at h
  unfold scopeOkB
  simp only [Bool.and_eq_true] at h ⊢
  refine ⟨h.1, List.all_eq_true.mpr fun q hq => ?_⟩
  have := List.all_eq_true.mp h.2 q hq
  simp only [Bool.or_eq_true] at this ⊢
  rcases this with h | h
  · exact .inl h
  · right
    have hk : (compEnvC scope cells L env).kindOf q.1 = (relabel scope env).names.lookup q.1 := rfl
    rcases h with h | h
    · have hm := mem_of_lookup' (beq_iff_eq.mp h)
      have hc : (compEnvC scope cells L env).cells.lookup q.1 = cells.lookup q.1 := rfl
      rw [hc, ce.fr _ hm, hk, lookup_relabel, beq_iff_eq.mp h]
      simp only [Option.map_some]
      split <;> rfl
    · have hm := mem_of_lookup' (beq_iff_eq.mp h)
      have hc : (compEnvC scope cells L env).cells.lookup q.1 = cells.lookup q.1 := rfl
      rw [hc, ce.ch _ hm, hk, lookup_relabel, beq_iff_eq.mp h]
      rfl
/-- a comprehension's own name that an inner one keeps -/
theorem ev_own {scope : Scope} {cells : List (Str × Addr)} {L : Addr} {X₀ : Addr → Prop} {lo : Nat} {x : Str} {pos : Pos} {p : PV} (S : Sit prog w K mb n C X A (compEnvC scope cells L env) ρ s) (ce : CE scope cells L env Y X₀ lo) (hx : ρ.lookup x = some p) (hs : scope.names.lookup x = some .cell)
    (hd : autoParam ((x == ("__debug__" : Str)) = false) Mine.autoD) (hn : autoParam ((x == ("__classdict__" : Str)) = false) Mine.autoD) : Ev prog w C X A (compEnvC scope cells L env) (.Name x pos) p s := by
  have hk : (compEnvC scope cells L env).kindOf x = some .cell := by
    show (relabel scope env).names.lookup x = _
    rw [lookup_relabel, hs]; rfl
  exact ev_var S hx (.inr ⟨.inl hk, ce.ch _ (mem_of_lookup' hs)⟩) hd hn
noncomputable def filesOf {σ t : Str} (F : Facts1 σ t) : List Str := F.lacking.map (fileP σ)
set_option maxHeartbeats 2000000 in
/-- files, leads and their test -/
theorem b7 {σ t : Str} (F : Facts1 σ t) (S : Sit prog w (hd.heap_39 P) mb (n + 20) C X A (fEnv la.1.1 124 L) [("lacking", .list (F.lacking.map .str)), ("found", .list (F.found.map .str)), ("sign", .str σ), ("text", .str t)] s) (O : Own X (fEnv la.1.1 124 L))
    (k : ∀ s' d, Ext prog w (FrO (fEnv la.1.1 124 L)) C s s' → Sit prog w (hd.heap_39 P) mb (n + 20) C X A (fEnv la.1.1 124 L) [("leads", .val (.ref d)), ("lacking", .list (F.lacking.map .str)), ("found", .list (F.found.map .str)), ("sign", .str σ), ("text", .str t)] s' →
      DictL prog w X s'.heap d F.found (fun u => .list ((leadsP (F.dOf u) (filesOf F)).map .bool)) → C d = none → ¬ X d → wpAny (model prog w) A (execs (la.1.2.drop 12) (fEnv la.1.1 124 L)) Q E s') :
    wpAny (model prog w) A (execs (la.1.2.drop 9) (fEnv la.1.1 124 L)) Q E s := by
  have hu : A.units < cLine := Nat.lt_of_le_of_lt (Nat.le_add_right _ _) S.rm.units
  have hu1 : A.in1.units < cLine := Nat.lt_of_le_of_lt (Nat.add_le_add_left (by decide : 1 ≤ 100) _) S.rm.units
  refine Mine.el1b ((pa.2 P).at_) fun o100 ho100 hd100 => ?_
  refine Mine.el1b ((le.2 P).at_) fun o112 ho112 hd112 => ?_
  have hll : F.lacking.length ≤ 512 := lack_len F
  have hfo := found_len F
  refine x_assign (p := .list ((filesOf F).map .str)) S O (kst_of rfl) (ev_eq (ev_lc (ps := F.lacking.map .str) S O.ap rfl (evi_list S (ev_v S rfl rfl)) (fun _ => true) (onS fun x => .str (fileP σ x)) (.inl rfl) (by rw [List.length_map]; exact Nat.le_trans hll (by decide)) (by intro v; exact rfl) ?_) ?_) rfl fun s₂ e₂ S₂ => ?_
  · intro L' cells X'' p s' hp S' ce e'
    (refine Mine.el1b (List.mem_map.mp hp) fun u hu hq2 => ?_; obtain rfl := hq2)
    have hul : u.length ≤ 8 := (lack_in F hu).1
    have hpl : (partsP u σ).length ≤ 8 := by simp only [partsP, List.length_map]; exact hul
    refine ⟨tests_nil, fun _ => ev_method ev_cstr (evs_cons (ev_eq (ev_binop (ev_binop (ev_list S'.bd (evs_cons ev_cstr evs_nil) (show 1 ≤ sizeLine by decide)) (ev_call_fn (ev_global S' rfl rfl) (evs_cons (ev_loc S' rfl rfl) (evs_cons (ev_free S' ce rfl rfl) evs_nil)) (S'.base.frag _ _ ho100) hd100 fun vs s' e r => pa_spec (S'.ext e) r (Nat.le_trans hul (by decide)) (by rw [F.hσ]; decide)) fun a b s' e ra rb => op_add_list (S'.ext e).bd ra rb ?_) (ev_list S'.bd (evs_cons ev_cstr evs_nil) (show 1 ≤ sizeLine by decide)) fun a b s' e ra rb => op_add_list (S'.ext e).bd ra rb ?_) ?_) evs_nil) (m_join (F.jf u hu))⟩
    · rw [List.length_map]; exact Nat.le_trans (Nat.add_le_add (show 1 ≤ 1 by decide) hpl) (by decide)
    · rw [List.length_append, List.length_map]; exact Nat.le_trans (Nat.add_le_add (Nat.add_le_add (show 1 ≤ 1 by decide) hpl) (show 1 ≤ 1 by decide)) (by decide)
    · rw [List.map_cons, List.map_append]; rfl
  · rw [List.filter_eq_self.mpr (fun _ _ => rfl)]
    rw [map_onS]; unfold filesOf; rw [List.map_map]; rfl
  have hfl : (filesOf F).length ≤ 512 := by unfold filesOf; rw [List.length_map]; exact hll
  refine x_assignR (R := fun p s' => ∃ d, p = .val (.ref d) ∧ s₂.heap.objs.size ≤ d ∧ DictL prog w X s'.heap d F.found fun u => .list ((leadsP (F.dOf u) (filesOf F)).map .bool)) S₂ O (kst_of rfl) ?_ rfl fun p s₃ s₄ e₃ hR e₄ S₄ => ?_
  · refine Do.mono (ev_dictcomp (f := fun u => .list ((leadsP (F.dOf u) (filesOf F)).map .bool)) S₂ O.ap rfl (evi_list S₂ (ev_v S₂ rfl rfl)) (fun _ _ => True) (.inl rfl) F.nd (Nat.le_trans hfo (by decide)) (by intro v; exact rfl) (fun _ _ _ _ _ _ _ => trivial) trivial ?_) fun v sb eb ⟨d, hv, hlo, D, _⟩ => ⟨_, by rw [hv]; exact .val _, d, rfl, hlo, D⟩
    intro L' cells X'' i u s' hu S' ce e' _
    have huf : u ∈ F.found := List.mem_of_getElem? hu
    have hul : u.length ≤ 7 := (found_in F huf).1
    refine ⟨ev_loc S' rfl rfl, fun s'' e'' S'' _ => Do.mono (ev_call_fn (ev_global S'' rfl rfl) (evs_cons (ev_loc S'' rfl rfl) (evs_cons (ev_free S'' ce rfl rfl) (evs_cons (ev_free S'' ce rfl rfl) evs_nil))) (S''.base.frag _ _ ho112) hd112 fun vs s' e r => le_spec (n := n + 12) (d := F.dOf u) (S''.ext e) r (Nat.le_trans hul (by decide)) (by rw [F.hσ]; decide) (F.jp u huf) (F.dOk u huf).1 (Nat.le_trans hfl (by decide)) ?_ (F.dOk u huf).2) fun v s3 e3 r => ⟨r, trivial⟩⟩
    intro f hf
    (refine Mine.el1b (List.mem_map.mp hf) fun l hl hq3 => ?_; obtain rfl := hq3)
    exact F.fn l hl
  · (refine Mine.el1c hR fun d hq4 hlo D => ?_; try clear hR; obtain rfl := hq4)
    have hXd : ¬ X d := fun q => Nat.lt_irrefl _ (Nat.lt_of_lt_of_le (S₂.bd _ q) hlo)
    have hCd : C d = none := co_new S₂ hlo
    have hst : ∀ a, StX (fEnv la.1.1 124 L) "leads" a → X a := fun a h => O.own a (stX_frO a h)
    have D₄ := D.ext e₄ hst (fun q => hXd (hst _ q)) hCd
    have hnosys : ∀ {q : Addr}, s₂.heap.objs.size ≤ q → (q == sysModules) = false := fun {q} h => by
      refine Mine.el1b S₂.base.bm fun ob hob _ => ?_
      rw [beq_eq_false_iff_ne]
      exact Nat.ne_of_gt (Nat.lt_of_lt_of_le (Nat.lt_of_le_of_lt (by decide : 1 ≤ 4) (Heap.lt_size hob)) h)
    have e₂₄ : Ext prog w (FrO (fEnv la.1.1 124 L)) C s s₄ := e₂.trans (e₃.ofNo.trans (e₄.mono stX_frO))
    refine x_pass (ts_eq (ts_cmpD (b := !(F.found.all fun u => decide (leadsP (F.dOf u) (filesOf F) = F.lacking.map (F.em2 u)))) (R := fun v s' => ∃ d2, v = .ref d2 ∧ s₄.heap.objs.size ≤ d2 ∧ DictL prog w X s'.heap d2 F.found fun u => .list ((F.lacking.map (F.em2 u)).map .bool)) (ev_v S₄ rfl rfl)
      (Do.mono (ev_dictcomp (f := fun u => .list ((F.lacking.map (F.em2 u)).map .bool)) S₄ O.ap rfl (evi_list S₄ (ev_v S₄ rfl rfl)) (fun _ _ => True) (.inr rfl) F.nd (Nat.le_trans hfo (by decide)) (by intro v; exact rfl) (fun _ _ _ _ _ _ _ => trivial) trivial ?_) fun v sb eb ⟨d2, hv, hlo2, D2, _⟩ => ⟨d2, hv, hlo2, D2⟩)
      fun a b s' e ra ⟨d2, hb, hlo2, D2⟩ => ?_) ?_) fun s₅ e₅ => ?_
    · intro L' cells X'' i u s' hu S' ce e' _
      have huf : u ∈ F.found := List.mem_of_getElem? hu
      have hul : u.length ≤ 7 := (found_in F huf).1
      refine ⟨ev_own S' ce rfl rfl, fun s'' e'' S'' _ => Do.mono (ev_eq (ev_lc (ps := F.lacking.map .str) S'' ce.ap (nest_ok ce rfl) (evi_list S'' (ev_free S'' ce rfl rfl)) (fun _ => true) (onS fun x => .bool (F.em2 u x)) (.inl rfl) (by rw [List.length_map]; exact Nat.le_trans hll (by decide)) (by intro v; rfl) ?_) ?_) fun v s3 e3 r => ⟨r, trivial⟩⟩
      · intro L2 cells2 X3 p s3 hp S3 ce3 e3
        (refine Mine.el1b (List.mem_map.mp hp) fun l hl hq5 => ?_; obtain rfl := hq5)
        exact ⟨tests_nil, fun _ => ev_em S3 (ev_global S3 rfl rfl) (evs_cons (ev_binop (ev_free S3 ce3 rfl rfl) ev_cstr fun a b s' e ra rb => op_add_str ra rb (Nat.le_trans (Nat.add_le_add hul (show (3 : Nat) ≤ 3 by decide)) (by decide))) (evs_cons (ev_loc S3 rfl rfl) evs_nil)) (F.em2Ok u huf l hl)⟩
      · rw [List.filter_eq_self.mpr (fun _ _ => rfl), List.map_map, List.map_map]; rfl
    · subst hb
      exact op_ne_dict hu1 hu F.nd (hnosys hlo) (hnosys (Nat.le_trans (Nat.le_trans e₃.size e₄.size) hlo2)) hCd (co_new S₄ hlo2) (D₄.ext e (fun _ q => q.elim) (fun q => q) hCd) D2 ra (.val _)
    · have hall : (F.found.all fun u => decide (leadsP (F.dOf u) (filesOf F) = F.lacking.map (F.em2 u))) = true := List.all_eq_true.mpr fun u hu => decide_eq_true (F.leads u hu)
      rw [hall]; rfl
    · exact k s₅ d (e₂₄.trans e₅.ofNo) ((S₄.ext e₅).sub (sub_cons rfl (sub_cons rfl (sub_cons rfl (sub_cons rfl (sub_cons rfl sub_nil)))))) (D₄.ext e₅ (fun _ q => q.elim) (fun q => q) hCd) hCd hXd
end Mine
end
section
open PySem PySem.W PySem.Calls PyProof.Rows
set_option Elab.async false
set_option maxRecDepth 100000
set_option linter.unusedVariables false
namespace Mine
variable {prog : Program} {w : World} {K : Frag} {mb : Str → Option Value} {X Y : Addr → Prop} {C : Mem} {s s' s'' : Shared} {A : Around} {env : Env} {ρ : List (Str × PV)} {n : Nat} {P : Params} {Q : Flow → Shared → Prop} {E : Value → Shared → Prop} {L : Addr}
noncomputable def lapsP (lacking : List Str) : List Str := lacking.flatMap fun l => [if decide (l.length < 3) then "True" else "False", if decide (l.length < 3) then "True" else "False"]
noncomputable def lapPV : PV → PV → PV
  | .str l, _ => .str (if decide (l.length < 3) then "True" else "False")
  | _, _ => .none
theorem lap_flat : ∀ l : List Str, ((l.map PV.str).flatMap fun p => ((fun _ => [PV.str "", PV.str "..."]) p |>.filter fun _ => true).map (lapPV p)) = (lapsP l).map .str
  | [] => rfl
  | a :: l => by
    have ih := lap_flat l
    unfold lapsP at ih ⊢
    rw [List.map_cons, List.flatMap_cons, List.flatMap_cons, List.map_append, ih]
    rfl
theorem laps_len (l : List Str) : (lapsP l).length = 2 * l.length := by
  unfold lapsP
  induction l with
  | nil => rfl
  | cons a l ih => rw [List.flatMap_cons, List.length_append, ih, List.length_cons]; simp; omega
theorem DictL.comp {X'' : Addr → Prop} {d : Addr} {ks : List Str} {f : Str → PV} (D : DictL prog w X s.heap d ks f) (hn : ∀ a, X'' a → X a ∨ s.heap.objs.size ≤ a) (e : Ext prog w (fun a => s.heap.objs.size ≤ a) C s s') (hC : C d = none) : DictL prog w X'' s'.heap d ks f := by
  (refine Mine.el1c D fun kvs h1 h2 h3 => ?_; try clear D)
  have hlt : d < s.heap.objs.size := by refine Mine.el1b (Heap.dictOf_iff.mp h1) fun o ho _ => ?_; exact Heap.lt_size ho
  refine ⟨kvs, dictOf_ext h1 e (fun q => Nat.lt_irrefl _ (Nat.lt_of_lt_of_le hlt q)) hC, h2, ?_⟩
  have h4 : Reps (fun a => X'' a ∨ s.heap.objs.size ≤ a) s.heap (kvs.map (·.2)) (ks.map f) := h3.monoX fun a h => h.elim (hn a) .inr
  exact (h4.ext (e.mono fun a h => .inr h)).ofSub fun a h => .inl h
set_option maxHeartbeats 2000000 in
/-- laps and their test -/
theorem b8 {σ t : Str} {vd : PV} (F : Facts1 σ t) (S : Sit prog w (hd.heap_39 P) mb (n + 20) C X A (fEnv la.1.1 124 L) [("leads", vd), ("lacking", .list (F.lacking.map .str)), ("found", .list (F.found.map .str)), ("sign", .str σ), ("text", .str t)] s) (O : Own X (fEnv la.1.1 124 L))
    (k : ∀ s', Ext prog w (FrO (fEnv la.1.1 124 L)) C s s' → Sit prog w (hd.heap_39 P) mb (n + 20) C X A (fEnv la.1.1 124 L) [("leads", vd), ("found", .list (F.found.map .str)), ("sign", .str σ), ("text", .str t)] s' → wpAny (model prog w) A (execs (la.1.2.drop 14) (fEnv la.1.1 124 L)) Q E s') :
    wpAny (model prog w) A (execs (la.1.2.drop 12) (fEnv la.1.1 124 L)) Q E s := by
  have hu : A.units < cLine := Nat.lt_of_le_of_lt (Nat.le_add_right _ _) S.rm.units
  have hll : F.lacking.length ≤ 512 := lack_len F
  have hsz : ((F.lacking.map PV.str).flatMap fun p => ((fun _ => [PV.str "", PV.str "..."]) p |>.filter fun _ => true).map (lapPV p)).length ≤ sizeLine := by
    rw [lap_flat, List.length_map, laps_len]
    exact Nat.le_trans (Nat.mul_le_mul_left 2 hll) (by decide)
  refine x_assign_comp (res := (lapsP F.lacking).map .str) (J := fun _ => True) S O (kst_of rfl) ((spec_lc2 (ps := F.lacking.map .str) S O.ap rfl (evi_list S (ev_v S rfl rfl)) (fun _ => [.str "", .str "..."]) (fun _ _ => true) lapPV (.inl rfl) (.inl rfl) rfl hsz (by intro v; exact rfl) (by intro cells L v; exact rfl) ?_ ?_).mono fun a L s' r => r.eq (lap_flat _) id) rfl (fun _ _ _ _ _ _ => trivial) fun s₂ e₂ S₂ _ => ?_
  · intro L' cells X'' p s' hp S' ce
    exact evi_list S' (ev_list S'.bd (evs_cons ev_cstr (evs_cons ev_cstr evs_nil)) (show 2 ≤ sizeLine by decide))
  · intro L' cells X'' p q s' hp hq S' ce e'
    (refine Mine.el1b (List.mem_map.mp hp) fun u hum hq1 => ?_; obtain rfl := hq1)
    have hul : u.length ≤ 8 := (lack_in F hum).1
    obtain ⟨dots, hdm, rfl⟩ : ∃ dots, dots ∈ (["", "..."] : List Str) ∧ PV.str dots = q := by
      simp only [List.mem_cons, List.not_mem_nil, or_false] at hq
      rcases hq with rfl | rfl
      · exact ⟨_, .head _, rfl⟩
      · exact ⟨_, .tail _ (.head _), rfl⟩
    have hdl : dots.length ≤ 3 := by
      simp only [List.mem_cons, List.not_mem_nil, or_false] at hdm
      rcases hdm with rfl | rfl
      · exact Nat.zero_le _
      · exact Nat.le_refl _
    have h1 := spick_len u none (some (-1))
    have h2 := spick_len u (some 1) none
    have h3 : ("..." : Str).length = 3 := rfl
    have hus : u.length ≤ sizeLine := Nat.le_trans hul (by decide)
    refine ⟨tests_nil, fun _ => ev_call_type (ev_builtin S' rfl rfl (by decide) rfl) (evs_cons (ev_em S' (ev_global S' rfl rfl) (evs_cons (ev_binop (ev_binop (ev_binop (ev_binop (ev_loc S' rfl rfl) (ev_slice_str (ev_loc S' rfl rfl) evp_none (evp_some (X := X'') (ev_neg ev_cint)) evp_none rfl hus) fun a b s' e ra rb => op_add_str ra rb ?_) ev_cstr fun a b s' e ra rb => op_add_str ra rb ?_) (ev_slice_str (ev_loc S' rfl rfl) (evp_some (X := X'') ev_cint) evp_none evp_none rfl hus) fun a b s' e ra rb => op_add_str ra rb ?_) (ev_loc S' rfl rfl) fun a b s' e ra rb => op_add_str ra rb ?_) (evs_cons (ev_loc S' rfl rfl) evs_nil)) (F.laps u hum dots hdm)) evs_nil) fun vs s' e r => c_str_bool r⟩
    all_goals
      refine Nat.le_trans ?_ (by decide : 1000 ≤ sizeLine)
      (try simp only [str_len_app, h3])
      omega
  refine x_pass (ts_eq (ts_cmp (p := .list ((lapsP F.lacking).map .str)) (q := .list ((lapsP F.lacking).map .str)) (ev_v S₂ rfl rfl)
    (ev_eq (ev_plain (spec_lc2 (ps := F.lacking.map .str) S₂ O.ap rfl (evi_list S₂ (ev_v S₂ rfl rfl)) (fun _ => [.str "", .str "..."]) (fun _ _ => true) lapPV (.inl rfl) (.inl rfl) rfl hsz (by intro v; exact rfl) (by intro cells L v; exact rfl) ?_ ?_)) (by rw [lap_flat]))
    fun a b s' e ra rb => op_ne_list hu imm_strs imm_strs ra rb) (by rw [eqIs_str, decide_eq_true rfl]; rfl)) fun s₃ e₃ => k s₃ (e₂.trans e₃.ofNo) ((S₂.ext e₃).sub (sub_cons rfl (sub_cons rfl (sub_cons rfl (sub_cons rfl sub_nil)))))
  · intro L' cells X'' p s' hp S' ce
    exact evi_list S' (ev_list S'.bd (evs_cons ev_cstr (evs_cons ev_cstr evs_nil)) (show 2 ≤ sizeLine by decide))
  · intro L' cells X'' p q s' hp hq S' ce e'
    (refine Mine.el1b (List.mem_map.mp hp) fun u hum hq2 => ?_; obtain rfl := hq2)
    have hul : u.length ≤ 8 := (lack_in F hum).1
    refine ⟨tests_nil, fun _ => ev_call_type (ev_builtin S' rfl rfl (by decide) rfl) (evs_cons (p := .bool (decide (u.length < 3))) (ev_eq (ev_cmp (ev_call_builtin (ev_builtin S' rfl rfl (by decide) rfl) (evs_cons (ev_loc S' rfl rfl) evs_nil) fun vs s' e r => c_len_str r (Nat.le_trans hul (by decide))) ev_cint fun a b s' e ra rb => op_lt_int ra rb) ?_) evs_nil) fun vs s' e r => c_str_bool r⟩
    congr 1
    apply decide_eq_decide.mpr
    omega
noncomputable def Pm2 {σ t : Str} (F : Facts1 σ t) (m : Str) (i : Int) : Prop := ∃ u ∈ F.found, m = turnedP u σ ∧ i = if F.begins.contains u then 1 else 0
set_option maxHeartbeats 2000000 in
/-- begins, keeper -/
theorem b9 {σ t : Str} {d : Addr} (F : Facts1 σ t) (S : Sit prog w (hd.heap_39 P) mb (n + 20) C X A (fEnv la.1.1 124 L) [("leads", .val (.ref d)), ("found", .list (F.found.map .str)), ("sign", .str σ), ("text", .str t)] s) (O : Own X (fEnv la.1.1 124 L))
    (D : DictL prog w X s.heap d F.found (fun u => .list ((leadsP (F.dOf u) (filesOf F)).map .bool))) (hCd : C d = none)
    (k : ∀ s' x c, Ext prog w (FrO (fEnv la.1.1 124 L)) C s s' → s.heap.objs.size ≤ c → Sit prog w (hd.heap_39 P) mb (n + 20) (setC C c (Pm2 F)) X A (fEnv la.1.1 124 L) [("keeper", .val (.ref x)), ("begins", .list (F.begins.map .str)), ("found", .list (F.found.map .str)), ("sign", .str σ), ("text", .str t)] s' → RdX prog w (setC C c (Pm2 F)) X s'.heap x c [] [] (Pm2 F) →
      wpAny (model prog w) A (execs (la.1.2.drop 16) (fEnv la.1.1 124 L)) Q E s') :
    wpAny (model prog w) A (execs (la.1.2.drop 14) (fEnv la.1.1 124 L)) Q E s := by
  have hfo := found_len F
  refine x_assign (p := .list (F.begins.map .str)) S O (kst_of rfl) (ev_eq (ev_lc (ps := F.found.map .str) S O.ap rfl (evi_list S (ev_v S rfl rfl)) (onB fun u => (leadsP (F.dOf u) (filesOf F)).contains true) id (.inl rfl) (by rw [List.length_map]; exact Nat.le_trans hfo (by decide)) (by intro v; exact rfl) ?_) ?_) rfl fun s₂ e₂ S₂ => ?_
  · intro L' cells X'' p s' hp S' ce e'
    (refine Mine.el1b (List.mem_map.mp hp) fun u hum hq3 => ?_; obtain rfl := hq3)
    refine ⟨tests_one (ts_eq (ts_cmp (q := .list ((leadsP (F.dOf u) (filesOf F)).map .bool)) (ev_cbool (b := true)) (ev_dsub (f := fun u => .list ((leadsP (F.dOf u) (filesOf F)).map .bool)) (ev_free S' ce rfl rfl) (ev_loc S' rfl rfl) (D.comp ce.nw e' hCd) hCd F.nd hum) fun a b s' e ra rb => op_in_list imm_bools rfl ra rb) any_bools), fun _ => ev_loc S' rfl rfl⟩
  · congr 1
    rw [List.map_id, ← F.hbegins]
    unfold beginsP
    rw [List.filter_map]
    rfl
  refine x_assignR (R := fun p s' => ∃ x c, p = .val (.ref x) ∧ RNew prog w C X s'.heap s₂.heap.objs.size x c [] []) S₂ O (kst_of rfl) ?_ (by rfl) fun p s₃ s₄ e₃ hR e₄ S₄ => ?_
  · refine ev_call_cls S₂ (ev_global S₂ rfl rfl) evs_nil (by rfl) fun vs s' e r => ?_
    obtain ⟨_, rfl⟩ := r.inv
    refine Do.mono (mk_spec (om := none) (od := none) (nf := id) (vm := .none) (vd := .none) (S₂.ext e) (.inl ⟨rfl, rfl, rfl⟩) .none .none (by decide) (by decide) (fun d' hd' => by cases hd')) fun v sb eb ⟨x, c, hv, hR⟩ => ⟨_, by rw [hv]; exact .val _, x, c, rfl, hR.mono e.size fun a h => h⟩
  · (refine Mine.el2b hR fun x c hq5 hq6 => ?_; clear hR; revert hq6; intro hR; obtain rfl := hq5)
    have hR₄ := hR.ext e₄ fun a h => O.own a (stX_frO a h)
    have hloc : (fEnv la.1.1 124 L).locals < s₂.heap.objs.size := by refine Mine.el1b S₂.fm.ns fun m hn _ => ?_; exact hn.lt
    have hc : s₂.heap.objs.size ≤ c := by
      obtain ⟨ms, ds, dx, mA, o, _, _, _, _, _, _, _, _, _, _, _, _, _, _, _, _, _, l1, _⟩ := hR₄
      exact l1
    exact k s₄ x c (e₂.trans (e₃.ofNo.trans (e₄.mono stX_frO))) (Nat.le_trans e₂.size hc) ((S₄.reader (s₀ := s₂) hR₄ S₂.base (Nat.le_refl _) hloc).sub (sub_cons rfl (sub_cons rfl (sub_cons rfl (sub_cons rfl (sub_cons rfl sub_nil)))))) hR₄.rdx
end Mine
end
section
open PySem PySem.W PySem.Calls PyProof.Rows
set_option Elab.async false
set_option maxRecDepth 100000
set_option linter.unusedVariables false
namespace Mine
variable {prog : Program} {w : World} {K : Frag} {mb : Str → Option Value} {X Y : Addr → Prop} {C : Mem} {s s' s'' : Shared} {A : Around} {env : Env} {ρ : List (Str × PV)} {n : Nat} {P : Params} {Q : Flow → Shared → Prop} {E : Value → Shared → Prop} {L : Addr}
theorem ev_call_type1R {func e : Expr} {pos : Pos} {T : String} {p : PV} {H : Shared → Prop} {R : Value → Shared → Prop} (hf : Ev prog w C X A env func (.val (.type T)) s) (h : Do prog w C A (eval e env) (fun v s => Rep X s.heap v p ∧ H s) s) (hH : ∀ s s', H s → Ext prog w noX C s s' → H s')
    (hc : ∀ v s', Ext prog w noX C s s' → Rep X s'.heap v p → Do prog w C A (call (.type T) [v]) R s')
    (hst : autoParam (starEach [e] env = [(false, eval e env)]) Mine.autoR)
    (he : autoParam (eval (.Call func [e] [] pos) env = (do callWith pos (← eval func env) [] (backTo pos (starEach [e] env)) (backToKw pos (keywordEach [] env)))) Mine.autoR) : Do prog w C A (eval (.Call func [e] [] pos) env) (fun v s => R v s ∧ H s) s := by
  intro s₁ e₁ Q E k
  refine Call_ (hf s₁ e₁ _ _ fun f s₂ e₂ r => ?_) he
  refine Mine.Rep.elV r fun _ => ?_
  show wpAny _ _ (callWith pos (.type T) [] (backTo pos (starEach [e] env)) []) _ _ _
  rw [hst]
  show wpAny _ _ (callWith pos (.type T) [] [(false, eval e env)] []) _ _ _
  refine PySem.callWith_type rfl (evalArgs_plain (spliced_cons (h s₂ (e₁.trans e₂) _ _ fun v s₃ e₃ r => spliced_nil ?_)))
  exact hc v s₃ (e₁.trans (e₂.trans e₃)) r.1 s₃ .refl _ _ fun v' s₄ e₄ r' => k v' s₄ (e₂.trans (e₃.trans e₄)) ⟨r', hH _ _ r.2 e₄⟩
noncomputable def tellS {σ t : Str} (F : Facts1 σ t) (u : Str) : Str := if F.begins.contains u then "1" else "0"
noncomputable def tellI {σ t : Str} (F : Facts1 σ t) (u : Str) : Int := if F.begins.contains u then 1 else 0
theorem tell_str {σ t : Str} (F : Facts1 σ t) (u : Str) : (toString (tellI F u) : Str) = tellS F u := by
  unfold tellI tellS
  cases F.begins.contains u <;> rfl
noncomputable def toldP {σ t : Str} (F : Facts1 σ t) : List Str := F.found.map (tellS F) ++ F.found.map (tellS F)
noncomputable def tellPV {σ t : Str} (F : Facts1 σ t) : PV → List PV
  | .str u => [.str (tellS F u)]
  | _ => []
theorem told_row {σ t : Str} (F : Facts1 σ t) : ∀ l : List Str, (l.map PV.str).flatMap (tellPV F) = (l.map (tellS F)).map .str
  | [] => rfl
  | a :: l => by rw [List.map_cons, List.flatMap_cons, told_row F l]; rfl
theorem told_flat {σ t : Str} (F : Facts1 σ t) : (([PV.bool true, .bool false] : List PV).zipIdx.flatMap fun q => (F.found.map PV.str).zipIdx.flatMap fun r => tellPV F r.1) = (toldP F).map .str := by
  rw [flat2 (ps2 := fun _ => F.found.map PV.str) (g := fun _ q => tellPV F q)]
  simp only [List.flatMap_cons, List.flatMap_nil, List.append_nil]
  rw [told_row, ← List.map_append]; rfl
theorem told_flat2 {σ t : Str} (F : Facts1 σ t) : (([PV.bool true, .bool false] : List PV).flatMap fun p => ((fun _ => F.found.map PV.str) p |>.filter fun _ => true).map (fun q => match q with | .str u => PV.str (tellS F u) | _ => .none)) = (toldP F).map .str := by
  simp only [List.flatMap_cons, List.flatMap_nil, List.append_nil]
  rw [List.filter_eq_self.mpr (by simp), List.map_map]
  unfold toldP
  rw [List.map_append, List.map_map]
  rfl
set_option maxHeartbeats 4000000 in
/-- told and its test -/
theorem b10 {σ t : Str} {x c : Addr} (F : Facts1 σ t) (S : Sit prog w (hd.heap_39 P) mb (n + 20) C X A (fEnv la.1.1 124 L) [("keeper", .val (.ref x)), ("begins", .list (F.begins.map .str)), ("found", .list (F.found.map .str)), ("sign", .str σ), ("text", .str t)] s) (O : Own X (fEnv la.1.1 124 L))
    (R : RdX prog w C X s.heap x c [] [] (Pm2 F))
    (k : ∀ s', Ext prog w (FrO (fEnv la.1.1 124 L)) C s s' → Sit prog w (hd.heap_39 P) mb (n + 20) C X A (fEnv la.1.1 124 L) [("begins", .list (F.begins.map .str)), ("found", .list (F.found.map .str)), ("sign", .str σ), ("text", .str t)] s' → wpAny (model prog w) A (execs (la.1.2.drop 18) (fEnv la.1.1 124 L)) Q E s') :
    wpAny (model prog w) A (execs (la.1.2.drop 16) (fEnv la.1.1 124 L)) Q E s := by
  have hu : A.units < cLine := Nat.lt_of_le_of_lt (Nat.le_add_right _ _) S.rm.units
  have hfo := found_len F
  have hbg : F.begins.length ≤ 256 := by rw [← F.hbegins]; exact Nat.le_trans (List.length_filter_le _ _) hfo
  have RA : RdAt prog w C s.heap s.heap.objs.size x c [] [] (Pm2 F) (F.found.map fun u => turnedP u σ) := R.at (fun m i ⟨u, hu, hm, _⟩ => List.mem_map.mpr ⟨u, hu, hm.symm⟩) (by rw [List.length_map]; exact Nat.le_trans hfo (by decide)) (fun y hy => by cases hy) (fun y hy => by cases hy)
  have hclt := RA.rdr.lt
  have htl : (toldP F).length ≤ 512 := by unfold toldP; rw [List.length_append, List.length_map]; omega
  refine x_assign_comp (res := (toldP F).map .str) (J := fun _ => True) S O (kst_of rfl) ((spec_list2 (ps := [.bool true, .bool false]) S O.ap rfl (evi_list S (ev_list S.bd (evs_cons ev_cbool (evs_cons ev_cbool evs_nil)) (show 2 ≤ sizeLine by decide)))
    (fun i j s' => (∀ k u, F.found[k]? = some u → (1 ≤ i ∨ k < j) → Has prog w s'.heap c (turnedP u σ) (tellI F u)) ∧ Ext prog w (fun a => s.heap.objs.size ≤ a) C s s') (fun _ _ => F.found.map .str) ?_ (fun _ _ _ q => tellPV F q) (.inl rfl) (.inl rfl) rfl (by intro v; rfl) (by intro cells L v; rfl) (by rw [told_flat, List.length_map]; exact Nat.le_trans htl (by decide)) ?_ ⟨fun k u _ h => absurd h (by omega), .refl⟩ ?_ ?_).mono fun a L s' r => r.eq (told_flat F) fun _ => trivial) rfl (fun _ _ _ _ _ _ => trivial) fun s₂ e₂ S₂ _ => ?_
  · rintro i p s' hp ⟨h1, h2⟩
    refine ⟨fun k u hk _ => h1 k u hk (.inr ?_), h2⟩
    rw [List.length_map]
    exact (List.getElem?_eq_some_iff.mp hk).1
  · rintro i Z j sa sb hz ⟨h1, h2⟩ e
    exact ⟨fun k u hk h => (h1 k u hk h).ext e fun q => Nat.lt_irrefl _ (Nat.lt_of_lt_of_le hclt (hz _ q)), h2.trans (e.mono hz)⟩
  · intro L' cells X'' i p s' hp S' ce
    exact evi_list S' (ev_free S' ce rfl rfl)
  · rintro L' cells X'' i p j q s' hp hq S' ce ⟨hj, hEs⟩
    obtain ⟨u, hum, rfl⟩ : ∃ y, F.found[j]? = some y ∧ PV.str y = q := by rw [List.getElem?_map] at hq; exact Option.map_eq_some_iff.mp hq
    have huf : u ∈ F.found := List.mem_of_getElem? hum
    have huw : inW (sgOf σ) 8 u := inW_mono (found_in F huf) (by decide)
    obtain ⟨first, rfl, hfi⟩ : ∃ first, p = .bool first ∧ (first = true ∨ 1 ≤ i) := by
      match i, hp with
      | 0, hp => simp at hp; exact ⟨true, hp.symm, .inl rfl⟩
      | 1, hp => simp at hp; exact ⟨false, hp.symm, .inr (Nat.le_refl _)⟩
      | i + 2, hp => simp at hp
    refine ⟨true, fun _ => True, tests_triv tests_nil, (fun q => nomatch q), fun _ => ⟨.str (tellS F u), rfl, fun s'' e'' _ hj' => ?_⟩⟩
    have S'' := S'.ext e''
    have RA'' := (RA.ext hEs (fun a h => h)).ext e'' (fun _ q => q.elim)
    have hb := Nat.le_trans hEs.size e''.size
    refine Do.mono (ev_call_type1R (X := X'') (p := .int (tellI F u)) (H := fun s3 => Has prog w s3.heap c (turnedP u σ) (tellI F u)) (R := fun v s3 => Rep X'' s3.heap v (.str (tellS F u))) (ev_builtin S'' rfl rfl (by decide) rfl)
      (ev_names S'' RA'' hb (ev_free S'' ce rfl rfl) (evs_cons (ev_ifexp (b := (F.begins.contains u == first)) (p := fnPV (if F.begins.contains u == first then none else some "f")) (ts_cmp (ev_eq (ev_cmp (ev_loc S'' rfl rfl) (ev_free S'' ce rfl rfl) fun a b s' e ra rb => op_in_list imm_strs rfl ra rb) (by (refine Mine.rwl any_strs ?_; try with_reducible rfl))) (ev_loc S'' rfl rfl) fun a b s' e ra rb => op_eq_bool ra rb) (fun hb => ?_) (fun hb => ?_)) (evs_cons (ev_tu F S'' (ev_global S'' rfl rfl) (evs_cons (ev_loc S'' rfl rfl) (evs_cons (ev_free S'' ce rfl rfl) evs_nil)) huw) evs_nil)) (fn := if F.begins.contains u == first then none else some "f") (F.tn u huw).1 ?_ ?_)
      (fun _ _ h e => h.ext e (fun q => q)) (fun v s3 e3 r => ?_)) fun v s4 e4 r => ⟨r.1, fun k2 u2 hk2 hlt => ?_, hj'.2.trans e4.ofNo⟩
    · rw [hb, if_pos rfl]; exact ev_cnone
    · rw [hb, if_neg (by decide)]; exact ev_cstr
    · rintro i' ⟨u', hu', hm, hi⟩
      have := F.tinj u huf u' hu' hm
      subst this; exact hi
    · rcases hfi with rfl | h1
      · refine .inr ⟨⟨u, huf, rfl, rfl⟩, ?_⟩
        unfold tellI
        cases F.begins.contains u <;> rfl
      · exact .inl (hj'.1 j u hum (.inl h1))
    · rw [← tell_str]
      refine c_str_int (.cons r .nil) ?_
      unfold tellI
      cases F.begins.contains u
      · exact .inl rfl
      · exact .inr rfl
    · rcases Nat.lt_or_ge i 1 with hi | hi
      · have hlt' : k2 < j + 1 := hlt.resolve_left (by omega)
        rcases Nat.lt_succ_iff_lt_or_eq.mp hlt' with h | h
        · exact (hj'.1 k2 u2 hk2 (.inr h)).ext e4 (fun q => q)
        · subst h
          rw [hum] at hk2; cases hk2
          exact r.2
      · exact (hj'.1 k2 u2 hk2 (.inl hi)).ext e4 (fun q => q)
  refine x_pass (ts_eq (ts_cmp (p := .list ((toldP F).map .str)) (q := .list ((toldP F).map .str)) (ev_v S₂ rfl rfl)
    (ev_eq (ev_plain (spec_lc2 (ps := [.bool true, .bool false]) S₂ O.ap rfl (evi_list S₂ (ev_list S₂.bd (evs_cons ev_cbool (evs_cons ev_cbool evs_nil)) (show 2 ≤ sizeLine by decide))) (fun _ => F.found.map .str) (fun _ _ => true) (fun _ q => match q with | .str u => .str (tellS F u) | _ => .none) (.inl rfl) (.inl rfl) rfl (by rw [told_flat2, List.length_map]; exact Nat.le_trans htl (by decide)) (by intro v; rfl) (by intro cells L v; rfl) ?_ ?_)) (by rw [told_flat2]))
    fun a b s' e ra rb => op_ne_list hu imm_strs imm_strs ra rb) (by rw [eqIs_str, decide_eq_true rfl]; rfl)) fun s₃ e₃ => k s₃ (e₂.trans e₃.ofNo) ((S₂.ext e₃).sub (sub_cons rfl (sub_cons rfl (sub_cons rfl (sub_cons rfl sub_nil)))))
  · intro L' cells X'' p s' hp S' ce
    exact evi_list S' (ev_free S' ce rfl rfl)
  · intro L' cells X'' p q s' hp hq S' ce e'
    (refine Mine.el1b (List.mem_map.mp hq) fun u hum hq2 => ?_; obtain rfl := hq2)
    refine ⟨tests_nil, fun _ => ev_ifexp (b := F.begins.contains u) (ts_eq (ts_cmp (ev_loc S' rfl rfl) (ev_free S' ce rfl rfl) fun a b s' e ra rb => op_in_list imm_strs rfl ra rb) (by (refine Mine.rwl any_strs ?_; try with_reducible rfl))) (fun hb => ?_) fun hb => ?_⟩
    · show Ev _ _ _ _ _ _ _ (.str (tellS F u)) _
      unfold tellS; rw [if_pos hb]; exact ev_cstr
    · show Ev _ _ _ _ _ _ _ (.str (tellS F u)) _
      unfold tellS; rw [if_neg (by rw [hb]; decide)]; exact ev_cstr
end Mine
end
section
open PySem PySem.W PySem.Calls PyProof.Rows
set_option Elab.async false
set_option maxRecDepth 100000
set_option linter.unusedVariables false
namespace Mine
variable {prog : Program} {w : World} {K : Frag} {mb : Str → Option Value} {X Y : Addr → Prop} {C : Mem} {s s' s'' : Shared} {A : Around} {env : Env} {ρ : List (Str × PV)} {n : Nat} {P : Params} {Q : Flow → Shared → Prop} {E : Value → Shared → Prop} {L : Addr}
set_option maxHeartbeats 2000000 in
/-- stands, goes -/
theorem b11 {σ t : Str} (F : Facts1 σ t) (S : Sit prog w (hd.heap_39 P) mb (n + 20) C X A (fEnv la.1.1 124 L) [("begins", .list (F.begins.map .str)), ("found", .list (F.found.map .str)), ("sign", .str σ), ("text", .str t)] s) (O : Own X (fEnv la.1.1 124 L))
    (k : ∀ s' d, Ext prog w (FrO (fEnv la.1.1 124 L)) C s s' → Sit prog w (hd.heap_39 P) mb (n + 20) C X A (fEnv la.1.1 124 L) [("goes", .val (.ref d)), ("begins", .list (F.begins.map .str)), ("found", .list (F.found.map .str)), ("sign", .str σ), ("text", .str t)] s' →
      DictL prog w X s'.heap d F.found (fun u => .list ((goesP F.found u).map .str)) → C d = none → ¬ X d → wpAny (model prog w) A (execs (la.1.2.drop 20) (fEnv la.1.1 124 L)) Q E s') :
    wpAny (model prog w) A (execs (la.1.2.drop 18) (fEnv la.1.1 124 L)) Q E s := by
  have hfo := found_len F
  refine x_assignR (R := fun p s' => ∃ a, p = .val (.ref a) ∧ s.heap.objs.size ≤ a ∧ SetW prog w s'.heap a F.found) S O (kst_of rfl) ?_ (by rfl) fun p s₂ s₃ e₂ hR e₃ S₃ => ?_
  · exact ev_call_type (ev_builtin S rfl rfl (by decide) rfl) (evs_cons (ev_v S rfl rfl) evs_nil) fun vs s' e r => Do.mono (do_set1 S.rm.h r (Nat.le_trans hfo (by decide))) fun v sb eb ⟨a, h1, h2, h3⟩ => ⟨_, by rw [h1]; exact .val _, a, rfl, Nat.le_trans e.size h2, h3⟩
  (refine Mine.el1c hR fun a hq1 hla hS => ?_; try clear hR; obtain rfl := hq1)
  have hst : ∀ {y : Str} b, StX (fEnv la.1.1 124 L) y b → X b := fun b h => O.own b (stX_frO b h)
  have hXa : ¬ X a := fun q => Nat.lt_irrefl _ (Nat.lt_of_lt_of_le (S.bd _ q) hla)
  have hS₃ := hS.ext e₃ fun q => hXa (hst _ q)
  have halt : a < s₃.heap.objs.size := by (refine Mine.el3b hS₃ fun es ep t hq2 _ => ?_; try clear hS₃; obtain ⟨o, ho, _⟩ := hq2); exact Heap.lt_size ho
  have e₁₃ : Ext prog w (FrO (fEnv la.1.1 124 L)) C s s₃ := e₂.ofNo.trans (e₃.mono stX_frO)
  refine x_assignR (R := fun p s' => ∃ d, p = .val (.ref d) ∧ s₃.heap.objs.size ≤ d ∧ DictL prog w X s'.heap d F.found fun u => .list ((goesP F.found u).map .str)) S₃ O (kst_of rfl) ?_ rfl fun p s₄ s₅ e₄ hR e₅ S₅ => ?_
  · refine Do.mono (ev_dictcomp (f := fun u => .list ((goesP F.found u).map .str)) S₃ O.ap rfl (evi_list S₃ (ev_v S₃ rfl rfl)) (fun _ _ => True) (.inr rfl) F.nd (Nat.le_trans hfo (by decide)) (by intro v; exact rfl) (fun _ _ _ _ _ _ _ => trivial) trivial ?_) fun v sb eb ⟨d, hv, hlo, D, _⟩ => ⟨_, by rw [hv]; exact .val _, d, rfl, hlo, D⟩
    intro L' cells X'' i u s' hu S' ce e' _
    have huf : u ∈ F.found := List.mem_of_getElem? hu
    have hul : u.length ≤ 7 := (found_in F huf).1
    have hS' := hS₃.ext e' fun q => Nat.lt_irrefl _ (Nat.lt_of_lt_of_le halt q)
    refine ⟨ev_own S' ce rfl rfl, fun s'' e'' S'' _ => Do.mono (ev_eq (ev_lc (ps := F.found.map .str) S'' ce.ap (nest_ok ce rfl) (evi_list S'' (ev_free S'' ce rfl rfl)) (onB fun m => decide (u ++ m ∈ F.found)) id (.inl rfl) (by rw [List.length_map]; exact Nat.le_trans hfo (by decide)) (by intro v; rfl) ?_) ?_) fun v s3 e3 r => ⟨r, trivial⟩⟩
    · intro L2 cells2 X3 p s3 hp S3 ce3 e3
      (refine Mine.el1b (List.mem_map.mp hp) fun m hm hq3 => ?_; obtain rfl := hq3)
      have hml : m.length ≤ 7 := (found_in F hm).1
      have hlt'' : a < s''.heap.objs.size := Nat.lt_of_lt_of_le halt (Nat.le_trans e'.size e''.size)
      have hS3 := (hS'.ext e'' (fun q => q)).ext e3 fun q => Nat.lt_irrefl _ (Nat.lt_of_lt_of_le hlt'' q)
      exact ⟨tests_one (ts_cmp (ev_binop (ev_free S3 ce3 rfl rfl) (ev_loc S3 rfl rfl) fun a b s' e ra rb => op_add_str ra rb (Nat.le_trans (Nat.add_le_add hul hml) (by decide))) (ev_free S3 ce3 rfl rfl) fun a b s' e ra rb => op_in_set (hS3.ext e (fun q => q)) ra rb), fun _ => ev_loc S3 rfl rfl⟩
    · congr 1
      rw [List.map_id, List.filter_map]
      unfold goesP
      congr 1
      exact List.filter_congr fun m _ => (List.contains_eq_mem _ _).symm
  · (refine Mine.el1c hR fun d hq4 hlo D => ?_; try clear hR; obtain rfl := hq4)
    have hXd : ¬ X d := fun q => Nat.lt_irrefl _ (Nat.lt_of_lt_of_le (S₃.bd _ q) hlo)
    have hCd : C d = none := co_new S₃ hlo
    exact k s₅ d (e₁₃.trans (e₄.ofNo.trans (e₅.mono stX_frO))) (S₅.sub (sub_cons rfl (sub_cons rfl (sub_cons rfl (sub_cons rfl (sub_cons rfl sub_nil)))))) (D.ext e₅ hst (fun q => hXd (hst _ q)) hCd) hCd hXd
theorem DictL.monoX {h : Heap} {d : Addr} {ks : List Str} {f : Str → PV} (D : DictL prog w X h d ks f) (hY : ∀ a, Y a → X a ∨ h.objs.size ≤ a) : DictL prog w Y h d ks f := by
  (refine Mine.el1c D fun kvs h1 h2 h3 => ?_; try clear D)
  exact ⟨kvs, h1, h2, h3.monoX hY⟩
theorem DictL.lt {h : Heap} {d : Addr} {ks : List Str} {f : Str → PV} (D : DictL prog w X h d ks f) : d < h.objs.size := by
  (refine Mine.el1b D fun kvs h1 _ => ?_; try clear D)
  refine Mine.el1b (Heap.dictOf_iff.mp h1) fun o ho _ => ?_
  exact Heap.lt_size ho
set_option maxHeartbeats 2000000 in
/-- the last loop -/
theorem b12 {σ t : Str} {d : Addr} (F : Facts1 σ t) (S : Sit prog w (hd.heap_39 P) mb (n + 20) C X A (fEnv la.1.1 124 L) [("goes", .val (.ref d)), ("begins", .list (F.begins.map .str)), ("found", .list (F.found.map .str)), ("sign", .str σ), ("text", .str t)] s) (O : Own X (fEnv la.1.1 124 L))
    (D : DictL prog w X s.heap d F.found (fun u => .list ((goesP F.found u).map .str))) (hCd : C d = none) (hXd : ¬ X d)
    (k : ∀ v s', Ext prog w (FrO (fEnv la.1.1 124 L)) C s s' → Rep X s'.heap v (.bool true) → Q (.ret v) s') :
    wpAny (model prog w) A (execs (la.1.2.drop 20) (fEnv la.1.1 124 L)) Q E s := by
  have hu : A.units < cLine := Nat.lt_of_le_of_lt (Nat.le_add_right _ _) S.rm.units
  have hfo := found_len F
  have hbsub : ∀ b ∈ F.begins, b ∈ F.found := fun b hb => by rw [← F.hbegins] at hb; exact (List.mem_filter.mp hb).1
  have hbg : F.begins.length ≤ 256 := by rw [← F.hbegins]; exact Nat.le_trans (List.length_filter_le _ _) hfo
  refine Mine.el1b ((lo.2 P).at_) fun o119 ho119 hd119 => ?_
  let Y : Addr → Prop := fun a => X a ∨ s.heap.objs.size ≤ a
  have hdlt := D.lt
  have hYd : ∀ Z : Addr → Prop, (∀ a, Z a → FrO (fEnv la.1.1 124 L) a ∨ s.heap.objs.size ≤ a) → ¬ Z d := fun Z hZ q => (hZ _ q).elim (fun q => hXd (O.own _ q)) fun q => Nat.lt_irrefl _ (Nat.lt_of_lt_of_le hdlt q)
  refine x_for (Z := FrO (fEnv la.1.1 124 L)) S (evi_list S (ev_v S rfl rfl)) O (kst_of rfl) (by intro v; rfl) (fun _ h => h) O.own
    (fun _ => [("goes", .val (.ref d)), ("begins", .list (F.begins.map .str)), ("found", .list (F.found.map .str))])
    (fun _ _ s' => DictL prog w Y s'.heap d F.found (fun u => .list ((goesP F.found u).map .str))) ?_ (sub_cons rfl (sub_cons rfl (sub_cons rfl sub_nil))) (fun _ _ _ => D.monoX fun a h => h) ?_ ?_
  · intro X' i sa sb Z hX' hZ hD e
    exact hD.ext e (fun a h => (hZ a h).2.imp (O.own a) id) (hYd Z fun a h => (hZ a h).2) hCd
  · intro Xb i p sb hp hXb Ob eb Sb0 hD
    obtain ⟨u, hum, rfl⟩ : ∃ y, F.found[i]? = some y ∧ PV.str y = p := by rw [List.getElem?_map] at hp; exact Option.map_eq_some_iff.mp hp
    have huf : u ∈ F.found := List.mem_of_getElem? hum
    refine Mine.el1b (F.fin u huf) fun z hz1 hz2 => ?_
    have Sb := Sb0.ofSub hXb
    have DX : DictL prog w X sb.heap d F.found (fun u => .list ((goesP F.found u).map .str)) := hD.ofSub fun a h => .inl h
    refine x_pass (ts_eq (ts_cmp (p := .list ([z].map .str)) (q := .list ([z].map .str))
      (ev_eq (ev_lc (ps := F.begins.map .str) Sb O.ap rfl (evi_list Sb (ev_v Sb rfl rfl)) (onB fun b => decide (goesP F.found b = goesP F.found u)) id (.inl rfl) (by rw [List.length_map]; exact Nat.le_trans hbg (by decide)) (by intro v; exact rfl) ?_) ?_)
      (ev_eq (ev_list Sb.bd (evs_cons (ev_call_fn (ev_global Sb rfl rfl) (evs_cons (ev_v Sb rfl rfl) (evs_cons (ev_v Sb rfl rfl) evs_nil)) (Sb.base.frag _ _ ho119) hd119 fun vs s' e r => lo_spec (n := n + 18) (em := fun b => F.em3 b u) (Sb.ext e) r (fun b hb => F.em3Ok b hb u huf) (Nat.le_trans hbg (by decide)) fun b hb => Nat.le_trans (found_in F (hbsub b hb)).1 (by decide)) evs_nil) (show 1 ≤ sizeLine by decide)) (by rw [hz2]; rfl))
      fun a b s' e ra rb => op_ne_list hu imm_strs imm_strs ra rb) (by rw [eqIs_str, decide_eq_true rfl]; rfl)) fun sc ec => x_nil ⟨ec.ofNo, (Sb0.ext ec).sub (sub_tail rfl), hD.ext ec (fun _ q => q.elim) (fun q => q) hCd⟩
    · intro L' cells X'' p s' hp S' ce e'
      (refine Mine.el1b (List.mem_map.mp hp) fun b hb hq5 => ?_; obtain rfl := hq5)
      have hbf := hbsub b hb
      have D' := DX.comp ce.nw e' hCd
      refine ⟨tests_one (ts_eq (ts_cmp (p := .list ((goesP F.found b).map .str)) (q := .list ((goesP F.found u).map .str)) (ev_dsub (f := fun u => .list ((goesP F.found u).map .str)) (ev_free S' ce rfl rfl) (ev_loc S' rfl rfl) D' hCd F.nd hbf) (ev_dsub (f := fun u => .list ((goesP F.found u).map .str)) (ev_free S' ce rfl rfl) (ev_free S' ce rfl rfl) D' hCd F.nd huf) fun a b s' e ra rb => op_eq_list hu imm_strs imm_strs ra rb) eqIs_str), fun _ => ev_loc S' rfl rfl⟩
    · congr 1
      rw [List.map_id, List.filter_map, ← hz1]
      rfl
  · intro Xb sb hXb Ob eb Sb hD
    exact x_return (X := X) (C := C) ev_cbool fun v sc ec r => k v sc (eb.trans ec.ofNo) r
set_option maxHeartbeats 2000000 in
theorem law_walk (facts : ∀ ns : List Int, JoinOk "" (textOf ns) = true ∧ Nonempty (Facts1 (sigOf ns) (Txt.join "" (textOf ns)))) (prog : Program) : LawGoal prog := by
  intro w mb s ns l hlen S hr h121 Q E hQ
  (refine Mine.el0b (facts ns) fun hj hq6 => ?_; obtain ⟨F⟩ := hq6)
  have hlt : 121 < s.heap.objs.size := Heap.lt_size h121
  refine call_raw (n := 39) (Z := fun a => a = 121) (vs' := [.ref l]) (ps := [.list (ns.map .int)]) S (la.2 w.params) (.cons hr .nil) rfl (fun Q E hq => by rw [la_bind]; exact wpAny_pure hq) fun L s₁ X' e₁ O hXX hXX2 hlo S₁ => ?_
  k_fold
  have hLs : s.heap.objs.size ≤ L := hlo L (.inl rfl)
  have hFr : ¬ FrO (fEnv la.1.1 124 L) 121 := fun q => Nat.lt_irrefl _ (Nat.lt_of_lt_of_le hlt (hlo _ q))
  have hcell : ∀ x c, (fEnv la.1.1 124 L).cells.lookup x = some c → ¬ c = 121 := fun x c hc q => by
    rcases cells_ge _ _ _ x c hc with h | h
    · rw [(la.2 w.params).closure] at h; cases h
    · rw [q] at h
      exact Nat.lt_irrefl _ (Nat.lt_of_lt_of_le (Nat.lt_of_lt_of_le hlt hLs) (Nat.le_trans (Nat.le_succ _) h))
  have hX : X' 121 := hXX _ rfl
  have h121₁ := e₁.keepAt h121 (fun q => q) rfl
  refine b1 (n := 19) S₁ O hlen hj fun s₂ e₂ S₂ => ?_
  refine b2 F S₂ O hX hFr hcell rfl (e₂.keepAt h121₁ hFr rfl) fun s₃ c' e₃ S₃ h121₃ => ?_
  refine b3 F S₃ O fun s₄ e₄ S₄ => ?_
  refine b4 F S₄ O fun s₅ x c e₅ hc S₅ R₅ => ?_
  have hs₄ : s.heap.objs.size ≤ s₄.heap.objs.size := Nat.le_trans e₁.size (Nat.le_trans e₂.size (Nat.le_trans e₃.size e₄.size))
  have hcn : (121 : Addr) ≠ c := Nat.ne_of_lt (Nat.lt_of_lt_of_le hlt (Nat.le_trans hs₄ hc))
  have hC121 : setC noMem c (Pm1 F) 121 = none := setC_ne hcn
  have h121₅ := e₅.keepAt (e₄.keepAt h121₃ hFr rfl) hFr rfl
  refine b5 F S₅ O R₅ hX hFr hcell hC121 h121₅ fun s₆ more e₆ S₆ h121₆ R₆ hH => ?_
  refine b6 F S₆ O R₆ hH fun s₇ e₇ => ?_
  have S₇ := (S₆.ext e₇).sub (ρ' := [("lacking", .list (F.lacking.map .str)), ("found", .list (F.found.map .str)), ("sign", .str (sigOf ns)), ("text", .str (Txt.join "" (textOf ns)))]) (sub_cons rfl (sub_cons rfl (sub_cons rfl (sub_cons rfl sub_nil))))
  refine b7 F S₇ O fun s₈ d e₈ S₈ D₈ hCd hXd => ?_
  refine b8 F S₈ O fun s₉ e₉ S₉ => ?_
  have D₉ := D₈.ext e₉ O.own (fun q => hXd (O.own _ q)) hCd
  refine b9 F S₉ O D₉ hCd fun sa x2 c2 ea hc2 Sa Ra => ?_
  refine b10 F Sa O Ra fun sb eb Sb => ?_
  refine b11 F Sb O fun sc d2 ec Sc Dc hCd2 hXd2 => ?_
  refine b12 F Sc O Dc hCd2 hXd2 fun v sd ed rv v' hv => ?_
  subst hv
  -- the frames' stores, all in all
  let Z : Addr → Prop := fun b => FrO (fEnv la.1.1 124 L) b ∨ b = 121
  have f1 : Ext prog w Z noMem s₁ s₅ := (e₂.mono fun b h => .inl h).trans (e₃.trans ((e₄.mono fun b h => .inl h).trans (e₅.mono fun b h => .inl h)))
  have f2 : Ext prog w Z (setC noMem c (Pm1 F)) s₅ s₉ := e₆.trans (e₇.ofNo.trans ((e₈.mono fun b h => .inl h).trans (e₉.mono fun b h => .inl h)))
  have f3 : Ext prog w Z (setC noMem c (Pm1 F)) s₉ sa := ea.mono fun b h => .inl h
  have f4 : Ext prog w Z (setC (setC noMem c (Pm1 F)) c2 (Pm2 F)) sa sd := (eb.mono fun b h => .inl h).trans ((ec.mono fun b h => .inl h).trans (ed.mono fun b h => .inl h))
  have hs₁c : s₁.heap.objs.size ≤ c := Nat.le_trans (Nat.le_trans e₂.size (Nat.le_trans e₃.size e₄.size)) hc
  have hs₁c2 : s₁.heap.objs.size ≤ c2 := Nat.le_trans (Nat.le_trans f1.size f2.size) hc2
  have g1 : Ext prog w Z noMem s₁ sa := f1.newC (f2.trans f3) fun a ha => setC_ne (Nat.ne_of_lt (Nat.lt_of_lt_of_le ha hs₁c))
  have g2 : Ext prog w Z noMem s₁ sd := g1.newC f4 fun a ha => by rw [setC_ne (Nat.ne_of_lt (Nat.lt_of_lt_of_le ha hs₁c2)), setC_ne (Nat.ne_of_lt (Nat.lt_of_lt_of_le ha hs₁c))]
  refine ⟨g2, fun e => ?_⟩
  refine Mine.Rep.elB rv fun _ => ?_
  refine hQ sd e ⟨more, ?_⟩
  have f5 : Ext prog w (FrO (fEnv la.1.1 124 L)) (setC noMem c (Pm1 F)) s₆ sa := e₇.ofNo.trans (e₈.trans (e₉.trans ea))
  have f6 : Ext prog w (FrO (fEnv la.1.1 124 L)) (setC (setC noMem c (Pm1 F)) c2 (Pm2 F)) sa sd := eb.trans (ec.trans ed)
  refine f6.keepAt (f5.keepAt h121₆ hFr hC121) hFr ?_
  rw [setC_ne (Nat.ne_of_lt (Nat.lt_of_lt_of_le (Nat.lt_of_lt_of_le hlt e₁.size) hs₁c2))]
  exact hC121
end Mine
end
section
/-! words over an alphabet: what law 1 says of them, in plain lists -/
namespace Mine
namespace W
abbrev Wd := List Nat
noncomputable def stepL (kp : Wd → Bool) (sg : Wd) (lv : List Wd) : List Wd := lv.flatMap fun w => (sg.filter fun c => kp (w ++ [c])).map fun c => w ++ [c]
noncomputable def lvL (kp : Wd → Bool) (sg : Wd) : Nat → List Wd
  | 0 => [[]]
  | i + 1 => stepL kp sg (lvL kp sg i)
noncomputable def grL (kp : Wd → Bool) (sg : Wd) : Nat → List Wd
  | 0 => [[]]
  | i + 1 => grL kp sg i ++ lvL kp sg (i + 1)
noncomputable def lackL (sg : Wd) (found : List Wd) : List Wd := found.flatMap fun w => (sg.filter fun c => !found.contains (w ++ [c]) && found.contains ((w ++ [c]).drop 1)).map fun c => w ++ [c]
noncomputable def longL (em : Wd → Bool) : List Wd → Option Wd
  | [] => none
  | b :: bs => if em b then some b else longL em bs
variable {t sg : Wd}
/-- the words of the text -/
abbrev F (t u : Wd) : Prop := u <:+: t
theorem F.pre {u v : Wd} (h : F t (u ++ v)) : F t u := (List.prefix_append u v).isInfix.trans h
theorem F.suf {u v : Wd} (h : F t (u ++ v)) : F t v := (List.suffix_append u v).isInfix.trans h
theorem F.sufOf {u v : Wd} (h : F t v) (hs : u <:+ v) : F t u := hs.isInfix.trans h
theorem F.nil : F t [] := List.nil_infix
theorem F.let_ {u : Wd} (h : F t u) (hsg : ∀ c ∈ t, c ∈ sg) : ∀ c ∈ u, c ∈ sg := fun c hc => hsg c (h.subset hc)
theorem F.len {u : Wd} (h : F t u) : u.length ≤ t.length := h.length_le
theorem mem_ext {p : Nat → Bool} {w u : Wd} : (u ∈ (sg.filter p).map fun c => w ++ [c]) ↔ ∃ c, c ∈ sg ∧ p c = true ∧ u = w ++ [c] :=
  List.mem_map.trans ⟨fun ⟨c, h, e⟩ => ⟨c, (List.mem_filter.mp h).1, (List.mem_filter.mp h).2, e.symm⟩, fun ⟨c, h1, h2, e⟩ => ⟨c, List.mem_filter.mpr ⟨h1, h2⟩, e.symm⟩⟩
theorem mem_step {kp : Wd → Bool} {lv : List Wd} {u : Wd} : u ∈ stepL kp sg lv ↔ ∃ w ∈ lv, ∃ c ∈ sg, kp (w ++ [c]) = true ∧ u = w ++ [c] :=
  List.mem_flatMap.trans ⟨fun ⟨w, hw, h⟩ => ⟨w, hw, (mem_ext (p := fun c => kp (w ++ [c]))).mp h⟩, fun ⟨w, hw, h⟩ => ⟨w, hw, (mem_ext (p := fun c => kp (w ++ [c]))).mpr h⟩⟩
theorem snoc_of {u : Wd} (h : u ≠ []) : ∃ w c, u = w ++ [c] := ⟨_, _, (List.dropLast_concat_getLast h).symm⟩
theorem snoc_len {u : Wd} {i : Nat} (h : u.length = i + 1) : ∃ w c, u = w ++ [c] ∧ w.length = i :=
  ⟨u.dropLast, u.getLast (fun q => by rw [q] at h; cases h), (List.dropLast_concat_getLast _).symm, by rw [List.length_dropLast, h]; rfl⟩
theorem len_snoc {w : Wd} {c : Nat} : (w ++ [c]).length = w.length + 1 := List.length_append
theorem mem_snoc {w : Wd} {c : Nat} : c ∈ w ++ [c] := List.mem_append_right w (.head _)
theorem mem_lv (hsg : ∀ c ∈ t, c ∈ sg) (i : Nat) : ∀ (u : Wd), u ∈ lvL (fun u => decide (F t u)) sg i ↔ u.length = i ∧ F t u := by
  induction i with
  | zero => exact fun u => List.mem_singleton.trans ⟨fun h => h ▸ ⟨rfl, F.nil⟩, fun h => List.length_eq_zero_iff.mp h.1⟩
  | succ i ih =>
    refine fun u => mem_step.trans ⟨?_, ?_⟩
    · rintro ⟨w, hw, c, hc, hk, rfl⟩
      exact ⟨len_snoc.trans (congrArg (· + 1) ((ih w).mp hw).1), of_decide_eq_true hk⟩
    · rintro ⟨hl, hf⟩
      obtain ⟨w, c, rfl, hw⟩ := snoc_len hl
      exact ⟨w, (ih w).mpr ⟨hw, hf.pre⟩, c, hf.let_ hsg c mem_snoc, decide_eq_true hf, rfl⟩
theorem mem_gr (hsg : ∀ c ∈ t, c ∈ sg) (i : Nat) : ∀ (u : Wd), u ∈ grL (fun u => decide (F t u)) sg i ↔ u.length ≤ i ∧ F t u := by
  induction i with
  | zero => exact fun u => List.mem_singleton.trans ⟨fun h => h ▸ ⟨Nat.le_refl 0, F.nil⟩, fun h => List.length_eq_zero_iff.mp (Nat.le_zero.mp h.1)⟩
  | succ i ih =>
    refine fun u => List.mem_append.trans ⟨fun h => ?_, fun h => ?_⟩
    · exact h.elim (fun h => ⟨Nat.le_succ_of_le ((ih u).mp h).1, ((ih u).mp h).2⟩) fun h => ⟨Nat.le_of_eq ((mem_lv hsg _ u).mp h).1, ((mem_lv hsg _ u).mp h).2⟩
    · exact (Nat.lt_or_eq_of_le h.1).elim (fun q => .inl ((ih u).mpr ⟨Nat.le_of_lt_succ q, h.2⟩)) fun q => .inr ((mem_lv hsg _ u).mpr ⟨q, h.2⟩)
theorem lv_len {kp : Wd → Bool} (i : Nat) : ∀ (u : Wd), u ∈ lvL kp sg i → u.length = i := by
  induction i with
  | zero => exact fun u h => by rw [List.mem_singleton.mp h]; rfl
  | succ i ih =>
    intro u h
    obtain ⟨w, hw, c, _, _, rfl⟩ := mem_step.mp h
    exact len_snoc.trans (congrArg (· + 1) (ih w hw))
theorem step_nodup {kp : Wd → Bool} (hn : sg.Nodup) {lv : List Wd} : lv.Nodup → (stepL kp sg lv).Nodup := by
  intro hl
  unfold stepL
  rw [List.nodup_iff_pairwise_ne] at hl ⊢
  rw [List.pairwise_flatMap]
  refine ⟨fun w _ => ?_, hl.imp fun {a b} hab u hu v hv => ?_⟩
  · rw [List.pairwise_map]
    exact (List.Pairwise.filter _ (List.nodup_iff_pairwise_ne.mp hn)).imp fun {a b} hab h => hab (List.head_eq_of_cons_eq (List.append_cancel_left h))
  · obtain ⟨c, _, rfl⟩ := List.mem_map.mp hu
    obtain ⟨d, _, rfl⟩ := List.mem_map.mp hv
    exact fun h => hab (List.append_inj_left' h rfl)
theorem one_nodup {a : Wd} : [a].Nodup := List.nodup_cons.mpr ⟨List.not_mem_nil, List.nodup_nil⟩
theorem lv_nodup {kp : Wd → Bool} (hn : sg.Nodup) (i : Nat) : (lvL kp sg i).Nodup := by
  induction i with
  | zero => exact one_nodup
  | succ i ih => exact step_nodup hn ih
theorem gr_len {kp : Wd → Bool} (i : Nat) : ∀ (u : Wd), u ∈ grL kp sg i → u.length ≤ i := by
  induction i with
  | zero => exact fun u h => by rw [List.mem_singleton.mp h]; exact Nat.le_refl 0
  | succ i ih => exact fun u h => (List.mem_append.mp h).elim (fun h => Nat.le_succ_of_le (ih u h)) fun h => Nat.le_of_eq (lv_len (i + 1) u h)
theorem gr_nodup {kp : Wd → Bool} (hn : sg.Nodup) (i : Nat) : (grL kp sg i).Nodup := by
  induction i with
  | zero => exact one_nodup
  | succ i ih =>
    refine List.nodup_append.mpr ⟨ih, lv_nodup hn (i + 1), fun a ha b hb hab => ?_⟩
    have h1 := gr_len i a ha
    rw [hab, lv_len (i + 1) b hb] at h1
    exact Nat.not_succ_le_self i h1
/-- shorter words stand ahead -/
theorem gr_sorted {kp : Wd → Bool} (i : Nat) : (grL kp sg i).Pairwise fun a b => a.length ≤ b.length := by
  induction i with
  | zero => exact List.pairwise_singleton _ _
  | succ i ih =>
    refine List.pairwise_append.mpr ⟨ih, ?_, fun a ha b hb => ?_⟩
    · exact List.pairwise_iff_forall_sublist.mpr fun {a b} h => by
        rw [lv_len (i + 1) a (h.subset (.head _)), lv_len (i + 1) b (h.subset (.tail _ (.head _)))]
        exact Nat.le_refl _
    · rw [lv_len (i + 1) b hb]
      exact Nat.le_succ_of_le (gr_len i a ha)
theorem nodup_all {α : Type} {l : List α} {a : α} (hn : l.Nodup) (hm : a ∈ l) (ha : ∀ b ∈ l, b = a) : l = [a] := by
  cases l with
  | nil => cases hm
  | cons b l =>
    cases l with
    | nil => rw [ha b (.head _)]
    | cons c l =>
      rw [List.nodup_cons, ha b (.head _), ha c (.tail _ (.head _))] at hn
      exact absurd (.head _) hn.1
theorem inf_eq {u v : Wd} (h : u <:+: v) (hl : v.length ≤ u.length) : u = v := h.sublist.eq_of_length_le hl
theorem gr_last (hsg : ∀ c ∈ t, c ∈ sg) (hn : sg.Nodup) (ht : t ≠ []) : ∃ l, grL (fun u => decide (F t u)) sg (t.length + 1) = l ++ [t] := by
  have h1 : lvL (fun u => decide (F t u)) sg (t.length + 1) = [] := List.eq_nil_iff_forall_not_mem.mpr fun u hu => by
    have h := (mem_lv hsg _ u).mp hu
    exact Nat.not_succ_le_self _ (h.1 ▸ h.2.len)
  have h2 : lvL (fun u => decide (F t u)) sg t.length = [t] :=
    nodup_all (lv_nodup hn _) ((mem_lv hsg _ t).mpr ⟨rfl, List.infix_refl t⟩) fun u hu => inf_eq ((mem_lv hsg _ u).mp hu).2 (Nat.le_of_eq ((mem_lv hsg _ u).mp hu).1.symm)
  show ∃ l, grL _ sg t.length ++ lvL _ sg (t.length + 1) = _
  rw [h1, List.append_nil]
  cases hm : t.length with
  | zero => exact absurd (List.length_eq_zero_iff.mp hm) ht
  | succ m =>
    rw [hm] at h2
    exact ⟨grL (fun u => decide (F t u)) sg m, congrArg (_ ++ ·) h2⟩
/-! the lacking words -/
section
variable {found : List Wd} (hf : ∀ u, u ∈ found ↔ F t u)
include hf
theorem cont_iff {u : Wd} : found.contains u = true ↔ F t u := List.contains_iff_mem.trans (hf u)
theorem mem_lack {l : Wd} : l ∈ lackL sg found ↔ ∃ w c, l = w ++ [c] ∧ F t w ∧ c ∈ sg ∧ ¬ F t l ∧ F t (l.drop 1) := by
  refine List.mem_flatMap.trans ⟨?_, ?_⟩
  · rintro ⟨w, hw, h⟩
    obtain ⟨c, hc, h1, rfl⟩ := mem_ext.mp h
    have h2 := Bool.and_eq_true_iff.mp h1
    exact ⟨w, c, rfl, (hf w).mp hw, hc, fun q => by rw [(cont_iff hf).mpr q] at h2; exact absurd h2.1 (by decide), (cont_iff hf).mp h2.2⟩
  · rintro ⟨w, c, rfl, hw, hc, h1, h2⟩
    refine ⟨w, (hf w).mpr hw, mem_ext.mpr ⟨c, hc, Bool.and_eq_true_iff.mpr ⟨?_, (cont_iff hf).mpr h2⟩, rfl⟩⟩
    cases hb : found.contains (w ++ [c]) with
    | false => rfl
    | true => exact absurd ((cont_iff hf).mp hb) h1
theorem lack_not {l : Wd} (hl : l ∈ lackL sg found) : ¬ F t l := let ⟨_, _, _, _, _, q, _⟩ := (mem_lack hf).mp hl; q
theorem lack_suf {c : Nat} (hc : c ∈ sg) (w : Wd) : F t w → ¬ F t (w ++ [c]) → ∃ l ∈ lackL sg found, l <:+ w ++ [c] := by
  induction w with
  | nil => exact fun hw hn => ⟨[c], (mem_lack hf).mpr ⟨[], c, rfl, hw, hc, hn, F.nil⟩, List.suffix_refl _⟩
  | cons x w ih =>
    intro hw hn
    by_cases h : F t (w ++ [c])
    · exact ⟨x :: w ++ [c], (mem_lack hf).mpr ⟨x :: w, c, rfl, hw, hc, hn, h⟩, List.suffix_refl _⟩
    · obtain ⟨l, h1, h2⟩ := ih (F.suf (u := [x]) hw) h
      exact ⟨l, h1, h2.trans ⟨[x], rfl⟩⟩
omit hf in
theorem through_step {kp kp' : Wd → Bool} {lv : List Wd} (h : ∀ w ∈ lv, ∀ c ∈ sg, kp (w ++ [c]) = kp' (w ++ [c])) : stepL kp sg lv = stepL kp' sg lv := by
  unfold stepL
  induction lv with
  | nil => rfl
  | cons w lv ih =>
    rw [List.flatMap_cons, List.flatMap_cons, ih fun w hw => h w (.tail _ hw), List.filter_congr (h w (.head _))]
theorem through_lv (hsg : ∀ c ∈ t, c ∈ sg) (i : Nat) : lvL (fun u => !(lackL sg found).any fun l => decide (l <:+ u)) sg i = lvL (fun u => decide (F t u)) sg i := by
  induction i with
  | zero => rfl
  | succ i ih =>
    show stepL _ sg (lvL _ sg i) = stepL _ sg (lvL _ sg i)
    rw [ih]
    refine through_step fun w hw c hc => ?_
    have hw := ((mem_lv hsg i w).mp hw).2
    by_cases h : F t (w ++ [c])
    · rw [decide_eq_true h, List.any_eq_false.mpr fun l hl hs => lack_not hf hl (h.sufOf (of_decide_eq_true hs))]; rfl
    · obtain ⟨l, h1, h2⟩ := lack_suf hf hc w hw h
      rw [decide_eq_false h, List.any_eq_true.mpr ⟨l, h1, decide_eq_true h2⟩]; rfl
theorem through_gr (hsg : ∀ c ∈ t, c ∈ sg) (i : Nat) : grL (fun u => !(lackL sg found).any fun l => decide (l <:+ u)) sg i = grL (fun u => decide (F t u)) sg i := by
  induction i with
  | zero => rfl
  | succ i ih =>
    show grL _ sg i ++ lvL _ sg (i + 1) = grL _ sg i ++ lvL _ sg (i + 1)
    rw [ih, through_lv hf hsg]
/-! what begins a lacking word -/
theorem mem_goes {w m : Wd} : m ∈ (found.filter fun m => found.contains (w ++ m)) ↔ F t m ∧ F t (w ++ m) :=
  List.mem_filter.trans (and_congr (hf m) (cont_iff hf))
theorem goes_eq {a b : Wd} : (found.filter fun m => found.contains (a ++ m)) = (found.filter fun m => found.contains (b ++ m)) ↔ ∀ m, F t m → (F t (a ++ m) ↔ F t (b ++ m)) := by
  constructor
  · intro h m hm
    have h1 := mem_goes hf (w := a) (m := m)
    rw [h] at h1
    have := h1.symm.trans (mem_goes hf)
    exact ⟨fun q => (this.mp ⟨hm, q⟩).2, fun q => (this.mpr ⟨hm, q⟩).2⟩
  · exact fun h => List.filter_congr fun m hm => Bool.eq_iff_iff.mpr ((cont_iff hf).trans ((h m ((hf m).mp hm)).trans (cont_iff hf).symm))
noncomputable def Beg (t sg : Wd) (found : List Wd) (b : Wd) : Prop := F t b ∧ ∃ l ∈ lackL sg found, b <+: l
omit hf in
theorem suf_cancel {a b y : Wd} (h : a ++ y <:+ b ++ y) : a <:+ b := let ⟨s, e⟩ := h; ⟨s, List.append_cancel_right ((List.append_assoc s a y).trans e)⟩
omit hf in
theorem suf_tot {a b y v : Wd} (ha : a ++ y <:+ v) (hb : b ++ y <:+ v) : a <:+ b ∨ b <:+ a :=
  (Nat.le_total (a ++ y).length (b ++ y).length).imp (fun h => suf_cancel (List.suffix_of_suffix_length_le ha hb h)) fun h => suf_cancel (List.suffix_of_suffix_length_le hb ha h)
/-- the longest beginning that ends k goes on as k does -/
theorem goes_long (hsg : ∀ c ∈ t, c ∈ sg) {b k : Wd} (hk : F t k) (hs : b <:+ k) (hmax : ∀ b', Beg t sg found b' → b' <:+ k → b'.length ≤ b.length) : ∀ m, F t (b ++ m) ↔ F t (k ++ m) := by
  have up : ∀ m, b ++ m <:+ k ++ m := fun m => let ⟨s, e⟩ := hs; ⟨s, by rw [← e, List.append_assoc]⟩
  have key : ∀ (n : Nat) (m : Wd), m.length = n → F t (b ++ m) → F t (k ++ m) := by
    intro n
    induction n with
    | zero => intro m hm _; rw [List.length_eq_zero_iff.mp hm, List.append_nil]; exact hk
    | succ n ih =>
      intro m hm h
      obtain ⟨m', c, rfl, hm'⟩ := snoc_len hm
      rw [← List.append_assoc] at h ⊢
      have h1 : F t (k ++ m') := ih m' hm' h.pre
      apply Decidable.byContradiction
      intro hn
      obtain ⟨l, hl, hls⟩ := lack_suf hf (h.let_ hsg c mem_snoc) (k ++ m') h1 hn
      have hln : ¬ F t l := lack_not hf hl
      have hbs : b ++ m' ++ [c] <:+ k ++ m' ++ [c] := by rw [List.append_assoc, List.append_assoc]; exact up _
      rcases Nat.le_total l.length (b ++ m' ++ [c]).length with hle | hle
      · exact hln (F.sufOf h (List.suffix_of_suffix_length_le hls hbs hle))
      · obtain ⟨s, rfl⟩ := List.suffix_of_suffix_length_le hbs hls hle
        have e : s ++ (b ++ m' ++ [c]) = s ++ b ++ (m' ++ [c]) := by rw [List.append_assoc b, List.append_assoc s]
        have hsb : s ++ b <:+ k := suf_cancel (y := m' ++ [c]) (by rw [← e, ← List.append_assoc k]; exact hls)
        have h3 := hmax (s ++ b) ⟨F.sufOf hk hsb, _, hl, ⟨m' ++ [c], e.symm⟩⟩ hsb
        rw [List.length_append] at h3
        have hs0 : s = [] := List.length_eq_zero_iff.mp (Nat.le_zero.mp (Nat.le_of_add_le_add_right (Nat.le_trans h3 (Nat.le_of_eq (Nat.zero_add _).symm))))
        exact hln (by rw [hs0]; exact h)
  exact fun m => ⟨key m.length m rfl, fun h => F.sufOf h (up m)⟩
omit hf in
/-- words that go on alike end together -/
theorem goes_comp {a b : Wd} (hg : ∀ m, F t m → (F t (a ++ m) ↔ F t (b ++ m))) (d : Nat) : ∀ (y : Wd), a ++ y <:+ t → t.length ≤ d + y.length → a <:+ b ∨ b <:+ a := by
  have go : ∀ y, a ++ y <:+ t → (a <:+ b ∨ b <:+ a) ∨ ∃ w, w ≠ [] ∧ a ++ (y ++ w) <:+ t := fun y e => by
    obtain ⟨x2, z, e2⟩ := (hg y ((List.suffix_append a y).trans e).isInfix).mp e.isInfix
    have hyz : F t (y ++ z) := List.IsSuffix.isInfix ⟨x2 ++ b, by rw [← e2]; simp only [List.append_assoc]⟩
    obtain ⟨x3, z3, e3⟩ := (hg _ hyz).mpr (List.IsSuffix.isInfix ⟨x2, by rw [← e2]; simp only [List.append_assoc]⟩)
    by_cases hz : z ++ z3 = []
    · refine .inl (suf_tot e ⟨x2, ?_⟩)
      rw [(List.append_eq_nil_iff.mp hz).1, List.append_nil] at e2
      exact e2
    · exact .inr ⟨z ++ z3, hz, x3, by rw [← e3]; simp only [List.append_assoc]⟩
  induction d with
  | zero =>
    intro y e hd
    refine (go y e).elim id fun ⟨w, hw, e'⟩ => absurd (List.length_eq_zero_iff.mp ?_) hw
    have h := ((List.suffix_append a _).trans e').length_le
    rw [List.length_append] at h
    exact Nat.le_zero.mp (Nat.le_of_add_le_add_left (Nat.le_trans h (Nat.le_trans hd (Nat.le_of_eq (Nat.add_comm 0 _)))))
  | succ d ih =>
    intro y e hd
    refine (go y e).elim id fun ⟨w, hw, e'⟩ => ih _ e' (Nat.le_trans hd ?_)
    rw [List.length_append, Nat.succ_add, ← Nat.add_succ]
    exact Nat.add_le_add_left (Nat.add_le_add_left (List.length_pos_iff.mpr hw) _) _
theorem beg_uniq {a b : Wd} (ha : Beg t sg found a) (hb : Beg t sg found b) (hg : ∀ m, F t m → (F t (a ++ m) ↔ F t (b ++ m))) : a = b := by
  have one : ∀ {a b : Wd}, Beg t sg found b → (∀ m, F t m → (F t (a ++ m) ↔ F t (b ++ m))) → a <:+ b → a = b := by
    intro a b hb hg hs
    obtain ⟨s, rfl⟩ := hs
    cases s with
    | nil => rfl
    | cons x s =>
      exfalso
      obtain ⟨hfb, l, hl, u, rfl⟩ := hb
      obtain ⟨_, _, _, _, _, hn, hd⟩ := (mem_lack hf).mp hl
      have h1 : F t (s ++ (a ++ u)) := by rw [← List.append_assoc]; exact hd
      exact hn ((hg u h1.suf.suf).mp h1.suf)
  obtain ⟨x, y, e⟩ := ha.1
  rcases goes_comp hg t.length y ⟨x, by rw [← List.append_assoc]; exact e⟩ (Nat.le_add_right _ _) with h | h
  · exact one hb hg h
  · exact (one ha (fun m hm => (hg m hm).symm) h).symm
omit hf in
/-- the search from behind finds the longest -/
theorem long_spec {em : Wd → Bool} {l : List Wd} (hp : l.Pairwise fun a b => b.length ≤ a.length) (h : ∃ b ∈ l, em b = true) : ∃ b, longL em l = some b ∧ b ∈ l ∧ em b = true ∧ ∀ b' ∈ l, em b' = true → b'.length ≤ b.length := by
  induction l with
  | nil => exact let ⟨b, hb, _⟩ := h; nomatch hb
  | cons a l ih =>
    rw [List.pairwise_cons] at hp
    cases he : em a with
    | true =>
      exact ⟨a, if_pos he, .head _, he, fun b' hb' _ => (List.mem_cons.mp hb').elim (fun e => Nat.le_of_eq (congrArg _ e)) (hp.1 b')⟩
    | false =>
      obtain ⟨b, hb, heb⟩ := h
      have hne : ∀ {x}, x = a → em x = true → False := fun e q => by rw [e, he] at q; cases q
      obtain ⟨c, h1, h2, h3, h4⟩ := ih hp.2 ⟨b, (List.mem_cons.mp hb).resolve_left fun e => hne e heb, heb⟩
      exact ⟨c, (if_neg (fun q => hne rfl q)).trans h1, .tail _ h2, h3, fun b' hb' he' => h4 b' ((List.mem_cons.mp hb').resolve_left fun e => hne e he') he'⟩
omit hf in
theorem filter_one {p : Wd → Bool} {x : Wd} {l : List Wd} (hn : l.Nodup) (hx : x ∈ l) (hp : ∀ a ∈ l, p a = true ↔ a = x) : l.filter p = [x] :=
  nodup_all (hn.filter _) (List.mem_filter.mpr ⟨hx, (hp x hx).mpr rfl⟩) fun b hb => (hp b (List.mem_filter.mp hb).1).mp (List.mem_filter.mp hb).2
/-- the last test -/
theorem fin_spec (hsg : ∀ c ∈ t, c ∈ sg) (hne : sg ≠ []) (hsort : found.Pairwise fun a b => a.length ≤ b.length) (hnd : found.Nodup) {begins : List Wd} (hb : begins = found.filter fun b => (lackL sg found).any fun l => decide (b <+: l)) {k : Wd} (hk : F t k) :
    ∃ x, (begins.filter fun b => decide ((found.filter fun m => found.contains (b ++ m)) = (found.filter fun m => found.contains (k ++ m)))) = [x] ∧ longL (fun b => decide (b <:+ k)) begins.reverse = some x := by
  have hmem : ∀ b, b ∈ begins ↔ Beg t sg found b := fun b => by
    rw [hb]
    exact List.mem_filter.trans (and_congr (hf b) (List.any_eq_true.trans (exists_congr fun l => and_congr_right fun _ => decide_eq_true_iff)))
  have hnil : ([] : Wd) ∈ begins := by
    refine (hmem _).mpr ⟨F.nil, ?_⟩
    cases sg with
    | nil => exact absurd rfl hne
    | cons c sg =>
      have hn : ¬ F t (t ++ [c]) := fun h => Nat.not_succ_le_self t.length (Nat.le_trans (Nat.le_of_eq len_snoc.symm) h.len)
      obtain ⟨l, hl, _⟩ := lack_suf hf (.head _) t (List.infix_refl t) hn
      exact ⟨l, hl, List.nil_prefix⟩
  have hsb : begins.Pairwise fun a b => a.length ≤ b.length := by rw [hb]; exact hsort.filter _
  have hndb : begins.Nodup := by rw [hb]; exact hnd.filter _
  obtain ⟨x, h1, h2, h3, h4⟩ := long_spec (em := fun b => decide (b <:+ k)) (l := begins.reverse) (List.pairwise_reverse.mpr hsb) ⟨[], List.mem_reverse.mpr hnil, decide_eq_true (List.nil_suffix)⟩
  have hxb := List.mem_reverse.mp h2
  have hgx := goes_long hf hsg hk (of_decide_eq_true h3) fun b' hb' hs => h4 b' (List.mem_reverse.mpr ((hmem b').mpr hb')) (decide_eq_true hs)
  refine ⟨x, filter_one hndb hxb fun a ha => decide_eq_true_iff.trans ((goes_eq hf).trans ⟨fun h => ?_, fun e m _ => e ▸ hgx m⟩), h1⟩
  exact beg_uniq hf ((hmem a).mp ha) ((hmem x).mp hxb) fun m hm => (h m hm).trans (hgx m).symm
end
end W
end Mine
end
section
open PySem PySem.W PySem.Calls PyProof.Rows
open PySem.StrLaws Builtin Builtin.Str
set_option Elab.async false
set_option maxRecDepth 100000
set_option linter.unusedVariables false
namespace Mine
/-! strs as lists of numbers -/
abbrev lst (x : Str) : List Nat := x.cps.toList
abbrev ofL (l : List Nat) : Str := ⟨l.toArray⟩
theorem lst_inj {x y : Str} (h : lst x = lst y) : x = y := by
  obtain ⟨⟨a⟩⟩ := x; obtain ⟨⟨b⟩⟩ := y
  have : a = b := h
  (refine Mine.rwl this ?_; try with_reducible rfl)
theorem lst_app (x y : Str) : lst (x ++ y) = lst x ++ lst y := by
  show (x.cps ++ y.cps).toList = _
  (refine Mine.rwl Array.toList_append ?_; try with_reducible rfl)
theorem len_lst (x : Str) : x.length = (lst x).length := by
  show x.cps.size = _
  (refine Mine.rwl Array.length_toList ?_; try with_reducible rfl)
theorem lst_ofL (l : List Nat) : lst (ofL l) = l := rfl
theorem ofL_lst (x : Str) : ofL (lst x) = x := lst_inj rfl
noncomputable def joinL (sep : List Nat) : List (List Nat) → List Nat
  | [] => []
  | [p] => p
  | p :: q :: r => p ++ sep ++ joinL sep (q :: r)
theorem lst_join (y : Str) : ∀ ps : List Str, lst (Txt.join y ps) = joinL (lst y) (ps.map lst) := by
  have key : ∀ ps : List Str, lst (Str.join y ps) = joinL (lst y) (ps.map lst) := by
    intro ps
    induction ps with
    | nil => rfl
    | cons p r ih =>
      cases r with
      | nil => rfl
      | cons q r =>
        show lst (p ++ y ++ Str.join y (q :: r)) = _
        rw [lst_app, lst_app, ih]; rfl
  intro ps
  show lst (glued y ps) = _
  rw [glued_eq_join, key]
theorem at_iff (x y : Str) (hi i : Nat) : At x y hi i ↔ i + y.length ≤ hi ∧ ((lst x).drop i).take y.length = lst y := by
  unfold At
  rw [subAt_eq, beq_iff_eq]
theorem lst_sub (x : Str) (i j : Nat) : lst (strSub x i j) = ((lst x).drop i).take (j - i) := strSub_toList x i j
/-! split undoes join -/
section
variable {d k : Nat}
theorem at_dot {x y : Str} (hk : 1 ≤ k) (hy : lst y = List.replicate k d) {i : Nat} (h : At x y x.length i) : (lst x)[i]? = some d := by
  rw [at_iff] at h
  have hl : y.length = k := by rw [len_lst, hy, List.length_replicate]
  have h2 := congrArg (·[0]?) h.2
  simp only [List.getElem?_take, List.getElem?_drop, hy, hl] at h2
  rw [if_pos (by (assumption))] at h2
  simp only [Nat.add_zero] at h2
  rw [h2, List.getElem?_replicate, if_pos (by (assumption))]
theorem parts_of {x y : Str} (hk : 1 ≤ k) (hy : lst y = List.replicate k d) : ∀ (ps : List Str) (a : Nat) (cuts : List Nat) (f : Nat), ps ≠ [] → (∀ p ∈ ps, d ∉ lst p) → a ≤ x.length → (lst x).drop a = joinL (lst y) (ps.map lst) →
    ChainG x y x.length a cuts f → (∀ i, f ≤ i → ¬ At x y x.length i) → partsFrom x y.length a cuts = ps
  | [], _, _, _, h, _, _, _, _, _ => absurd rfl h
  | [p], a, cuts, f, _, hp, ha, he, hc, hf => by
    have he' : (lst x).drop a = lst p := he
    cases cuts with
    | nil =>
      have : strSub x a x.length = p := by
        apply lst_inj
        rw [lst_sub, he', len_lst x]
        apply List.take_of_length_le
        rw [← he', List.length_drop]
        exact Nat.le_refl _
      show [strSub x a x.length] = [p]
      (refine Mine.rwl this ?_; try with_reducible rfl)
    | cons c r =>
      exfalso
      have hx := at_dot hk hy hc.2.1
      have : (lst p)[c - a]? = some d := by
        rw [← he', List.getElem?_drop, ← hx]
        exact congrArg _ (Nat.add_sub_of_le hc.1)
      exact hp p (.head _) (List.mem_of_getElem? this)
  | p :: q :: r, a, cuts, f, _, hp, ha, he, hc, hf => by
    have hl : y.length = k := by rw [len_lst, hy, List.length_replicate]
    have he' : (lst x).drop a = lst p ++ lst y ++ joinL (lst y) ((q :: r).map lst) := he
    have hat : At x y x.length (a + p.length) := by
      rw [at_iff]
      refine ⟨?_, ?_⟩
      · have hlen : x.length - a = p.length + y.length + (joinL (lst y) ((q :: r).map lst)).length := by
          rw [len_lst x, ← List.length_drop, he', List.length_append, List.length_append, ← len_lst, ← len_lst]
        rw [← Nat.add_sub_of_le ha, hlen, Nat.add_assoc]
        exact Nat.add_le_add_left (Nat.le_add_right _ _) _
      rw [← List.drop_drop, he', len_lst p, List.append_assoc, List.drop_left, len_lst y, List.take_left]
    cases cuts with
    | nil =>
      exfalso
      exact hf _ (Nat.le_trans (Nat.le_of_eq hc) (Nat.le_add_right _ _)) hat
    | cons c r' =>
      (refine Mine.el0d hc fun h1 h2 h3 h4 => ?_; try clear hc)
      have hle : c ≤ a + p.length := Nat.le_of_not_lt fun hn => h3 (a + p.length) (Nat.le_add_right _ _) hn hat
      have hge : a + p.length ≤ c := Nat.le_of_not_lt fun hn => by
        have h5 : ((lst x).drop a)[c - a]? = some d := by
          rw [List.getElem?_drop, Nat.add_sub_of_le h1, at_dot hk hy h2]
        rw [he', List.append_assoc, List.getElem?_append_left (Nat.lt_of_lt_of_le (Nat.sub_lt_left_of_lt_add h1 hn) (Nat.le_of_eq (len_lst p)))] at h5
        exact hp p (.head _) (List.mem_of_getElem? h5)
      obtain rfl : c = a + p.length := Nat.le_antisymm hle hge
      have hs : strSub x a (a + p.length) = p := by
        apply lst_inj
        rw [lst_sub, he', List.append_assoc, Nat.add_sub_cancel_left, len_lst p, List.take_left]
      have hr : (lst x).drop (a + p.length + y.length) = joinL (lst y) ((q :: r).map lst) := by
        rw [Nat.add_assoc, ← List.drop_drop, he', List.append_assoc, ← List.drop_drop, len_lst p, List.drop_left, len_lst y, List.drop_left]
      show strSub x a (a + p.length) :: partsFrom x y.length (a + p.length + y.length) r' = _
      rw [hs, parts_of hk hy (q :: r) _ r' f (List.cons_ne_nil _ _) (fun p' hp' => hp p' (.tail _ hp')) ((at_iff ..).mp hat).1 hr h4 hf]
theorem split_join {y : Str} (hk : 1 ≤ k) (hy : lst y = List.replicate k d) (hkind : Builtin.Str.strKind y = 1) {ps : List Str} (hne : ps ≠ []) (hp : ∀ p ∈ ps, d ∉ lst p) : Txt.split (Txt.join y ps) y = ps := by
  have hl : y.length = k := by rw [len_lst, hy, List.length_replicate]
  generalize hx : Txt.join y ps = x
  have hj : (lst x).drop 0 = joinL (lst y) (ps.map lst) := by rw [List.drop_zero, ← hx, lst_join]
  obtain ⟨f, hc, hf⟩ := occ_tight x y (hl ▸ hk)
  have hmain := parts_of hk hy ps 0 _ f hne hp (Nat.zero_le _) hj hc hf
  have hkx : 1 ≤ Builtin.Str.strKind x := by
    unfold Builtin.Str.strKind
    split
    · exact Nat.le_refl _
    · split <;> decide
  unfold Txt.split
  by_cases h1 : x.length < y.length
  · rw [if_pos (by simp [h1])]
    have hnil : occurrences x y 0 x.length (x.length + 1) = [] := by
      cases ho : occurrences x y 0 x.length (x.length + 1) with
      | nil => rfl
      | cons c r => rw [ho] at hc; exact absurd (Nat.le_trans (Nat.le_add_left _ _) hc.2.1.1) (Nat.not_le_of_lt h1)
    rw [hnil] at hmain
    rw [← hmain]
    show [x] = [strSub x 0 x.length]
    rw [sub_whole]
  · rw [if_neg (by simp [h1, hkind]; (solve_by_elim (maxDepth := 3) [Nat.le_of_lt_succ, Nat.lt_succ_of_le, Nat.lt_succ_of_lt, Nat.le_of_lt, Nat.le_succ_of_le, Nat.pos_of_ne_zero, Nat.ne_of_gt, Nat.ne_of_lt, Nat.zero_le, Nat.le_refl, Nat.lt_succ_self, Nat.sub_le, Nat.le_of_not_lt, Nat.lt_of_not_le, Nat.le_trans, Nat.lt_of_lt_of_le, Nat.lt_of_le_of_lt, Nat.le_antisymm]))]
    cases ho : occurrences x y 0 x.length (x.length + 1) with
    | nil =>
      rw [if_pos (by rfl)]
      rw [ho] at hmain
      rw [← hmain]
      show [x] = [strSub x 0 x.length]
      rw [sub_whole]
    | cons c r =>
      rw [if_neg (by simp), partsBetween_eq, ← ho]
      exact hmain
end
theorem contains_of {x y : Str} {a b : List Nat} (h : lst x = a ++ lst y ++ b) : Txt.contains x y = true := by
  unfold Txt.contains
  rw [found_iff]
  refine ⟨a.length, by rw [len_lst x, h, List.length_append, List.length_append, ← len_lst]; exact Nat.le_add_right _ _, ?_⟩
  rw [subAt_eq, beq_iff_eq]
  show ((lst x).drop a.length).take y.length = lst y
  rw [h, List.append_assoc, List.drop_left, len_lst y, List.take_left]
/-! find -/
theorem fromIndex_nat (n i : Nat) : fromIndex n (i : Int) = i := by
  unfold fromIndex; rw [if_neg (Int.not_lt.mpr (Int.natCast_nonneg i))]; rfl
theorem findP_nat (x y : Str) (i j : Nat) (hj : j ≤ x.length) : (findP x y i j = -1 ∧ ∀ m, i ≤ m → ¬ At x y j m) ∨ ∃ m : Nat, findP x y i j = m ∧ i ≤ m ∧ At x y j m ∧ ∀ m', i ≤ m' → m' < m → ¬ At x y j m' := by
  have hi := fromIndex_nat x.length i
  have hj' : min (fromIndex x.length (j : Int)) x.length = j := by rw [fromIndex_nat]; exact Nat.min_eq_left hj
  unfold findP
  rw [hi, hj', occ_eq]
  rcases occ_first x y j 1 (Nat.le_refl 1) (List.range' i (j + 1 - i)) i (fun m hm => (List.mem_range'_1.mp hm).1) with ⟨h0, hn⟩ | ⟨pre, a, post, e, h0, ha, hn⟩
  · refine .inl ⟨by rw [h0], fun m hm h => ?_⟩
    have hmj := Nat.le_trans (Nat.le_add_right _ _) h.1
    exact hn m (List.mem_range'_1.mpr ⟨hm, by rw [Nat.add_sub_of_le (Nat.le_succ_of_le (Nat.le_trans hm hmj))]; exact Nat.lt_succ_of_le hmj⟩) h
  · have hs := range'_split_from e
    refine .inr ⟨a, ?_, hs.1, ha, fun m hm0 hm => hn m (hs.2 m hm0 hm)⟩
    generalize (forIn (List.range' i (j + 1 - i)) ((#[] : Array Nat), i) (occBody x y j 1)).run.fst = arr at h0
    have h1 : arr.toList[0]? = some a := by simpa using h0
    cases hL : arr.toList with
    | nil => rw [hL] at h1; cases h1
    | cons b t => rw [hL] at h1; simp at h1; (refine Mine.rwl h1 ?_; try with_reducible rfl)
theorem at_empty (x : Str) (j m : Nat) (h : m ≤ j) : At x ⟨#[]⟩ j m := by
  rw [at_iff]; exact ⟨h, by simp [Str.length]⟩
theorem findP_empty (x : Str) (i j : Nat) (hj : j ≤ x.length) (h : i ≤ j) : findP x ⟨#[]⟩ i j = i := by
  rcases findP_nat x ⟨#[]⟩ i j hj with ⟨_, hn⟩ | ⟨m, h1, h2, h3, h4⟩
  · exact absurd (at_empty x j i h) (hn i (Nat.le_refl _))
  · rcases Nat.lt_or_ge i m with h5 | h5
    · exact absurd (at_empty x j i h) (h4 i (Nat.le_refl _) h5)
    · rw [h1, Nat.le_antisymm h5 h2]
theorem emGo_empty {x : Str} {i j : Nat} {ys : List Str} (hj : j ≤ x.length) (h : i ≤ j) : emGo x j (⟨#[]⟩ :: ys) i = emGo x j ys i := by
  rw [emGo, findP_empty x i j hj h, if_neg (Int.not_lt.mpr (Int.natCast_nonneg i))]
  exact congrArg (emGo x j ys) (Int.add_zero _)
theorem emGo_find {x y : Str} {i j m : Nat} {ys : List Str} (hj : j ≤ x.length) (h : i ≤ m) (hm : At x y j m) (hno : ∀ m', i ≤ m' → m' < m → ¬ At x y j m') : emGo x j (y :: ys) i = emGo x j ys ((m + y.length : Nat) : Int) := by
  rcases findP_nat x y i j hj with ⟨_, hn⟩ | ⟨m2, h1, h2, h3, h4⟩
  · exact absurd hm (hn m h)
  · have : m2 = m := by
      rcases Nat.lt_trichotomy m2 m with q | q | q
      · exact absurd h3 (hno m2 h2 q)
      · exact q
      · exact absurd hm (h4 m h q)
    subst this
    rw [emGo, h1, if_neg (Int.not_lt.mpr (Int.natCast_nonneg _))]
    rfl
theorem emGo_none {x y : Str} {i j : Nat} {ys : List Str} (hj : j ≤ x.length) (hno : ∀ m, i ≤ m → ¬ At x y j m) : emGo x j (y :: ys) i = false := by
  rcases findP_nat x y i j hj with ⟨h0, hn⟩ | ⟨m2, h1, h2, h3, h4⟩
  · rw [emGo, h0, if_pos (by decide)]
  · exact absurd h3 (hno m2 h2)
theorem starts_iff (x y : Str) : Txt.startswith x y = decide (lst y <+: lst x) := by
  unfold Txt.startswith
  rw [Bool.eq_iff_iff, Bool.and_eq_true, decide_eq_true_eq, decide_eq_true_eq, subAt_eq, beq_iff_eq]
  show 0 + y.length ≤ x.length ∧ ((lst x).drop 0).take y.length = lst y ↔ _
  rw [List.drop_zero, List.prefix_iff_eq_take, ← len_lst]
  constructor
  · rintro ⟨_, h⟩; exact h.symm
  · intro h
    refine ⟨?_, h.symm⟩
    rw [Nat.zero_add, len_lst, h, len_lst x]
    exact List.length_take_le' _ _
theorem ends_iff (x y : Str) : Txt.endswith x y = decide (lst y <:+ lst x) := by
  unfold Txt.endswith
  rw [Bool.eq_iff_iff, Bool.and_eq_true, decide_eq_true_eq, decide_eq_true_eq, subAt_eq, beq_iff_eq]
  show 0 + y.length ≤ x.length ∧ ((lst x).drop (x.length - y.length)).take y.length = lst y ↔ _
  rw [List.suffix_iff_eq_drop, ← len_lst, ← len_lst]
  constructor
  · rintro ⟨h0, h⟩
    rw [← h]
    rw [List.take_of_length_le]
    rw [List.length_drop, ← len_lst]
    exact Nat.le_of_eq (Nat.sub_sub_self (Nat.le_trans (Nat.le_of_eq (Nat.zero_add _).symm) h0))
  · intro h
    have h0 : y.length ≤ x.length := by
      rw [len_lst y, h, List.length_drop, ← len_lst]
      exact Nat.sub_le _ _
    refine ⟨Nat.le_trans (Nat.le_of_eq (Nat.zero_add _)) h0, ?_⟩
    rw [← h, len_lst y, List.take_length]
end Mine
end
section
open PySem PySem.W PySem.Calls PyProof.Rows
open PySem.StrLaws Builtin
set_option Elab.async false
set_option maxRecDepth 100000
set_option linter.unusedVariables false
namespace Mine
/-! what _ellipsis_match answers -/
abbrev nilS : Str := ⟨#[]⟩
theorem lst_dots : lst ("..." : Str) = List.replicate 3 46 := rfl
theorem len_dots : ("..." : Str).length = 3 := rfl
theorem emOk_of {want got : Str} {ws : List Str} {r : Bool} (hj : lst want = joinL (lst "...") (ws.map lst)) (hne : 2 ≤ ws.length) (hp : ∀ p ∈ ws, 46 ∉ lst p) (zw : want.length ≤ 1000) (zg : got.length ≤ 1000) (zl : ws.length ≤ 1000) (zp : ∀ p ∈ ws, p.length ≤ 1000) (hr : emW ws got = r) : EmOk want got r := by
  have hj' : want = Txt.join "..." ws := lst_inj (by rw [hj, lst_join])
  have hs : Txt.split want "..." = ws := by rw [hj']; exact split_join (k := 3) (d := 46) (by decide) lst_dots (by decide +kernel) (by intro h; rw [h] at hne; exact absurd hne (by decide)) hp
  refine ⟨ws, ?_, hs, hne, zw, zg, zl, zp, hr⟩
  match ws, hne with
  | p :: q :: r, _ => exact contains_of (a := lst p) (b := joinL (lst "...") ((q :: r).map lst)) hj
/-- a short piece without a dot -/
noncomputable def Wp (p : Str) : Prop := 46 ∉ lst p ∧ p.length ≤ 100
theorem joinL_len {sep : List Nat} : ∀ {ls : List (List Nat)}, (∀ p ∈ ls, p.length ≤ 100) → (joinL sep ls).length ≤ (100 + sep.length) * ls.length
  | [], _ => Nat.le_refl 0
  | [p], h => Nat.le_trans (h p (.head _)) (Nat.le_trans (Nat.le_add_right _ _) (Nat.le_of_eq (Nat.mul_one _).symm))
  | p :: q :: r, h => by
    show (p ++ sep ++ joinL sep (q :: r)).length ≤ _
    rw [List.length_append, List.length_append, List.length_cons, Nat.mul_succ, Nat.add_comm]
    exact Nat.add_le_add (joinL_len fun y hy => h y (.tail _ hy)) (Nat.add_le_add_right (h p (.head _)) _)
theorem emOk4 {want got : Str} {ws : List Str} {r : Bool} (hj : lst want = joinL (lst "...") (ws.map lst)) (h2 : 2 ≤ ws.length) (h4 : ws.length ≤ 4) (hp : ∀ p ∈ ws, Wp p) (zg : got.length ≤ 100) (hr : emW ws got = r) : EmOk want got r :=
  emOk_of hj h2 (fun p h => (hp p h).1)
    (by
      rw [len_lst, hj]
      refine Nat.le_trans (joinL_len fun q hq => ?_) (Nat.le_trans (Nat.mul_le_mul_left _ (by rw [List.length_map]; exact h4)) (by decide))
      refine Exists.elim (List.mem_map.mp hq) fun p h => ?_
      rw [← h.2, ← len_lst]; exact (hp p h.1).2)
    (Nat.le_trans zg (by decide)) (Nat.le_trans h4 (by decide)) (fun p h => Nat.le_trans (hp p h).2 (by decide)) hr
theorem wp_cons {p : Str} {ws : List Str} (h : Wp p) (t : ∀ q ∈ ws, Wp q) : ∀ q ∈ p :: ws, Wp q := fun _ hq => (List.mem_cons.mp hq).elim (fun e => e ▸ h) (t _)
theorem wp_nil : ∀ q ∈ ([] : List Str), Wp q := fun _ h => nomatch h
theorem inf_iff (x y : Str) : lst y <:+: lst x ↔ ∃ m, At x y x.length m := by
  constructor
  · rintro ⟨a, b, h⟩
    refine ⟨a.length, (at_iff ..).mpr ⟨?_, ?_⟩⟩
    · rw [len_lst, len_lst, ← h, List.length_append, List.length_append]
      exact Nat.le_add_right _ _
    · rw [← h, List.append_assoc, List.drop_left, len_lst y, List.take_left]
  · rintro ⟨m, h⟩
    have h2 := ((at_iff ..).mp h).2
    exact ⟨(lst x).take m, ((lst x).drop m).drop y.length, by rw [List.append_assoc, ← h2, List.take_append_drop, List.take_append_drop]⟩
theorem lst_nilS : lst nilS = [] := rfl
theorem wp_nilS : Wp nilS := ⟨List.not_mem_nil, Nat.zero_le _⟩
theorem gt_no {a b c : Nat} (h : a + c ≤ b) : ¬ ((a : Int) > (b : Int) - (c : Int)) := by omega
theorem gt_yes {a b c : Nat} (h : b < a + c) : (a : Int) > (b : Int) - (c : Int) := by omega
theorem sub_cast {b c : Nat} (h : c ≤ b) : (b : Int) - (c : Int) = ((b - c : Nat) : Int) := (Int.ofNat_sub h).symm
theorem emIf {a b c : Nat} {t : Str} {ws : List Str} {r : Bool} (h : a + c ≤ b) (hr : emGo t ((b - c : Nat) : Int) ws (a : Int) = r) : (if (a : Int) > (b : Int) - (c : Int) then false else emGo t ((b : Int) - (c : Int)) ws (a : Int)) = r := by
  rw [if_neg (gt_no h), sub_cast (Nat.le_trans (Nat.le_add_left _ _) h)]; exact hr
theorem em0 {t : Str} {ws : List Str} {r : Bool} (hs : emW ws t = (if ((0 : Nat) : Int) > (t.length : Int) - ((0 : Nat) : Int) then false else emGo t ((t.length : Int) - ((0 : Nat) : Int)) ws ((0 : Nat) : Int))) (hr : emGo t ((t.length : Nat) : Int) ws ((0 : Nat) : Int) = r) : emW ws t = r :=
  hs.trans (emIf (Nat.zero_le _) hr)
theorem em_mid {u t : Str} (hu : 46 ∉ lst u) (z1 : u.length ≤ 100) (z2 : t.length ≤ 100) : EmOk ("..." ++ u ++ "...") t (decide (lst u <:+: lst t)) := by
  refine emOk4 (ws := [nilS, u, nilS]) (by rw [lst_app, lst_app]; simp only [List.map_cons, List.map_nil, joinL, lst_nilS, List.nil_append, List.append_nil, List.append_assoc]) (Nat.le_succ 2) (Nat.le_succ 3) (wp_cons wp_nilS (wp_cons ⟨hu, z1⟩ (wp_cons wp_nilS wp_nil))) z2 (em0 rfl ?_)
  rw [emGo_empty (Nat.le_refl _) (Nat.zero_le _)]
  rcases findP_nat t u 0 t.length (Nat.le_refl _) with ⟨_, hn⟩ | ⟨m, _, h2, h3, h4⟩
  · rw [emGo_none (Nat.le_refl _) hn, decide_eq_false]
    rw [inf_iff]
    rintro ⟨m, hm⟩; exact hn m (Nat.zero_le _) hm
  · rw [emGo_find (Nat.le_refl _) h2 h3 h4, emGo_empty (Nat.le_refl _) h3.1, decide_eq_true]
    · rfl
    · rw [inf_iff]; exact ⟨m, h3⟩
theorem em_nil2 (t : Str) : emW [nilS, nilS] t = true := em0 rfl (by
  rw [emGo_empty (Nat.le_refl _) (Nat.zero_le _), emGo_empty (Nat.le_refl _) (Nat.zero_le _)]; rfl)
theorem nil_of_len {x : Str} (h : x.length = 0) : x = nilS := lst_inj (List.length_eq_zero_iff.mp (by rw [← len_lst]; exact h))
theorem ne_of_len {x : Str} (h : x.length ≠ 0) : (x.length != 0) = true := bne_iff_ne.mpr h
theorem em_pre {w l : Str} (hw : 46 ∉ lst w) (z1 : w.length ≤ 100) (z2 : l.length ≤ 100) : EmOk (w ++ "...") l (decide (lst w <+: lst l)) := by
  refine emOk4 (ws := [w, nilS]) (by rw [lst_app]; simp only [List.map_cons, List.map_nil, joinL, lst_nilS, List.append_nil]) (Nat.le_refl 2) (Nat.le_add_left 2 2) (wp_cons ⟨hw, z1⟩ (wp_cons wp_nilS wp_nil)) z2 ?_
  by_cases h0 : w.length = 0
  · obtain rfl := nil_of_len h0
    rw [em_nil2, decide_eq_true]
    exact List.nil_prefix
  · show emB l w [w, nilS] = _
    unfold emB
    rw [ne_of_len h0, starts_iff]
    by_cases hp : lst w <+: lst l
    · rw [decide_eq_true hp]
      have hlen := hp.length_le
      rw [← len_lst, ← len_lst] at hlen
      exact emIf (c := 0) hlen (emGo_empty (Nat.le_refl _) hlen)
    · rw [decide_eq_false hp]; rfl
theorem em_suf {b k : Str} (hb : 46 ∉ lst b) (z1 : b.length ≤ 100) (z2 : k.length ≤ 100) : EmOk ("..." ++ b) k (decide (lst b <:+ lst k)) := by
  refine emOk4 (ws := [nilS, b]) (lst_app _ _) (Nat.le_refl 2) (Nat.le_add_left 2 2) (wp_cons wp_nilS (wp_cons ⟨hb, z1⟩ wp_nil)) z2 ?_
  by_cases h0 : b.length = 0
  · obtain rfl := nil_of_len h0
    rw [em_nil2, decide_eq_true]
    exact List.nil_suffix
  · show emC k 0 [nilS, b] b = _
    unfold emC
    rw [ne_of_len h0, ends_iff]
    by_cases hp : lst b <:+ lst k
    · rw [decide_eq_true hp]
      have hlen := hp.length_le
      rw [← len_lst, ← len_lst] at hlen
      exact emIf (a := 0) (Nat.le_trans (Nat.le_of_eq (Nat.zero_add _)) hlen) (emGo_empty (Nat.sub_le _ _) (Nat.zero_le _))
    · rw [decide_eq_false hp]; rfl
/-! a word without its last sign, and without its first -/
theorem lst_spick (x : Str) (lo hi st : Option Int) : lst (spick x lo hi st) = pick (lst x) lo hi st := rfl
theorem lst_butLast (x : Str) : lst (spick x none (some (-1)) none) = (lst x).take (x.length - 1) := by
  rw [lst_spick, show (-1 : Int) = -((1 : Nat) : Int) from rfl, pick_butLast _ 1 (by decide), len_lst]
theorem lst_tail (x : Str) : lst (spick x (some 1) none none) = (lst x).drop 1 := by
  rw [lst_spick, show (1 : Int) = ((1 : Nat) : Int) from rfl, pick_from]
theorem lap0 {l p q : Str} {n : Nat} (hn : l.length = n + 1) (np : p.length = n) (nq : q.length = n) (hsp : lst p <+: lst l) (hsq : lst q <:+ lst l) : emW [p, q] l = decide (l.length < 3) := by
  cases n with
  | zero =>
    obtain rfl := nil_of_len np
    obtain rfl := nil_of_len nq
    rw [em_nil2, hn]; rfl
  | succ k =>
    have hpn : (p.length != 0) = true := ne_of_len (by rw [np]; exact Nat.succ_ne_zero _)
    have hqn : (q.length != 0) = true := ne_of_len (by rw [nq]; exact Nat.succ_ne_zero _)
    show emB l p [p, q] = _
    unfold emB
    rw [hpn, starts_iff, decide_eq_true hsp]
    show emC l p.length [q] q = _
    unfold emC
    rw [hqn, ends_iff, decide_eq_true hsq]
    show (if (p.length : Int) > (l.length : Int) - (q.length : Int) then false else emGo l ((l.length : Int) - (q.length : Int)) [] p.length) = _
    rw [hn, np, nq]
    cases k with
    | zero => rfl
    | succ k => rw [if_pos (gt_yes (Nat.add_lt_add_left (Nat.le_add_left 2 k) _)), decide_eq_false (fun h => absurd (Nat.lt_of_lt_of_le h (Nat.le_add_left 3 k)) (Nat.lt_irrefl _))]
theorem lap2 {l p q : Str} {n : Nat} (hn : l.length = n + 1) (np : p.length = n) (nq : q.length = n) (lp : lst p = (lst l).take n) (lq : lst q = (lst l).drop 1) : emW [nilS, p, q, nilS] l = decide (l.length < 3) := by
  have hat0 : At l p l.length 0 := (at_iff ..).mpr ⟨by rw [hn, np, Nat.zero_add]; exact Nat.le_succ n, by rw [List.drop_zero, lp, np]⟩
  refine em0 rfl ?_
  rw [emGo_empty (Nat.le_refl _) (Nat.zero_le _), emGo_find (Nat.le_refl _) (Nat.le_refl 0) hat0 (fun _ _ h => absurd h (Nat.not_lt_zero _)), Nat.zero_add]
  have hll : (lst l).length = n + 1 := by rw [← len_lst]; exact hn
  have go : (hle : p.length + q.length ≤ l.length) → ((lst l).drop p.length).take q.length = lst q → l.length < 3 → emGo l ((l.length : Nat) : Int) [q, nilS] ((p.length : Nat) : Int) = decide (l.length < 3) := fun hle ht h3 => by
    have hat1 : At l q l.length p.length := (at_iff ..).mpr ⟨hle, ht⟩
    rw [emGo_find (Nat.le_refl _) (Nat.le_refl _) hat1 (fun m' h1 h2 => absurd (Nat.lt_of_lt_of_le h2 h1) (Nat.lt_irrefl _)), emGo_empty (Nat.le_refl _) hat1.1, decide_eq_true h3]
    rfl
  match n, hn, np, nq, hll with
  | 0, hn, np, nq, hll =>
    refine go (by rw [hn, np, nq]; decide) ?_ (by rw [hn]; decide)
    rw [np, nq, lq]
    show [] = _
    exact (List.drop_eq_nil_of_le (Nat.le_of_eq hll)).symm
  | 1, hn, np, nq, hll =>
    refine go (by rw [hn, np, nq]; decide) ?_ (by rw [hn]; decide)
    rw [np, nq, lq]
    exact List.take_of_length_le (by rw [List.length_drop, hll]; exact Nat.le_refl _)
  | k + 2, hn, np, nq, _ =>
    rw [emGo_none (Nat.le_refl _) (fun m hm h => ?_), decide_eq_false (fun h => ?_)]
    · rw [hn] at h; exact absurd (Nat.lt_of_lt_of_le h (Nat.le_add_left 3 k)) (Nat.lt_irrefl _)
    · have h1 := h.1
      rw [hn, nq] at h1
      rw [np] at hm
      exact absurd (Nat.le_trans (Nat.add_le_add_right hm _) h1) (Nat.not_le_of_lt (Nat.add_lt_add_left (Nat.le_add_left 2 k) _))
theorem em_lap {l dots : Str} (hl : 46 ∉ lst l) (h0 : l.length ≠ 0) (z : l.length ≤ 100) (hd : dots ∈ (["", "..."] : List Str)) : EmOk (dots ++ spick l none (some (-1)) none ++ "..." ++ spick l (some 1) none none ++ dots) l (decide (l.length < 3)) := by
  generalize hp : spick l none (some (-1)) none = p
  generalize hq : spick l (some 1) none none = q
  refine Exists.elim (Nat.exists_eq_succ_of_ne_zero h0) fun n hn => ?_
  have lp : lst p = (lst l).take n := by rw [← hp, lst_butLast, hn]; rfl
  have lq : lst q = (lst l).drop 1 := by rw [← hq, lst_tail]
  have np : p.length = n := by rw [len_lst, lp, List.length_take, ← len_lst, hn]; exact Nat.min_eq_left (Nat.le_succ n)
  have nq : q.length = n := by rw [len_lst, lq, List.length_drop, ← len_lst, hn]; rfl
  have hz : n ≤ 100 := Nat.le_trans (Nat.le_succ n) (hn ▸ z)
  have wp : Wp p := ⟨fun h => hl (by rw [lp] at h; exact List.mem_of_mem_take h), np ▸ hz⟩
  have wq : Wp q := ⟨fun h => hl (by rw [lq] at h; exact List.mem_of_mem_drop h), nq ▸ hz⟩
  refine (List.mem_cons.mp hd).elim (fun e => ?_) fun hd => (List.mem_cons.mp hd).elim (fun e => ?_) (fun h => nomatch h)
  · refine emOk4 (ws := [p, q]) ?_ (Nat.le_refl 2) (Nat.le_add_left 2 2) (wp_cons wp (wp_cons wq wp_nil)) z (lap0 hn np nq (lp ▸ List.take_prefix _ _) (lq ▸ List.drop_suffix _ _))
    rw [e, lst_app, lst_app, lst_app, lst_app]
    exact List.append_nil _
  · refine emOk4 (ws := [nilS, p, q, nilS]) ?_ (Nat.le_add_left 2 2) (Nat.le_refl 4) (wp_cons wp_nilS (wp_cons wp (wp_cons wq (wp_cons wp_nilS wp_nil)))) z (lap2 hn np nq lp lq)
    rw [e, lst_app, lst_app, lst_app, lst_app]
    simp only [List.map_cons, List.map_nil, joinL, lst_nilS, List.nil_append, List.append_nil, List.append_assoc]
end Mine
end
section
open PySem PySem.W PySem.Calls PyProof.Rows
open PySem.StrLaws Builtin
set_option Elab.async false
set_option maxRecDepth 100000
set_option linter.unusedVariables false
namespace Mine
/-! parts that end with a sign that they do not hold -/
noncomputable def ended (d : Nat) (ps : List (List Nat)) : List Nat := ps.flatMap fun p => p ++ [d]
theorem cons_pre {x y : Nat} {A B : List Nat} : x :: A <+: y :: B ↔ x = y ∧ A <+: B := List.cons_prefix_cons
theorem cut_at {d : Nat} {A B : List Nat} {p : List Nat} : ∀ {q : List Nat}, d ∉ p → d ∉ q → (p ++ d :: A <+: q ++ d :: B ↔ p = q ∧ A <+: B) := by
  induction p with
  | nil =>
    intro q _ hq
    cases q with
    | nil => exact cons_pre.trans (and_congr_left fun _ => ⟨fun _ => rfl, fun _ => rfl⟩)
    | cons y q => exact cons_pre.trans ⟨fun h => absurd (h.1 ▸ .head _) hq, fun h => nomatch h.1⟩
  | cons x p ih =>
    intro q hp hq
    cases q with
    | nil => exact cons_pre.trans ⟨fun h => absurd (h.1 ▸ .head _) hp, fun h => nomatch h.1⟩
    | cons y q => exact cons_pre.trans ((and_congr_right fun _ => ih (fun h => hp (.tail _ h)) fun h => hq (.tail _ h)).trans (and_assoc.symm.trans (and_congr_left fun _ => (Iff.of_eq (List.cons.injEq ..)).symm)))
theorem ended_cons {d : Nat} {p : List Nat} {ps : List (List Nat)} {e : List Nat} : ended d (p :: ps) ++ e = p ++ d :: (ended d ps ++ e) := by
  unfold ended; rw [List.flatMap_cons, List.append_assoc, List.append_assoc]; rfl
theorem ended_cons' {d : Nat} {p : List Nat} {ps : List (List Nat)} : ended d (p :: ps) = p ++ d :: ended d ps := List.append_assoc p [d] _
theorem ended_iff {d : Nat} {e : List Nat} (he : d ∉ e) {ps : List (List Nat)} : ∀ {qs : List (List Nat)}, (∀ p ∈ ps, d ∉ p) → (∀ q ∈ qs, d ∉ q) → (ended d ps <+: ended d qs ++ e ↔ ps <+: qs) := by
  induction ps with
  | nil => exact fun _ _ => ⟨fun _ => List.nil_prefix, fun _ => List.nil_prefix⟩
  | cons p ps ih =>
    intro qs hp hq
    cases qs with
    | nil =>
      refine ⟨fun h => absurd (h.subset ?_) he, fun h => absurd (List.prefix_nil.mp h) (List.cons_ne_nil _ _)⟩
      rw [ended_cons']
      exact List.mem_append_right p (.head _)
    | cons q qs =>
      rw [ended_cons', ended_cons, cut_at (hp p (.head _)) (hq q (.head _)), ih (fun p h => hp p (.tail _ h)) (fun q h => hq q (.tail _ h)), List.cons_prefix_cons]
theorem joinL_snoc {d : Nat} (qs : List (List Nat)) (e : List Nat) : joinL [d] (qs ++ [e]) = ended d qs ++ e := by
  induction qs with
  | nil => rfl
  | cons q qs ih =>
    rw [ended_cons, ← ih]
    cases qs with
    | nil => exact List.append_assoc _ _ _
    | cons q' qs => exact List.append_assoc _ _ _
theorem joinL_end {d : Nat} {ps : List (List Nat)} (h : ps ≠ []) : joinL [d] ps ++ [d] = ended d ps := by
  rw [← List.dropLast_concat_getLast h, joinL_snoc]
  unfold ended
  rw [List.flatMap_append, List.append_assoc, List.flatMap_singleton]
theorem ended_inj {d : Nat} {ps qs : List (List Nat)} (hp : ∀ p ∈ ps, d ∉ p) (hq : ∀ q ∈ qs, d ∉ q) (h : ended d ps = ended d qs) : ps = qs := by
  have a := (ended_iff (d := d) List.not_mem_nil hp hq).mp (by rw [List.append_nil, h]; exact List.prefix_refl _)
  have b := (ended_iff (d := d) List.not_mem_nil hq hp).mp (by rw [List.append_nil, h]; exact List.prefix_refl _)
  exact a.eq_of_length (Nat.le_antisymm a.length_le b.length_le)
/-- told as a module: alike, or that and a dot ahead -/
theorem told_iff {d : Nat} {ps qs : List (List Nat)} (h1 : ps ≠ []) (h2 : qs ≠ []) (hp : ∀ p ∈ ps, d ∉ p) (hq : ∀ q ∈ qs, d ∉ q) : (joinL [d] qs = joinL [d] ps ∨ joinL [d] ps ++ [d] <+: joinL [d] qs) ↔ ps <+: qs := by
  have hinj : joinL [d] qs = joinL [d] ps → qs = ps := fun h => ended_inj hq hp (by rw [← joinL_end h2, ← joinL_end h1, h])
  rw [joinL_end h1]
  obtain ⟨q', e, rfl⟩ : ∃ q' e, qs = q' ++ [e] := ⟨_, _, (List.dropLast_concat_getLast h2).symm⟩
  rw [joinL_snoc, ended_iff (hq e (List.mem_append_right _ (.head _))) hp (fun q h => hq q (List.mem_append_left _ h)), List.prefix_concat_iff]
  refine or_congr ⟨fun h => ?_, fun h => ?_⟩ Iff.rfl
  · rw [← joinL_snoc] at h; exact (hinj h).symm
  · rw [← joinL_snoc, h]
theorem joinL_inj {d : Nat} {ps qs : List (List Nat)} (hp : ∀ p ∈ ps, d ∉ p ∧ p ≠ []) (hq : ∀ q ∈ qs, d ∉ q ∧ q ≠ []) (h : joinL [d] ps = joinL [d] qs) : ps = qs := by
  have hnil : ∀ {ps : List (List Nat)}, (∀ p ∈ ps, d ∉ p ∧ p ≠ []) → joinL [d] ps = [] → ps = [] := fun {ps} hp h => Decidable.byContradiction fun hn => by
    rw [← List.dropLast_concat_getLast hn, joinL_snoc] at h
    exact (hp _ (List.getLast_mem hn)).2 (List.append_eq_nil_iff.mp h).2
  by_cases h1 : ps = []
  · rw [h1] at h ⊢; exact (hnil hq h.symm).symm
  · by_cases h2 : qs = []
    · rw [h2] at h ⊢; exact hnil hp h
    · exact ended_inj (fun p h => (hp p h).1) (fun q h => (hq q h).1) (by rw [← joinL_end h1, ← joinL_end h2, h])
/-! a word's parts -/
noncomputable def ptL (c x : Nat) : List Nat := if x = c then [c] else [c, c]
noncomputable def sgn (c : Nat) : Str := ⟨#[c]⟩
theorem lst_sgn (c : Nat) : lst (sgn c) = [c] := rfl
theorem parts_lst (c : Nat) (u : Str) : (partsP u (sgn c)).map lst = (lst u).map (ptL c) := by
  unfold partsP
  rw [List.map_map]
  apply List.map_congr_left
  intro x _
  show lst (if (⟨#[x]⟩ : Str) = sgn c then sgn c else sgn c ++ sgn c) = ptL c x
  unfold ptL
  by_cases h : x = c
  · subst h; rw [if_pos (show (⟨#[x]⟩ : Str) = sgn x from rfl), if_pos rfl]; rfl
  · rw [if_neg h, if_neg (fun q => h ?_)]
    · rfl
    · exact List.head_eq_of_cons_eq (congrArg lst q)
theorem ptL_free {c d x : Nat} (h : d ≠ c) : d ∉ ptL c x := by
  have h1 : ∀ l : List Nat, (∀ y ∈ l, y = c) → d ∉ l := fun l hl hd => h (hl d hd)
  unfold ptL; split
  · exact h1 _ fun y hy => List.mem_singleton.mp hy
  · exact h1 _ fun y hy => (List.mem_cons.mp hy).elim id List.mem_singleton.mp
theorem ptL_ne {c x : Nat} : ptL c x ≠ [] := by unfold ptL; split <;> exact List.cons_ne_nil _ _
theorem ptL_len {c x y : Nat} (hx : x = c) (hy : y ≠ c) : ptL c x ≠ ptL c y := by
  unfold ptL; rw [if_pos hx, if_neg hy]; exact fun h => nomatch (List.cons.inj h).2
theorem ptL_inj {c x y : Nat} (hx : x = c ∨ x = 10) (hy : y = c ∨ y = 10) (hc : c ≠ 10) (h : ptL c x = ptL c y) : x = y := by
  by_cases h1 : x = c
  · by_cases h2 : y = c
    · exact h1.trans h2.symm
    · exact absurd h (ptL_len h1 h2)
  · by_cases h2 : y = c
    · exact absurd h.symm (ptL_len h2 h1)
    · exact (hx.resolve_left h1).trans (hy.resolve_left h2).symm
noncomputable def Two (c : Nat) (u : List Nat) : Prop := ∀ x ∈ u, x = c ∨ x = 10
theorem map_inj_two {c : Nat} (hc : c ≠ 10) {u : List Nat} : ∀ {v : List Nat}, Two c u → Two c v → u.map (ptL c) = v.map (ptL c) → u = v := by
  induction u with
  | nil => intro v _ _ h; exact (List.map_eq_nil_iff.mp h.symm).symm
  | cons x u ih =>
    intro v hu hv h
    cases v with
    | nil => exact nomatch h
    | cons y v =>
      have h' := List.cons.inj h
      rw [ptL_inj (hu x (.head _)) (hv y (.head _)) hc h'.1, ih (fun z hz => hu z (.tail _ hz)) (fun z hz => hv z (.tail _ hz)) h'.2]
theorem map_pre {c : Nat} (hc : c ≠ 10) {u v : List Nat} (hu : Two c u) (hv : Two c v) : u.map (ptL c) <+: v.map (ptL c) ↔ u <+: v := by
  constructor
  · intro h
    rw [List.prefix_iff_eq_take, List.length_map, ← List.map_take] at h
    have := map_inj_two hc hu (fun x hx => hv x (List.mem_of_mem_take hx)) h
    rw [this]; exact List.take_prefix _ _
  · rintro ⟨s, rfl⟩
    rw [List.map_append]; exact List.prefix_append _ _
theorem map_suf {c : Nat} (hc : c ≠ 10) {u v : List Nat} (hu : Two c u) (hv : Two c v) : u.map (ptL c) <:+ v.map (ptL c) ↔ u <:+ v := by
  constructor
  · intro h
    rw [List.suffix_iff_eq_drop, List.length_map, List.length_map, ← List.map_drop] at h
    have := map_inj_two hc hu (fun x hx => hv x (List.mem_of_mem_drop hx)) h
    rw [this]; exact List.drop_suffix _ _
  · rintro ⟨s, rfl⟩
    rw [List.map_append]; exact List.suffix_append _ _
/-! sizes of joined texts -/
theorem join_len {y : Str} {ps : List Str} {B : Nat} (hB : ∀ p ∈ ps, p.length ≤ B) : (Txt.join y ps).length ≤ ps.length * B + ps.length * y.length := by
  show (Builtin.Str.glued y ps).length ≤ _
  rw [glued_eq_join]
  exact Nat.le_trans (StrLaws.join_length_le y ps) (Nat.add_le_add_right (sumLen_le ps hB) _)
theorem joinOk_of {y : Str} {ps : List Str} {B : Nat} (hB : ∀ p ∈ ps, p.length ≤ B) (h : ps.length * B + ps.length * y.length ≤ 16777216) : JoinOk y ps = true := by
  unfold JoinOk
  rw [joinFits hB h]; rfl
theorem parts_len (u : Str) (c : Nat) : ∀ p ∈ partsP u (sgn c), p.length ≤ 2 := by
  intro p hp
  refine Mine.mapEl hp fun x _ => ?_
  split
  · exact (show (1 : Nat) ≤ 2 by decide)
  · rw [str_len_app]; exact (show (1 + 1 : Nat) ≤ 2 by decide)
theorem parts_num (u : Str) (σ : Str) : (partsP u σ).length = u.length := by unfold partsP; rw [List.length_map, ← len_lst]
theorem parts_ok {a b c : Nat} {u : Str} (hz : u.length ≤ 8) {ps : List Str} {y : Str} (hp : ∀ p ∈ ps, p.length ≤ 2) (hn : ps.length ≤ u.length + 2) (hy : y.length = 1) : JoinOk y ps = true := by
  refine joinOk_of (B := 2) hp ?_
  rw [hy]
  have h10 : ps.length ≤ 10 := Nat.le_trans hn (Nat.add_le_add_right hz 2)
  exact Nat.le_trans (Nat.add_le_add (Nat.mul_le_mul_right 2 h10) (Nat.mul_le_mul_right 1 h10)) (by decide)
theorem all_cons {p : Str} {ps : List Str} (h : p.length ≤ 2) (t : ∀ q ∈ ps, q.length ≤ 2) : ∀ q ∈ p :: ps, q.length ≤ 2 := fun q hq => (List.mem_cons.mp hq).elim (fun e => e ▸ h) (t q)
theorem short_join {y : Str} {ps : List Str} {n : Nat} (hy : y.length = 1) (hp : ∀ p ∈ ps, p.length ≤ 2) (hn : ps.length ≤ n) : (Txt.join y ps).length ≤ n * 2 + n * 1 :=
  Nat.le_trans (join_len (B := 2) hp) (by rw [hy]; exact Nat.add_le_add (Nat.mul_le_mul_right 2 hn) (Nat.mul_le_mul_right 1 hn))
end Mine
end
section
open PySem PySem.W PySem.Calls PyProof.Rows
open PySem.StrLaws Builtin
set_option Elab.async false
set_option maxRecDepth 100000
set_option linter.unusedVariables false
namespace Mine
/-! files and directories -/
theorem lst_dot : lst ("." : Str) = [46] := rfl
theorem lst_slash : lst ("/" : Str) = [47] := rfl
noncomputable def dirP (c : Nat) (u : Str) : Str := "/" ++ Txt.join "/" ("q" :: partsP u (sgn c))
theorem dir_lst (c : Nat) (u : Str) : lst (dirP c u ++ "/") = [47, 113, 47] ++ ended 47 ((lst u).map (ptL c)) := by
  unfold dirP
  rw [lst_app, lst_app, lst_join, lst_slash, List.map_cons, parts_lst, List.append_assoc, joinL_end (by simp)]
  simp [ended]; rfl
theorem file_lst (c : Nat) (u : Str) : lst (fileP (sgn c) u) = [47, 113, 47] ++ (ended 47 ((lst u).map (ptL c)) ++ [102]) := by
  unfold fileP
  rw [lst_join, List.map_cons, List.map_append, parts_lst, ← List.cons_append]
  show joinL [47] ((lst ("/q" : Str) :: (lst u).map (ptL c)) ++ [[102]]) = _
  rw [joinL_snoc]
  simp [ended]; rfl
theorem kept_parts {c : Nat} (hd : 46 ≠ c) (u : Str) : keptP (("q" : Str) :: ("." : Str) :: partsP u (sgn c)) = ("q" : Str) :: partsP u (sgn c) := by
  have hp : ∀ p ∈ partsP u (sgn c), (p.length != 0 && !decide (p = ".")) = true := by
    intro p hp
    have h1 : lst p ∈ (lst u).map (ptL c) := by rw [← parts_lst]; exact List.mem_map.mpr ⟨p, hp, rfl⟩
    refine Mine.el1b (List.mem_map.mp h1) fun x _ hx => ?_
    have h2 : lst p ≠ [] := by rw [← hx]; exact ptL_ne
    have h3 : p ≠ "." := fun q => by
      rw [q] at hx
      have : 46 ∈ ptL c x := by rw [hx]; exact .head _
      exact ptL_free hd this
    have h4 : p.length ≠ 0 := fun q => h2 (List.length_eq_zero_iff.mp (by rw [← len_lst]; exact q))
    rw [decide_eq_false h3, bne_iff_ne.mpr h4]; rfl
  have hq : (("q" : Str).length != 0 && !decide (("q" : Str) = ".")) = true := by decide +kernel
  have hdot : ¬ (("." : Str).length != 0 && !decide (("." : Str) = ".")) = true := by decide +kernel
  unfold keptP
  rw [List.filter_cons, if_pos hq, List.filter_cons, if_neg hdot, List.filter_eq_self.mpr hp]
theorem norm_ok {c : Nat} (hd : 46 ≠ c) (hs : 47 ≠ c) {u : Str} (hz : u.length ≤ 8) : NormOk (leadPath u (sgn c)) (dirP c u) := by
  have hB : ∀ p ∈ partsP u (sgn c), p.length ≤ 2 := parts_len u c
  have hn := parts_num u (sgn c)
  have hl1 : lst (leadPath u (sgn c)) = 47 :: lst (Txt.join "/" ("q" :: "." :: partsP u (sgn c))) := by
    unfold leadPath
    rw [lst_join, lst_join]
    have h1 : lst ("/q" : Str) = 47 :: lst ("q" : Str) := rfl
    cases hp : partsP u (sgn c) with
    | nil => simp only [List.map_cons, List.map_nil, joinL, h1, List.cons_append]
    | cons a r => simp only [List.map_cons, joinL, h1, List.cons_append]
  have hlen : ∀ (a b : Str), a.length ≤ 2 → b.length ≤ 2 → (Txt.join "/" (a :: b :: partsP u (sgn c))).length ≤ 100 := fun a b ha hb =>
    Nat.le_trans (short_join (n := 10) rfl (all_cons ha (all_cons hb hB)) (by rw [List.length_cons, List.length_cons, hn]; exact Nat.succ_le_succ (Nat.succ_le_succ hz))) (by decide)
  have hrest : spick (leadPath u (sgn c)) (some 1) none none = Txt.join "/" ("q" :: "." :: partsP u (sgn c)) := by
    apply lst_inj
    rw [lst_tail, hl1]; rfl
  have pt : ∀ {p : Str}, p ∈ partsP u (sgn c) → ∃ x, ptL c x = lst p := fun hp => by
    refine Exists.elim (List.mem_map.mp (show lst _ ∈ (lst u).map (ptL c) by rw [← parts_lst]; exact List.mem_map.mpr ⟨_, hp, rfl⟩)) fun x h => ⟨x, h.2⟩
  have hsplit : Txt.split (spick (leadPath u (sgn c)) (some 1) none none) "/" = ("q" : Str) :: ("." : Str) :: partsP u (sgn c) := by
    rw [hrest]
    refine split_join (k := 1) (d := 47) (by decide) rfl (by decide +kernel) (List.cons_ne_nil _ _) fun p hp => ?_
    refine (List.mem_cons.mp hp).elim (fun e => e ▸ (by decide)) fun hp => (List.mem_cons.mp hp).elim (fun e => e ▸ (by decide)) fun hp => ?_
    refine Exists.elim (pt hp) fun x hx => ?_
    rw [← hx]; exact ptL_free hs
  have hk2 : ∀ p ∈ ("q" : Str) :: partsP u (sgn c), p.length ≤ 2 := all_cons (by decide) hB
  have hk3 : (("q" : Str) :: partsP u (sgn c)).length ≤ 9 := by rw [List.length_cons, hn]; exact Nat.succ_le_succ hz
  refine ⟨_, Nat.le_trans (hlen "/q" "." (by decide) (by decide)) (by decide), by rw [len_lst, hl1]; rfl, ?_, ?_, ?_, rfl, ?_, ?_, ?_, ?_, ?_⟩
  · apply lst_inj
    rw [lst_spick, show (1 : Int) = ((1 : Nat) : Int) from rfl, pick_upto, hl1]; rfl
  · intro h
    have h1 := congrArg lst h
    rw [lst_spick, show (1 : Int) = ((1 : Nat) : Int) from rfl, show (2 : Int) = ((2 : Nat) : Int) from rfl, pick_range, hl1] at h1
    have h2 : lst (Txt.join "/" ("q" :: "." :: partsP u (sgn c))) = 113 :: ([47] ++ joinL [47] (lst ("." : Str) :: (partsP u (sgn c)).map lst)) := by
      rw [lst_join]; rfl
    rw [h2] at h1
    cases h1
  · rw [hrest]; exact Nat.le_trans (hlen "q" "." (by decide) (by decide)) (by decide)
  · rw [hsplit, List.length_cons]; exact Nat.le_trans (Nat.succ_le_succ hk3) (by decide)
  · rw [hsplit]
    intro p hp
    refine ⟨Nat.le_trans (all_cons (by decide) (all_cons (by decide) hB) p hp) (by decide), fun q => ?_⟩
    refine (List.mem_cons.mp hp).elim (fun e => absurd (congrArg lst (e.symm.trans q)) (by decide)) fun hp => (List.mem_cons.mp hp).elim (fun e => absurd (congrArg lst (e.symm.trans q)) (by decide)) fun hp => ?_
    refine Exists.elim (pt hp) fun x hx => ?_
    rw [q] at hx
    exact ptL_free hd (show 46 ∈ ptL c x by rw [hx]; exact .head _)
  · rw [hsplit, kept_parts hd]
    exact parts_ok (a := 0) (b := 0) (c := 0) hz hk2 (by rw [List.length_cons, hn]; exact Nat.le_succ _) rfl
  · rw [hsplit, kept_parts hd]
    exact Nat.le_trans (short_join rfl hk2 hk3) (by decide)
  · rw [hsplit, kept_parts hd]; rfl
end Mine
end
section
open PySem PySem.W PySem.Calls PyProof.Rows
open PySem.StrLaws Builtin
set_option Elab.async false
set_option maxRecDepth 100000
set_option linter.unusedVariables false
namespace Mine
/-! a word turned round, told as a module -/
theorem turned_lst (c : Nat) (u : Str) : lst (turnedP u (sgn c)) = joinL [46] ((lst u).map (ptL c)).reverse := by
  unfold turnedP
  rw [lst_join, List.map_reverse, parts_lst, lst_dot]
theorem rev_free {c d : Nat} (hd : d ≠ c) (u : List Nat) : ∀ p ∈ (u.map (ptL c)).reverse, d ∉ p := by
  intro p hp
  (refine Mine.el1b (List.mem_map.mp (List.mem_reverse.mp hp)) fun x _ hq1 => ?_; obtain rfl := hq1)
  exact ptL_free hd
theorem turned_inj {c : Nat} (hc : c ≠ 10) (hd : 46 ≠ c) {u v : Str} (hu : Two c (lst u)) (hv : Two c (lst v)) (h : turnedP u (sgn c) = turnedP v (sgn c)) : u = v := by
  have h1 := congrArg lst h
  rw [turned_lst, turned_lst] at h1
  have h2 := joinL_inj (d := 46) (fun p hp => ⟨rev_free hd _ p hp, ?_⟩) (fun p hp => ⟨rev_free hd _ p hp, ?_⟩) h1
  · exact lst_inj (map_inj_two hc hu hv (List.reverse_inj.mp h2))
  · (refine Mine.el1b (List.mem_map.mp (List.mem_reverse.mp hp)) fun x _ hq2 => ?_; obtain rfl := hq2); exact ptL_ne
  · (refine Mine.el1b (List.mem_map.mp (List.mem_reverse.mp hp)) fun x _ hq3 => ?_; obtain rfl := hq3); exact ptL_ne
theorem told_suf {c : Nat} (hc : c ≠ 10) (hd : 46 ≠ c) {u l : Str} (hu : Two c (lst u)) (hl : Two c (lst l)) (nu : lst u ≠ []) (nl : lst l ≠ []) :
    (turnedP u (sgn c) = turnedP l (sgn c) ∨ Txt.startswith (turnedP u (sgn c)) (turnedP l (sgn c) ++ ".") = true) ↔ lst l <:+ lst u := by
  have e1 : turnedP u (sgn c) = turnedP l (sgn c) ↔ joinL [46] ((lst u).map (ptL c)).reverse = joinL [46] ((lst l).map (ptL c)).reverse := by
    rw [← turned_lst, ← turned_lst]
    exact ⟨fun h => by rw [h], lst_inj⟩
  rw [starts_iff, decide_eq_true_eq, lst_app, turned_lst, turned_lst, lst_dot, e1,
    told_iff (fun q => nl (List.map_eq_nil_iff.mp (List.reverse_eq_nil_iff.mp q))) (fun q => nu (List.map_eq_nil_iff.mp (List.reverse_eq_nil_iff.mp q))) (rev_free hd _) (rev_free hd _), List.reverse_prefix, map_suf hc hl hu]
theorem kp2_eq {c : Nat} (hc : c ≠ 10) (hd : 46 ≠ c) {lacking : List Str} (hl : ∀ l ∈ lacking, Two c (lst l) ∧ lst l ≠ []) {u : Str} (hu : Two c (lst u)) (nu : lst u ≠ []) :
    kp2P (lacking.map fun l => turnedP l (sgn c)) (sgn c) u = !(lacking.any fun l => decide (lst l <:+ lst u)) := by
  have h1 : nmB (lacking.map fun l => turnedP l (sgn c)) [] (some "f") (turnedP u (sgn c)) = lacking.any fun l => decide (lst l <:+ lst u) := by
    unfold nmB
    rw [Bool.eq_iff_iff]
    simp only [List.any_nil, Bool.or_false, Bool.or_eq_true, decide_eq_true_eq, List.any_eq_true, List.mem_map]
    constructor
    · rintro (⟨l, hm, h⟩ | ⟨y, ⟨l, hm, rfl⟩, h⟩)
      · exact ⟨l, hm, (told_suf hc hd hu (hl l hm).1 nu (hl l hm).2).mp (.inl h.symm)⟩
      · exact ⟨l, hm, (told_suf hc hd hu (hl l hm).1 nu (hl l hm).2).mp (.inr h)⟩
    · rintro ⟨l, hm, h⟩
      rcases (told_suf hc hd hu (hl l hm).1 nu (hl l hm).2).mpr h with h | h
      · exact .inl ⟨l, hm, h.symm⟩
      · exact .inr ⟨_, ⟨l, hm, rfl⟩, h⟩
  unfold kp2P nmR
  rw [h1]
  cases lacking.any fun l => decide (lst l <:+ lst u) <;> rfl
theorem lead_eq {c : Nat} (hc : c ≠ 10) (hd : 47 ≠ c) {u l : Str} (hu : Two c (lst u)) (hl : Two c (lst l)) : (nmR [] [dirP c u] (some (fileP (sgn c) l)) (fileP (sgn c) l) == 1) = decide (lst u <+: lst l) := by
  have h1 : nmB [] [dirP c u] (some (fileP (sgn c) l)) (fileP (sgn c) l) = decide (lst u <+: lst l) := by
    unfold nmB
    simp only [List.not_mem_nil, decide_false, List.any_nil, Bool.false_or, List.any_cons, Bool.or_false]
    rw [starts_iff, dir_lst, file_lst]
    apply decide_eq_decide.mpr
    rw [List.prefix_append_right_inj, ended_iff (by simp) (fun p hp => ?_) (fun p hp => ?_), map_pre hc hu hl]
    · refine Mine.mapEl hp fun x _ => ?_; exact ptL_free hd
    · refine Mine.mapEl hp fun x _ => ?_; exact ptL_free hd
  unfold nmR
  rw [h1]
  cases decide (lst u <+: lst l) <;> rfl
end Mine
end
section
open PySem PySem.W PySem.Calls PyProof.Rows
open PySem.StrLaws Builtin
set_option Elab.async false
set_option maxRecDepth 100000
set_option linter.unusedVariables false
namespace Mine
namespace W
theorem lvL_congr {kp kp' : Wd → Bool} {sg : Wd} (h : ∀ w c, (∀ x ∈ w, x ∈ sg) → c ∈ sg → kp (w ++ [c]) = kp' (w ++ [c])) (i : Nat) : lvL kp sg i = lvL kp' sg i ∧ ∀ u ∈ lvL kp sg i, ∀ x ∈ u, x ∈ sg := by
  induction i with
  | zero => exact ⟨rfl, fun u hu x hx => by rw [List.mem_singleton.mp hu] at hx; cases hx⟩
  | succ i ih =>
    refine ⟨(through_step fun w hw c hc => h w c (ih.2 w hw) hc).trans (congrArg (stepL kp' sg) ih.1), fun u hu x hx => ?_⟩
    obtain ⟨w, hw, c, hc, _, rfl⟩ := mem_step.mp hu
    exact (List.mem_append.mp hx).elim (ih.2 w hw x) fun hx => List.mem_singleton.mp hx ▸ hc
theorem grL_congr {kp kp' : Wd → Bool} {sg : Wd} (h : ∀ w c, (∀ x ∈ w, x ∈ sg) → c ∈ sg → kp (w ++ [c]) = kp' (w ++ [c])) (i : Nat) : grL kp sg i = grL kp' sg i := by
  induction i with
  | zero => rfl
  | succ i ih =>
    show grL _ sg i ++ lvL _ sg (i + 1) = grL _ sg i ++ lvL _ sg (i + 1)
    rw [ih, (lvL_congr h (i + 1)).1]
theorem lv_all {sg : Wd} (i : Nat) : ∀ (u : Wd), (∀ x ∈ u, x ∈ sg) → u.length = i → u ∈ lvL (fun _ => true) sg i := by
  induction i with
  | zero => exact fun u _ h => List.mem_singleton.mpr (List.length_eq_zero_iff.mp h)
  | succ i ih =>
    intro u hu hl
    obtain ⟨w, c, rfl, hw⟩ := snoc_len hl
    exact mem_step.mpr ⟨w, ih w (fun x hx => hu x (List.mem_append_left _ hx)) hw, c, hu c mem_snoc, rfl, rfl⟩
theorem mem_all {sg : Wd} (m : Nat) (u : Wd) (hu : ∀ x ∈ u, x ∈ sg) : u.length ≤ m → u ∈ grL (fun _ => true) sg m := by
  induction m with
  | zero => exact fun h => List.mem_singleton.mpr (List.length_eq_zero_iff.mp (Nat.le_zero.mp h))
  | succ m ih => exact fun h => (Nat.lt_or_eq_of_le h).elim (fun q => List.mem_append_left _ (ih (Nat.le_of_lt_succ q))) fun q => List.mem_append_right _ (lv_all (m + 1) u hu q)
end W
/-! strs and lists -/
theorem ofL_app (w : Str) (c : Nat) : ofL (lst w ++ [c]) = w ++ ⟨#[c]⟩ := lst_inj (by rw [lst_app])
theorem step_lst (kp : Str → Bool) (sg : Str) (lv : List Str) : (grStep kp sg lv).map lst = W.stepL (fun l => kp (ofL l)) (lst sg) (lv.map lst) := by
  unfold grStep W.stepL
  induction lv with
  | nil => rfl
  | cons w lv ih =>
    rw [List.flatMap_cons, List.map_append, ih, List.map_cons, List.flatMap_cons]
    refine congrArg (· ++ _) ?_
    unfold chrs
    rw [List.filter_map, List.map_map, List.map_map]
    exact (congrArg _ (List.filter_congr (q := fun c => kp (ofL (lst w ++ [c]))) fun c _ => congrArg kp (ofL_app w c).symm)).trans (List.map_congr_left fun c _ => lst_app w ⟨#[c]⟩)
theorem lv_lst (kp : Str → Bool) (sg : Str) (i : Nat) : (grLv kp sg i).map lst = W.lvL (fun l => kp (ofL l)) (lst sg) i := by
  induction i with
  | zero => rfl
  | succ i ih => exact (step_lst kp sg _).trans (congrArg (W.stepL _ _) ih)
theorem gr_lst (kp : Str → Bool) (sg : Str) (i : Nat) : (grW kp sg i).map lst = W.grL (fun l => kp (ofL l)) (lst sg) i := by
  induction i with
  | zero => rfl
  | succ i ih =>
    show (grW kp sg i ++ grLv kp sg (i + 1)).map lst = W.grL _ _ i ++ W.lvL _ _ (i + 1)
    rw [List.map_append, ih, lv_lst kp sg (i + 1)]
theorem mem_lst {l : List Str} {x : Str} : lst x ∈ l.map lst ↔ x ∈ l := by
  rw [List.mem_map]
  exact ⟨fun ⟨y, h1, h2⟩ => lst_inj h2 ▸ h1, fun h => ⟨x, h, rfl⟩⟩
theorem contains_lst (l : List Str) (x : Str) : (l.map lst).contains (lst x) = l.contains x := by
  rw [Bool.eq_iff_iff, List.contains_iff_mem, List.contains_iff_mem, mem_lst]
theorem map_ofL (l : List Str) : (l.map lst).map ofL = l := by rw [List.map_map]; exact (List.map_congr_left fun x _ => ofL_lst x).trans (List.map_id l)
theorem map_lst_inj {l l' : List Str} (h : l.map lst = l'.map lst) : l = l' := by rw [← map_ofL l, h, map_ofL]
theorem filter_flat {f g : List Nat → Nat → Bool} {found : List (List Nat)} {sg : List Nat} (h : ∀ w c, f w c = g w c) : (found.flatMap fun w => (sg.filter (f w)).map fun c => w ++ [c]) = found.flatMap fun w => (sg.filter (g w)).map fun c => w ++ [c] := by
  rw [show f = g from funext fun w => funext (h w)]
theorem lack_lst (sg : Str) (found : List Str) : (lackP sg found).map lst = W.lackL (lst sg) (found.map lst) := by
  rw [show lackP sg found = grStep (kpL found) sg found from rfl, step_lst]
  refine filter_flat fun w c => ?_
  show (!found.contains (ofL (w ++ [c])) && found.contains (spick (ofL (w ++ [c])) (some 1) none none)) = _
  rw [← contains_lst found (ofL (w ++ [c])), ← contains_lst found (spick _ _ _ _), lst_tail, lst_ofL]
theorem joinL_nil : ∀ ps : List (List Nat), joinL [] ps = ps.flatten
  | [] => rfl
  | [p] => (List.append_nil p).symm
  | p :: q :: r => by
    rw [List.flatten_cons, ← joinL_nil (q :: r)]
    exact congrArg (· ++ _) (List.append_nil p)
theorem longP_lst {em : Str → Bool} {em' : W.Wd → Bool} (h : ∀ b, em b = em' (lst b)) {l : List Str} {x : Str} : W.longL em' (l.map lst) = some (lst x) → longP em l = some x := by
  induction l with
  | nil => exact fun h1 => nomatch h1
  | cons b l ih =>
    intro h1
    rw [List.map_cons, W.longL, ← h b] at h1
    rw [longP]
    cases hb : em b with
    | true => rw [hb] at h1; exact congrArg some (lst_inj (Option.some.inj h1))
    | false => rw [hb] at h1; exact ih h1
theorem mem2 {x a b : Nat} (h : x ∈ [a, b]) : x = a ∨ x = b := (List.mem_cons.mp h).imp id List.mem_singleton.mp
theorem of2 {x a b : Nat} (h : x = a ∨ x = b) : x ∈ [a, b] := List.mem_cons.mpr (h.imp id List.mem_singleton.mpr)
theorem two_app {c x : Nat} {w : List Nat} (hw : Two c w) (hx : x ∈ [c, 10]) : Two c (w ++ [x]) := fun y hy => (List.mem_append.mp hy).elim (hw y) fun h => List.mem_singleton.mp h ▸ mem2 hx
theorem free_join {d e : Nat} (hde : e ≠ d) (ps : List (List Nat)) (h : ∀ p ∈ ps, e ∉ p) : e ∉ joinL [d] ps := by
  induction ps with
  | nil => exact List.not_mem_nil
  | cons p r ih =>
    cases r with
    | nil => exact h p (.head _)
    | cons q r =>
      intro hm
      exact (List.mem_append.mp (show e ∈ p ++ [d] ++ joinL [d] (q :: r) from hm)).elim (fun hm => (List.mem_append.mp hm).elim (h p (.head _)) fun hm => hde (List.mem_singleton.mp hm)) (ih fun p hp => h p (.tail _ hp))
set_option maxHeartbeats 1000000 in
theorem facts1 {c : Nat} (hc97 : 97 ≤ c) {t : Str} (ht : Two c (lst t)) (h0 : lst t ≠ []) (h6 : t.length ≤ 6) : Nonempty (Facts1 (sgn c) t) := by
  have hc : c ≠ 10 := fun h => absurd (h ▸ hc97 : 97 ≤ 10) (by decide)
  have hd : 46 ≠ c := fun h => absurd (h ▸ hc97 : 97 ≤ 46) (by decide)
  have hs : 47 ≠ c := fun h => absurd (h ▸ hc97 : 97 ≤ 47) (by decide)
  have h60 : 60 ≠ c := fun h => absurd (h ▸ hc97 : 97 ≤ 60) (by decide)
  have hsgl : lst (sgOf (sgn c)) = [c, 10] := rfl
  have hsg2 : (sgOf (sgn c)).length ≤ 2 := by rw [len_lst, hsgl]; exact Nat.le_refl 2
  have two_of : ∀ {m : Nat} {u : Str}, inW (sgOf (sgn c)) m u → Two c (lst u) := fun h x hx => mem2 (h.2 x hx)
  have no46' : ∀ {u : List Nat}, Two c u → 46 ∉ u := fun h q => (h _ q).elim hd (by decide)
  have hsg : ∀ x ∈ lst t, x ∈ [c, 10] := fun x hx => of2 (ht x hx)
  have hn : [c, 10].Nodup := List.nodup_cons.mpr ⟨fun h => hc (List.mem_singleton.mp h), List.nodup_cons.mpr ⟨List.not_mem_nil, List.nodup_nil⟩⟩
  have hl6 : (lst t).length ≤ 6 := by rw [← len_lst]; exact h6
  let kp : Str → Bool := fun u => decide (lst u <:+: lst t)
  generalize hfound : grW kp (sgOf (sgn c)) (t.length + 1) = found
  have hfl : found.map lst = W.grL (fun u => decide (W.F (lst t) u)) [c, 10] ((lst t).length + 1) := by
    rw [← hfound, gr_lst, ← len_lst]
    rfl
  have hmem : ∀ l, l ∈ found.map lst ↔ W.F (lst t) l := fun l => by
    rw [hfl, W.mem_gr hsg]
    exact ⟨fun h => h.2, fun h => ⟨Nat.le_succ_of_le h.len, h⟩⟩
  have hmf : ∀ u, u ∈ found ↔ W.F (lst t) (lst u) := fun u => by rw [← mem_lst, hmem]
  have ftwo : ∀ {u}, W.F (lst t) u → Two c u := fun h x hx => mem2 (h.let_ hsg x hx)
  have fin : ∀ {u : Str}, u ∈ found → Two c (lst u) ∧ u.length ≤ 6 := fun {u} h => ⟨ftwo ((hmf u).mp h), by rw [len_lst]; exact Nat.le_trans ((hmf u).mp h).len hl6⟩
  generalize hlack : lackP (sgOf (sgn c)) found = lacking
  have hll : lacking.map lst = W.lackL [c, 10] (found.map lst) := by rw [← hlack, lack_lst]; rfl
  have lin : ∀ {l : Str}, l ∈ lacking → Two c (lst l) ∧ lst l ≠ [] ∧ l.length ≤ 7 := fun {l} h => by
    have h1 := mem_lst.mpr h
    rw [hll] at h1
    refine Mine.el2d ((W.mem_lack hmem).mp h1) fun w x e hw hx _ => ?_
    refine ⟨e ▸ two_app (ftwo hw) hx, fun q => (by rw [q] at e; exact absurd e.symm (List.append_ne_nil_of_right_ne_nil _ (List.cons_ne_nil _ _))), ?_⟩
    rw [len_lst, e, W.len_snoc]
    exact Nat.succ_le_succ (Nat.le_trans hw.len hl6)
  have hnd : (found.map lst).Nodup := by rw [hfl]; exact W.gr_nodup hn _
  have hsort : (found.map lst).Pairwise fun a b => a.length ≤ b.length := by rw [hfl]; exact W.gr_sorted _
  have hle : ∀ {w l : Str}, w ∈ found → l ∈ lacking → (nmR [] [dirP c w] (some (fileP (sgn c) l)) (fileP (sgn c) l) == 1) = decide (lst w <+: lst l) := fun hw hl => lead_eq hc hs (fin hw).1 (lin hl).1
  have hleads : ∀ w ∈ found, leadsP (dirP c w) (lacking.map (fileP (sgn c))) = lacking.map fun l => decide (lst w <+: lst l) := fun w hw => by
    unfold leadsP
    rw [List.map_map]
    exact List.map_congr_left fun l hl => hle hw hl
  generalize hbeg : beginsP (sgn c) (dirP c) found lacking = begins
  have hbl : begins.map lst = (found.map lst).filter fun b => (W.lackL [c, 10] (found.map lst)).any fun l => decide (b <+: l) := by
    rw [← hbeg, ← hll]
    unfold beginsP
    rw [List.filter_map]
    congr 1
    apply List.filter_congr
    intro w hw
    rw [hleads w hw, Bool.eq_iff_iff, List.contains_iff_mem, List.mem_map]
    show _ ↔ ((lacking.map lst).any fun l => decide (lst w <+: l)) = true
    rw [List.any_map, List.any_eq_true]
    exact Iff.rfl
  have hpl : ∀ {u : Str}, u.length ≤ 8 → JoinOk "/" ("/q" :: (partsP u (sgn c) ++ [("f" : Str)])) = true ∧ JoinOk "/" ("/q" :: "." :: partsP u (sgn c)) = true ∧ JoinOk "." (partsP u (sgn c)).reverse = true := fun {u} hz => by
    have hB := parts_len u c
    have hnum := parts_num u (sgn c)
    refine ⟨parts_ok (a := 0) (b := 0) (c := 0) hz (all_cons (by decide) fun p hp => (List.mem_append.mp hp).elim (hB p) fun h => List.mem_singleton.mp h ▸ (by decide)) ?_ rfl, parts_ok (a := 0) (b := 0) (c := 0) hz (all_cons (by decide) (all_cons (by decide) hB)) ?_ rfl, parts_ok (a := 0) (b := 0) (c := 0) hz (fun p hp => hB p (List.mem_reverse.mp hp)) ?_ rfl⟩
    · rw [List.length_cons, List.length_append, hnum]; exact Nat.le_refl _
    · rw [List.length_cons, List.length_cons, hnum]; exact Nat.le_refl _
    · rw [List.length_reverse, hnum]; exact Nat.le_add_right _ _
  refine ⟨{ hσ := rfl, ht := h6, kp := kp, em1 := ?_, tj := ?_, tn := ?_, found := found, hfound := hfound, lacking := lacking, hlack := hlack, thr := ?_, last := ?_, nd := ?_, ks := (grW (fun _ => true) (sgOf (sgn c)) 8).map fun u => turnedP u (sgn c), ksOk := ?_, ksLen := ?_, tinj := ?_, jf := ?_, fn := ?_, jp := ?_, dOf := dirP c, dOk := ?_, em2 := fun w l => decide (lst w <+: lst l), em2Ok := ?_, leads := ?_, laps := ?_, begins := begins, hbegins := hbeg, em3 := fun b k => decide (lst b <:+ lst k), em3Ok := ?_, fin := ?_ }⟩
  · intro u hu
    exact em_mid (no46' (two_of hu)) (Nat.le_trans hu.1 (by decide)) (Nat.le_trans h6 (by decide))
  · intro u hu; exact (hpl hu.1).2.2
  · intro u hu
    refine ⟨fun q => ?_, ?_⟩
    · have h1 := congrArg lst q
      rw [turned_lst] at h1
      have h6m : (60 : Nat) ∈ lst ("<string>" : Str) := by decide +kernel
      rw [← h1] at h6m
      exact free_join (by decide) _ (rev_free h60 _) h6m
    · exact Nat.le_trans (short_join (n := 8) rfl (fun p hp => parts_len u c p (List.mem_reverse.mp hp)) (by rw [List.length_reverse, parts_num]; exact hu.1)) (by decide)
  · apply map_lst_inj
    rw [gr_lst, hfl, ← W.through_gr hmem hsg, ← len_lst]
    rw [hsgl]
    apply W.grL_congr
    intro w x hw hx
    have htwo : Two c (lst (ofL (w ++ [x]))) := by rw [lst_ofL]; exact two_app (fun y hy => mem2 (hw y hy)) hx
    rw [kp2_eq hc hd (fun l hl => ⟨(lin hl).1, (lin hl).2.1⟩) htwo (by rw [lst_ofL]; exact List.append_ne_nil_of_right_ne_nil _ (List.cons_ne_nil _ _)), ← hll, List.any_map, lst_ofL]
    rfl
  · refine Mine.el1a (W.gr_last hsg hn h0) fun l hl => ?_
    rw [← hfl] at hl
    refine ⟨l.map ofL, map_lst_inj ?_⟩
    rw [hl, List.map_append, List.map_map]
    exact congrArg (· ++ _) ((List.map_congr_left fun x _ => lst_ofL x).trans (List.map_id l)).symm
  · exact (List.pairwise_map.mp hnd).imp fun h e => h (congrArg lst e)
  · intro u hu
    refine List.mem_map.mpr ⟨u, ?_, rfl⟩
    rw [← mem_lst, gr_lst, hsgl]
    exact W.mem_all 8 _ (fun x hx => of2 (two_of hu x hx)) (by rw [← len_lst]; exact hu.1)
  · rw [List.length_map]
    exact Nat.le_trans (grW_len hsg2 8) (by decide)
  · intro u hu v hv h
    exact turned_inj hc hd (fin hu).1 (fin hv).1 h
  · intro l hl; exact (hpl (Nat.le_trans (lin hl).2.2 (by decide))).1
  · intro l hl q
    have h1 := congrArg lst q
    rw [file_lst] at h1
    have h2 : some 47 = some 60 := congrArg (·.head?) h1
    cases h2
  · intro w hw; exact (hpl (Nat.le_trans (fin hw).2 (by decide))).2.1
  · intro w hw
    refine ⟨norm_ok hd hs (Nat.le_trans (fin hw).2 (by decide)), ?_⟩
    unfold dirP
    rw [str_len_app]
    exact Nat.le_trans (Nat.add_le_add_left (short_join (n := 7) rfl (all_cons (by decide) (parts_len w c)) (by rw [List.length_cons, parts_num]; exact Nat.succ_le_succ (fin hw).2)) 1) (by decide)
  · intro w hw l hl
    exact em_pre (no46' (fin hw).1) (Nat.le_trans (fin hw).2 (by decide)) (Nat.le_trans (lin hl).2.2 (by decide))
  · exact hleads
  · intro l hl dots hdm
    exact em_lap (no46' (lin hl).1) (fun q => (lin hl).2.1 (List.length_eq_zero_iff.mp (by rw [← len_lst]; exact q))) (Nat.le_trans (lin hl).2.2 (by decide)) hdm
  · intro b hb k hk
    have hbf : b ∈ found := by rw [← hbeg] at hb; exact (List.mem_filter.mp hb).1
    exact em_suf (no46' (fin hbf).1) (Nat.le_trans (fin hbf).2 (by decide)) (Nat.le_trans (fin hk).2 (by decide))
  · intro k hk
    refine Exists.elim (W.fin_spec hmem hsg (List.cons_ne_nil _ _) hsort hnd hbl ((hmf k).mp hk)) fun x h => ?_
    have hg : ∀ b, (goesP found b).map lst = (found.map lst).filter fun m => (found.map lst).contains (lst b ++ m) := fun b => by
      unfold goesP
      rw [List.filter_map]
      exact congrArg _ (List.filter_congr fun m _ => by rw [← contains_lst, lst_app]; rfl)
    refine ⟨ofL x, map_lst_inj ?_, longP_lst (em' := fun b => decide (b <:+ lst k)) (fun b => rfl) (by rw [List.map_reverse]; exact h.2)⟩
    rw [List.map_cons, List.map_nil, lst_ofL, ← h.1, List.filter_map]
    refine congrArg _ (List.filter_congr fun b _ => decide_eq_decide.mpr ?_)
    rw [← hg, ← hg]
    exact ⟨congrArg _, map_lst_inj⟩
end Mine
end
section
open PySem PySem.W PySem.Calls PyProof.Rows
open PySem.StrLaws Builtin
set_option Elab.async false
set_option maxRecDepth 100000
set_option linter.unusedVariables false
namespace Mine
theorem flat_two {c : Nat} : ∀ {l : List Str}, (∀ p ∈ l, p = sgn c ∨ p = "\n") → Two c ((l.map lst).flatten) ∧ ((l.map lst).flatten).length = l.length
  | [], _ => ⟨fun x hx => by simp at hx, rfl⟩
  | p :: l, h => by
    refine Mine.el0b (flat_two (l := l) fun p hp => h p (.tail _ hp)) fun h1 h2 => ?_
    have hp := h p (.head _)
    rw [List.map_cons, List.flatten_cons]
    refine ⟨fun x hx => ?_, ?_⟩
    · rcases List.mem_append.mp hx with hx | hx
      · rcases hp with rfl | rfl
        · exact .inl (by simpa [sgn] using hx)
        · have : lst ("\n" : Str) = [10] := rfl
          rw [this] at hx
          exact .inr (by simpa using hx)
      · exact h1 x hx
    · rw [List.length_append, h2, List.length_cons]
      rcases hp with rfl | rfl
      · show 1 + l.length = _; omega
      · show 1 + l.length = _; omega
theorem all_facts (ns : List Int) : JoinOk "" (textOf ns) = true ∧ Nonempty (Facts1 (sigOf ns) (Txt.join "" (textOf ns))) := by
  have hm0 : 0 ≤ (ns.take 6).sum.fmod 55199 := Int.fmod_nonneg_of_pos _ (by decide)
  generalize hc : (97 + (ns.take 6).sum.fmod 55199).toNat = c
  have hc97 : 97 ≤ c := by omega
  have hσ : sigOf ns = sgn c := by unfold sigOf; rw [hc]; rfl
  have hnum : 4 ≤ (textOf ns).length ∧ (textOf ns).length ≤ 6 := by
    unfold textOf drawnOf
    simp only [List.length_map, List.length_append, List.length_take, List.length_drop, List.length_cons, List.length_nil]
    omega
  have hel : ∀ p ∈ textOf ns, p = sgn c ∨ p = "\n" := fun p hp => by
    refine Mine.mapEl hp fun x _ => ?_
    split
    · exact .inl hσ
    · exact .inr rfl
  have hl1 : ∀ p ∈ textOf ns, p.length ≤ 1 := fun p hp => by
    rcases hel p hp with rfl | rfl
    · exact Nat.le_refl 1
    · exact (show (1 : Nat) ≤ 1 by decide)
  have he : ("" : Str).length = 0 := rfl
  refine ⟨joinOk_of hl1 (by rw [he]; omega), ?_⟩
  have hj : lst (Txt.join "" (textOf ns)) = ((textOf ns).map lst).flatten := by
    rw [lst_join]; exact joinL_nil _
  refine Mine.el0b (flat_two hel) fun h1 h2 => ?_
  rw [hσ]
  refine facts1 hc97 (by rw [hj]; exact h1) (fun q => ?_) (by rw [len_lst, hj, h2]; exact hnum.2)
  rw [hj] at q
  rw [q] at h2
  simp at h2
  omega
end Mine
end
theorem PySem.Challenge.cw_pu0015_01_holds : PySem.Challenge.rw_pu0015_01.Holds :=
  Mine.top (Mine.law_walk Mine.all_facts _)
