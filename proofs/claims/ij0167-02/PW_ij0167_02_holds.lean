import PyProof.Rows.All
import Wide.All
import OpenK.AllK
import Wide.FinOn
import Lean
import PySem.Challenge.RW_ij0167_02
set_option Elab.async false
set_option linter.all false
set_option genSizeOf false
namespace Mine
def byRfl : Lean.Syntax := Lean.Unhygienic.run `(Lean.Parser.Tactic.tacticSeq| rfl)
def byI1 : Lean.Syntax := Lean.Unhygienic.run `(Lean.Parser.Tactic.tacticSeq| (intro _; rfl))
def byI2 : Lean.Syntax := Lean.Unhygienic.run `(Lean.Parser.Tactic.tacticSeq| (intro _ _; rfl))
def byI3 : Lean.Syntax := Lean.Unhygienic.run `(Lean.Parser.Tactic.tacticSeq| (intro _ _ _; rfl))
def byDec : Lean.Syntax := Lean.Unhygienic.run `(Lean.Parser.Tactic.tacticSeq| decide)
def byNo : Lean.Syntax := Lean.Unhygienic.run `(Lean.Parser.Tactic.tacticSeq| nofun)
def byEx : Lean.Syntax := Lean.Unhygienic.run `(Lean.Parser.Tactic.tacticSeq| exact ⟨_, _, rfl, rfl⟩)
def byOpen : Lean.Syntax := Lean.Unhygienic.run `(Lean.Parser.Tactic.tacticSeq| exact ⟨nofun, nofun⟩)
end Mine
namespace Mine
open PySem PySem.W PyProof.Rows
theorem hide {P : Prop} (h : ∀ Q : Prop, (P → Q) → Q) : P := h P id
theorem x0a2  {P Q : Prop} {H : Prop} (h : P ∧ Q) (kk : P → Q → H) : H := kk h.1 h.2
theorem x0a3  {P Q R : Prop} {H : Prop} (h : P ∧ Q ∧ R) (kk : P → Q → R → H) : H := kk h.1 h.2.1 h.2.2
theorem x0a4  {P Q R S : Prop} {H : Prop} (h : P ∧ Q ∧ R ∧ S) (kk : P → Q → R → S → H) : H := kk h.1 h.2.1 h.2.2.1 h.2.2.2
theorem x0a5  {P Q R S T : Prop} {H : Prop} (h : P ∧ Q ∧ R ∧ S ∧ T) (kk : P → Q → R → S → T → H) : H := kk h.1 h.2.1 h.2.2.1 h.2.2.2.1 h.2.2.2.2
theorem x1a1 {α : Sort _} {P : α → Prop} {H : Prop} (h : ∃ a, P a) (kk : ∀ a, P a → H) : H := h.elim fun a h => kk a h
theorem x1a2 {α : Sort _} {P Q : α → Prop} {H : Prop} (h : ∃ a, P a ∧ Q a) (kk : ∀ a, P a → Q a → H) : H := h.elim fun a h => kk a h.1 h.2
theorem x1a3 {α : Sort _} {P Q R : α → Prop} {H : Prop} (h : ∃ a, P a ∧ Q a ∧ R a) (kk : ∀ a, P a → Q a → R a → H) : H := h.elim fun a h => kk a h.1 h.2.1 h.2.2
theorem x1a4 {α : Sort _} {P Q R S : α → Prop} {H : Prop} (h : ∃ a, P a ∧ Q a ∧ R a ∧ S a) (kk : ∀ a, P a → Q a → R a → S a → H) : H := h.elim fun a h => kk a h.1 h.2.1 h.2.2.1 h.2.2.2
theorem x1a5 {α : Sort _} {P Q R S T : α → Prop} {H : Prop} (h : ∃ a, P a ∧ Q a ∧ R a ∧ S a ∧ T a) (kk : ∀ a, P a → Q a → R a → S a → T a → H) : H := h.elim fun a h => kk a h.1 h.2.1 h.2.2.1 h.2.2.2.1 h.2.2.2.2
theorem x1a6 {α : Sort _} {P Q R S T U : α → Prop} {H : Prop} (h : ∃ a, P a ∧ Q a ∧ R a ∧ S a ∧ T a ∧ U a) (kk : ∀ a, P a → Q a → R a → S a → T a → U a → H) : H := h.elim fun a h => kk a h.1 h.2.1 h.2.2.1 h.2.2.2.1 h.2.2.2.2.1 h.2.2.2.2.2
theorem x2a1 {α : Sort _} {β : Sort _} {P : α → β → Prop} {H : Prop} (h : ∃ a b, P a b) (kk : ∀ a b, P a b → H) : H := h.elim fun a h => h.elim fun b h => kk a b h
theorem x2a2 {α : Sort _} {β : Sort _} {P Q : α → β → Prop} {H : Prop} (h : ∃ a b, P a b ∧ Q a b) (kk : ∀ a b, P a b → Q a b → H) : H := h.elim fun a h => h.elim fun b h => kk a b h.1 h.2
theorem x2a3 {α : Sort _} {β : Sort _} {P Q R : α → β → Prop} {H : Prop} (h : ∃ a b, P a b ∧ Q a b ∧ R a b) (kk : ∀ a b, P a b → Q a b → R a b → H) : H := h.elim fun a h => h.elim fun b h => kk a b h.1 h.2.1 h.2.2
theorem x2a4 {α : Sort _} {β : Sort _} {P Q R S : α → β → Prop} {H : Prop} (h : ∃ a b, P a b ∧ Q a b ∧ R a b ∧ S a b) (kk : ∀ a b, P a b → Q a b → R a b → S a b → H) : H := h.elim fun a h => h.elim fun b h => kk a b h.1 h.2.1 h.2.2.1 h.2.2.2
theorem x2a5 {α : Sort _} {β : Sort _} {P Q R S T : α → β → Prop} {H : Prop} (h : ∃ a b, P a b ∧ Q a b ∧ R a b ∧ S a b ∧ T a b) (kk : ∀ a b, P a b → Q a b → R a b → S a b → T a b → H) : H := h.elim fun a h => h.elim fun b h => kk a b h.1 h.2.1 h.2.2.1 h.2.2.2.1 h.2.2.2.2
theorem x2a6 {α : Sort _} {β : Sort _} {P Q R S T U : α → β → Prop} {H : Prop} (h : ∃ a b, P a b ∧ Q a b ∧ R a b ∧ S a b ∧ T a b ∧ U a b) (kk : ∀ a b, P a b → Q a b → R a b → S a b → T a b → U a b → H) : H := h.elim fun a h => h.elim fun b h => kk a b h.1 h.2.1 h.2.2.1 h.2.2.2.1 h.2.2.2.2.1 h.2.2.2.2.2
theorem x2a7 {α : Sort _} {β : Sort _} {P Q R S T U V : α → β → Prop} {H : Prop} (h : ∃ a b, P a b ∧ Q a b ∧ R a b ∧ S a b ∧ T a b ∧ U a b ∧ V a b) (kk : ∀ a b, P a b → Q a b → R a b → S a b → T a b → U a b → V a b → H) : H := h.elim fun a h => h.elim fun b h => kk a b h.1 h.2.1 h.2.2.1 h.2.2.2.1 h.2.2.2.2.1 h.2.2.2.2.2.1 h.2.2.2.2.2.2
theorem x3a1 {α : Sort _} {β : Sort _} {γ : Sort _} {P : α → β → γ → Prop} {H : Prop} (h : ∃ a b c, P a b c) (kk : ∀ a b c, P a b c → H) : H := h.elim fun a h => h.elim fun b h => h.elim fun c h => kk a b c h
theorem x3a2 {α : Sort _} {β : Sort _} {γ : Sort _} {P Q : α → β → γ → Prop} {H : Prop} (h : ∃ a b c, P a b c ∧ Q a b c) (kk : ∀ a b c, P a b c → Q a b c → H) : H := h.elim fun a h => h.elim fun b h => h.elim fun c h => kk a b c h.1 h.2
theorem x3a3 {α : Sort _} {β : Sort _} {γ : Sort _} {P Q R : α → β → γ → Prop} {H : Prop} (h : ∃ a b c, P a b c ∧ Q a b c ∧ R a b c) (kk : ∀ a b c, P a b c → Q a b c → R a b c → H) : H := h.elim fun a h => h.elim fun b h => h.elim fun c h => kk a b c h.1 h.2.1 h.2.2
theorem x3a4 {α : Sort _} {β : Sort _} {γ : Sort _} {P Q R S : α → β → γ → Prop} {H : Prop} (h : ∃ a b c, P a b c ∧ Q a b c ∧ R a b c ∧ S a b c) (kk : ∀ a b c, P a b c → Q a b c → R a b c → S a b c → H) : H := h.elim fun a h => h.elim fun b h => h.elim fun c h => kk a b c h.1 h.2.1 h.2.2.1 h.2.2.2
theorem x3a8 {α : Sort _} {β : Sort _} {γ : Sort _} {P Q R S T U V W : α → β → γ → Prop} {H : Prop} (h : ∃ a b c, P a b c ∧ Q a b c ∧ R a b c ∧ S a b c ∧ T a b c ∧ U a b c ∧ V a b c ∧ W a b c) (kk : ∀ a b c, P a b c → Q a b c → R a b c → S a b c → T a b c → U a b c → V a b c → W a b c → H) : H := h.elim fun a h => h.elim fun b h => h.elim fun c h => kk a b c h.1 h.2.1 h.2.2.1 h.2.2.2.1 h.2.2.2.2.1 h.2.2.2.2.2.1 h.2.2.2.2.2.2.1 h.2.2.2.2.2.2.2
theorem x4a1 {α : Sort _} {β : Sort _} {γ : Sort _} {δ : Sort _} {P : α → β → γ → δ → Prop} {H : Prop} (h : ∃ a b c d, P a b c d) (kk : ∀ a b c d, P a b c d → H) : H := h.elim fun a h => h.elim fun b h => h.elim fun c h => h.elim fun d h => kk a b c d h
theorem x4a4 {α : Sort _} {β : Sort _} {γ : Sort _} {δ : Sort _} {P Q R S : α → β → γ → δ → Prop} {H : Prop} (h : ∃ a b c d, P a b c d ∧ Q a b c d ∧ R a b c d ∧ S a b c d) (kk : ∀ a b c d, P a b c d → Q a b c d → R a b c d → S a b c d → H) : H := h.elim fun a h => h.elim fun b h => h.elim fun c h => h.elim fun d h => kk a b c d h.1 h.2.1 h.2.2.1 h.2.2.2
theorem x4a5 {α : Sort _} {β : Sort _} {γ : Sort _} {δ : Sort _} {P Q R S T : α → β → γ → δ → Prop} {H : Prop} (h : ∃ a b c d, P a b c d ∧ Q a b c d ∧ R a b c d ∧ S a b c d ∧ T a b c d) (kk : ∀ a b c d, P a b c d → Q a b c d → R a b c d → S a b c d → T a b c d → H) : H := h.elim fun a h => h.elim fun b h => h.elim fun c h => h.elim fun d h => kk a b c d h.1 h.2.1 h.2.2.1 h.2.2.2.1 h.2.2.2.2
theorem x4a6 {α : Sort _} {β : Sort _} {γ : Sort _} {δ : Sort _} {P Q R S T U : α → β → γ → δ → Prop} {H : Prop} (h : ∃ a b c d, P a b c d ∧ Q a b c d ∧ R a b c d ∧ S a b c d ∧ T a b c d ∧ U a b c d) (kk : ∀ a b c d, P a b c d → Q a b c d → R a b c d → S a b c d → T a b c d → U a b c d → H) : H := h.elim fun a h => h.elim fun b h => h.elim fun c h => h.elim fun d h => kk a b c d h.1 h.2.1 h.2.2.1 h.2.2.2.1 h.2.2.2.2.1 h.2.2.2.2.2
theorem x5a1 {α : Sort _} {β : Sort _} {γ : Sort _} {δ : Sort _} {ε : Sort _} {P : α → β → γ → δ → ε → Prop} {H : Prop} (h : ∃ a b c d e, P a b c d e) (kk : ∀ a b c d e, P a b c d e → H) : H := h.elim fun a h => h.elim fun b h => h.elim fun c h => h.elim fun d h => h.elim fun e h => kk a b c d e h
theorem x5a4 {α : Sort _} {β : Sort _} {γ : Sort _} {δ : Sort _} {ε : Sort _} {P Q R S : α → β → γ → δ → ε → Prop} {H : Prop} (h : ∃ a b c d e, P a b c d e ∧ Q a b c d e ∧ R a b c d e ∧ S a b c d e) (kk : ∀ a b c d e, P a b c d e → Q a b c d e → R a b c d e → S a b c d e → H) : H := h.elim fun a h => h.elim fun b h => h.elim fun c h => h.elim fun d h => h.elim fun e h => kk a b c d e h.1 h.2.1 h.2.2.1 h.2.2.2
theorem ns {α : Type _} {a : α} {H : Prop} (h : none = some a) : H := nomatch h
theorem sn {α : Type _} {a : α} {H : Prop} (h : some a = none) : H := nomatch h
theorem tf {H : Prop} (h : true = false) : H := nomatch h
theorem ft {H : Prop} (h : false = true) : H := nomatch h
theorem Runs.toks_le {M : Model} {Γ : Ctx} {p : Pos} {t : Sem Fin} {fs : List Frame} {s s' : Shared} {e : End}
    (h : Runs M Γ p t fs s e s') : s.toks ≤ s'.toks := by
  induction h <;> first
    | exact Nat.le_refl _
    | assumption
    | (simp only [Shared.setGen] at *; omega)
    | omega
theorem wpCode_toks {M : Model} {Γ : Ctx} {R : Result → Shared → Prop} {p : Pos} {s : Shared} (h : wpCode M Γ R p s) :
    wpCode M Γ (fun r s' => s.toks ≤ s'.toks ∧ R r s') p s := by
  obtain ⟨r, s', hr, hR⟩ := h
  exact ⟨r, s', hr, Runs.toks_le hr, hR⟩
theorem wp_toks {α : Type} (M : Model) (Γ : Ctx) (t : Sem α) (Q : α → Pos → Shared → Prop) (E : Value → Pos → Shared → Prop) (p : Pos) (s : Shared) (n : Nat) (hn : n ≤ s.toks)
    (h : Sem.wp M Γ t Q E p s) : Sem.wp M Γ t (fun a p' s' => n ≤ s'.toks ∧ Q a p' s') (fun e p' s' => n ≤ s'.toks ∧ E e p' s') p s := by
  induction t generalizing p s with
  | pure a => exact ⟨hn, h⟩
  | raise e => exact ⟨hn, h⟩
  | unsupported | finish | yield | fork | await | register => exact h
  | rule _ k ih | «at» _ k ih | loadIfAlive _ k ih | point _ k ih | ask k ih | handled _ k ih | stack k ih | thread k ih => exact ih _ _ _ hn h
  | alloc _ k ih | os _ _ k ih | newGen _ k ih => exact ih _ _ _ (by simpa using hn) h
  | fresh k ih => exact ih _ _ _ (by show n ≤ s.toks + 1; omega) h
  | load a _ k ih | genState a k ih => obtain ⟨o, ho, h⟩ := h; exact ⟨o, ho, ih _ _ _ hn h⟩
  | update a _ f k ih => obtain ⟨ho, h⟩ := h; exact ⟨ho, ih _ _ _ (by simpa using hn) h⟩
  | choose _ _ k ih => obtain ⟨ho, h⟩ := h; exact ⟨ho, ih _ _ _ (by simpa using hn) h⟩
  | call c hd g l k ih =>
    have h' := wpCode_toks (show wpCode M (Γ.enter c hd p) _ p s from h)
    refine wpCode_mono (fun r s' hh => ?_) h'
    exact ih _ _ _ (Nat.le_trans hn hh.1) hh.2
  | resume g r l k ih =>
    obtain ⟨res, s', hw, h⟩ := h
    refine ⟨res, s', hw, ih _ _ _ ?_ h⟩
    have : s.toks ≤ s'.toks := by
      unfold Wakes at hw
      split at hw
      · exact hw.elim
      · split at hw
        · obtain ⟨e₁, s₁, hr, _, _, rfl⟩ := hw
          have := Runs.toks_le hr
          simpa [Shared.setGen] using this
        · obtain ⟨_, rfl⟩ := hw; exact Nat.le_refl _
        · obtain ⟨_, rfl⟩ := hw; exact Nat.le_refl _
      · obtain ⟨e₁, s₁, hr, _, _, rfl⟩ := hw
        have := Runs.toks_le hr
        simpa [Shared.setGen] using this
      · obtain ⟨_, rfl⟩ := hw; exact Nat.le_refl _
      · obtain ⟨_, rfl⟩ := hw; exact Nat.le_refl _
    omega
theorem wpAny_toks {α : Type} {M : Model} {A : Around} {t : Sem α} {Q : α → Shared → Prop} {E : Value → Shared → Prop} {s : Shared}
    (h : wpAny M A t Q E s) : wpAny M A t (fun a s' => s.toks ≤ s'.toks ∧ Q a s') (fun e s' => s.toks ≤ s'.toks ∧ E e s') s :=
  fun Γ p hΓ => wp_toks M Γ t _ _ p s s.toks (Nat.le_refl _) (h Γ p hΓ)
theorem Runs.size_le {M : Model} {Γ : Ctx} {p : Pos} {t : Sem Fin} {fs : List Frame} {s s' : Shared} {e : End}
    (h : Runs M Γ p t fs s e s') : s.heap.objs.size ≤ s'.heap.objs.size := by
  induction h <;> first
    | exact Nat.le_refl _
    | assumption
    | (simp only [Shared.setGen, Heap.size_after_update, Heap.size_push] at *; omega)
    | omega
theorem wpCode_size {M : Model} {Γ : Ctx} {R : Result → Shared → Prop} {p : Pos} {s : Shared} (h : wpCode M Γ R p s) :
    wpCode M Γ (fun r s' => s.heap.objs.size ≤ s'.heap.objs.size ∧ R r s') p s := by
  obtain ⟨r, s', hr, hR⟩ := h
  exact ⟨r, s', hr, Runs.size_le hr, hR⟩
theorem wp_size {α : Type} (M : Model) (Γ : Ctx) (t : Sem α) (Q : α → Pos → Shared → Prop) (E : Value → Pos → Shared → Prop) (p : Pos) (s : Shared) (n : Nat) (hn : n ≤ s.heap.objs.size)
    (h : Sem.wp M Γ t Q E p s) : Sem.wp M Γ t (fun a p' s' => n ≤ s'.heap.objs.size ∧ Q a p' s') (fun e p' s' => n ≤ s'.heap.objs.size ∧ E e p' s') p s := by
  induction t generalizing p s with
  | pure a => exact ⟨hn, h⟩
  | raise e => exact ⟨hn, h⟩
  | unsupported | finish | yield | fork | await | register => exact h
  | rule _ k ih | «at» _ k ih | loadIfAlive _ k ih | point _ k ih | ask k ih | handled _ k ih | stack k ih | thread k ih => exact ih _ _ _ hn h
  | alloc o k ih => exact ih _ _ _ (by rw [Heap.size_push]; omega) h
  | os _ _ k ih | newGen _ k ih | fresh k ih => exact ih _ _ _ (by simpa using hn) h
  | load a _ k ih | genState a k ih => obtain ⟨o, ho, h⟩ := h; exact ⟨o, ho, ih _ _ _ hn h⟩
  | update a _ f k ih => obtain ⟨ho, h⟩ := h; exact ⟨ho, ih _ _ _ (by simpa using hn) h⟩
  | choose _ _ k ih => obtain ⟨ho, h⟩ := h; exact ⟨ho, ih _ _ _ (by simpa using hn) h⟩
  | call c hd g l k ih =>
    have h' := wpCode_size (show wpCode M (Γ.enter c hd p) _ p s from h)
    refine wpCode_mono (fun r s' hh => ?_) h'
    exact ih _ _ _ (Nat.le_trans hn hh.1) hh.2
  | resume g r l k ih =>
    obtain ⟨res, s', hw, h⟩ := h
    refine ⟨res, s', hw, ih _ _ _ ?_ h⟩
    have : s.heap.objs.size ≤ s'.heap.objs.size := by
      unfold Wakes at hw
      split at hw
      · exact hw.elim
      · split at hw
        · obtain ⟨e₁, s₁, hr, _, _, rfl⟩ := hw
          have := Runs.size_le hr
          simpa [Shared.setGen] using this
        · obtain ⟨_, rfl⟩ := hw; exact Nat.le_refl _
        · obtain ⟨_, rfl⟩ := hw; exact Nat.le_refl _
      · obtain ⟨e₁, s₁, hr, _, _, rfl⟩ := hw
        have := Runs.size_le hr
        simpa [Shared.setGen] using this
      · obtain ⟨_, rfl⟩ := hw; exact Nat.le_refl _
      · obtain ⟨_, rfl⟩ := hw; exact Nat.le_refl _
    omega
theorem wpAny_grow {α : Type} {M : Model} {A : Around} {t : Sem α} {Q : α → Shared → Prop} {E : Value → Shared → Prop} {s : Shared}
    (h : wpAny M A t (fun a s' => s.toks ≤ s'.toks → s.heap.objs.size ≤ s'.heap.objs.size → Q a s') E s) : wpAny M A t Q E s :=
  wpAny_mono (fun Γ p hΓ => wp_size M Γ t _ _ p s _ (Nat.le_refl _) ((wpAny_toks h) Γ p hΓ) : wpAny M A t (fun a s' => s.heap.objs.size ≤ s'.heap.objs.size ∧ s.toks ≤ s'.toks ∧ (s.toks ≤ s'.toks → s.heap.objs.size ≤ s'.heap.objs.size → Q a s'))
    (fun e s' => s.heap.objs.size ≤ s'.heap.objs.size ∧ s.toks ≤ s'.toks ∧ E e s') s)
    (fun a s' ⟨h1, h2, h3⟩ => h3 h2 h1) fun _ _ ⟨_, _, h⟩ => h
end Mine
namespace Mine
open PySem PySem.W PyProof.Rows
noncomputable def holders : List String := ["bytearray.__contains__", "bytearray.__mod__", "bytearray.__rmod__", "_struct.pack_into.held", "bytearray.find.held"]
noncomputable def okCode : Code → Prop
  | .builtin id _ => Builtin.Bytes.decodersThatHold.contains id = false ∧ holders.contains id = false
  | _ => True
noncomputable def CleanB (Γ : Ctx) : Prop := ∀ x ∈ Γ.below, okCode x.1
noncomputable def Clean (Γ : Ctx) : Prop := okCode Γ.code ∧ CleanB Γ
noncomputable def wq {α : Type} (M : Model) (A : Around) (t : Sem α) (Q : α → Shared → Prop) (E : Value → Shared → Prop) (s : Shared) : Prop :=
  ∀ Γ p, Γ.In A → Clean Γ → Sem.wp M Γ t (fun a _ s' => Q a s') (fun e _ s' => E e s') p s
noncomputable def cq (M : Model) (A : Around) (c : Code) (R : Result → Shared → Prop) (s : Shared) : Prop :=
  ∀ Γ p, Γ.code = c → Γ.Below A → CleanB Γ → wpCode M Γ R p s
theorem Clean.enter {Γ : Ctx} (h : Clean Γ) (c : Code) (hd : Option Value) (p : Pos) : CleanB (Γ.enter c hd p) := fun x hx => by
  rcases List.mem_cons.mp hx with rfl | hx
  · exact h.1
  · exact h.2 x hx
section
variable {α β : Type} {M : Model} {A : Around} {E : Value → Shared → Prop} {s : Shared}
theorem wq_of {t : Sem α} {Q : α → Shared → Prop} (h : wpAny M A t Q E s) : wq M A t Q E s := fun Γ p hΓ _ => h Γ p hΓ
theorem cq_of {c : Code} {R : Result → Shared → Prop} (h : codeAny M A c R s) : cq M A c R s := fun Γ p hc hΓ _ => h Γ p hc hΓ
theorem wq_pure {a : α} {Q : α → Shared → Prop} (h : Q a s) : wq M A (pure a) Q E s := fun _ _ _ _ => h
theorem wq_mono {t : Sem α} {Q Q' : α → Shared → Prop} {E' : Value → Shared → Prop} (h : wq M A t Q E s)
    (hQ : ∀ a s, Q a s → Q' a s) (hE : ∀ e s, E e s → E' e s) : wq M A t Q' E' s :=
  fun Γ p hΓ hc => Sem.wp_mono M Γ t (fun a _ s => hQ a s) (fun e _ s => hE e s) p s (h Γ p hΓ hc)
theorem wq_bind {m : Sem α} {f : α → Sem β} {Q : β → Shared → Prop} (h : wq M A m (fun a s' => wq M A (f a) Q E s') E s) : wq M A (m >>= f) Q E s := fun Γ p hΓ hc => by
  rw [Sem.wp_bind']
  exact Sem.wp_mono M Γ m (fun a p' s' h' => h' Γ p' hΓ hc) (fun _ _ _ h' => h') p s (h Γ p hΓ hc)
theorem wq_onRaise {m : Sem α} {k : Value → Sem Unit} {Q : α → Shared → Prop} (h : wq M A m Q (fun e s' => wq M A (k e) (fun _ s'' => E e s'') E s') s) : wq M A (m.onRaise k) Q E s := fun Γ p hΓ hc => by
  rw [Sem.wp_onRaise]
  exact Sem.wp_mono M Γ m (fun _ _ _ h' => h') (fun e p' s' h' => h' Γ p' hΓ hc) p s (h Γ p hΓ hc)
theorem wq_attempt {m : Sem α} {Q : Except Value α → Shared → Prop} (h : wq M A m (fun a => Q (.ok a)) (fun e => Q (.error e)) s) : wq M A m.attempt Q E s :=
  fun Γ p hΓ hc => by rw [Sem.wp_attempt]; exact h Γ p hΓ hc
theorem wq_holding {vs : List Value} {m : Sem α} {Q : α → Shared → Prop} (h : wq M A m Q E s) : wq M A (holding vs m) Q E s := fun Γ p hΓ hc => by rw [Sem.wp_holding]; exact h Γ p hΓ hc
theorem wq_keep {vs : List Value} {m : Sem α} {Q : α → Shared → Prop} (h : wq M A m Q E s) : wq M A (m.keep vs) Q E s := fun Γ p hΓ hc => by rw [Sem.wp_keep]; exact h Γ p hΓ hc
theorem wq_standAt {pos : Pos} {Q : Unit → Shared → Prop} (h : Q () s) : wq M A (standAt pos) Q E s := fun _ _ _ _ => h
theorem wq_rule {tag : String} {Q : Unit → Shared → Prop} (h : Q () s) : wq M A (rule tag) Q E s := fun _ _ _ _ => h
theorem wq_point {Q : Unit → Shared → Prop} (h : Q () s) : wq M A point Q E s := fun _ _ _ _ => h
theorem wq_release {vs keep : List Value} {Q : Unit → Shared → Prop} (h : Q () s) : wq M A (release vs keep) Q E s := wq_of (wpAny_release' h)
theorem wq_operate {vs : List Value} {m : Sem Value} {Q : Value → Shared → Prop} (h : wq M A m Q E s) : wq M A (operate vs m) Q E s := fun Γ p hΓ hc => by
  rw [Sem.wp_operate]; exact h Γ p hΓ hc
theorem wq_eq {t t' : Sem α} {Q : α → Shared → Prop} (e : t = t') (h : wq M A t' Q E s) : wq M A t Q E s := e ▸ h
theorem cq_mono {c : Code} {R R' : Result → Shared → Prop} (h : cq M A c R s) (hR : ∀ r s, R r s → R' r s) : cq M A c R' s := fun Γ p hc hΓ hb => wpCode_mono hR (h Γ p hc hΓ hb)
theorem wq_run {c : Code} {h : Option Value} {Q : Flow → Shared → Prop}
    (hc : cq M (A.mark h) c (fun r s' => match r with | .ok f => Q f s' | .error e => E e s') s) (hnb : autoParam (h ≠ some byPass) byNo) : wq M A (run c h) Q E s :=
  fun Γ p hΓ hcl => by rw [Sem.wp_run]; exact hc _ p rfl (hΓ.enter c h p hnb) (hcl.enter c h p)
theorem wq_runValue {c : Code} {Q : Value → Shared → Prop}
    (hc : cq M A c (fun r s' => match r with | .ok (.ret v) => Q v s' | .ok _ => False | .error e => E e s') s) : wq M A (runValue c) Q E s := fun Γ p hΓ hcl => by
  rw [Sem.wp_runValue]; exact hc _ p rfl (hΓ.enter c none p (by intro x; exact ns x)) (hcl.enter c none p)
theorem wq_call {f : Value} {pos : List Value} {kw : List (Str × Value)} {Q : Value → Shared → Prop}
    (hc : cq M A (.call f ⟨pos, kw⟩) (fun r s' => match r with | .ok (.ret v) => Q v s' | .ok _ => False | .error e => E e s') s) : wq M A (call f pos kw) Q E s := wq_runValue hc
theorem cq_of_tree {c : Code} {R : Result → Shared → Prop} (hok : okCode c)
    (h : wq M (A.under c) (M.den c) (fun fin s' => match fin with | .done f => R (.ok f) s' | .again c' => c'.quiet = true ∧ cq M A c' R s') (fun e s' => R (.error e) s') s) : cq M A c R s := fun Γ p hc hΓ hb => by
  rw [wpCode_iff_wp, hc]
  refine Sem.wp_mono M Γ _ (fun fin p' s' h' => ?_) (fun _ _ _ h' => h') p s (h Γ p (hc ▸ hΓ.in) ⟨hc ▸ hok, hb⟩)
  cases fin with
  | done f => exact h'
  | again c' => exact ⟨h'.1, h'.2 (Γ.goto c') p' rfl (hΓ.goto c') hb⟩
theorem cq_loop {c : Code} {R : Result → Shared → Prop} (hok : okCode c) (hq : c.quiet = true) (I : Nat → Shared → Prop)
    (turn : ∀ n s, I n s → wq M (A.under c) (M.den c)
      (fun fin s' => match fin with
        | .done f => R (.ok f) s'
        | .again c' => (c' = c ∧ ∃ m, m < n ∧ I m s') ∨ (c'.quiet = true ∧ cq M A c' R s')) (fun e s' => R (.error e) s') s)
    (n : Nat) (h : I n s) : cq M A c R s := by
  induction n using Nat.strongRecOn generalizing s with
  | ind n ih =>
    refine cq_of_tree hok (wq_mono (turn n s h) (fun fin s' hf => ?_) fun _ _ h' => h')
    cases fin with
    | done f => exact hf
    | again c' =>
      rcases hf with ⟨rfl, m, hm, hI⟩ | hf
      · exact ⟨hq, ih m hm hI⟩
      · exact hf
theorem wq_Name {env : Env} {x : Str} {pos : Pos} {Q : Value → Shared → Prop} (h : wq M A (loadName env x) Q E s) (hd : autoParam ((x == ("__debug__" : Str)) = false) byDec) : wq M A (eval (.Name x pos) env) Q E s := by
  show wq M A (do standAt pos; if x == ("__debug__" : Str) then debugConstant else loadName env x) Q E s
  rw [hd]; exact wq_bind (wq_standAt h)
theorem wq_BinOp {env : Env} {l r : Expr} {op : Operator} {pos : Pos} {Q : Value → Shared → Prop}
    (h : wq M A (eval l env) (fun a s₁ => wq M A (eval r env) (fun b s₂ => wq M A (binaryOp op a b) Q E s₂) E s₁) E s) : wq M A (eval (.BinOp l op r pos) env) Q E s := by
  show wq M A (do let a ← eval l env; let b ← holding [a] (eval r env); standAt pos; operate [a, b] (binaryOp op a b)) Q E s
  exact wq_bind (wq_mono h (fun a s₁ h₁ => wq_bind (wq_holding (wq_mono h₁ (fun b s₂ h₂ => wq_bind (wq_standAt (wq_operate h₂))) fun _ _ x => x))) fun _ _ x => x)
theorem wq_UnaryOp {env : Env} {op : UnaryOp} {x : Expr} {pos : Pos} {Q : Value → Shared → Prop} (h : wq M A (eval x env) (fun v s₁ => wq M A (unaryOp op v) Q E s₁) E s) : wq M A (eval (.UnaryOp op x pos) env) Q E s := by
  show wq M A (do let v ← eval x env; standAt pos; holding [v] (unaryOp op v)) Q E s
  exact wq_bind (wq_mono h (fun v s₁ h₁ => wq_bind (wq_standAt (wq_holding h₁))) fun _ _ x => x)
theorem wq_IfExp {env : Env} {t b o : Expr} {pos : Pos} {Q : Value → Shared → Prop}
    (h : wq M A (isTrue t env (eval t env)) (fun c s₁ => if c = true then wq M A (eval b env) Q E s₁ else wq M A (eval o env) Q E s₁) E s) : wq M A (eval (.IfExp t b o pos) env) Q E s := by
  show wq M A (do if ← isTrue t env (eval t env) then eval b env else eval o env) Q E s
  refine wq_bind (wq_mono h (fun c s₁ h₁ => ?_) fun _ _ x => x)
  cases c <;> exact h₁
theorem wq_Compare1 {env : Env} {l r : Expr} {op : CmpOp} {pos : Pos} {Q : Value → Shared → Prop}
    (h : wq M A (eval l env) (fun a s₁ => wq M A (eval r env) (fun b s₂ => wq M A (compareOp op a b) Q E s₂) E s₁) E s) (hm : autoParam (behindInMarks op r = false) byRfl) : wq M A (eval (.Compare l [op] [r] pos) env) Q E s := by
  show wq M A (do compareChain pos (← eval l env) [op] (markedEach [op] [r] (evalEach [r] env))) Q E s
  rw [markedEach_of_false _ _ _ (show lastMarks [op] [r] = false by simpa [lastMarks] using hm)]
  refine wq_bind (wq_mono h (fun a s₁ h₁ => ?_) fun _ _ x => x)
  show wq M A (do let rv ← holding [a] (eval r env); standAt pos; operate [a, rv] (compareOp op a rv)) Q E s₁
  exact wq_bind (wq_holding (wq_mono h₁ (fun b s₂ h₂ => wq_bind (wq_standAt (wq_operate h₂))) fun _ _ x => x))
theorem wq_isTrue_Compare1 {env : Env} {l r : Expr} {op : CmpOp} {pos : Pos} {whole : Sem Value} {Q : Bool → Shared → Prop}
    (h : wq M A (eval l env) (fun a s₁ => wq M A (eval r env) (fun b s₂ => wq M A (compareOp op a b) (fun c s₃ => wq M A (truthy c) Q E s₃) E s₂) E s₁) E s) (hm : autoParam (behindInMarks op r = false) byRfl) :
    wq M A (isTrue (.Compare l [op] [r] pos) env whole) Q E s := by
  show wq M A (do testChain pos (← eval l env) [op] (markedEach [op] [r] (evalEach [r] env))) Q E s
  rw [markedEach_of_false _ _ _ (show lastMarks [op] [r] = false by simpa [lastMarks] using hm)]
  refine wq_bind (wq_mono h (fun a s₁ h₁ => ?_) fun _ _ x => x)
  show wq M A (do let rv ← holding [a] (eval r env); standAt pos; let c ← operate [a, rv] (compareOp op a rv); holding [c] (truthy c)) Q E s₁
  exact wq_bind (wq_holding (wq_mono h₁ (fun b s₂ h₂ => wq_bind (wq_standAt (wq_bind (wq_operate (wq_mono h₂ (fun c s₃ h₃ => wq_holding h₃) fun _ _ x => x))))) fun _ _ x => x))
theorem wq_isTrue_chain {env : Env} {l r₁ r₂ : Expr} {op₁ op₂ : CmpOp} {pos : Pos} {whole : Sem Value} {Q : Bool → Shared → Prop}
    (h : wq M A (eval l env) (fun a s₁ => wq M A (testChain pos a [op₁, op₂] [eval r₁ env, eval r₂ env]) Q E s₁) E s) (hm : autoParam (lastMarks [op₁, op₂] [r₁, r₂] = false) byRfl) :
    wq M A (isTrue (.Compare l [op₁, op₂] [r₁, r₂] pos) env whole) Q E s := by
  show wq M A (do testChain pos (← eval l env) [op₁, op₂] (markedEach [op₁, op₂] [r₁, r₂] (evalEach [r₁, r₂] env))) Q E s
  rw [markedEach_of_false _ _ _ hm]
  exact wq_bind h
theorem wq_isTrue_Not {env : Env} {x : Expr} {pos : Pos} {whole : Sem Value} {Q : Bool → Shared → Prop} (h : wq M A (isTrue x env (eval x env)) (fun b s₁ => Q (!b) s₁) E s) :
    wq M A (isTrue (.UnaryOp .Not x pos) env whole) Q E s := by
  show wq M A (do return !(← isTrue x env (eval x env))) Q E s
  exact wq_bind (wq_mono h (fun b s₁ h₁ => wq_pure h₁) fun _ _ x => x)
theorem wq_isTrue_BoolOp {env : Env} {op : BoolOp} {es : List Expr} {pos : Pos} {whole : Sem Value} {Q : Bool → Shared → Prop} (h : wq M A (allTrue op es env) Q E s) : wq M A (isTrue (.BoolOp op es pos) env whole) Q E s := h
theorem wq_allTrue_nil {op : BoolOp} {env : Env} {Q : Bool → Shared → Prop} (h : Q (op == .And) s) : wq M A (allTrue op [] env) Q E s := wq_pure h
theorem wq_allTrue_And {x : Expr} {es : List Expr} {env : Env} {Q : Bool → Shared → Prop}
    (h : wq M A (isTrue x env (eval x env)) (fun b s₁ => if b = true then wq M A (allTrue .And es env) Q E s₁ else Q false s₁) E s) : wq M A (allTrue .And (x :: es) env) Q E s := by
  show wq M A (do match BoolOp.And, ← isTrue x env (eval x env) with | .And, false => pure false | .Or, true => pure true | _, _ => allTrue .And es env) Q E s
  refine wq_bind (wq_mono h (fun b s₁ h₁ => ?_) fun _ _ x => x)
  cases b
  · exact wq_pure h₁
  · exact h₁
theorem wq_allTrue_Or {x : Expr} {es : List Expr} {env : Env} {Q : Bool → Shared → Prop}
    (h : wq M A (isTrue x env (eval x env)) (fun b s₁ => if b = true then Q true s₁ else wq M A (allTrue .Or es env) Q E s₁) E s) : wq M A (allTrue .Or (x :: es) env) Q E s := by
  show wq M A (do match BoolOp.Or, ← isTrue x env (eval x env) with | .And, false => pure false | .Or, true => pure true | _, _ => allTrue .Or es env) Q E s
  refine wq_bind (wq_mono h (fun b s₁ h₁ => ?_) fun _ _ x => x)
  cases b
  · exact h₁
  · exact wq_pure h₁
theorem wq_isTrue_value {env : Env} {e : Expr} {whole : Sem Value} {Q : Bool → Shared → Prop} (h : wq M A whole (fun v s₁ => wq M A (truthy v) Q E s₁) E s)
    (he : isTrue e env whole = (do let v ← whole; standAt e.pos; holding [v] (truthy v))) : wq M A (isTrue e env whole) Q E s := by
  rw [he]; exact wq_bind (wq_mono h (fun v s₁ h₁ => wq_bind (wq_standAt (wq_holding h₁))) fun _ _ x => x)
theorem wq_BoolOp_one {env : Env} {op : BoolOp} {e : Expr} {pos : Pos} {Q : Value → Shared → Prop} (h : wq M A (eval e env) Q E s) : wq M A (eval (.BoolOp op [e] pos) env) Q E s := h
theorem wq_BoolOp_and {env : Env} {e₁ e₂ : Expr} {es : List Expr} {pos : Pos} {Q : Value → Shared → Prop}
    (h : wq M A (eval e₁ env) (fun v s₁ => wq M A (truthy v) (fun c s₂ => if c = true then wq M A (eval (.BoolOp .And (e₂ :: es) pos) env) Q E s₂ else Q v s₂) E s₁) E s) : wq M A (eval (.BoolOp .And (e₁ :: e₂ :: es) pos) env) Q E s := by
  show wq M A (do
    let v ← eval e₁ env
    standAt pos
    let t ← holding [v] (truthy v)
    match BoolOp.And, t with
    | .And, false | .Or, true => pure v
    | _, _ => boolOp pos .And (evalEach (e₂ :: es) env)) Q E s
  refine wq_bind (wq_mono h (fun v s₁ h₁ => wq_bind (wq_standAt (wq_bind (wq_holding (wq_mono h₁ (fun c s₂ h₂ => ?_) fun _ _ x => x))))) fun _ _ x => x)
  cases c
  · exact wq_pure h₂
  · exact h₂
theorem wq_BoolOp_or {env : Env} {e₁ e₂ : Expr} {es : List Expr} {pos : Pos} {Q : Value → Shared → Prop}
    (h : wq M A (eval e₁ env) (fun v s₁ => wq M A (truthy v) (fun c s₂ => if c = true then Q v s₂ else wq M A (eval (.BoolOp .Or (e₂ :: es) pos) env) Q E s₂) E s₁) E s) : wq M A (eval (.BoolOp .Or (e₁ :: e₂ :: es) pos) env) Q E s := by
  show wq M A (do
    let v ← eval e₁ env
    standAt pos
    let t ← holding [v] (truthy v)
    match BoolOp.Or, t with
    | .And, false | .Or, true => pure v
    | _, _ => boolOp pos .Or (evalEach (e₂ :: es) env)) Q E s
  refine wq_bind (wq_mono h (fun v s₁ h₁ => wq_bind (wq_standAt (wq_bind (wq_holding (wq_mono h₁ (fun c s₂ h₂ => ?_) fun _ _ x => x))))) fun _ _ x => x)
  cases c
  · exact h₂
  · exact wq_pure h₂
theorem wq_spliced_nil {Q : List Value → Shared → Prop} (h : Q [] s) : wq M A (spliced []) Q E s := wq_pure h
theorem wq_spliced_cons {x : Sem Value} {rest : List (Bool × Sem Value)} {Q : List Value → Shared → Prop} (h : wq M A x (fun v s₁ => wq M A (spliced rest) (fun vs s₂ => Q (v :: vs) s₂) E s₁) E s) :
    wq M A (spliced ((false, x) :: rest)) Q E s := by
  show wq M A (do
    let v ← x
    let here ← (pure [v] : Sem (List Value))
    return here ++ (← holding here (spliced rest))) Q E s
  exact wq_bind (wq_mono h (fun v s₁ h₁ => wq_bind (wq_pure (wq_bind (wq_holding (wq_mono h₁ (fun vs s₂ h₂ => wq_pure h₂) fun _ _ x => x))))) fun _ _ x => x)
theorem wq_args_nil {env : Env} {pos : Pos} {Q : List Value → Shared → Prop} (h : Q [] s) : wq M A (spliced (backTo pos (starEach [] env))) Q E s := wq_spliced_nil h
theorem wq_args_cons {env : Env} {e : Expr} {rest : List Expr} {pos : Pos} {Q : List Value → Shared → Prop}
    (h : wq M A (eval e env) (fun v s₁ => wq M A (spliced (backTo pos (starEach rest env))) (fun vs s₂ => Q (v :: vs) s₂) E s₁) E s) (he : autoParam (starEach (e :: rest) env = (false, eval e env) :: starEach rest env) byRfl) :
    wq M A (spliced (backTo pos (starEach (e :: rest) env))) Q E s := by
  rw [he]; exact wq_spliced_cons h
theorem wq_Tuple {env : Env} {elts : List Expr} {k : Nat} {pos : Pos} {Q : Value → Shared → Prop}
    (h : wq M A (spliced (backTo pos (starEach elts env))) (fun vs s₁ => vs.length ≤ sizeLine ∧ Q (.ref s₁.heap.objs.size) { s₁ with heap := s₁.heap.push { cls := .type "tuple", data := .seq vs.toArray } }) E s) : wq M A (eval (.Tuple elts k pos) env) Q E s := by
  show wq M A (do standAt pos; newTuple (← spliced (backTo pos (starEach elts env)))) Q E s
  refine wq_bind (wq_standAt (wq_bind (wq_mono h (fun vs s₁ h₁ => ?_) fun _ _ x => x)))
  exact wq_of (by unfold newTuple; exact wpAny_newObj_type h₁.2 (by show (vs.toArray).size ≤ sizeLine; simpa using h₁.1))
theorem wq_List {env : Env} {elts : List Expr} {pos : Pos} {Q : Value → Shared → Prop}
    (h : wq M A (spliced (backTo pos (starEach elts env))) (fun vs s₁ => vs.length ≤ sizeLine ∧ Q (.ref s₁.heap.objs.size) { s₁ with heap := s₁.heap.push { cls := .type "list", data := .seq vs.toArray } }) E s) : wq M A (eval (.List elts pos) env) Q E s := by
  show wq M A (do standAt pos; newList (← spliced (backTo pos (starEach elts env)))) Q E s
  refine wq_bind (wq_standAt (wq_bind (wq_mono h (fun vs s₁ h₁ => ?_) fun _ _ x => x)))
  exact wq_of (by unfold newList; exact wpAny_newObj_type h₁.2 (by show (vs.toArray).size ≤ sizeLine; simpa using h₁.1))
theorem wq_execs_nil {env : Env} {Q : Flow → Shared → Prop} (h : Q .next s) : wq M A (execs [] env) Q E s := wq_pure h
theorem wq_execs_cons {env : Env} {st : Stmt} {rest : List Stmt} {Q : Flow → Shared → Prop}
    (h : wq M A (exec st env) (fun f s' => match f with | .next => wq M A (execs rest env) Q E s' | f => Q f s') E s) : wq M A (execs (st :: rest) env) Q E s := by
  show wq M A (do match ← exec st env with | .next => execs rest env | f => pure f) Q E s
  refine wq_bind (wq_mono h (fun f s' h' => ?_) fun _ _ x => x)
  cases f with
  | next => exact h'
  | brk => exact wq_pure h'
  | cont => exact wq_pure h'
  | ret v => exact wq_pure h'
theorem wq_Return {env : Env} {e : Expr} {pos : Pos} {Q : Flow → Shared → Prop} (h : wq M A (eval e env) (fun v => Q (.ret v)) E s) : wq M A (exec (.Return (some e) pos) env) Q E s := by
  show wq M A (do standAt pos; return .ret (← eval e env)) Q E s
  exact wq_bind (wq_standAt (wq_bind (wq_mono h (fun v s' h' => wq_pure h') fun _ _ x => x)))
theorem wq_If {env : Env} {test : Expr} {body orelse : List Stmt} {pos : Pos} {Q : Flow → Shared → Prop}
    (h : wq M A (isTrue test env (eval test env)) (fun b s₂ => if b = true then wq M A (execs body env) Q E s₂ else wq M A (execs orelse env) Q E s₂) E s) : wq M A (exec (.If test body orelse pos) env) Q E s := by
  show wq M A (do standAt pos; if ← isTrue test env (eval test env) then execs body env else execs orelse env) Q E s
  refine wq_bind (wq_standAt (wq_bind (wq_mono h (fun b s₂ h₂ => ?_) fun _ _ x => x)))
  cases b <;> exact h₂
theorem wq_bindName {env : Env} {x : Str} {v : Value} {Q : Unit → Shared → Prop} (h : wq M A (storeName env x v) Q E s) : wq M A (bindName env x v) Q E s := by
  show wq M A (do holding [v] point; storeName env x v; point) Q E s
  exact wq_bind (wq_holding (wq_point (wq_bind (wq_mono h (fun _ s' h' => wq_point h') fun _ _ x => x))))
theorem wq_Assign_Name {env : Env} {x : Str} {pos' : Pos} {value : Expr} {pos : Pos} {Q : Flow → Shared → Prop}
    (h : wq M A (eval value env) (fun v s₁ => wq M A (storeName env x v) (fun _ => Q .next) E s₁) E s) (hs : autoParam (swapsWith value (some (.Name x pos')) pos.line env = pure false) byRfl) :
    wq M A (exec (.Assign [.Name x pos'] value pos) env) Q E s := by
  rw [exec_Assign]
  refine wq_bind (wq_standAt ?_)
  rw [show swapsWithSole [.Name x pos'] value pos.line env = pure false from hs]
  refine wq_bind (wq_pure ?_)
  rw [if_neg (by decide)]
  refine wq_bind (wq_mono h (fun v s₁ h₁ => ?_) fun _ _ x => x)
  have hw : swappedStores [.Name x pos'] value env = pure none := by unfold swappedStores; cases value <;> rfl
  rw [hw]
  refine wq_bind (wq_pure ?_)
  show wq M A (do assignAll v [assign (.Name x pos') env]; pure .next) Q E s₁
  refine wq_bind ?_
  show wq M A (do standAt pos'; bindName env x v) _ E s₁
  exact wq_bind (wq_standAt (wq_bindName (wq_mono h₁ (fun _ s' h' => wq_pure h') fun _ _ x => x)))
theorem wq_AugAssign_Name {env : Env} {x : Str} {pos' : Pos} {op : Operator} {value : Expr} {pos : Pos} {Q : Flow → Shared → Prop}
    (h : wq M A (loadName env x) (fun old s₁ => wq M A (eval value env) (fun v s₂ => wq M A (inplaceOp op old v) (fun r s₃ => wq M A (storeName env x r) (fun _ => Q .next) E s₃) E s₂) E s₁) E s) :
    wq M A (exec (.AugAssign (.Name x pos') op value pos) env) Q E s := by
  show wq M A (do
    standAt pos'
    let old ← loadName env x
    let v ← holding [old] (eval value env)
    standAt pos
    let new ← operate [old, v] (inplaceOp op old v)
    standAt pos'
    bindName env x new
    pure .next) Q E s
  refine wq_bind (wq_standAt (wq_bind (wq_mono h (fun old s₁ h₁ => wq_bind (wq_holding (wq_mono h₁ (fun v s₂ h₂ => wq_bind (wq_standAt (wq_bind (wq_operate (wq_mono h₂ (fun r s₃ h₃ => ?_) fun _ _ x => x))))) fun _ _ x => x))) fun _ _ x => x)))
  exact wq_bind (wq_standAt (wq_bind (wq_bindName (wq_mono h₃ (fun _ s' h' => wq_pure h') fun _ _ x => x))))
theorem wq_theTreesLotGoes {x : Value} {Q : Unit → Shared → Prop} (h : Q () s) : wq M A (theTreesLotGoes x) Q E s := wq_of (wpAny_theTreesLotGoes h)
theorem wq_noted {env : Env} {m : Sem α} {Q : α → Shared → Prop} (h : wq M A m Q (notedBy M A env E) s) : wq M A (m.onRaise fun x => do noteFrame x env; theTreesLotGoes x) Q E s :=
  wq_onRaise (wq_mono h (fun _ _ q => q) fun _ _ hx => wq_bind (wq_mono (wq_of hx) (fun _ _ e => wq_theTreesLotGoes e) fun _ _ e => e))
theorem wq_runOwn {env : Env} {c : Code} {h : Option Value} {Q : Flow → Shared → Prop}
    (hc : cq M (A.mark h) c (fun r s' => match r with | .ok f => Q f s' | .error e => cameBackBy M A env E e s') s) (hnb : autoParam (h ≠ some byPass) byNo) : wq M A (runOwn c env h) Q E s := by
  unfold runOwn
  refine wq_onRaise (wq_mono (wq_run (Q := Q) (E := fun e s' => cameBackBy M A env E e s') (cq_mono hc fun r s' hr => ?_) hnb) (fun _ _ q => q) fun e s' hx => wq_of hx)
  cases r <;> exact hr
theorem wq_While {env : Env} {test : Expr} {body orelse : List Stmt} {pos : Pos} {Q : Flow → Shared → Prop}
    (h : cq M A (.whileLoop test body orelse env) (fun r s' => match r with | .ok f => Q f s' | .error e => cameBackBy M A env E e s') s) : wq M A (exec (.While test body orelse pos) env) Q E s := by
  show wq M A (do standAt pos; runOwn (.whileLoop test body orelse env) env) Q E s
  exact wq_bind (wq_standAt (wq_runOwn h))
theorem wq_For {env : Env} {target iter : Expr} {body orelse : List Stmt} {pos : Pos} {Q : Flow → Shared → Prop}
    (h : wq M A (eval iter env) (fun x s₁ => wq M A (pyIter x) (fun it s₂ => cq M A (.forLoop target it body orelse env) (fun r s' => match r with | .ok f => Q f s' | .error e => cameBackBy M A env E e s') s₂) E s₁) E s)
    (hf : autoParam (∀ x, foldedSetIterable iter env x = pure x) byI1) : wq M A (exec (.For target iter body orelse pos) env) Q E s := by
  show wq M A (do
    standAt pos
    let x ← foldedSetIterable iter env (← eval iter env)
    standAt iter.pos
    runOwn (.forLoop target (← holding [x] (pyIter x)) body orelse env) env) Q E s
  refine wq_bind (wq_standAt (wq_bind (wq_mono h (fun x s₁ h₁ => ?_) fun _ _ x => x)))
  rw [hf]
  exact wq_bind (wq_pure (wq_bind (wq_standAt (wq_bind (wq_holding (wq_mono h₁ (fun it s₂ h₂ => wq_runOwn h₂) fun _ _ x => x))))))
end
section
variable {prog : Program} {w : World} {A : Around} {E : Value → Shared → Prop} {s : Shared} {R : Result → Shared → Prop}
theorem under_self {c : Code} (h : c.weight = 0) (hu : c.cUnits = 0) : A.under c = A := Around.under_of_weight h hu
theorem cq_whileLoop {test : Expr} {body orelse : List Stmt} {env : Env} (I : Nat → Shared → Prop)
    (turn : ∀ n s, I n s → wq (model prog w) A (isTrue test env (eval test env)) (fun b s₂ =>
        if b then wq (model prog w) A (execs body env) (fun f s₃ => match f with
            | .next | .cont => ∃ m, m < n ∧ I m s₃
            | .brk => R (.ok .next) s₃
            | .ret v => R (.ok (.ret v)) s₃) (notedBy (model prog w) A env fun e s' => R (.error e) s') s₂
        else wq (model prog w) A (execs orelse env) (fun f s₃ => R (.ok f) s₃) (notedBy (model prog w) A env fun e s' => R (.error e) s') s₂)
        (notedBy (model prog w) A env fun e s' => R (.error e) s') s)
    (n : Nat) (h : I n s) : cq (model prog w) A (.whileLoop test body orelse env) R s := by
  refine cq_loop trivial rfl I (fun n s hI => ?_) n h
  rw [under_self rfl rfl]
  show wq _ _ ((whileTurn test body orelse env).onRaise (fun x => do noteFrame x env; theTreesLotGoes x)) _ _ s
  refine wq_noted ?_
  unfold whileTurn
  refine wq_bind (wq_mono (turn n s hI) (fun b s₂ h₂ => ?_) fun _ _ x => x)
  cases b with
  | true =>
    refine wq_bind (wq_mono h₂ (fun f s₃ h₃ => ?_) fun _ _ x => x)
    cases f with
    | next => exact wq_pure (.inl ⟨rfl, h₃⟩)
    | cont => exact wq_pure (.inl ⟨rfl, h₃⟩)
    | brk => exact wq_pure h₃
    | ret v => exact wq_pure h₃
  | false => exact wq_bind (wq_mono h₂ (fun f s₃ h₃ => wq_pure h₃) fun _ _ x => x)
theorem cq_block {stmts : List Stmt} {env : Env} (h : wq (model prog w) A (execs stmts env) (fun f s' => R (.ok f) s') (notedBy (model prog w) A env fun e s' => R (.error e) s') s) : cq (model prog w) A (.block stmts env) R s := by
  refine cq_of_tree trivial ?_
  rw [under_self rfl rfl]
  show wq _ _ (do return Fin.done (← (execs stmts env).onRaise (fun x => do noteFrame x env; theTreesLotGoes x))) _ _ s
  exact wq_bind (wq_noted (wq_mono h (fun f s' h' => wq_pure h') fun _ _ h' => h'))
theorem cq_forLoop {target : Expr} {it : Value} {body orelse : List Stmt} {env : Env} (I : Nat → Shared → Prop)
    (turn : ∀ n s, I n s → wq (model prog w) A (pyNext it) (fun r s₁ => match r with
      | none => wq (model prog w) A (execs orelse env) (fun f s₃ => R (.ok f) s₃) (notedBy (model prog w) A env fun e s' => R (.error e) s') s₁
      | some v => wq (model prog w) A (letOwnedTupleGo target it v) (fun _ s₁ => wq (model prog w) A (assign target env v) (fun _ s₂ => wq (model prog w) A (execs body env) (fun f s₃ => match f with
          | .next | .cont => ∃ m, m < n ∧ I m s₃
          | .brk => R (.ok .next) s₃
          | .ret v => R (.ok (.ret v)) s₃) (notedBy (model prog w) A env fun e s' => R (.error e) s') s₂) (fun _ _ => False) s₁) (fun _ _ => False) s₁) (fun _ _ => False) s)
    (n : Nat) (h : I n s) : cq (model prog w) A (.forLoop target it body orelse env) R s := by
  refine cq_loop trivial rfl I (fun n s hI => ?_) n h
  rw [under_self rfl rfl]
  show wq _ _ ((forTurn target it body orelse env).onRaise (fun x => do noteFrame x env; theTreesLotGoes x)) _ _ s
  refine wq_noted ?_
  unfold forTurn
  refine wq_bind (wq_standAt (wq_bind (wq_onRaise (wq_mono (turn n s hI) (fun r s₁ h₁ => ?_) fun _ _ h' => h'.elim))))
  cases r with
  | none => exact wq_pure (.inr ⟨rfl, cq_block h₁⟩)
  | some v =>
    refine wq_bind (wq_mono h₁ (fun _ s₁ h₁ => ?_) fun _ _ h' => h'.elim)
    refine wq_bind (wq_mono h₁ (fun _ s₂ h₂ => wq_bind (wq_mono h₂ (fun f s₃ h₃ => ?_) fun _ _ h' => h')) fun _ _ h' => h'.elim)
    cases f with
    | next => exact wq_pure (.inl ⟨rfl, h₃⟩)
    | cont => exact wq_pure (.inl ⟨rfl, h₃⟩)
    | brk => exact wq_pure h₃
    | ret v => exact wq_pure h₃
end
end Mine
namespace Mine
open PySem PySem.W PyProof.Rows
noncomputable def ClsAt (h : Heap) (a : Addr) (c : Value) : Prop := ∃ o, h.get? a = some o ∧ o.cls = c
theorem ClsAt.sameBut {h h' : Heap} {a b : Addr} {c : Value} (x : ClsAt h a c) (hs : Heap.SameBut b h h') (hab : a ≠ b) : ClsAt h' a c := x1a2 x fun o h1 h2 => ⟨o, (hs.2 a hab).trans h1, h2⟩
theorem ClsAt.keeps {h h' : Heap} {a : Addr} {c : Value} (x : ClsAt h a c) (k : ∀ b o, h.get? b = some o → h'.get? b = some o) : ClsAt h' a c := x1a2 x fun o h1 h2 => ⟨o, k _ _ h1, h2⟩
theorem cls_putName (name : Str) (h : Int) (key v : Value) (o : Obj) : (o.putName name h key v).cls = o.cls := by
  rw [Obj.putName_eq]
  obtain ⟨c, d, dt, sl⟩ := o
  cases dt <;> simp only [Obj.putNameByArray]
  split <;> rfl
theorem freed_putName (name : Str) (h : Int) (key v : Value) (o : Obj) (es : Array DictEntry) (ep : Nat) (hd : o.data = .dict es ep) : (o.putName name h key v).isFreed = false := by
  rw [Obj.putName_eq]
  obtain ⟨c, d, dt, sl⟩ := o
  subst hd
  simp only [Obj.putNameByArray]
  split <;> rfl
theorem wp_nsSet_cls (M : Model) (Γ : Ctx) (E : Value → Pos → Shared → Prop) (p : Pos) (s : Shared) {a : Addr} {m} (hn : s.heap.Ns a m) (name : Str) (v : Value) {c : Value} (hc : ClsAt s.heap a c) (Q : Unit → Pos → Shared → Prop)
    (hQ : ∀ h', h'.Ns a (fun x => if x = name then some v else m x) → Heap.SameBut a s.heap h' → ClsAt h' a c →
      Q () p { s with heap := h', toks := s.toks + 1 }) : Sem.wp M Γ (nsSet a name v) Q E p s := by
  have key : ∃ hsh k, ∀ Q : Unit → Pos → Shared → Prop, Sem.wp M Γ (nsSet a name v) Q E p s ↔ Q () p { s with heap := s.heap.update a (Obj.putName name hsh k v), toks := s.toks + 1 } := by
    obtain ⟨o, es, ep, ho, hd, hk, hm⟩ := hn
    refine ⟨if name.cps.isEmpty = true then 0 else reduceHash (M.w.params.strHash name.cps), .str name s.toks, fun Q => ?_⟩
    simp only [nsSet, strHash, Sem.wp_bind', Sem.wp_cmd_ask, Sem.wp_pure', Sem.wp_cmd_mkText]
    rw [Sem.wp_loadPart_of M Γ E p { s with toks := s.toks + 1 } (o := o) _ ho]
    have hany : es.any (·.refKey) = false := by
      rw [Array.any_eq_false']; intro e he; obtain ⟨n, t, h⟩ := hk e he; simp [DictEntry.refKey, h]
    simp only [hd, aRefKeyMayBeTheName_eq, aRefKeyMayBeTheNameByArray, hany, Bool.and_false, Bool.false_eq_true, if_false, Sem.wp_cmd_updatePart]
    exact ⟨fun h => h.2, fun h => ⟨by rw [ho]; rfl, h⟩⟩
  obtain ⟨hsh, k, key⟩ := key
  have lib := (key _).mp (Sem.wp_nsSet M Γ E p s hn name v (fun _ _ s' => ∃ h', h'.Ns a (fun x => if x = name then some v else m x) ∧ Heap.SameBut a s.heap h' ∧ s' = { s with heap := h', toks := s.toks + 1 }) fun h' h1 h2 => ⟨h', h1, h2, rfl⟩)
  obtain ⟨h', h1, h2, h3⟩ := lib
  have h3' : s.heap.update a (Obj.putName name hsh k v) = h' := congrArg Shared.heap h3
  subst h3'
  refine (key Q).mpr (hQ _ h1 h2 ?_)
  obtain ⟨o, ho, hcl⟩ := hc
  obtain ⟨o', es, ep, ho', hd, _⟩ := hn
  rw [ho] at ho'; (have ho' := Option.some.inj ho'; subst ho')
  exact ⟨_, Heap.get?_update_self _ ho (freed_putName _ _ _ _ _ es ep hd), (cls_putName ..).trans hcl⟩
section
variable {M : Model} {A : Around} {E : Value → Shared → Prop} {s s₀ : Shared} {env : Env} {m cm : Str → Option Value}
theorem wpAny_storeName_cls {name : Str} {v : Value} {Q : Unit → Shared → Prop} {c : Value} (hl : env.kindOf name = some .local)
    (hn : s.heap.Ns env.locals m) (hc : ClsAt s.heap env.locals c)
    (h : ∀ h', h'.Ns env.locals (fun x => if x = name then some v else m x) → Heap.SameBut env.locals s.heap h' → ClsAt h' env.locals c →
      Q () { s with heap := h', toks := s.toks + 1 })
    (hp : autoParam ((env.scope.kind == .class || (env.scope.kind == .module && env.locals != env.globals)) = false) byRfl) : wpAny M A (storeName env name v) Q E s := by
  rw [storeName_local hl hp]; exact fun Γ p _ => wp_nsSet_cls M Γ _ p s hn name v hc _ h
theorem stLC' {n : Str} {v : Value} {Q : Unit → Shared → Prop} (x : InCallC s₀ env.locals m env.cells cm s) {c : Value} (y : ClsAt s.heap env.locals c) (hk : env.scope.kind = .function) (hl : env.kindOf n = some .local)
    (h : ∀ s', InCallC s₀ env.locals (fun y => if y = n then some v else m y) env.cells cm s' → ClsAt s'.heap env.locals c → Q () s') : wpAny M A (storeName env n v) Q E s := by
  refine wpAny_storeName_cls hl x.toInCall.ns y (fun h' hn' hs' hy => h _ ⟨⟨?_, hn', fun b o e => ?_, x.toInCall.fresh⟩, fun k c hc => ?_, x.apart, x.above⟩ hy) (by rw [hk]; rfl)
  · refine x2a1 (x.toInCall.same) fun h₁ tk e_0 => ?_; subst e_0
    exact ⟨h', _, rfl⟩
  · exact hs'.extBut b o (Nat.ne_of_lt (Nat.lt_of_lt_of_le (Heap.lt_size e) x.toInCall.fresh)) (x.toInCall.keep b o e)
  · exact (x.cell k c hc).sameBut hs' (Nat.ne_of_gt (x.above k c (mem_of_lookup hc)))
theorem bindParams' {c : Value} (f : Str × Value → PUnit → Sem (ForInStep PUnit)) (hf : ∀ n v u, f (n, v) u = (do storeName env n v; pure (.yield ⟨⟩))) (hk : env.scope.kind = .function) :
    ∀ (binds : List (Str × Value)) (m cm : Str → Option Value) (s : Shared) (Q : PUnit → Shared → Prop), InCallC s₀ env.locals m env.cells cm s → ClsAt s.heap env.locals c →
      (∀ x ∈ binds, env.kindOf x.1 = some .local ∨ (env.kindOf x.1 = some .cell ∧ (env.cells.lookup x.1).isSome = true)) →
      (∀ s', InCallC s₀ env.locals (bindL env.kindOf binds m) env.cells (bindC env.kindOf binds cm) s' → ClsAt s'.heap env.locals c → Q ⟨⟩ s') → wpAny M A (forIn binds ⟨⟩ f) Q E s
  | [], m, cm, s, Q, x, y, _, h => by rw [List.forIn_nil]; exact wpAny_pure (h s x y)
  | (n, v) :: r, m, cm, s, Q, x, y, hkind, h => by
    rw [List.forIn_cons, hf]
    have hr : ∀ y ∈ r, env.kindOf y.1 = some .local ∨ (env.kindOf y.1 = some .cell ∧ (env.cells.lookup y.1).isSome = true) := fun y hy => hkind y (List.mem_cons_of_mem _ hy)
    rcases hkind (n, v) List.mem_cons_self with hl | ⟨hl, hc⟩
    · refine wpAny_bind (wpAny_bind (stLC' x y hk hl fun s' x' y' => wpAny_pure (bindParams' f hf hk r _ _ s' Q x' y' hr fun s'' x'' y'' => h s'' ?_ y'')))
      unfold bindL bindC; rw [if_pos hl, if_pos hl]; exact x''
    · refine x1a1 (Option.isSome_iff_exists.mp hc) fun d hd => ?_
      have hnl : ¬ env.kindOf n = some .local := by rw [hl]; decide
      have hLd := x.above n d (mem_of_lookup hd)
      refine wpAny_bind (wpAny_bind (wpAny_storeName_cell hk hl hd (x.cell n d hd) fun h' hc' hs' => wpAny_pure (bindParams' f hf hk r _ (fun y => if y = n then some v else cm y) _ Q
        ⟨⟨?_, x.toInCall.ns.sameBut hs' (Nat.ne_of_lt hLd), fun b o e => ?_, x.toInCall.fresh⟩, fun k c' hk' => ?_, x.apart, x.above⟩ (y.sameBut hs' (Nat.ne_of_lt hLd)) hr fun s'' x'' y'' => h s'' ?_ y'')))
      · refine x2a1 (x.toInCall.same) fun h₁ tk e_0 => ?_; subst e_0
        exact ⟨h', _, rfl⟩
      · exact hs'.extBut b o (Nat.ne_of_lt (Nat.lt_trans (Nat.lt_of_lt_of_le (Heap.lt_size e) x.toInCall.fresh) hLd)) (x.toInCall.keep b o e)
      · by_cases hkn : k = n
        · subst hkn
          rw [hd] at hk'; (have hk' := Option.some.inj hk'; subst hk')
          simpa using hc'
        · have hne : c' ≠ d := fun e => hkn (name_of_addr x.apart (mem_of_lookup hk') (e ▸ mem_of_lookup hd))
          simpa [hkn] using (x.cell k c' hk').sameBut hs' hne
      · unfold bindL bindC; rw [if_neg hnl, if_neg hnl]; exact x''
theorem newFunctionEnv_cls {scope : Scope} {globals : Addr} {binds : List (Str × Value)} {qual : Str} {func : Option Addr} {code : Value} {builtins : Addr} {Q : Env → Shared → Prop}
    (hk : scope.kind = .function)
    (hkind : ∀ x ∈ binds, scope.names.lookup x.1 = some .local ∨ (scope.names.lookup x.1 = some .cell ∧ ((cellsFrom (s.heap.objs.size + 1) scope.names []).lookup x.1).isSome = true))
    (hQ : ∀ env, env = newEnv scope s.heap.objs.size globals (cellsFrom (s.heap.objs.size + 1) scope.names []) qual func code none builtins →
      ∀ s', InCallC s env.locals (bindL env.kindOf binds fun _ => none) env.cells (bindC env.kindOf binds fun _ => none) s' → ClsAt s'.heap env.locals (.type "frame") → Q env s') :
    wpAny M A (newFunctionEnv scope globals [] binds qual func code none builtins) Q E s := by
  simp only [newFunctionEnv, Option.isSome_none, Bool.false_eq_true, if_false]
  refine wpAny_bind (wpAny_alloc ?_)
  refine wpAny_bind (wpAny_layCells _ (fun name kind cells => by cases hkc : kind == NameKind.cell <;> simp [hkc]) _ _ _ _ ?_)
  have ok := cellsFrom_ok scope.names (s.heap.push { cls := .type "frame", data := .dict #[] }) (s.heap.objs.size + 1) [] ⟨fun _ _ hm => (nomatch hm), List.Pairwise.nil⟩ (by rw [Heap.size_push]; exact Nat.le_refl _)
  rw [Heap.size_push] at ok
  rw [show ({ s with heap := s.heap.push { cls := .type "frame", data := .dict #[] } } : Shared).heap.objs.size = s.heap.objs.size + 1 from Heap.size_push ..]
  refine wpAny_bind (bindParams' (s₀ := s) (env := newEnv scope s.heap.objs.size globals (cellsFrom (s.heap.objs.size + 1) scope.names []) qual func code none builtins)
    _ (fun _ _ _ => rfl) hk binds (fun _ => none) (fun _ => none) _ _
    ⟨⟨⟨_, _, rfl⟩, (Heap.Ns.new s.heap (.type "frame")).keeps (pushCells_keeps _ _), fun b o e => pushCells_keeps _ _ b o (Heap.get?_push_of_some _ e), Nat.le_refl _⟩,
      fun n c hc => (ok.empty n c (mem_of_lookup hc)).1, ok.apart, fun n c hm => (ok.empty n c hm).2⟩
    (ClsAt.keeps ⟨_, Heap.get?_push_size _ rfl, rfl⟩ (pushCells_keeps _ _)) hkind fun s' x y => wpAny_pure (hQ _ rfl s' x y))
end
end Mine
namespace Mine
open PySem PySem.W PyProof.Rows
variable {W : World}
noncomputable abbrev Tx := Tok → List Nat
class Lo where
  lo : Addr
variable [Lo]
noncomputable def keepS (b : Addr) (o : Obj) (sl : Array (Option Value)) : Array (Option Value) := if o.cls = .type "frame" ∧ Lo.lo ≤ b then sl else o.slots
theorem keepS_re {h : Heap} {b : Addr} {o : Obj} (e : h.get? b = some o) : h.get? b = some { o with slots := keepS b o o.slots } := by
  rw [e]; congr 1; unfold keepS; cases o; simp
theorem keepS_tr {h : Heap} {b : Addr} {o : Obj} {sl sl' : Array (Option Value)} (e : h.get? b = some { o with slots := keepS b { o with slots := keepS b o sl } sl' }) : h.get? b = some { o with slots := keepS b o sl' } := by
  rw [e]; congr 2; unfold keepS; dsimp only; split <;> rfl
theorem keepS_ne {b : Addr} {o : Obj} {sl : Array (Option Value)} (h : o.cls ≠ .type "frame") : keepS b o sl = o.slots := if_neg fun q => h q.1
theorem keepS_lt {b : Addr} {o : Obj} {sl : Array (Option Value)} (h : b < Lo.lo) : keepS b o sl = o.slots := if_neg fun q => Nat.lt_irrefl _ (Nat.lt_of_lt_of_le h q.2)
noncomputable def Ext (h h' : Heap) : Prop := h.objs.size ≤ h'.objs.size ∧ ∀ b o, h.get? b = some o → ∃ sl, h'.get? b = some { o with slots := keepS b o sl }
theorem Ext.refl (h : Heap) : Ext h h := ⟨Nat.le_refl _, fun _ o e => ⟨o.slots, keepS_re e⟩⟩
theorem Ext.trans {h₁ h₂ h₃ : Heap} (x : Ext h₁ h₂) (y : Ext h₂ h₃) : Ext h₁ h₃ :=
  ⟨Nat.le_trans x.1 y.1, fun b o e => let ⟨_, e₁⟩ := x.2 b o e; x1a1 (y.2 b _ e₁) fun sl e₂ => ⟨sl, keepS_tr e₂⟩⟩
theorem Ext.push {h h' : Heap} (x : Ext h h') (o : Obj) : Ext h (h'.push o) :=
  x.trans ⟨by rw [Heap.size_push]; lia, fun _ o' e => ⟨o'.slots, keepS_re (Heap.get?_push_of_some o e)⟩⟩
theorem Ext.keeps {h h' : Heap} (hs : h.objs.size ≤ h'.objs.size) (x : ∀ b o, h.get? b = some o → h'.get? b = some o) : Ext h h' :=
  ⟨hs, fun b o e => ⟨o.slots, keepS_re (x b o e)⟩⟩
structure Le (T : Tx) (s : Shared) (T' : Tx) (s' : Shared) : Prop where
  ext : Ext s.heap s'.heap
  toks : s.toks ≤ s'.toks
  tx : ∀ t, t < s.toks → T' t = T t
  gens : s'.gens = s.gens
  os : s'.os = s.os
theorem Le.refl (T : Tx) (s : Shared) : Le T s T s := ⟨.refl _, Nat.le_refl _, fun _ _ => rfl, rfl, rfl⟩
theorem Le.trans {T₁ T₂ T₃ : Tx} {s₁ s₂ s₃ : Shared} (x : Le T₁ s₁ T₂ s₂) (y : Le T₂ s₂ T₃ s₃) : Le T₁ s₁ T₃ s₃ :=
  ⟨x.ext.trans y.ext, Nat.le_trans x.toks y.toks, fun t ht => (y.tx t (Nat.lt_of_lt_of_le ht x.toks)).trans (x.tx t ht), y.gens.trans x.gens, y.os.trans x.os⟩
theorem Le.mk' {T : Tx} {s : Shared} {h' : Heap} {k : Nat} (he : Ext s.heap h') (hk : s.toks ≤ k) : Le T s T { s with heap := h', toks := k } :=
  ⟨he, hk, fun _ _ => rfl, rfl, rfl⟩
theorem Le.tok {T : Tx} {s : Shared} {k : Nat} (hk : s.toks ≤ k) : Le T s T { s with toks := k } := Le.mk' (.refl _) hk
omit [Lo] in
noncomputable def Tx.set (T : Tx) (t : Tok) (l : List Nat) : Tx := fun u => if u = t then l else T u
theorem Le.set {T : Tx} {s : Shared} {l : List Nat} {k : Nat} (hk : s.toks ≤ k) : Le T s (T.set s.toks l) { s with toks := k } :=
  ⟨.refl _, hk, fun t ht => by simp [Tx.set, Nat.ne_of_lt ht], rfl, rfl⟩
omit [Lo] in
inductive AV where
  | none
  | bool (b : Bool)
  | int (i : Int)
  | str (l : List Nat)
  | txt (l : List Nat)
  | bytes (l : List Nat)
  | tup (l : List AV)
  | list (l : List AV)
  | dict (l : List (List Nat × AV))
  | barr (l : List Nat)
  | exc (i j : Int) (r : List Nat)
  | hid
omit [Lo] in
noncomputable abbrev AV.Open (x : AV) : Prop := (∀ l, x ≠ .barr l) ∧ x ≠ .hid
omit [Lo] in
noncomputable def TupAt (h : Heap) (a : Addr) : Prop := ∃ o, h.get? a = some o ∧ o.cls = .type "tuple" ∧ o.dict = Option.none ∧ ∃ x y, o.data = .seq #[x, y] ∧ o.slots = #[]
omit [Lo] in
structure StrAt (T : Tx) (n : Nat) (v : Value) (l : List Nat) : Prop where
  is : ∃ s t, v = .str s t ∧ s.cps.toList = l ∧ T t = l ∧ 0 < t ∧ t < n
omit [Lo] in
noncomputable def strOf : Value → Str
  | .str x _ => x
  | _ => ⟨#[]⟩
omit [Lo] in
noncomputable def KeysOk (W : World) (es : Array DictEntry) : Prop := (∀ e ∈ es, ∃ x t, e.key = .str x t ∧ e.hash = hashStr W x) ∧ (es.toList.map fun e => strOf e.key).Nodup
omit [Lo] in
noncomputable def IsDictAt (W : World) (h : Heap) (a : Addr) (es : Array DictEntry) : Prop := (∃ o, h.get? a = some o ∧ o.cls = .type "dict" ∧ o.dict = none ∧ o.slots = #[] ∧ ∃ ep, o.data = .dict es ep) ∧ ((a == sysModules) = false ∧ KeysOk W es)
omit [Lo] in
noncomputable def IsLst (h : Heap) (a : Addr) (items : Array Value) : Prop := ∃ o, h.get? a = some o ∧ o.cls = .type "list" ∧ o.dict = none ∧ o.slots = #[] ∧ ∃ n, o.data = .seq items n
theorem IsLst.is {h : Heap} {a : Addr} {items : Array Value} (x : IsLst h a items) : h.IsList a items := let ⟨o, ho, hc, _, _, r⟩ := x; ⟨o, ho, hc, r⟩
theorem IsLst.rec {h : Heap} {a : Addr} {items : Array Value} (x : IsLst h a items) : ∃ n, h.get? a = some { cls := .type "list", dict := none, data := .seq items n, slots := #[] } := by
  refine x1a5 x fun t_0 ho hc hd hs t_1 => ?_; (try clear x); obtain ⟨c, d, dt, sl⟩ := t_0; refine x1a1 t_1 fun n hdt => ?_; (try clear t_1)
  dsimp only at hc hd hs hdt
  subst hc hd hs hdt
  exact ⟨n, ho⟩
omit [Lo] in
noncomputable def IsBarr (h : Heap) (a : Addr) (b : Array UInt8) : Prop := ∃ o, h.get? a = some o ∧ o.cls = .type "bytearray" ∧ o.dict = none ∧ o.data = .bytearray b 0
omit [Lo] in
noncomputable def bnats (b : Array UInt8) : List Nat := b.toList.map UInt8.toNat
omit [Lo] in
structure ExcF (T : Tx) (n : Nat) (vs : Array Value) (i j : Int) (r : List Nat) : Prop where
  size : vs.size = 11
  start : ∃ t, vs[8]? = some (.int i t)
  stop : ∃ t, vs[9]? = some (.int j t)
  reason : ∃ v, vs[10]? = some v ∧ StrAt T n v r
omit [Lo] in
inductive Rep (W : World) (B : Addr → Prop) (T : Tx) (n : Nat) (h : Heap) : Value → AV → Prop where
  | none : Rep W B T n h .none .none
  | bool (b : Bool) : Rep W B T n h (.bool b) (.bool b)
  | int (i : Int) (t : Tok) : Rep W B T n h (.int i t) (.int i)
  | str {v : Value} {l : List Nat} : StrAt T n v l → Rep W B T n h v (.str l)
  | txt (x : Str) (t : Tok) : Rep W B T n h (.str x t) (.txt x.cps.toList)
  | bytes (b : Array UInt8) (t : Tok) : Rep W B T n h (.bytes b t) (.bytes (bnats b))
  | tup {a : Addr} {items : Array Value} {l : List AV} : ¬ B a → h.IsTuple a items → items.size = l.length →
      (∀ (i : Nat) (v : Value) (x : AV), items[i]? = some v → l[i]? = some x → Rep W B T n h v x) → Rep W B T n h (.ref a) (.tup l)
  | list {a : Addr} {items : Array Value} {l : List AV} : ¬ B a → IsLst h a items → items.size = l.length →
      (∀ (i : Nat) (v : Value) (x : AV), items[i]? = some v → l[i]? = some x → Rep W B T n h v x) → Rep W B T n h (.ref a) (.list l)
  | dict {a : Addr} {es : Array DictEntry} {l : List (List Nat × AV)} : ¬ B a → IsDictAt W h a es → es.size = l.length →
      (∀ (i : Nat) (e : DictEntry) (x : List Nat × AV), es[i]? = some e → l[i]? = some x → StrAt T n e.key x.1) →
      (∀ (i : Nat) (e : DictEntry) (x : List Nat × AV), es[i]? = some e → l[i]? = some x → Rep W B T n h e.val x.2) → Rep W B T n h (.ref a) (.dict l)
  | exc {a : Addr} {o : Obj} {vs : Array Value} {i j : Int} {r : List Nat} : ¬ B a → h.get? a = some o → o.cls = .type "UnicodeDecodeError" → o.dict = none → o.data = .fields vs → ExcF T n vs i j r → Rep W B T n h (.ref a) (.exc i j r)
theorem StrAt.le {T T' : Tx} {n n' : Nat} {v : Value} {l : List Nat} (x : StrAt T n v l) (hn : n ≤ n') (ht : ∀ t, t < n → T' t = T t) : StrAt T' n' v l := by
  refine x2a5 (x.is) fun s t e_0 h1 h2 h3 h4 => ?_; subst e_0
  exact ⟨_, _, rfl, h1, (ht t h4).trans h2, h3, Nat.lt_of_lt_of_le h4 hn⟩
theorem isList_ext {h h' : Heap} {a : Addr} {items : Array Value} (x : IsLst h a items) (e : Ext h h') : IsLst h' a items := by
  refine x1a5 x fun o ho hc hn hsl t_0 => ?_; (try clear x); refine x1a1 t_0 fun n hd => ?_; (try clear t_0)
  refine x1a1 (e.2 a o ho) fun sl ho' => ?_
  exact ⟨_, ho', hc, hn, (keepS_ne (by rw [hc]; decide)).trans hsl, n, hd⟩
theorem isTuple_ext {h h' : Heap} {a : Addr} {items : Array Value} (x : h.IsTuple a items) (e : Ext h h') : h'.IsTuple a items := by
  obtain ⟨o, ho, hc, n, hd⟩ := x
  obtain ⟨sl, ho'⟩ := e.2 a o ho
  exact ⟨_, ho', hc, n, hd⟩
theorem isDict_ext {h h' : Heap} {a : Addr} {es : Array DictEntry} (x : IsDictAt W h a es) (e : Ext h h') : IsDictAt W h' a es := by
  refine x0a2 x fun t_0 ky => ?_; (try clear x); refine x1a5 t_0 fun o ho hc n hsl hd => ?_; (try clear t_0)
  refine x1a1 (e.2 a o ho) fun sl ho' => ?_
  exact ⟨⟨_, ho', hc, n, (keepS_ne (by rw [hc]; decide)).trans hsl, hd⟩, ky⟩
theorem isBarr_ext {h h' : Heap} {a : Addr} {b : Array UInt8} (x : IsBarr h a b) (e : Ext h h') : IsBarr h' a b := by
  refine x1a4 x fun o ho hc n hd => ?_; (try clear x)
  refine x1a1 (e.2 a o ho) fun sl ho' => ?_
  exact ⟨_, ho', hc, n, hd⟩
theorem ns_ext {h h' : Heap} {a : Addr} {m : Str → Option Value} (x : h.Ns a m) (e : Ext h h') : h'.Ns a m := by
  refine x3a4 x fun o es ep ho hd hk hm => ?_; (try clear x)
  refine x1a1 (e.2 a o ho) fun sl ho' => ?_
  exact ⟨_, es, ep, ho', hd, hk, hm⟩
theorem isCell_ext {h h' : Heap} {a : Addr} {v : Option Value} (x : h.IsCell a v) (e : Ext h h') : h'.IsCell a v := by
  refine x1a2 x fun o ho hd => ?_; (try clear x)
  refine x1a1 (e.2 a o ho) fun sl ho' => ?_
  exact ⟨_, ho', hd⟩
theorem codeRec_ext {h h' : Heap} {c : Value} {q : Str} (x : h.CodeRec c q) (e : Ext h h') : h'.CodeRec c q := by
  refine x4a4 x fun c o vs t e_0 ho hd hv => ?_; (try clear x); subst e_0
  refine x1a1 (e.2 c o ho) fun sl ho' => ?_
  exact ⟨c, _, vs, t, rfl, ho', hd, hv⟩
theorem Rep.mono {B B' : Addr → Prop} {T T' : Tx} {n n' : Nat} {h h' : Heap} {v : Value} {x : AV} (r : Rep W B T n h v x)
    (hn : n ≤ n') (ht : ∀ t, t < n → T' t = T t) (he : Ext h h') (hB : ∀ a, B' a → B a ∨ h.get? a = Option.none) : Rep W B' T' n' h' v x := by
  induction r with
  | none => exact .none
  | bool b => exact .bool b
  | int i t => exact .int i t
  | str s => exact .str (s.le hn ht)
  | bytes b t => exact .bytes b t
  | txt x t => exact .txt x t
  | tup hb hl hs _ ih =>
    refine .tup (fun q => ?_) (isTuple_ext hl he) hs ih
    rcases hB _ q with q | q
    · exact hb q
    · refine x1a2 hl fun o ho _ => ?_; (try clear hl); rw [q] at ho; exact ns ho
  | list hb hl hs _ ih =>
    refine .list (fun q => ?_) (isList_ext hl he) hs ih
    rcases hB _ q with q | q
    · exact hb q
    · refine x1a2 hl fun o ho _ => ?_; (try clear hl); rw [q] at ho; exact ns ho
  | dict hb hl hs hk _ ih =>
    refine .dict (fun q => ?_) (isDict_ext hl he) hs (fun i e x h1 h2 => (hk i e x h1 h2).le hn ht) ih
    rcases hB _ q with q | q
    · exact hb q
    · refine x0a2 hl fun t_0 _ => ?_; (try clear hl); refine x1a2 t_0 fun o ho _ => ?_; (try clear t_0); rw [q] at ho; exact ns ho
  | exc hb ho hc hdi hd hf =>
    refine x1a1 (he.2 _ _ ho) fun sl ho' => ?_
    refine .exc (fun q => ?_) ho' hc hdi hd ⟨hf.size, hf.start, hf.stop, x1a2 hf.reason fun v h1 h2 => ⟨v, h1, h2.le hn ht⟩⟩
    rcases hB _ q with q | q
    · exact hb q
    · rw [q] at ho; exact ns ho
theorem Rep.le {B : Addr → Prop} {T T' : Tx} {s s' : Shared} {v : Value} {x : AV} (r : Rep W B T s.toks s.heap v x) (l : Le T s T' s') : Rep W B T' s'.toks s'.heap v x :=
  r.mono l.toks l.tx l.ext fun _ h => .inl h
theorem Rep.sub {B B' : Addr → Prop} {T : Tx} {n : Nat} {h : Heap} {v : Value} {x : AV} (r : Rep W B T n h v x) (hB : ∀ a, B' a → B a) : Rep W B' T n h v x :=
  r.mono (Nat.le_refl _) (fun _ _ => rfl) (.refl _) fun a q => .inl (hB a q)
theorem Rep.but {B : Addr → Prop} {T : Tx} {n : Nat} {h h' : Heap} {v : Value} {x : AV} (r : Rep W B T n h v x)
    (he : ∀ b o, ¬ B b → h.get? b = some o → h'.get? b = some o) : Rep W B T n h' v x := by
  induction r with
  | none => exact .none
  | bool b => exact .bool b
  | int i t => exact .int i t
  | str s => exact .str s
  | bytes b t => exact .bytes b t
  | txt x t => exact .txt x t
  | tup hb hl hs _ ih => refine x1a2 hl fun o ho r => ?_; (try clear hl); exact .tup hb ⟨o, he _ _ hb ho, r⟩ hs ih
  | list hb hl hs _ ih => refine x1a2 hl fun o ho r => ?_; (try clear hl); exact .list hb ⟨o, he _ _ hb ho, r⟩ hs ih
  | dict hb hl hs hk _ ih => refine x0a2 hl fun t_0 ky => ?_; (try clear hl); refine x1a2 t_0 fun o ho r => ?_; (try clear t_0); exact .dict hb ⟨⟨o, he _ _ hb ho, r⟩, ky⟩ hs hk ih
  | exc hb ho hc hdi hd hf => exact .exc hb (he _ _ hb ho) hc hdi hd hf
omit [Lo] in
inductive OwnRep (W : World) (B : Addr → Prop) (T : Tx) (n : Nat) (h : Heap) (a : Addr) : AV → Prop where
  | list {items : Array Value} {l : List AV} : IsLst h a items → items.size = l.length →
      (∀ (i : Nat) (v : Value) (x : AV), items[i]? = some v → l[i]? = some x → Rep W B T n h v x) → OwnRep W B T n h a (.list l)
  | dict {es : Array DictEntry} {l : List (List Nat × AV)} : IsDictAt W h a es → es.size = l.length →
      (∀ (i : Nat) (e : DictEntry) (x : List Nat × AV), es[i]? = some e → l[i]? = some x → StrAt T n e.key x.1) →
      (∀ (i : Nat) (e : DictEntry) (x : List Nat × AV), es[i]? = some e → l[i]? = some x → Rep W B T n h e.val x.2) → OwnRep W B T n h a (.dict l)
  | barr (b : Array UInt8) : IsBarr h a b → OwnRep W B T n h a (.barr (bnats b))
  | hid : TupAt h a → OwnRep W B T n h a .hid
theorem OwnRep.mono {B B' : Addr → Prop} {T T' : Tx} {n n' : Nat} {h h' : Heap} {a : Addr} {x : AV} (r : OwnRep W B T n h a x)
    (hn : n ≤ n') (ht : ∀ t, t < n → T' t = T t) (he : Ext h h') (hB : ∀ a, B' a → B a ∨ h.get? a = Option.none) : OwnRep W B' T' n' h' a x := by
  cases r with
  | list hl hs hi => exact .list (isList_ext hl he) hs fun i v x h1 h2 => (hi i v x h1 h2).mono hn ht he hB
  | dict hl hs hk hi => exact .dict (isDict_ext hl he) hs (fun i e x h1 h2 => (hk i e x h1 h2).le hn ht) fun i v x h1 h2 => (hi i v x h1 h2).mono hn ht he hB
  | barr b hb => exact .barr b (isBarr_ext hb he)
  | hid hb => refine x1a4 hb fun o ho hc hn t_0 => ?_; (try clear hb); refine x2a2 t_0 fun x y hd hs => ?_; (try clear t_0); refine x1a1 (he.2 a o ho) fun sl ho' => ?_; exact .hid ⟨_, ho', hc, hn, x, y, hd, (keepS_ne (by rw [hc]; decide)).trans hs⟩
theorem OwnRep.but {B : Addr → Prop} {T : Tx} {n : Nat} {h h' : Heap} {a : Addr} {x : AV} (r : OwnRep W B T n h a x)
    (he : ∀ b o, ¬ B b → h.get? b = some o → h'.get? b = some o) (ha : ∀ o, h.get? a = some o → h'.get? a = some o) : OwnRep W B T n h' a x := by
  cases r with
  | list hl hs hi => refine x1a2 hl fun o ho r => ?_; (try clear hl); exact .list ⟨o, ha _ ho, r⟩ hs fun i v x h1 h2 => (hi i v x h1 h2).but he
  | dict hl hs hk hi => refine x0a2 hl fun t_0 ky => ?_; (try clear hl); refine x1a2 t_0 fun o ho r => ?_; (try clear t_0); exact .dict ⟨⟨o, ha _ ho, r⟩, ky⟩ hs hk fun i v x h1 h2 => (hi i v x h1 h2).but he
  | barr b hb => refine x1a2 hb fun o ho r => ?_; (try clear hb); exact .barr b ⟨o, ha _ ho, r⟩
  | hid hb => refine x1a2 hb fun o ho r => ?_; (try clear hb); exact .hid ⟨o, ha _ ho, r⟩
theorem OwnRep.there {B : Addr → Prop} {T : Tx} {n : Nat} {h : Heap} {a : Addr} {x : AV} (r : OwnRep W B T n h a x) : ∃ o, h.get? a = some o := by
  cases r with
  | list hl => refine x1a2 hl fun o ho _ => ?_; (try clear hl); exact ⟨o, ho⟩
  | dict hl => refine x0a2 hl fun t_0 _ => ?_; (try clear hl); refine x1a2 t_0 fun o ho _ => ?_; (try clear t_0); exact ⟨o, ho⟩
  | barr b hb => refine x1a2 hb fun o ho _ => ?_; (try clear hb); exact ⟨o, ho⟩
  | hid hb => refine x1a2 hb fun o ho _ => ?_; (try clear hb); exact ⟨o, ho⟩
section
variable {B : Addr → Prop} {T : Tx} {n : Nat} {h : Heap}
theorem Rep.cInt {i : Int} {motive : (v : Value) → Rep W B T n h v (.int i) → Prop} (int : ∀ t, motive (.int i t) (.int i t)) {v : Value} (r : Rep W B T n h v (.int i)) : motive v r := by
  cases r; exact int _
theorem Rep.cBool {b : Bool} {motive : (v : Value) → Rep W B T n h v (.bool b) → Prop} (bool : motive (.bool b) (.bool b)) {v : Value} (r : Rep W B T n h v (.bool b)) : motive v r := by
  cases r; exact bool
theorem Rep.cNone {motive : (v : Value) → Rep W B T n h v .none → Prop} (none : motive .none .none) {v : Value} (r : Rep W B T n h v .none) : motive v r := by
  cases r; exact none
theorem Rep.cBytes {motive : (l : List Nat) → (v : Value) → Rep W B T n h v (.bytes l) → Prop} (bytes : ∀ b t, motive (bnats b) (.bytes b t) (.bytes b t)) {l : List Nat} {v : Value} (r : Rep W B T n h v (.bytes l)) : motive l v r := by
  cases r; exact bytes _ _
theorem Rep.cList {l : List AV} {motive : (v : Value) → Rep W B T n h v (.list l) → Prop} (list : ∀ {a : Addr} {items : Array Value} {_u : Unit} (hb : ¬ B a) (hl : IsLst h a items) (hs : items.size = l.length)
      (hi : ∀ (i : Nat) (v : Value) (x : AV), items[i]? = some v → l[i]? = some x → Rep W B T n h v x), motive (.ref a) (.list hb hl hs hi)) {v : Value} (r : Rep W B T n h v (.list l)) : motive v r := by
  cases r with
  | list hb hl hs hi => exact list (_u := ()) hb hl hs hi
theorem Rep.cTup {l : List AV} {motive : (v : Value) → Rep W B T n h v (.tup l) → Prop} (tup : ∀ {a : Addr} {items : Array Value} {_u : Unit} (hb : ¬ B a) (hl : h.IsTuple a items) (hs : items.size = l.length)
      (hi : ∀ (i : Nat) (v : Value) (x : AV), items[i]? = some v → l[i]? = some x → Rep W B T n h v x), motive (.ref a) (.tup hb hl hs hi)) {v : Value} (r : Rep W B T n h v (.tup l)) : motive v r := by
  cases r with
  | tup hb hl hs hi => exact tup (_u := ()) hb hl hs hi
theorem Rep.cExc {i j : Int} {r : List Nat} {motive : (v : Value) → Rep W B T n h v (.exc i j r) → Prop} (exc : ∀ {a : Addr} {o : Obj} {vs : Array Value} (hb : ¬ B a) (ho : h.get? a = some o) (hc : o.cls = .type "UnicodeDecodeError") (hd : o.dict = Option.none) (hdat : o.data = .fields vs) (f : ExcF T n vs i j r),
      motive (.ref a) (.exc hb ho hc hd hdat f)) {v : Value} (q : Rep W B T n h v (.exc i j r)) : motive v q := by
  cases q with
  | exc a b c d e f => exact exc a b c d e f
theorem OwnRep.cBarr {a : Addr} {motive : (l : List Nat) → OwnRep W B T n h a (.barr l) → Prop} (barr : ∀ b (hb : IsBarr h a b), motive (bnats b) (.barr b hb)) {l : List Nat} (r : OwnRep W B T n h a (.barr l)) : motive l r := by
  cases r with
  | barr b hb => exact barr b hb
end
omit [Lo] in
set_option genInjectivity false in
structure Pg where
  mg : Str → Option Value
  mb : Str → Option Value
  mc : Str → Option Value
  fn : Str → Option (Addr × FuncData)
  more : List (Addr × Obj)
  nb : Nat
structure Pg.In (G : Pg) (h : Heap) : Prop where
  g : h.Ns mainGlobals G.mg
  b : h.Ns builtinsNs G.mb
  st : h.Ns cStatics G.mc
  fn : ∀ x a fd, G.fn x = some (a, fd) → G.mg x = some (.ref a) ∧ (∃ o, h.get? a = some o ∧ o.data = .func fd) ∧ h.CodeRec fd.code fd.qualname
  lim : G.mc "sys.recursionlimit" = none
  booked : G.mc sharingNotToldKey = none
  builtins : ∀ x : Str, x ≠ "__name__" → G.mb x = bootBuiltins x
  big : 4 ≤ G.nb
  lo : Lo.lo ≤ G.nb
  more : ∀ p ∈ G.more, p.1 < G.nb ∧ ∃ sl, h.get? p.1 = some { p.2 with slots := keepS p.1 p.2 sl }
theorem Pg.In.ext {G : Pg} {h h' : Heap} (x : G.In h) (e : Ext h h') : G.In h' where
  g := ns_ext x.g e
  b := ns_ext x.b e
  st := ns_ext x.st e
  fn := fun n a fd hf => by
    refine x0a3 (x.fn n a fd hf) fun h1 t_0 h3 => ?_; refine x1a2 t_0 fun o ho hd => ?_; (try clear t_0)
    refine x1a1 (e.2 a o ho) fun sl ho' => ?_
    exact ⟨h1, ⟨_, ho', hd⟩, codeRec_ext h3 e⟩
  lim := x.lim
  booked := x.booked
  builtins := x.builtins
  big := x.big
  lo := x.lo
  more := fun p hp => x0a2 (x.more p hp) fun hlt t_0 => x1a1 t_0 fun sl h1 => x1a1 (e.2 _ _ h1) fun sl' h2 => ⟨hlt, sl', keepS_tr h2⟩
theorem Pg.In.noLimit {G : Pg} {h : Heap} (x : G.In h) : h.NoLimit := ⟨_, x.st, x.lim⟩
omit [Lo] in
structure Cell where
  own : Option Addr
  val : AV
omit [Lo] in
noncomputable abbrev Sto := List (Str × Cell)
omit [Lo] in
noncomputable def Sto.get (σ : Sto) (x : Str) : Option Cell := List.lookup x σ
omit [Lo] in
noncomputable abbrev Sto.upd (σ : Sto) (x : Str) (v : AV) : Sto := (x, ⟨none, v⟩) :: σ
omit [Lo] in
noncomputable abbrev Sto.updO (σ : Sto) (x : Str) (a : Addr) (v : AV) : Sto := (x, ⟨some a, v⟩) :: σ
omit [Lo] in
noncomputable def Sto.owned (σ : Sto) (a : Addr) : Prop := ∃ x v, σ.get x = some ⟨some a, v⟩
theorem Sto.get_cons (σ : Sto) (x y : Str) (c : Cell) : Sto.get ((y, c) :: σ) x = if x = y then some c else σ.get x := by
  unfold Sto.get
  rw [List.lookup_cons]
  by_cases h : x = y
  · subst h; simp
  · rw [if_neg h, beq_false_of_ne h]
omit [Lo] in
set_option genInjectivity false in
structure Cx where
  G : Pg
  prog : Program
  w : World
  A : Around
  env : Env
  T0 : Tx
  s0 : Shared
  B0 : Addr → Prop
  fr : List Env
  k : Nat
  quiet : Bool
  inner : Bool
omit [Lo] in
noncomputable abbrev Cx.M (X : Cx) : Model := model X.prog X.w
omit [Lo] in
structure AOk (A : Around) (fr : List Env) (k : Nat) : Prop where
  depth : A.depth + k ≤ 900
  units : A.units + 20 * k ≤ 5000
  frames : A.frames = some fr
structure Cx.Ok (X : Cx) : Prop where
  a : AOk X.A X.fr X.k
  hh : X.quiet = true → X.A.handled = none
  kind : X.env.scope.kind = .function
  glob : X.env.globals = mainGlobals
  bu : X.env.builtins = builtinsNs
  pg : X.G.In X.s0.heap
  nb : X.G.nb ≤ X.s0.heap.objs.size
  hB : ∀ a, X.B0 a → X.G.nb ≤ a ∧ a < X.s0.heap.objs.size
  locals : X.s0.heap.objs.size ≤ X.env.locals
  cl : ∀ x a, X.env.cells.lookup x = some a → X.G.nb ≤ a
noncomputable def FrAt (h : Heap) (L : Addr) : Prop := ∃ o, h.get? L = some o ∧ o.cls = .type "frame" ∧ Lo.lo ≤ L ∧ ∃ es ep, o.data = .dict es ep
noncomputable def FrOk (h : Heap) : List Env → Prop
  | [] => True
  | env :: rest => env.scope.kind ≠ .module ∧ (∃ L, env.frame = some L ∧ FrAt h L) ∧ FrOk h rest
theorem FrOk.of {h h' : Heap} (k : ∀ b, FrAt h b → FrAt h' b) : ∀ {l : List Env}, FrOk h l → FrOk h' l
  | [], _ => trivial
  | _ :: _, ⟨h1, ⟨L, h2, h3⟩, h5⟩ => ⟨h1, ⟨L, h2, k L h3⟩, FrOk.of k h5⟩
theorem FrAt.ext {h h' : Heap} (e : Ext h h') {b : Addr} (x : FrAt h b) : FrAt h' b := x1a3 x fun o h1 h2 h3 => let ⟨_, h4⟩ := e.2 b o h1; ⟨_, h4, h2, h3⟩
theorem FrOk.ext {h h' : Heap} (e : Ext h h') {l : List Env} (x : FrOk h l) : FrOk h' l := x.of fun b => FrAt.ext e
omit [Lo] in
noncomputable def Cx.ban (X : Cx) (σ : Sto) (a : Addr) : Prop := X.B0 a ∨ a = X.env.locals ∨ (∃ x, X.env.cells.lookup x = some a) ∨ σ.owned a
omit [Lo] in
noncomputable def VarAt (env : Env) (h : Heap) (m : Str → Option Value) (x : Str) (v : Value) : Prop :=
  match env.kindOf x with
  | some .local => m x = some v
  | some .cell => ∃ a, env.cells.lookup x = some a ∧ h.IsCell a (some v)
  | some .free => ∃ a, env.cells.lookup x = some a ∧ h.IsCell a (some v)
  | _ => x = "__classdict__"
omit [Lo] in
noncomputable def CellRep (W : World) (B : Addr → Prop) (T : Tx) (n : Nat) (h : Heap) (v : Value) (c : Cell) : Prop :=
  match c.own with
  | none => Rep W B T n h v c.val
  | some a => v = .ref a ∧ OwnRep W B T n h a c.val
structure StB (B : Addr → Prop) (X : Cx) (σ : Sto) (T : Tx) (s : Shared) : Prop where
  ok : X.Ok
  le : Le X.T0 X.s0 T s
  pos : 0 < s.toks
  fro : FrOk s.heap X.fr
  vars : ∃ m, s.heap.Ns X.env.locals m ∧ ∀ x c, σ.get x = some c → ∃ v, VarAt X.env s.heap m x v ∧ CellRep X.w B T s.toks s.heap v c
  cells : ∀ x a, X.env.cells.lookup x = some a → (X.inner = false → X.env.kindOf x = some .cell → X.s0.heap.objs.size ≤ a) ∧ a ≠ X.env.locals ∧ ∃ v, s.heap.IsCell a v
  apart : ∀ x y a, X.env.cells.lookup x = some a → X.env.cells.lookup y = some a → x = y
  fresh : ∀ a, σ.owned a → X.s0.heap.objs.size ≤ a ∧ a ≠ X.env.locals ∧ ∀ x, X.env.cells.lookup x ≠ some a
  one : ∀ x y a v v', σ.get x = some ⟨some a, v⟩ → σ.get y = some ⟨some a, v'⟩ → x = y
noncomputable abbrev St (X : Cx) (σ : Sto) (T : Tx) (s : Shared) : Prop := StB (X.ban σ) X σ T s
theorem StB.pg {B : Addr → Prop} {X : Cx} {σ : Sto} {T : Tx} {s : Shared} (S : StB B X σ T s) : X.G.In s.heap := S.ok.pg.ext S.le.ext
theorem VarAt.to {env : Env} {h h' : Heap} {m m' : Str → Option Value} {x : Str} {v : Value} (r : VarAt env h m x v) (k : ∀ a, env.cells.lookup x = some a → h.IsCell a (some v) → h'.IsCell a (some v)) (hm : env.kindOf x = some .local → m x = some v → m' x = some v) : VarAt env h' m' x v := by
  unfold VarAt at *
  split at r
  · rename_i q; exact hm q r
  · exact r.elim fun a c => ⟨a, c.1, k a c.1 c.2⟩
  · exact r.elim fun a c => ⟨a, c.1, k a c.1 c.2⟩
  · exact r
theorem VarAt.turned {env : Env} {h h' : Heap} {m : Str → Option Value} {x : Str} {v : Value} {a : Addr} (r : VarAt env h m x v) (hs : Heap.SameBut a h h') (k : ∀ b, env.cells.lookup x = some b → b ≠ a) : VarAt env h' m x v :=
  r.to (fun b c1 c2 => c2.sameBut hs (k b c1)) fun _ h => h
theorem get_inv {σ : Sto} {x y : Str} {c d : Cell} (e : Sto.get ((y, c) :: σ) x = some d) : (x = y ∧ c = d) ∨ (x ≠ y ∧ σ.get x = some d) := by
  rw [Sto.get_cons] at e
  split at e
  · rename_i q; exact .inl ⟨q, Option.some.inj e⟩
  · rename_i q; exact .inr ⟨q, e⟩
theorem cell_own {a : Addr} {b : Addr} {x y : AV} (e : (⟨some a, x⟩ : Cell) = ⟨some b, y⟩) : a = b := Option.some.inj (congrArg Cell.own e)
theorem OwnRep.noFrame {B : Addr → Prop} {T : Tx} {n : Nat} {h : Heap} {a : Addr} {x : AV} (r : OwnRep W B T n h a x) {o : Obj} (e : h.get? a = some o) (hc : o.cls = .type "frame") : False := by
  have key : ∀ o2 : Obj, h.get? a = some o2 → o2.cls ≠ .type "frame" → False := fun o2 g q => q (Option.some.inj (g.symm.trans e) ▸ hc)
  cases r with
  | list hl => exact hl.elim fun o2 g => key o2 g.1 (by rw [g.2.1]; decide)
  | dict hl => exact hl.1.elim fun o2 g => key o2 g.1 (by rw [g.2.1]; decide)
  | barr b hl => exact hl.elim fun o2 g => key o2 g.1 (by rw [g.2.1]; decide)
  | hid hl => exact hl.elim fun o2 g => key o2 g.1 (by rw [g.2.1]; decide)
theorem VarAt.ext {env : Env} {h h' : Heap} {m : Str → Option Value} {x : Str} {v : Value} (r : VarAt env h m x v) (e : Ext h h') : VarAt env h' m x v := by
  unfold VarAt at *
  split at r
  · exact r
  · refine x1a2 r fun a h1 h2 => ?_; (try clear r); exact ⟨a, h1, isCell_ext h2 e⟩
  · refine x1a2 r fun a h1 h2 => ?_; (try clear r); exact ⟨a, h1, isCell_ext h2 e⟩
  · exact r
theorem CellRep.mono {B B' : Addr → Prop} {T T' : Tx} {n n' : Nat} {h h' : Heap} {v : Value} {c : Cell} (r : CellRep W B T n h v c)
    (hn : n ≤ n') (ht : ∀ t, t < n → T' t = T t) (he : Ext h h') (hB : ∀ a, B' a → B a ∨ h.get? a = none) : CellRep W B' T' n' h' v c := by
  obtain ⟨o, x⟩ := c
  cases o with
  | none => exact Rep.mono r hn ht he hB
  | some a => exact ⟨r.1, r.2.mono hn ht he hB⟩
theorem CellRep.but {B : Addr → Prop} {T : Tx} {n : Nat} {h h' : Heap} {v : Value} {c : Cell} (r : CellRep W B T n h v c)
    (he : ∀ b o, ¬ B b → h.get? b = some o → h'.get? b = some o) (ha : ∀ a o, c.own = some a → h.get? a = some o → h'.get? a = some o) : CellRep W B T n h' v c := by
  obtain ⟨o, x⟩ := c
  cases o with
  | none => exact Rep.but r he
  | some a => exact ⟨r.1, r.2.but he fun o => ha a o rfl⟩
theorem CellRep.toks {B : Addr → Prop} {T : Tx} {n n' : Nat} {h : Heap} {v : Value} {c : Cell} (r : CellRep W B T n h v c) (hn : n ≤ n') : CellRep W B T n' h v c :=
  r.mono hn (fun _ _ => rfl) (.refl _) fun _ q => .inl q
theorem CellRep.sub {B B' : Addr → Prop} {T : Tx} {n : Nat} {h : Heap} {v : Value} {c : Cell} (r : CellRep W B T n h v c) (hB : ∀ a, B' a → B a) : CellRep W B' T n h v c :=
  r.mono (Nat.le_refl _) (fun _ _ => rfl) (.refl _) fun a q => .inl (hB a q)
theorem StB.le_ban {B B' : Addr → Prop} {X : Cx} {σ : Sto} {T T' : Tx} {s s' : Shared} (S : StB B X σ T s) (l : Le T s T' s') (hB : ∀ a, B' a → B a ∨ s.heap.get? a = none) : StB B' X σ T' s' where
  ok := S.ok
  le := S.le.trans l
  pos := Nat.lt_of_lt_of_le S.pos l.toks
  fro := S.fro.ext l.ext
  vars := by
    refine x1a2 (S.vars) fun m hn hv => ?_
    refine ⟨m, ns_ext hn l.ext, fun x c hc => ?_⟩
    refine x1a2 (hv x c hc) fun v h1 h2 => ?_
    exact ⟨v, h1.ext l.ext, h2.mono l.toks l.tx l.ext hB⟩
  cells := fun x a hx => x0a3 (S.cells x a hx) fun h1 h2 t_0 => x1a1 t_0 fun v h3 => ⟨h1, h2, v, isCell_ext h3 l.ext⟩
  apart := S.apart
  fresh := S.fresh
  one := S.one
theorem StB.le_mono {B : Addr → Prop} {X : Cx} {σ : Sto} {T T' : Tx} {s s' : Shared} (S : StB B X σ T s) (l : Le T s T' s') : StB B X σ T' s' := S.le_ban l fun _ q => .inl q
theorem StB.anti {B B' : Addr → Prop} {X : Cx} {σ : Sto} {T : Tx} {s : Shared} (S : StB B X σ T s) (hB : ∀ a, B' a → B a) : StB B' X σ T s := S.le_ban (.refl _ _) fun a q => .inl (hB a q)
omit [Lo] in
noncomputable def Sto.Sub (σ' σ : Sto) : Prop := ∀ x c, σ'.get x = some c → σ.get x = some c
theorem Sto.Sub.owned {σ' σ : Sto} (h : Sto.Sub σ' σ) {a : Addr} (o : σ'.owned a) : σ.owned a := x2a1 o fun x v e => ⟨x, v, h x _ e⟩
theorem Cx.ban_sub {X : Cx} {σ' σ : Sto} (h : Sto.Sub σ' σ) {a : Addr} (b : X.ban σ' a) : X.ban σ a := by
  rcases b with b | b | b | b
  · exact .inl b
  · exact .inr (.inl b)
  · exact .inr (.inr (.inl b))
  · exact .inr (.inr (.inr (h.owned b)))
theorem StB.sub {X : Cx} {σ σ' : Sto} {T : Tx} {s : Shared} (S : St X σ T s) (h : Sto.Sub σ' σ) : St X σ' T s where
  ok := S.ok
  le := S.le
  pos := S.pos
  fro := S.fro
  vars := by
    refine x1a2 (S.vars) fun m hn hv => ?_
    refine ⟨m, hn, fun x c hc => ?_⟩
    refine x1a2 (hv x c (h x c hc)) fun v h1 h2 => ?_
    exact ⟨v, h1, h2.sub fun a => Cx.ban_sub h⟩
  cells := S.cells
  apart := S.apart
  fresh := fun a o => S.fresh a (h.owned o)
  one := fun x y a v v' h1 h2 => S.one x y a v v' (h _ _ h1) (h _ _ h2)
omit [Lo] in
noncomputable def Sto.subB : Sto → Sto → Prop
  | [], _ => True
  | (x, c) :: r, σ => σ.get x = some c ∧ Sto.subB r σ
theorem Sto.sub_of : ∀ {σ' σ : Sto}, Sto.subB σ' σ → Sto.Sub σ' σ
  | [], _, _, x, c, e => by simp [Sto.get] at e
  | (y, d) :: r, σ, ⟨h1, h2⟩, x, c, e => by
    rw [Sto.get_cons] at e
    split at e
    · rename_i q; subst q; (have e := Option.some.inj e; subst e); exact h1
    · exact Sto.sub_of h2 x c e
structure LeB (B : Addr → Prop) (T : Tx) (s : Shared) (T' : Tx) (s' : Shared) : Prop where
  size : s.heap.objs.size ≤ s'.heap.objs.size
  ext : ∀ b o, ¬ B b → s.heap.get? b = some o → ∃ sl, s'.heap.get? b = some { o with slots := keepS b o sl }
  toks : s.toks ≤ s'.toks
  tx : ∀ t, t < s.toks → T' t = T t
  gens : s'.gens = s.gens
  os : s'.os = s.os
theorem Le.leB {T T' : Tx} {s s' : Shared} (l : Le T s T' s') (B : Addr → Prop) : LeB B T s T' s' := ⟨l.ext.1, fun b o _ e => l.ext.2 b o e, l.toks, l.tx, l.gens, l.os⟩
theorem LeB.refl (B : Addr → Prop) (T : Tx) (s : Shared) : LeB B T s T s := (Le.refl T s).leB B
theorem LeB.trans {B B' : Addr → Prop} {T₁ T₂ T₃ : Tx} {s₁ s₂ s₃ : Shared} (x : LeB B T₁ s₁ T₂ s₂) (y : LeB B' T₂ s₂ T₃ s₃) (hB : ∀ b, b < s₁.heap.objs.size → B' b → B b) : LeB B T₁ s₁ T₃ s₃ :=
  ⟨Nat.le_trans x.size y.size, fun b o hb e => let ⟨_, e₁⟩ := x.ext b o hb e; x1a1 (y.ext b _ (fun q => hb (hB b (Heap.lt_size e) q)) e₁) fun sl e₂ => ⟨sl, keepS_tr e₂⟩,
   Nat.le_trans x.toks y.toks, fun t ht => (y.tx t (Nat.lt_of_lt_of_le ht x.toks)).trans (x.tx t ht), y.gens.trans x.gens, y.os.trans x.os⟩
theorem Rep.leB {B B' : Addr → Prop} {T T' : Tx} {s s' : Shared} {v : Value} {x : AV} (r : Rep W B T s.toks s.heap v x) (l : LeB B' T s T' s') (hB : ∀ b, B' b → B b) : Rep W B T' s'.toks s'.heap v x := by
  induction r with
  | none => exact .none
  | bool b => exact .bool b
  | int i t => exact .int i t
  | str x => exact .str (x.le l.toks l.tx)
  | bytes b t => exact .bytes b t
  | txt x t => exact .txt x t
  | tup hb hl hs _ ih => refine x1a3 hl fun o ho hc t_0 => ?_; (try clear hl); refine x1a1 t_0 fun m hd => ?_; (try clear t_0); refine x1a1 (l.ext _ o (fun q => hb (hB _ q)) ho) fun sl ho' => ?_; exact .tup hb ⟨_, ho', hc, m, hd⟩ hs ih
  | list hb hl hs _ ih => refine x1a5 hl fun o ho hc hn hsl t_0 => ?_; (try clear hl); refine x1a1 t_0 fun m hd => ?_; (try clear t_0); refine x1a1 (l.ext _ o (fun q => hb (hB _ q)) ho) fun sl ho' => ?_; exact .list hb ⟨_, ho', hc, hn, (keepS_ne (by rw [hc]; decide)).trans hsl, m, hd⟩ hs ih
  | dict hb hl hs hk _ ih => refine x0a2 hl fun t_0 ky => ?_; (try clear hl); refine x1a5 t_0 fun o ho hc hn hsl t_1 => ?_; (try clear t_0); refine x1a1 t_1 fun m hd => ?_; (try clear t_1); refine x1a1 (l.ext _ o (fun q => hb (hB _ q)) ho) fun sl ho' => ?_; exact .dict hb ⟨⟨_, ho', hc, hn, (keepS_ne (by rw [hc]; decide)).trans hsl, m, hd⟩, ky⟩ hs (fun i e x h1 h2 => (hk i e x h1 h2).le l.toks l.tx) ih
  | exc hb ho hc hdi hd hf => refine x1a1 (l.ext _ _ (fun q => hb (hB _ q)) ho) fun sl ho' => ?_; exact .exc hb ho' hc hdi hd ⟨hf.size, hf.start, hf.stop, x1a2 hf.reason fun v h1 h2 => ⟨v, h1, h2.le l.toks l.tx⟩⟩
theorem LeB.turn {B : Addr → Prop} {T : Tx} {s : Shared} {h' : Heap} {k : Nat} {a : Addr} (hs : Heap.SameBut a s.heap h') (ha : B a) (hk : s.toks ≤ k) : LeB B T s T { s with heap := h', toks := k } :=
  ⟨Nat.le_of_eq hs.1.symm, fun b o hb e => ⟨o.slots, keepS_re ((hs.2 b (fun q => hb (q ▸ ha))).trans e)⟩, hk, fun _ _ => rfl, rfl, rfl⟩
section
variable {B : Addr → Prop} {X : Cx} {σ : Sto} {T : Tx} {s : Shared}
theorem StB.le_turn (S : StB B X σ T s) {h' : Heap} {k : Nat} {a : Addr} (ha : X.s0.heap.objs.size ≤ a) (hs : Heap.SameBut a s.heap h') (hk : s.toks ≤ k) :
    Le X.T0 X.s0 T { s with heap := h', toks := k } := by
  refine ⟨⟨hs.1 ▸ S.le.ext.1, fun b o e => ?_⟩, Nat.le_trans S.le.toks hk, S.le.tx, S.le.gens, S.le.os⟩
  refine x1a1 (S.le.ext.2 b o e) fun sl e' => ?_
  exact ⟨sl, (hs.2 b (Nat.ne_of_lt (Nat.lt_of_lt_of_le (Heap.lt_size e) ha))).trans e'⟩
theorem StB.fro_turn (S : StB B X σ T s) {h' : Heap} {a : Addr} (hs : Heap.SameBut a s.heap h') (ho : FrAt s.heap a → FrAt h' a) : FrOk h' X.fr :=
  S.fro.of fun b x => by
    by_cases q : b = a
    · subst q; exact ho x
    · refine x1a2 x fun o h1 r => ?_; (try clear x); exact ⟨o, (hs.2 b q).trans h1, r⟩
theorem Cx.ban_upd {x : Str} {v : AV} {a : Addr} (b : X.ban (σ.upd x v) a) : X.ban σ a := by
  rcases b with b | b | b | ⟨y, w, e⟩
  · exact .inl b
  · exact .inr (.inl b)
  · exact .inr (.inr (.inl b))
  · rw [Sto.get_cons] at e
    split at e
    · cases Option.some.inj e
    · exact .inr (.inr (.inr ⟨y, w, e⟩))
theorem Cx.ban_updO {x : Str} {c : Addr} {v : AV} {a : Addr} (b : X.ban (σ.updO x c v) a) : X.ban σ a ∨ a = c := by
  rcases b with b | b | b | ⟨y, w, e⟩
  · exact .inl (.inl b)
  · exact .inl (.inr (.inl b))
  · exact .inl (.inr (.inr (.inl b)))
  · rw [Sto.get_cons] at e
    split at e
    · cases Option.some.inj e; exact .inr rfl
    · exact .inl (.inr (.inr (.inr ⟨y, w, e⟩)))
theorem StB.own_there (S : StB B X σ T s) {a : Addr} (o : σ.owned a) : ∃ ob, s.heap.get? a = some ob := by
  refine x2a1 o fun x v e => ?_; (try clear o)
  refine x1a2 (S.vars) fun m hn hv => ?_
  refine x1a2 (hv x _ e) fun w h1 h2 => ?_
  exact h2.2.there
theorem StB.ban_lt (S : StB B X σ T s) {a : Addr} (b : X.ban σ a) : a < s.heap.objs.size := by
  rcases b with b | b | ⟨x, b⟩ | b
  · exact Nat.lt_of_lt_of_le (S.ok.hB a b).2 S.le.ext.1
  · refine x1a2 (S.vars) fun m hn _ => ?_; exact b ▸ hn.lt
  · refine x0a3 (S.cells x a b) fun _ _ t_0 => ?_; refine x1a1 t_0 fun v hc => ?_; (try clear t_0); exact hc.lt
  · refine x1a1 (S.own_there b) fun o ho => ?_; exact Heap.lt_size ho
theorem StB.ban_ge (S : StB B X σ T s) {a : Addr} (b : X.ban σ a) : X.G.nb ≤ a := by
  rcases b with b | b | ⟨x, b⟩ | b
  · exact (S.ok.hB a b).1
  · exact b ▸ Nat.le_trans S.ok.nb S.ok.locals
  · exact S.ok.cl x a b
  · exact Nat.le_trans S.ok.nb (S.fresh a b).1
omit [Lo] in
structure NewCell (X : Cx) (σ : Sto) (B : Addr → Prop) (x : Str) (c : Cell) : Prop where
  old : ∀ b, X.ban σ b → B b
  fresh : ∀ a, c.own = some a → X.s0.heap.objs.size ≤ a ∧ a ≠ X.env.locals ∧ ∀ y, X.env.cells.lookup y ≠ some a
  one : ∀ a y v', c.own = some a → σ.get y ≠ some ⟨some a, v'⟩
theorem NewCell.plain (x : Str) (av : AV) : NewCell X σ (X.ban σ) x ⟨none, av⟩ :=
  ⟨fun _ b => b, fun _ h => (nomatch h), fun _ _ _ h => (nomatch h)⟩
theorem StB.store_local (S : StB B X σ T s) {x : Str} {v : Value} {c : Cell} (hk : X.env.kindOf x = some .local) (N : NewCell X σ B x c)
    (r : CellRep X.w B T s.toks s.heap v c) {Q : Unit → Shared → Prop} {E : Value → Shared → Prop}
    (hQ : ∀ s', StB B X ((x, c) :: σ) T s' → LeB (X.ban σ) T s T s' → Q () s') : wpAny X.M X.A (storeName X.env x v) Q E s := by
  refine x1a2 (S.vars) fun m hn hv => ?_
  refine x3a2 (id hn) fun oL _ _ hoL _ => ?_
  refine wpAny_storeName_cls hk hn ⟨oL, hoL, rfl⟩ (fun h' hn' hs hcls => hQ _ ?_ (LeB.turn hs (.inr (.inl rfl)) (Nat.le_succ _))) (by rw [S.ok.kind]; rfl)
  have hbut : ∀ b o, ¬ B b → s.heap.get? b = some o → h'.get? b = some o := fun b o hb e =>
    (hs.2 b fun q => hb (N.old _ (.inr (.inl q)))).trans e
  refine x3a3 (id hn') fun o' es ep ho' hd' _ => ?_
  exact {
    ok := S.ok
    le := S.le_turn S.ok.locals hs (Nat.le_succ _)
    pos := Nat.succ_pos _
    fro := S.fro_turn hs fun ⟨o, f1, f2, f3, _⟩ => by
      rw [hoL] at f1; (have f1 := Option.some.inj f1; subst f1)
      refine x1a2 hcls fun o2 g1 g2 => ?_; (try clear hcls)
      rw [ho'] at g1; (have g1 := Option.some.inj g1; subst g1)
      exact ⟨o', ho', g2.trans f2, f3, es, ep, hd'⟩
    vars := by
      refine ⟨_, hn', fun y cl e => (get_inv e).elim (fun q => ?_) fun q => ?_⟩
      · have q1 := q.1
        have q2 := q.2
        subst q1; subst q2
        refine ⟨v, ?_, (r.but hbut fun a o ha ho => (hs.2 a (N.fresh a ha).2.1).trans ho).toks (Nat.le_succ _)⟩
        unfold VarAt; rw [hk]; simp
      · refine (hv y cl q.2).elim fun w z => ⟨w, z.1.to (fun a c1 c2 => c2.sameBut hs (S.cells y a c1).2.1) fun _ h => by rw [if_neg q.1]; exact h, (z.2.but hbut fun a o ha ho => (hs.2 a ?_).trans ho).toks (Nat.le_succ _)⟩
        obtain ⟨c0, c1⟩ := cl
        cases ha
        exact (S.fresh a ⟨y, _, q.2⟩).2.1
    cells := fun y a hy => x0a3 (S.cells y a hy) fun h1 h2 t_0 => x1a1 t_0 fun w h3 => ⟨h1, h2, w, h3.sameBut hs h2⟩
    apart := S.apart
    fresh := fun a t_0 => x2a1 t_0 fun y w e => by
      rw [Sto.get_cons] at e
      split at e
      · (have e := Option.some.inj e; subst e); exact N.fresh a rfl
      · exact S.fresh a ⟨y, w, e⟩
    one := fun y z a w w' h1 h2 => by
      rw [Sto.get_cons] at h1 h2
      split at h1
      · rename_i q1; (have h1 := Option.some.inj h1; subst h1)
        split at h2
        · rename_i q2; exact q1.trans q2.symm
        · exact absurd h2 (N.one a z w' rfl)
      · split at h2
        · rename_i q2; (have h2 := Option.some.inj h2; subst h2); exact absurd h1 (N.one a y w rfl)
        · exact S.one y z a w w' h1 h2 }
theorem StB.store_cell (S : StB B X σ T s) {x : Str} {v : Value} {cl : Cell} {c : Addr} (hin : X.inner = false) (hk : X.env.kindOf x = some .cell) (hc : X.env.cells.lookup x = some c)
    (N : NewCell X σ B x cl) (r : CellRep X.w B T s.toks s.heap v cl) {Q : Unit → Shared → Prop} {E : Value → Shared → Prop}
    (hQ : ∀ s', StB B X ((x, cl) :: σ) T s' → LeB (X.ban σ) T s T s' → Q () s') : wpAny X.M X.A (storeName X.env x v) Q E s := by
  refine x1a2 (S.vars) fun m hn hv => ?_
  refine x0a3 (S.cells x c hc) fun hlo hcl t_0 => ?_; refine x1a1 t_0 fun v0 hcell => ?_; (try clear t_0)
  refine wpAny_storeName_cell S.ok.kind hk hc hcell (fun h' hcell' hs => hQ _ ?_ (LeB.turn (k := s.toks) hs (.inr (.inr (.inl ⟨x, hc⟩))) (Nat.le_refl _)))
  have hbut : ∀ b o, ¬ B b → s.heap.get? b = some o → h'.get? b = some o := fun b o hb e =>
    (hs.2 b fun q => hb (N.old _ (.inr (.inr (.inl ⟨x, q ▸ hc⟩))))).trans e
  refine x1a2 (id hcell') fun o' ho' hd' => ?_
  exact {
    ok := S.ok
    le := S.le_turn (hlo hin hk) hs (Nat.le_refl _)
    pos := S.pos
    fro := S.fro_turn hs fun ⟨o, f1, _, _, _, _, f2⟩ => by
      refine x1a2 hcell fun o2 g1 g2 => ?_; (try clear hcell)
      rw [f1] at g1; (have g1 := Option.some.inj g1; subst g1)
      rw [f2] at g2; cases g2
    vars := by
      refine ⟨m, hn.sameBut hs (Ne.symm hcl), fun y d e => (get_inv e).elim (fun q => ?_) fun q => ?_⟩
      · have q1 := q.1
        have q2 := q.2
        subst q1; subst q2
        refine ⟨v, ?_, r.but hbut fun a o ha ho => (hs.2 a fun z => (N.fresh a ha).2.2 y (z ▸ hc)).trans ho⟩
        unfold VarAt; rw [hk]; exact ⟨c, hc, hcell'⟩
      · refine (hv y d q.2).elim fun w z => ⟨w, z.1.turned hs fun a c1 z => q.1 (S.apart y x a c1 (z ▸ hc)), z.2.but hbut fun a o ha ho => (hs.2 a ?_).trans ho⟩
        obtain ⟨c0, c1⟩ := d
        cases ha
        exact fun zz => (S.fresh a ⟨y, _, q.2⟩).2.2 x (zz ▸ hc)
    cells := fun y a hy => by
      refine x0a3 (S.cells y a hy) fun h1 h2 t_0 => ?_; refine x1a1 t_0 fun w h3 => ?_; (try clear t_0)
      by_cases q : a = c
      · subst q; exact ⟨h1, h2, _, hcell'⟩
      · exact ⟨h1, h2, w, h3.sameBut hs q⟩
    apart := S.apart
    fresh := fun a z => z.elim fun y z => z.elim fun w e => (get_inv e).elim (fun q => N.fresh a (congrArg Cell.own q.2)) fun q => S.fresh a ⟨y, w, q.2⟩
    one := fun y z a w w' h1 h2 => (get_inv h1).elim (fun q1 => (get_inv h2).elim (fun q2 => q1.1.trans q2.1.symm) fun q2 => absurd q2.2 (N.one a z w' (congrArg Cell.own q1.2)))
      fun q1 => (get_inv h2).elim (fun q2 => absurd q1.2 (N.one a y w (congrArg Cell.own q2.2))) fun q2 => S.one y z a w w' q1.2 q2.2 }
omit [Lo] in
noncomputable def storable (X : Cx) (x : Str) : Prop := X.env.kindOf x = some .local ∨ (X.inner = false ∧ X.env.kindOf x = some .cell ∧ ∃ c, X.env.cells.lookup x = some c)
theorem StB.storeC (S : StB B X σ T s) {x : Str} {v : Value} {c : Cell} (hk : storable X x) (N : NewCell X σ B x c)
    (r : CellRep X.w B T s.toks s.heap v c) {Q : Unit → Shared → Prop} {E : Value → Shared → Prop}
    (hQ : ∀ s', StB B X ((x, c) :: σ) T s' → LeB (X.ban σ) T s T s' → Q () s') : wpAny X.M X.A (storeName X.env x v) Q E s := by
  rcases hk with hk | ⟨hin, hk, c, hc⟩
  · exact S.store_local hk N r hQ
  · exact S.store_cell hin hk hc N r hQ
theorem StB.store (S : St X σ T s) {x : Str} {v : Value} {av : AV} (hk : storable X x)
    (r : Rep X.w (X.ban σ) T s.toks s.heap v av) {Q : Unit → Shared → Prop} {E : Value → Shared → Prop}
    (hQ : ∀ s', St X (σ.upd x av) T s' → LeB (X.ban σ) T s T s' → Q () s') : wpAny X.M X.A (storeName X.env x v) Q E s :=
  S.storeC hk (.plain x av) r fun s' S' l => hQ s' (S'.anti fun _ b => Cx.ban_upd b) l
theorem StB.store_own (S : St X σ T s) {T' : Tx} {s' : Shared} (l : Le T s T' s') {x : Str} {a : Addr} {av : AV} (ha : s.heap.objs.size ≤ a) (hk : storable X x)
    (r : OwnRep X.w (fun b => X.ban σ b ∨ b = a) T' s'.toks s'.heap a av) {Q : Unit → Shared → Prop} {E : Value → Shared → Prop}
    (hQ : ∀ s'', St X (σ.updO x a av) T' s'' → LeB (X.ban σ) T' s' T' s'' → Q () s'') : wpAny X.M X.A (storeName X.env x (.ref a)) Q E s' := by
  have hno : ∀ b, X.ban σ b → b ≠ a := fun b hb q => by
    subst q; exact Nat.lt_irrefl _ (Nat.lt_of_lt_of_le (StB.ban_lt S hb) ha)
  have hnone : s.heap.get? a = none := Heap.get?_none_of_le ha
  have S' : StB (fun b => X.ban σ b ∨ b = a) X σ T' s' := S.le_ban l fun b q => q.imp id fun (e : b = a) => e ▸ hnone
  refine S'.storeC (c := ⟨some a, av⟩) hk ⟨fun b q => .inl q, fun b e => ?_, fun b y v' e h => ?_⟩ ⟨rfl, r⟩ fun s'' S'' l => hQ s'' (S''.anti fun _ b => Cx.ban_updO b) l
  · (have e := Option.some.inj e; subst e)
    exact ⟨Nat.le_trans S.le.ext.1 ha, fun q => hno _ (.inr (.inl q)) rfl, fun y q => hno _ (.inr (.inr (.inl ⟨y, q⟩))) rfl⟩
  · (have e := Option.some.inj e; subst e)
    exact hno _ (.inr (.inr (.inr ⟨y, v', h⟩))) rfl
theorem StB.freeze (S : St X σ T s) {x : Str} {a : Addr} {av : AV} (hx : σ.get x = some ⟨some a, av⟩) (hb : av.Open) : St X (σ.upd x av) T s where
  ok := S.ok
  le := S.le
  pos := S.pos
  fro := S.fro
  vars := by
    have hno : ¬ X.ban (σ.upd x av) a := by
      have hf := S.fresh a ⟨x, av, hx⟩
      rintro (b | b | ⟨y, b⟩ | ⟨y, w, e⟩)
      · exact Nat.lt_irrefl _ (Nat.lt_of_lt_of_le (S.ok.hB a b).2 hf.1)
      · exact hf.2.1 b
      · exact hf.2.2 y b
      · exact (get_inv e).elim (fun q => nomatch congrArg Cell.own q.2) fun q => q.1 (S.one y x a _ _ q.2 hx)
    refine x1a2 (S.vars) fun m hn hv => ?_
    refine ⟨m, hn, fun y c e => ?_⟩
    refine (get_inv e).elim (fun q => ?_) fun q => ?_
    · have q1 := q.1
      have q2 := q.2
      subst q1; subst q2
      refine x1a3 (hv y _ hx) fun w h1 e_0 h2 => ?_; subst e_0
      refine ⟨_, h1, ?_⟩
      show Rep _ _ _ _ _ (.ref a) av
      cases h2 with
      | list hl hs hi => exact .list hno hl hs fun i v x e1 e2 => (hi i v x e1 e2).sub fun _ => Cx.ban_upd
      | dict hl hs hk hi => exact .dict hno hl hs hk fun i v x e1 e2 => (hi i v x e1 e2).sub fun _ => Cx.ban_upd
      | barr b _ => exact absurd rfl (hb.1 _)
      | hid _ => exact absurd rfl hb.2
    · exact (hv y c q.2).elim fun w z => ⟨w, z.1, z.2.sub fun _ => Cx.ban_upd⟩
  cells := S.cells
  apart := S.apart
  fresh := fun a t_0 => x2a1 t_0 fun y w e => (get_inv e).elim (fun q => nomatch congrArg Cell.own q.2) fun q => S.fresh a ⟨y, w, q.2⟩
  one := fun y z a w w' h1 h2 => (get_inv h1).elim (fun q => nomatch congrArg Cell.own q.2) fun q => (get_inv h2).elim (fun q => nomatch congrArg Cell.own q.2) fun q' => S.one y z a w w' q.2 q'.2
theorem StB.turn (S : St X σ T s) {x : Str} {a : Addr} {av av' : AV} (hx : σ.get x = some ⟨some a, av⟩) {h' : Heap} (hs : Heap.SameBut a s.heap h')
    (r : OwnRep X.w (X.ban σ) T s.toks h' a av') : St X (σ.updO x a av') T { s with heap := h' } := by
  have hf := S.fresh a ⟨x, av, hx⟩
  refine x1a2 (S.vars) fun m hn hv => ?_
  have howned : ∀ b, (σ.updO x a av').owned b ↔ σ.owned b := fun b =>
    ⟨fun z => z.elim fun y z => z.elim fun w e => (get_inv e).elim (fun q => ⟨x, av, cell_own q.2 ▸ hx⟩) fun q => ⟨y, w, q.2⟩,
     fun z => z.elim fun y z => z.elim fun w e => (Decidable.em (y = x)).elim (fun q => ⟨x, av', (Sto.get_cons ..).trans ((if_pos rfl).trans (congrArg (fun b => some (⟨some b, av'⟩ : Cell)) (cell_own (Option.some.inj (hx.symm.trans (q ▸ e))))))⟩) fun q => ⟨y, w, (Sto.get_cons ..).trans ((if_neg q).trans e)⟩⟩
  have hban : X.ban (σ.updO x a av') = X.ban σ := by
    funext b
    exact propext ⟨fun z => z.imp id fun z => z.imp id fun z => z.imp id (howned b).mp, fun z => z.imp id fun z => z.imp id fun z => z.imp id (howned b).mpr⟩
  have hbut : ∀ b o, ¬ X.ban σ b → s.heap.get? b = some o → h'.get? b = some o := fun b o hb e =>
    (hs.2 b fun q => hb (.inr (.inr (.inr ⟨x, av, q ▸ hx⟩)))).trans e
  have hva : ∀ y v, VarAt X.env s.heap m y v → VarAt X.env h' m y v := fun y v z => z.turned hs fun b c1 z => hf.2.2 y (z ▸ c1)
  exact {
    ok := S.ok
    le := S.le_turn hf.1 hs (Nat.le_refl _)
    pos := S.pos
    fro := S.fro_turn hs fun ⟨o, f1, f2, f3, _⟩ => (hv x _ hx).elim fun v0 z => (z.2.2.noFrame f1 f2).elim
    vars := by
      rw [hban]
      refine ⟨m, hn.sameBut hs (Ne.symm hf.2.1), fun y cl e => (get_inv e).elim (fun q => ?_) fun q => ?_⟩
      · have q1 := q.1
        have q2 := q.2
        subst q1; subst q2
        exact (hv y _ hx).elim fun w z => ⟨w, hva y w z.1, z.2.1, r⟩
      · refine (hv y cl q.2).elim fun w z => ⟨w, hva y w z.1, z.2.but hbut fun b o hb ho => (hs.2 b fun z => q.1 ?_).trans ho⟩
        subst z
        obtain ⟨c0, c1⟩ := cl
        cases hb
        exact S.one y x b _ _ q.2 hx
    cells := fun y b hy => by
      refine x0a3 (S.cells y b hy) fun h1 h2 t_0 => ?_; refine x1a1 t_0 fun w h3 => ?_; (try clear t_0)
      exact ⟨h1, h2, w, h3.sameBut hs fun z => hf.2.2 y (z ▸ hy)⟩
    apart := S.apart
    fresh := fun b o => S.fresh b ((howned b).mp o)
    one := fun y z b w w' h1 h2 => (get_inv h1).elim (fun q1 => (get_inv h2).elim (fun q2 => q1.1.trans q2.1.symm) fun q2 => q1.1.trans (S.one x z b _ _ (cell_own q1.2 ▸ hx) q2.2))
      fun q1 => (get_inv h2).elim (fun q2 => (S.one y x b _ _ q1.2 (cell_own q2.2 ▸ hx)).trans q2.1.symm) fun q2 => S.one y z b w w' q1.2 q2.2 }
end
end Mine
namespace Mine
open PySem PySem.W PyProof.Rows
variable [Lo]
variable {W : World}
omit [Lo] in
noncomputable abbrev noE : Value → Shared → Prop := fun _ _ => False
noncomputable abbrev PV (w : World) (B : Addr → Prop) (T : Tx) (s : Shared) (x : AV) (v : Value) (s' : Shared) : Prop := ∃ T', Le T s T' s' ∧ Rep w B T' s'.toks s'.heap v x
noncomputable abbrev PB (T : Tx) (s : Shared) (b c : Bool) (s' : Shared) : Prop := c = b ∧ ∃ T', Le T s T' s'
noncomputable def Yl (X : Cx) (B : Addr → Prop) (T : Tx) (s : Shared) (t : Sem Value) (x : AV) : Prop :=
  wpAny X.M X.A t (PV X.w B T s x) noE s
theorem Yl.then {X : Cx} {B : Addr → Prop} {T : Tx} {s : Shared} {t : Sem Value} {x : AV} (h : Yl X B T s t x) {Q : Value → Shared → Prop} {E : Value → Shared → Prop}
    (k : ∀ v T' s', Le T s T' s' → Rep X.w B T' s'.toks s'.heap v x → Q v s') : wpAny X.M X.A t Q E s :=
  wpAny_mono h (fun v s' t_0 => x1a2 t_0 fun T' l r => k v T' s' l r) fun _ _ x => x.elim
theorem Yl.back {X : Cx} {B : Addr → Prop} {T T₁ : Tx} {s s₁ : Shared} {t : Sem Value} {x : AV} (l : Le T s T₁ s₁) (h : Yl X B T₁ s₁ t x) :
    wpAny X.M X.A t (fun v s' => ∃ T', Le T s T' s' ∧ Rep X.w B T' s'.toks s'.heap v x) (fun _ _ => False) s₁ :=
  h.then fun _ T' _ l' r => ⟨T', l.trans l', r⟩
theorem Yl.backq {X : Cx} {B : Addr → Prop} {T T₁ : Tx} {s s₁ : Shared} {t : Sem Value} {x : AV} (l : Le T s T₁ s₁) (h : Yl X B T₁ s₁ t x) :
    wq X.M X.A t (fun v s' => ∃ T', Le T s T' s' ∧ Rep X.w B T' s'.toks s'.heap v x) (fun _ _ => False) s₁ := wq_of (Yl.back l h)
theorem Yl.thenq {X : Cx} {B : Addr → Prop} {T : Tx} {s : Shared} {t : Sem Value} {x : AV} (h : Yl X B T s t x) {Q : Value → Shared → Prop} {E : Value → Shared → Prop}
    (k : ∀ v T' s', Le T s T' s' → Rep X.w B T' s'.toks s'.heap v x → Q v s') : wq X.M X.A t Q E s := wq_of (h.then k)
noncomputable def Yq (X : Cx) (B : Addr → Prop) (T : Tx) (s : Shared) (t : Sem Value) (x : AV) : Prop :=
  wq X.M X.A t (PV X.w B T s x) noE s
theorem Yq.then {X : Cx} {B : Addr → Prop} {T : Tx} {s : Shared} {t : Sem Value} {x : AV} (h : Yq X B T s t x) {Q : Value → Shared → Prop} {E : Value → Shared → Prop}
    (k : ∀ v T' s', Le T s T' s' → Rep X.w B T' s'.toks s'.heap v x → Q v s') : wq X.M X.A t Q E s :=
  wq_mono h (fun v s' t_0 => x1a2 t_0 fun T' l r => k v T' s' l r) fun _ _ x => x.elim
theorem Yq.back {X : Cx} {B : Addr → Prop} {T T₁ : Tx} {s s₁ : Shared} {t : Sem Value} {x : AV} (l : Le T s T₁ s₁) (h : Yq X B T₁ s₁ t x) :
    wq X.M X.A t (fun v s' => ∃ T', Le T s T' s' ∧ Rep X.w B T' s'.toks s'.heap v x) (fun _ _ => False) s₁ :=
  h.then fun _ T' _ l' r => ⟨T', l.trans l', r⟩
noncomputable def Ev (X : Cx) (e : Expr) (σ : Sto) (x : AV) : Prop := ∀ T s, St X σ T s → Yq X (X.ban σ) T s (eval e X.env) x
theorem Ev.then {X : Cx} {e : Expr} {σ : Sto} {x : AV} (h : Ev X e σ x) {T : Tx} {s : Shared} (S : St X σ T s) {Q : Value → Shared → Prop} {E : Value → Shared → Prop}
    (k : ∀ v T' s', Le T s T' s' → St X σ T' s' → Rep X.w (X.ban σ) T' s'.toks s'.heap v x → Q v s') : wq X.M X.A (eval e X.env) Q E s :=
  (h T s S).then fun v T' s' l r => k v T' s' l (S.le_mono l) r
noncomputable def Te (X : Cx) (e : Expr) (σ : Sto) (b : Bool) : Prop := ∀ T s, St X σ T s →
  wq X.M X.A (isTrue e X.env (eval e X.env)) (PB T s b) noE s
theorem Te.then {X : Cx} {e : Expr} {σ : Sto} {b : Bool} (h : Te X e σ b) {T : Tx} {s : Shared} (S : St X σ T s) {Q : Bool → Shared → Prop} {E : Value → Shared → Prop}
    (k : ∀ T' s', Le T s T' s' → St X σ T' s' → Q b s') : wq X.M X.A (isTrue e X.env (eval e X.env)) Q E s :=
  wq_mono (h T s S) (fun _ s' t_0 => x0a2 t_0 fun e t_1 => x1a1 t_1 fun T' l => e ▸ k T' s' l (S.le_mono l)) fun _ _ x => x.elim
noncomputable def Tru (x : AV) (b : Bool) : Prop := ∀ (X : Cx) (B : Addr → Prop) (T : Tx) (s : Shared) (v : Value), X.G.In s.heap → 0 < s.toks → Rep X.w B T s.toks s.heap v x →
  wpAny X.M X.A (truthy v) (PB T s b) noE s
theorem Tru.then {x : AV} {b : Bool} (h : Tru x b) {X : Cx} {B : Addr → Prop} {σ : Sto} {T : Tx} {s : Shared} {v : Value} (S : StB B X σ T s) {B' : Addr → Prop} (r : Rep X.w B' T s.toks s.heap v x)
    {Q : Bool → Shared → Prop} {E : Value → Shared → Prop} (k : ∀ T' s', Le T s T' s' → Q b s') : wq X.M X.A (truthy v) Q E s :=
  wq_mono (wq_of (h X B' T s v S.pg S.pos r)) (fun _ s' ⟨e, T', l⟩ => e ▸ k T' s' l) fun _ _ x => x.elim
theorem tru_bool (b : Bool) : Tru (.bool b) b := fun X B T s v _ _ r => by
  cases r using Rep.cBool; exact wpAny_truthy_bool ⟨rfl, T, .refl _ _⟩
theorem tru_int (i : Int) : Tru (.int i) (i != 0) := fun X B T s v _ _ r => by
  cases r using Rep.cInt; exact P.truthy_int ⟨rfl, T, .refl _ _⟩
section
variable {X : Cx} {σ : Sto}
theorem Te.value {e : Expr} {x : AV} {b : Bool} (h : Ev X e σ x) (ht : Tru x b)
    (he : autoParam (isTrue e X.env (eval e X.env) = (do let v ← eval e X.env; standAt e.pos; holding [v] (truthy v))) byRfl) : Te X e σ b := fun T s S => by
  refine wq_isTrue_value ?_ he
  refine h.then S fun v T' s' l S' r => ht.then S' r fun T'' s'' l' => ⟨rfl, T'', l.trans l'⟩
theorem Te.not {e : Expr} {pos : Pos} {b : Bool} (h : Te X e σ b) : Te X (.UnaryOp .Not e pos) σ (!b) := fun T s S => by
  refine wq_isTrue_Not ?_
  exact h.then S fun T' s' l _ => ⟨rfl, T', l⟩
noncomputable def BinG (op : Operator) (a b c : AV) : Prop := ∀ (X : Cx) (B : Addr → Prop) (T : Tx) (s : Shared) (u v : Value), X.G.In s.heap → 0 < s.toks → (∀ b, B b → b < s.heap.objs.size) →
  Rep X.w B T s.toks s.heap u a → Rep X.w B T s.toks s.heap v b → Yl X B T s (binaryOp op u v) c
noncomputable def InpG (op : Operator) (a b c : AV) : Prop := ∀ (X : Cx) (B : Addr → Prop) (T : Tx) (s : Shared) (u v : Value), X.G.In s.heap → 0 < s.toks →
  Rep X.w B T s.toks s.heap u a → Rep X.w B T s.toks s.heap v b → Yl X B T s (inplaceOp op u v) c
noncomputable def CmpG (op : CmpOp) (a b : AV) (c : Bool) : Prop := ∀ (X : Cx) (B : Addr → Prop) (T : Tx) (s : Shared) (u v : Value), X.Ok → X.G.In s.heap → 0 < s.toks →
  Rep X.w B T s.toks s.heap u a → Rep X.w B T s.toks s.heap v b → Yl X B T s (compareOp op u v) (.bool c)
theorem Ev.binop {l r : Expr} {op : Operator} {pos : Pos} {a b c : AV} (h1 : Ev X l σ a) (h2 : Ev X r σ b) (h : BinG op a b c) : Ev X (.BinOp l op r pos) σ c := fun T s S => by
  refine wq_BinOp (h1.then S fun u T₁ s₁ l₁ S₁ r₁ => h2.then S₁ fun v T₂ s₂ l₂ S₂ r₂ => ?_)
  exact Yl.backq (l₁.trans l₂) (h X _ T₂ s₂ u v S₂.pg S₂.pos (fun b q => S₂.ban_lt q) (r₁.le l₂) r₂)
theorem Ev.cmp {l r : Expr} {op : CmpOp} {pos : Pos} {a b : AV} {c : Bool} (h1 : Ev X l σ a) (h2 : Ev X r σ b) (h : CmpG op a b c) (hm : autoParam (behindInMarks op r = false) byRfl) :
    Ev X (.Compare l [op] [r] pos) σ (.bool c) := fun T s S => by
  refine wq_Compare1 (h1.then S fun u T₁ s₁ l₁ S₁ r₁ => h2.then S₁ fun v T₂ s₂ l₂ S₂ r₂ => ?_) hm
  exact Yl.backq (l₁.trans l₂) (h X _ T₂ s₂ u v S₂.ok S₂.pg S₂.pos (r₁.le l₂) r₂)
theorem Te.cmp {l r : Expr} {op : CmpOp} {pos : Pos} {a b : AV} {c : Bool} (h1 : Ev X l σ a) (h2 : Ev X r σ b) (h : CmpG op a b c) (hm : autoParam (behindInMarks op r = false) byRfl) :
    Te X (.Compare l [op] [r] pos) σ c := fun T s S => by
  refine wq_isTrue_Compare1 (h1.then S fun u T₁ s₁ l₁ S₁ r₁ => h2.then S₁ fun v T₂ s₂ l₂ S₂ r₂ => ?_) hm
  refine (h X _ T₂ s₂ u v S₂.ok S₂.pg S₂.pos (r₁.le l₂) r₂).thenq fun w T₃ s₃ l₃ r₃ => ?_
  exact (tru_bool c).then (S₂.le_mono l₃) r₃ fun T₄ s₄ l₄ => ⟨rfl, T₄, (l₁.trans l₂).trans (l₃.trans l₄)⟩
theorem Te.chain {l r₁ r₂ : Expr} {op₁ op₂ : CmpOp} {pos : Pos} {a b c : AV} {p q : Bool} (h1 : Ev X l σ a) (h2 : Ev X r₁ σ b) (h3 : Ev X r₂ σ c)
    (g1 : CmpG op₁ a b p) (g2 : CmpG op₂ b c q) (hm : autoParam (lastMarks [op₁, op₂] [r₁, r₂] = false) byRfl) : Te X (.Compare l [op₁, op₂] [r₁, r₂] pos) σ (p && q) := fun T s S => by
  refine wq_isTrue_chain (h1.then S fun u T₁ s₁ l₁ S₁ k₁ => ?_) hm
  unfold testChain
  refine wq_bind (wq_holding (h2.then S₁ fun v T₂ s₂ l₂ S₂ k₂ => wq_bind (wq_standAt (wq_bind (wq_holding ?_)))))
  refine (g1 X _ T₂ s₂ u v S₂.ok S₂.pg S₂.pos (k₁.le l₂) k₂).thenq fun w T₃ s₃ l₃ k₃ => ?_
  cases k₃
  refine wq_bind (wq_release ?_)
  refine wq_bind (wq_holding (wq_of <| wpAny_truthy_bool ?_))
  cases p with
  | false => exact wq_pure ⟨rfl, T₃, l₁.trans (l₂.trans l₃)⟩
  | true =>
    have S₃ := S₂.le_mono l₃
    simp only [if_true, Bool.true_and]
    unfold testChain
    refine wq_bind (wq_holding (h3.then S₃ fun z T₄ s₄ l₄ S₄ k₄ => wq_bind (wq_standAt ?_)))
    refine wq_bind (wq_operate ((g2 X _ T₄ s₄ v z S₄.ok S₄.pg S₄.pos ((k₂.le l₃).le l₄) k₄).thenq fun y T₅ s₅ l₅ k₅ => wq_holding ?_))
    cases k₅
    exact wq_of <| wpAny_truthy_bool ⟨rfl, T₅, (l₁.trans l₂).trans (l₃.trans (l₄.trans l₅))⟩
theorem Te.and {es : List Expr} {pos : Pos} {b : Bool} (h : ∀ T s, St X σ T s → wq X.M X.A (allTrue .And es X.env) (PB T s b) noE s) :
    Te X (.BoolOp .And es pos) σ b := fun T s S => wq_isTrue_BoolOp (h T s S)
noncomputable def Ands (X : Cx) (es : List Expr) (σ : Sto) (b : Bool) : Prop := ∀ T s, St X σ T s → wq X.M X.A (allTrue .And es X.env) (PB T s b) noE s
theorem Ands.nil : Ands X [] σ true := fun T s _ => wq_allTrue_nil ⟨rfl, T, .refl _ _⟩
theorem Ands.cons {e : Expr} {es : List Expr} {a b : Bool} (h1 : Te X e σ a) (h2 : a = true → Ands X es σ b) : Ands X (e :: es) σ (a && b) := fun T s S => by
  refine wq_allTrue_And (h1.then S fun T' s' l S' => ?_)
  cases a with
  | false => exact ⟨rfl, T', l⟩
  | true => exact wq_mono (h2 rfl T' s' S') (fun _ _ ⟨e, T'', l'⟩ => ⟨e, T'', l.trans l'⟩) fun _ _ x => x
noncomputable def Ors (X : Cx) (es : List Expr) (σ : Sto) (b : Bool) : Prop := ∀ T s, St X σ T s → wq X.M X.A (allTrue .Or es X.env) (PB T s b) noE s
theorem Ors.nil : Ors X [] σ false := fun T s _ => wq_allTrue_nil ⟨rfl, T, .refl _ _⟩
theorem Ors.cons {e : Expr} {es : List Expr} {a b : Bool} (h1 : Te X e σ a) (h2 : a = false → Ors X es σ b) : Ors X (e :: es) σ (a || b) := fun T s S => by
  refine wq_allTrue_Or (h1.then S fun T' s' l S' => ?_)
  cases a with
  | true => exact ⟨rfl, T', l⟩
  | false => exact wq_mono (h2 rfl T' s' S') (fun _ _ ⟨e, T'', l'⟩ => ⟨e, T'', l.trans l'⟩) fun _ _ x => x
theorem Te.or {es : List Expr} {pos : Pos} {b : Bool} (h : Ors X es σ b) : Te X (.BoolOp .Or es pos) σ b := fun T s S => wq_isTrue_BoolOp (h T s S)
theorem Ev.and_one {e : Expr} {pos : Pos} {x : AV} (h : Ev X e σ x) : Ev X (.BoolOp .And [e] pos) σ x := fun T s S => wq_BoolOp_one (h T s S)
theorem Ev.or_one {e : Expr} {pos : Pos} {x : AV} (h : Ev X e σ x) : Ev X (.BoolOp .Or [e] pos) σ x := fun T s S => wq_BoolOp_one (h T s S)
theorem Ev.and_cons {e₁ e₂ : Expr} {es : List Expr} {pos : Pos} {a b : Bool} (h1 : Ev X e₁ σ (.bool a)) (h2 : a = true → Ev X (.BoolOp .And (e₂ :: es) pos) σ (.bool b)) :
    Ev X (.BoolOp .And (e₁ :: e₂ :: es) pos) σ (.bool (a && b)) := fun T s S => by
  refine wq_BoolOp_and (h1.then S fun v T' s' l S' r => ?_)
  cases r using Rep.cBool
  refine wq_of <| wpAny_truthy_bool ?_
  cases a with
  | false => exact ⟨T', l, .bool _⟩
  | true => exact Yq.back l (h2 rfl T' s' S')
theorem Ev.or_cons {e₁ e₂ : Expr} {es : List Expr} {pos : Pos} {a b : Bool} (h1 : Ev X e₁ σ (.bool a)) (h2 : a = false → Ev X (.BoolOp .Or (e₂ :: es) pos) σ (.bool b)) :
    Ev X (.BoolOp .Or (e₁ :: e₂ :: es) pos) σ (.bool (a || b)) := fun T s S => by
  refine wq_BoolOp_or (h1.then S fun v T' s' l S' r => ?_)
  cases r using Rep.cBool
  refine wq_of <| wpAny_truthy_bool ?_
  cases a with
  | true => exact ⟨T', l, .bool _⟩
  | false => exact Yq.back l (h2 rfl T' s' S')
theorem Ev.not {e : Expr} {pos : Pos} {x : AV} {b : Bool} (h : Ev X e σ x) (ht : Tru x b) : Ev X (.UnaryOp .Not e pos) σ (.bool (!b)) := fun T s S => by
  refine wq_UnaryOp (h.then S fun v T' s' l S' r => wq_of (not_value (wpAny_mono (ht X _ T' s' v S'.pg S'.pos r) (fun c s'' ⟨hc, T'', l'⟩ => ?_) fun _ _ x => x)))
  subst hc
  exact ⟨T'', l.trans l', .bool _⟩
theorem Ev.neg {e : Expr} {pos : Pos} {i : Int} (h : Ev X e σ (.int i)) : Ev X (.UnaryOp .USub e pos) σ (.int (-i)) := fun T s S => by
  refine wq_UnaryOp (h.then S fun v T' s' l S' r => ?_)
  cases r using Rep.cInt
  exact wq_of <| P.neg_int ⟨T', l.trans (.tok (Nat.le_succ _)), .int _ _⟩
theorem Ev.ifexp {t e₁ e₂ : Expr} {pos : Pos} {b : Bool} {x : AV} (h : Te X t σ b) (h1 : b = true → Ev X e₁ σ x) (h2 : b = false → Ev X e₂ σ x) : Ev X (.IfExp t e₁ e₂ pos) σ x := fun T s S => by
  refine wq_IfExp (h.then S fun T' s' l S' => ?_)
  cases b with
  | true => exact Yq.back l (h1 rfl T' s' S')
  | false => exact Yq.back l (h2 rfl T' s' S')
theorem Ev.cint {i : Int} {k : Nat} {pos : Pos} : Ev X (.Constant (.int i) k pos) σ (.int i) := fun T s S =>
  wq_of <| wpAny_Constant_int ⟨T, .tok (Nat.le_succ _), .int _ _⟩
theorem Ev.cnone {k : Nat} {pos : Pos} : Ev X (.Constant .none k pos) σ .none := fun T s S =>
  wq_of <| wpAny_Constant_none ⟨T, .refl _ _, .none⟩
theorem strAt_new {T : Tx} {s : Shared} {x : Str} (h0 : 0 < s.toks) : StrAt (T.set s.toks x.cps.toList) (s.toks + 1) (.str x s.toks) x.cps.toList :=
  ⟨x, s.toks, rfl, rfl, by simp [Tx.set], h0, Nat.lt_succ_self _⟩
theorem rep_new {T : Tx} {s : Shared} {x : Str} {B : Addr → Prop} {l : List Nat} (h0 : 0 < s.toks) (hl : x.cps.toList = l) :
    ∃ T', Le T s T' { s with toks := s.toks + 1 } ∧ Rep W B T' (s.toks + 1) s.heap (.str x s.toks) (.str l) :=
  ⟨T.set s.toks x.cps.toList, .set (Nat.le_succ _), .str (hl ▸ strAt_new h0)⟩
theorem Ev.cstr {x : Str} {k : Nat} {pos : Pos} {l : List Nat} (hl : x.cps.toList = l) : Ev X (.Constant (.str x) k pos) σ (.str l) := fun T s S =>
  wq_of <| wpAny_Constant_str (rep_new S.pos hl)
theorem Ev.cbytes {b : List UInt8} {k : Nat} {pos : Pos} {l : List Nat} (hl : b.map UInt8.toNat = l) : Ev X (.Constant (.bytes b) k pos) σ (.bytes l) := fun T s S => by
  subst hl
  show wq X.M X.A (mkTextBytes b.toArray) _ _ s
  exact wq_of <| wpAny_mkTextBytes ⟨T, .tok (Nat.le_succ _), by have := Rep.bytes (W := X.w) (B := X.ban σ) (T := T) (n := s.toks + 1) (h := s.heap) b.toArray s.toks; simpa [bnats] using this⟩
theorem StB.load (S : St X σ T s) {x : Str} {c : Cell} (hx : σ.get x = some c) {Q : Value → Shared → Prop} {E : Value → Shared → Prop}
    (hQ : ∀ v, CellRep X.w (X.ban σ) T s.toks s.heap v c → Q v s) (hcl : autoParam ((x == ("__classdict__" : Str)) = false) byDec) : wpAny X.M X.A (loadName X.env x) Q E s := by
  refine x1a2 (S.vars) fun m hn hv => ?_
  refine x1a2 (hv x c hx) fun v h1 h2 => ?_
  unfold VarAt at h1
  split at h1
  · exact wpAny_loadName_local S.ok.kind (by assumption) hn h1 (hQ v h2)
  · refine x1a2 h1 fun a c1 c2 => ?_; (try clear h1)
    exact wpAny_loadName_cell S.ok.kind (by assumption) c1 c2 (hQ v h2)
  · refine x1a2 h1 fun a c1 c2 => ?_; (try clear h1)
    exact wpAny_loadName_free S.ok.kind (by assumption) c1 c2 (hQ v h2) hcl
  · rw [h1] at hcl; exact absurd hcl (by decide)
theorem Ev.name {x : Str} {pos : Pos} {v : AV} (hx : σ.get x = some ⟨none, v⟩) (hd : autoParam ((x == ("__debug__" : Str)) = false) byDec)
    (hcl : autoParam ((x == ("__classdict__" : Str)) = false) byDec) : Ev X (.Name x pos) σ v := fun T s S =>
  wq_Name (wq_of (S.load hx (fun w r => ⟨T, .refl _ _, r⟩) hcl)) hd
theorem Ev.global {x : Str} {pos : Pos} {v : Value} {y : AV} (hk : X.env.kindOf x = some .globalImplicit) (hg : X.G.mg x = some v) (hr : ∀ B T n h, Rep X.w B T n h v y)
    (hd : autoParam ((x == ("__debug__" : Str)) = false) byDec) : Ev X (.Name x pos) σ y := fun T s S =>
  wq_of <| Calls.Name_function_global S.ok.kind hk (Calls.loadGlobal_global (mg := X.G.mg) (by rw [S.ok.glob]; exact S.pg.g) hg ⟨T, .refl _ _, hr _ _ _ _⟩) hd
theorem StB.load_builtin (S : St X σ T s) {x : Str} {pos : Pos} {v : Value} (hk : X.env.kindOf x = some .globalImplicit) (hg : X.G.mg x = none) (hb : bootBuiltins x = some v)
    {Q : Value → Shared → Prop} {E : Value → Shared → Prop} (hQ : Q v s) (hn : autoParam (x ≠ "__name__") byDec) (hd : autoParam ((x == ("__debug__" : Str)) = false) byDec) :
    wq X.M X.A (eval (.Name x pos) X.env) Q E s :=
  wq_of <| Calls.Name_function_global S.ok.kind hk (Calls.loadGlobal_builtin (mg := X.G.mg) (mb := X.G.mb) (by rw [S.ok.glob]; exact S.pg.g) hg (by rw [S.ok.bu]; exact S.pg.b) ((S.pg.builtins x hn).trans hb) hQ) hd
theorem StB.load_fn (S : St X σ T s) {x : Str} {pos : Pos} {a : Addr} {fd : FuncData} (hk : X.env.kindOf x = some .globalImplicit) (hf : X.G.fn x = some (a, fd))
    {Q : Value → Shared → Prop} {E : Value → Shared → Prop} (hQ : Q (.ref a) s) (hd : autoParam ((x == ("__debug__" : Str)) = false) byDec) :
    wq X.M X.A (eval (.Name x pos) X.env) Q E s :=
  wq_of <| Calls.Name_function_global S.ok.kind hk (Calls.loadGlobal_global (mg := X.G.mg) (by rw [S.ok.glob]; exact S.pg.g) (S.pg.fn x a fd hf).1 hQ) hd
omit [Lo] in
inductive RepL (W : World) (B : Addr → Prop) (T : Tx) (n : Nat) (h : Heap) : List Value → List AV → Prop where
  | nil : RepL W B T n h [] []
  | cons {v : Value} {x : AV} {vs : List Value} {xs : List AV} : Rep W B T n h v x → RepL W B T n h vs xs → RepL W B T n h (v :: vs) (x :: xs)
theorem RepL.cCons {B : Addr → Prop} {T : Tx} {n : Nat} {h : Heap} {x : AV} {xs : List AV} {motive : (vs : List Value) → RepL W B T n h vs (x :: xs) → Prop} (cons : ∀ {v : Value} {vs : List Value} (h1 : Rep W B T n h v x) (h2 : RepL W B T n h vs xs), motive (v :: vs) (.cons h1 h2)) {vs : List Value} (r : RepL W B T n h vs (x :: xs)) : motive vs r := by
  cases r with
  | cons h1 h2 => exact cons h1 h2
theorem RepL.cNil {B : Addr → Prop} {T : Tx} {n : Nat} {h : Heap} {motive : (vs : List Value) → RepL W B T n h vs [] → Prop} (nil : motive [] .nil) {vs : List Value} (r : RepL W B T n h vs []) : motive vs r := by
  cases r; exact nil
theorem RepL.le {B : Addr → Prop} {T T' : Tx} {s s' : Shared} {vs : List Value} {xs : List AV} (r : RepL W B T s.toks s.heap vs xs) (l : Le T s T' s') : RepL W B T' s'.toks s'.heap vs xs := by
  induction r with
  | nil => exact .nil
  | cons h _ ih => exact .cons (h.le l) ih
theorem RepL.length {B : Addr → Prop} {T : Tx} {n : Nat} {h : Heap} {vs : List Value} {xs : List AV} (r : RepL W B T n h vs xs) : vs.length = xs.length := by
  induction r with
  | nil => rfl
  | cons _ _ ih => simp [ih]
theorem RepL.at {B : Addr → Prop} {T : Tx} {n : Nat} {h : Heap} {vs : List Value} {xs : List AV} (r : RepL W B T n h vs xs) :
    ∀ (i : Nat) (v : Value) (x : AV), vs[i]? = some v → xs[i]? = some x → Rep W B T n h v x := by
  induction r with
  | nil => intro i v x h; simp at h
  | cons h _ ih =>
    intro i v x h1 h2
    cases i with
    | zero => simp at h1 h2; subst h1 h2; exact h
    | succ i => simp at h1 h2; exact ih i v x h1 h2
theorem RepL.of {B : Addr → Prop} {T : Tx} {n : Nat} {h : Heap} : ∀ {vs : List Value} {xs : List AV}, vs.length = xs.length →
    (∀ (i : Nat) (v : Value) (x : AV), vs[i]? = some v → xs[i]? = some x → Rep W B T n h v x) → RepL W B T n h vs xs
  | [], [], _, _ => .nil
  | v :: vs, x :: xs, hl, hi => .cons (hi 0 v x rfl rfl) (RepL.of (by simpa using hl) fun i v x h1 h2 => hi (i + 1) v x (by simpa using h1) (by simpa using h2))
  | [], _ :: _, hl, _ => by simp at hl
  | _ :: _, [], hl, _ => by simp at hl
theorem RepL.mono {B B' : Addr → Prop} {T T' : Tx} {n n' : Nat} {h h' : Heap} {vs : List Value} {xs : List AV} (r : RepL W B T n h vs xs)
    (hn : n ≤ n') (ht : ∀ t, t < n → T' t = T t) (he : Ext h h') (hB : ∀ a, B' a → B a ∨ h.get? a = Option.none) : RepL W B' T' n' h' vs xs := by
  induction r with
  | nil => exact .nil
  | cons h _ ih => exact .cons (h.mono hn ht he hB) ih
noncomputable abbrev PL (w : World) (B : Addr → Prop) (T : Tx) (s : Shared) (xs : List AV) (vs : List Value) (s' : Shared) : Prop := ∃ T', Le T s T' s' ∧ RepL w B T' s'.toks s'.heap vs xs
noncomputable abbrev PN (X : Cx) (σ : Sto) (T : Tx) (s : Shared) (x : AV) (v : Value) (s' : Shared) : Prop := ∃ T' a, v = .ref a ∧ Le T s T' s' ∧ s.heap.objs.size ≤ a ∧ OwnRep X.w (fun b => X.ban σ b ∨ b = a) T' s'.toks s'.heap a x
noncomputable def EvL (X : Cx) (es : List Expr) (σ : Sto) (xs : List AV) : Prop := ∀ T s, St X σ T s → ∀ pos,
  wq X.M X.A (spliced (backTo pos (starEach es X.env))) (PL X.w (X.ban σ) T s xs) noE s
theorem EvL.nil : EvL X [] σ [] := fun T s S pos => wq_args_nil ⟨T, .refl _ _, .nil⟩
theorem EvL.cons {e : Expr} {es : List Expr} {x : AV} {xs : List AV} (h1 : Ev X e σ x) (h2 : EvL X es σ xs)
    (he : autoParam (starEach (e :: es) X.env = (false, eval e X.env) :: starEach es X.env) byRfl) : EvL X (e :: es) σ (x :: xs) := fun T s S pos => by
  refine wq_args_cons (h1.then S fun v T' s' l S' r => ?_) he
  refine wq_mono (h2 T' s' S' pos) (fun vs s'' t_0 => x1a2 t_0 fun T'' l' r' => ?_) fun _ _ x => x
  exact ⟨T'', l.trans l', .cons (r.le l') r'⟩
theorem EvL.then {es : List Expr} {xs : List AV} (h : EvL X es σ xs) {T : Tx} {s : Shared} (S : St X σ T s) {pos : Pos} {Q : List Value → Shared → Prop} {E : Value → Shared → Prop}
    (k : ∀ vs T' s', Le T s T' s' → St X σ T' s' → RepL X.w (X.ban σ) T' s'.toks s'.heap vs xs → Q vs s') : wq X.M X.A (spliced (backTo pos (starEach es X.env))) Q E s :=
  wq_mono (h T s S pos) (fun vs s' t_0 => x1a2 t_0 fun T' l r => k vs T' s' l (S.le_mono l) r) fun _ _ x => x.elim
theorem le_push {T : Tx} {s : Shared} (o : Obj) : Le T s T { s with heap := s.heap.push o } := Le.mk' ((Ext.refl _).push o) (Nat.le_refl _)
theorem Ev.tuple {es : List Expr} {k : Nat} {pos : Pos} {xs : List AV} (h : EvL X es σ xs) (hl : autoParam (xs.length ≤ 16777216) byDec) : Ev X (.Tuple es k pos) σ (.tup xs) := fun T s S => by
  refine wq_Tuple (h.then S fun vs T' s' l S' r => ⟨by rw [r.length, sizeLine_eq]; exact hl, ?_⟩)
  refine ⟨T', l.trans (le_push _), .tup ?_ ⟨_, Heap.get?_push_size _ rfl, rfl, _, rfl⟩ (by simpa using r.length) ?_⟩
  · intro b; exact Nat.lt_irrefl _ (S'.ban_lt b)
  · have r' := r.le (le_push (T := T') (s := s') { cls := .type "tuple", data := .seq vs.toArray })
    intro i v x h1 h2; exact r'.at i v x (by simpa using h1) h2
noncomputable def EvN (X : Cx) (e : Expr) (σ : Sto) (x : AV) : Prop := ∀ T s, St X σ T s →
  wq X.M X.A (eval e X.env) (PN X σ T s x) noE s
theorem OwnRep.rep {B B' : Addr → Prop} {T : Tx} {n : Nat} {h : Heap} {a : Addr} {x : AV} (r : OwnRep W B T n h a x) (ha : ¬ B' a) (hB : ∀ b, B' b → B b) (hb : x.Open) : Rep W B' T n h (.ref a) x := by
  cases r with
  | list hl hs hi => exact .list ha hl hs fun i v x h1 h2 => (hi i v x h1 h2).sub hB
  | dict hl hs hk hi => exact .dict ha hl hs hk fun i v x h1 h2 => (hi i v x h1 h2).sub hB
  | barr b _ => exact absurd rfl (hb.1 _)
  | hid _ => exact absurd rfl hb.2
theorem EvN.ev {e : Expr} {x : AV} (h : EvN X e σ x) (hb : x.Open) : Ev X e σ x := fun T s S =>
  wq_mono (h T s S) (fun v s' t_0 => x2a4 t_0 fun T' a e l ha r => ⟨T', l, e ▸ r.rep (fun b => Nat.lt_irrefl _ (Nat.lt_of_lt_of_le (S.ban_lt b) ha)) (fun _ q => .inl q) hb⟩) fun _ _ x => x
theorem EvN.list {es : List Expr} {pos : Pos} {xs : List AV} (h : EvL X es σ xs) (hl : autoParam (xs.length ≤ 16777216) byDec) : EvN X (.List es pos) σ (.list xs) := fun T s S => by
  refine wq_List (h.then S fun vs T' s' l S' r => ⟨by rw [r.length, sizeLine_eq]; exact hl, ?_⟩)
  refine ⟨T', _, rfl, l.trans (le_push _), l.ext.1, .list ⟨_, Heap.get?_push_size _ rfl, rfl, rfl, rfl, _, rfl⟩ (by simpa using r.length) ?_⟩
  have r' := r.mono (B' := fun b => X.ban σ b ∨ b = s'.heap.objs.size) (Nat.le_refl _) (fun _ _ => rfl) ((Ext.refl _).push { cls := .type "list", data := .seq vs.toArray })
    (fun a q => q.imp id fun (e : a = _) => e ▸ Heap.get?_none_of_le (Nat.le_refl _))
  intro i v x h1 h2; exact r'.at i v x (by simpa using h1) h2
theorem Ev.list {es : List Expr} {pos : Pos} {xs : List AV} (h : EvL X es σ xs) (hl : autoParam (xs.length ≤ 16777216) byDec) : Ev X (.List es pos) σ (.list xs) :=
  (EvN.list h hl).ev ⟨fun _ q => (nomatch q), fun q => (nomatch q)⟩
end
end Mine
namespace Mine
open PySem PySem.W PyProof.Rows
variable [Lo]
variable {W : World}
omit [Lo] in
inductive XV where
  | index
  | ude (shallow : Bool) (start stop : Int) (reason : List Nat)
omit [Lo] in
noncomputable def XV.cls : XV → String
  | .index => "IndexError"
  | .ude .. => "UnicodeDecodeError"
omit [Lo] in
noncomputable def Chain0 (lo : Addr) (h : Heap) (v : Value) : Prop := v = .none ∨ ∃ b o ws, v = .ref b ∧ lo ≤ b ∧ h.get? b = some o ∧ o.cls ≠ .type "traceback" ∧ o.data = .fields ws ∧ ws[2]? = some .none
omit [Lo] in
noncomputable def XFields (lo : Addr) (h : Heap) (T : Tx) (n : Nat) (vs : Array Value) : XV → Prop
  | .index => vs[2]? = some .none
  | .ude d i j r => vs.size = 11 ∧ (∃ t, vs[8]? = some (.int i t)) ∧ (∃ t, vs[9]? = some (.int j t)) ∧ (∃ v, vs[10]? = some v ∧ StrAt T n v r) ∧ (d = true → ∃ c, vs[2]? = some c ∧ Chain0 lo h c)
omit [Lo] in
noncomputable def TbOk (lo : Addr) (h : Heap) (a : Addr) (vs : Array Value) : Prop :=
  vs[1]? = some .none ∨ ∃ t ot ts, vs[1]? = some (.ref t) ∧ lo ≤ t ∧ t ≠ a ∧ h.get? t = some ot ∧ ot.cls = .type "traceback" ∧ ot.data = .fields ts ∧ 3 < ts.size
omit [Lo] in
structure ExcAt (lo : Addr) (tr : Bool) (T : Tx) (n : Nat) (h : Heap) (a : Addr) (x : XV) : Prop where
  ge : lo ≤ a
  at_ : ∃ o vs, h.get? a = some o ∧ o.cls = .type x.cls ∧ o.dict = none ∧ o.data = .fields vs ∧ 6 ≤ vs.size ∧ XFields lo h T n vs x ∧ TbOk lo h a vs ∧ (tr = true → vs[1]? ≠ some .none)
structure Shift (lo : Addr) (h h' : Heap) : Prop where
  size : h.objs.size ≤ h'.objs.size
  low : ∀ b o, b < lo → h.get? b = some o → ∃ sl, h'.get? b = some { o with slots := keepS b o sl }
  data : ∀ b o, h.get? b = some o → (∀ vs, o.data ≠ .fields vs) → ∃ sl, h'.get? b = some { o with slots := keepS b o sl }
  exc : ∀ b o vs, h.get? b = some o → o.cls = .type "UnicodeDecodeError" → o.data = .fields vs → ∃ o' vs', h'.get? b = some o' ∧ o'.cls = o.cls ∧ o'.dict = o.dict ∧ o'.data = .fields vs' ∧ vs'.size = vs.size ∧ ∀ i, 5 ≤ i → vs'[i]? = vs[i]?
theorem Shift.refl (lo : Addr) (h : Heap) : Shift lo h h := ⟨Nat.le_refl _, fun _ o _ e => ⟨o.slots, keepS_re e⟩, fun _ o e _ => ⟨o.slots, keepS_re e⟩, fun b o vs e _ hd => ⟨o, vs, e, rfl, rfl, hd, rfl, fun _ _ => rfl⟩⟩
theorem Shift.trans {lo : Addr} {h₁ h₂ h₃ : Heap} (x : Shift lo h₁ h₂) (y : Shift lo h₂ h₃) : Shift lo h₁ h₃ :=
  ⟨Nat.le_trans x.size y.size, fun b o hb e => let ⟨_, e₁⟩ := x.low b o hb e; x1a1 (y.low b _ hb e₁) fun sl e₂ => ⟨sl, keepS_tr e₂⟩,
   fun b o e hd => let ⟨_, e₁⟩ := x.data b o e hd; x1a1 (y.data b _ e₁ hd) fun sl e₂ => ⟨sl, keepS_tr e₂⟩,
   fun b o vs e hc hd => x2a6 (x.exc b o vs e hc hd) fun o₁ vs₁ a1 a2 a3 a4 a5 a6 => x2a6 (y.exc b o₁ vs₁ a1 (a2.trans hc) a4) fun o₂ vs₂ b1 b2 b3 b4 b5 b6 => ⟨o₂, vs₂, b1, b2.trans a2, b3.trans a3, b4, b5.trans a5, fun i hi => (b6 i hi).trans (a6 i hi)⟩⟩
theorem Rep.shift {lo : Addr} {B : Addr → Prop} {T : Tx} {n : Nat} {h h' : Heap} {v : Value} {x : AV} (r : Rep W B T n h v x) (e : Shift lo h h') : Rep W B T n h' v x := by
  induction r with
  | none => exact .none
  | bool b => exact .bool b
  | int i t => exact .int i t
  | str s => exact .str s
  | bytes b t => exact .bytes b t
  | txt x t => exact .txt x t
  | tup hb hl hs _ ih => refine x1a3 hl fun o ho hc t_0 => ?_; (try clear hl); refine x1a1 t_0 fun m hd => ?_; (try clear t_0); refine x1a1 (e.data _ o ho (fun vs q => by rw [hd] at q; cases q)) fun sl ho' => ?_; exact .tup hb ⟨_, ho', hc, m, hd⟩ hs ih
  | list hb hl hs _ ih => refine x1a5 hl fun o ho hc hn hsl t_0 => ?_; (try clear hl); refine x1a1 t_0 fun m hd => ?_; (try clear t_0); refine x1a1 (e.data _ o ho (fun vs q => by rw [hd] at q; cases q)) fun sl ho' => ?_; exact .list hb ⟨_, ho', hc, hn, (keepS_ne (by rw [hc]; decide)).trans hsl, m, hd⟩ hs ih
  | dict hb hl hs hk _ ih => refine x0a2 hl fun t_0 ky => ?_; (try clear hl); refine x1a5 t_0 fun o ho hc hn hsl t_1 => ?_; (try clear t_0); refine x1a1 t_1 fun m hd => ?_; (try clear t_1); refine x1a1 (e.data _ o ho (fun vs q => by rw [hd] at q; cases q)) fun sl ho' => ?_; exact .dict hb ⟨⟨_, ho', hc, hn, (keepS_ne (by rw [hc]; decide)).trans hsl, m, hd⟩, ky⟩ hs hk ih
  | exc hb ho hc hdi hd hf =>
    refine x2a6 (e.exc _ _ _ ho hc hd) fun o' vs' a1 a2 a3 a4 a5 a6 => ?_
    exact .exc hb a1 (a2.trans hc) (a3.trans hdi) a4 ⟨a5.trans hf.size, x1a1 hf.start fun t h => ⟨t, (a6 8 (by decide)).trans h⟩, x1a1 hf.stop fun t h => ⟨t, (a6 9 (by decide)).trans h⟩, x1a2 hf.reason fun v h1 h2 => ⟨v, (a6 10 (by decide)).trans h1, h2⟩⟩
theorem OwnRep.shift {lo : Addr} {B : Addr → Prop} {T : Tx} {n : Nat} {h h' : Heap} {a : Addr} {x : AV} (r : OwnRep W B T n h a x) (e : Shift lo h h') : OwnRep W B T n h' a x := by
  cases r with
  | list hl hs hi => refine x1a5 hl fun o ho hc hn hsl t_0 => ?_; (try clear hl); refine x1a1 t_0 fun m hd => ?_; (try clear t_0); refine x1a1 (e.data _ o ho (fun vs q => by rw [hd] at q; cases q)) fun sl ho' => ?_; exact .list ⟨_, ho', hc, hn, (keepS_ne (by rw [hc]; decide)).trans hsl, m, hd⟩ hs fun i v x h1 h2 => (hi i v x h1 h2).shift e
  | dict hl hs hk hi => refine x0a2 hl fun t_0 ky => ?_; (try clear hl); refine x1a5 t_0 fun o ho hc hn hsl t_1 => ?_; (try clear t_0); refine x1a1 t_1 fun m hd => ?_; (try clear t_1); refine x1a1 (e.data _ o ho (fun vs q => by rw [hd] at q; cases q)) fun sl ho' => ?_; exact .dict ⟨⟨_, ho', hc, hn, (keepS_ne (by rw [hc]; decide)).trans hsl, m, hd⟩, ky⟩ hs hk fun i v x h1 h2 => (hi i v x h1 h2).shift e
  | barr b hb => refine x1a4 hb fun o ho hc m hd => ?_; (try clear hb); refine x1a1 (e.data _ o ho (fun vs q => by rw [hd] at q; cases q)) fun sl ho' => ?_; exact .barr b ⟨_, ho', hc, m, hd⟩
  | hid hb => refine x1a4 hb fun o ho hc hn t_0 => ?_; (try clear hb); refine x2a2 t_0 fun x y hd hs => ?_; (try clear t_0); refine x1a1 (e.data _ o ho (fun vs q => by rw [hd] at q; cases q)) fun sl ho' => ?_; exact .hid ⟨_, ho', hc, hn, x, y, hd, (keepS_ne (by rw [hc]; decide)).trans hs⟩
theorem StB.shift {lo : Addr} {B : Addr → Prop} {X : Cx} {σ : Sto} {T : Tx} {s : Shared} (S : StB B X σ T s) {h' : Heap} (e : Shift lo s.heap h') (hlo : X.s0.heap.objs.size ≤ lo) : StB B X σ T { s with heap := h' } where
  ok := S.ok
  le := by
    refine ⟨⟨Nat.le_trans S.le.ext.1 e.size, fun b o hb => ?_⟩, S.le.toks, S.le.tx, S.le.gens, S.le.os⟩
    refine x1a1 (S.le.ext.2 b o hb) fun sl h1 => ?_
    refine x1a1 (e.low b _ (Nat.lt_of_lt_of_le (Heap.lt_size hb) hlo) h1) fun sl' h2 => ?_
    exact ⟨sl', keepS_tr h2⟩
  pos := S.pos
  fro := S.fro.of fun b t_0 => x1a4 t_0 fun o hb hc hL t_1 => x2a1 t_1 fun es ep hd => let ⟨_, h1⟩ := e.data b o hb (fun vs q => by rw [hd] at q; cases q); ⟨_, h1, hc, hL, es, ep, hd⟩
  vars := by
    refine x1a2 (S.vars) fun m t_0 hv => ?_; refine x3a4 t_0 fun o es ep ho hd hk hm => ?_; (try clear t_0)
    refine x1a1 (e.data _ o ho (fun vs q => by rw [hd] at q; cases q)) fun sl ho' => ?_
    refine ⟨m, ⟨_, es, ep, ho', hd, hk, hm⟩, fun x c hc => ?_⟩
    refine x1a2 (hv x c hc) fun v h1 h2 => ?_
    refine ⟨v, ?_, ?_⟩
    · unfold VarAt at *
      split at h1
      · exact h1
      · refine x1a2 h1 fun a c1 t_0 => ?_; (try clear h1); refine x1a2 t_0 fun o c2 c3 => ?_; (try clear t_0)
        refine x1a1 (e.data _ o c2 (fun vs q => by rw [c3] at q; cases q)) fun sl c2' => ?_
        exact ⟨a, c1, _, c2', c3⟩
      · refine x1a2 h1 fun a c1 t_0 => ?_; (try clear h1); refine x1a2 t_0 fun o c2 c3 => ?_; (try clear t_0)
        refine x1a1 (e.data _ o c2 (fun vs q => by rw [c3] at q; cases q)) fun sl c2' => ?_
        exact ⟨a, c1, _, c2', c3⟩
      · exact h1
    · obtain ⟨w, y⟩ := c
      cases w with
      | none => exact Rep.shift h2 e
      | some a => exact ⟨h2.1, h2.2.shift e⟩
  cells := fun x a hx => by
    refine x0a3 (S.cells x a hx) fun h1 h2 t_0 => ?_; refine x2a2 t_0 fun v o c2 c3 => ?_; (try clear t_0)
    refine x1a1 (e.data _ o c2 (fun vs q => by rw [c3] at q; cases q)) fun sl c2' => ?_
    exact ⟨h1, h2, v, _, c2', c3⟩
  apart := S.apart
  fresh := S.fresh
  one := S.one
theorem frOk_fun {h : Heap} : ∀ {l : List Env}, FrOk h l → h.FunFrames {} l
  | [], _ => trivial
  | _ :: _, ⟨h1, ⟨L, h2, o, h3, _, _, es, ep, h4⟩, h5⟩ => ⟨h1, ⟨L, o, h2, by simp [Heap.get?], h3, fun vs q => by rw [h4] at q; cases q⟩, frOk_fun h5⟩
theorem frOk_mem {h : Heap} {b : Addr} : ∀ {l : List Env}, FrOk h l → b ∈ l.filterMap (·.frame) → FrAt h b
  | [], _, hm => by simp at hm
  | env :: l, ⟨h1, ⟨L, h2, h3⟩, h5⟩, hm => by
    rw [List.filterMap_cons, h2] at hm
    rcases List.mem_cons.mp hm with e | hm
    · exact e ▸ h3
    · exact frOk_mem h5 hm
theorem Chain0.of {lo lo' : Addr} {h h' : Heap} {v : Value} (c : Chain0 lo h v) (hl : lo' ≤ lo) (k : ∀ b o ws, h.get? b = some o → o.cls ≠ .type "traceback" → o.data = .fields ws → ws[2]? = some .none →
    ∃ o' ws', h'.get? b = some o' ∧ o'.cls ≠ .type "traceback" ∧ o'.data = .fields ws' ∧ ws'[2]? = some .none) : Chain0 lo' h' v := by
  rcases c with c | ⟨b, o, ws, h1, h0, h2, h3, h4, h5⟩
  · exact .inl c
  · refine x2a4 (k b o ws h2 h3 h4 h5) fun o' ws' c1 c2 c3 c4 => ?_
    exact .inr ⟨b, o', ws', h1, Nat.le_trans hl h0, c1, c2, c3, c4⟩
theorem XFields.of {lo lo' : Addr} {h h' : Heap} {T : Tx} {n : Nat} {vs vs' : Array Value} {x : XV} (f : XFields lo h T n vs x) (hl : lo' ≤ lo) (hs : vs'.size = vs.size) (hv : ∀ i, i ≠ 1 → vs'[i]? = vs[i]?)
    (k : ∀ b o ws, h.get? b = some o → o.cls ≠ .type "traceback" → o.data = .fields ws → ws[2]? = some .none →
      ∃ o' ws', h'.get? b = some o' ∧ o'.cls ≠ .type "traceback" ∧ o'.data = .fields ws' ∧ ws'[2]? = some .none) : XFields lo' h' T n vs' x := by
  cases x with
  | index => exact (hv 2 (by decide)).trans f
  | ude d i j r =>
    refine x0a5 f fun f1 t_0 t_1 t_2 f6 => ?_; (try clear f); refine x1a1 t_0 fun t f2 => ?_; (try clear t_0); refine x1a1 t_1 fun u f3 => ?_; (try clear t_1); refine x1a2 t_2 fun v f4 f5 => ?_; (try clear t_2)
    refine ⟨hs.trans f1, ⟨t, (hv 8 (by decide)).trans f2⟩, ⟨u, (hv 9 (by decide)).trans f3⟩, ⟨v, (hv 10 (by decide)).trans f4, f5⟩, fun hd => ?_⟩
    refine x1a2 (f6 hd) fun c f7 f8 => ?_
    exact ⟨c, (hv 2 (by decide)).trans f7, f8.of hl k⟩
section
variable {M : Model} {A : Around} {E : Value → Shared → Prop} {s : Shared} {lo : Addr} {tr : Bool} {T : Tx} {n : Nat} {a : Addr} {x : XV}
theorem wpAny_entryX {env : Env} {outer : List Env} {L : Addr} {o : Obj} {vs : Array Value} {head : Value} {hadNext : Bool} {Q : Unit → Shared → Prop}
    (hfr : A.frames = some (env :: outer)) (hl : FrOk s.heap (env :: outer)) (hf : env.frame = some L) (hlo : lo ≤ s.heap.objs.size) (ge : lo ≤ a)
    (ho : s.heap.get? a = some o) (hc : o.cls = .type x.cls) (hdi : o.dict = none) (hd : o.data = .fields vs) (hsz : 6 ≤ vs.size) (hx : XFields lo s.heap T n vs x)
    (h : ∀ h', Shift lo s.heap h' → ExcAt lo true T n h' a x → Q () { s with heap := h' }) :
    wpAny M A (do let f ← frameOf env; let pl ← entryPlaceOf L hadNext; let b ← EntryCells.newEntry head f .none (rawInt L) .none pl; setField (.ref a) 1 b) Q E s := by
  have hna : a ∉ (env :: outer).filterMap (·.frame) := fun hm => by
    refine x0a2 ((frOk_fun hl).mem hm) fun _ t_0 => ?_; refine x1a2 t_0 fun o' ho' hnf => ?_; (try clear t_0)
    rw [ho] at ho'; injection ho' with ho'; subst ho'; exact hnf vs hd
  refine wpAny_bind (wpAny_frameOf_fun hfr (frOk_fun hl) hf fun h₁ hs₁ => ?_)
  refine wpAny_bind (wpAny_entryPlaceOf fun pl hpl => ?_)
  unfold EntryCells.newEntry newFields
  refine wpAny_bind (wpAny_newObj_type ?_ (hpl.sizeOk5 _ _ _ _ _))
  have he₁ : h₁.get? a = some o := (hs₁.2.1 a hna).trans ho
  generalize hts : ([head, .ref L, .none, rawInt L, .none] ++ (if pl.isEmpty then List.replicate 6 Value.none else pl)).toArray = ts
  have hts3 : 3 < ts.size := by subst hts; simp
  have he₂ := Heap.get?_push_of_some (h := h₁) { cls := .type "traceback", dict := none, data := .fields ts } he₁
  refine wpAny_setField he₂ hd (by lia) ?_
  have hTa : h₁.objs.size ≠ a := Nat.ne_of_gt (Heap.lt_size he₁)
  have hd₃ := Obj.data_mapFields hd (·.setIfInBounds 1 (Value.ref h₁.objs.size))
  have he₃ := Heap.get?_update_self (Obj.mapFields (·.setIfInBounds 1 (Value.ref h₁.objs.size))) he₂ (Obj.isFreed_of_fields hd₃)
  have keep : ∀ b o', b ≠ a → s.heap.get? b = some o' → ∃ sl, ((h₁.push { cls := .type "traceback", dict := none, data := .fields ts }).update a (Obj.mapFields (·.setIfInBounds 1 (Value.ref h₁.objs.size)))).get? b = some { o' with slots := keepS b o' sl } := fun b o' hb hb' => by
    by_cases hm : b ∈ (env :: outer).filterMap (·.frame)
    · refine x1a1 (hs₁.2.2 b o' hb') fun sl e => ?_
      refine x1a4 (frOk_mem hl hm) fun o2 f1 f2 f3 _ => ?_
      rw [hb'] at f1; (have f1 := Option.some.inj f1; subst f1)
      refine ⟨sl, (Heap.get?_update_other _ _ (Ne.symm hb)).trans (Heap.get?_push_of_some _ ?_)⟩
      rw [e]; unfold keepS; rw [if_pos ⟨f2, f3⟩]
    · exact ⟨o'.slots, keepS_re ((Heap.get?_update_other _ _ (Ne.symm hb)).trans (Heap.get?_push_of_some _ ((hs₁.2.1 b hm).trans hb')))⟩
  have hexc : ∀ b o' ws, s.heap.get? b = some o' → o'.cls = .type "UnicodeDecodeError" → o'.data = .fields ws → ∃ o2 vs', ((h₁.push { cls := .type "traceback", dict := none, data := .fields ts }).update a (Obj.mapFields (·.setIfInBounds 1 (Value.ref h₁.objs.size)))).get? b = some o2 ∧ o2.cls = o'.cls ∧ o2.dict = o'.dict ∧ o2.data = .fields vs' ∧ vs'.size = ws.size ∧ ∀ i, 5 ≤ i → vs'[i]? = ws[i]? := fun b o' ws e hcl hdw => by
    by_cases q : b = a
    · subst q
      rw [ho] at e; (have e := Option.some.inj e; subst e)
      rw [hd] at hdw; cases hdw
      refine ⟨_, _, he₃, by rw [Obj.cls_mapFields], ?_, hd₃, by simp, fun i hi => by rw [Array.getElem?_setIfInBounds]; rw [if_neg (by (clear hts3 hsz; lia))]⟩
      obtain ⟨c0, d0, dt0, sl0⟩ := o; dsimp only at hd; subst hd; rfl
    · refine x1a1 (keep b o' q e) fun sl e' => ?_
      exact ⟨_, ws, e', rfl, rfl, hdw, rfl, fun _ _ => rfl⟩
  refine h _ ⟨?_, fun b o' hb hb' => keep b o' (Nat.ne_of_lt (Nat.lt_of_lt_of_le hb ge)) hb', fun b o' hb' hdn => keep b o' (fun q => by subst q; rw [ho] at hb'; (have hb' := Option.some.inj hb'; subst hb'); exact hdn vs hd) hb', hexc⟩ ⟨ge, _, _, he₃, ?_, ?_, hd₃, ?_, ?_, ?_, ?_⟩
  · rw [Heap.size_after_update, Heap.size_push, hs₁.1]; (clear hts3 hsz; lia)
  · rw [Obj.cls_mapFields]; exact hc
  · obtain ⟨c0, d0, dt0, sl0⟩ := o; dsimp only at hd hdi; subst hd; exact hdi
  · simpa using hsz
  · refine hx.of (Nat.le_refl _) (by simp) (fun i hi => by rw [Array.getElem?_setIfInBounds]; rw [if_neg (Ne.symm hi)]) fun b o' ws hb hcl hdw hw => ?_
    by_cases q : b = a
    · subst q
      rw [ho] at hb; (have hb := Option.some.inj hb; subst hb)
      rw [hd] at hdw; cases hdw
      exact ⟨_, _, he₃, by rw [Obj.cls_mapFields]; exact hcl, hd₃, by rw [Array.getElem?_setIfInBounds, if_neg (by decide)]; exact hw⟩
    · refine x1a1 (keep b o' q hb) fun sl e => ?_
      exact ⟨_, ws, e, hcl, hdw, hw⟩
  · refine .inr ⟨h₁.objs.size, _, ts, ?_, by rw [hs₁.1]; exact hlo, hTa, (Heap.get?_update_other _ _ (Ne.symm hTa)).trans (Heap.get?_push_size _ rfl), rfl, rfl, hts3⟩
    rw [Array.getElem?_setIfInBounds, if_pos rfl, if_pos (by lia)]
  · intro _
    rw [Array.getElem?_setIfInBounds, if_pos rfl, if_pos (by lia)]
    simp
theorem wpAny_setFlightX {f : Option Addr} {Q : Unit → Shared → Prop} (hx : ExcAt lo tr T n s.heap a x)
    (h : ∀ h', Shift lo s.heap h' → ExcAt lo tr T n h' a x → Q () { s with heap := h' }) : wpAny M A (setFlight (.ref a) f) Q E s := by
  obtain ⟨ge, o, vs, ho, hc, hdi, hd, hsz, hfs, htb, htr⟩ := hx
  unfold setFlight
  rcases htb with h1 | ⟨t, ot, ts, h1, hlt, hta, hot, htc, htd, h3⟩
  · refine wpAny_bind (wpAny_field ho hd h1 ?_)
    rw [if_neg (by decide)]
    exact wpAny_pure (h _ (.refl _ _) ⟨ge, o, vs, ho, hc, hdi, hd, hsz, hfs, .inl h1, htr⟩)
  · refine wpAny_bind (wpAny_field ho hd h1 ?_)
    rw [if_pos (show (Value.ref t != Value.none) = true from by simp)]
    refine wpAny_setField hot htd h3 ?_
    have other : ∀ b, b ≠ t → (s.heap.update t (Obj.mapFields (·.setIfInBounds 3 (f.elim .none fun f => rawInt f)))).get? b = s.heap.get? b := fun b hb => Heap.get?_update_other _ _ (Ne.symm hb)
    have hd₃ := Obj.data_mapFields htd (·.setIfInBounds 3 (f.elim .none fun f => rawInt f))
    have hself := Heap.get?_update_self (Obj.mapFields (·.setIfInBounds 3 (f.elim .none fun f => rawInt f))) hot (Obj.isFreed_of_fields hd₃)
    refine h _ ⟨by simp, fun b o' hb e => ⟨o'.slots, keepS_re ((other b (Nat.ne_of_lt (Nat.lt_of_lt_of_le hb hlt))).trans e)⟩, fun b o' e hdn => ⟨o'.slots, keepS_re ((other b (fun q => by subst q; rw [hot] at e; (have e := Option.some.inj e; subst e); exact hdn ts htd)).trans e)⟩, fun b o' ws e hcl hdw => ⟨o', ws, (other b (fun q => by subst q; rw [hot] at e; (have e := Option.some.inj e; subst e); rw [htc] at hcl; simp at hcl)).trans e, rfl, rfl, hdw, rfl, fun _ _ => rfl⟩⟩
      ⟨ge, o, vs, (other a (Ne.symm hta)).trans ho, hc, hdi, hd, hsz, hfs.of (Nat.le_refl _) rfl (fun _ _ => rfl) fun b o' ws hb hcl hdw hw => ?_, ?_, htr⟩
    · exact ⟨o', ws, (other b (fun q => by subst q; rw [hot] at hb; (have hb := Option.some.inj hb; subst hb); exact hcl htc)).trans hb, hcl, hdw, hw⟩
    · exact .inr ⟨t, _, _, h1, hlt, hta, hself, by rw [Obj.cls_mapFields]; exact htc, hd₃, by simpa using h3⟩
theorem wpAny_noteX {env : Env} {outer : List Env} {L : Addr} {Q : Unit → Shared → Prop}
    (hfr : A.frames = some (env :: outer)) (hl : FrOk s.heap (env :: outer)) (hf : env.frame = some L) (hlo : lo ≤ s.heap.objs.size) (hx : ExcAt lo tr T n s.heap a x)
    (h : ∀ h', Shift lo s.heap h' → ExcAt lo true T n h' a x → Q () { s with heap := h' }) : wpAny M A (noteFrame (.ref a) env) Q E s := by
  obtain ⟨ge, o, vs, ho, hc, hdi, hd, hsz, hfs, htb, htr⟩ := hx
  unfold noteFrame
  simp only [hf]
  rcases htb with h1 | ⟨t, ot, ts, h1, hlt, hta, hot, htc, htd, h3⟩
  · refine wpAny_bind (wpAny_field ho hd h1 ?_)
    rw [if_neg (by decide)]
    exact wpAny_entryX hfr hl hf hlo ge ho hc hdi hd hsz hfs h
  · refine wpAny_bind (wpAny_field ho hd h1 ?_)
    rw [if_pos (show (Value.ref t != Value.none) = true from by simp)]
    obtain ⟨z, hz⟩ : ∃ z, ts[3]? = some z := ⟨ts[3], by rw [Array.getElem?_eq_getElem h3]⟩
    refine wpAny_bind (wpAny_field hot htd hz ?_)
    by_cases q : (z == rawInt L) = true
    · rw [if_pos q]
      exact wpAny_pure (h _ (.refl _ _) ⟨ge, o, vs, ho, hc, hdi, hd, hsz, hfs, .inr ⟨t, ot, ts, h1, hlt, hta, hot, htc, htd, h3⟩, fun _ => by rw [h1]; simp⟩)
    · rw [if_neg q]
      refine wpAny_bind (wpAny_setField hot htd h3 ?_)
      have other : ∀ b, b ≠ t → (s.heap.update t (Obj.mapFields (·.setIfInBounds 3 Value.none))).get? b = s.heap.get? b := fun b hb => Heap.get?_update_other _ _ (Ne.symm hb)
      have sh : Shift lo s.heap (s.heap.update t (Obj.mapFields (·.setIfInBounds 3 Value.none))) :=
        ⟨by simp, fun b o' hb e => ⟨o'.slots, keepS_re ((other b (Nat.ne_of_lt (Nat.lt_of_lt_of_le hb hlt))).trans e)⟩, fun b o' e hdn => ⟨o'.slots, keepS_re ((other b (fun q => by subst q; rw [hot] at e; (have e := Option.some.inj e; subst e); exact hdn ts htd)).trans e)⟩, fun b o' ws e hcl hdw => ⟨o', ws, (other b (fun q => by subst q; rw [hot] at e; (have e := Option.some.inj e; subst e); rw [htc] at hcl; simp at hcl)).trans e, rfl, rfl, hdw, rfl, fun _ _ => rfl⟩⟩
      refine wpAny_entryX (s := { s with heap := s.heap.update t (Obj.mapFields (·.setIfInBounds 3 Value.none)) }) hfr (hl.of fun b t_0 => x1a3 t_0 fun o' e fc fd => ?_) hf (by simpa using hlo) ge ((other a (Ne.symm hta)).trans ho) hc hdi hd hsz
        (hfs.of (Nat.le_refl _) rfl (fun _ _ => rfl) fun b o' ws hb hcl hdw hw => ⟨o', ws, (other b (fun q => by subst q; rw [hot] at hb; (have hb := Option.some.inj hb; subst hb); exact hcl htc)).trans hb, hcl, hdw, hw⟩)
        fun h' sh' hx' => h h' (sh.trans sh') hx'
      exact ⟨o', (other b (fun q => by subst q; rw [hot] at e; (have e := Option.some.inj e; subst e); refine x0a2 fd fun _ t_0 => ?_; (try clear fd); refine x2a1 t_0 fun es ep fd => ?_; (try clear t_0); rw [htd] at fd; cases fd)).trans e, fc, fd⟩
theorem wpAny_leavingX {env : Env} {outer : List Env} {L : Addr} {Q : Unit → Shared → Prop}
    (hfr : A.frames = some (env :: outer)) (hl : FrOk s.heap (env :: outer)) (hf : env.frame = some L) (hlo : lo ≤ s.heap.objs.size) (hx : ExcAt lo tr T n s.heap a x)
    (h : ∀ h', Shift lo s.heap h' → ExcAt lo true T n h' a x → Q () { s with heap := h' }) : wpAny M A (leaving env (.ref a)) Q E s := by
  unfold leaving
  refine wpAny_bind (wpAny_noteX hfr hl hf hlo hx fun h₁ sh₁ hx₁ => ?_)
  exact wpAny_setFlightX hx₁ fun h₂ sh₂ hx₂ => h h₂ (sh₁.trans sh₂) hx₂
theorem cameBackX {env : Env} (hx : ExcAt lo true T n s.heap a x) (h : ∀ h', Shift lo s.heap h' → ExcAt lo true T n h' a x → E (.ref a) { s with heap := h' }) : cameBackBy M A env E (.ref a) s := by
  unfold cameBackBy
  obtain ⟨o, vs, ho, hc, hdi, hd, hsz, hfs, htb, htr⟩ := hx.at_
  obtain ⟨z, hz⟩ : ∃ z, vs[1]? = some z := ⟨vs[1]'(by lia), by rw [Array.getElem?_eq_getElem (by lia)]⟩
  refine wpAny_bind (wpAny_field ho hd hz ?_)
  have hzn : (z == Value.none) = false := by
    have := htr rfl
    rw [hz] at this
    exact beq_false_of_ne fun q => this (by rw [q])
  rw [if_neg (by rw [hzn]; decide)]
  exact wpAny_setFlightX hx h
end
end Mine
namespace Mine
open PySem PySem.W PyProof.Rows
variable [Lo]
variable {W : World}
omit [Lo] in
inductive Out where
  | next
  | brk
  | cont
  | ret (v : AV)
  | exc (x : XV)
omit [Lo] in
noncomputable def Cx.Top (X : Cx) : Prop := (∃ outer, X.fr = X.env :: outer) ∧ X.env.frame = some X.env.locals
omit [Lo] in
noncomputable def FlowIs (X : Cx) (T : Tx) (s : Shared) (f : Flow) : Out → Prop
  | .next => f = .next
  | .brk => f = .brk
  | .cont => f = .cont
  | .ret v => ∃ w, f = .ret w ∧ Rep X.w X.B0 T s.toks s.heap w v
  | .exc _ => False
structure Nx (X : Cx) (σ : Sto) (T : Tx) (s : Shared) (σ' : Sto) (T' : Tx) (s' : Shared) : Prop where
  st : St X σ' T' s'
  le : LeB (X.ban σ) T s T' s'
  ban : ∀ b, b < s.heap.objs.size → X.ban σ' b → X.ban σ b
theorem Nx.refl {X : Cx} {σ : Sto} {T : Tx} {s : Shared} (S : St X σ T s) : Nx X σ T s σ T s := ⟨S, .refl _ _ _, fun _ _ q => q⟩
theorem Nx.of_le {X : Cx} {σ : Sto} {T T' : Tx} {s s' : Shared} (S : St X σ T s) (l : Le T s T' s') : Nx X σ T s σ T' s' := ⟨S.le_mono l, l.leB _, fun _ _ q => q⟩
theorem Nx.trans {X : Cx} {σ σ₁ σ₂ : Sto} {T T₁ T₂ : Tx} {s s₁ s₂ : Shared} (x : Nx X σ T s σ₁ T₁ s₁) (y : Nx X σ₁ T₁ s₁ σ₂ T₂ s₂) : Nx X σ T s σ₂ T₂ s₂ :=
  ⟨y.st, x.le.trans y.le x.ban, fun b hb q => x.ban b hb (y.ban b (Nat.lt_of_lt_of_le hb x.le.size) q)⟩
theorem Nx.sub {X : Cx} {σ σ₁ σ₂ : Sto} {T T₁ : Tx} {s s₁ : Shared} (x : Nx X σ T s σ₁ T₁ s₁) (h : Sto.Sub σ₂ σ₁) : Nx X σ T s σ₂ T₁ s₁ :=
  ⟨x.st.sub h, x.le, fun b hb q => x.ban b hb (Cx.ban_sub h q)⟩
omit [Lo] in
noncomputable abbrev Post := Out → Sto → Prop
noncomputable abbrev PF (X : Cx) (σ : Sto) (T : Tx) (s : Shared) (Q : Post) (f : Flow) (s' : Shared) : Prop := ∃ T' o σ', Nx X σ T s σ' T' s' ∧ FlowIs X T' s' f o ∧ Q o σ'
noncomputable abbrev PX (X : Cx) (σ : Sto) (T : Tx) (s : Shared) (Q : Post) (e : Value) (s' : Shared) : Prop := ∃ T' x σ' a, e = .ref a ∧ Nx X σ T s σ' T' s' ∧ ExcAt s.heap.objs.size false T' s'.toks s'.heap a x ∧ Q (.exc x) σ'
noncomputable def ExT (X : Cx) (t : Sem Flow) (σ : Sto) (Q : Post) : Prop := ∀ T s, St X σ T s →
  wq X.M X.A t (PF X σ T s Q) (PX X σ T s Q) s
noncomputable abbrev Ex (X : Cx) (ss : List Stmt) (σ : Sto) (Q : Post) : Prop := ExT X (execs ss X.env) σ Q
noncomputable abbrev Ex1 (X : Cx) (st : Stmt) (σ : Sto) (Q : Post) : Prop := ExT X (exec st X.env) σ Q
noncomputable def Seq (X : Cx) (rest : List Stmt) (Q : Post) : Post := fun o σ => match o with
  | .next => Ex X rest σ Q
  | o => Q o σ
theorem ExcAt.weak {lo lo' : Addr} {tr : Bool} {T : Tx} {n : Nat} {h : Heap} {a : Addr} {x : XV} (e : ExcAt lo tr T n h a x) (hl : lo' ≤ lo) : ExcAt lo' false T n h a x := by
  obtain ⟨ge, o, vs, ho, hc, hdi, hd, hsz, hfs, htb, htr⟩ := e
  refine ⟨Nat.le_trans hl ge, o, vs, ho, hc, hdi, hd, hsz, hfs.of hl rfl (fun _ _ => rfl) (fun b o ws h1 h2 h3 h4 => ⟨o, ws, h1, h2, h3, h4⟩), ?_, fun q => nomatch q⟩
  rcases htb with h1 | ⟨t, ot, ts, h1, hlt, r⟩
  · exact .inl h1
  · exact .inr ⟨t, ot, ts, h1, Nat.le_trans hl hlt, r⟩
section
variable {X : Cx} {σ : Sto} {Q : Post}
theorem ExT.mono {t : Sem Flow} {Q' : Post} (h : ExT X t σ Q) (k : ∀ o σ', Q o σ' → Q' o σ') : ExT X t σ Q' := fun T s S =>
  wq_mono (h T s S) (fun f s' t_0 => x3a3 t_0 fun T' o σ' n f' q => ⟨T', o, σ', n, f', k _ _ q⟩) fun e s' t_0 => x4a4 t_0 fun T' x σ' a he n ea q => ⟨T', x, σ', a, he, n, ea, k _ _ q⟩
theorem ExT.after {t : Sem Flow} {σ₁ : Sto} {T T₁ : Tx} {s s₁ : Shared} (n : Nx X σ T s σ₁ T₁ s₁) (h : ExT X t σ₁ Q) :
    wq X.M X.A t (fun f s' => ∃ T' o σ', Nx X σ T s σ' T' s' ∧ FlowIs X T' s' f o ∧ Q o σ')
      (PX X σ T s Q) s₁ :=
  wq_mono (h T₁ s₁ n.st) (fun f s' t_0 => x3a3 t_0 fun T' o σ' n' f' q => ⟨T', o, σ', n.trans n', f', q⟩)
    fun e s' t_0 => x4a4 t_0 fun T' x σ' a he n' ea q => ⟨T', x, σ', a, he, n.trans n', ea.weak n.le.size, q⟩
theorem Ex.nil (q : Q .next σ) : Ex X [] σ Q := fun T s S => wq_execs_nil ⟨T, .next, σ, .refl S, rfl, q⟩
theorem Ex.cons {st : Stmt} {rest : List Stmt} (h : Ex1 X st σ (Seq X rest Q)) : Ex X (st :: rest) σ Q := fun T s S => by
  refine wq_execs_cons (wq_mono (h T s S) (fun f s' t_0 => x3a3 t_0 fun T' o σ' n f' q => ?_) fun e s' t_0 => x4a4 t_0 fun T' x σ' a he n ea q => ⟨T', x, σ', a, he, n, ea, q⟩)
  cases o with
  | next => obtain rfl : f = .next := f'; exact ExT.after n q
  | brk => obtain rfl : f = .brk := f'; exact ⟨T', .brk, σ', n, rfl, q⟩
  | cont => obtain rfl : f = .cont := f'; exact ⟨T', .cont, σ', n, rfl, q⟩
  | ret v => refine x1a2 f' fun w e_0 r => ?_; (try clear f'); subst e_0; exact ⟨T', .ret v, σ', n, ⟨w, rfl, r⟩, q⟩
  | exc x => exact f'.elim
theorem ExT.sub {t : Sem Flow} {σ' : Sto} (h : Sto.Sub σ' σ) (k : ExT X t σ' Q) : ExT X t σ Q := fun T s S => ExT.after (Nx.sub (.refl S) h) k
theorem ExT.freeze {t : Sem Flow} {x : Str} {a : Addr} {av : AV} (hx : σ.get x = some ⟨some a, av⟩) (k : ExT X t (σ.upd x av) Q) (hb : autoParam (av.Open) byOpen) : ExT X t σ Q := fun T s S =>
  ExT.after ⟨S.freeze hx hb, .refl _ _ _, fun b _ q => Cx.ban_upd q⟩ k
noncomputable abbrev PVX (w : World) (B : Addr → Prop) (T : Tx) (s : Shared) (r : Except XV AV) (v : Value) (s' : Shared) : Prop := ∃ T' av, r = .ok av ∧ Le T s T' s' ∧ Rep w B T' s'.toks s'.heap v av
noncomputable abbrev PEX (T : Tx) (s : Shared) (r : Except XV AV) (e : Value) (s' : Shared) : Prop := ∃ T' x a, r = .error x ∧ e = .ref a ∧ Le T s T' s' ∧ ExcAt s.heap.objs.size false T' s'.toks s'.heap a x
noncomputable def EvX (X : Cx) (e : Expr) (σ : Sto) (r : Except XV AV) : Prop := ∀ T s, St X σ T s →
  wq X.M X.A (eval e X.env) (PVX X.w (X.ban σ) T s r) (PEX T s r) s
theorem Ev.x {e : Expr} {v : AV} (h : Ev X e σ v) : EvX X e σ (.ok v) := fun T s S => h.then S fun w T' s' l S' r => ⟨T', v, rfl, l, r⟩
theorem EvX.ev {e : Expr} {v : AV} (h : EvX X e σ (.ok v)) : Ev X e σ v := fun T s S =>
  wq_mono (h T s S) (fun w s' t_0 => x2a3 t_0 fun T' av q l r => by cases q; exact ⟨T', l, r⟩) fun _ _ ⟨_, _, _, q, _⟩ => nomatch q
theorem FlowIs.ret {T : Tx} {s : Shared} {v : AV} {w : Value} (S : St X σ T s) (r : Rep X.w (X.ban σ) T s.toks s.heap w v) : FlowIs X T s (.ret w) (.ret v) := ⟨w, rfl, r.sub fun _ b => .inl b⟩
theorem Ex.retX {e : Expr} {pos : Pos} {rest : List Stmt} {r : Except XV AV} (h : EvX X e σ r) (q : match r with | .ok v => Q (.ret v) σ | .error x => Q (.exc x) σ) : Ex X (.Return (some e) pos :: rest) σ Q :=
  .cons fun T s S => by
    refine wq_Return (wq_mono (h T s S) (fun v s' t_0 => x2a3 t_0 fun T' av e l r => ?_) fun v s' t_0 => x3a4 t_0 fun T' x a e ha l ea => ?_)
    · subst e; exact ⟨T', .ret av, σ, .of_le S l, .ret (S.le_mono l) r, q⟩
    · subst e; exact ⟨T', x, σ, a, ha, .of_le S l, ea, q⟩
theorem Ex.ret {e : Expr} {pos : Pos} {rest : List Stmt} {v : AV} (h : Ev X e σ v) (q : Q (.ret v) σ) : Ex X (.Return (some e) pos :: rest) σ Q := .retX h.x q
theorem Ex.assignX {x : Str} {p pos : Pos} {e : Expr} {rest : List Stmt} {r : Except XV AV} (h : EvX X e σ r) (hk : storable X x)
    (k : match r with | .ok v => Ex X rest (σ.upd x v) Q | .error z => Q (.exc z) σ)
    (hs : autoParam (swapsWith e (some (.Name x p)) pos.line X.env = pure false) byRfl) : Ex X (.Assign [.Name x p] e pos :: rest) σ Q :=
  .cons fun T s S => by
    refine wq_Assign_Name (wq_mono (h T s S) (fun v s' t_0 => x2a3 t_0 fun T' av e l r => ?_) fun v s' t_0 => x3a4 t_0 fun T' z a e ha l ea => ?_) hs
    · subst e
      refine wq_of <| StB.store (S.le_mono l) hk r fun s'' S'' lb => ⟨T', .next, _, ⟨S'', (l.leB _).trans lb fun _ _ q => q, fun b _ q => Cx.ban_upd q⟩, rfl, k⟩
    · subst e; exact ⟨T', z, σ, a, ha, .of_le S l, ea, k⟩
theorem Ex.assign {x : Str} {p pos : Pos} {e : Expr} {rest : List Stmt} {v : AV} (h : Ev X e σ v) (hk : storable X x) (k : Ex X rest (σ.upd x v) Q)
    (hs : autoParam (swapsWith e (some (.Name x p)) pos.line X.env = pure false) byRfl) : Ex X (.Assign [.Name x p] e pos :: rest) σ Q := .assignX h.x hk k hs
theorem Ex.assign_own {x : Str} {p pos : Pos} {e : Expr} {rest : List Stmt} {v : AV} (h : EvN X e σ v) (hk : storable X x) (k : ∀ a, Ex X rest (σ.updO x a v) Q)
    (hs : autoParam (swapsWith e (some (.Name x p)) pos.line X.env = pure false) byRfl) : Ex X (.Assign [.Name x p] e pos :: rest) σ Q :=
  .cons fun T s S => by
    refine wq_Assign_Name (wq_mono (h T s S) (fun w s' t_0 => x2a4 t_0 fun T' a e l ha r => ?_) fun _ _ x => x.elim) hs
    subst e
    refine wq_of <| StB.store_own S l ha hk r fun s'' S'' lb => ⟨T', .next, _, ⟨S'', (l.leB _).trans lb fun _ _ q => q, fun b hb q => ?_⟩, rfl, k a⟩
    rcases Cx.ban_updO q with q | q
    · exact q
    · exact absurd (q ▸ hb) (Nat.not_lt.mpr ha)
theorem Ex.aug {x : Str} {p pos : Pos} {op : Operator} {e : Expr} {rest : List Stmt} {u v w : AV} (hx : σ.get x = some ⟨none, u⟩) (h : Ev X e σ v) (hg : InpG op u v w) (hk : storable X x)
    (k : Ex X rest (σ.upd x w) Q) (hcl : autoParam ((x == ("__classdict__" : Str)) = false) byDec) : Ex X (.AugAssign (.Name x p) op e pos :: rest) σ Q :=
  .cons fun T s S => by
    refine wq_AugAssign_Name (wq_of <| S.load hx (fun a ra => ?_) hcl)
    refine h.then S fun b T₁ s₁ l₁ S₁ rb => ?_
    refine (hg X _ T₁ s₁ a b S₁.pg S₁.pos (Rep.le ra l₁) rb).thenq fun c T₂ s₂ l₂ rc => ?_
    refine wq_of <| StB.store (S₁.le_mono l₂) hk rc fun s₃ S₃ lb => ⟨T₂, .next, _, ⟨S₃, ((l₁.trans l₂).leB _).trans lb fun _ _ q => q, fun b _ q => Cx.ban_upd q⟩, rfl, k⟩
theorem Ex.ite {t : Expr} {body orelse rest : List Stmt} {pos : Pos} {b : Bool} (h : Te X t σ b) (h1 : b = true → Ex X body σ (Seq X rest Q)) (h2 : b = false → Ex X orelse σ (Seq X rest Q)) :
    Ex X (.If t body orelse pos :: rest) σ Q := .cons fun T s S => by
  refine wq_If (h.then S fun T' s' l S' => ?_)
  cases b with
  | true => exact ExT.after (.of_le S l) (h1 rfl)
  | false => exact ExT.after (.of_le S l) (h2 rfl)
noncomputable def Turn (X : Cx) (rest : List Stmt) (Q : Post) (I : Sto → Prop) : Post := fun o σ => match o with
  | .next => I σ
  | .cont => I σ
  | .brk => Ex X rest σ Q
  | o => Q o σ
theorem Nx.shift {σ₁ : Sto} {T T₁ : Tx} {s s₁ : Shared} (n : Nx X σ T s σ₁ T₁ s₁) (hs : X.s0.heap.objs.size ≤ s.heap.objs.size) {h' : Heap} (sh : Shift s.heap.objs.size s₁.heap h') : Nx X σ T s σ₁ T₁ { s₁ with heap := h' } :=
  ⟨n.st.shift sh hs, ⟨Nat.le_trans n.le.size sh.size, fun b o hb e => let ⟨_, e₁⟩ := n.le.ext b o hb e; x1a1 (sh.low b _ (Heap.lt_size e) e₁) fun sl e₂ => ⟨sl, keepS_tr e₂⟩, n.le.toks, n.le.tx, n.le.gens, n.le.os⟩, n.ban⟩
theorem notedX {σ₁ : Sto} {T T₁ : Tx} {s s₁ : Shared} {a : Addr} {x : XV} {tr : Bool} {A : Around} {E : Value → Shared → Prop} (ht : X.Top) (hA : A.frames = X.A.frames) (hs : X.s0.heap.objs.size ≤ s.heap.objs.size) (n : Nx X σ T s σ₁ T₁ s₁)
    (ea : ExcAt s.heap.objs.size tr T₁ s₁.toks s₁.heap a x) (h : ∀ s', Nx X σ T s σ₁ T₁ s' → ExcAt s.heap.objs.size true T₁ s'.toks s'.heap a x → E (.ref a) s') : notedBy X.M A X.env E (.ref a) s₁ := by
  refine x0a2 ht fun t_0 hf => ?_; (try clear ht); refine x1a1 t_0 fun outer hfr => ?_; (try clear t_0)
  unfold notedBy
  have hfro := n.st.fro
  rw [hfr] at hfro
  exact wpAny_noteX (hA.trans (hfr ▸ n.st.ok.a.frames)) hfro hf n.le.size ea fun h' sh ea' => h _ (n.shift hs sh) ea'
theorem cameX {σ₁ : Sto} {T T₁ : Tx} {s s₁ : Shared} {a : Addr} {x : XV} {A : Around} {env : Env} {E : Value → Shared → Prop} (hs : X.s0.heap.objs.size ≤ s.heap.objs.size) (n : Nx X σ T s σ₁ T₁ s₁)
    (ea : ExcAt s.heap.objs.size true T₁ s₁.toks s₁.heap a x) (h : ∀ s', Nx X σ T s σ₁ T₁ s' → ExcAt s.heap.objs.size true T₁ s'.toks s'.heap a x → E (.ref a) s') : cameBackBy X.M A env E (.ref a) s₁ :=
  cameBackX ea fun h' sh ea' => h _ (n.shift hs sh) ea'
theorem Ex.while {test : Expr} {body orelse rest : List Stmt} {pos : Pos} (ht : X.Top) (I : Nat → Sto → Prop)
    (turn : ∀ n σ, I n σ → ∃ b, Te X test σ b ∧ (b = true → Ex X body σ (Turn X rest Q fun σ' => ∃ m, m < n ∧ I m σ')) ∧ (b = false → Ex X orelse σ (Seq X rest Q)))
    (n : Nat) (h0 : I n σ) : Ex X (.While test body orelse pos :: rest) σ Q := .cons fun T s S => by
  have hs := S.le.ext.1
  refine wq_While ?_
  let J : Nat → Shared → Prop := fun n s₁ => ∃ T₁ σ₁, Nx X σ T s σ₁ T₁ s₁ ∧ I n σ₁
  refine cq_whileLoop J (fun n s₁ t_0 => x2a2 t_0 fun T₁ σ₁ nx hI => ?_) n ⟨T, σ, .refl S, h0⟩
  refine x1a3 (turn n σ₁ hI) fun b hb h1 h2 => ?_
  have onx : ∀ (s₂ : Shared) (e : Value), PX X σ T s Q e s₂ →
      notedBy X.M X.A X.env (fun e s' => cameBackBy X.M X.A X.env (PX X σ T s Q) e s') e s₂ := by
    rintro s₂ e ⟨T', x, σ', a, rfl, n', ea, q⟩
    exact notedX ht rfl hs n' ea fun s₃ n₃ ea₃ => cameX hs n₃ ea₃ fun s₄ n₄ ea₄ => ⟨T', x, σ', a, rfl, n₄, ea₄.weak (Nat.le_refl _), q⟩
  refine hb.then nx.st fun T₂ s₂ l₂ S₂ => ?_
  have nx₂ := nx.trans (.of_le nx.st l₂)
  cases b with
  | true =>
    refine wq_mono (ExT.after nx₂ (h1 rfl)) (fun f s₃ t_0 => x3a3 t_0 fun T₃ o σ₃ n₃ f₃ q₃ => ?_) fun e s₃ h₃ => onx s₃ e h₃
    cases o with
    | next => obtain rfl : f = .next := f₃; refine x1a2 q₃ fun m hm hI' => ?_; (try clear q₃); exact ⟨m, hm, T₃, σ₃, n₃, hI'⟩
    | cont => obtain rfl : f = .cont := f₃; refine x1a2 q₃ fun m hm hI' => ?_; (try clear q₃); exact ⟨m, hm, T₃, σ₃, n₃, hI'⟩
    | brk => obtain rfl : f = .brk := f₃; exact ⟨T₃, .next, σ₃, n₃, rfl, q₃⟩
    | ret v => refine x1a2 f₃ fun w e_0 r => ?_; (try clear f₃); subst e_0; exact ⟨T₃, .ret v, σ₃, n₃, ⟨w, rfl, r⟩, q₃⟩
    | exc x => exact f₃.elim
  | false => exact wq_mono (ExT.after nx₂ (h2 rfl)) (fun f s₃ h₃ => h₃) fun e s₃ h₃ => onx s₃ e h₃
structure Mv (lo : Addr) (T : Tx) (s : Shared) (T' : Tx) (s' : Shared) : Prop where
  sh : Shift lo s.heap s'.heap
  toks : s.toks ≤ s'.toks
  tx : ∀ t, t < s.toks → T' t = T t
  gens : s'.gens = s.gens
  os : s'.os = s.os
theorem Mv.le_of {lo : Addr} {T T' : Tx} {s s' : Shared} (m : Mv lo T s T' s') : Le T { s with heap := s'.heap } T' s' :=
  ⟨.refl _, m.toks, m.tx, m.gens, m.os⟩
theorem Rep.mv {lo : Addr} {B : Addr → Prop} {T T' : Tx} {s s' : Shared} {v : Value} {x : AV} (r : Rep W B T s.toks s.heap v x) (m : Mv lo T s T' s') : Rep W B T' s'.toks s'.heap v x :=
  (r.shift m.sh).mono m.toks m.tx (.refl _) fun _ q => .inl q
theorem StB.mv {lo : Addr} {B : Addr → Prop} {T T' : Tx} {s s' : Shared} (S : StB B X σ T s) (m : Mv lo T s T' s') (hlo : X.s0.heap.objs.size ≤ lo) : StB B X σ T' s' :=
  (S.shift m.sh hlo).le_mono m.le_of
theorem Nx.mv {σ₁ : Sto} {T T₁ T₂ : Tx} {s s₁ s₂ : Shared} {lo : Addr} (n : Nx X σ T s σ₁ T₁ s₁) (m : Mv lo T₁ s₁ T₂ s₂) (hlo : s.heap.objs.size ≤ lo) (hs : X.s0.heap.objs.size ≤ s.heap.objs.size) : Nx X σ T s σ₁ T₂ s₂ :=
  ⟨n.st.mv m (Nat.le_trans hs hlo), ⟨Nat.le_trans n.le.size m.sh.size, fun b o hb e => let ⟨_, e₁⟩ := n.le.ext b o hb e; x1a1 (m.sh.low b _ (Nat.lt_of_lt_of_le (Heap.lt_size e) hlo) e₁) fun sl e₂ => ⟨sl, keepS_tr e₂⟩,
    Nat.le_trans n.le.toks m.toks, fun t ht => (m.tx t (Nat.lt_of_lt_of_le ht n.le.toks)).trans (n.le.tx t ht), m.gens.trans n.le.gens, m.os.trans n.le.os⟩, n.ban⟩
theorem LeB.mv {B : Addr → Prop} {T T₁ T₂ : Tx} {s s₁ s₂ : Shared} {lo : Addr} (n : LeB B T s T₁ s₁) (m : Mv lo T₁ s₁ T₂ s₂) (hlo : s.heap.objs.size ≤ lo) : LeB B T s T₂ s₂ :=
  ⟨Nat.le_trans n.size m.sh.size, fun b o hb e => let ⟨_, e₁⟩ := n.ext b o hb e; x1a1 (m.sh.low b _ (Nat.lt_of_lt_of_le (Heap.lt_size e) hlo) e₁) fun sl e₂ => ⟨sl, keepS_tr e₂⟩,
    Nat.le_trans n.toks m.toks, fun t ht => (m.tx t (Nat.lt_of_lt_of_le ht n.toks)).trans (n.tx t ht), m.gens.trans n.gens, m.os.trans n.os⟩
structure Itr (X : Cx) (B : Addr → Prop) (target : Expr) (it : Value) (xs : List AV) (T1 : Tx) (s1 : Shared) (I : Addr → Prop) (J : Nat → Heap → Prop) : Prop where
  own : ∀ b, I b → s1.heap.objs.size ≤ b
  same : ∀ k h h', J k h → (∀ b o, I b → h.get? b = some o → ∃ sl, h'.get? b = some { o with slots := keepS b o sl }) → J k h'
  there : ∀ k h, J k h → ∀ b, I b → b < h.objs.size
  next : ∀ k (x : AV) T s (B' : Addr → Prop), xs[k]? = some x → J k s.heap → LeB B T1 s1 T s → (∀ b, B' b → b < s1.heap.objs.size → B b) → (∀ b, B' b → b < s.heap.objs.size ∧ ¬ I b) → X.G.In s.heap → 0 < s.toks →
    wpAny X.M X.A (pyNext it) (fun r s₁ => ∃ v, r = some v ∧ wpAny X.M X.A (letOwnedTupleGo target it v) (fun _ s' => ∃ T', Mv s1.heap.objs.size T s T' s' ∧ Rep X.w B' T' s'.toks s'.heap v x ∧ J (k + 1) s'.heap) (fun _ _ => False) s₁) (fun _ _ => False) s
  stop : ∀ T s, J xs.length s.heap → LeB B T1 s1 T s → X.G.In s.heap → 0 < s.toks →
    wpAny X.M X.A (pyNext it) (fun r s' => r = none ∧ ∃ T', Mv s1.heap.objs.size T s T' s') (fun _ _ => False) s
  self : ∀ k (s : Shared) (Q : Value → Shared → Prop) (E : Value → Shared → Prop), J k s.heap → Q it s → wpAny X.M X.A (pyIter it) Q E s
noncomputable def EvI (X : Cx) (iter : Expr) (target : Expr) (σ : Sto) (xs : List AV) : Prop := ∀ T s, St X σ T s →
  wq X.M X.A (eval iter X.env) (fun x s₁ => wq X.M X.A (pyIter x) (fun it s₂ => ∃ T₀ s₀ T₂ I J, Le T s T₀ s₀ ∧ Le T₀ s₀ T₂ s₂ ∧ Itr X (X.ban σ) target it xs T₀ s₀ I J ∧ J 0 s₂.heap) (fun _ _ => False) s₁) (fun _ _ => False) s
noncomputable def Binds (X : Cx) (target : Expr) (v : AV) (σ σ' : Sto) : Prop := ∀ T s w, St X σ T s → Rep X.w (X.ban σ) T s.toks s.heap w v →
  wq X.M X.A (assign target X.env w) (fun _ s' => ∃ T', Nx X σ T s σ' T' s') (fun _ _ => False) s
theorem Ex.for {target iter : Expr} {body orelse rest : List Stmt} {pos : Pos} {xs : List AV} (ht : X.Top) (h : EvI X iter target σ xs) (I : Nat → Sto → Prop) (h0 : I 0 σ)
    (turn : ∀ k x σ', xs[k]? = some x → I k σ' → ∃ σ'', Binds X target x σ' σ'' ∧ Ex X body σ'' (Turn X rest Q (I (k + 1))))
    (fin : ∀ σ', I xs.length σ' → Ex X orelse σ' (Seq X rest Q)) (hf : autoParam (∀ x, foldedSetIterable iter X.env x = pure x) byI1) : Ex X (.For target iter body orelse pos :: rest) σ Q := .cons fun T s S => by
  have hs := S.le.ext.1
  refine wq_For (wq_mono (h T s S) (fun v s' h₁ => ?_) fun _ _ x => x.elim) hf
  refine wq_mono h₁ (fun it s₂ t_0 => x5a4 t_0 fun T₁ s₁ T₂ Io J l₁ l₂ itr j0 => ?_) fun _ _ x => x.elim
  have S₁ := S.le_mono l₁
  let K : Nat → Shared → Prop := fun n s' => ∃ T' σ' k, n = xs.length - k ∧ k ≤ xs.length ∧ Nx X σ T s σ' T' s' ∧ LeB (X.ban σ) T₁ s₁ T' s' ∧ (∀ b, b < s₁.heap.objs.size → X.ban σ' b → X.ban σ b) ∧ (∀ b, Io b → ¬ X.ban σ' b) ∧ J k s'.heap ∧ I k σ'
  have onx : ∀ (s₂ : Shared) (e : Value), PX X σ T s Q e s₂ →
      notedBy X.M X.A X.env (fun e s' => cameBackBy X.M X.A X.env (PX X σ T s Q) e s') e s₂ := by
    rintro s₂ e ⟨T', x, σ', a, rfl, n', ea, q⟩
    exact notedX ht rfl hs n' ea fun s₃ n₃ ea₃ => cameX hs n₃ ea₃ fun s₄ n₄ ea₄ => ⟨T', x, σ', a, rfl, n₄, ea₄.weak (Nat.le_refl _), q⟩
  refine cq_forLoop K (fun n s' t_0 => x3a8 t_0 fun T' σ' k hn hk nx lb hb hIo hj hI => ?_) xs.length
    ⟨T₂, σ, 0, rfl, Nat.zero_le _, (Nx.of_le S l₁).trans (.of_le S₁ l₂), l₂.leB _, fun _ _ q => q, fun b hb q => Nat.lt_irrefl _ (Nat.lt_of_lt_of_le (S₁.ban_lt q) (itr.own b hb)), j0, h0⟩
  by_cases hkx : k < xs.length
  · have hx : xs[k]? = some xs[k] := List.getElem?_eq_getElem hkx
    refine wq_mono (wq_of <| itr.next k xs[k] T' s' (X.ban σ') hx hj lb (fun b q hlt => hb b hlt q) (fun b q => ⟨nx.st.ban_lt q, fun i => hIo b i q⟩) nx.st.pg nx.st.pos) (fun r s₃ t_0 => x1a2 t_0 fun v hr h₃ => ?_) fun _ _ x => x.elim
    subst hr
    refine wq_mono (wq_of h₃) (fun _ s₄ t_0 => x1a3 t_0 fun T₄ mv rep hj' => ?_) fun _ _ x => x.elim
    have nx₄ := nx.mv mv l₁.ext.1 hs
    have lb₄ := lb.mv mv (Nat.le_refl _)
    refine x1a2 (turn k xs[k] σ' hx hI) fun σ'' hbd hbody => ?_
    refine wq_mono (hbd T₄ s₄ v nx₄.st rep) (fun _ s₅ t_0 => x1a1 t_0 fun T₅ nx₅ => ?_) fun _ _ x => x.elim
    refine wq_mono (hbody T₅ s₅ nx₅.st) (fun f s₆ t_0 => x3a3 t_0 fun T₆ o σ₆ n₆ f₆ q₆ => ?_) fun e s₆ t_0 => x4a4 t_0 fun T₆ x σ₆ a he n₆ ea q => onx s₆ e ⟨T₆, x, σ₆, a, he, nx₄.trans (nx₅.trans n₆), ea.weak (nx₄.trans nx₅).le.size, q⟩
    have n46 := nx₅.trans n₆
    have n06 := nx₄.trans n46
    have again : I (k + 1) σ₆ → ∃ m, m < n ∧ K m s₆ := fun hI' => by
      refine ⟨xs.length - (k + 1), hn ▸ Nat.sub_lt_sub_left hkx (Nat.lt_succ_self k), T₆, σ₆, k + 1, rfl, hkx, n06, lb₄.trans n46.le hb, fun b hlt q => hb b hlt (n46.ban b (Nat.lt_of_lt_of_le hlt lb₄.size) q), fun b i q => hIo b i (n46.ban b (itr.there _ _ hj' b i) q), ?_, hI'⟩
      exact itr.same _ _ _ hj' fun b o i e => n46.le.ext b o (hIo b i) e
    cases o with
    | next => obtain rfl : f = .next := f₆; exact again q₆
    | cont => obtain rfl : f = .cont := f₆; exact again q₆
    | brk => obtain rfl : f = .brk := f₆; exact ⟨T₆, .next, σ₆, n06, rfl, q₆⟩
    | ret v => refine x1a2 f₆ fun w e_0 r => ?_; (try clear f₆); subst e_0; exact ⟨T₆, .ret v, σ₆, n06, ⟨w, rfl, r⟩, q₆⟩
    | exc x => exact f₆.elim
  · obtain rfl : k = xs.length := Nat.le_antisymm hk (Nat.not_lt.mp hkx)
    refine wq_mono (wq_of <| itr.stop T' s' hj lb nx.st.pg nx.st.pos) (fun r s₃ t_0 => x0a2 t_0 fun hr t_1 => x1a1 t_1 fun T₃ mv => ?_) fun _ _ x => x.elim
    subst hr
    have nx₃ := nx.mv mv l₁.ext.1 hs
    exact wq_mono (ExT.after nx₃ (fin σ' hI)) (fun f s₄ h₄ => h₄) fun e s₄ h₄ => onx s₄ e h₄
theorem Binds.name {x : Str} {p : Pos} {v : AV} (hk : storable X x) : Binds X (.Name x p) v σ (σ.upd x v) := fun T s w S r => by
  show wq X.M X.A (do standAt p; bindName X.env x w) _ _ s
  refine wq_bind (wq_standAt (wq_bindName ?_))
  exact wq_of <| StB.store S hk r fun s' S' lb => ⟨T, S', lb, fun b _ q => Cx.ban_upd q⟩
end
end Mine
namespace Mine
open PySem PySem.W PyProof.Rows
variable [Lo]
variable {W : World}
theorem AOk.mono {A : Around} {fr : List Env} {k j : Nat} (a : AOk A fr k) (h : j ≤ k) : AOk A fr j := ⟨by have := a.depth; lia, by have := a.units; lia, a.frames⟩
section
variable {prog : Program} {w : World} {A : Around} {s : Shared} {R : Result → Shared → Prop}
theorem cq_func {body : List Stmt} {env : Env}
    (h : wq (model prog w) (A.deeper env) (execs body env) (fun f s' => R (.ok (.ret (match f with | .ret v => v | _ => .none))) s')
      (fun e s' => wpAny (model prog w) (A.deeper env) (leaving env e) (fun _ s'' => R (.error e) s'') (fun e' s'' => R (.error e') s'') s') s) : cq (model prog w) A (.func body env) R s := by
  refine cq_of_tree trivial ?_
  show wq _ (A.deeper env) (do point; match ← (execs body env).onRaise (leaving env) with | .ret v => ret v | _ => ret .none) _ _ s
  refine wq_bind (wq_point (wq_bind (wq_onRaise (wq_mono h (fun f s' h' => ?_) fun _ _ h' => wq_of h'))))
  cases f <;> exact wq_pure h'
theorem cq_call_fn {a : Addr} {args : Args} {o : Obj} {fd : FuncData} {body : List Stmt} (hroom : A.depth < recursionLimit) (ho : s.heap.get? a = some o)
    (hd' : o.data = .func fd) (hco : fd.scope.isCoroutine = false) (hgen : fd.scope.isGenerator = false) (hbody : fd.body = .stmts body) (hcd : s.heap.CodeRec fd.code fd.qualname)
    (h : wpAny (model prog w) A.in1 (bindArgs fd args) (fun binds s₁ =>
      wpAny (model prog w) A.in1 (newFunctionEnv fd.scope fd.globals fd.closure binds (fd.qualname ++ ".<locals>.") (some a) fd.code none fd.builtins)
        (fun env s₂ => s₂.heap.NoLimit ∧ cq (model prog w) A (.func body env) R s₂) (fun e s' => R (.error e) s') s₁) (fun e s' => R (.error e) s') s) :
    cq (model prog w) A (.call (.ref a) args) R s := by
  refine cq_of_tree trivial ?_
  show wq _ A.in1 (callAny (.ref a) args) _ _ s
  unfold callAny
  refine wq_bind (wq_of (wpAny_load ho ?_))
  refine x4a4 hcd fun c oc vs tq hc hoc hdc hq => ?_; (try clear hcd)
  simp only [hd', callFunction, hco, hgen, hbody, hc]
  rw [hc] at h
  refine wq_bind (m := field (.ref c) 1) (wq_of (wpAny_field hoc hdc hq (wq_bind (wq_pure ?_))))
  exact wq_bind (wq_mono (wq_of h) (fun binds s₁ h₁ => wq_bind (wq_mono (wq_of h₁) (fun env s₂ h₂ => wq_bind (wq_of (wpAny_enterFrame h₂.1 hroom
    (wq_pure (And.intro rfl h₂.2))))) fun _ _ h' => h')) fun _ _ h' => h')
end
section
variable {M : Model} {A : Around} {E : Value → Shared → Prop} {s s₀ : Shared} {env : Env} {m cm : Str → Option Value}
theorem bindParams1 {c : Value} (f : Str × Value → PUnit → Sem (ForInStep PUnit)) (hf : ∀ n v u, f (n, v) u = (do storeName env n v; pure (.yield ⟨⟩))) (hk : env.scope.kind = .function) {n : Str} {v : Value} {r : List (Str × Value)} (hl : env.kindOf n = some .local)
    (m cm : Str → Option Value) (s : Shared) (Q : PUnit → Shared → Prop) (x : InCallC s₀ env.locals m env.cells cm s) (y : ClsAt s.heap env.locals c)
    (hr : ∀ x ∈ r, env.kindOf x.1 = some .local ∨ (env.kindOf x.1 = some .cell ∧ (env.cells.lookup x.1).isSome = true))
    (h : ∀ s', InCallC s₀ env.locals (bindL env.kindOf ((n, v) :: r) m) env.cells (bindC env.kindOf ((n, v) :: r) cm) s' → ClsAt s'.heap env.locals c → 0 < s'.toks → Q ⟨⟩ s') : wpAny M A (forIn ((n, v) :: r) ⟨⟩ f) Q E s := by
  rw [List.forIn_cons, hf]
  refine wpAny_bind (wpAny_bind (wpAny_storeName_cls hl x.toInCall.ns y (fun h' hn' hs' hy => wpAny_pure (wpAny_grow (bindParams' f hf hk r _ cm _ _ ⟨⟨?_, hn', fun b o e => ?_, x.toInCall.fresh⟩, fun k c hc => ?_, x.apart, x.above⟩ hy hr fun s'' x'' y'' htk hsz => h s'' ?_ y'' (Nat.lt_of_lt_of_le (Nat.succ_pos _) htk)))) (by rw [hk]; rfl)))
  · refine x2a1 (x.toInCall.same) fun h₁ tk e_0 => ?_; subst e_0
    exact ⟨h', _, rfl⟩
  · exact hs'.extBut b o (Nat.ne_of_lt (Nat.lt_of_lt_of_le (Heap.lt_size e) x.toInCall.fresh)) (x.toInCall.keep b o e)
  · exact (x.cell k c hc).sameBut hs' (Nat.ne_of_gt (x.above k c (mem_of_lookup hc)))
  · unfold bindL bindC; rw [if_pos hl, if_pos hl]; exact x''
theorem newFunctionEnv_cls1 {scope : Scope} {globals : Addr} {n : Str} {v : Value} {r : List (Str × Value)} {qual : Str} {func : Option Addr} {code : Value} {builtins : Addr} {Q : Env → Shared → Prop}
    (hk : scope.kind = .function)
    (hl : scope.names.lookup n = some .local) (hkind : ∀ x ∈ r, scope.names.lookup x.1 = some .local ∨ (scope.names.lookup x.1 = some .cell ∧ ((cellsFrom (s.heap.objs.size + 1) scope.names []).lookup x.1).isSome = true))
    (hQ : ∀ env, env = newEnv scope s.heap.objs.size globals (cellsFrom (s.heap.objs.size + 1) scope.names []) qual func code none builtins →
      ∀ s', InCallC s env.locals (bindL env.kindOf ((n, v) :: r) fun _ => none) env.cells (bindC env.kindOf ((n, v) :: r) fun _ => none) s' → ClsAt s'.heap env.locals (.type "frame") → 0 < s'.toks → Q env s') :
    wpAny M A (newFunctionEnv scope globals [] ((n, v) :: r) qual func code none builtins) Q E s := by
  simp only [newFunctionEnv, Option.isSome_none, Bool.false_eq_true, if_false]
  refine wpAny_bind (wpAny_alloc ?_)
  refine wpAny_bind (wpAny_layCells _ (fun name kind cells => by cases hkc : kind == NameKind.cell <;> simp [hkc]) _ _ _ _ ?_)
  have ok := cellsFrom_ok scope.names (s.heap.push { cls := .type "frame", data := .dict #[] }) (s.heap.objs.size + 1) [] ⟨fun _ _ hm => (nomatch hm), List.Pairwise.nil⟩ (by rw [Heap.size_push]; exact Nat.le_refl _)
  rw [Heap.size_push] at ok
  rw [show ({ s with heap := s.heap.push { cls := .type "frame", data := .dict #[] } } : Shared).heap.objs.size = s.heap.objs.size + 1 from Heap.size_push ..]
  refine wpAny_bind (bindParams1 (s₀ := s) (env := newEnv scope s.heap.objs.size globals (cellsFrom (s.heap.objs.size + 1) scope.names []) qual func code none builtins)
    _ (fun _ _ _ => rfl) hk hl (fun _ => none) (fun _ => none) _ _
    ⟨⟨⟨_, _, rfl⟩, (Heap.Ns.new s.heap (.type "frame")).keeps (pushCells_keeps _ _), fun b o e => pushCells_keeps _ _ b o (Heap.get?_push_of_some _ e), Nat.le_refl _⟩,
      fun n c hc => (ok.empty n c (mem_of_lookup hc)).1, ok.apart, fun n c hm => (ok.empty n c hm).2⟩
    (ClsAt.keeps ⟨_, Heap.get?_push_size _ rfl, rfl⟩ (pushCells_keeps _ _)) hkind fun s' x y hp => wpAny_pure (hQ _ rfl s' x y hp))
theorem newFunctionEnv_cls2 {scope : Scope} {globals : Addr} {binds : List (Str × Value)} {qual : Str} {func : Option Addr} {code : Value} {builtins : Addr} {Q : Env → Shared → Prop}
    (h0 : ∃ n v r, binds = (n, v) :: r ∧ scope.names.lookup n = some .local) (hk : scope.kind = .function)
    (hkind : ∀ x ∈ binds, scope.names.lookup x.1 = some .local ∨ (scope.names.lookup x.1 = some .cell ∧ ((cellsFrom (s.heap.objs.size + 1) scope.names []).lookup x.1).isSome = true))
    (hQ : ∀ env, env = newEnv scope s.heap.objs.size globals (cellsFrom (s.heap.objs.size + 1) scope.names []) qual func code none builtins →
      ∀ s', InCallC s env.locals (bindL env.kindOf binds fun _ => none) env.cells (bindC env.kindOf binds fun _ => none) s' → ClsAt s'.heap env.locals (.type "frame") → 0 < s'.toks → Q env s') :
    wpAny M A (newFunctionEnv scope globals [] binds qual func code none builtins) Q E s := by
  refine x3a2 h0 fun n v r e_0 hl => ?_; (try clear h0); subst e_0
  exact newFunctionEnv_cls1 hk hl (fun x hx => hkind x (List.mem_cons_of_mem _ hx)) hQ
theorem newFunctionEnv_cls3 {scope : Scope} {globals : Addr} {binds : List (Str × Value)} {qual : Str} {func : Option Addr} {code : Value} {builtins : Addr} {Q : Env → Shared → Prop}
    (hor : 0 < s.toks ∨ ∃ n v r, binds = (n, v) :: r ∧ scope.names.lookup n = some .local) (hk : scope.kind = .function)
    (hkind : ∀ x ∈ binds, scope.names.lookup x.1 = some .local ∨ (scope.names.lookup x.1 = some .cell ∧ ((cellsFrom (s.heap.objs.size + 1) scope.names []).lookup x.1).isSome = true))
    (hQ : ∀ env, env = newEnv scope s.heap.objs.size globals (cellsFrom (s.heap.objs.size + 1) scope.names []) qual func code none builtins →
      ∀ s', InCallC s env.locals (bindL env.kindOf binds fun _ => none) env.cells (bindC env.kindOf binds fun _ => none) s' → ClsAt s'.heap env.locals (.type "frame") → 0 < s'.toks → Q env s') :
    wpAny M A (newFunctionEnv scope globals [] binds qual func code none builtins) Q E s := by
  rcases hor with hp | h0
  · exact wpAny_grow (newFunctionEnv_cls hk hkind fun env he s₁ ic icl htk _ => hQ env he s₁ ic icl (Nat.lt_of_lt_of_le hp htk))
  · exact newFunctionEnv_cls2 h0 hk hkind hQ
end
omit [Lo] in
theorem len1 {α : Type} {l : List α} (h : l.length = 1) : ∃ a, l = [a] := List.length_eq_one_iff.mp h
omit [Lo] in
theorem len2 {α : Type} {l : List α} (h : l.length = 2) : ∃ a b, l = [a, b] := by
  cases l with
  | nil => cases h
  | cons a l => obtain ⟨b, rfl⟩ := len1 (Nat.succ.inj h); exact ⟨a, b, rfl⟩
omit [Lo] in
theorem len3 {α : Type} {l : List α} (h : l.length = 3) : ∃ a b c, l = [a, b, c] := by
  cases l with
  | nil => cases h
  | cons a l => refine x2a1 (len2 (Nat.succ.inj h)) fun b c e_0 => ?_; subst e_0; exact ⟨a, b, c, rfl⟩
omit [Lo] in
theorem len4 {α : Type} {l : List α} (h : l.length = 4) : ∃ a b c d, l = [a, b, c, d] := by
  cases l with
  | nil => cases h
  | cons a l => refine x3a1 (len3 (Nat.succ.inj h)) fun b c d e_0 => ?_; subst e_0; exact ⟨a, b, c, d, rfl⟩
omit [Lo] in
theorem len5 {α : Type} {l : List α} (h : l.length = 5) : ∃ a b c d e, l = [a, b, c, d, e] := by
  cases l with
  | nil => cases h
  | cons a l => refine x4a1 (len4 (Nat.succ.inj h)) fun b c d e e_0 => ?_; subst e_0; exact ⟨a, b, c, d, e, rfl⟩
noncomputable def FSpec (prog : Program) (w : World) (G : Pg) (k : Nat) (f : Str) (args : List AV) (r : Except XV AV) : Prop :=
  ∀ (A : Around) (fr : List Env) (T : Tx) (s : Shared) (B : Addr → Prop) (vals : List Value) (a : Addr) (fd : FuncData), G.fn f = some (a, fd) → AOk A fr k → A.handled = none → G.In s.heap → FrOk s.heap fr → 0 < s.toks →
    (∀ b, B b → G.nb ≤ b ∧ b < s.heap.objs.size) → G.nb ≤ s.heap.objs.size → RepL w B T s.toks s.heap vals args →
    cq (model prog w) A (.call (.ref a) ⟨vals, []⟩) (fun res s' => match res with
      | .ok (.ret v) => ∃ T' av, r = .ok av ∧ Le T s T' s' ∧ Rep w B T' s'.toks s'.heap v av
      | .ok _ => False
      | .error e => ∃ T' x a, r = .error x ∧ e = .ref a ∧ Le T s T' s' ∧ ExcAt s.heap.objs.size true T' s'.toks s'.heap a x) s
noncomputable def FSpecP (pz : Bool) (prog : Program) (w : World) (G : Pg) (k : Nat) (f : Str) (args : List AV) (r : Except XV AV) : Prop :=
  ∀ (A : Around) (fr : List Env) (T : Tx) (s : Shared) (B : Addr → Prop) (vals : List Value) (a : Addr) (fd : FuncData), G.fn f = some (a, fd) → AOk A fr k → A.handled = none → G.In s.heap → FrOk s.heap fr → (pz = true → 0 < s.toks) →
    (∀ b, B b → G.nb ≤ b ∧ b < s.heap.objs.size) → G.nb ≤ s.heap.objs.size → RepL w B T s.toks s.heap vals args →
    cq (model prog w) A (.call (.ref a) ⟨vals, []⟩) (fun res s' => match res with
      | .ok (.ret v) => ∃ T' av, r = .ok av ∧ Le T s T' s' ∧ Rep w B T' s'.toks s'.heap v av
      | .ok _ => False
      | .error e => ∃ T' x a, r = .error x ∧ e = .ref a ∧ Le T s T' s' ∧ ExcAt s.heap.objs.size true T' s'.toks s'.heap a x) s
noncomputable def FSpec0 (prog : Program) (w : World) (G : Pg) (k : Nat) (f : Str) (args : List AV) (r : Except XV AV) : Prop :=
  ∀ (A : Around) (fr : List Env) (T : Tx) (s : Shared) (B : Addr → Prop) (vals : List Value) (a : Addr) (fd : FuncData), G.fn f = some (a, fd) → AOk A fr k → A.handled = none → G.In s.heap → FrOk s.heap fr →
    (∀ b, B b → G.nb ≤ b ∧ b < s.heap.objs.size) → G.nb ≤ s.heap.objs.size → RepL w B T s.toks s.heap vals args →
    cq (model prog w) A (.call (.ref a) ⟨vals, []⟩) (fun res s' => match res with
      | .ok (.ret v) => ∃ T' av, r = .ok av ∧ Le T s T' s' ∧ Rep w B T' s'.toks s'.heap v av
      | .ok _ => False
      | .error e => ∃ T' x a, r = .error x ∧ e = .ref a ∧ Le T s T' s' ∧ ExcAt s.heap.objs.size true T' s'.toks s'.heap a x) s
omit [Lo] in
noncomputable def fcx (G : Pg) (prog : Program) (w : World) (A : Around) (fd : FuncData) (L a : Addr) (T : Tx) (s : Shared) (B : Addr → Prop) (fr : List Env) (k : Nat) : Cx :=
  { G, prog, w, A := A.deeper (callEnvC fd L a), env := callEnvC fd L a, T0 := T, s0 := s, B0 := B, fr := callEnvC fd L a :: fr, k, quiet := true, inner := false }
theorem fcx_top {G prog w A fd L a T s B fr k} : (fcx G prog w A fd L a T s B fr k).Top := ⟨⟨fr, rfl⟩, rfl⟩
omit [Lo] in
noncomputable def Sto.of : List Str → List AV → Sto
  | p :: ps, a :: as => (p, ⟨none, a⟩) :: Sto.of ps as
  | _, _ => []
omit [Lo] in
noncomputable def Ends (o : Out) (r : Except XV AV) : Prop := match o with
  | .ret v => r = .ok v
  | .next => r = .ok .none
  | .exc x => r = .error x
  | _ => False
theorem bindL_skip {kindOf : Str → Option NameKind} : ∀ (binds : List (Str × Value)) (m : Str → Option Value) (x : Str), (∀ p ∈ binds, p.1 ≠ x) → bindL kindOf binds m x = m x
  | [], _, _, _ => rfl
  | (n, v) :: r, m, x, h => by
    unfold bindL
    rw [bindL_skip r _ x fun p hp => h p (List.mem_cons_of_mem _ hp)]
    split
    · show (if x = n then some v else m x) = m x
      rw [if_neg (Ne.symm (h (n, v) List.mem_cons_self))]
    · rfl
theorem bindC_skip {kindOf : Str → Option NameKind} : ∀ (binds : List (Str × Value)) (m : Str → Option Value) (x : Str), (∀ p ∈ binds, p.1 ≠ x) → bindC kindOf binds m x = m x
  | [], _, _, _ => rfl
  | (n, v) :: r, m, x, h => by
    unfold bindC
    rw [bindC_skip r _ x fun p hp => h p (List.mem_cons_of_mem _ hp)]
    split
    · rfl
    · show (if x = n then some v else m x) = m x
      rw [if_neg (Ne.symm (h (n, v) List.mem_cons_self))]
theorem bindL_at {kindOf : Str → Option NameKind} {x : Str} {v : Value} (hk : kindOf x = some .local) : ∀ (binds : List (Str × Value)) (m : Str → Option Value), (binds.map (·.1)).Nodup → (x, v) ∈ binds → bindL kindOf binds m x = some v
  | (n, u) :: r, m, hn, hm => by
    rw [List.map_cons, List.nodup_cons] at hn
    unfold bindL
    rcases List.mem_cons.mp hm with e | hm
    · cases e
      rw [bindL_skip r _ x fun p hp q => hn.1 (q ▸ List.mem_map.mpr ⟨p, hp, rfl⟩), if_pos hk]
      exact if_pos rfl
    · exact bindL_at hk r _ hn.2 hm
theorem bindC_at {kindOf : Str → Option NameKind} {x : Str} {v : Value} (hk : kindOf x ≠ some .local) : ∀ (binds : List (Str × Value)) (m : Str → Option Value), (binds.map (·.1)).Nodup → (x, v) ∈ binds → bindC kindOf binds m x = some v
  | (n, u) :: r, m, hn, hm => by
    rw [List.map_cons, List.nodup_cons] at hn
    unfold bindC
    rcases List.mem_cons.mp hm with e | hm
    · cases e
      rw [bindC_skip r _ x fun p hp q => hn.1 (q ▸ List.mem_map.mpr ⟨p, hp, rfl⟩), if_neg hk]
      exact if_pos rfl
    · exact bindC_at hk r _ hn.2 hm
theorem Sto.of_get {B : Addr → Prop} {T : Tx} {n : Nat} {h : Heap} : ∀ {ps : List Str} {vals : List Value} {args : List AV}, RepL W B T n h vals args → ps.length = args.length → ∀ x c, (Sto.of ps args).get x = some c →
    ∃ v av, (x, v) ∈ ps.zip vals ∧ c = ⟨none, av⟩ ∧ Rep W B T n h v av
  | [], _, _, _, _, x, c, e => by unfold Sto.of at e; exact nomatch e
  | p :: ps, v :: vals, a :: args, .cons r rs, hl, x, c, e => by
    unfold Sto.of at e
    rw [Sto.get_cons] at e
    split at e
    · rename_i q; subst q; (have e := Option.some.inj e; subst e); exact ⟨v, a, List.mem_cons_self, rfl, r⟩
    · refine x2a2 (Sto.of_get rs (by simpa using hl) x c e) fun w av h1 h2 => ?_
      exact ⟨w, av, List.mem_cons_of_mem _ h1, h2⟩
  | _ :: _, [], [], .nil, hl, _, _, _ => by simp at hl
section
variable {prog : Program} {w : World} {G : Pg}
noncomputable def BindOk (G : Pg) (prog : Program) (w : World) (fd : FuncData) (ps : List Str) (n : Nat) (dflt : List AV) : Prop :=
  ∀ (A : Around) (E : Value → Shared → Prop) (s : Shared) (vals : List Value), G.In s.heap → vals.length = n →
    wpAny (model prog w) A (bindArgs fd ⟨vals, []⟩) (fun b s' => s' = s ∧ ∃ ds, b = ps.zip (vals ++ ds) ∧ ∀ B T n, (∀ b, B b → G.nb ≤ b) → RepL w B T n s.heap ds dflt) E s
theorem BindOk.plain {fd : FuncData} {ps : List Str} {n : Nat} (h : ∀ vals : List Value, vals.length = n → bindArgs fd ⟨vals, []⟩ = pure (ps.zip vals)) : BindOk G prog w fd ps n [] := fun A E s vals _ hl => by
  rw [h vals hl]
  exact wpAny_pure ⟨rfl, [], by simp, fun _ _ _ _ => .nil⟩
theorem RepL.append {B : Addr → Prop} {T : Tx} {n : Nat} {h : Heap} {vs ws : List Value} {xs ys : List AV} (r : RepL W B T n h vs xs) (q : RepL W B T n h ws ys) : RepL W B T n h (vs ++ ws) (xs ++ ys) := by
  induction r with
  | nil => exact q
  | cons h _ ih => exact .cons h ih
theorem cells_acc {x : Str} : ∀ (names : List (Str × NameKind)) (n : Addr) (acc : List (Str × Addr)), (acc.lookup x).isSome = true → ((cellsFrom n names acc).lookup x).isSome = true
  | [], n, acc, h => h
  | (name, kind) :: r, n, acc, h => by
    unfold cellsFrom
    split
    · refine cells_acc r _ _ ?_
      rw [List.lookup_cons]
      split
      · rfl
      · exact h
    · exact cells_acc r _ _ h
theorem cells_some {x : Str} : ∀ (names : List (Str × NameKind)) (n : Addr) (acc : List (Str × Addr)), names.lookup x = some .cell → ((cellsFrom n names acc).lookup x).isSome = true
  | [], n, acc, h => by simp at h
  | (name, kind) :: r, n, acc, h => by
    unfold cellsFrom
    rw [List.lookup_cons] at h
    by_cases hx : x = name
    · subst hx
      simp at h; subst h
      rw [if_pos (by rfl)]
      exact cells_acc r _ _ (by simp)
    · rw [beq_false_of_ne hx] at h
      split
      · exact cells_some r _ _ h
      · exact cells_some r _ _ h
omit [Lo] in
noncomputable def paramsOk (names : List (Str × NameKind)) (ps : List Str) : Bool := ps.all fun x => match names.lookup x with
  | some .local => true
  | some .cell => true
  | _ => false
theorem paramsOk_at {names : List (Str × NameKind)} {ps : List Str} (h : paramsOk names ps = true) : ∀ x ∈ ps, names.lookup x = some .local ∨ (names.lookup x = some .cell ∧ ∀ n, ((cellsFrom n names []).lookup x).isSome = true) := by
  intro x hx
  have := List.all_eq_true.mp h x hx
  split at this
  · exact .inl (by assumption)
  · exact .inr ⟨by assumption, fun n => cells_some names n [] (by assumption)⟩
  · exact ft this
theorem FSpecP.of {pz : Bool} {k : Nat} {f : Str} {args dflt : List AV} {r : Except XV AV} {a : Addr} {fd : FuncData} {body : List Stmt} {ps : List Str}
    (hfn : G.fn f = some (a, fd)) (hbody : fd.body = .stmts body) (hb : BindOk G prog w fd ps args.length dflt)
    (h : ∀ A L T s B fr, Ex (fcx G prog w A fd L a T s B fr k) body (Sto.of ps (args ++ dflt)) (fun o _ => Ends o r))
    (hfst : pz = true ∨ ∃ p ps', ps = p :: ps' ∧ fd.scope.names.lookup p = some .local) (hps : ps.length = args.length + dflt.length) (hnd : ps.Nodup)
    (hkind' : paramsOk fd.scope.names ps = true )
    (hclo : fd.closure = [] ) (hgl : fd.globals = mainGlobals ) (hbu : fd.builtins = builtinsNs )
    (hco : fd.scope.isCoroutine = false ) (hgen : fd.scope.isGenerator = false ) (hk : fd.scope.kind = .function ) : FSpecP pz prog w G (k + 1) f args r := by
  have hkind := paramsOk_at hkind'
  intro A fr T s B vals a' fd' hfn' hA hh hG hfr hpz hB hnb rep
  rw [hfn] at hfn'; cases Option.some.inj hfn'
  refine x0a3 (hG.fn f a fd hfn) fun e_0 t_1 hcd => ?_; clear e_0; refine x1a2 t_1 fun o ho hdat => ?_; (try clear t_1)
  refine cq_call_fn (by have := hA.depth; show A.depth < 1000; (clear hnb hps; lia)) ho hdat hco hgen hbody hcd ?_
  refine wpAny_mono (E := fun _ _ => False) (hb A.in1 (fun _ _ => False) s vals hG rep.length) (fun binds s' t_0 => x0a2 t_0 fun hs' t_1 => x1a2 t_1 fun ds hbinds hds => ?_) fun _ _ x => x.elim
  subst hs' hbinds
  rw [hclo]
  have rep' : RepL w B T s'.toks s'.heap (vals ++ ds) (args ++ dflt) := rep.append (hds B T s'.toks fun b q => (hB b q).1)
  have hlen : ps.length = (vals ++ ds).length := by rw [rep'.length, hps, List.length_append]
  have hzip : (ps.zip (vals ++ ds)).map (·.1) = ps := List.map_fst_zip (by (clear hnb hps; lia))
  have hmem : ∀ x ∈ ps.zip (vals ++ ds), x.1 ∈ ps := fun x hx => by rw [← hzip]; exact List.mem_map_of_mem hx
  have h0 : 0 < s'.toks ∨ ∃ n v r, ps.zip (vals ++ ds) = (n, v) :: r ∧ fd.scope.names.lookup n = some .local := by
    refine hfst.imp hpz fun t_0 => x2a2 t_0 fun p ps' e hp => ?_
    subst e
    cases hv : vals ++ ds with
    | nil => rw [hv] at hlen; simp at hlen
    | cons v vs => exact ⟨p, v, _, rfl, hp⟩
  refine wpAny_grow (newFunctionEnv_cls3 h0 hk (fun x hx => (hkind x.1 (hmem x hx)).imp id fun q => ⟨q.1, q.2 _⟩) fun env he s₁ ic icl hpos htk hsz => ?_)
  have ic' : InCallC s' (callEnvC fd s'.heap.objs.size a).locals (bindL (callEnvC fd s'.heap.objs.size a).kindOf (ps.zip (vals ++ ds)) fun x => none) (callEnvC fd s'.heap.objs.size a).cells
      (bindC (callEnvC fd s'.heap.objs.size a).kindOf (ps.zip (vals ++ ds)) fun x => none) s₁ := by subst he; exact ic
  clear ic
  have he' : env = callEnvC fd s'.heap.objs.size a := he
  clear he; subst he'
  have icl : ClsAt s₁.heap s'.heap.objs.size (.type "frame") := icl
  refine ⟨hG.noLimit.keeps ic'.toInCall.keep, cq_func ?_⟩
  generalize hX : fcx G prog w A fd s'.heap.objs.size a T s' B fr k = X
  have hXenv : X.env = callEnvC fd s'.heap.objs.size a := by rw [← hX]; rfl
  have hXA : X.A = A.deeper (callEnvC fd s'.heap.objs.size a) := by rw [← hX]; rfl
  have hXM : X.M = model prog w := by rw [← hX]; rfl
  have hXs : X.s0 = s' := by rw [← hX]; rfl
  have hXG : X.G = G := by rw [← hX]; rfl
  have hXB : X.B0 = B := by rw [← hX]; rfl
  have hXT : X.T0 = T := by rw [← hX]; rfl
  have hXf : X.fr = callEnvC fd s'.heap.objs.size a :: fr := by rw [← hX]; rfl
  have hXk : X.k = k := by rw [← hX]; rfl
  have hXw : X.w = w := by rw [← hX]; rfl
  have hL : (callEnvC fd s'.heap.objs.size a).locals = s'.heap.objs.size := rfl
  have le₁ : Le T s' T s₁ := by
    refine x2a1 (ic'.toInCall.same) fun h' tk e => ?_
    exact ⟨⟨hsz, fun b o e => ⟨o.slots, keepS_re (ic'.toInCall.keep b o e)⟩⟩, htk, fun _ _ => rfl, by rw [e], by rw [e]⟩
  have hcells : ∀ x c, (callEnvC fd s'.heap.objs.size a).cells.lookup x = some c → s'.heap.objs.size < c := fun x c e => ic'.above x c (mem_of_lookup e)
  have hkd : ∀ x, (callEnvC fd s'.heap.objs.size a).kindOf x = fd.scope.names.lookup x := fun x => rfl
  have S : St X (Sto.of ps (args ++ dflt)) T s₁ := {
    ok := {
      a := by rw [hXA, hXf, hXk]; exact ⟨by show A.depth + 1 + k ≤ 900; have := hA.depth; (clear hXk hsz htk hpos hlen hnb hps; lia), by show A.units + 3 + 20 * k ≤ 5000; have := hA.units; (clear hXk hsz htk hpos hlen hnb hps; lia), by show A.frames.map _ = _; rw [hA.frames]; rfl⟩
      hh := fun _ => by rw [hXA]; exact hh
      kind := by rw [hXenv]; exact hk
      glob := by rw [hXenv]; exact hgl
      bu := by rw [hXenv]; exact hbu
      pg := by rw [hXs, hXG]; exact hG
      nb := by rw [hXs, hXG]; exact hnb
      hB := by rw [hXs, hXG, hXB]; exact hB
      locals := by rw [hXs, hXenv]; exact Nat.le_refl _
      cl := fun x c e => by rw [hXenv] at e; rw [hXG]; exact Nat.le_trans hnb (Nat.le_of_lt (hcells x c e)) }
    le := by rw [hXs, hXT]; exact le₁
    pos := hpos
    fro := by
      rw [hXf]
      refine x3a3 (ic'.toInCall.ns) fun o es ep hL' hd' _ => ?_
      exact ⟨by show fd.scope.kind ≠ .module; rw [hk]; decide, ⟨s'.heap.objs.size, rfl, o, hL', by refine x1a2 icl fun o2 g1 g2 => ?_; (try clear icl); rw [show s₁.heap.get? s'.heap.objs.size = some o from hL'] at g1; (have g1 := Option.some.inj g1; subst g1); exact g2, Nat.le_trans hG.lo hnb, es, ep, hd'⟩, hfr.ext le₁.ext⟩
    vars := by
      rw [hXenv]
      refine ⟨_, ic'.toInCall.ns, fun x c e => ?_⟩
      refine x2a3 (Sto.of_get rep' (by rw [List.length_append]; exact hps) x c e) fun v av hm e_0 rv => ?_; subst e_0
      refine ⟨v, ?_, ?_⟩
      · have hx := hkind x (hmem _ hm)
        rcases hx with hx | ⟨hx, hx'⟩
        · have hx2 : (callEnvC fd s'.heap.objs.size a).kindOf x = some .local := hx
          unfold VarAt; rw [hx2]
          exact bindL_at hx2 _ _ (by rw [hzip]; exact hnd) hm
        · have hx2 : (callEnvC fd s'.heap.objs.size a).kindOf x = some .cell := hx
          unfold VarAt; rw [hx2]
          refine x1a1 (Option.isSome_iff_exists.mp (hx' (s'.heap.objs.size + 1))) fun c hc => ?_
          refine ⟨c, hc, ?_⟩
          have := ic'.cell x c hc
          rwa [bindC_at (v := v) (by rw [hx2]; decide) _ _ (by rw [hzip]; exact hnd) hm] at this
      · rw [hXw]
        refine Rep.mono rv htk (fun _ _ => rfl) le₁.ext fun b q => ?_
        rcases q with q | q | ⟨y, q⟩ | ⟨y, z, q⟩
        · rw [hXB] at q; exact .inl q
        · rw [hXenv, hL] at q; exact .inr (q ▸ Heap.get?_none_of_le (Nat.le_refl _))
        · rw [hXenv] at q; exact .inr (Heap.get?_none_of_le (Nat.le_of_lt (hcells y b q)))
        · refine x2a3 (Sto.of_get rep' (by rw [List.length_append]; exact hps) y _ q) fun _ _ _ h2 _ => ?_
          cases h2
    cells := fun x c e => by
      rw [hXenv] at e
      rw [hXenv, hXs]
      exact ⟨fun _ _ => Nat.le_of_lt (hcells x c e), Nat.ne_of_gt (hcells x c e), _, ic'.cell x c e⟩
    apart := fun x y c e1 e2 => by
      rw [hXenv] at e1 e2
      exact name_of_addr ic'.apart (mem_of_lookup e1) (mem_of_lookup e2)
    fresh := fun b t_0 => x2a1 t_0 fun y z q => by
      refine x2a3 (Sto.of_get rep' (by rw [List.length_append]; exact hps) y _ q) fun _ _ _ h2 _ => ?_
      cases h2
    one := fun x y b u v q _ => by
      refine x2a3 (Sto.of_get rep' (by rw [List.length_append]; exact hps) x _ q) fun _ _ _ h2 _ => ?_
      cases h2 }
  have hEx := h A s'.heap.objs.size T s' B fr
  rw [hX] at hEx
  have hEx' := hEx T s₁ S
  rw [hXM, hXA, hXenv] at hEx'
  refine wq_mono hEx' (fun fl s₂ t_0 => x3a3 t_0 fun T₂ o σ₂ n hfl he => ?_) fun e s₂ t_0 => x4a4 t_0 fun T₂ x σ₂ b hb n ea he => ?_
  · have le₂ : Le T s' T₂ s₂ := by have := n.st.le; rwa [hXs, hXT] at this
    cases o with
    | next => obtain rfl : fl = .next := hfl; exact ⟨T₂, _, he, le₂, .none⟩
    | brk => exact he.elim
    | cont => exact he.elim
    | ret v => refine x1a2 hfl fun u e_0 ru => ?_; (try clear hfl); subst e_0; rw [hXB, hXw] at ru; exact ⟨T₂, v, he, le₂, ru⟩
    | exc x => exact hfl.elim
  · subst hb
    have hfro := n.st.fro
    rw [hXf] at hfro
    have hsz₂ : s'.heap.objs.size ≤ s₂.heap.objs.size := Nat.le_trans hsz n.le.size
    refine wpAny_leavingX (lo := s'.heap.objs.size) (L := s'.heap.objs.size) (by show A.frames.map _ = _; rw [hA.frames]; rfl) hfro rfl hsz₂ (ea.weak hsz) fun h' sh ea' => ?_
    refine ⟨T₂, x, b, he, rfl, ?_, ea'⟩
    have := (n.st.shift sh (by rw [hXs]; exact Nat.le_refl _)).le
    rwa [hXs, hXT] at this
theorem FSpec.of {k : Nat} {f : Str} {args dflt : List AV} {r : Except XV AV} {a : Addr} {fd : FuncData} {body : List Stmt} {ps : List Str}
    (hfn : G.fn f = some (a, fd)) (hbody : fd.body = .stmts body) (hb : BindOk G prog w fd ps args.length dflt)
    (h : ∀ A L T s B fr, Ex (fcx G prog w A fd L a T s B fr k) body (Sto.of ps (args ++ dflt)) (fun o _ => Ends o r))
    (hps : autoParam (ps.length = args.length + dflt.length) byRfl) (hnd : autoParam (ps.Nodup) byDec)
    (hkind' : autoParam (paramsOk fd.scope.names ps = true) byRfl)
    (hclo : autoParam (fd.closure = []) byRfl) (hgl : autoParam (fd.globals = mainGlobals) byRfl) (hbu : autoParam (fd.builtins = builtinsNs) byRfl)
    (hco : autoParam (fd.scope.isCoroutine = false) byRfl) (hgen : autoParam (fd.scope.isGenerator = false) byRfl) (hk : autoParam (fd.scope.kind = .function) byRfl) : FSpec prog w G (k + 1) f args r := fun A fr T s B vals a' fd' c1 c2 c3 c4 c5 c6 => FSpecP.of (pz := true) hfn hbody hb h (.inl rfl) hps hnd hkind' hclo hgl hbu hco hgen hk A fr T s B vals a' fd' c1 c2 c3 c4 c5 fun _ => c6
theorem FSpec0.of {k : Nat} {f : Str} {args dflt : List AV} {r : Except XV AV} {a : Addr} {fd : FuncData} {body : List Stmt} {ps : List Str}
    (hfn : G.fn f = some (a, fd)) (hbody : fd.body = .stmts body) (hb : BindOk G prog w fd ps args.length dflt)
    (h : ∀ A L T s B fr, Ex (fcx G prog w A fd L a T s B fr k) body (Sto.of ps (args ++ dflt)) (fun o _ => Ends o r))
    (hfst : autoParam (∃ p ps', ps = p :: ps' ∧ fd.scope.names.lookup p = some .local) byEx) (hps : autoParam (ps.length = args.length + dflt.length) byRfl) (hnd : autoParam (ps.Nodup) byDec)
    (hkind' : autoParam (paramsOk fd.scope.names ps = true) byRfl)
    (hclo : autoParam (fd.closure = []) byRfl) (hgl : autoParam (fd.globals = mainGlobals) byRfl) (hbu : autoParam (fd.builtins = builtinsNs) byRfl)
    (hco : autoParam (fd.scope.isCoroutine = false) byRfl) (hgen : autoParam (fd.scope.isGenerator = false) byRfl) (hk : autoParam (fd.scope.kind = .function) byRfl) : FSpec0 prog w G (k + 1) f args r := fun A fr T s B vals a' fd' c1 c2 c3 c4 c5 => FSpecP.of (pz := false) hfn hbody hb h (.inr hfst) hps hnd hkind' hclo hgl hbu hco hgen hk A fr T s B vals a' fd' c1 c2 c3 c4 c5 nofun
end
section
variable {M : Model} {A : Around} {E : Value → Shared → Prop} {s : Shared}
theorem wq_callWith_fn {pos : Pos} {a : Addr} {first : List Value} {args : List (Bool × Sem Value)} {Q : Value → Shared → Prop}
    (h : wq M A (evalArgs (.ref a) true args []) (fun x s₁ => (∃ o fd, s₁.heap.get? a = some o ∧ o.data = .func fd) ∧ wq M A (call (.ref a) (first ++ x.pos) x.kw) Q E s₁) E s) :
    wq M A (callWith pos (.ref a) first args []) Q E s := by
  unfold callWith
  refine wq_bind (wq_holding (wq_mono h (fun x s₁ h₁ => wq_bind (wq_standAt ?_)) fun _ _ x => x))
  obtain ⟨⟨o, fd, ho, hd⟩, h₁⟩ := h₁
  have tail : ∀ {t : Sem Value}, wq M A t Q E s₁ → wq M A (t >>= fun r => holding [r] point >>= fun _ => pure r) Q E s₁ :=
    fun ht => wq_bind (wq_mono ht (fun r s₂ hr => wq_bind (wq_holding (wq_point (wq_pure hr)))) fun _ _ x => x)
  have hk : ∀ {Q' : Keeper → Shared → Prop}, Q' .frame s₁ → wq M A (keeperOf (.ref a)) Q' E s₁ := fun q => by
    unfold keeperOf
    refine wq_bind (wq_of (wpAny_load ho ?_))
    rw [hd]; exact wq_pure q
  refine wq_bind (hk ?_)
  cases hs : args.any (·.1)
  · simp only [List.any_nil, Bool.or_false]
    split
    · exact tail h₁
    · exact tail (by unfold callMarked; exact wq_keep h₁)
  · simp only [List.any_nil, Bool.or_false]
    exact tail (by unfold callMarked; exact wq_keep h₁)
theorem wq_evalArgs {f : Value} {x : Sem Value} {rest : List (Bool × Sem Value)} {Q : Args → Shared → Prop}
    (h : wq M A (spliced ((false, x) :: rest)) (fun vs s' => Q ⟨vs, []⟩ s') E s) : wq M A (evalArgs f true ((false, x) :: rest) []) Q E s := by
  unfold evalArgs
  simp only
  refine wq_bind (wq_mono h (fun vs s' h' => ?_) fun _ _ x => x)
  refine wq_bind (wq_pure (wq_holding ?_))
  exact wq_bind (wq_pure (wq_bind (wq_pure (wq_pure h'))))
theorem wq_Call {env : Env} {func : Expr} {args : List Expr} {pos : Pos} {Q : Value → Shared → Prop}
    (h : wq M A (eval func env) (fun f s₁ => wq M A (callWith pos f [] (backTo pos (starEach args env)) []) Q E s₁) E s)
    (he : autoParam (eval (.Call func args [] pos) env = (do callWith pos (← eval func env) [] (backTo pos (starEach args env)) (backToKw pos (keywordEach [] env)))) byRfl) :
    wq M A (eval (.Call func args [] pos) env) Q E s := by
  rw [he]; exact wq_bind h
end
section
variable {X : Cx} {σ : Sto}
theorem EvX.call {f : Str} {p pos : Pos} {e : Expr} {es : List Expr} {xs : List AV} {r : Except XV AV} {k : Nat} (hf : FSpec X.prog X.w X.G k f xs r) (h : EvL X (e :: es) σ xs) (hkind : X.env.kindOf f = some .globalImplicit)
    (hq : X.quiet = true) (hk : k ≤ X.k) {a : Addr} {fd : FuncData} (hfn : X.G.fn f = some (a, fd)) (hd : autoParam ((f == ("__debug__" : Str)) = false) byDec)
    (he : autoParam (starEach (e :: es) X.env = (false, eval e X.env) :: starEach es X.env) byRfl)
    (hc : autoParam (eval (.Call (.Name f p) (e :: es) [] pos) X.env = (do callWith pos (← eval (.Name f p) X.env) [] (backTo pos (starEach (e :: es) X.env)) (backToKw pos (keywordEach [] X.env)))) byRfl) :
    EvX X (.Call (.Name f p) (e :: es) [] pos) σ r := fun T s S => by
  refine wq_Call (S.load_fn hkind hfn ?_ hd) hc
  have h' := h
  unfold EvL at h'
  rw [he] at h' ⊢
  refine wq_callWith_fn (a := a) (wq_evalArgs (wq_mono (h' T s S pos) (fun vs s' t_0 => x1a2 t_0 fun T' l rl => ?_) fun _ _ x => x.elim))
  have S' := S.le_mono l
  refine x0a3 (S'.pg.fn f a fd hfn) fun _ t_0 _ => ?_; refine x1a2 t_0 fun o ho hdat => ?_; (try clear t_0)
  refine ⟨⟨o, fd, ho, hdat⟩, wq_call ?_⟩
  refine cq_mono (hf X.A X.fr T' s' (X.ban σ) vs a fd hfn (S'.ok.a.mono hk) (S'.ok.hh hq) S'.pg S'.fro S'.pos (fun b q => ⟨S'.ban_ge q, S'.ban_lt q⟩) (Nat.le_trans S'.ok.nb S'.le.ext.1) rl) fun res s'' hr => ?_
  cases res with
  | ok fl => cases fl with
    | ret v => exact x2a3 hr fun T'' av e l' r' => ⟨T'', av, e, l.trans l', r'⟩
    | _ => exact hr.elim
  | error e => exact x3a4 hr fun T'' x b e1 e2 l' ea => ⟨T'', x, b, e1, e2, l.trans l', ea.weak l.ext.1⟩
end
end Mine
namespace Mine
open PySem PySem.W PyProof.Rows
variable [Lo]
variable {W : World}
section
variable {X : Cx} {B : Addr → Prop} {T : Tx} {s : Shared}
theorem yl_int {k : Nat} {i : Int} {t : Tok} (hk : s.toks ≤ k) : ∃ T', Le T s T' { s with toks := k } ∧ Rep W B T' k s.heap (.int i t) (.int i) := ⟨T, .tok hk, .int _ _⟩
theorem yl_bool {b : Bool} : ∃ T', Le T s T' s ∧ Rep W B T' s.toks s.heap (.bool b) (.bool b) := ⟨T, .refl _ _, .bool _⟩
theorem yl_boolk {k : Nat} {b : Bool} (hk : s.toks ≤ k) : ∃ T', Le T s T' { s with toks := k } ∧ Rep W B T' k s.heap (.bool b) (.bool b) := ⟨T, .tok hk, .bool _⟩
theorem post_str {x : Str} {l : List Nat} (h0 : 0 < s.toks) (hx : x.cps.toList = l) (hs : l.length ≤ 16777216) :
    Made.post (.str x) (fun v s' => ∃ T', Le T s T' s' ∧ Rep W B T' s'.toks s'.heap v (.str l)) s :=
  ⟨by rw [sizeLine_eq]; subst hx; simpa [Str.length] using hs, rep_new h0 hx⟩
theorem post_val {v : Value} {x : AV} (r : Rep W B T s.toks s.heap v x) : Made.post (.val v) (fun v s' => ∃ T', Le T s T' s' ∧ Rep W B T' s'.toks s'.heap v x) s := ⟨T, .refl _ _, r⟩
end
theorem rep_str_inv {B : Addr → Prop} {T : Tx} {n : Nat} {h : Heap} {v : Value} {l : List Nat} (r : Rep W B T n h v (.str l)) : ∃ x t, v = .str x t ∧ x.cps.toList = l ∧ T t = l ∧ 0 < t ∧ t < n := by
  cases r with
  | str s => refine x2a5 (s.is) fun x t h1 h2 h3 h4 h5 => ?_; exact ⟨x, t, h1, h2, h3, h4, h5⟩
theorem str_of {x : Str} {l : List Nat} (h : x.cps.toList = l) : x = ⟨l.toArray⟩ := by
  subst h; cases x; simp
theorem bin_add_int {a b : Int} : BinG .Add (.int a) (.int b) (.int (a + b)) := fun X B T s u v _ _ _ r₁ r₂ => by
  cases r₁ using Rep.cInt; cases r₂ using Rep.cInt; exact P.add_int (yl_int (Nat.le_succ _))
theorem bin_sub_int {a b : Int} : BinG .Sub (.int a) (.int b) (.int (a - b)) := fun X B T s u v _ _ _ r₁ r₂ => by
  cases r₁ using Rep.cInt; cases r₂ using Rep.cInt; exact P.sub_int (yl_int (Nat.le_succ _))
theorem intMulOk_left {a b : Int} (h : a.natAbs < 2 ^ 60) : IntMulOk a b := IntMulOk.of_left (by
  unfold Builtin.Int.intBits
  split
  · (clear h; lia)
  · rename_i hz
    have := (Nat.log2_lt (n := a.natAbs) (k := 60) (by simpa using hz)).mpr h
    lia)
theorem intMulOk_right {a b : Int} (h : b.natAbs < 2 ^ 60) : IntMulOk a b := IntMulOk.of_right (by
  unfold Builtin.Int.intBits
  split
  · (clear h; lia)
  · rename_i hz
    have := (Nat.log2_lt (n := b.natAbs) (k := 60) (by simpa using hz)).mpr h
    lia)
theorem bin_mul_intL {a b : Int} (h : a.natAbs < 2 ^ 60) : BinG .Mult (.int a) (.int b) (.int (a * b)) := fun X B T s u v _ _ _ r₁ r₂ => by
  cases r₁ using Rep.cInt; cases r₂ using Rep.cInt; exact P.mul_int (yl_int (Nat.le_succ _)) (intMulOk_left h)
theorem bin_mul_intR {a b : Int} (h : b.natAbs < 2 ^ 60) : BinG .Mult (.int a) (.int b) (.int (a * b)) := fun X B T s u v _ _ _ r₁ r₂ => by
  cases r₁ using Rep.cInt; cases r₂ using Rep.cInt; exact P.mul_int (yl_int (Nat.le_succ _)) (intMulOk_right h)
theorem bin_div_int {a b : Int} (h : 0 < b) (hs : b < 1073741824) : BinG .FloorDiv (.int a) (.int b) (.int (a / b)) := fun X B T s u v _ _ _ r₁ r₂ => by
  cases r₁ using Rep.cInt; cases r₂ using Rep.cInt
  rw [← Int.fdiv_eq_ediv_of_nonneg a (Int.le_of_lt h)]
  exact floordiv_int (by omega) (yl_int (Nat.le_succ _)) (.inl (PyProof.noPylong_small (by omega)))
theorem bin_mod_int {a b : Int} (h : 0 < b) : BinG .Mod (.int a) (.int b) (.int (a % b)) := fun X B T s u v _ _ _ r₁ r₂ => by
  cases r₁ using Rep.cInt; cases r₂ using Rep.cInt
  rw [← Int.fmod_eq_emod_of_nonneg a (Int.le_of_lt h)]
  exact mod_int' (by lia) (yl_int (Nat.le_succ _))
theorem inp_add_int {a b : Int} : InpG .Add (.int a) (.int b) (.int (a + b)) := fun X B T s u v _ _ r₁ r₂ => by
  cases r₁ using Rep.cInt; cases r₂ using Rep.cInt; exact P.iadd_int (yl_int (Nat.le_succ _))
theorem inp_div_int {a b : Int} (h : 0 < b) (hs : b < 1073741824) : InpG .FloorDiv (.int a) (.int b) (.int (a / b)) := fun X B T s u v _ _ r₁ r₂ => by
  cases r₁ using Rep.cInt; cases r₂ using Rep.cInt
  rw [← Int.fdiv_eq_ediv_of_nonneg a (Int.le_of_lt h)]
  exact ifloordiv_int (by (clear hs; lia)) (yl_int (Nat.le_succ _)) (.inl (PyProof.noPylong_small (by omega)))
theorem bin_add_str {a b : List Nat} (h : a.length + b.length ≤ 16777216) : BinG .Add (.str a) (.str b) (.str (a ++ b)) := fun X B T s u v _ h0 _ r₁ r₂ => by
  refine x2a3 (rep_str_inv r₁) fun x t e_0 hx ht => ?_; subst e_0
  refine x2a3 (rep_str_inv r₂) fun y q e_0 hy hq => ?_; subst e_0
  refine P.add_str ?_
  split
  · rename_i hz
    have : a = [] := by subst hx; simpa [Str.length] using hz
    subst this; exact post_val r₂
  · split
    · rename_i hz
      have : b = [] := by subst hy; simpa [Str.length] using hz
      subst this; rw [List.append_nil]; exact post_val r₁
    · exact post_str h0 (by subst hx hy; rw [Str.cps_append]; simp) (by rw [List.length_append]; exact h)
theorem cmp_lt_int {a b : Int} : CmpG .Lt (.int a) (.int b) (decide (a < b)) := fun X B T s u v _ _ _ r₁ r₂ => by cases r₁ using Rep.cInt; cases r₂ using Rep.cInt; exact P.lt_int yl_bool
theorem cmp_le_int {a b : Int} : CmpG .LtE (.int a) (.int b) (decide (a ≤ b)) := fun X B T s u v _ _ _ r₁ r₂ => by cases r₁ using Rep.cInt; cases r₂ using Rep.cInt; exact P.le_int yl_bool
theorem cmp_gt_int {a b : Int} : CmpG .Gt (.int a) (.int b) (decide (a > b)) := fun X B T s u v _ _ _ r₁ r₂ => by cases r₁ using Rep.cInt; cases r₂ using Rep.cInt; exact P.gt_int yl_bool
theorem cmp_ge_int {a b : Int} : CmpG .GtE (.int a) (.int b) (decide (a ≥ b)) := fun X B T s u v _ _ _ r₁ r₂ => by cases r₁ using Rep.cInt; cases r₂ using Rep.cInt; exact P.ge_int yl_bool
theorem cmp_eq_int {a b : Int} : CmpG .Eq (.int a) (.int b) (a == b) := fun X B T s u v _ _ _ r₁ r₂ => by cases r₁ using Rep.cInt; cases r₂ using Rep.cInt; exact P.eq_int yl_bool
theorem cmp_eq_str {a b : List Nat} : CmpG .Eq (.str a) (.str b) (a == b) := fun X B T s u v _ _ _ r₁ r₂ => by
  refine x2a3 (rep_str_inv r₁) fun x t e_0 hx ht => ?_; subst e_0
  refine x2a3 (rep_str_inv r₂) fun y q e_0 hy hq => ?_; subst e_0
  subst hx hy
  exact P.eq_str yl_bool
theorem cmp_ne_str {a b : List Nat} : CmpG .NotEq (.str a) (.str b) (a != b) := fun X B T s u v _ _ _ r₁ r₂ => by
  refine x2a3 (rep_str_inv r₁) fun x t e_0 hx ht => ?_; subst e_0
  refine x2a3 (rep_str_inv r₂) fun y q e_0 hy hq => ?_; subst e_0
  subst hx hy
  exact P.ne_str yl_bool
theorem bnats_beq (b c : Array UInt8) : (b.toList == c.toList) = (bnats b == bnats c) := by
  rw [Bool.eq_iff_iff, beq_iff_eq, beq_iff_eq]
  unfold bnats
  constructor
  · intro h; rw [h]
  · exact fun h => (List.map_inj_right fun x y h => UInt8.toNat_inj.mp h).mp h
theorem cmp_ne_bytes {a b : List Nat} : CmpG .NotEq (.bytes a) (.bytes b) (a != b) := fun X B T s u v _ _ _ r₁ r₂ => by
  cases r₁ using Rep.cBytes; cases r₂ using Rep.cBytes
  rename_i c _ d _
  have : (bnats c != bnats d) = (c.toList != d.toList) := by simp only [bne, bnats_beq]
  rw [this]; exact W.ne_bytes yl_bool
omit [Lo] in
noncomputable def AV.isNone : AV → Bool
  | .none => true
  | _ => false
theorem rep_isNone {B : Addr → Prop} {T : Tx} {n : Nat} {h : Heap} {v : Value} {x : AV} (r : Rep W B T n h v x) : (v == Value.none) = x.isNone := by
  cases r <;> first | rfl | (rename_i s; refine x2a2 (s.is) fun x t e_0 _ => ?_; subst e_0; rfl)
theorem cmp_is_none {a : AV} : CmpG .Is a .none a.isNone := fun X B T s u v _ _ _ r₁ r₂ => by
  cases r₂ using Rep.cNone
  refine is_none ?_
  rw [rep_isNone r₁]; exact yl_bool
end Mine
namespace Mine
open PySem PySem.W PyProof.Rows
variable [Lo]
variable {W : World}
section
variable {M : Model} {A : Around} {E : Value → Shared → Prop} {s : Shared}
theorem wq_callWith_plain {pos : Pos} {f : Value} {first : List Value} {args : List (Bool × Sem Value)} {Q : Value → Shared → Prop} (hf : ∀ a, f ≠ .ref a) (hplain : args.any (·.1) = false)
    (h : wq M A (evalArgs f true args []) (fun a s₁ => wq M A (call f (first ++ a.pos) a.kw) Q E s₁) E s) : wq M A (callWith pos f first args []) Q E s := by
  unfold callWith
  refine wq_bind (wq_holding (wq_mono h (fun a s₁ h₁ => wq_bind (wq_standAt ?_)) fun _ _ x => x))
  have hk : keeperOf f = pure .machine := by
    unfold keeperOf
    cases f <;> first | rfl | exact absurd rfl (hf _)
  rw [hk]
  refine wq_bind (wq_pure ?_)
  simp only [hplain, List.any_nil, Bool.or_false]
  exact wq_bind (wq_mono h₁ (fun r s₂ hr => wq_bind (wq_holding (wq_point (wq_pure hr)))) fun _ _ x => x)
theorem wq_evalArgs_none {f : Value} {Q : Args → Shared → Prop} (h : Q ⟨[], []⟩ s) : wq M A (evalArgs f true [] []) Q E s := wq_of (PySem.evalArgs_none h)
end
section
variable {prog : Program} {w : World} {A : Around} {E : Value → Shared → Prop} {s : Shared} {env : Env}
theorem wq_Call_method {o : Expr} {name : Str} {apos pos : Pos} {args : List Expr} {T id : String} {Q : Value → Shared → Prop}
    (pa : PlainAttrs T) (slot : Slot T name id) (hty : typeOf (.builtin id) = pure (.type "method_descriptor"))
    (h : wq (model prog w) A (eval o env) (fun ov s₁ => s₁.TypeIs ov T ∧ (∀ a, ov = .ref a → ∃ ob, s₁.heap.get? a = some ob ∧ ob.dict = none) ∧
      wq (model prog w) A (callWith pos (.builtin id) [ov] (backTo pos (starEach args env)) []) Q E s₁) E s)
    (hbase : autoParam (attributeBase o name env (eval o env) = eval o env) byRfl)
    (hfew : autoParam (methodCallForm (args.length + ([] : List Keyword).length) (backTo pos (starEach args env)) (backToKw pos (keywordEach [] env)) = true) byRfl)
    (hline : autoParam ((apos.endLine == pos.line) = true) byRfl) :
    wq (model prog w) A (eval (.Call (.Attribute o name apos) args [] pos) env) Q E s := by
  show wq (model prog w) A (do
    let ov ← attributeBase o name env (eval o env)
    standAt apos.atName
    methodCall o name apos pos env ov (args.length + ([] : List Keyword).length) (backTo pos (starEach args env)) (backToKw pos (keywordEach [] env))) Q E s
  rw [hbase]
  refine wq_bind (wq_mono h (fun ov s₁ t_0 => x0a3 t_0 fun hT hd hc => wq_bind (wq_standAt ?_)) fun _ _ x => x)
  have hpos : methodCallPos true o env apos pos = pure pos := by unfold methodCallPos; simp [hline]
  unfold methodCall
  rw [hfew]
  refine wq_bind (wq_holding (wq_of (getMethod_builtin hT pa slot hty hd ?_)))
  rw [hpos]
  exact wq_bind (wq_pure hc)
end
noncomputable def CallG (f : Value) (args : List AV) (r : AV) : Prop := ∀ (X : Cx) (B : Addr → Prop) (T : Tx) (s : Shared) (vals : List Value), X.Ok → X.quiet = true → (∀ b, B b → b < s.heap.objs.size) → X.G.In s.heap → 0 < s.toks →
  RepL X.w B T s.toks s.heap vals args → Yl X B T s (call f vals) r
omit [Lo] in
noncomputable def AV.ty : AV → String
  | .none => "NoneType"
  | .bool _ => "bool"
  | .int _ => "int"
  | .str _ => "str"
  | .txt _ => "str"
  | .bytes _ => "bytes"
  | .tup _ => "tuple"
  | .list _ => "list"
  | .dict _ => "dict"
  | .barr _ => "bytearray"
  | .hid => "tuple"
  | .exc .. => "UnicodeDecodeError"
theorem Rep.typeIs {B : Addr → Prop} {T : Tx} {n : Nat} {s : Shared} {v : Value} {x : AV} (r : Rep W B T n s.heap v x) : s.TypeIs v x.ty := by
  cases r with
  | none => rfl
  | bool => rfl
  | int => rfl
  | str x => refine x2a2 (x.is) fun y t e_0 _ => ?_; subst e_0; rfl
  | txt => rfl
  | bytes => rfl
  | tup _ h => refine x1a3 h fun o ho hc _ => ?_; (try clear h); exact ⟨o, ho, hc⟩
  | list _ h => refine x1a3 h fun o ho hc _ => ?_; (try clear h); exact ⟨o, ho, hc⟩
  | dict _ h => refine x0a2 h fun t_0 _ => ?_; (try clear h); refine x1a3 t_0 fun o ho hc _ => ?_; (try clear t_0); exact ⟨o, ho, hc⟩
  | exc _ ho hc => exact ⟨_, ho, hc⟩
theorem Rep.noDict {B : Addr → Prop} {T : Tx} {n : Nat} {h : Heap} {v : Value} {x : AV} (r : Rep W B T n h v x) (hx : ∀ l, x ≠ .tup l) : ∀ a, v = .ref a → ∃ ob, h.get? a = some ob ∧ ob.dict = Option.none := by
  intro a e
  cases r with
  | none => cases e
  | bool => cases e
  | int => cases e
  | str x => refine x2a2 (x.is) fun y t e_0 _ => ?_; subst e_0; cases e
  | txt => cases e
  | bytes => cases e
  | tup _ h => exact absurd rfl (hx _)
  | list _ h => cases e; refine x1a4 h fun o ho hc hd _ => ?_; (try clear h); exact ⟨o, ho, hd⟩
  | dict _ h => cases e; refine x0a2 h fun t_0 _ => ?_; (try clear h); refine x1a4 t_0 fun o ho hc hd _ => ?_; (try clear t_0); exact ⟨o, ho, hd⟩
  | exc _ ho hc hdi => cases e; exact ⟨_, ho, hdi⟩
theorem OwnRep.typeIs {B : Addr → Prop} {T : Tx} {n : Nat} {s : Shared} {a : Addr} {x : AV} (r : OwnRep W B T n s.heap a x) : s.TypeIs (.ref a) x.ty := by
  cases r with
  | list h => refine x1a3 h fun o ho hc _ => ?_; (try clear h); exact ⟨o, ho, hc⟩
  | dict h => refine x0a2 h fun t_0 _ => ?_; (try clear h); refine x1a3 t_0 fun o ho hc _ => ?_; (try clear t_0); exact ⟨o, ho, hc⟩
  | barr b h => refine x1a3 h fun o ho hc _ => ?_; (try clear h); exact ⟨o, ho, hc⟩
  | hid h => refine x1a3 h fun o ho hc _ => ?_; (try clear h); exact ⟨o, ho, hc⟩
theorem OwnRep.noDict {B : Addr → Prop} {T : Tx} {n : Nat} {h : Heap} {a : Addr} {x : AV} (r : OwnRep W B T n h a x) : ∃ ob, h.get? a = some ob ∧ ob.dict = Option.none := by
  cases r with
  | list h => refine x1a4 h fun o ho hc hd _ => ?_; (try clear h); exact ⟨o, ho, hd⟩
  | dict h => refine x0a2 h fun t_0 _ => ?_; (try clear h); refine x1a4 t_0 fun o ho hc hd _ => ?_; (try clear t_0); exact ⟨o, ho, hd⟩
  | barr b h => refine x1a4 h fun o ho hc hd _ => ?_; (try clear h); exact ⟨o, ho, hd⟩
  | hid h => refine x1a4 h fun o ho hc hd _ => ?_; (try clear h); exact ⟨o, ho, hd⟩
omit [Lo] in
structure Meth (T : String) (name : Str) (id : String) : Prop where
  pa : PlainAttrs T
  slot : Slot T name id
  ty : typeOf (.builtin id) = pure (.type "method_descriptor")
section
variable {X : Cx} {σ : Sto}
theorem Ev.callB {f : Str} {p pos : Pos} {e : Expr} {es : List Expr} {xs : List AV} {r : AV} {fv : Value} (h : EvL X (e :: es) σ xs) (hc : CallG fv xs r) (hq : X.quiet = true)
    (hkind : X.env.kindOf f = some .globalImplicit) (hg : X.G.mg f = none) (hb : bootBuiltins f = some fv) (hfv : ∀ a, fv ≠ .ref a)
    (hn : autoParam (f ≠ "__name__") byDec) (hd : autoParam ((f == ("__debug__" : Str)) = false) byDec)
    (he : autoParam (starEach (e :: es) X.env = (false, eval e X.env) :: starEach es X.env) byRfl) (hst : autoParam ((backTo pos (starEach (e :: es) X.env)).any (·.1) = false) byRfl)
    (hcall : autoParam (eval (.Call (.Name f p) (e :: es) [] pos) X.env = (do callWith pos (← eval (.Name f p) X.env) [] (backTo pos (starEach (e :: es) X.env)) (backToKw pos (keywordEach [] X.env)))) byRfl) :
    Ev X (.Call (.Name f p) (e :: es) [] pos) σ r := fun T s S => by
  refine wq_Call (S.load_builtin hkind hg hb ?_ hn hd) hcall
  refine wq_callWith_plain hfv hst ?_
  have h' := h
  unfold EvL at h'
  rw [he] at h' ⊢
  refine wq_evalArgs (wq_mono (h' T s S pos) (fun vs s' t_0 => x1a2 t_0 fun T' l rl => ?_) fun _ _ x => x.elim)
  have S' := S.le_mono l
  exact Yl.backq l (hc X _ T' s' vs S'.ok hq (fun b q => S'.ban_lt q) S'.pg S'.pos rl)
theorem Ev.meth0 {o : Expr} {name : Str} {apos pos : Pos} {id : String} {x r : AV} (m : Meth x.ty name id) (h : Ev X o σ x) (hc : CallG (.builtin id) [x] r) (hq : X.quiet = true) (hx : autoParam (∀ l, x ≠ .tup l) byNo)
    (hbase : autoParam (attributeBase o name X.env (eval o X.env) = eval o X.env) byRfl)
    (hfew : autoParam (methodCallForm (([] : List Expr).length + ([] : List Keyword).length) (backTo pos (starEach [] X.env)) (backToKw pos (keywordEach [] X.env)) = true) byRfl)
    (hline : autoParam ((apos.endLine == pos.line) = true) byRfl) : Ev X (.Call (.Attribute o name apos) [] [] pos) σ r := fun T s S => by
  refine wq_Call_method m.pa m.slot m.ty (h.then S fun v T' s' l S' rv => ⟨rv.typeIs, rv.noDict hx, ?_⟩) hbase hfew hline
  refine wq_callWith_plain (fun _ => by simp) rfl (wq_evalArgs_none ?_)
  exact Yl.backq l (hc X _ T' s' [v] S'.ok hq (fun b q => S'.ban_lt q) S'.pg S'.pos (.cons rv .nil))
theorem Ev.meth {o e : Expr} {es : List Expr} {name : Str} {apos pos : Pos} {id : String} {x r : AV} {xs : List AV} (m : Meth x.ty name id) (h : Ev X o σ x) (ha : EvL X (e :: es) σ xs) (hc : CallG (.builtin id) (x :: xs) r) (hq : X.quiet = true)
    (hx : autoParam (∀ l, x ≠ .tup l) byNo) (hbase : autoParam (attributeBase o name X.env (eval o X.env) = eval o X.env) byRfl)
    (hfew : autoParam (methodCallForm ((e :: es).length + ([] : List Keyword).length) (backTo pos (starEach (e :: es) X.env)) (backToKw pos (keywordEach [] X.env)) = true) byRfl)
    (hline : autoParam ((apos.endLine == pos.line) = true) byRfl)
    (he : autoParam (starEach (e :: es) X.env = (false, eval e X.env) :: starEach es X.env) byRfl) (hst : autoParam ((backTo pos (starEach (e :: es) X.env)).any (·.1) = false) byRfl) :
    Ev X (.Call (.Attribute o name apos) (e :: es) [] pos) σ r := fun T s S => by
  refine wq_Call_method m.pa m.slot m.ty (h.then S fun v T' s' l S' rv => ⟨rv.typeIs, rv.noDict hx, ?_⟩) hbase hfew hline
  refine wq_callWith_plain (fun _ => by simp) hst ?_
  have h' := ha
  unfold EvL at h'
  rw [he] at h' ⊢
  refine wq_evalArgs (wq_mono (h' T' s' S' pos) (fun vs s'' t_0 => x1a2 t_0 fun T'' l' rl => ?_) fun _ _ x => x.elim)
  have S'' := S'.le_mono l'
  exact Yl.backq (l.trans l') (hc X _ T'' s'' (v :: vs) S''.ok hq (fun b q => S''.ban_lt q) S''.pg S''.pos (.cons (rv.le l') rl))
noncomputable abbrev PM (X : Cx) (B : Addr → Prop) (T : Tx) (s : Shared) (a : Addr) (av' : AV) (s' : Shared) : Prop := ∃ T' s₁ h', Le T s T' s₁ ∧ Heap.SameBut a s₁.heap h' ∧ s' = { s₁ with heap := h' } ∧ OwnRep X.w B T' s₁.toks h' a av'
noncomputable def MutG (id : String) (av : AV) (args : List AV) (av' : AV) : Prop := ∀ (X : Cx) (B : Addr → Prop) (T : Tx) (s : Shared) (a : Addr) (vals : List Value), X.Ok → X.quiet = true → B a → (∀ b, B b → b < s.heap.objs.size) → X.G.In s.heap → 0 < s.toks →
  OwnRep X.w B T s.toks s.heap a av → RepL X.w B T s.toks s.heap vals args →
  wq X.M X.A (call (.builtin id) (.ref a :: vals)) (fun _ => PM X B T s a av') noE s
theorem StB.load_own {T : Tx} {s : Shared} (S : St X σ T s) {x : Str} {a : Addr} {av : AV} (hx : σ.get x = some ⟨some a, av⟩) {p : Pos} {Q : Value → Shared → Prop} {E : Value → Shared → Prop}
    (hQ : OwnRep X.w (X.ban σ) T s.toks s.heap a av → Q (.ref a) s) (hd : autoParam ((x == ("__debug__" : Str)) = false) byDec) (hcl : autoParam ((x == ("__classdict__" : Str)) = false) byDec) : wq X.M X.A (eval (.Name x p) X.env) Q E s :=
  wq_Name (wq_of (S.load hx (fun w r => by obtain ⟨rfl, r⟩ := r; exact hQ r) hcl)) hd
theorem Ex.mut {Q : Post} {x : Str} {a : Addr} {av av' : AV} {name : Str} {id : String} {e : Expr} {es : List Expr} {xs : List AV} {p apos pos pos' : Pos} {rest : List Stmt} (hx : σ.get x = some ⟨some a, av⟩) (m : Meth av.ty name id)
    (ha : EvL X (e :: es) σ xs) (hm : MutG id av xs av') (hq : X.quiet = true) (k : Ex X rest (σ.updO x a av') Q) (hd : autoParam ((x == ("__debug__" : Str)) = false) byDec) (hcl : autoParam ((x == ("__classdict__" : Str)) = false) byDec)
    (hi : autoParam (interactive X.env = false) byRfl) (hs : autoParam (swapsWith (.Call (.Attribute (.Name x p) name apos) (e :: es) [] pos) none pos'.line X.env = pure false) byRfl)
    (hbase : autoParam (attributeBase (.Name x p) name X.env (eval (.Name x p) X.env) = eval (.Name x p) X.env) byRfl)
    (hfew : autoParam (methodCallForm ((e :: es).length + ([] : List Keyword).length) (backTo pos (starEach (e :: es) X.env)) (backToKw pos (keywordEach [] X.env)) = true) byRfl)
    (hline : autoParam ((apos.endLine == pos.line) = true) byRfl)
    (he : autoParam (starEach (e :: es) X.env = (false, eval e X.env) :: starEach es X.env) byRfl) (hst : autoParam ((backTo pos (starEach (e :: es) X.env)).any (·.1) = false) byRfl) :
    Ex X (.Expr (.Call (.Attribute (.Name x p) name apos) (e :: es) [] pos) pos' :: rest) σ Q := .cons fun T s S => by
  show wq X.M X.A (do
    standAt pos'
    if interactive X.env then printExpr (eval (.Call (.Attribute (.Name x p) name apos) (e :: es) [] pos) X.env)
    else if ← swapsWith (.Call (.Attribute (.Name x p) name apos) (e :: es) [] pos) none pos'.line X.env then do evalThenUse (.Call (.Attribute (.Name x p) name apos) (e :: es) [] pos) X.env fun _ => point; pure .next
    else do dropValue (.Call (.Attribute (.Name x p) name apos) (e :: es) [] pos) pos' (← eval (.Call (.Attribute (.Name x p) name apos) (e :: es) [] pos) X.env)) _ _ s
  refine wq_bind (wq_standAt ?_)
  rw [hi, if_neg (by decide), hs]
  refine wq_bind (wq_pure ?_)
  rw [if_neg (by decide)]
  refine wq_bind ?_
  refine wq_Call_method m.pa m.slot m.ty (S.load_own hx (fun r => ⟨r.typeIs, fun b q => by cases q; exact r.noDict, ?_⟩) hd hcl) hbase hfew hline
  refine wq_callWith_plain (fun _ => by simp) hst ?_
  have h' := ha
  unfold EvL at h'
  rw [he] at h' ⊢
  refine wq_evalArgs (wq_mono (h' T s S pos) (fun vs s' t_0 => x1a2 t_0 fun T' l rl => ?_) fun _ _ x => x.elim)
  have S' := S.le_mono l
  refine wq_mono (hm X (X.ban σ) T' s' a vs S'.ok hq (.inr (.inr (.inr ⟨x, av, hx⟩))) (fun b q => S'.ban_lt q) S'.pg S'.pos (r.mono l.toks l.tx l.ext fun _ q => .inl q) rl) (fun v s'' t_0 => x3a4 t_0 fun T'' s₁ h₁ l' hsb e r' => ?_) fun _ _ x => x.elim
  subst e
  have S₁ := S'.le_mono l'
  refine wq_of (wpAny_dropValue ?_)
  refine ⟨T'', .next, _, ⟨S₁.turn hx hsb r', ((l.trans l').leB _).trans (LeB.turn (k := s₁.toks) hsb (.inr (.inr (.inr ⟨x, av, hx⟩))) (Nat.le_refl _)) fun _ _ q => q, fun b hb q => ?_⟩, rfl, k⟩
  rcases Cx.ban_updO q with q | q
  · exact q
  · exact q ▸ .inr (.inr (.inr ⟨x, av, hx⟩))
end
end Mine
namespace Mine
open PySem PySem.W PyProof.Rows
variable [Lo]
variable {W : World}
omit [Lo] in
noncomputable def noBan : Addr → Prop := fun _ => False
omit [Lo] in
noncomputable def AV.atom : AV → Bool
  | .tup _ => false
  | .list _ => false
  | .dict _ => false
  | .barr _ => false
  | .hid => false
  | .exc .. => false
  | _ => true
theorem Rep.reban {B B' : Addr → Prop} {T : Tx} {n : Nat} {h : Heap} {v : Value} {x : AV} (r : Rep W B T n h v x) (hx : x.atom = true) : Rep W B' T n h v x := by
  cases r with
  | none => exact .none
  | bool b => exact .bool b
  | int i t => exact .int i t
  | str s => exact .str s
  | bytes b t => exact .bytes b t
  | txt x t => exact .txt x t
  | tup => exact ft hx
  | list => exact ft hx
  | dict => exact ft hx
  | exc => exact ft hx
theorem Rep.unban {B : Addr → Prop} {T : Tx} {n : Nat} {h : Heap} {v : Value} {x : AV} (r : Rep W B T n h v x) : Rep W noBan T n h v x := r.sub fun _ q => q.elim
theorem OwnRep.unban {B : Addr → Prop} {T : Tx} {n : Nat} {h : Heap} {a : Addr} {x : AV} (r : OwnRep W B T n h a x) (hb : x.Open) : Rep W noBan T n h (.ref a) x :=
  r.rep (fun q => q) (fun _ q => q.elim) hb
noncomputable def EvO (X : Cx) (e : Expr) (σ : Sto) (x : AV) : Prop := ∀ T s, St X σ T s → Yq X noBan T s (eval e X.env) x
theorem EvO.then {X : Cx} {e : Expr} {σ : Sto} {x : AV} (h : EvO X e σ x) {T : Tx} {s : Shared} (S : St X σ T s) {Q : Value → Shared → Prop} {E : Value → Shared → Prop}
    (k : ∀ v T' s', Le T s T' s' → St X σ T' s' → Rep X.w noBan T' s'.toks s'.heap v x → Q v s') : wq X.M X.A (eval e X.env) Q E s :=
  (h T s S).then fun v T' s' l r => k v T' s' l (S.le_mono l) r
theorem Ev.o {X : Cx} {e : Expr} {σ : Sto} {x : AV} (h : Ev X e σ x) : EvO X e σ x := fun T s S => h.then S fun v T' s' l S' r => ⟨T', l, r.unban⟩
theorem EvO.own {X : Cx} {σ : Sto} {x : Str} {a : Addr} {av : AV} {p : Pos} (hx : σ.get x = some ⟨some a, av⟩) (hb : autoParam (av.Open) byOpen) (hd : autoParam ((x == ("__debug__" : Str)) = false) byDec) (hcl : autoParam ((x == ("__classdict__" : Str)) = false) byDec) :
    EvO X (.Name x p) σ av := fun T s S => S.load_own hx (fun r => ⟨T, .refl _ _, r.unban hb⟩) hd hcl
omit [Lo] in
inductive RepD (W : World) (B : Addr → Prop) (T : Tx) (n : Nat) (h : Heap) : List (Str × Value) → List (List Nat × AV) → Prop where
  | nil : RepD W B T n h [] []
  | cons {k : Str} {v : Value} {x : AV} {kvs : List (Str × Value)} {l : List (List Nat × AV)} : Rep W B T n h v x → RepD W B T n h kvs l → RepD W B T n h ((k, v) :: kvs) ((k.cps.toList, x) :: l)
theorem RepD.length {B : Addr → Prop} {T : Tx} {n : Nat} {h : Heap} {kvs : List (Str × Value)} {l : List (List Nat × AV)} (r : RepD W B T n h kvs l) : kvs.length = l.length := by
  induction r with
  | nil => rfl
  | cons _ _ ih => simp [ih]
theorem strAt_strOf {T : Tx} {n : Nat} {v : Value} {l : List Nat} (x : StrAt T n v l) : (strOf v).cps.toList = l := by
  refine x2a3 (x.is) fun s t e_0 h _ => ?_; subst e_0; exact h
theorem RepD.of {B : Addr → Prop} {T : Tx} {n : Nat} {h : Heap} : ∀ {es : List DictEntry} {l : List (List Nat × AV)}, es.length = l.length →
    (∀ (i : Nat) (e : DictEntry) (x : List Nat × AV), es[i]? = some e → l[i]? = some x → StrAt T n e.key x.1) →
    (∀ (i : Nat) (e : DictEntry) (x : List Nat × AV), es[i]? = some e → l[i]? = some x → Rep W B T n h e.val x.2) → RepD W B T n h (es.map fun e => (strOf e.key, e.val)) l
  | [], [], _, _, _ => .nil
  | e :: es, x :: l, hl, hk, hv => by
    have h1 := strAt_strOf (hk 0 e x rfl rfl)
    have h2 := hv 0 e x rfl rfl
    have ih := RepD.of (es := es) (l := l) (by simpa using hl) (fun i e x h1 h2 => hk (i + 1) e x (by simpa using h1) (by simpa using h2)) fun i e x h1 h2 => hv (i + 1) e x (by simpa using h1) (by simpa using h2)
    obtain ⟨k, y⟩ := x
    dsimp only at h1 h2
    subst h1
    exact .cons h2 ih
  | [], _ :: _, hl, _, _ => by simp at hl
  | _ :: _, [], hl, _, _ => by simp at hl
theorem pairs_of {prog : Program} {es : List DictEntry} (hk : ∀ e ∈ es, ∃ x t, e.key = .str x t ∧ e.hash = hashStr W x) : Pairs (strKind prog W) es (es.map fun e => (strOf e.key, e.val)) := by
  induction es with
  | nil => exact .nil
  | cons e es ih =>
    refine x2a2 (hk e List.mem_cons_self) fun x t h1 h2 => ?_
    exact .cons (by show Value.isStrOf _ _ = true; simp [h1, strOf, Value.isStrOf]) rfl (ih fun e he => hk e (List.mem_cons_of_mem _ he))
theorem IsDictAt.dictOf {h : Heap} {a : Addr} {es : Array DictEntry} (x : IsDictAt W h a es) (prog : Program) : h.DictOf (strKind prog W) a (es.toList.map fun e => (strOf e.key, e.val)) := by
  refine x0a4 x fun t_0 hm hk hn => ?_; (try clear x); refine x1a5 t_0 fun o ho hc hd hs t_1 => ?_; (try clear t_0); refine x1a1 t_1 fun ep hdat => ?_; (try clear t_1)
  refine ⟨o, es, ep, ho, ⟨hc, hd, hs⟩, hdat, fun e he => ?_, pairs_of fun e he => hk e (Array.mem_toList_iff.mp he), by rw [List.map_map]; exact hn⟩
  refine x2a2 (hk e he) fun x t h1 h2 => ?_
  exact ⟨x, by show Value.isStrOf _ _ = true; simp [h1, Value.isStrOf], h2⟩
theorem Rep.dictOf {B : Addr → Prop} {T : Tx} {n : Nat} {h : Heap} {v : Value} {l : List (List Nat × AV)} (r : Rep W B T n h v (.dict l)) (prog : Program) :
    ∃ a kvs, v = .ref a ∧ ¬ B a ∧ (a == sysModules) = false ∧ h.DictOf (strKind prog W) a kvs ∧ RepD W B T n h kvs l := by
  cases r with
  | dict hb hl hs hk hv =>
    exact ⟨_, _, rfl, hb, hl.2.1, hl.dictOf prog, RepD.of (by simpa using hs) (fun i e x h1 h2 => hk i e x (by simpa using h1) h2) fun i e x h1 h2 => hv i e x (by simpa using h1) h2⟩
theorem cps_inj {x y : Str} (h : x.cps.toList = y.cps.toList) : x = y := by rw [str_of h, ← str_of (rfl : y.cps.toList = y.cps.toList)]
theorem RepD.look {B : Addr → Prop} {T : Tx} {n : Nat} {h : Heap} {kvs : List (Str × Value)} {l : List (List Nat × AV)} (r : RepD W B T n h kvs l) (k : Str) :
    (∀ x, l.lookup k.cps.toList = some x → ∃ v, valueAt kvs k = some v ∧ Rep W B T n h v x) ∧ (l.lookup k.cps.toList = none → valueAt kvs k = none) := by
  induction r with
  | nil => exact ⟨fun x e => by simp at e, fun _ => rfl⟩
  | @cons k' v x kvs l hv _ ih =>
    unfold valueAt at *
    rw [List.lookup_cons, List.find?_cons]
    by_cases hk : k' = k
    · subst hk; simp; exact hv
    · have : (k.cps.toList == k'.cps.toList) = false := by
        rw [beq_eq_false_iff_ne]; exact fun e => hk (cps_inj e).symm
      rw [this]
      simp only [hk, decide_false]
      exact ih
noncomputable def GetG (o i r : AV) : Prop := ∀ (X : Cx) (B : Addr → Prop) (T : Tx) (s : Shared) (u v : Value), X.Ok → X.G.In s.heap → 0 < s.toks →
  Rep X.w B T s.toks s.heap u o → Rep X.w B T s.toks s.heap v i → Yl X B T s (getItem u v) r
omit [Lo] in
noncomputable def AV.sub : AV → Bool
  | .str _ => true
  | .bytes _ => true
  | .tup _ => true
  | .list _ => true
  | .dict _ => true
  | _ => false
theorem look_get : ∀ {o : AV}, o.sub = true → ∃ id, typeLookup (.type o.ty) "__getitem__" = pure (some (.builtin id))
  | .str _, _ => ⟨_, F.slot_str_getitem.lookup⟩
  | .bytes _, _ => ⟨_, FB.slot_bytes_getitem.lookup⟩
  | .tup _, _ => ⟨_, F.slot_tuple_getitem.lookup⟩
  | .list _, _ => ⟨_, F.slot_list_getitem.lookup⟩
  | .dict _, _ => ⟨_, F.slot_dict_getitem.lookup⟩
theorem wq_Subscript {X : Cx} {E : Value → Shared → Prop} {s : Shared} {value slice : Expr} {pos : Pos} {Q : Value → Shared → Prop}
    (h : wq X.M X.A (eval value X.env) (fun o s₁ => wq X.M X.A (eval slice X.env) (fun i s₂ => (∃ T id, s₂.TypeIs o T ∧ typeLookup (.type T) "__getitem__" = pure (some (.builtin id))) ∧ wq X.M X.A (getItem o i) Q E s₂) E s₁) E s)
    (hs : ∀ o i, ∃ vs, subscripted slice false o i = operate vs (getItem o i)) : wq X.M X.A (eval (.Subscript value slice pos) X.env) Q E s := by
  rw [eval_Subscript]
  refine wq_bind (wq_mono h (fun o s₁ h₁ => wq_bind (wq_holding (wq_mono h₁ (fun i s₂ ⟨⟨T, id, hT, hl⟩, h₂⟩ => wq_bind (wq_standAt ?_)) fun _ _ x => x))) fun _ _ x => x)
  refine wq_bind (wq_of (wpAny_mono (?_ : wpAny X.M X.A (getitemInPython o) (fun b s' => b = false ∧ s' = s₂) (fun _ _ => False) s₂) (fun b s' t_0 => x0a2 t_0 fun e1 e2 => ?_) fun _ _ x => x.elim))
  · rw [getitemInPython_of_ne hT.not_modules]
    exact wpAny_bind (wpAny_specialOf hT hl (wpAny_pure ⟨rfl, rfl⟩))
  · subst e1 e2
    obtain ⟨vs, hv⟩ := hs o i
    rw [hv]
    exact wq_bind (wq_operate (wq_mono h₂ (fun r s₃ h₃ => wq_bind (wq_of (wpAny_letTemporaryGo (wq_pure h₃)))) fun _ _ x => x))
section
variable {X : Cx} {σ : Sto}
theorem Ev.index {e ie : Expr} {pos : Pos} {o i r : AV} (h1 : Ev X e σ o) (h2 : Ev X ie σ i) (h : GetG o i r) (hl : autoParam (o.sub = true) byRfl)
    (hs : autoParam (∀ o i, subscripted ie false o i = operate [o, i] (getItem o i)) byI2) : Ev X (.Subscript e ie pos) σ r := fun T s S => by
  refine wq_Subscript (h1.then S fun u T₁ s₁ l₁ S₁ r₁ => h2.then S₁ fun v T₂ s₂ l₂ S₂ r₂ => ⟨?_, ?_⟩) fun o i => ⟨_, hs o i⟩
  · obtain ⟨id, hid⟩ := look_get hl
    exact ⟨_, id, (r₁.le l₂).typeIs, hid⟩
  · exact Yl.backq (l₁.trans l₂) (h X _ T₂ s₂ u v S₂.ok S₂.pg S₂.pos (r₁.le l₂) r₂)
noncomputable def EvP (X : Cx) (e : Option Expr) (σ : Sto) (i : Option Int) : Prop := ∀ T s, St X σ T s →
  wq X.M X.A (evalPart e X.env) (fun v s' => IsPart v i ∧ ∃ T', Le T s T' s') (fun _ _ => False) s
theorem EvP.none : EvP X Option.none σ Option.none := fun T s S => wq_pure ⟨.none, T, .refl _ _⟩
theorem EvP.some {e : Expr} {i : Int} (h : Ev X e σ (.int i)) : EvP X (Option.some e) σ (Option.some i) := fun T s S => by
  rw [evalPart_some]
  exact h.then S fun v T' s' l S' r => by cases r using Rep.cInt; exact ⟨.int _ _, T', l⟩
noncomputable def SliceG (lo hi : Option Int) (o r : AV) : Prop := ∀ (X : Cx) (B : Addr → Prop) (T : Tx) (s : Shared) (u vl vu : Value) (a : Addr), IsPart vl lo → IsPart vu hi → X.Ok → X.G.In s.heap → 0 < s.toks → (∀ b, B b → b < s.heap.objs.size) →
  s.heap.IsSliceOf a vl vu .none → Rep X.w B T s.toks s.heap u o → Yl X B T s (getItem u (.ref a)) r
theorem Ev.slice {e : Expr} {lo hi : Option Expr} {p pos : Pos} {a b : Option Int} {o r : AV} (h1 : Ev X e σ o) (hlo : EvP X lo σ a) (hhi : EvP X hi σ b) (h : SliceG a b o r) (hl : autoParam (o.sub = true) byRfl) :
    Ev X (.Subscript e (.Slice lo hi none p) pos) σ r := fun T s S => by
  refine wq_Subscript (h1.then S fun u T₁ s₁ l₁ S₁ r₁ => ?_) fun o i => ⟨_, rfl⟩
  rw [arm_eval_Slice]
  refine wq_bind (wq_mono (hlo T₁ s₁ S₁) (fun vl s₂ t_0 => x0a2 t_0 fun pl t_1 => x1a1 t_1 fun T₂ l₂ => wq_bind (wq_holding (wq_mono (hhi T₂ s₂ (S₁.le_mono l₂)) (fun vu s₃ t_0 => x0a2 t_0 fun pu t_1 => x1a1 t_1 fun T₃ l₃ => wq_bind (wq_holding (wq_pure ?_))) fun _ _ x => x.elim))) fun _ _ x => x.elim)
  refine wq_of (wpAny_newObj_type ?_)
  have l₄ := l₁.trans (l₂.trans (l₃.trans (le_push (T := T₃) (s := s₃) { cls := .type "slice", data := .fields #[vl, vu, .none] })))
  have r₄ := r₁.le (l₂.trans (l₃.trans (le_push (T := T₃) (s := s₃) { cls := .type "slice", data := .fields #[vl, vu, .none] })))
  have S₄ := S.le_mono l₄
  refine ⟨?_, ?_⟩
  · obtain ⟨id, hid⟩ := look_get hl
    exact ⟨_, id, r₄.typeIs, hid⟩
  · exact Yl.backq l₄ (h X _ T₃ _ u vl vu _ pl pu S₄.ok S₄.pg S₄.pos (fun b q => S₄.ban_lt q) (Heap.IsSliceOf.new _ _ _ _) r₄)
end
theorem fit63 {n : Nat} (h : n ≤ 1099511627776) : (n : Int) < 2 ^ 63 := by lia
theorem get_str {l : List Nat} {i : Int} (h0 : 0 ≤ i) (h1 : i < l.length) (hs : l.length ≤ 1099511627776) : GetG (.str l) (.int i) (.str [l.getD i.toNat 0]) := fun X B T s u v _ _ h0' r₁ r₂ => by
  refine x2a3 (rep_str_inv r₁) fun x t e_0 hx _ => ?_; subst e_0
  cases r₂ using Rep.cInt
  have hlen : x.length = l.length := by subst hx; simp [Str.length]
  have hi : i.toNat < l.length := by (clear hlen h0' hs; lia)
  have hat : (seqIndex? i x.length).bind (x.cps[·]?) = some (l.getD i.toNat 0) := by
    refine StrLaws.at_nonneg h0 ?_
    rw [← Array.getElem?_toList, hx, List.getD_eq_getElem?_getD, List.getElem?_eq_getElem hi]; rfl
  refine getItem_gives (typeIs_str _ _ _) (by decide) F.slot_str_getitem F.entry_str_getitem (F.args_str_getitem_2 _ _) (gives_str_getitem x i _ _ _ (by simp; (clear hi hlen h0'; lia)) hat) ?_
  exact post_str h0' (by simp) (by simp)
theorem get_bytes {l : List Nat} {i : Int} (h0 : 0 ≤ i) (h1 : i < l.length) (hs : l.length ≤ 1099511627776) : GetG (.bytes l) (.int i) (.int (l.getD i.toNat 0)) := fun X B T s u v _ _ h0' r₁ r₂ => by
  cases r₁ using Rep.cBytes; cases r₂ using Rep.cInt
  rename_i b t t'
  have hlen : b.toList.length = (bnats b).length := by simp [bnats]
  have e : (((b.toList.getD i.toNat 0).toNat : Nat) : Int) = ((bnats b).getD i.toNat 0 : Nat) := by
    have hi : i.toNat < b.toList.length := by (clear hs h0'; lia)
    simp [bnats, List.getElem?_eq_getElem (show i.toNat < b.size by simpa using hi)]
  have := getItem_bytes (prog := X.prog) (w := X.w) (A := X.A) (E := fun _ _ => False) (s := s) (t := t) (u := t') (l := b.toList) (i := i) (Q := fun v s' => ∃ T', Le T s T' s' ∧ Rep X.w B T' s'.toks s'.heap v (.int ((bnats b).getD i.toNat 0)))
    (by (clear e h0' h0; lia)) h0 (by (clear e h0'; lia)) (by rw [e]; exact yl_int (Nat.le_succ _))
  rw [show b = b.toList.toArray by simp]; exact this
theorem get_list {l : List AV} {i : Int} {x : AV} (h0 : 0 ≤ i) (hx : l[i.toNat]? = some x) (hs : l.length ≤ 1099511627776) : GetG (.list l) (.int i) x := fun X B T s u v _ _ h0' r₁ r₂ => by
  cases r₂ using Rep.cInt
  cases r₁ using Rep.cList with
  | @list a items _ hb hl hsz hi =>
    have hlt : i.toNat < l.length := by
      rcases Nat.lt_or_ge i.toNat l.length with h | h
      · exact h
      · rw [List.getElem?_eq_none h] at hx; exact ns hx
    have hv : items[i.toNat]? = some items[i.toNat] := Array.getElem?_eq_getElem (by omega)
    exact wpAny_getItem_list hl.is h0 (by have := fit63 hs; omega) hv ⟨T, .refl _ _, hi _ _ _ hv hx⟩
theorem get_tup {l : List AV} {i : Int} {x : AV} (h0 : 0 ≤ i) (hx : l[i.toNat]? = some x) (hs : l.length ≤ 1099511627776) : GetG (.tup l) (.int i) x := fun X B T s u v _ _ h0' r₁ r₂ => by
  cases r₂ using Rep.cInt
  cases r₁ using Rep.cTup with
  | @tup a items _ hb hl hsz hi =>
    have hlt : i.toNat < l.length := by
      rcases Nat.lt_or_ge i.toNat l.length with h | h
      · exact h
      · rw [List.getElem?_eq_none h] at hx; exact ns hx
    have hv : items[i.toNat]? = some items[i.toNat] := Array.getElem?_eq_getElem (by omega)
    exact PyProof.Rows.getItem_tuple hl (by have := fit63 hs; omega) (by have := fit63 hs; omega) (StrLaws.seqIndex_nonneg h0 (by omega)) hv ⟨T, .refl _ _, hi _ _ _ hv hx⟩
theorem get_dict {l : List (List Nat × AV)} {k : List Nat} {x : AV} (hx : l.lookup k = some x) : GetG (.dict l) (.str k) x := fun X B T s u v _ _ h0' r₁ r₂ => by
  refine x2a3 (rep_str_inv r₂) fun y t e_0 hy _ => ?_; subst e_0
  refine x2a5 (r₁.dictOf X.prog) fun a kvs e_0 hb hm hd hr => ?_; subst e_0
  subst hy
  refine x1a2 ((hr.look y).1 x hx) fun z hz rz => ?_
  exact wpAny_getItem_of (k := y) (show Value.isStrOf y (.str y t) = true by simp [Value.isStrOf]) hd.mapOf hz ⟨T, .tok (Nat.le_succ _), rz.le (.tok (Nat.le_succ _))⟩
omit [Lo] in
noncomputable def cutL {α : Type} (lo hi : Option Int) (l : List α) : List α := (l.drop (lo.elim 0 (clipAt l.length))).take (hi.elim l.length (clipAt l.length) - lo.elim 0 (clipAt l.length))
theorem cutL_length_le {α : Type} (lo hi : Option Int) (l : List α) : (cutL lo hi l).length ≤ l.length := by
  unfold cutL; rw [List.length_take, List.length_drop]; exact Nat.le_trans (Nat.min_le_right _ _) (Nat.sub_le _ _)
theorem cutL_full {α : Type} {lo hi : Option Int} {l : List α} (h : (cutL lo hi l).length = l.length) : cutL lo hi l = l := by
  unfold cutL at *
  rw [List.length_take, List.length_drop] at h
  generalize lo.elim 0 (clipAt l.length) = a at *
  generalize hi.elim l.length (clipAt l.length) = b at *
  by_cases hl : l.length = 0
  · rw [List.length_eq_zero_iff.mp hl]; simp
  · have ha : a = 0 := (Nat.eq_zero_or_pos a).resolve_right fun q => absurd (Nat.sub_lt (Nat.pos_of_ne_zero hl) q) (Nat.not_lt.mpr (Nat.le_trans (Nat.le_of_eq h.symm) (Nat.min_le_right _ _)))
    subst ha
    rw [List.drop_zero, List.take_of_length_le (Nat.le_trans (Nat.le_of_eq h.symm) (Nat.min_le_left _ _))]
theorem cutL_map {α β : Type} (f : α → β) (lo hi : Option Int) (l : List α) : cutL lo hi (l.map f) = (cutL lo hi l).map f := by
  unfold cutL; rw [List.length_map, List.map_take, List.map_drop]
theorem strSlice_eq (lo hi : Option Int) (n : Nat) : Builtin.Str.strSliceIndices lo hi 1 n = sliceRange (lo.elim 0 (clipAt n) : Nat) (hi.elim n (clipAt n) : Nat) 1 := by
  cases lo <;> cases hi <;> simp [Builtin.Str.strSliceIndices, clipAt_cast]
theorem picked_cut (x : Str) (lo hi : Option Int) : (Builtin.Str.strSliceIndices lo hi 1 x.length).filterMap (x.cps[·]?) = cutL lo hi x.cps.toList := by
  rw [strSlice_eq, sliceRange_one, pick_run]
  unfold cutL
  simp [Str.length]
theorem slice_len {α : Type} (xs : Array α) : ∀ l : List Nat, (∀ i ∈ l, i < xs.size) → (l.filterMap (xs[·]?)).length = l.length
  | [], _ => rfl
  | i :: l, h => by
    have hi : xs[i]? = some (xs[i]'(h i List.mem_cons_self)) := Array.getElem?_eq_getElem _
    rw [List.filterMap_cons, hi]
    simp [slice_len xs l fun j hj => h j (List.mem_cons_of_mem _ hj)]
theorem clipAt_le (n : Nat) (i : Int) : clipAt n i ≤ n := by
  have := clipAt_cast n i
  exact Int.ofNat_le.mp (this ▸ Int.max_le.mpr ⟨Int.natCast_nonneg n, Int.min_le_right _ _⟩)
theorem slice_in (lo hi : Option Int) (n : Nat) : ∀ i ∈ Builtin.Str.strSliceIndices lo hi 1 n, i < n := by
  rw [strSlice_eq, sliceRange_one]
  intro i hin
  refine x1a2 (List.mem_map.mp hin) fun k hk e_0 => ?_; subst e_0
  rw [List.mem_range] at hk
  have : hi.elim n (clipAt n) ≤ n := by cases hi <;> simp [clipAt_le]
  omega
theorem part_shape {v : Value} {p : Option Int} (h : IsPart v p) : ∃ q : Option (Int × Tok), v = partValue q ∧ q.map (·.1) = p := by
  cases h with
  | none => exact ⟨none, rfl, rfl⟩
  | int i t => exact ⟨some (i, t), rfl, rfl⟩
theorem slice_str {l : List Nat} {lo hi : Option Int} (hs : l.length ≤ 16777216) : SliceG lo hi (.str l) (.str (cutL lo hi l)) := fun X B T s u vl vu a pl pu _ _ h0 _ hsl r => by
  refine x2a3 (rep_str_inv r) fun x t e_0 hx _ => ?_; subst e_0
  refine x1a2 (part_shape pl) fun ql e_0 e_1 => ?_; subst e_0; subst e_1
  refine x1a2 (part_shape pu) fun qu e_0 e_1 => ?_; subst e_0; subst e_1
  refine wpAny_getItem_str_slice (l := ql) (u := qu) (st := none) hsl (by rfl) ?_
  have hpick : slicePicked x ql qu none = Builtin.Str.strSliceIndices (ql.map (·.1)) (qu.map (·.1)) 1 x.length := rfl
  have hxl : x.length = x.cps.toList.length := by simp [Str.length]
  have hlen := slice_len x.cps (Builtin.Str.strSliceIndices (ql.map (·.1)) (qu.map (·.1)) 1 x.length) (slice_in _ _ x.length)
  rw [picked_cut] at hlen
  unfold sliceMade
  rw [hpick]
  split
  · rename_i hq
    simp only [Bool.and_eq_true, beq_iff_eq] at hq
    have : cutL (ql.map (·.1)) (qu.map (·.1)) l = l := by
      subst hx
      exact cutL_full (by rw [hlen, hq.2, hxl])
    rw [this]
    exact post_val r
  · rw [picked_cut]
    exact post_str h0 (by subst hx; rfl) (Nat.le_trans (cutL_length_le _ _ _) hs)
theorem slice_bytes {l : List Nat} {lo hi : Option Int} (hs : l.length ≤ 16777216) : SliceG lo hi (.bytes l) (.bytes (cutL lo hi l)) := fun X B T s u vl vu a pl pu _ _ h0 _ hsl r => by
  cases r using Rep.cBytes
  rename_i b t
  have hb : bnats (KBy.picked b lo hi) = cutL lo hi (bnats b) := by
    rw [KBc.picked_eq]; unfold bnats; rw [cutL_map]; unfold cutL; simp
  refine wpAny_grow (getItem_meets (typeIs_bytes _ _ _) (by decide) FB.slot_bytes_getitem FB.entry_bytes_getitem (FB.args_bytes_getitem_2 _ _) (KBc.meets_slice2 b _ a pl pu) ⟨hsl, ?_, fun t' k htk _ => ?_⟩)
  · rw [sizeLine_eq]
    exact Nat.le_trans (KBc.size_picked_le b lo hi) (by simpa [bnats] using hs)
  · exact ⟨T, .tok htk, hb ▸ .bytes _ _⟩
theorem slicePick_cut (items : Array Value) (lo hi : Option Int) : slicePick items lo hi none = (cutL lo hi items.toList).toArray := by
  rw [slicePick_plain]; unfold cutL; simp
theorem cutL_get {α : Type} (lo hi : Option Int) (l : List α) (i : Nat) : (cutL lo hi l)[i]? = if i < hi.elim l.length (clipAt l.length) - lo.elim 0 (clipAt l.length) then l[lo.elim 0 (clipAt l.length) + i]? else none := by
  unfold cutL
  rw [List.getElem?_take]
  split
  · rw [List.getElem?_drop]
  · rfl
theorem slice_list {l : List AV} {lo hi : Option Int} (hs : l.length ≤ 16777216) : SliceG lo hi (.list l) (.list (cutL lo hi l)) := fun X B T s u vl vu a pl pu _ _ h0 hB hsl r => by
  cases r using Rep.cList with
  | @list b items _ hb hl hsz hit =>
    have h := hl
    refine wpAny_getItem_list_slice hl.is hsl pl pu .none (by simp) ?_ (by rw [sizeLine_eq]; (clear h0; lia))
    rw [slicePick_cut]
    have hlen : items.toList.length = l.length := by simpa using hsz
    refine ⟨T, le_push _, .list (fun q => Nat.lt_irrefl _ (hB _ q)) ⟨_, Heap.get?_push_size _ rfl, rfl, rfl, rfl, _, rfl⟩ ?_ fun i v x h1 h2 => ?_⟩
    · simp only [List.size_toArray]
      unfold cutL
      simp [hlen, hsz]
    · have h1' : (cutL lo hi items.toList)[i]? = some v := by simpa using h1
      rw [cutL_get, hlen] at h1'
      rw [cutL_get] at h2
      split at h1'
      · rename_i q
        rw [if_pos q] at h2
        exact (hit _ v x (by simpa using h1') h2).le (le_push _)
      · exact ns h1'
theorem call_len_str' {l : List Nat} (hs : l.length ≤ 1099511627776) : CallG (.builtin "len") [.str l] (.int l.length) := fun X B T s vals _ _ _ _ h0 r => by
  cases r using RepL.cCons with
  | cons r₁ r₂ =>
    cases r₂ using RepL.cNil
    refine x2a3 (rep_str_inv r₁) fun x t e_0 hx _ => ?_; subst e_0
    have hlen : x.length = l.length := by subst hx; simp [Str.length]
    rw [← hlen]
    exact call_len_gives (typeIs_str _ _ _) F.slot_str_len F.entry_str_len (F.args_str_len_1 _) (gives_str_len x t) (by (clear hlen h0 hs; lia)) (by (clear h0; lia)) (yl_int (by (clear hlen hs; lia)))
theorem call_len_bytes' {l : List Nat} (hs : l.length ≤ 1099511627776) : CallG (.builtin "len") [.bytes l] (.int l.length) := fun X B T s vals _ _ _ _ h0 r => by
  cases r using RepL.cCons with
  | cons r₁ r₂ =>
    cases r₂ using RepL.cNil; cases r₁ using Rep.cBytes
    rename_i b t
    have hlen : b.size = (bnats b).length := by simp [bnats]
    rw [← hlen] at hs ⊢
    exact len_bytes hs (yl_int (by (clear hlen hs; lia)))
theorem call_len_list' {l : List AV} (hs : l.length ≤ 1099511627776) : CallG (.builtin "len") [.list l] (.int l.length) := fun X B T s vals _ _ _ _ h0 r => by
  cases r using RepL.cCons with
  | cons r₁ r₂ =>
    cases r₂ using RepL.cNil
    cases r₁ using Rep.cList with
    | list hb hl hsz hi =>
      rw [← hsz] at hs ⊢
      exact Calls.call_len_list hl.is (fit63 hs) (yl_int (by (clear hsz hs; lia)))
theorem call_chr' {i : Int} (h0 : 0 ≤ i) (h1 : i ≤ 1114111) : CallG (.builtin "chr") [.int i] (.str [i.toNat]) := fun X B T s vals _ _ _ _ hp r => by
  cases r using RepL.cCons with
  | cons r₁ r₂ =>
    cases r₂ using RepL.cNil; cases r₁ using Rep.cInt
    exact P.chr_of_int (by simp; (clear hp; lia)) (rep_new hp (by simp))
theorem call_ord' {c : Nat} : CallG (.builtin "ord") [.str [c]] (.int c) := fun X B T s vals _ _ _ _ hp r => by
  cases r using RepL.cCons with
  | cons r₁ r₂ =>
    cases r₂ using RepL.cNil
    refine x2a3 (rep_str_inv r₁) fun x t e_0 hx _ => ?_; subst e_0
    rw [str_of hx]
    exact P.ord_of_char (yl_int (Nat.le_succ _))
theorem tru_str {l : List Nat} (hs : l.length ≤ 1099511627776) : Tru (.str l) (!l.isEmpty) := fun X B T s v _ _ r => by
  refine x2a3 (rep_str_inv r) fun x t e_0 hx _ => ?_; subst e_0
  have hlen : x.length = l.length := by subst hx; simp [Str.length]
  refine P.truthy_str (by lia) ⟨?_, T, .tok (by (clear hlen hs; lia))⟩
  rw [hlen]; cases l <;> simp <;> (clear hlen hs; lia)
theorem tru_list {l : List AV} (hs : l.length ≤ 1099511627776) : Tru (.list l) (!l.isEmpty) := fun X B T s v _ _ r => by
  cases r using Rep.cList with
  | list hb hl hsz hi =>
    refine wpAny_truthy_list hl.is (by rw [hsz]; exact fit63 hs) ⟨?_, T, .tok (by (clear hsz hs; lia))⟩
    unfold Array.isEmpty; rw [hsz]; cases l <;> simp
theorem tru_dict {l : List (List Nat × AV)} (hs : l.length ≤ 1099511627776) : Tru (.dict l) (!l.isEmpty) := fun X B T s v _ _ r => by
  refine x2a5 (r.dictOf X.prog) fun a kvs e_0 hb hm hd hr => ?_; subst e_0
  have hlen := hr.length
  refine wpAny_truthy_dict hm hd (by rw [hlen]; exact fit63 hs) ⟨?_, T, .tok (by (clear hlen hs; lia))⟩
  cases l <;> cases kvs <;> simp at hlen ⊢
theorem in_dict {l : List (List Nat × AV)} {k : List Nat} : CmpG .In (.str k) (.dict l) (l.lookup k).isSome := fun X B T s u v _ _ h0 r₁ r₂ => by
  refine x2a3 (rep_str_inv r₁) fun y t e_0 hy _ => ?_; subst e_0
  refine x2a5 (r₂.dictOf X.prog) fun a kvs e_0 hb hm hd hr => ?_; subst e_0
  subst hy
  refine wpAny_in_of (k := y) (show Value.isStrOf y (.str y t) = true by simp [Value.isStrOf]) hm hd.mapOf ?_
  have : (valueAt kvs y).isSome = (l.lookup y.cps.toList).isSome := by
    have := hr.look y
    cases hq : l.lookup y.cps.toList with
    | none => rw [this.2 hq]; rfl
    | some x => refine x1a2 (this.1 x hq) fun v hv _ => ?_; rw [hv]; rfl
  rw [this]
  exact yl_boolk (Nat.le_succ _)
omit [Lo] in
noncomputable def AV.strs (l : List (List Nat)) : List AV := l.map .str
section
variable {X : Cx} {σ : Sto}
noncomputable def EvLO (X : Cx) (es : List Expr) (σ : Sto) (xs : List AV) : Prop := ∀ T s, St X σ T s → ∀ pos,
  wq X.M X.A (spliced (backTo pos (starEach es X.env))) (PL X.w noBan T s xs) noE s
theorem EvLO.nil : EvLO X [] σ [] := fun T s S pos => wq_args_nil ⟨T, .refl _ _, .nil⟩
theorem EvLO.cons {e : Expr} {es : List Expr} {x : AV} {xs : List AV} (h1 : EvO X e σ x) (h2 : EvLO X es σ xs)
    (he : autoParam (starEach (e :: es) X.env = (false, eval e X.env) :: starEach es X.env) byRfl) : EvLO X (e :: es) σ (x :: xs) := fun T s S pos => by
  refine wq_args_cons (h1.then S fun v T' s' l S' r => ?_) he
  refine wq_mono (h2 T' s' S' pos) (fun vs s'' t_0 => x1a2 t_0 fun T'' l' r' => ?_) fun _ _ x => x
  exact ⟨T'', l.trans l', .cons (r.le l') r'⟩
theorem Ev.callO {f : Str} {p pos : Pos} {e : Expr} {es : List Expr} {xs : List AV} {r : AV} {fv : Value} (h : EvLO X (e :: es) σ xs) (hc : CallG fv xs r) (hr : r.atom = true) (hq : X.quiet = true)
    (hkind : X.env.kindOf f = some .globalImplicit) (hg : X.G.mg f = none) (hb : bootBuiltins f = some fv) (hfv : ∀ a, fv ≠ .ref a)
    (hn : autoParam (f ≠ "__name__") byDec) (hd : autoParam ((f == ("__debug__" : Str)) = false) byDec)
    (he : autoParam (starEach (e :: es) X.env = (false, eval e X.env) :: starEach es X.env) byRfl) (hst : autoParam ((backTo pos (starEach (e :: es) X.env)).any (·.1) = false) byRfl)
    (hcall : autoParam (eval (.Call (.Name f p) (e :: es) [] pos) X.env = (do callWith pos (← eval (.Name f p) X.env) [] (backTo pos (starEach (e :: es) X.env)) (backToKw pos (keywordEach [] X.env)))) byRfl) :
    Ev X (.Call (.Name f p) (e :: es) [] pos) σ r := fun T s S => by
  refine wq_Call (S.load_builtin hkind hg hb ?_ hn hd) hcall
  refine wq_callWith_plain hfv hst ?_
  have h' := h
  unfold EvLO at h'
  rw [he] at h' ⊢
  refine wq_evalArgs (wq_mono (h' T s S pos) (fun vs s' t_0 => x1a2 t_0 fun T' l rl => ?_) fun _ _ x => x.elim)
  have S' := S.le_mono l
  exact (hc X _ T' s' vs S'.ok hq (fun b q => q.elim) S'.pg S'.pos rl).thenq fun v T₂ s₂ l₂ r₂ => ⟨T₂, l.trans l₂, r₂.reban hr⟩
theorem Ev.methO {o e : Expr} {es : List Expr} {name : Str} {apos pos : Pos} {id : String} {x r : AV} {xs : List AV} (m : Meth x.ty name id) (h : Ev X o σ x) (ha : EvLO X (e :: es) σ xs) (hc : CallG (.builtin id) (x :: xs) r) (hr : r.atom = true) (hq : X.quiet = true)
    (hx : autoParam (∀ l, x ≠ .tup l) byNo) (hbase : autoParam (attributeBase o name X.env (eval o X.env) = eval o X.env) byRfl)
    (hfew : autoParam (methodCallForm ((e :: es).length + ([] : List Keyword).length) (backTo pos (starEach (e :: es) X.env)) (backToKw pos (keywordEach [] X.env)) = true) byRfl)
    (hline : autoParam ((apos.endLine == pos.line) = true) byRfl)
    (he : autoParam (starEach (e :: es) X.env = (false, eval e X.env) :: starEach es X.env) byRfl) (hst : autoParam ((backTo pos (starEach (e :: es) X.env)).any (·.1) = false) byRfl) :
    Ev X (.Call (.Attribute o name apos) (e :: es) [] pos) σ r := fun T s S => by
  refine wq_Call_method m.pa m.slot m.ty (h.then S fun v T' s' l S' rv => ⟨rv.typeIs, rv.noDict hx, ?_⟩) hbase hfew hline
  refine wq_callWith_plain (fun _ => by simp) hst ?_
  have h' := ha
  unfold EvLO at h'
  rw [he] at h' ⊢
  refine wq_evalArgs (wq_mono (h' T' s' S' pos) (fun vs s'' t_0 => x1a2 t_0 fun T'' l' rl => ?_) fun _ _ x => x.elim)
  have S'' := S'.le_mono l'
  exact (hc X _ T'' s'' (v :: vs) S''.ok hq (fun b q => q.elim) S''.pg S''.pos (.cons (rv.le l').unban rl)).thenq fun v T₂ s₂ l₂ r₂ => ⟨T₂, (l.trans l').trans l₂, r₂.reban hr⟩
end
end Mine
namespace Mine
open PySem PySem.W PyProof.Rows
variable [Lo]
variable {W : World}
namespace FA
set_option maxRecDepth 100000
theorem plain_ba : PlainAttrs "bytearray" :=
  ⟨⟨"bytearray.__getattribute__", by rw [typeLookup_type, builtinLookup_eq_fast]; kernel_rfl, by decide +kernel⟩, by rw [typeLookup_type, builtinLookup_eq_fast]; kernel_rfl⟩
theorem owner_ba : Manifest.owners.lookup (String.ofList ['y', 'a', 'r', 'r', 'a', 'e', 't', 'y', 'b'].reverse) = some Manifest.sig_bytearray := by kernel_rfl
theorem slot_init : Slot "bytearray" "__init__" "bytearray.__init__" :=
  .of (owner := "bytearray") (n := "__init__") (by rw [typeLookup_type, builtinLookup_eq_fast]; kernel_rfl) (by decide +kernel) (by decide +kernel) (by decide +kernel)
    (by first | exact .inl (by decide +kernel) | exact .inr (by decide +kernel)) (by rw [isSubtype_type]; kernel_rfl)
theorem entry_init : entryFor table "bytearray.__init__" = some Builtin.«bytearray.__init__» := entryFor_of_tree (by kernel_rfl)
theorem args_init (a : Value) : argsOk "bytearray.__init__" ⟨[a], []⟩ := by
  unfold argsOk; rw [signature?_of (id := "bytearray.__init__") (n := ['_', '_', 't', 'i', 'n', 'i', '_', '_']) (o := ['y', 'a', 'r', 'r', 'a', 'e', 't', 'y', 'b']) (by kernel_rfl) owner_ba]; kernel_rfl
theorem slot_append : Slot "bytearray" "append" "bytearray.append" :=
  .of (owner := "bytearray") (n := "append") (by rw [typeLookup_type, builtinLookup_eq_fast]; kernel_rfl) (by decide +kernel) (by decide +kernel) (by decide +kernel)
    (by first | exact .inl (by decide +kernel) | exact .inr (by decide +kernel)) (by rw [isSubtype_type]; kernel_rfl)
theorem type_append : typeOf (.builtin "bytearray.append") = pure (.type "method_descriptor") := by show builtinType _ = _; rw [builtinType_eq_fast]; kernel_rfl
theorem entry_append : entryFor table "bytearray.append" = some Builtin.«bytearray.append» := entryFor_of_tree (by kernel_rfl)
theorem args_append (a b : Value) : argsOk "bytearray.append" ⟨[a, b], []⟩ := by
  unfold argsOk; rw [signature?_of (id := "bytearray.append") (n := ['d', 'n', 'e', 'p', 'p', 'a']) (o := ['y', 'a', 'r', 'r', 'a', 'e', 't', 'y', 'b']) (by kernel_rfl) owner_ba]; kernel_rfl
theorem slot_extend : Slot "bytearray" "extend" "bytearray.extend" :=
  .of (owner := "bytearray") (n := "extend") (by rw [typeLookup_type, builtinLookup_eq_fast]; kernel_rfl) (by decide +kernel) (by decide +kernel) (by decide +kernel)
    (by first | exact .inl (by decide +kernel) | exact .inr (by decide +kernel)) (by rw [isSubtype_type]; kernel_rfl)
theorem type_extend : typeOf (.builtin "bytearray.extend") = pure (.type "method_descriptor") := by show builtinType _ = _; rw [builtinType_eq_fast]; kernel_rfl
theorem entry_extend : entryFor table "bytearray.extend" = some Builtin.«bytearray.extend» := entryFor_of_tree (by kernel_rfl)
theorem args_extend (a b : Value) : argsOk "bytearray.extend" ⟨[a, b], []⟩ := by
  unfold argsOk; rw [signature?_of (id := "bytearray.extend") (n := ['d', 'n', 'e', 't', 'x', 'e']) (o := ['y', 'a', 'r', 'r', 'a', 'e', 't', 'y', 'b']) (by kernel_rfl) owner_ba]; kernel_rfl
theorem mro_ba : mroOf (.type "bytearray") = pure [.type "bytearray", .type "object"] := by rw [mroOf_type]; kernel_rfl
theorem lookup_new : typeLookup (.type "bytearray") "__new__" = pure (some (.builtin "bytearray.__new__")) := by rw [typeLookup_type, builtinLookup_eq_fast]; kernel_rfl
theorem called_ba : TypeCalled "bytearray" "bytearray.__new__" "bytearray.__init__" :=
  ⟨by decide +kernel, by decide +kernel, ⟨_, _, mro_ba⟩, madeBy_type mro_ba lookup_new (by decide +kernel), by decide +kernel, by rw [isSubtype_type]; kernel_rfl, slot_init⟩
theorem typeCall0 : checkTypeCall "bytearray" ⟨[], []⟩ = pure () := by kernel_rfl
theorem newCall0 : checkBuiltinCall "bytearray.__new__" ⟨[.type "bytearray"], []⟩ = pure () := by kernel_rfl
theorem entry_new : entryFor table "bytearray.__new__" = some Builtin.«list.__new__» := entryFor_alias (id' := "list.__new__") (by kernel_rfl) rfl (by decide +kernel) (by kernel_rfl)
theorem plain_new : plainId "bytearray.__new__" = true := by decide +kernel
theorem look_release : typeLookup (.type "bytearray") "__release_buffer__" = pure (some (.builtin "bytearray.__release_buffer__")) := by rw [typeLookup_type, builtinLookup_eq_fast]; kernel_rfl
theorem look_buffer : typeLookup (.type "bytearray") "__buffer__" = pure (some (.builtin "bytearray.__buffer__")) := by rw [typeLookup_type, builtinLookup_eq_fast]; kernel_rfl
theorem no_bytes : typeLookup (.type "bytearray") "__bytes__" = pure none := by rw [typeLookup_type, builtinLookup_eq_fast]; kernel_rfl
theorem no_idx : typeLookup (.type "bytearray") "__index__" = pure none := by rw [typeLookup_type, builtinLookup_eq_fast]; kernel_rfl
theorem sub_self : isSubtype (.type "bytearray") (.type "bytearray") = pure true := by rw [isSubtype_type]; kernel_rfl
theorem meth_append : Meth "bytearray" "append" "bytearray.append" := ⟨plain_ba, slot_append, type_append⟩
theorem meth_extend : Meth "bytearray" "extend" "bytearray.extend" := ⟨plain_ba, slot_extend, type_extend⟩
end FA
set_option maxRecDepth 1000000 in
set_option maxHeartbeats 4000000 in
theorem owner_new : ("bytearray.__new__".splitOn ".__new__").headD "" = "bytearray" := by simp +decide [String.splitOn, String.splitOnAux]
section
variable {prog : Program} {w : World} {A : Around} {E : Value → Shared → Prop} {s : Shared} {R : Result → Shared → Prop}
theorem cq_builtin {id : String} {args : Args} {b : Builtin} (hok : okCode (.builtin id args)) (hb : entryFor table id = some b)
    (h : wq (model prog w) (A.under (.builtin id args)) (b args)
      (fun fin s' => match fin with | .done f => R (.ok f) s' | .again c' => c'.quiet = true ∧ cq (model prog w) A c' R s') (fun e s' => R (.error e) s') s) :
    cq (model prog w) A (.builtin id args) R s := by
  refine cq_of_tree hok ?_
  show wq _ _ (match entryFor table id with | some b => b args | none => unsupported ((withoutEnding? id "#data").getD id)) _ _ s
  rw [hb]; exact h
theorem cq_call_builtin {id : String} {args : Args} {b : Builtin} (hq : plainId id = true) (hok : okCode (.builtin id args)) (hb : entryFor table id = some b)
    (h : wpAny (model prog w) A.in1 (checkBuiltinCall id args) (fun _ s₁ => wq (model prog w) A.in1 (b args)
      (fun fin s' => match fin with | .done f => R (.ok f) s' | .again c' => c'.quiet = true ∧ cq (model prog w) A c' R s') (fun e s' => R (.error e) s') s₁)
      (fun e s' => R (.error e) s') s) : cq (model prog w) A (.call (.builtin id) args) R s := by
  refine cq_of_tree trivial ?_
  show wq _ A.in1 (do checkBuiltinCall id args; again (.builtin id args)) _ _ s
  refine wq_bind (wq_mono (wq_of h) (fun _ s₁ h₁ => wq_pure (And.intro (plainId_quiet hq args) (cq_builtin hok hb ?_))) fun _ _ h' => h')
  rw [Around.under_plainId hq args]; exact h₁
omit [Lo] in
noncomputable def heldBy (v : Value) (x : Code × Pos) : Bool := match x with
  | (.builtin "bytearray.__contains__" ⟨x :: _, _⟩, _) | (.builtin "bytearray.__mod__" ⟨x :: _, _⟩, _)
  | (.builtin "bytearray.__rmod__" ⟨_ :: x :: _, _⟩, _) | (.builtin "_struct.pack_into.held" ⟨x :: _, _⟩, _) => Builtin.Bytes.sameRef x v
  | (.builtin "bytearray.find.held" ⟨_ :: _ :: held, _⟩, _) => held.any (Builtin.Bytes.sameRef v)
  | (.builtin id ⟨x :: _, _⟩, _) => Builtin.Bytes.sameRef x v && Builtin.Bytes.decodersThatHold.contains id
  | _ => false
omit [Lo] in
theorem not_held (v : Value) (c : Code) (p : Pos) (hk : okCode c) : heldBy v (c, p) = false := by
  cases c with
  | builtin id args =>
    obtain ⟨pos, kw⟩ := args
    have ne : ∀ n, holders.contains n = true → id ≠ n := fun n hn e => by
      have h2 := hk.2
      rw [e, hn] at h2
      exact tf h2
    unfold heldBy heldBy.match_1
    show dite (id = "bytearray.__contains__") _ _ = false
    refine (dif_neg (ne "bytearray.__contains__" rfl)).trans ?_
    refine (dif_neg (ne "bytearray.__mod__" rfl)).trans ?_
    refine (dif_neg (ne "bytearray.__rmod__" rfl)).trans ?_
    refine (dif_neg (ne "_struct.pack_into.held" rfl)).trans ?_
    refine (dif_neg (ne "bytearray.find.held" rfl)).trans ?_
    cases pos with
    | nil => rfl
    | cons x xs =>
      show (Builtin.Bytes.sameRef x v && Builtin.Bytes.decodersThatHold.contains id) = false
      rw [hk.1, Bool.and_false]
  | _ => rfl
theorem wq_exported {M : Model} {v : Value} {Q : Bool → Shared → Prop} (h : Q false s) : wq M A (Builtin.Bytes.exported v) Q E s := fun Γ p hΓ hc => by
  unfold Builtin.Bytes.exported
  show Sem.wp M Γ (Sem.bind stack _) _ _ p s
  unfold stack
  rw [Sem.wp_bind, Sem.wp_stack]
  show Q (List.any _ (heldBy v)) s
  rw [List.any_eq_false.mpr]
  · exact h
  · rintro ⟨c, q⟩ hm
    rw [Bool.not_eq_true]
    rcases List.mem_cons.mp hm with e | hm
    · cases e; exact not_held _ _ _ hc.1
    · exact not_held _ _ _ (hc.2 _ hm)
theorem wq_checkResize {M : Model} {a : Addr} {o : Obj} {b : Array UInt8} {Q : Unit → Shared → Prop} (ho : s.heap.get? a = some o) (hd : o.data = .bytearray b 0) (h : Q () s) : wq M A (Builtin.Bytes.checkResize (.ref a)) Q E s := by
  unfold Builtin.Bytes.checkResize
  refine wq_bind ?_
  unfold orM
  refine wq_bind (wq_exported ?_)
  refine wq_bind ?_
  unfold Builtin.Bytes.exportsOf
  refine wq_bind (wq_of (wpAny_load ho ?_))
  rw [hd]
  exact wq_pure (wq_pure (wq_pure h))
theorem isBarr_load {a : Addr} {b : Array UInt8} (x : IsBarr s.heap a b) : ∃ o, s.heap.get? a = some o ∧ o.data = .bytearray b 0 := let ⟨o, h, _, _, d⟩ := x; ⟨o, h, d⟩
theorem wpAny_write {M : Model} {a : Addr} {b : Array UInt8} {f : Array UInt8 → Array UInt8} {Q : Unit → Shared → Prop} (x : IsBarr s.heap a b) (hsz : (f b).size ≤ 16777216)
    (h : ∀ h', IsBarr h' a (f b) → Heap.SameBut a s.heap h' → Q () { s with heap := h' }) : wpAny M A (Builtin.Bytes.write (.ref a) f) Q E s := by
  refine x1a4 x fun o ho hc hdi hd => ?_; (try clear x)
  obtain ⟨c, d, dt, sl⟩ := o
  dsimp only at hc hdi hd
  subst hc hdi hd
  show wpAny M A (updateBytearray a f) Q E s
  unfold updateBytearray
  refine wpAny_bind (wpAny_load ho ?_)
  have hu : (s.heap.update a (Obj.mapBytearray f)).get? a = some (Obj.mapBytearray f ⟨.type "bytearray", none, .bytearray b 0, sl⟩) := Heap.get?_update_self _ ho (by rfl)
  refine wpAny_bind (wpAny_update ho ?_)
  refine wpAny_lookBehind hu ?_ (h _ ⟨_, hu, rfl, rfl, rfl⟩ (Heap.SameBut.update ..))
  show (if (f b).size > sizeLine then some "bytearray:memory" else none) = none
  rw [if_neg]
  rw [sizeLine_eq]; lia
theorem asIndex_int {i : Int} {t : Tok} : asIndex (.int i t) = pure i := rfl
theorem byteValue_int {i : Int} {t : Tok} (h0 : 0 ≤ i) (h1 : i < 256) : Builtin.Bytes.byteValue (.int i t) = pure i.toNat.toUInt8 := by
  unfold Builtin.Bytes.byteValue
  rw [asIndex_int]
  have : ¬ (decide (i < 0) || decide (i ≥ 256)) = true := by simp; lia
  simp only [pure_bind, this, if_false]
  rfl
theorem bnats_push {b : Array UInt8} {c : UInt8} : bnats (b.push c) = bnats b ++ [c.toNat] := by simp [bnats]
theorem bnats_append {b c : Array UInt8} : bnats (b ++ c) = bnats b ++ bnats c := by simp [bnats]
theorem bnats_size {b : Array UInt8} : (bnats b).length = b.size := by simp [bnats]
theorem okCode_append (args : Args) : okCode (.builtin "bytearray.append" args) := ⟨by decide, by decide⟩
theorem okCode_extend (args : Args) : okCode (.builtin "bytearray.extend" args) := ⟨by decide, by decide⟩
theorem mut_ba_append {l : List Nat} {c : Int} (h0 : 0 ≤ c) (h1 : c < 256) (hsz : l.length < 16777216) : MutG "bytearray.append" (.barr l) [.int c] (.barr (l ++ [c.toNat])) := fun X B T s a vals ok hq hB hBl hG hp r rl => by
  cases rl using RepL.cCons with
  | cons r₁ r₂ =>
    cases r₂ using RepL.cNil; cases r₁ using Rep.cInt
    rename_i t
    cases r using OwnRep.cBarr with
    | barr b hb =>
      refine wq_call (cq_call_builtin FA.slot_append.plain (okCode_append _) FA.entry_append (FA.slot_append.check _ _ _ _ _ _ _ _ (by refine x1a3 hb fun o ho hc _ => ?_; (try clear hb); exact ⟨o, ho, hc⟩) (FA.args_append _ _) ?_))
      unfold Builtin.«bytearray.append»
      refine wq_bind (wq_of (wpAny_of_eq (a := (.ref a, .int c t)) rfl ?_))
      dsimp only
      rw [byteValue_int h0 h1]
      refine wq_bind (wq_pure ?_)
      refine x1a2 (isBarr_load hb) fun o ho hd => ?_
      refine wq_bind (wq_checkResize ho hd ?_)
      rw [bnats_size] at hsz
      refine wq_bind (wq_of (wpAny_write hb (by simp; (clear hp; lia)) fun h' hb' hs => ?_))
      refine wq_pure ⟨T, s, h', .refl _ _, hs, rfl, ?_⟩
      have hc : (c.toNat.toUInt8).toNat = c.toNat := by
        have : c.toNat < 256 := by (clear hsz hp h0; lia)
        simp [Nat.toUInt8, UInt8.toNat_ofNat, Nat.mod_eq_of_lt this]
      have := OwnRep.barr (W := X.w) (B := B) (T := T) (n := s.toks) (h := h') (a := a) _ hb'
      rwa [bnats_push, hc] at this
theorem code_ba_new {Q₁ : Value → Shared → Prop} (h : Q₁ (.ref s.heap.objs.size) { s with heap := s.heap.push { cls := .type "bytearray", data := .bytearray #[] } }) :
    codeAny (model prog w) A (.call (.builtin "bytearray.__new__") ⟨[.type "bytearray"], []⟩) (wants Q₁ E) s := by
  refine codeAny_of_tree ?_
  show wpAny _ A.in1 (do checkBuiltinCall "bytearray.__new__" ⟨[.type "bytearray"], []⟩; again (.builtin "bytearray.__new__" ⟨[.type "bytearray"], []⟩)) _ _ s
  refine wpAny_bind (wpAny_of_eq FA.newCall0 (wpAny_pure ⟨plainId_quiet FA.plain_new _, codeAny_builtin_stack FA.entry_new rfl fun p st => ?_⟩))
  rw [Around.under_plainId FA.plain_new _]
  have hsub := FA.sub_self
  have hown := owner_new
  obtain ⟨hp, g, d, tk, os⟩ := s
  simp only [hown]
  wp_walk
  exact h
theorem wq_if_false {α : Type} {M : Model} {c : Bool} {a b : Sem α} {Q : α → Shared → Prop} (hc : c = false) (h : wq M A b Q E s) : wq M A (if c = true then a else b) Q E s := by
  subst hc; exact h
theorem wq_if_true {α : Type} {M : Model} {c : Bool} {a b : Sem α} {Q : α → Shared → Prop} (hc : c = true) (h : wq M A a Q E s) : wq M A (if c = true then a else b) Q E s := by
  subst hc; exact h
theorem ba_own_release {a : Addr} {o : Obj} (ho : s.heap.get? a = some o) (hc : o.cls = .type "bytearray") {M : Model} {Q : Bool → Shared → Prop} (h : Q false s) : wpAny M A (Builtin.Bytes.ownRelease (.ref a)) Q E s := by
  have key : ∀ x : String, x = "bytearray" → ∀ Q : Bool → Shared → Prop, Q true s → wpAny M A (isInstance (.ref a) (.type x)) Q E s := fun x hx Q hq => by
    subst hx
    exact wpAny_isInstance (T := "bytearray") ⟨o, ho, hc⟩ FA.sub_self hq
  unfold Builtin.Bytes.ownRelease Builtin.Bytes.slotIsOwn
  refine wpAny_bind (wpAny_bind (wpAny_specialOf (T := "bytearray") ⟨o, ho, hc⟩ FA.look_release ?_))
  dsimp only
  split
  · rename_i hx; exact absurd hx (by decide +kernel)
  · exact key _ (by decide +kernel) _ (wpAny_pure h)
theorem ba_own_buffer {a : Addr} {o : Obj} (ho : s.heap.get? a = some o) (hc : o.cls = .type "bytearray") {M : Model} {Q : Bool → Shared → Prop} (h : Q true s) : wpAny M A (Builtin.Bytes.slotIsOwn (.ref a) "__buffer__") Q E s := by
  have key : ∀ x : String, x = "bytearray" → ∀ Q : Bool → Shared → Prop, Q true s → wpAny M A (isInstance (.ref a) (.type x)) Q E s := fun x hx Q hq => by
    subst hx
    exact wpAny_isInstance (T := "bytearray") ⟨o, ho, hc⟩ FA.sub_self hq
  unfold Builtin.Bytes.slotIsOwn
  refine wpAny_bind (wpAny_specialOf (T := "bytearray") ⟨o, ho, hc⟩ FA.look_buffer ?_)
  dsimp only
  split
  · rename_i hx; exact absurd hx (by decide +kernel)
  · exact key _ (by decide +kernel) _ h
theorem okCode_init (args : Args) : okCode (.builtin "bytearray.__init__" args) := ⟨by decide, by decide⟩
theorem okCode_type_call (args : Args) : okCode (.builtin "type.__call__" args) := ⟨by decide, by decide⟩
theorem ba_init {a : Addr} {R : Result → Shared → Prop} (hb : IsBarr s.heap a #[]) (h : ∀ h', IsBarr h' a #[] → Heap.SameBut a s.heap h' → R (.ok (.ret .none)) { s with heap := h' }) :
    cq (model prog w) A (.call (.builtin "bytearray.__init__") ⟨[.ref a], []⟩) R s := by
  refine x1a4 (id hb) fun o ho hc hdi hd => ?_
  refine cq_call_builtin FA.slot_init.plain (okCode_init _) FA.entry_init (FA.slot_init.check _ _ _ _ _ _ _ _ ⟨o, ho, hc⟩ (FA.args_init _) ?_)
  unfold Builtin.«bytearray.__init__»
  refine wq_bind (wq_of (ba_own_release ho hc ?_))
  refine wq_if_false rfl ?_
  refine wq_bind (wq_of (wpAny_of_eq (a := [none, none, none]) (by kernel_rfl) ?_))
  refine wq_bind (wq_of (wpAny_of_eq (a := ()) rfl ?_))
  refine wq_bind (wq_of (wpAny_of_eq (a := ()) rfl ?_))
  refine wq_bind ?_
  unfold orM
  refine wq_bind (wq_exported ?_)
  refine wq_bind ?_
  unfold Builtin.Bytes.exportsOf
  refine wq_bind (wq_of (wpAny_load ho ?_))
  rw [hd]
  refine wq_pure (wq_pure ?_)
  refine wq_if_false rfl ?_
  refine wq_bind (wq_of (wpAny_write hb (by simp) fun h' hb' hs => ?_))
  exact wq_bind (wq_pure (wq_pure (h h' hb' hs)))
theorem wq_type_call {T : String} {args : List Value} {Q : Value → Shared → Prop} {newId initId : String} (ft : TypeCalled T newId initId)
    (hct : checkTypeCall T ⟨args, []⟩ = pure ())
    (hnew : codeAny (model prog w) A.in1 (.call (.builtin newId) ⟨.type T :: args, []⟩) (wants (fun obj s₁ => s₁.TypeIs obj T ∧ cq (model prog w) A.in1 (.call (.builtin initId) ⟨obj :: args, []⟩) (wants (fun r s₂ => r = .none ∧ Q obj s₂) E) s₁) E) s) :
    wq (model prog w) A (call (.type T) args) Q E s := by
  refine x2a1 (ft.mro) fun c tl hmro => ?_
  have hmade := ft.made
  have hsub := ft.sub
  refine wq_call (cq_of_tree trivial ?_)
  show wq _ _ (callAny (.type T) _) _ _ _
  refine wq_pure ⟨Code.quiet_builtin _ (by decide +kernel), cq_builtin (okCode_type_call _) F.entry_type_call ?_⟩
  rw [Around.under_plain (weight_type_call_type T args []) rfl]
  unfold Builtin.«type.__call__»
  dsimp only
  refine wq_if_false ft.notType ?_
  refine wq_if_false ft.canCreate ?_
  refine wq_bind (wq_of (wpAny_of_eq hct ?_))
  refine wq_bind (wq_of (wpAny_of_eq hmro ?_))
  refine wq_if_false rfl ?_
  refine wq_bind (wq_of (wpAny_of_eq hmade ?_))
  refine wq_bind (wq_pure ?_)
  refine wq_bind (wq_holding (wq_call (cq_mono (cq_of hnew) fun r s₁ hr => ?_)))
  match r, hr with
  | .error e, hr => exact hr
  | .ok (.ret obj), ⟨hT, hc⟩ =>
    refine wq_bind (wq_of (wpAny_isInstance hT hsub ?_))
    refine wq_if_false rfl ?_
    refine wq_bind (wq_holding ?_)
    simp only [callSpecial?]
    refine wq_bind (wq_of (wpAny_specialOf hT ft.init.lookup ?_))
    simp only [ft.init.bind]
    refine wq_holding (wq_bind (wq_pure (wq_bind (wq_call (cq_mono hc fun r₂ s₂ hr₂ => ?_)))))
    match r₂, hr₂ with
    | .error e, hr₂ => exact hr₂
    | .ok (.ret r), ⟨hr₃, hq⟩ =>
      subst hr₃
      exact wq_pure (wq_if_false rfl (wq_pure hq))
theorem take_bytes {id : String} {b : Array UInt8} {t : Tok} : Builtin.Bytes.takeBufferQuiet? id (.bytes b t) 0 = pure (some (b, none)) := by
  unfold Builtin.Bytes.takeBufferQuiet? Builtin.Bytes.takeBuffer?
  rw [KBy.special_eq KBy.look_buffer, KBy.own_buffer]
  have : Builtin.Bytes.buffer? id (.bytes b t) ((0 : Int) == Builtin.Bytes.fullReadOnly) = pure (some b) := KBy.buffer_eq
  rw [pure_bind, this]
  rfl
theorem mut_ba_extend {l m : List Nat} (hsz : l.length + m.length ≤ 16777216) : MutG "bytearray.extend" (.barr l) [.bytes m] (.barr (l ++ m)) := fun X B T s a vals ok hq hB hBl hG hp r rl => by
  cases rl using RepL.cCons with
  | cons r₁ r₂ =>
    cases r₂ using RepL.cNil; cases r₁ using Rep.cBytes
    rename_i c t
    cases r using OwnRep.cBarr with
    | barr b hb =>
      refine wq_call (cq_call_builtin FA.slot_extend.plain (okCode_extend _) FA.entry_extend (FA.slot_extend.check _ _ _ _ _ _ _ _ (by refine x1a3 hb fun o ho hc _ => ?_; (try clear hb); exact ⟨o, ho, hc⟩) (FA.args_extend _ _) ?_))
      unfold Builtin.«bytearray.extend»
      refine wq_bind (wq_of (wpAny_of_eq (a := (.ref a, .bytes c t)) rfl ?_))
      dsimp only
      refine wq_bind (wq_of (wpAny_of_eq (KBy.special_eq KBy.look_buffer) ?_))
      refine wq_if_true rfl ?_
      refine wq_bind (wq_rule ?_)
      refine x1a2 (isBarr_load hb) fun o ho hd => ?_
      have hpay : wpAny X.M (X.A.in1) (Builtin.Bytes.payload (.ref a)) (fun b' s' => b' = b ∧ s' = s) (fun _ _ => False) s := by
        unfold Builtin.Bytes.payload Builtin.Bytes.payload?
        refine wpAny_bind (wpAny_bind (wpAny_load ho ?_))
        rw [hd]
        exact wpAny_pure (wpAny_pure ⟨rfl, rfl⟩)
      refine wq_bind (wq_mono (wq_of hpay) (fun b' s' t_0 => x0a2 t_0 fun e1 e2 => ?_) fun _ _ x => x.elim)
      subst e1 e2
      refine wq_bind (wq_of (wpAny_of_eq take_bytes ?_))
      refine wq_if_true rfl ?_
      rw [bnats_size, bnats_size] at hsz
      have fin : wq X.M X.A.in1 (do Builtin.Bytes.write (.ref a) (· ++ c); ret .none) (fun fin s'' => match fin with
          | .done f => (match f with | .ret v => (∃ T' s₁ h', Le T s' T' s₁ ∧ Heap.SameBut a s₁.heap h' ∧ s'' = { s₁ with heap := h' } ∧ OwnRep X.w B T' s₁.toks h' a (.barr (bnats b' ++ bnats c))) | _ => False) | .again _ => False) (fun _ _ => False) s' := by
        refine wq_bind (wq_of (wpAny_write hb (by simp; omega) fun h' hb' hs => ?_))
        refine wq_pure ⟨T, s', h', .refl _ _, hs, rfl, ?_⟩
        have := OwnRep.barr (W := X.w) (B := B) (T := T) (n := s'.toks) (h := h') (a := a) _ hb'
        rwa [bnats_append] at this
      have fin2 : wq X.M X.A.in1 (if (!c.isEmpty) = true then (do Builtin.Bytes.checkResize (.ref a); Builtin.Bytes.write (.ref a) (· ++ c); ret .none) else (do Builtin.Bytes.write (.ref a) (· ++ c); ret .none)) (fun fin s'' => match fin with
          | .done f => (match f with | .ret v => (∃ T' s₁ h', Le T s' T' s₁ ∧ Heap.SameBut a s₁.heap h' ∧ s'' = { s₁ with heap := h' } ∧ OwnRep X.w B T' s₁.toks h' a (.barr (bnats b' ++ bnats c))) | _ => False) | .again _ => False) (fun _ _ => False) s' := by
        cases c.isEmpty with
        | true => exact wq_if_false rfl fin
        | false => exact wq_if_true rfl (wq_bind (wq_checkResize ho hd fin))
      refine wq_mono fin2 (fun f s'' h => ?_) fun _ _ x => x.elim
      cases f with
      | done f => cases f <;> first | exact h | exact h.elim
      | again c => exact h.elim
theorem ba_new_bytes {a : Addr} {b : Array UInt8} {Q : Value → Shared → Prop} (hb : IsBarr s.heap a b) (hz : b.size ≤ 16777216)
    (hQ : Q (.bytes b s.toks) { s with toks := s.toks + 1 }) :
    codeAny (model prog w) A (.call (.builtin "bytes.__new__") ⟨[.type "bytes", .ref a], []⟩) (wants Q E) s := by
  refine codeAny_of_tree ?_
  show wpAny _ A.in1 (do checkBuiltinCall "bytes.__new__" ⟨[.type "bytes", .ref a], []⟩; again (.builtin "bytes.__new__" ⟨[.type "bytes", .ref a], []⟩)) _ _ s
  refine wpAny_bind (wpAny_of_eq (F.bm_newCall _) (wpAny_pure ⟨plainId_quiet F.bm_plain _, codeAny_builtin F.bm_entry ?_⟩))
  rw [Around.under_plainId F.bm_plain _]
  refine x1a4 (id hb) fun o ho hc hdi hd => ?_
  have hT : s.TypeIs (.ref a) "bytearray" := ⟨o, ho, hc⟩
  unfold Builtin.«bytes.__new__»
  refine wpAny_bind (wpAny_of_eq (a := true) rfl ?_)
  refine bm_if_false rfl ?_
  refine wpAny_bind (wpAny_of_eq F.bm_sub ?_)
  refine bm_if_false rfl ?_
  refine wpAny_bind (wpAny_of_eq (F.bm_bind _) ?_)
  refine wpAny_bind (wpAny_of_eq (a := ()) rfl ?_)
  refine wpAny_bind (wpAny_of_eq (a := ()) rfl ?_)
  refine bm_if_false rfl ?_
  refine wpAny_bind (wpAny_specialOf hT FA.no_bytes ?_)
  refine wpAny_bind (wpAny_bind ?_)
  show wpAny _ _ (load a >>= _) _ _ _
  refine wpAny_bind (wpAny_load ho ?_)
  rw [hd]
  refine wpAny_pure (wpAny_pure ?_)
  refine bm_if_false rfl ?_
  refine wpAny_bind (wpAny_specialOf hT FA.no_idx ?_)
  refine bm_if_true rfl ?_
  first
    | show wpAny _ _ (Builtin.Bytes.buffer? "bytes.__new__" (.ref a) true >>= _) _ _ _
    | (refine wpAny_bind ?_; show wpAny _ _ (Builtin.Bytes.buffer? "bytes.__new__" (.ref a) true >>= _) _ _ _)
  refine wpAny_bind ?_
  unfold Builtin.Bytes.buffer?
  refine wpAny_bind (wpAny_specialOf hT FA.look_buffer ?_)
  refine wpAny_bind (ba_own_buffer ho hc ?_)
  refine bm_if_false rfl ?_
  refine wpAny_bind (wpAny_specialOf hT FA.look_buffer ?_)
  show wpAny _ _ (Builtin.Bytes.ownRelease (.ref a) >>= _) _ _ _
  refine wpAny_bind (ba_own_release ho hc ?_)
  refine bm_if_false rfl ?_
  refine wpAny_bind ?_
  unfold Builtin.Bytes.payload Builtin.Bytes.payload?
  refine wpAny_bind (wpAny_bind (wpAny_load ho ?_))
  rw [hd]
  refine wpAny_pure (wpAny_pure ?_)
  refine wpAny_pure ?_
  dsimp only
  refine wpAny_bind (wpAny_rule ?_)
  refine wpAny_bind (wpAny_mkBytes ?_ (by rw [sizeLine_eq]; exact hz))
  show wpAny _ _ (if (Value.type "bytes" == Value.type "bytes") = true then _ else _) _ _ _
  refine bm_if_true (by decide) ?_
  first
    | exact wpAny_pure hQ
    | exact wpAny_bind (wpAny_pure (wpAny_pure hQ))
theorem call_bytes_ba {a : Addr} {b : Array UInt8} {Q : Value → Shared → Prop} (hb : IsBarr s.heap a b) (hz : b.size ≤ 16777216)
    (hQ : Q (.bytes b s.toks) { s with toks := s.toks + 1 }) : wpAny (model prog w) A (call (.type "bytes") [.ref a]) Q E s := by
  refine callType_codes (Q₁ := fun obj s₁ => s₁.TypeIs obj "bytes" ∧ Q obj s₁) F.bm_called (F.bm_typeCall _) F.entry_object_init
    (ba_new_bytes hb hz ⟨PySem.W.typeIs_bytes _ _ _, hQ⟩) fun obj s₁ h₁ => ?_
  exact ⟨h₁.1, F.args_object_init_2 obj _, object_init_meets F.bm_called.init.lookup F.bm_called.made (by decide) prog w A.in1 _ s₁ ⟨h₁.1, rfl, h₁.2⟩⟩
end
section
variable {X : Cx} {σ : Sto}
theorem EvN.bytearray {p pos : Pos} (hkind : X.env.kindOf "bytearray" = some .globalImplicit) (hg : X.G.mg "bytearray" = none)
    (hcall : autoParam (eval (.Call (.Name "bytearray" p) [] [] pos) X.env = (do callWith pos (← eval (.Name "bytearray" p) X.env) [] (backTo pos (starEach [] X.env)) (backToKw pos (keywordEach [] X.env)))) byRfl) :
    EvN X (.Call (.Name "bytearray" p) [] [] pos) σ (.barr []) := fun T s S => by
  refine wq_Call (S.load_builtin hkind hg (v := .type "bytearray") (by decide +kernel) ?_) hcall
  refine wq_callWith_plain (fun _ => by simp) rfl (wq_evalArgs_none ?_)
  refine wq_type_call FA.called_ba FA.typeCall0 (code_ba_new ⟨⟨_, Heap.get?_push_size _ rfl, rfl⟩, ba_init ⟨_, Heap.get?_push_size _ rfl, rfl, rfl, rfl⟩ fun h' hb hs => ⟨rfl, ?_⟩⟩)
  refine ⟨T, _, rfl, ?_, Nat.le_refl _, OwnRep.barr _ hb⟩
  refine Le.mk' ⟨?_, fun b o e => ⟨o.slots, keepS_re ((hs.2 b (Nat.ne_of_lt (Heap.lt_size e))).trans (Heap.get?_push_of_some _ e))⟩⟩ (Nat.le_refl _)
  have := hs.1
  rw [Heap.size_push] at this
  lia
theorem Ev.bytesOf {x : Str} {a : Addr} {l : List Nat} {p p' pos : Pos} (hx : σ.get x = some ⟨some a, .barr l⟩) (hs : l.length ≤ 16777216) (hkind : X.env.kindOf "bytes" = some .globalImplicit) (hg : X.G.mg "bytes" = none)
    (hd : autoParam ((x == ("__debug__" : Str)) = false) byDec) (hcl : autoParam ((x == ("__classdict__" : Str)) = false) byDec)
    (he : autoParam (starEach [.Name x p'] X.env = [(false, eval (.Name x p') X.env)]) byRfl)
    (hcall : autoParam (eval (.Call (.Name "bytes" p) [.Name x p'] [] pos) X.env = (do callWith pos (← eval (.Name "bytes" p) X.env) [] (backTo pos (starEach [.Name x p'] X.env)) (backToKw pos (keywordEach [] X.env)))) byRfl) :
    Ev X (.Call (.Name "bytes" p) [.Name x p'] [] pos) σ (.bytes l) := fun T s S => by
  refine wq_Call (S.load_builtin hkind hg (v := .type "bytes") (by decide +kernel) ?_) hcall
  refine wq_callWith_plain (fun _ => by simp) (by rw [he]; rfl) ?_
  rw [he]
  refine wq_evalArgs (wq_spliced_cons (S.load_own hx (fun r => ?_) hd hcl))
  refine wq_spliced_nil ?_
  cases r using OwnRep.cBarr with
  | barr b hb =>
    rw [bnats_size] at hs
    exact wq_of (call_bytes_ba hb hs ⟨T, .tok (Nat.le_succ _), .bytes _ _⟩)
omit [Lo] in
noncomputable def AV.ints (l : List Int) : List AV := l.map .int
theorem intsAre_of {B : Addr → Prop} {T : Tx} {n : Nat} {h : Heap} : ∀ {l : List Int} {vs : List Value}, vs.length = l.length →
    (∀ (i : Nat) (v : Value) (x : AV), vs[i]? = some v → (AV.ints l)[i]? = some x → Rep W B T n h v x) → IntsAre vs l
  | [], [], _, _ => .nil
  | x :: l, v :: vs, hl, hi => by
    have := hi 0 v (.int x) rfl rfl
    cases this
    exact .cons _ _ (intsAre_of (by simpa using hl) fun i v x h1 h2 => hi (i + 1) v x (by simpa using h1) (by simpa [AV.ints] using h2))
  | [], _ :: _, hl, _ => by simp at hl
  | _ :: _, [], hl, _ => by simp at hl
end
end Mine
namespace Mine
open PySem PySem.W PyProof.Rows
variable [Lo]
variable {W : World}
theorem Rep.leB' {B B' : Addr → Prop} {T T' : Tx} {s s' : Shared} {v : Value} {x : AV} (r : Rep W B T s.toks s.heap v x) (l : LeB B T s T' s') (hB : ∀ b, B' b → b < s.heap.objs.size → B b) : Rep W B' T' s'.toks s'.heap v x := by
  induction r with
  | none => exact .none
  | bool b => exact .bool b
  | int i t => exact .int i t
  | str x => exact .str (x.le l.toks l.tx)
  | bytes b t => exact .bytes b t
  | txt x t => exact .txt x t
  | tup hb hl hs _ ih => refine x1a3 hl fun o ho hc t_0 => ?_; (try clear hl); refine x1a1 t_0 fun m hd => ?_; (try clear t_0); refine x1a1 (l.ext _ o hb ho) fun sl ho' => ?_; exact .tup (fun q => hb (hB _ q (Heap.lt_size ho))) ⟨_, ho', hc, m, hd⟩ hs ih
  | list hb hl hs _ ih => refine x1a5 hl fun o ho hc hn hsl t_0 => ?_; (try clear hl); refine x1a1 t_0 fun m hd => ?_; (try clear t_0); refine x1a1 (l.ext _ o hb ho) fun sl ho' => ?_; exact .list (fun q => hb (hB _ q (Heap.lt_size ho))) ⟨_, ho', hc, hn, (keepS_ne (by rw [hc]; decide)).trans hsl, m, hd⟩ hs ih
  | dict hb hl hs hk _ ih => refine x0a2 hl fun t_0 ky => ?_; (try clear hl); refine x1a5 t_0 fun o ho hc hn hsl t_1 => ?_; (try clear t_0); refine x1a1 t_1 fun m hd => ?_; (try clear t_1); refine x1a1 (l.ext _ o hb ho) fun sl ho' => ?_; exact .dict (fun q => hb (hB _ q (Heap.lt_size ho))) ⟨⟨_, ho', hc, hn, (keepS_ne (by rw [hc]; decide)).trans hsl, m, hd⟩, ky⟩ hs (fun i e x h1 h2 => (hk i e x h1 h2).le l.toks l.tx) ih
  | exc hb ho hc hdi hd hf => refine x1a1 (l.ext _ _ hb ho) fun sl ho' => ?_; exact .exc (fun q => hb (hB _ q (Heap.lt_size ho))) ho' hc hdi hd ⟨hf.size, hf.start, hf.stop, x1a2 hf.reason fun v h1 h2 => ⟨v, h1, h2.le l.toks l.tx⟩⟩
theorem isLst_leB {B : Addr → Prop} {T T' : Tx} {s s' : Shared} {a : Addr} {items : Array Value} (hl : IsLst s.heap a items) (hb : ¬ B a) (l : LeB B T s T' s') : IsLst s'.heap a items := by
  refine x1a5 hl fun o ho hc hn hsl t_0 => ?_; (try clear hl); refine x1a1 t_0 fun m hd => ?_; (try clear t_0); refine x1a1 (l.ext _ o hb ho) fun sl ho' => ?_
  exact ⟨_, ho', hc, hn, (keepS_ne (by rw [hc]; decide)).trans hsl, m, hd⟩
theorem Shift.sameBut {lo it : Addr} {h h' : Heap} {o : Obj} {vs : Array Value} (hs : Heap.SameBut it h h') (hlo : lo ≤ it) (ho : h.get? it = some o) (hd : o.data = .fields vs) (hc : o.cls ≠ .type "UnicodeDecodeError") : Shift lo h h' :=
  ⟨Nat.le_of_eq hs.1.symm, fun b ob hb e => ⟨ob.slots, keepS_re ((hs.2 b (Nat.ne_of_lt (Nat.lt_of_lt_of_le hb hlo))).trans e)⟩,
   fun b ob e hn => ⟨ob.slots, keepS_re ((hs.2 b (fun q => by subst q; rw [ho] at e; (have e := Option.some.inj e; subst e); exact hn _ hd)).trans e)⟩,
   fun b ob ws e hcl hdw => ⟨ob, ws, (hs.2 b (fun q => by subst q; rw [ho] at e; (have e := Option.some.inj e; subst e); exact hc hcl)).trans e, rfl, rfl, hdw, rfl, fun _ _ => rfl⟩⟩
theorem Shift.but {lo : Addr} {h h' : Heap} {P : Addr → Prop} (hs : h.objs.size ≤ h'.objs.size) (hP : ∀ b, P b → lo ≤ b) (hf : ∀ b o, P b → h.get? b = some o → (∃ vs, o.data = .fields vs) ∧ o.cls ≠ .type "UnicodeDecodeError")
    (hk : ∀ b o, ¬ P b → h.get? b = some o → h'.get? b = some o) : Shift lo h h' :=
  ⟨hs, fun b ob hb e => ⟨ob.slots, keepS_re (hk b ob (fun q => Nat.lt_irrefl _ (Nat.lt_of_lt_of_le hb (hP b q))) e)⟩,
   fun b ob e hn => ⟨ob.slots, keepS_re (hk b ob (fun q => let ⟨⟨vs, hv⟩, _⟩ := hf b ob q e; hn vs hv) e)⟩,
   fun b ob ws e hcl hdw => ⟨ob, ws, hk b ob (fun q => (hf b ob q e).2 hcl) e, rfl, rfl, hdw, rfl, fun _ _ => rfl⟩⟩
omit [Lo] in
noncomputable def ownedTuples : List String := ["enumerate", "zip", "dict_itemiterator", "dict_reverseitemiterator", "odict_iterator", "itertools.zip_longest", "itertools.pairwise"]
theorem letGo_skip {M : Model} {A : Around} {E : Value → Shared → Prop} {s : Shared} {target : Expr} {it : Addr} {v : Value} {o : Obj} {n : String} {Q : Unit → Shared → Prop}
    (ho : s.heap.get? it = some o) (hc : o.cls = .type n) (hn : ownedTuples.contains n = false) (h : Q () s) : wpAny M A (letOwnedTupleGo target (.ref it) v) Q E s := by
  unfold letOwnedTupleGo
  have main : wpAny M A (match ((Value.ref it, v) : Value × Value) with
    | (.ref r, .ref a) => do
      let o ← load r
      match o.cls, o.data with
      | .type n, .fields vs => if ownedTuples.contains n && vs[0]? == some (rawInt a) then do rule "for.unpacks-the-owned-tuple"; updateField r 0 .none else pure ()
      | _, _ => pure ()
    | _ => pure ()) Q E s := by
    cases v with
    | ref a =>
      refine wpAny_bind (wpAny_load ho ?_)
      rw [hc]
      split
      · rename_i heq _; cases heq; rw [hn, Bool.false_and]; exact wpAny_pure h
      · exact wpAny_pure h
    | _ => exact wpAny_pure h
  cases target <;> first | exact main | exact wpAny_pure h
section
variable {X : Cx} {σ : Sto}
theorem rep_new' {T : Tx} {s : Shared} {x : Str} {B : Addr → Prop} {l : List Nat} {h : Heap} (h0 : 0 < s.toks) (hl : x.cps.toList = l) : Rep W B (T.set s.toks x.cps.toList) (s.toks + 1) h (.str x s.toks) (.str l) :=
  .str (hl ▸ strAt_new h0)
theorem Itr.list {B : Addr → Prop} {target : Expr} {a : Addr} {xs : List AV} {T1 : Tx} {s1 : Shared} {items : Array Value} (hh : X.A.handled = none) (hb : ¬ B a) (hl : IsLst s1.heap a items) (hsz : items.size = xs.length)
    (hi : ∀ (i : Nat) (v : Value) (x : AV), items[i]? = some v → xs[i]? = some x → Rep X.w B T1 s1.toks s1.heap v x) {it : Addr} (hit : s1.heap.objs.size ≤ it) :
    Itr X B target (.ref it) xs T1 s1 (fun b => b = it) (fun k h => h.IsListIter it a k) where
  self := fun k s Q E j q => wpAny_pyIter_listiter j q
  own := fun b q => q ▸ hit
  same := fun k h h' ⟨o, ho, hc, hd⟩ k' => by
    refine x1a1 (k' it o rfl ho) fun sl h1 => ?_
    exact ⟨_, h1, hc, hd⟩
  there := fun k h ⟨o, ho, _⟩ b q => q ▸ Heap.lt_size ho
  next := fun k x T s B' hx hj lb hB hI hG hp => by
    have hl' := isLst_leB hl hb lb
    have hk : k < xs.length := by
      rcases Nat.lt_or_ge k xs.length with h | h
      · exact h
      · rw [List.getElem?_eq_none h] at hx; exact ns hx
    have hv : items[k]? = some items[k] := Array.getElem?_eq_getElem (by omega)
    refine x1a3 (id hj) fun o ho hc hd => ?_
    refine wpAny_pyNext_list_item hj hl'.is hv fun h' hit' hs => ⟨_, rfl, ?_⟩
    refine x1a3 (id hit') fun o' ho' hc' hd' => ?_
    refine letGo_skip ho' hc' (by decide) ⟨T, ⟨.sameBut hs hit ho hd (by rw [hc]; simp), Nat.le_refl _, fun _ _ => rfl, rfl, rfl⟩, ?_, hit'⟩
    exact ((hi k _ x hv hx).leB' lb hB).shift (.sameBut hs hit ho hd (by rw [hc]; simp))
  stop := fun T s hj lb hG hp => by
    refine x1a3 (id hj) fun o ho hc hd => ?_
    refine wpAny_grow (wpAny_pyNext_list_end hh hj (isLst_leB hl hb lb).is (by simp [hsz]) fun h' he _ hsz => ⟨rfl, T, ⟨.but hsz (P := fun b => b = it) (fun b q => q ▸ hit) (fun b o' q e => by subst q; rw [ho] at e; (have e := Option.some.inj e; subst e); exact ⟨⟨_, hd⟩, by rw [hc]; simp⟩) fun b o' q e => he b o' q e, Nat.le_refl _, fun _ _ => rfl, rfl, rfl⟩⟩)
theorem EvI.list {iter target : Expr} {xs : List AV} (h : Ev X iter σ (.list xs)) (hq : X.quiet = true) : EvI X iter target σ xs := fun T s S => by
  refine h.then S fun v T₁ s₁ l₁ S₁ r => ?_
  cases r using Rep.cList with
  | @list a items _ hb hl hsz hi =>
    refine wq_of (wpAny_pyIter_list hl.is ?_)
    exact ⟨T₁, s₁, T₁, _, _, l₁, le_push _, Itr.list (S₁.ok.hh hq) hb hl hsz hi (Nat.le_refl _), ⟨_, Heap.get?_push_size _ rfl, rfl, rfl⟩⟩
theorem Itr.bytes {B : Addr → Prop} {target : Expr} {b : Array UInt8} {t : Tok} {T1 : Tx} {s1 : Shared} (hh : X.A.handled = none) {it : Addr} (hit : s1.heap.objs.size ≤ it) :
    Itr X B target (.ref it) ((bnats b).map fun (n : Nat) => AV.int n) T1 s1 (fun b => b = it) (fun k h => KBw.IsBytesIter h it b t k) where
  self := fun k s Q E j q => KBw.pyIter_self j q
  own := fun b q => q ▸ hit
  same := fun k h h' t_0 k' => x1a3 t_0 fun o ho hc hd => by
    refine x1a1 (k' it o rfl ho) fun sl h1 => ?_
    exact ⟨_, h1, hc, hd⟩
  there := fun k h ⟨o, ho, _⟩ b q => q ▸ Heap.lt_size ho
  next := fun k x T s B' hx hj lb hB hI hG hp => by
    have hk : k < b.size := by
      rcases Nat.lt_or_ge k b.size with h | h
      · exact h
      · rw [List.getElem?_eq_none (by simpa [bnats] using h)] at hx; exact ns hx
    have hv : b[k]? = some b[k] := Array.getElem?_eq_getElem hk
    have hx' : x = .int (b[k].toNat : Nat) := by
      simp only [bnats, List.getElem?_map, Array.getElem?_toList, hv, Option.map_some, Option.some.injEq] at hx
      exact hx.symm
    subst hx'
    refine x1a3 (id hj) fun o ho hc hd => ?_
    refine KBw.next_item hj hv fun h' hit' hs => ⟨_, rfl, ?_⟩
    refine x1a3 (id hit') fun o' ho' hc' hd' => ?_
    exact letGo_skip ho' hc' (by decide) ⟨T, ⟨.sameBut hs hit ho hd (by rw [hc]; simp), Nat.le_succ _, fun _ _ => rfl, rfl, rfl⟩, .int _ _, hit'⟩
  stop := fun T s hj lb hG hp => by
    refine x1a3 (id hj) fun o ho hc hd => ?_
    have : ((bnats b).map fun (n : Nat) => AV.int n).length = b.size := by simp [bnats]
    rw [this] at hj
    refine wpAny_grow (KBw.next_end hh hj (by simp) fun h' he _ hsz => ⟨rfl, T, ⟨.but hsz (P := fun b => b = it) (fun b q => q ▸ hit) (fun b o' q e => by subst q; rw [ho] at e; (have e := Option.some.inj e; subst e); exact ⟨⟨_, hd⟩, by rw [hc]; simp⟩) fun b o' q e => he b o' q e, Nat.le_refl _, fun _ _ => rfl, rfl, rfl⟩⟩)
theorem EvI.bytes {iter target : Expr} {l : List Nat} (h : Ev X iter σ (.bytes l)) (hq : X.quiet = true) : EvI X iter target σ (l.map fun (n : Nat) => AV.int n) := fun T s S => by
  refine h.then S fun v T₁ s₁ l₁ S₁ r => ?_
  cases r using Rep.cBytes with
  | bytes b t =>
    refine wq_of (KBw.pyIter_bytes ?_)
    exact ⟨T₁, s₁, T₁, _, _, l₁, le_push _, Itr.bytes (S₁.ok.hh hq) (Nat.le_refl _), ⟨_, Heap.get?_push_size _ rfl, rfl, rfl⟩⟩
theorem strIter_cases (x : Str) : strIterType x = "str_ascii_iterator" ∨ strIterType x = "str_iterator" := by
  unfold strIterType; split
  · exact .inl rfl
  · exact .inr rfl
theorem Itr.str {B : Addr → Prop} {target : Expr} {x : Str} {t : Tok} {T1 : Tx} {s1 : Shared} (hh : X.A.handled = none) {it : Addr} (hit : s1.heap.objs.size ≤ it) :
    Itr X B target (.ref it) (x.cps.toList.map fun n => .str [n]) T1 s1 (fun b => b = it) (fun k h => h.IsStrIter it (strIterType x) x t k) where
  self := fun k s Q E j q => by
    rcases strIter_cases x with c | c
    · rw [c] at j; exact wpAny_pyIter_striter_ascii j q
    · rw [c] at j; exact wpAny_pyIter_striter_wide j q
  own := fun b q => q ▸ hit
  same := fun k h h' t_0 k' => x1a3 t_0 fun o ho hc hd => by
    refine x1a1 (k' it o rfl ho) fun sl h1 => ?_
    exact ⟨_, h1, hc, hd⟩
  there := fun k h ⟨o, ho, _⟩ b q => q ▸ Heap.lt_size ho
  next := fun k y T s B' hx hj lb hB hI hG hp => by
    have hk : k < x.cps.size := by
      rcases Nat.lt_or_ge k x.cps.size with h | h
      · exact h
      · rw [List.getElem?_eq_none (by simpa using h)] at hx; exact ns hx
    have hv : x.cps[k]? = some x.cps[k] := Array.getElem?_eq_getElem hk
    have hy : y = .str [x.cps[k]] := by
      simp only [List.getElem?_map, Array.getElem?_toList, hv, Option.map_some, Option.some.injEq] at hx
      exact hx.symm
    subst hy
    refine x1a3 (id hj) fun o ho hc hd => ?_
    have fin : ∀ h', h'.IsStrIter it (strIterType x) x t (k + 1) → Heap.SameBut it s.heap h' → ∃ v, some (Value.str ⟨#[x.cps[k]]⟩ s.toks) = some v ∧ wpAny X.M X.A (letOwnedTupleGo target (.ref it) v)
        (fun _ s' => ∃ T', Mv s1.heap.objs.size T s T' s' ∧ Rep X.w B' T' s'.toks s'.heap v (.str [x.cps[k]]) ∧ s'.heap.IsStrIter it (strIterType x) x t (k + 1)) (fun _ _ => False) { s with heap := h', toks := s.toks + 1 } := fun h' hit' hs => by
      refine x1a3 (id hit') fun o' ho' hc' hd' => ?_
      refine ⟨_, rfl, letGo_skip ho' hc' (by rcases strIter_cases x with e | e <;> rw [e] <;> decide) ⟨_, ⟨.sameBut hs hit ho hd (by rw [hc]; rcases strIter_cases x with e | e <;> rw [e] <;> simp), Nat.le_succ _, (Le.set (l := _) (Nat.le_succ _)).tx, rfl, rfl⟩, rep_new' hp rfl, hit'⟩⟩
    rcases strIter_cases x with e | e
    · rw [e] at hj fin ⊢; exact wpAny_pyNext_ascii_item hj hv fin
    · rw [e] at hj fin ⊢; exact wpAny_pyNext_wide_item hj hv fin
  stop := fun T s hj lb hG hp => by
    refine x1a3 (id hj) fun o ho hc hd => ?_
    have hlen : (x.cps.toList.map fun n => AV.str [n]).length = x.cps.size := by simp
    rw [hlen] at hj
    have fin : ∀ h', Heap.ExtBut it s.heap h' → s.toks ≤ s.toks → s.heap.objs.size ≤ h'.objs.size → (none : Option Value) = none ∧ ∃ T', Mv s1.heap.objs.size T s T' { s with heap := h' } := fun h' he _ hsz =>
      ⟨rfl, T, ⟨.but hsz (P := fun b => b = it) (fun b q => q ▸ hit) (fun b o' q e => by subst q; rw [ho] at e; (have e := Option.some.inj e; subst e); exact ⟨⟨_, hd⟩, by rw [hc]; rcases strIter_cases x with e | e <;> rw [e] <;> simp⟩) fun b o' q e => he b o' q e, Nat.le_refl _, fun _ _ => rfl, rfl, rfl⟩⟩
    rcases strIter_cases x with e | e <;> rw [e] at hj
    · exact wpAny_grow (wpAny_pyNext_ascii_end hh hj (by simp) fin)
    · exact wpAny_grow (wpAny_pyNext_wide_end hh hj (by simp) fin)
theorem EvI.str {iter target : Expr} {l : List Nat} (h : Ev X iter σ (.str l)) (hq : X.quiet = true) : EvI X iter target σ (l.map fun n => .str [n]) := fun T s S => by
  refine h.then S fun v T₁ s₁ l₁ S₁ r => ?_
  refine x2a3 (rep_str_inv r) fun x t e_0 hx _ => ?_; subst e_0
  subst hx
  refine wq_of (wpAny_pyIter_strU ?_)
  exact ⟨T₁, s₁, T₁, _, _, l₁, le_push _, Itr.str (S₁.ok.hh hq) (Nat.le_refl _), ⟨_, Heap.get?_push_size _ rfl, rfl, rfl⟩⟩
end
section
variable {prog : Program} {w : World} {A : Around} {E : Value → Shared → Prop} {s : Shared}
end
theorem keepS_rec {h : Heap} {b : Addr} {o : Obj} {sl : Array (Option Value)} (e : h.get? b = some { o with slots := keepS b o sl }) (hne : o.cls ≠ .type "frame") : h.get? b = some o := by rw [e, keepS_ne hne]
section
variable {X : Cx} {σ : Sto}
theorem Itr.enum {B : Addr → Prop} {elts : List Expr} {kx : Nat} {px : Pos} {a : Addr} {xs : List AV} {T1 : Tx} {s1 : Shared} {items : Array Value} (hh : X.A.handled = none) (hb : ¬ B a) (hl : IsLst s1.heap a items) (hsz : items.size = xs.length)
    (hi : ∀ (i : Nat) (v : Value) (x : AV), items[i]? = some v → xs[i]? = some x → Rep X.w B T1 s1.toks s1.heap v x) {e it : Addr} (hit : s1.heap.objs.size ≤ it) (he : s1.heap.objs.size ≤ e) (hei : e ≠ it) :
    Itr X B (.Tuple elts kx px) (.ref e) ((List.range xs.length).zipWith (fun (i : Nat) x => AV.tup [.int i, x]) xs) T1 s1 (fun b => b = e ∨ b = it) (fun k h => (∃ old, IsEnum h e it k old) ∧ h.IsListIter it a k) where
  self := fun k s Q E j q => by refine x0a2 j fun t_0 _ => ?_; (try clear j); refine x1a1 t_0 fun old j => ?_; (try clear t_0); exact wpAny_pyIter_enum j q
  own := fun b q => by rcases q with rfl | rfl <;> assumption
  same := fun k h h' ⟨⟨old, ho⟩, o, h1, hc, hd⟩ k' => by
    refine x1a1 (k' e _ (.inl rfl) ho) fun sl h2 => ?_
    refine x1a1 (k' it _ (.inr rfl) h1) fun sl' h3 => ?_
    exact ⟨⟨old, keepS_rec h2 (by simp)⟩, _, h3, hc, hd⟩
  there := fun k h ⟨⟨old, ho⟩, o, h1, _⟩ b q => by rcases q with rfl | rfl; exact Heap.lt_size ho; exact Heap.lt_size h1
  next := fun k x T s B' hx hj lb hB hI hG hp => by
    have hl' := isLst_leB hl hb lb
    refine x0a2 hj fun t_0 hji => ?_; (try clear hj); refine x1a1 t_0 fun old hje => ?_; (try clear t_0)
    have hk : k < xs.length := by
      rcases Nat.lt_or_ge k xs.length with h | h
      · exact h
      · rw [List.getElem?_eq_none (by simpa using h)] at hx; exact ns hx
    have hv : items[k]? = some items[k] := Array.getElem?_eq_getElem (by omega)
    have hx' : xs[k]? = some xs[k] := List.getElem?_eq_getElem hk
    have hxe : x = .tup [.int k, xs[k]] := by
      rw [List.getElem?_zipWith, List.getElem?_range hk, hx'] at hx
      exact (Option.some.inj hx).symm
    subst hxe
    refine x1a3 (id hji) fun o ho hc hd => ?_
    refine wpAny_pyNext_enum_item hje hji hl'.is hv hei fun h₁ ho₁ hi₁ ht₁ hsz₁ hk₁ => ⟨_, rfl, ?_⟩
    refine wpAny_letOwnedTupleGo_enum ho₁ fun h₂ ho₂ hs₂ => ?_
    have hel : e < s.heap.objs.size := Heap.lt_size hje
    have hsh : Shift s1.heap.objs.size s.heap h₂ := by
      refine .but (P := fun b => b = e ∨ b = it) ?_ (fun b q => by rcases q with rfl | rfl <;> assumption) (fun b o' q e' => ?_) fun b o' q e' => (hs₂.2 b (fun q' => q (.inl q'))).trans (hk₁ b o' (fun q' => q (.inl q')) (fun q' => q (.inr q')) e')
      · rw [show h₂.objs.size = h₁.objs.size from hs₂.1, hsz₁]; omega
      · rcases q with rfl | rfl
        · rw [hje] at e'; (have e' := Option.some.inj e'; subst e'); exact ⟨⟨_, rfl⟩, by simp⟩
        · rw [ho] at e'; (have e' := Option.some.inj e'; subst e'); exact ⟨⟨_, hd⟩, by rw [hc]; simp⟩
    refine ⟨T, ⟨hsh, Nat.le_succ _, fun _ _ => rfl, rfl, rfl⟩, .tup (fun q => Nat.lt_irrefl _ (hI _ q).1) ⟨_, (hs₂.2 _ (Nat.ne_of_gt hel)).trans ht₁, rfl, _, rfl⟩ rfl fun i v y h1 h2 => ?_, ⟨_, ho₂⟩, hi₁.extBut hs₂.extBut (Ne.symm hei)⟩
    match i with
    | 0 => simp at h1 h2; subst h1 h2; exact .int _ _
    | 1 =>
      simp at h1 h2; subst h1 h2
      exact (((hi k _ _ hv hx').leB' lb hB).shift hsh).mono (Nat.le_succ _) (fun _ _ => rfl) (.refl _) fun _ q => .inl q
    | i + 2 => simp at h2
  stop := fun T s hj lb hG hp => by
    have hlen : ((List.range xs.length).zipWith (fun (i : Nat) x => AV.tup [.int i, x]) xs).length = xs.length := by simp
    rw [hlen] at hj
    refine x0a2 hj fun t_0 hji => ?_; (try clear hj); refine x1a1 t_0 fun old hje => ?_; (try clear t_0)
    refine x1a3 (id hji) fun o ho hc hd => ?_
    exact wpAny_grow (wpAny_pyNext_enum_end hh hje hji (isLst_leB hl hb lb).is (by simp [hsz]) fun h' he' _ hsz' => ⟨rfl, T, ⟨.but hsz' (P := fun b => b = it) (fun b q => q ▸ hit) (fun b o' q e => by subst q; rw [ho] at e; (have e := Option.some.inj e; subst e); exact ⟨⟨_, hd⟩, by rw [hc]; simp⟩) fun b o' q e => he' b o' q e, Nat.le_refl _, fun _ _ => rfl, rfl, rfl⟩⟩)
theorem EvI.enum {p pos : Pos} {e : Expr} {elts : List Expr} {kx : Nat} {px : Pos} {xs : List AV} (h : Ev X e σ (.list xs)) (hq : X.quiet = true) (hkind : X.env.kindOf "enumerate" = some .globalImplicit) (hg : X.G.mg "enumerate" = none)
    (he : autoParam (starEach [e] X.env = [(false, eval e X.env)]) byRfl) (hst : autoParam ((backTo pos (starEach [e] X.env)).any (·.1) = false) byRfl)
    (hcall : autoParam (eval (.Call (.Name "enumerate" p) [e] [] pos) X.env = (do callWith pos (← eval (.Name "enumerate" p) X.env) [] (backTo pos (starEach [e] X.env)) (backToKw pos (keywordEach [] X.env)))) byRfl) :
    EvI X (.Call (.Name "enumerate" p) [e] [] pos) (.Tuple elts kx px) σ ((List.range xs.length).zipWith (fun (i : Nat) x => AV.tup [.int i, x]) xs) := fun T s S => by
  refine wq_Call (S.load_builtin hkind hg (v := .type "enumerate") (by decide +kernel) ?_) hcall
  refine wq_callWith_plain (fun _ => by simp) hst ?_
  have hargs := EvL.cons h EvL.nil he
  unfold EvL at hargs
  rw [he] at hargs ⊢
  refine wq_evalArgs (wq_mono (hargs T s S pos) (fun vs s' t_0 => x1a2 t_0 fun T' l rl => ?_) fun _ _ x => x.elim)
  have S' := S.le_mono l
  cases rl using RepL.cCons with
  | cons r₁ r₂ =>
    cases r₂ using RepL.cNil
    cases r₁ using Rep.cList with
    | @list a items _ hb hl hsz hi =>
      obtain ⟨n, hrec⟩ := hl.rec
      refine wq_of (call_enumerate_1 hrec fun h' he' hi' hsz' hk' => ?_)
      refine wq_of (wpAny_pyIter_enum he' ?_)
      exact ⟨T', s', T', _, _, l, .mk' (.keeps (by (clear hsz; lia)) hk') (Nat.le_refl _), Itr.enum (S'.ok.hh hq) hb hl hsz hi (Nat.le_refl _) (Nat.le_succ _) (Nat.succ_ne_self _), ⟨_, he'⟩, hi'⟩
end
end Mine
namespace Mine
open PySem PySem.W PyProof.Rows
variable [Lo]
variable {W : World}
omit [Lo] in
noncomputable def Sto.updL : Sto → List Str → List AV → Sto
  | σ, x :: xs, v :: vs => (σ.upd x v).updL xs vs
  | σ, _, _ => σ
omit [Lo] in
inductive NamesT (X : Cx) : List Expr → List Str → Prop where
  | nil : NamesT X [] []
  | cons {x : Str} {p : Pos} {es : List Expr} {xs : List Str} : storable X x → NamesT X es xs → NamesT X (.Name x p :: es) (x :: xs)
omit [Lo] in
inductive StorL (X : Cx) : List Str → Prop where
  | nil : StorL X []
  | cons {x : Str} {xs : List Str} : storable X x → StorL X xs → StorL X (x :: xs)
section
variable {X : Cx} {σ : Sto}
theorem NamesT.len {es : List Expr} {xs : List Str} (h : NamesT X es xs) : (assignEach es X.env).length = xs.length ∧ (assignEach es X.env).findIdx? (·.1) = none := by
  induction h with
  | nil => exact ⟨rfl, rfl⟩
  | cons hk h ih =>
    refine ⟨congrArg Nat.succ ih.1, ?_⟩
    show List.findIdx? _ ((false, _) :: assignEach _ X.env) = none
    rw [List.findIdx?_cons]
    simp [ih.2]
theorem stores {xs : List Str} : ∀ {fs : List (Value → Sem Unit)} {vs : List AV} {ws : List Value} {σ : Sto} {T : Tx} {s : Shared}, StorL X xs → fs.length = xs.length → xs.length = vs.length →
    (∀ (i : Nat) (f : Value → Sem Unit) (x : Str), fs[i]? = some f → xs[i]? = some x → ∀ w (Q : Unit → Shared → Prop) (E : Value → Shared → Prop) s, wpAny X.M X.A (storeName X.env x w) Q E s → wpAny X.M X.A (f w) Q E s) →
    St X σ T s → RepL X.w (X.ban σ) T s.toks s.heap ws vs →
    wpAny X.M X.A (assignInOrder fs ws) (fun _ s' => ∃ T', Nx X σ T s (σ.updL xs vs) T' s') (fun _ _ => False) s := by
  induction xs with
  | nil =>
    intro fs vs ws σ T s _ hf hv _ S _
    cases fs with
    | nil => exact wpAny_pure ⟨T, .refl S⟩
    | cons => simp at hf
  | cons x xs ih =>
    intro fs vs ws σ T s hs hf hv hfx S r
    cases hs with
    | cons hk hs =>
      cases r with
      | nil => simp at hv
      | cons r₁ r₂ =>
        rename_i w v ws vs
        cases fs with
        | nil => simp at hf
        | cons f fs =>
          show wpAny X.M X.A (do holding ws (f w); assignInOrder fs ws) _ _ s
          refine wpAny_bind (wpAny_holding (hfx 0 f x rfl rfl w _ _ _ (StB.store S hk r₁ fun s' S' lb => ?_)))
          have r₂' : RepL X.w (X.ban (σ.upd x v)) T s'.toks s'.heap ws vs := by
            clear ih hv hf hfx
            induction r₂ with
            | nil => exact .nil
            | cons h _ ih => exact .cons ((h.leB lb fun _ q => q).sub fun _ q => Cx.ban_upd q) ih
          refine wpAny_mono (ih hs (by simpa using hf) (by simpa using hv) (fun i f x h1 h2 => hfx (i + 1) f x (by simpa using h1) (by simpa using h2)) S' r₂') (fun _ s'' t_0 => x1a1 t_0 fun T'' n => ⟨T'', ?_⟩) fun _ _ x => x
          exact Nx.trans ⟨S', lb, fun b _ q => Cx.ban_upd q⟩ n
theorem NamesT.stor {es : List Expr} {xs : List Str} (h : NamesT X es xs) : StorL X xs := by
  induction h with
  | nil => exact .nil
  | cons hk _ ih => exact .cons hk ih
theorem NamesT.fs {es : List Expr} {xs : List Str} (h : NamesT X es xs) : ∀ (i : Nat) (f : Value → Sem Unit) (x : Str), ((assignEach es X.env).map (·.2))[i]? = some f → xs[i]? = some x →
    ∀ w (Q : Unit → Shared → Prop) (E : Value → Shared → Prop) s, wpAny X.M X.A (storeName X.env x w) Q E s → wpAny X.M X.A (f w) Q E s := by
  induction h with
  | nil => intro i f x h; exact ns (α := Value → Sem Unit) h
  | @cons y p es xs hk _ ih =>
    intro i f x h1 h2 w Q E s hw
    cases i with
    | zero =>
      have e1 : assign (.Name y p) X.env = f := by
        have h1' : some (assign (.Name y p) X.env) = some f := h1
        exact Option.some.inj h1'
      simp at h2; subst h2
      rw [← e1]
      exact assign_Name hw
    | succ i => exact ih i f x h1 (by simpa using h2) w Q E s hw
theorem unpackT {T : Tx} {s : Shared} {w : Value} {vs : List AV} {n : Nat} (S : St X σ T s) (hq : X.quiet = true) (r : Rep X.w (X.ban σ) T s.toks s.heap w (.tup vs)) (hn : n = vs.length) {Q : List Value → Shared → Prop} {E : Value → Shared → Prop}
    (h : ∀ ws s', Le T s T s' → St X σ T s' → RepL X.w (X.ban σ) T s'.toks s'.heap ws vs → Q ws s') : wpAny X.M X.A (unpackItems w n none) Q E s := by
  cases r using Rep.cTup with
  | @tup a items _ hb hl hsz hi =>
    subst hn
    rw [← hsz]
    refine wpAny_grow (wpAny_unpackItems_tuple (S.ok.hh hq) hl fun h' he htk hsz' => ?_)
    have l : Le T s T { s with heap := h' } := .mk' (.keeps hsz' fun b o e => he b o (Nat.ne_of_lt (Heap.lt_size e)) e) (Nat.le_refl _)
    exact h _ _ l (S.le_mono l) (RepL.le (RepL.of (by simpa using hsz) fun i v x h1 h2 => hi i v x (by simpa using h1) h2) l)
theorem Binds.tuple {es : List Expr} {k : Nat} {pos : Pos} {xs : List Str} {vs : List AV} (h : NamesT X es xs) (hq : X.quiet = true) (hl : autoParam (xs.length = vs.length) byRfl) : Binds X (.Tuple es k pos) (.tup vs) σ (σ.updL xs vs) := fun T s w S r => by
  show wq X.M X.A (do standAt pos; unpack w (assignEach es X.env)) _ _ s
  refine wq_bind (wq_standAt (wq_of ?_))
  unfold unpack
  rw [h.len.1, h.len.2]
  refine wpAny_bind (wpAny_holding (unpackT S hq r hl fun ws s' l S' r' => ?_))
  refine wpAny_mono (stores h.stor (by simpa using h.len.1) hl h.fs S' r') (fun _ s'' t_0 => x1a1 t_0 fun T'' n => ⟨T'', (Nx.of_le S l).trans n⟩) fun _ _ x => x
theorem Ex.assignTX {Q : Post} {es : List Expr} {k : Nat} {tpos pos : Pos} {e : Expr} {rest : List Stmt} {xs : List Str} {vs : List AV} {r : Except XV AV} (h : EvX X e σ r) (hn : NamesT X es xs) (hq : X.quiet = true)
    (k' : match r with | .ok v => v = .tup vs ∧ xs.length = vs.length ∧ Ex X rest (σ.updL xs vs) Q | .error z => Q (.exc z) σ)
    (hs : autoParam (swapsWithSole [.Tuple es k tpos] e pos.line X.env = pure false) byRfl)
    (hw : autoParam (swappedStores [.Tuple es k tpos] e X.env = pure none) byRfl) : Ex X (.Assign [.Tuple es k tpos] e pos :: rest) σ Q :=
  .cons fun T s S => by
    rw [exec_Assign]
    refine wq_bind (wq_standAt ?_)
    rw [hs]
    refine wq_bind (wq_pure ?_)
    rw [if_neg (by decide)]
    refine wq_bind (wq_mono (h T s S) (fun v s' t_0 => x2a3 t_0 fun T' av e l rv => ?_) fun v s' t_0 => x3a4 t_0 fun T' z a e ha l ea => ?_)
    · subst e
      refine x0a3 k' fun hv hl kk => ?_; (try clear k')
      subst hv
      rw [hw]
      refine wq_bind (wq_pure ?_)
      show wq X.M X.A (do assignAll v [PySem.assign (.Tuple es k tpos) X.env]; pure Flow.next) _ _ s'
      refine wq_bind (wq_mono (Binds.tuple hn hq hl T' s' v (S.le_mono l) rv) (fun _ s'' t_0 => x1a1 t_0 fun T'' n => wq_pure ?_) fun _ _ x => x.elim)
      exact ⟨T'', .next, _, (Nx.of_le S l).trans n, rfl, kk⟩
    · subst e; exact ⟨T', z, σ, a, ha, .of_le S l, ea, k'⟩
theorem Ex.assignT {Q : Post} {es : List Expr} {k : Nat} {tpos pos : Pos} {e : Expr} {rest : List Stmt} {xs : List Str} {vs : List AV} (h : Ev X e σ (.tup vs)) (hn : NamesT X es xs) (hq : X.quiet = true) (k' : Ex X rest (σ.updL xs vs) Q) (hl : autoParam (xs.length = vs.length) byRfl)
    (hs : autoParam (swapsWithSole [.Tuple es k tpos] e pos.line X.env = pure false) byRfl)
    (hw : autoParam (swappedStores [.Tuple es k tpos] e X.env = pure none) byRfl) : Ex X (.Assign [.Tuple es k tpos] e pos :: rest) σ Q := .assignTX h.x hn hq ⟨rfl, hl, k'⟩ hs hw
theorem Ex.assignS {Q : Post} {es : List Expr} {k : Nat} {tpos pos : Pos} {e : Expr} {rest : List Stmt} {xs : List Str} {vs : List AV} (h : Ev X e σ (.tup vs)) (hn : StorL X xs.reverse) (hq : X.quiet = true) (k' : Ex X rest (σ.updL xs.reverse vs.reverse) Q) (hl : autoParam (xs.length = vs.length) byRfl)
    (hs : autoParam (swapsWithSole [.Tuple es k tpos] e pos.line X.env = pure false) byRfl)
    (hw : autoParam (swappedStores [.Tuple es k tpos] e X.env = pure (some xs)) byRfl) : Ex X (.Assign [.Tuple es k tpos] e pos :: rest) σ Q :=
  .cons fun T s S => by
    rw [exec_Assign]
    refine wq_bind (wq_standAt ?_)
    rw [hs]
    refine wq_bind (wq_pure ?_)
    rw [if_neg (by decide)]
    refine wq_bind (h.then S fun v T' s' l S' rv => ?_)
    rw [hw]
    refine wq_bind (wq_pure ?_)
    show wq X.M X.A (do rule "assign.swapped-stores"; let items ← unpackItems v xs.length none; assignInOrder (xs.reverse.map fun n => bindName X.env n) items.reverse; pure Flow.next) _ _ s'
    refine wq_bind (wq_rule (wq_bind (wq_of (unpackT S' hq rv hl fun ws s'' l' S'' r' => ?_))))
    have rr : RepL X.w (X.ban σ) T' s''.toks s''.heap ws.reverse vs.reverse := by
      clear hw hs k' hn h hl rv
      induction r' with
      | nil => exact .nil
      | cons h _ ih =>
        rw [List.reverse_cons, List.reverse_cons]
        exact RepL.append ih (.cons h .nil)
    refine wq_bind (wq_mono (wq_of (stores hn (by simp) (by simpa using hl) (fun i f x h1 h2 w Q E s hw => ?_) S'' rr)) (fun _ s₃ t_0 => x1a1 t_0 fun T₃ n => wq_pure ⟨T₃, .next, _, (Nx.of_le S (l.trans l')).trans n, rfl, k'⟩) fun _ _ x => x.elim)
    rw [List.getElem?_map, h2] at h1
    (have h1 := Option.some.inj h1; subst h1)
    exact wpAny_bindName hw
end
end Mine
namespace Mine
open PySem PySem.W PyProof.Rows
variable [Lo]
variable {W : World}
theorem IsLst.update {h : Heap} {a : Addr} {items : Array Value} (x : IsLst h a items) (f : Array Value → Array Value) : IsLst (h.update a (Obj.mapSeq f)) a (f items) := by
  refine x1a1 (x.rec) fun n hn => ?_
  exact ⟨_, IsL.update (n := n) hn f, rfl, rfl, rfl, _, rfl⟩
theorem RepL.but {B : Addr → Prop} {T : Tx} {n : Nat} {h h' : Heap} {vs : List Value} {xs : List AV} (r : RepL W B T n h vs xs) (he : ∀ b o, ¬ B b → h.get? b = some o → h'.get? b = some o) : RepL W B T n h' vs xs := by
  induction r with
  | nil => exact .nil
  | cons h _ ih => exact .cons (h.but he) ih
theorem RepL.take {B : Addr → Prop} {T : Tx} {n : Nat} {h : Heap} {vs : List Value} {xs : List AV} (r : RepL W B T n h vs xs) (k : Nat) : RepL W B T n h (vs.take k) (xs.take k) := by
  induction r generalizing k with
  | nil => simp; exact .nil
  | cons h _ ih =>
    cases k with
    | zero => exact .nil
    | succ k => exact .cons h (ih k)
theorem RepL.drop {B : Addr → Prop} {T : Tx} {n : Nat} {h : Heap} {vs : List Value} {xs : List AV} (r : RepL W B T n h vs xs) (k : Nat) : RepL W B T n h (vs.drop k) (xs.drop k) := by
  induction r generalizing k with
  | nil => simp; exact .nil
  | cons h t ih =>
    cases k with
    | zero => exact .cons h t
    | succ k => exact ih k
theorem RepL.set {B : Addr → Prop} {T : Tx} {n : Nat} {h : Heap} {vs : List Value} {xs : List AV} (r : RepL W B T n h vs xs) (k : Nat) {v : Value} {x : AV} (hv : Rep W B T n h v x) : RepL W B T n h (vs.set k v) (xs.set k x) := by
  induction r generalizing k with
  | nil => simp; exact .nil
  | cons h t ih =>
    cases k with
    | zero => exact .cons hv t
    | succ k => exact .cons h (ih k)
theorem OwnRep.lst {B : Addr → Prop} {T : Tx} {n : Nat} {h : Heap} {a : Addr} {l : List AV} (r : OwnRep W B T n h a (.list l)) : ∃ items : Array Value, IsLst h a items ∧ RepL W B T n h items.toList l := by
  cases r with
  | @list items _ hl hs hi => exact ⟨items, hl, RepL.of (by simpa using hs) fun i v x h1 h2 => hi i v x (by simpa using h1) h2⟩
theorem OwnRep.ofLst {B : Addr → Prop} {T : Tx} {n : Nat} {h : Heap} {a : Addr} {l : List AV} {items : Array Value} (hl : IsLst h a items) (r : RepL W B T n h items.toList l) : OwnRep W B T n h a (.list l) :=
  .list hl (by simpa using r.length) fun i v x h1 h2 => r.at i v x (by simpa using h1) h2
theorem rep_turn {X : Cx} {B : Addr → Prop} {T : Tx} {s : Shared} {a : Addr} {l : List AV} {f : Array Value → Array Value} {items : Array Value} (hB : B a) (hl : IsLst s.heap a items) (r : RepL X.w B T s.toks s.heap (f items).toList l) :
    ∃ T' s₁ h', Le T s T' s₁ ∧ Heap.SameBut a s₁.heap h' ∧ ({ s with heap := s.heap.update a (Obj.mapSeq f) } : Shared) = { s₁ with heap := h' } ∧ OwnRep X.w B T' s₁.toks h' a (.list l) :=
  ⟨T, s, _, .refl _ _, Heap.SameBut.update .., rfl, .ofLst (hl.update f) (r.but fun b o hb e => (Heap.get?_update_other _ _ (by intro q; subst q; exact hb hB)).trans e)⟩
theorem meth_append : Meth "list" "append" "list.append" := ⟨F.plainAttrs_list, F.slot_list_append, F.type_list_append⟩
theorem meth_insert : Meth "list" "insert" "list.insert" := ⟨F.plainAttrs_list, F.slot_list_insert, F.type_list_insert⟩
theorem meth_extend : Meth "list" "extend" "list.extend" := ⟨F.plainAttrs_list, F.slot_list_extend, F.type_list_extend⟩
theorem mut_append {l : List AV} {x : AV} (hsz : l.length ≤ 16777216) : MutG "list.append" (.list l) [x] (.list (l ++ [x])) := fun X B T s a vals ok hq hB hBl hG hp r rl => by
  cases rl using RepL.cCons with
  | cons r₁ r₂ =>
    cases r₂ using RepL.cNil
    rename_i v
    refine x1a2 (r.lst) fun items hl ri => ?_
    refine x1a1 (hl.rec) fun n hrec => ?_
    have hlen : items.size = l.length := by simpa using ri.length
    refine wq_of (call_meets F.slot_list_append ⟨_, hrec, rfl⟩ F.entry_list_append (F.args_list_append_2 _ _) (list_append a items n v (by rw [sizeLine_eq]; (clear hp; lia))) ⟨hrec, ?_⟩)
    refine rep_turn (f := fun xs => xs.push v) hB hl ?_
    simpa using RepL.append ri (.cons r₁ .nil)
omit [Lo] in
noncomputable def insAt {α : Type} (k : Nat) (x : α) (l : List α) : List α := l.take k ++ x :: l.drop k
theorem mut_insert {l : List AV} {i : Int} {x : AV} (h0 : 0 ≤ i) (h1 : i ≤ l.length) (hsz : l.length ≤ 16777216) : MutG "list.insert" (.list l) [.int i, x] (.list (insAt i.toNat x l)) := fun X B T s a vals ok hq hB hBl hG hp r rl => by
  cases rl using RepL.cCons with
  | cons r₀ r₁ =>
    cases r₁ using RepL.cCons with
    | cons r₁ r₂ =>
      cases r₂ using RepL.cNil; cases r₀
      rename_i v t
      refine x1a2 (r.lst) fun items hl ri => ?_
      refine x1a1 (hl.rec) fun n hrec => ?_
      have hlen : items.size = l.length := by simpa using ri.length
      refine wq_of (call_meets F.slot_list_insert ⟨_, hrec, rfl⟩ F.entry_list_insert (F.args_list_insert_3 _ _ _) (AutoSeq1.list_insert_list_int_val_1 a items n i t v (by rw [fitsIndex_of h0 (by (clear hlen hp; lia))]; decide) (by rw [sizeLine_eq]; (clear hp h0; lia))) ⟨hrec, ?_⟩)
      refine rep_turn hB hl ?_
      have hk : ¬ i < 0 := by (clear hlen hp hsz h1; lia)
      have hm : min i.toNat items.size = i.toNat := by (clear hp hsz; lia)
      simp only [hk, if_false, hm]
      have : ((items.extract 0 i.toNat).push v ++ items.extract i.toNat).toList = insAt i.toNat v items.toList := by
        unfold insAt
        simp only [Array.toList_append, Array.toList_push, Array.toList_extract, List.extract_eq_take_drop]
        simp
        exact List.take_of_length_le (by simp)
      rw [this]
      exact RepL.append (ri.take _) (.cons r₁ (ri.drop _))
theorem mut_extend {l m : List AV} (hsz : l.length + m.length ≤ 16777216) : MutG "list.extend" (.list l) [.list m] (.list (l ++ m)) := fun X B T s a vals ok hq hB hBl hG hp r rl => by
  cases rl using RepL.cCons with
  | cons r₁ r₂ =>
    cases r₂ using RepL.cNil
    cases r₁ using Rep.cList with
    | @list b items2 _ hb hl2 hsz2 hi2 =>
      refine x1a2 (r.lst) fun items hl ri => ?_
      refine x1a1 (hl.rec) fun n hrec => ?_
      refine x1a1 (hl2.rec) fun n2 hrec2 => ?_
      have hlen : items.size = l.length := by simpa using ri.length
      refine wq_of (call_meets F.slot_list_extend ⟨_, hrec, rfl⟩ F.entry_list_extend (F.args_list_extend_2 _ _) (AutoSeq1.list_extend_list_list_0 a items n b items2 n2 (by simp [Builtin.List.listTooLong, sizeLine_eq]; omega) (by rw [sizeLine_eq]; omega) (by rw [sizeLine_eq]; omega)) ⟨hrec, hrec2, ?_⟩)
      refine rep_turn (f := fun xs => xs ++ items2) hB hl ?_
      rw [Array.toList_append]
      exact RepL.append ri (RepL.of (by simpa using hsz2) fun i v x h1 h2 => hi2 i v x (by simpa using h1) h2)
noncomputable def SetG (av k x av' : AV) : Prop := ∀ (X : Cx) (B : Addr → Prop) (T : Tx) (s : Shared) (a : Addr) (kv v : Value), X.Ok → B a → (∀ b, B b → b < s.heap.objs.size) → X.G.In s.heap → 0 < s.toks →
  OwnRep X.w B T s.toks s.heap a av → Rep X.w B T s.toks s.heap kv k → Rep X.w B T s.toks s.heap v x →
  wpAny X.M X.A (setItem (.ref a) kv v) (fun _ => PM X B T s a av') noE s
theorem Ex.setitem {X : Cx} {σ : Sto} {Q : Post} {x : Str} {a : Addr} {av av' k y : AV} {p p' pos : Pos} {ie e : Expr} {rest : List Stmt} (hx : σ.get x = some ⟨some a, av⟩) (hk : Ev X ie σ k) (hv : Ev X e σ y) (hm : SetG av k y av') (kk : Ex X rest (σ.updO x a av') Q)
    (hd : autoParam ((x == ("__debug__" : Str)) = false) byDec) (hcl : autoParam ((x == ("__classdict__" : Str)) = false) byDec)
    (hsl : autoParam (∀ v ov iv, (match ie with | .Slice _ _ none _ => [iv, v, ov] | _ => [v, ov, iv]) = ([v, ov, iv] : List Value)) byI3)
    (hs : autoParam (swapsWith e (some (.Subscript (.Name x p) ie p')) pos.line X.env = pure false) byRfl) :
    Ex X (.Assign [.Subscript (.Name x p) ie p'] e pos :: rest) σ Q := .cons fun T s S => by
  rw [exec_Assign_Subscript _ _ _ _ _ hs]
  refine wq_bind (wq_standAt (wq_bind (hv.then S fun v T₁ s₁ l₁ S₁ rv => wq_bind ?_)))
  rw [assign_Subscript]
  refine wq_bind (wq_holding (S₁.load_own hx (fun r => ?_) hd hcl))
  refine wq_bind (wq_holding (hk.then S₁ fun kv T₂ s₂ l₂ S₂ rk => wq_bind (wq_standAt (wq_bind (wq_holding ?_)))))
  have hban : X.ban σ a := .inr (.inr (.inr ⟨x, av, hx⟩))
  refine wq_mono (wq_of (hm X (X.ban σ) T₂ s₂ a kv v S₂.ok hban (fun b q => S₂.ban_lt q) S₂.pg S₂.pos (r.mono l₂.toks l₂.tx l₂.ext fun _ q => .inl q) rk (rv.le l₂))) (fun _ s'' t_0 => x3a4 t_0 fun T₃ s₃ h₃ l₃ hsb e₃ r₃ => ?_) fun _ _ x => x.elim
  subst e₃
  have S₃ := S₂.le_mono l₃
  refine wq_release (wq_pure ?_)
  refine ⟨T₃, .next, _, ⟨S₃.turn hx hsb r₃, ((l₁.trans (l₂.trans l₃)).leB _).trans (LeB.turn (k := s₃.toks) hsb hban (Nat.le_refl _)) fun _ _ q => q, fun b hb q => ?_⟩, rfl, kk⟩
  rcases Cx.ban_updO q with q | q
  · exact q
  · exact q ▸ hban
theorem setItem_lst {prog : Program} {w : World} {A : Around} {E : Value → Shared → Prop} {s : Shared} {l : Addr} {items : Array Value} {k : Int} {t : Tok} {v : Value} {Q : Unit → Shared → Prop} (hl : IsLst s.heap l items)
    (h0 : 0 ≤ k) (hfit : k < 2 ^ 63) (hn : k < items.size)
    (hQ : Q () { s with heap := s.heap.update l (Obj.mapSeq (·.setIfInBounds k.toNat v)) }) :
    wpAny (model prog w) A (setItem (.ref l) (.int k t) v) Q E s := by
  obtain ⟨ne, ho⟩ := hl.rec
  have hi := hl.is
  unfold setItem
  try with_reducible refine wpAny_holding ?_
  first | refine wpAny_bind (wpAny_pure ?_) | skip
  refine wpAny_bind (wpAny_sequenceKey hi.typeIs (by decide) ?_)
  refine wpAny_bind (wpAny_callSpecial?_slot (name := Str.ofString "__setitem__") hi.typeIs slot_list_setitem
    (wpAny_call_entry slot_list_setitem hi.typeIs entry_list_setitem ?_ (args_list_setitem _ _ _)))
  show wpAny _ _ (Builtin.List.listSubscript? (.int k t) >>= _) _ _ s
  refine wpAny_bind (wpAny_listSubscript_int (fitsIndex_of h0 hfit) ?_)
  clear hfit
  obtain ⟨j, rfl⟩ := Int.eq_ofNat_of_zero_le h0
  have hj : j < items.size := by lia
  have hx' : items[j]? = some items[j] := Array.getElem?_eq_getElem hj
  show wpAny _ _ ((seqItemAt l j >>= fun r => pure (r.map (j, ·))) >>= _) _ _ s
  refine wpAny_bind (wpAny_bind (wpAny_seqItemAt ho rfl (wpAny_pure ?_)))
  rw [hx']
  show wpAny _ _ (setSeqItemAt l j v >>= _) _ _ s
  refine wpAny_bind (wpAny_setSeqItemAt ho rfl ?_)
  first
    | exact wpAny_bind (wpAny_pure (wpAny_pure ⟨.none, rfl, wpAny_pure hQ⟩))
    | exact wpAny_pure ⟨.none, rfl, wpAny_pure hQ⟩
theorem set_list {l : List AV} {i : Int} {x : AV} (h0 : 0 ≤ i) (h1 : i < l.length) (hsz : l.length ≤ 16777216) : SetG (.list l) (.int i) x (.list (l.set i.toNat x)) := fun X B T s a kv v ok hB hBl hG hp r rk rv => by
  cases rk
  refine x1a2 (r.lst) fun items hl ri => ?_
  have hlen : items.size = l.length := by simpa using ri.length
  refine setItem_lst hl h0 (by (clear hlen hp; lia)) (by (clear hp; lia)) (rep_turn hB hl ?_)
  rw [Array.toList_setIfInBounds]
  exact ri.set _ rv
omit [Lo] in
inductive RepE (W : World) (B : Addr → Prop) (T : Tx) (n : Nat) (h : Heap) : List DictEntry → List (List Nat × AV) → Prop where
  | nil : RepE W B T n h [] []
  | cons {e : DictEntry} {p : List Nat × AV} {es : List DictEntry} {l : List (List Nat × AV)} : StrAt T n e.key p.1 → Rep W B T n h e.val p.2 → RepE W B T n h es l → RepE W B T n h (e :: es) (p :: l)
theorem RepE.length {B : Addr → Prop} {T : Tx} {n : Nat} {h : Heap} {es : List DictEntry} {l : List (List Nat × AV)} (r : RepE W B T n h es l) : es.length = l.length := by
  induction r with
  | nil => rfl
  | cons _ _ _ ih => simp [ih]
theorem RepE.key {B : Addr → Prop} {T : Tx} {n : Nat} {h : Heap} {es : List DictEntry} {l : List (List Nat × AV)} (r : RepE W B T n h es l) : ∀ (i : Nat) (e : DictEntry) (x : List Nat × AV), es[i]? = some e → l[i]? = some x → StrAt T n e.key x.1 := by
  induction r with
  | nil => intro i e x h; simp at h
  | cons hk hv _ ih =>
    intro i e x h1 h2
    cases i with
    | zero => simp at h1 h2; subst h1 h2; exact hk
    | succ i => exact ih i e x (by simpa using h1) (by simpa using h2)
theorem RepE.val {B : Addr → Prop} {T : Tx} {n : Nat} {h : Heap} {es : List DictEntry} {l : List (List Nat × AV)} (r : RepE W B T n h es l) : ∀ (i : Nat) (e : DictEntry) (x : List Nat × AV), es[i]? = some e → l[i]? = some x → Rep W B T n h e.val x.2 := by
  induction r with
  | nil => intro i e x h; simp at h
  | cons hk hv _ ih =>
    intro i e x h1 h2
    cases i with
    | zero => simp at h1 h2; subst h1 h2; exact hv
    | succ i => exact ih i e x (by simpa using h1) (by simpa using h2)
theorem RepE.mono {B B' : Addr → Prop} {T T' : Tx} {n n' : Nat} {h h' : Heap} {es : List DictEntry} {l : List (List Nat × AV)} (r : RepE W B T n h es l)
    (hn : n ≤ n') (ht : ∀ t, t < n → T' t = T t) (he : ∀ v x, Rep W B T n h v x → Rep W B' T' n' h' v x) : RepE W B' T' n' h' es l := by
  induction r with
  | nil => exact .nil
  | cons h1 h2 _ ih => exact .cons (h1.le hn ht) (he _ _ h2) ih
theorem OwnRep.ofDct {B : Addr → Prop} {T : Tx} {n : Nat} {h : Heap} {a : Addr} {l : List (List Nat × AV)} {es : Array DictEntry} (hl : IsDictAt W h a es) (r : RepE W B T n h es.toList l) : OwnRep W B T n h a (.dict l) :=
  .dict hl (by simpa using r.length) (fun i e x h1 h2 => r.key i e x (by simpa using h1) h2) fun i e x h1 h2 => r.val i e x (by simpa using h1) h2
end Mine
namespace Mine
open PySem PySem.W PyProof.Rows
variable [Lo]
variable {W : World}
omit [Lo] in
noncomputable def putL : List (List Nat × AV) → List Nat → AV → List (List Nat × AV)
  | [], k, x => [(k, x)]
  | p :: l, k, x => if p.1 = k then (k, x) :: l else p :: putL l k x
omit [Lo] in
noncomputable def putE (W : World) (x : Str) (key v : Value) : List DictEntry → List DictEntry
  | [] => [⟨hashStr W x, key, v⟩]
  | e :: es => if Value.isStrOf x e.key = true then { e with val := v } :: es else e :: putE W x key v es
theorem putE_none {x : Str} {key v : Value} : ∀ {es : List DictEntry}, (es.findIdx? fun e => Value.isStrOf x e.key) = none → putE W x key v es = es ++ [⟨hashStr W x, key, v⟩]
  | [], _ => rfl
  | e :: es, h => by
    rw [List.findIdx?_cons] at h
    unfold putE
    cases he : Value.isStrOf x e.key with
    | true => rw [he] at h; simp at h
    | false =>
      rw [he] at h
      simp only [Bool.false_eq_true, if_false, Option.map_eq_none_iff] at h ⊢
      rw [putE_none h]; rfl
theorem putE_some {x : Str} {key v : Value} : ∀ {es : List DictEntry} {i : Nat}, (es.findIdx? fun e => Value.isStrOf x e.key) = some i → putE W x key v es = es.modify i fun e => { e with val := v }
  | [], i, h => by simp at h
  | e :: es, i, h => by
    rw [List.findIdx?_cons] at h
    unfold putE
    cases he : Value.isStrOf x e.key with
    | true =>
      rw [he] at h
      simp only [if_true, Option.some.injEq] at h ⊢
      subst h; rfl
    | false =>
      rw [he] at h
      simp only [Bool.false_eq_true, if_false, Option.map_eq_some_iff] at h ⊢
      refine x1a2 h fun j hj e_0 => ?_; (try clear h); subst e_0
      rw [putE_some hj]; rfl
theorem putE_keys {x : Str} {t : Tok} {v : Value} : ∀ {es : List DictEntry}, (∀ e ∈ es, ∃ x t, e.key = .str x t ∧ e.hash = hashStr W x) →
    (∀ e ∈ putE W x (.str x t) v es, ∃ x t, e.key = .str x t ∧ e.hash = hashStr W x) ∧
    ((putE W x (.str x t) v es).map fun e => strOf e.key) = (es.map fun e => strOf e.key) ∨ (∀ e ∈ putE W x (.str x t) v es, ∃ x t, e.key = .str x t ∧ e.hash = hashStr W x) ∧
    ((putE W x (.str x t) v es).map fun e => strOf e.key) = (es.map fun e => strOf e.key) ++ [x] ∧ x ∉ (es.map fun e => strOf e.key)
  | [], _ => .inr ⟨fun e he => by
      obtain rfl : e = ⟨hashStr W x, .str x t, v⟩ := by simpa [putE] using he
      exact ⟨x, t, rfl, rfl⟩, rfl, by simp⟩
  | e :: es, h => by
    refine x2a2 (h e List.mem_cons_self) fun y u hy hh => ?_
    have ih := putE_keys (x := x) (t := t) (v := v) (es := es) fun e he => h e (List.mem_cons_of_mem _ he)
    unfold putE
    by_cases he : Value.isStrOf x e.key = true
    · rw [if_pos he]
      refine .inl ⟨fun e' he' => ?_, rfl⟩
      rcases List.mem_cons.mp he' with rfl | he'
      · exact ⟨y, u, hy, hh⟩
      · exact h e' (List.mem_cons_of_mem _ he')
    · rw [if_neg he]
      have hxy : x ≠ y := by
        intro q; subst q; rw [hy] at he; simp [Value.isStrOf] at he
      have hs : strOf e.key = y := by rw [hy]; rfl
      rcases ih with ⟨h1, h2⟩ | ⟨h1, h2, h3⟩
      · refine .inl ⟨fun e' he' => ?_, by rw [List.map_cons, List.map_cons, h2]⟩
        rcases List.mem_cons.mp he' with rfl | he'
        · exact ⟨y, u, hy, hh⟩
        · exact h1 e' he'
      · refine .inr ⟨fun e' he' => ?_, by rw [List.map_cons, List.map_cons, h2]; rfl, ?_⟩
        · rcases List.mem_cons.mp he' with rfl | he'
          · exact ⟨y, u, hy, hh⟩
          · exact h1 e' he'
        · rw [List.map_cons, List.mem_cons, hs]
          exact fun q => q.elim hxy h3
theorem keysOk_put {x : Str} {t : Tok} {v : Value} {es es' : Array DictEntry} (k : KeysOk W es) (h : es'.toList = putE W x (.str x t) v es.toList) : KeysOk W es' := by
  have h1 : ∀ e ∈ es.toList, ∃ x t, e.key = .str x t ∧ e.hash = hashStr W x := fun e he => k.1 e (Array.mem_toList_iff.mp he)
  unfold KeysOk
  rw [h]
  rcases putE_keys (x := x) (t := t) (v := v) h1 with ⟨h2, h3⟩ | ⟨h2, h3, h4⟩
  · exact ⟨fun e he => h2 e (h ▸ Array.mem_toList_iff.mpr he), by rw [h3]; exact k.2⟩
  · refine ⟨fun e he => h2 e (h ▸ Array.mem_toList_iff.mpr he), ?_⟩
    rw [h3, List.nodup_append]
    refine ⟨k.2, by simp, fun a ha b hb => ?_⟩
    simp at hb; subst hb
    exact fun q => h4 (q ▸ ha)
theorem repE_put {B : Addr → Prop} {T : Tx} {n : Nat} {h : Heap} {es : List DictEntry} {l : List (List Nat × AV)} (r : RepE W B T n h es l) {x : Str} {t : Tok} {v : Value} {y : AV} (hk : StrAt T n (.str x t) x.cps.toList) (hv : Rep W B T n h v y) :
    RepE W B T n h (putE W x (.str x t) v es) (putL l x.cps.toList y) := by
  induction r with
  | nil => exact .cons hk hv .nil
  | @cons e p es l h1 h2 h3 ih =>
    unfold putE putL
    refine x2a3 (h1.is) fun s u he hs ht => ?_
    by_cases q : s = x
    · subst q
      have h5 : p.1 = s.cps.toList := hs.symm
      rw [if_pos (by rw [he]; simp [Value.isStrOf]), if_pos h5]
      exact .cons (h5 ▸ h1) hv h3
    · have hne : ¬ p.1 = x.cps.toList := fun e => q (cps_inj (hs.trans e))
      rw [if_neg (by rw [he]; simpa [Value.isStrOf] using q), if_neg hne]
      exact .cons h1 h2 ih
section
variable {prog : Program} {w : World} {A : Around} {E : Value → Shared → Prop} {s : Shared}
theorem dictSetHashed_e {d : Addr} {x : Str} {t : Tok} {v : Value} {es : Array DictEntry} {Q : Unit → Shared → Prop} (hl : IsDictAt w s.heap d es) (hsz : es.size ≤ 16777216)
    (hQ : ∀ h' es', IsDictAt w h' d es' → es'.toList = putE w x (.str x t) v es.toList → Heap.SameBut d s.heap h' → Q () { s with heap := h' }) :
    wpAny (model prog w) A (dictSetHashed d (.str x t) (hashStr w x) v) Q E s := by
  refine x0a3 hl fun t_0 hm ky => ?_; (try clear hl); refine x1a5 t_0 fun o ho hc hdi hs t_1 => ?_; (try clear t_0); refine x1a1 t_1 fun ep hdat => ?_; (try clear t_1)
  have hk : KeysOf (strKind prog w) es := fun e he => by
    refine x2a2 (ky.1 e he) fun x t h1 h2 => ?_
    exact ⟨x, by show Value.isStrOf _ _ = true; simp [h1, Value.isStrOf], h2⟩
  have hkey : (strKind prog w).is x (.str x t) = true := by show Value.isStrOf x (.str x t) = true; simp [Value.isStrOf]
  have hex : o.ExactDict := ⟨hc, hdi, hs⟩
  unfold dictSetHashed
  try with_reducible refine wpAny_holding ?_
  refine wpAny_bind (wpAny_dictFind_of (knd := strKind prog w) hkey ho hdat hk ?_)
  have hl0 : (es.findIdx? fun e => (strKind prog w).is x e.key) = es.toList.findIdx? fun e => Value.isStrOf x e.key := by obtain ⟨l⟩ := es; simp; rfl
  cases hi : es.findIdx? fun e => (strKind prog w).is x e.key with
  | some i =>
    rw [hl0] at hi
    have h1 : (es.modify i fun e => { e with val := v }).toList = putE w x (.str x t) v es.toList := by rw [putE_some hi]; simp
    refine wpAny_bind (wpAny_rule (wpAny_bind (wpAny_updateDict ho hdat (wpAny_point (hQ _ (es.modify i fun e => { e with val := v }) ⟨⟨_, Heap.get?_update_self _ ho (Obj.isFreed_of_dict (Obj.data_mapDict hdat _)), ?_, ?_, ?_, ep, Obj.data_mapDict hdat _⟩, hm, keysOk_put ky h1⟩ h1 (Heap.SameBut.update ..))))))
    · exact (hex.mapDict _).1
    · exact (hex.mapDict _).2.1
    · exact (hex.mapDict _).2.2
  | none =>
    rw [hl0] at hi
    have h1 : (es.push ⟨hashStr w x, .str x t, v⟩).toList = putE w x (.str x t) v es.toList := by rw [putE_none hi]; simp
    refine wpAny_bind (wpAny_rule (wpAny_updateDictKeys (hz := by rw [sizeLine_eq]; exact hsz) ho hdat (hQ _ (es.push ⟨hashStr w x, .str x t, v⟩) ⟨⟨_, Heap.get?_update_self _ ho (Obj.isFreed_of_dict (Obj.data_mapDictKeys hdat _)), ?_, ?_, ?_, ep + 1, Obj.data_mapDictKeys hdat _⟩, hm, keysOk_put ky h1⟩ h1 (Heap.SameBut.update ..))))
    · exact (hex.mapDictKeys _).1
    · exact (hex.mapDictKeys _).2.1
    · exact (hex.mapDictKeys _).2.2
theorem dictSet_e {d : Addr} {x : Str} {t : Tok} {v : Value} {es : Array DictEntry} {Q : Unit → Shared → Prop} (hl : IsDictAt w s.heap d es) (hsz : es.size ≤ 16777216)
    (hQ : ∀ h' es', IsDictAt w h' d es' → es'.toList = putE w x (.str x t) v es.toList → Heap.SameBut d s.heap h' → Q () { s with heap := h', toks := s.toks + 1 }) :
    wpAny (model prog w) A (dictSet d (.str x t) v) Q E s := by
  unfold dictSet
  try with_reducible refine wpAny_holding ?_
  refine wpAny_bind (wpAny_pyHash_str ?_)
  exact dictSetHashed_e (s := { s with toks := s.toks + 1 }) hl hsz hQ
end
theorem putL_length (l : List (List Nat × AV)) (k : List Nat) (x : AV) : (putL l k x).length ≤ l.length + 1 := by
  induction l with
  | nil => simp [putL]
  | cons p l ih => unfold putL; split <;> simp; omega
end Mine
namespace Mine
open PySem PySem.W PyProof.Rows
variable [Lo]
variable {W : World}
omit [Lo] in
inductive RepP (W : World) (T : Tx) (n : Nat) (h : Heap) : List (Value × Value) → List (List Nat × AV) → Prop where
  | nil : RepP W T n h [] []
  | cons {k v : Value} {p : List Nat × AV} {vs : List (Value × Value)} {l : List (List Nat × AV)} : StrAt T n k p.1 → Rep W noBan T n h v p.2 → p.2.atom = true → RepP W T n h vs l → RepP W T n h ((k, v) :: vs) (p :: l)
section
variable {X : Cx} {σ : Sto}
noncomputable def EvK (X : Cx) (ps : List (Sem Value × Sem Value)) (σ : Sto) (l : List (List Nat × AV)) : Prop := ∀ T s, St X σ T s →
  wq X.M X.A (evalPairs ps) (fun vs s' => ∃ T', Le T s T' s' ∧ RepP X.w T' s'.toks s'.heap vs l) (fun _ _ => False) s
theorem EvK.nil : EvK X [] σ [] := fun T s S => wq_pure ⟨T, .refl _ _, .nil⟩
theorem EvK.cons {k v : Expr} {pos : Pos} {ps : List (Sem Value × Sem Value)} {a : List Nat} {x : AV} {l : List (List Nat × AV)} (h1 : Ev X k σ (.str a)) (h2 : Ev X v σ x) (h3 : EvK X ps σ l) (hx : autoParam (x.atom = true) byRfl) :
    EvK X ((eval k X.env, do let x ← eval v X.env; standAt pos; pure x) :: ps) σ ((a, x) :: l) := fun T s S => by
  rw [evalPairs]
  refine wq_bind (h1.then S fun kv T₁ s₁ l₁ S₁ r₁ => wq_bind (wq_holding (wq_bind (h2.then S₁ fun v T₂ s₂ l₂ S₂ r₂ => wq_bind (wq_standAt (wq_pure ?_))))))
  refine wq_bind (wq_holding (wq_mono (h3 T₂ s₂ S₂) (fun vs s₃ t_0 => x1a2 t_0 fun T₃ l₃ r₃ => wq_pure ?_) fun _ _ x => x))
  refine x2a2 (rep_str_inv r₁) fun y t e_0 hy => ?_; subst e_0
  exact ⟨T₃, l₁.trans (l₂.trans l₃), .cons (StrAt.le ⟨y, t, rfl, hy⟩ (l₂.trans l₃).toks (l₂.trans l₃).tx) (r₂.unban.le l₃) hx r₃⟩
theorem storeAll_e {prog : Program} {w : World} {A : Around} {E : Value → Shared → Prop} {d : Addr} {B : Addr → Prop} (hB : B d) : ∀ (vs : List (Value × Value)) (l acc : List (List Nat × AV)) (es : Array DictEntry) (T : Tx) (s : Shared) (Q : PUnit → Shared → Prop),
    RepP w T s.toks s.heap vs l → IsDictAt w s.heap d es → RepE w B T s.toks s.heap es.toList acc → acc.length + l.length ≤ 16777216 →
    (∀ h' k es', IsDictAt w h' d es' → RepE w B T k h' es'.toList (l.foldl (fun a p => putL a p.1 p.2) acc) → Heap.SameBut d s.heap h' → s.toks ≤ k → Q PUnit.unit { s with heap := h', toks := k }) →
    wpAny (model prog w) A (forIn vs PUnit.unit fun (x : Value × Value) (_ : PUnit) => (do dictSet d x.1 x.2; pure (ForInStep.yield PUnit.unit) : Sem (ForInStep PUnit))) Q E s
  | [] => fun l acc es T s Q r hm re _ hQ => by
    cases r
    rw [List.forIn_nil]
    exact wpAny_pure (hQ s.heap s.toks es hm re (Heap.SameBut.refl _ _) (Nat.le_refl _))
  | kv :: vs => fun l acc es T s Q r hm re hsz hQ => by
    cases r with
    | @cons k v p _ l hk hv hx r =>
    obtain ⟨a, x⟩ := p
    refine x2a5 (hk.is) fun y t e_0 hy h2 h3 h4 => ?_; subst e_0
    dsimp only at hy; subst hy
    rw [List.length_cons] at hsz
    rw [List.forIn_cons]
    refine wpAny_bind (wpAny_bind (dictSet_e hm (by have := re.length; simp at this; lia) fun h' es' hm' he hs => wpAny_pure ?_))
    have lift : ∀ v z, Rep w B T s.toks s.heap v z → Rep w B T (s.toks + 1) h' v z := fun v z h =>
      (h.but fun b o hb e => (hs.2 b (fun q => hb (q ▸ hB))).trans e).mono (Nat.le_succ _) (fun _ _ => rfl) (.refl _) fun _ q => .inl q
    refine storeAll_e hB vs l (putL acc y.cps.toList x) es' T { s with heap := h', toks := s.toks + 1 } Q ?_ hm' ?_ (by have := putL_length acc y.cps.toList x; lia) fun h2 k2 es2 a1 a2 a3 a4 => hQ h2 k2 es2 a1 a2 (hs.trans a3) (Nat.le_of_succ_le a4)
    · clear hQ hm re hm' he
      induction r with
      | nil => exact .nil
      | cons h1 h2 h3 _ ih =>
        refine .cons (h1.le (Nat.le_succ _) fun _ _ => rfl) ?_ h3 (ih (by simp at hsz; lia))
        have : Rep w B T s.toks s.heap _ _ := h2.reban h3
        exact (lift _ _ this).unban
    · rw [he]
      exact (repE_put re ⟨y, t, rfl, rfl, h2, h3, h4⟩ (hv.reban hx)).mono (Nat.le_succ _) (fun _ _ => rfl) lift
theorem isDictAt_new {h : Heap} {a : Addr} (hn : h.get? a = some { cls := .type "dict", data := .dict #[] }) (ha : 4 ≤ a) : IsDictAt W h a #[] :=
  ⟨⟨_, hn, rfl, rfl, rfl, 0, rfl⟩, by rw [beq_eq_false_iff_ne]; exact Nat.ne_of_gt (Nat.lt_of_lt_of_le (by decide : (1:Nat) < 4) ha), fun e he => by simp at he, by simp⟩
theorem StB.big {B : Addr → Prop} {T : Tx} {s : Shared} (S : StB B X σ T s) : 4 ≤ s.heap.objs.size := Nat.le_trans S.pg.big (Nat.le_trans S.ok.nb S.le.ext.1)
theorem EvN.dict {keys : List (Option Expr)} {values : List Expr} {pos : Pos} {ps : List (Sem Value × Sem Value)} {l : List (List Nat × AV)} (h : EvK X ps σ l)
    (hshape : (evalEachOpt keys X.env).zip ((evalEach values X.env).map fun v => do let x ← v; standAt pos; pure x) = ps.map fun p => (some p.1, p.2)) (h0 : ps ≠ []) (hlen : ps.length ≤ 15) (hl : l.length ≤ 15) :
    EvN X (.Dict keys values pos) σ (.dict (l.foldl (fun a p => putL a p.1 p.2) [])) := fun T s S => by
  rw [arm_eval_Dict, hshape, dictDisplay_pairs ps h0 (by (clear hl; lia))]
  refine wq_bind (wq_standAt (wq_bind ?_))
  unfold subDict
  have S₁ := S.le_mono (le_push (T := T) (s := s) { cls := .type "dict", data := .dict #[] })
  have hd : (s.heap.push { cls := .type "dict", data := .dict #[] }).get? s.heap.objs.size = some { cls := .type "dict", data := .dict #[] } := Heap.get?_push_size _ rfl
  refine wq_bind (wq_of (wpAny_alloc (wq_bind (wq_holding ?_))))
  rw [if_pos hlen]
  refine wq_bind (wq_mono (h T _ S₁) (fun vs s₁ t_0 => x1a2 t_0 fun T₁ l₁ r₁ => ?_) fun _ _ x => x)
  have hd₁ : IsDictAt X.w s₁.heap s.heap.objs.size #[] := isDict_ext (isDictAt_new hd S.big) l₁.ext
  refine wq_holding (wq_bind (wq_of (storeAll_e (B := fun b => X.ban σ b ∨ b = s.heap.objs.size) (.inr rfl) vs l [] #[] T₁ s₁ _ r₁ hd₁ .nil (by simp; (clear hlen; lia)) fun h' k es' a1 a2 a3 a4 => ?_)))
  refine wq_pure (wq_pure (wq_pure ?_))
  refine ⟨T₁, s.heap.objs.size, rfl, ?_, Nat.le_refl _, .ofDct a1 a2⟩
  have l0 := (le_push (T := T) (s := s) { cls := .type "dict", data := .dict #[] }).trans l₁
  refine ⟨⟨Nat.le_trans l0.ext.1 (Nat.le_of_eq a3.1.symm), fun b o e => ?_⟩, Nat.le_trans l0.toks a4, l0.tx, l0.gens, l0.os⟩
  refine x1a1 (l0.ext.2 b o e) fun sl e' => ?_
  exact ⟨sl, (a3.2 b (Nat.ne_of_lt (Heap.lt_size e))).trans e'⟩
end
end Mine
namespace Mine
open PySem PySem.W PyProof.Rows
variable [Lo]
variable {W : World}
theorem strVals_of {B : Addr → Prop} {T : Tx} {n : Nat} {h : Heap} : ∀ {l : List (List Nat)} {vs : List Value}, vs.length = l.length →
    (∀ (i : Nat) (v : Value) (x : AV), vs[i]? = some v → (AV.strs l)[i]? = some x → Rep W B T n h v x) → ∃ q : List (Str × Tok), vs = strValues q ∧ q.map (·.1) = l.map fun x => ⟨x.toArray⟩
  | [], [], _, _ => ⟨[], rfl, rfl⟩
  | x :: l, v :: vs, hl, hi => by
    refine x2a3 (rep_str_inv (hi 0 v (.str x) rfl rfl)) fun y t e_0 hy _ => ?_; subst e_0
    refine x1a2 (strVals_of (l := l) (vs := vs) (by simpa using hl) fun i v x h1 h2 => hi (i + 1) v x (by simpa using h1) (by simpa [AV.strs] using h2)) fun q h1 h2 => ?_
    exact ⟨(y, t) :: q, by rw [h1]; rfl, by rw [List.map_cons, h2, List.map_cons, str_of hy]⟩
  | [], _ :: _, hl, _ => by simp at hl
  | _ :: _, [], hl, _ => by simp at hl
theorem join_flat : ∀ l : List (List Nat), (Str.join ⟨#[]⟩ (l.map fun x => ⟨x.toArray⟩)).cps.toList = l.flatten
  | [] => rfl
  | [x] => by simp [Str.join]
  | x :: y :: r => by
    have ih := join_flat (y :: r)
    show ((⟨x.toArray⟩ : Str) ++ ⟨#[]⟩ ++ Str.join ⟨#[]⟩ ((y :: r).map fun x => ⟨x.toArray⟩)).cps.toList = _
    rw [Str.cps_append, Array.toList_append, ih, Str.cps_append]
    simp
theorem call_join {l : List (List Nat)} (hs : l.flatten.length ≤ 16777216) : CallG (.builtin "str.join") [.str [], .list (AV.strs l)] (.str l.flatten) := fun X B T s vals ok hq hB hG hp r => by
  cases r using RepL.cCons with
  | cons r₁ r₂ =>
    cases r₂ using RepL.cCons with
    | cons r₂ r₃ =>
      cases r₃ using RepL.cNil
      refine x2a3 (rep_str_inv r₁) fun y t e_0 hy _ => ?_; subst e_0
      have := str_of hy
      subst this
      cases r₂ using Rep.cList with
      | @list a items _ hb hl hsz hi =>
        refine x1a2 (strVals_of (l := l) (vs := items.toList) (by simpa [AV.strs] using hsz) fun i v x h1 h2 => hi i v x (by simpa using h1) h2) fun q h1 h2 => ?_
        have hfit : Builtin.Str.tooLong ((q.map (·.1)).toArray.foldl (fun a p => a + p.length + (⟨#[]⟩ : Str).length) 0) = false := by
          rw [h2, StrLaws.joinTotal]
          unfold Builtin.Str.tooLong
          rw [sizeLine_eq, decide_eq_false]
          have : ((l.map fun x => (⟨x.toArray⟩ : Str)).map (·.length)).sum = l.flatten.length := by
            rw [List.map_map, List.length_flatten]
            congr 1
          rw [this]
          have : (⟨#[]⟩ : Str).length = 0 := rfl
          rw [this]; (clear hsz hp; lia)
        refine call_meets F.slot_str_join (typeIs_str _ _ _) F.entry_str_join (F.args_str_join_2 _ _) (meets_str_join_list _ t a q hfit) ⟨by rw [← h1]; simpa using hl.is, ?_⟩
        have hval : (Builtin.Str.glued ⟨#[]⟩ (q.map (·.1))).cps.toList = l.flatten := by
          rw [StrLaws.glued_eq_join, h2]; exact join_flat l
        match q, h1, h2, hval with
        | [], h1, h2, hval => exact post_str hp hval hs
        | [p], h1, h2, hval =>
          show ∃ T', Le T s T' s ∧ Rep X.w B T' s.toks s.heap (.str p.1 p.2) (.str l.flatten)
          have hi0 : items.toList[0]? = some (.str p.1 p.2) := by rw [h1]; rfl
          match l, h2, hi, hval with
          | [x], h2, hi, hval =>
            have := hi 0 _ (.str x) (by simpa using hi0) rfl
            exact ⟨T, .refl _ _, by simpa using this⟩
          | [], h2, hi, hval => simp at h2
          | _ :: _ :: _, h2, hi, hval => simp at h2
        | p :: p' :: q, h1, h2, hval => exact post_str hp hval hs
omit [Lo] in
noncomputable def repl (x y z : List Nat) : List Nat := (Txt.replace ⟨x.toArray⟩ ⟨y.toArray⟩ ⟨z.toArray⟩).cps.toList
theorem call_replace {x y z : List Nat} (hyz : y ≠ z) (hs : x.length + (x.length + 1) * z.length ≤ 16777216) : CallG (.builtin "str.replace") [.str x, .str y, .str z] (.str (repl x y z)) := fun X B T s vals ok hq hB hG hp r => by
  cases r using RepL.cCons with
  | cons r₁ r₂ =>
    cases r₂ using RepL.cCons with
    | cons r₂ r₃ =>
      cases r₃ using RepL.cCons with
      | cons r₃ r₄ =>
        cases r₄ using RepL.cNil
        refine x2a4 (rep_str_inv r₁) fun a t e_0 ha hta _ => ?_; subst e_0
        refine x2a5 (rep_str_inv r₂) fun b u e_0 hb htb hu0 _ => ?_; subst e_0
        refine x2a5 (rep_str_inv r₃) fun c v e_0 hc htc hv0 _ => ?_; subst e_0
        have ea := str_of ha
        have eb := str_of hb
        have ec := str_of hc
        have huv : u ≠ v := fun q => hyz (by rw [← htb, ← htc, q])
        have hbc : (b == c) = false := by
          rw [beq_eq_false_iff_ne]; intro q; exact hyz (by rw [← hb, ← hc, q])
        have hal : a.length = x.length := by subst ha; simp [Str.length]
        have hcl : c.length = z.length := by subst hc; simp [Str.length]
        have hl : Builtin.Str.tooLong (a.length + (Builtin.Str.occurrences a b 0 a.length (a.length + 1)).length * c.length) = false := by
          have h1 := StrLaws.occ_length_le a b 0 a.length (a.length + 1)
          have h2 : (Builtin.Str.occurrences a b 0 a.length (a.length + 1)).length * c.length ≤ (a.length + 1) * c.length := Nat.mul_le_mul_right _ h1
          rw [hal, hcl] at h2
          unfold Builtin.Str.tooLong
          rw [sizeLine_eq]
          rw [hal, hcl]
          exact decide_eq_false (Nat.not_lt.mpr (Nat.le_trans (Nat.add_le_add_left h2 _) hs))
        refine call_gives F.slot_str_replace (typeIs_str _ _ _) F.entry_str_replace (F.args_str_replace_3 _ _ _)
          (gives_str_replace a b c t u v fun _ => ⟨by simp [Nat.ne_of_gt hu0, Nat.ne_of_gt hv0], by simp [huv], hbc, hl⟩) ?_
        have hval : repl x y z = (Txt.replace a b c).cps.toList := by rw [ea, eb, ec]; rfl
        have hb2 : a.length + (a.length + 1) * c.length ≤ 16777216 := by rw [hal, hcl]; exact hs
        unfold Txt.replace at hval
        cases hcs : ((Builtin.Str.occurrences a b 0 a.length (a.length + 1)).isEmpty || (b.length == 0 && c.length == 0))
        · rw [hcs] at hval
          simp only [Bool.false_eq_true, if_false] at hval ⊢
          have hf := fits_replaced b hb2
          rw [sizeLine_eq] at hf
          refine post_str hp hval.symm ?_
          rw [hval]
          simpa [Str.length] using hf
        · rw [hcs] at hval
          simp only [if_true] at hval ⊢
          rw [hval, ha]
          exact ⟨T, .refl _ _, r₁⟩
end Mine
namespace Mine
open PySem PySem.W PyProof.Rows
variable [Lo]
variable {W : World}
namespace FC
set_option maxRecDepth 100000
theorem slot_upper : Slot "bytes" "upper" "bytes.upper" :=
  .of (owner := "bytes") (n := "upper") (by rw [typeLookup_type, builtinLookup_eq_fast]; kernel_rfl) (by decide +kernel) (by decide +kernel) (by decide +kernel)
    (by first | exact .inl (by decide +kernel) | exact .inr (by decide +kernel)) (by rw [isSubtype_type]; kernel_rfl)
theorem type_upper : typeOf (.builtin "bytes.upper") = pure (.type "method_descriptor") := by show builtinType _ = _; rw [builtinType_eq_fast]; kernel_rfl
theorem entry_upper : entryFor table "bytes.upper" = some Builtin.«bytes.upper» := entryFor_of_tree (by kernel_rfl)
theorem args_upper (a : Value) : argsOk "bytes.upper" ⟨[a], []⟩ := by
  unfold argsOk; rw [signature?_of (id := "bytes.upper") (n := ['r', 'e', 'p', 'p', 'u']) (o := ['s', 'e', 't', 'y', 'b']) (by kernel_rfl) FB.owner_bytes]; kernel_rfl
theorem slot_rfind : Slot "bytes" "rfind" "bytes.rfind" :=
  .of (owner := "bytes") (n := "rfind") (by rw [typeLookup_type, builtinLookup_eq_fast]; kernel_rfl) (by decide +kernel) (by decide +kernel) (by decide +kernel)
    (by first | exact .inl (by decide +kernel) | exact .inr (by decide +kernel)) (by rw [isSubtype_type]; kernel_rfl)
theorem type_rfind : typeOf (.builtin "bytes.rfind") = pure (.type "method_descriptor") := by show builtinType _ = _; rw [builtinType_eq_fast]; kernel_rfl
theorem entry_rfind : entryFor table "bytes.rfind" = some Builtin.«bytes.rfind» := entryFor_of_tree (by kernel_rfl)
theorem args_rfind (a b : Value) : argsOk "bytes.rfind" ⟨[a, b], []⟩ := by
  unfold argsOk; rw [signature?_of (id := "bytes.rfind") (n := ['d', 'n', 'i', 'f', 'r']) (o := ['s', 'e', 't', 'y', 'b']) (by kernel_rfl) FB.owner_bytes]; kernel_rfl
theorem meth_upper : Meth "bytes" "upper" "bytes.upper" := ⟨FB.plainAttrs_bytes, slot_upper, type_upper⟩
theorem meth_rfind : Meth "bytes" "rfind" "bytes.rfind" := ⟨FB.plainAttrs_bytes, slot_rfind, type_rfind⟩
theorem meth_encode : Meth "str" "encode" "str.encode" := ⟨F.plainAttrs_str, F.slot_str_encode, F.type_str_encode⟩
theorem meth_join : Meth "str" "join" "str.join" := ⟨F.plainAttrs_str, F.slot_str_join, F.type_str_join⟩
theorem meth_replace : Meth "str" "replace" "str.replace" := ⟨F.plainAttrs_str, F.slot_str_replace, F.type_str_replace⟩
end FC
omit [Lo] in
noncomputable def upL (l : List Nat) : List Nat := l.map fun n => if 97 ≤ n ∧ n ≤ 122 then n - 32 else n
theorem upper_nat (c : UInt8) : (Builtin.Bytes.toUpper c).toNat = if 97 ≤ c.toNat ∧ c.toNat ≤ 122 then c.toNat - 32 else c.toNat := by
  unfold Builtin.Bytes.toUpper Builtin.Bytes.isLower
  by_cases h : 97 ≤ c.toNat ∧ c.toNat ≤ 122
  · have h1 : (decide (97 ≤ c) && decide (c ≤ 122)) = true := by
      simp only [UInt8.le_iff_toNat_le, Bool.and_eq_true, decide_eq_true_eq]; exact h
    rw [if_pos h1, if_pos h]
    refine UInt8.toNat_sub_of_le _ _ ?_
    rw [UInt8.le_iff_toNat_le]
    show 32 ≤ c.toNat
    lia
  · have h1 : ¬ (decide (97 ≤ c) && decide (c ≤ 122)) = true := by
      simp only [UInt8.le_iff_toNat_le, Bool.and_eq_true, decide_eq_true_eq]; exact h
    rw [if_neg h1, if_neg h]
theorem call_upper {l : List Nat} (hs : l.length ≤ 16777216) : CallG (.builtin "bytes.upper") [.bytes l] (.bytes (upL l)) := fun X B T s vals ok hq hB hG hp r => by
  cases r using RepL.cCons with
  | cons r₁ r₂ =>
    cases r₂ using RepL.cNil; cases r₁ using Rep.cBytes
    rename_i b t
    have hval : bnats (b.toList.map Builtin.Bytes.toUpper).toArray = upL (bnats b) := by
      unfold bnats upL
      simp only [List.map_map]
      exact List.map_congr_left fun c _ => upper_nat c
    refine call_gives FC.slot_upper (PySem.W.typeIs_bytes _ _ _) FC.entry_upper (FC.args_upper _) (m := .bytes (b.toList.map Builtin.Bytes.toUpper).toArray) (.of_wp fun M A E s Q hq => ?_) ?_
    · show wpAny M A (do ret (← mkBytes (b.toList.map Builtin.Bytes.toUpper).toArray)) _ E s
      exact wpAny_bind (wpAny_mkBytes (wpAny_pure ⟨_, rfl, hq.2⟩) hq.1)
    · rw [← hval]
      refine ⟨?_, T, .tok (Nat.le_succ _), .bytes _ _⟩
      rw [sizeLine_eq]
      simpa [bnats] using hs
omit [Lo] in
noncomputable def lastOf (l : List Nat) (c : Nat) : Int := match (List.range l.length).reverse.find? fun i => l[i]? == some c with
  | some i => i
  | none => -1
theorem extract_one (b : Array UInt8) (c : UInt8) (i : Nat) (hi : i < b.size) : (b.extract i (i + (#[c] : Array UInt8).size) == #[c]) = (b[i]? == some c) := by
  have : b.extract i (i + (#[c] : Array UInt8).size) = #[b[i]] := by
    apply Array.ext'
    simp only [Array.toList_extract, List.extract_eq_take_drop]
    have : i + (#[c] : Array UInt8).size - i = 1 := by simp
    rw [this, List.drop_eq_getElem_cons (by simpa using hi)]
    simp
  rw [this, Array.getElem?_eq_getElem hi]
  rw [Bool.eq_iff_iff, beq_iff_eq, beq_iff_eq]
  constructor
  · intro h; simpa using h
  · intro h; simpa using h
theorem find_congr {α : Type} {f g : α → Bool} : ∀ {l : List α}, (∀ i ∈ l, f i = g i) → l.find? f = l.find? g
  | [], _ => rfl
  | a :: l, h => by
    rw [List.find?_cons, List.find?_cons, h a List.mem_cons_self, find_congr fun i hi => h i (List.mem_cons_of_mem _ hi)]
theorem rep_bytes_inv {B : Addr → Prop} {T : Tx} {n : Nat} {h : Heap} {v : Value} {l : List Nat} (r : Rep W B T n h v (.bytes l)) : ∃ b t, v = .bytes b t ∧ bnats b = l := by
  generalize hy : AV.bytes l = y at r
  cases r with
  | bytes b t => cases hy; exact ⟨b, t, rfl, rfl⟩
  | _ => cases hy
theorem rfind_last (b : Array UInt8) (c : UInt8) (h1 : ¬ ((b.size : Int) - 0 < 1)) : (match Builtin.Bytes.rfind? b #[c] 0 b.size with | some i => (i : Int) | none => -1) = lastOf (bnats b) c.toNat := by
  unfold Builtin.Bytes.rfind? lastOf
  have e : b.size + 1 - (0 + (#[c] : Array UInt8).size) = (bnats b).length := by simp [bnats]
  rw [e]
  have e2 : (List.range (bnats b).length).map (· + 0) = List.range (bnats b).length := by simp
  rw [e2]
  have key : ((List.range (bnats b).length).reverse.find? fun i => b.extract i (i + (#[c] : Array UInt8).size) == #[c]) = (List.range (bnats b).length).reverse.find? fun i => (bnats b)[i]? == some c.toNat := by
    refine find_congr fun i hi => ?_
    have hi' : i < b.size := by
      rw [List.mem_reverse, List.mem_range] at hi
      simpa [bnats] using hi
    rw [extract_one b c i hi', Array.getElem?_eq_getElem hi']
    have : (bnats b)[i]? = some b[i].toNat := by simp [bnats, Array.getElem?_eq_getElem hi']
    rw [this, Bool.eq_iff_iff, beq_iff_eq, beq_iff_eq]
    constructor
    · intro h; (have h := Option.some.inj h; subst h); rfl
    · intro h
      have := Option.some.inj h
      rw [UInt8.toNat_inj.mp this]
  rw [key]
theorem wpAny_ret_mkInt' {M : Model} {A : Around} {E : Value → Shared → Prop} {s : Shared} {Q : Value → Shared → Prop} {i : Int} (hq : (Made.int i).post Q s) : wpAny M A (retInt i) (fun fin s' => ∃ v, fin = .done (.ret v) ∧ Q v s') E s := by
  unfold retInt
  exact wpAny_bind (wpAny_mkInt (wpAny_pure ⟨_, rfl, hq⟩))
theorem call_rfind {l : List Nat} {c : UInt8} : CallG (.builtin "bytes.rfind") [.bytes l, .bytes [c.toNat]] (.int (lastOf l c.toNat)) := fun X B T s vals ok hq hB hG hp r => by
  cases r using RepL.cCons with
  | cons r₁ r₂ =>
    cases r₂ using RepL.cCons with
    | cons r₂ r₃ =>
      cases r₃ using RepL.cNil
      refine x2a2 (rep_bytes_inv r₁) fun b t e_0 hb => ?_; subst e_0
      refine x2a2 (rep_bytes_inv r₂) fun d u e_0 hd => ?_; subst e_0
      have hd' : d = #[c] := by
        apply Array.ext'
        have : d.toList.map UInt8.toNat = [c].map UInt8.toNat := hd
        simpa using (List.map_inj_right fun x y h => UInt8.toNat_inj.mp h).mp this
      subst hd' hb
      refine call_gives FC.slot_rfind (PySem.W.typeIs_bytes _ _ _) FC.entry_rfind (FC.args_rfind _ _) (m := .int (lastOf (bnats b) c.toNat)) (.of_wp fun M A E s Q hq => ?_) (yl_int (Nat.le_succ _))
      unfold Builtin.«bytes.rfind» Builtin.Bytes.searchM Builtin.Bytes.searchArgs
      refine wpAny_bind (wpAny_bind (wpAny_of_eq (a := (.bytes b t, [.bytes #[c] u])) (by rfl) ?_))
      refine wpAny_bind (wpAny_of_eq (a := none) rfl (wpAny_bind (wpAny_of_eq (a := none) rfl ?_)))
      refine wpAny_bind (wpAny_of_eq (show Builtin.Bytes.buffer? _ (.bytes #[c] u) = pure (some #[c]) from KBy.buffer_eq) ?_)
      refine wpAny_bind (wpAny_pure (wpAny_bind (wpAny_of_eq (a := b) rfl ?_)))
      have hw : Builtin.Bytes.window b.size none none = ((0 : Int), (b.size : Int)) := by
        unfold Builtin.Bytes.window
        simp only [Option.getD_none]
        have h2 : ¬ ((b.size : Int) < 0) := by (clear hp; lia)
        simp [h2]
      rw [hw]
      refine wpAny_pure ?_
      have h1 : (#[c] : Array UInt8).size = 1 := rfl
      simp only [h1, Int.sub_zero]
      by_cases hs : (b.size : Int) < ((1 : Nat) : Int)
      · rw [if_pos hs]
        have h0 : b = #[] := by
          have : b.size = 0 := by (clear h1 hp; lia)
          exact Array.eq_empty_of_size_eq_zero this
        have e : lastOf (bnats b) c.toNat = -1 := by subst h0; rfl
        rw [e] at hq
        show wpAny M A (do rule _; retInt (-1)) _ E s
        exact wpAny_bind (wpAny_rule (wpAny_ret_mkInt' hq))
      · rw [if_neg hs]
        have e := rfind_last b c (by simp; (clear h1 hp; lia))
        show wpAny M A (match Builtin.Bytes.rfind? b #[c] (0 : Int).toNat (b.size : Int).toNat with | some i => retInt i | none => _) _ E s
        have e1 : (0 : Int).toNat = 0 := rfl
        have e2 : (b.size : Int).toNat = b.size := Int.toNat_natCast _
        rw [e1, e2]
        rw [← e] at hq
        cases hr : Builtin.Bytes.rfind? b #[c] 0 b.size with
        | some i => rw [hr] at hq; exact wpAny_ret_mkInt' hq
        | none => rw [hr] at hq; exact wpAny_bind (wpAny_rule (wpAny_ret_mkInt' hq))
end Mine
namespace Mine
open PySem PySem.W PyProof.Rows
variable [Lo]
variable {W : World}
open Builtin._codecs in
theorem encodeRoad_ascii (id : String) (self : Value) (x : Str) (errors : Option Str) : encodeRoad id self x (Str.ofString "ascii") errors = (do mkBytes (← encodeNarrow id asciiCodec errors self x)) := by
  first | rfl | (unfold encodeRoad; rfl) | (unfold encodeRoad; simp only []; rfl) | decide
omit [Lo] in
noncomputable def bytesOf (x : Str) : Array UInt8 := x.cps.map (·.toUInt8)
theorem loop_two {α : Type} {n : Nat} {s0 s1 : α} {f : Nat → α → Sem (ForInStep α)} (h0 : ∀ a, 0 < n → f a s0 = pure (.yield s1)) (h1 : ∀ a, f a s1 = pure (.done s1)) (h2 : n = 0 → s0 = s1) :
    forIn (List.range' 0 n) s0 f = pure s1 := by
  match n, h0, h2 with
  | 0, _, h2 => simp [h2]
  | 1, h0, _ => simp [List.range', h0 _ (Nat.succ_pos _)]
  | n + 2, h0, _ =>
    rw [List.range'_succ, List.range'_succ, List.forIn_cons, h0 _ (Nat.succ_pos _), pure_bind]
    show forIn ((0 + 1) :: List.range' (0 + 1 + 1) n) s1 f = pure s1
    rw [List.forIn_cons, h1]
    rfl
theorem foldl_ascii (l : List Nat) (acc : Array UInt8) : l.foldl (fun acc y => acc ++ (Builtin._codecs.asciiCodec.bytesOf y).toArray) acc = acc ++ (l.map (·.toUInt8)).toArray := by
  induction l generalizing acc with
  | nil => simp
  | cons c l ih =>
    rw [List.foldl_cons, ih]
    have : (Builtin._codecs.asciiCodec.bytesOf c) = [c.toUInt8] := rfl
    rw [this]
    simp
open Builtin._codecs in
theorem narrow_ascii (id : String) (self : Value) (x : Str) (hx : ∀ c ∈ x.cps, c < 128) (hs : x.cps.size ≤ 16777216) : encodeNarrow id asciiCodec none self x = pure (bytesOf x) := by
  unfold encodeNarrow
  simp only [Std.Legacy.Range.forIn_eq_forIn_range', Std.Legacy.Range.size, Nat.sub_zero, Nat.add_sub_cancel, Nat.div_one]
  rw [loop_two (s1 := (x.length, bytesOf x, ({} : Faults)))]
  · rfl
  · intro a hn
    have h1 : ¬ ((#[] : Array UInt8).size > sizeLine) := by simp
    have hsz : x.cps.size = x.length := rfl
    have h2 : x.cps[0]? = some (x.cps[0]'(by rw [hsz]; exact hn)) := Array.getElem?_eq_getElem _
    have hb : ∀ c ∈ x.cps, asciiCodec.bad c = false := fun c hc => decide_eq_false (Nat.not_le.mpr (hx c hc))
    have h3 : (!asciiCodec.bad (x.cps[0]'(by rw [hsz]; exact hn))) = true := by rw [hb _ (Array.getElem_mem _)]; rfl
    have h4 : Array.findIdx? asciiCodec.bad x.cps = none := by
      rw [Array.findIdx?_eq_none_iff]; exact hb
    rw [if_neg h1]
    simp only [h2, h3, if_true]
    have h5 : x.cps.extract 0 = x.cps := by simp
    simp only [Array.extract_size, h5, h4, Option.getD_none, Nat.zero_add]
    have h6 : Array.foldl (fun acc y => acc ++ (asciiCodec.bytesOf y).toArray) #[] x.cps = bytesOf x := by
      rw [← Array.foldl_toList, foldl_ascii]
      unfold bytesOf
      apply Array.ext'
      simp
    rw [h6]
    rfl
  · intro a
    have h1 : ¬ ((bytesOf x).size > sizeLine) := by
      rw [sizeLine_eq]; simp [bytesOf]; exact hs
    have h2 : x.cps[x.length]? = none := by simp [Str.length]
    rw [if_neg h1]
    simp only [h2]
  · intro h
    have : x.cps = #[] := Array.eq_empty_of_size_eq_zero h
    unfold bytesOf
    rw [this, h]; simp
theorem bytesOf_nats {x : Str} {l : List Nat} (hx : x.cps.toList = l) (h : ∀ c ∈ l, c < 128) : bnats (bytesOf x) = l := by
  subst hx
  unfold bnats bytesOf
  rw [Array.toList_map, List.map_map]
  have : ∀ l : List Nat, (∀ c ∈ l, c < 128) → l.map (UInt8.toNat ∘ fun x => x.toUInt8) = l := by
    intro l hl
    induction l with
    | nil => rfl
    | cons c l ih =>
      rw [List.map_cons, ih fun c hc => hl c (List.mem_cons_of_mem _ hc)]
      have := hl c List.mem_cons_self
      simp [Nat.toUInt8, Nat.mod_eq_of_lt (show c < 256 by lia)]
  exact this _ h
theorem call_encode {l : List Nat} (h : ∀ c ∈ l, c < 128) (hs : l.length ≤ 16777216) : CallG (.builtin "str.encode") [.str l, .str [97, 115, 99, 105, 105]] (.bytes l) := fun X B T s vals ok hq hB hG hp r => by
  cases r using RepL.cCons with
  | cons r₁ r₂ =>
    cases r₂ using RepL.cCons with
    | cons r₂ r₃ =>
      cases r₃ using RepL.cNil
      refine x2a3 (rep_str_inv r₁) fun x t e_0 hx _ => ?_; subst e_0
      refine x2a3 (rep_str_inv r₂) fun y u e_0 hy _ => ?_; subst e_0
      have hy' : y = Str.ofString "ascii" := cps_inj hy
      subst hy'
      refine call_gives F.slot_str_encode (typeIs_str _ _ _) F.entry_str_encode (F.args_str_encode_2 _ _) (m := .bytes (bytesOf x)) (.of_wp fun M A E s Q hq => ?_) ?_
      · unfold Builtin.«str.encode»
        refine wpAny_bind (wpAny_of_eq (a := (.str x t, x, [.str (Str.ofString "ascii") u])) rfl ?_)
        refine wpAny_bind (wpAny_of_eq (a := [some (.str (Str.ofString "ascii") u), none]) (by kernel_rfl) ?_)
        refine wpAny_bind (wpAny_of_eq (a := some (Str.ofString "ascii")) (by kernel_rfl) ?_)
        refine wpAny_bind (wpAny_of_eq (a := none) rfl ?_)
        rw [show (some (Str.ofString "ascii")).getD (Str.ofString "utf-8") = Str.ofString "ascii" from rfl, encodeRoad_ascii, narrow_ascii _ _ _ (fun c hc => h c (hx ▸ Array.mem_toList_iff.mpr hc)) (by subst hx; simpa using hs)]
        refine wpAny_bind (wpAny_bind (wpAny_pure (wpAny_mkBytes (wpAny_pure ⟨_, rfl, hq.2⟩) hq.1)))
      · have hb := bytesOf_nats hx h
        rw [← hb]
        refine ⟨?_, T, .tok (Nat.le_succ _), .bytes _ _⟩
        rw [sizeLine_eq, ← bnats_size, hb]
        exact hs
end Mine
namespace Mine
open PySem PySem.W PyProof.Rows
variable [Lo]
variable {W : World}
namespace FU
set_option maxRecDepth 100000
theorem notType : (Value.type "UnicodeDecodeError" == Value.type "type") = false := by decide +kernel
theorem canNew : (((Manifest.find? "UnicodeDecodeError").bind (·.mro.findSome? fun (t : String) => (Manifest.find? t).bind fun b => if b.noNew then some true else if b.attrs.any (·.1 == "__new__") then some false else none)).getD false) = false := by decide +kernel
theorem typeCall (rest : List Value) : checkTypeCall "UnicodeDecodeError" ⟨rest, []⟩ = pure () := by kernel_rfl
theorem mroFast : (fastBuiltinMro "UnicodeDecodeError").map (·.isEmpty) = some false := by kernel_rfl
theorem mro : ∃ l, mroOf (.type "UnicodeDecodeError") = pure l ∧ l.isEmpty = false := by
  have h := mroFast
  rw [mroOf_type]
  cases hm : fastBuiltinMro "UnicodeDecodeError" with
  | none => rw [hm] at h; cases h
  | some l => rw [hm] at h; exact ⟨l, rfl, by simpa using h⟩
theorem madeBy : Bind.madeBy (.type "UnicodeDecodeError") = pure (some "UnicodeDecodeError.__new__") := by kernel_rfl
theorem newCheck (rest : List Value) : checkBuiltinCall "UnicodeDecodeError.__new__" ⟨.type "UnicodeDecodeError" :: rest, []⟩ = pure () := by kernel_rfl
theorem newEntry : entryFor table "UnicodeDecodeError.__new__" = some Builtin.«BaseException.__new__» := entryFor_alias (id' := "BaseException.__new__") (by kernel_rfl) (by first | rfl | (unfold String.splitOn; simp +decide [String.splitOnAux])) (by decide +kernel) (by kernel_rfl)
theorem newPlain : plainId "UnicodeDecodeError.__new__" = true := by decide +kernel
theorem newEnds : ("UnicodeDecodeError.__new__" : String).endsWith ".__new__" = true := by decide +kernel
theorem subOwner : isSubtype (.type "UnicodeDecodeError") (.type (("UnicodeDecodeError.__new__" : String).dropRight 8)) = pure true := by rw [isSubtype_type]; kernel_rfl
theorem madeHere : Bind.madeHere "BaseException.__new__" (.type "UnicodeDecodeError") = pure () := by kernel_rfl
theorem notAttr : isSubtype (.type "UnicodeDecodeError") (.type "AttributeError") = pure false := by rw [isSubtype_type]; kernel_rfl
theorem notName : isSubtype (.type "UnicodeDecodeError") (.type "NameError") = pure false := by rw [isSubtype_type]; kernel_rfl
theorem self : isSubtype (.type "UnicodeDecodeError") (.type "UnicodeDecodeError") = pure true := by rw [isSubtype_type]; kernel_rfl
theorem base : isSubtype (.type "UnicodeDecodeError") (.type "BaseException") = pure true := by rw [isSubtype_type]; kernel_rfl
theorem owner : Manifest.owners.lookup (String.ofList ['r', 'o', 'r', 'r', 'E', 'e', 'd', 'o', 'c', 'e', 'D', 'e', 'd', 'o', 'c', 'i', 'n', 'U'].reverse) = some Manifest.sig_UnicodeDecodeError := by kernel_rfl
theorem slot_init : Slot "UnicodeDecodeError" "__init__" "UnicodeDecodeError.__init__" :=
  .of (owner := "UnicodeDecodeError") (n := "__init__") (by rw [typeLookup_type, builtinLookup_eq_fast]; kernel_rfl) (by decide +kernel) (by decide +kernel) (by decide +kernel)
    (by first | exact .inl (by decide +kernel) | exact .inr (by decide +kernel)) (by rw [isSubtype_type]; kernel_rfl)
theorem entry_init : entryFor table "UnicodeDecodeError.__init__" = some Builtin.«UnicodeDecodeError.__init__» := entryFor_of_tree (by kernel_rfl)
theorem args_init (a b c d e f : Value) : argsOk "UnicodeDecodeError.__init__" ⟨[a, b, c, d, e, f], []⟩ := by
  unfold argsOk; rw [signature?_of (id := "UnicodeDecodeError.__init__") (n := ['_', '_', 't', 'i', 'n', 'i', '_', '_']) (o := ['r', 'o', 'r', 'r', 'E', 'e', 'd', 'o', 'c', 'e', 'D', 'e', 'd', 'o', 'c', 'i', 'n', 'U']) (by kernel_rfl) owner]; kernel_rfl
end FU
theorem new_ude {prog : Program} {w : World} {A : Around} {E : Value → Shared → Prop} {s : Shared} {rest : List Value} {Q : Value → Shared → Prop}
    (h : Q (.ref (s.heap.push { cls := .type "tuple", data := .seq rest.toArray }).objs.size) { s with heap := (s.heap.push { cls := .type "tuple", data := .seq rest.toArray }).push { cls := .type "UnicodeDecodeError", data := .fields #[.ref s.heap.objs.size, .none, .none, .none, .bool false, .none] } }) (hrest : rest.length ≤ sizeLine) :
    wpAny (model prog w) A (call (.builtin "UnicodeDecodeError.__new__") (.type "UnicodeDecodeError" :: rest)) Q E s := by
  refine PyProof.Rows.call_builtin_at FU.newPlain FU.newEntry (FU.newCheck rest) ?_
  unfold Builtin.«BaseException.__new__»
  refine PyProof.Rows.wpAt_bind (PyProof.Rows.wpAt_owner rfl FU.newEnds (PyProof.Rows.wpAt_of_any ?_))
  dsimp only
  refine wpAny_bind (m := isType _) (wpAny_of_eq (a := true) rfl ?_)
  simp only [Bool.not_true, Bool.false_eq_true, if_false]
  refine wpAny_bind (wpAny_of_eq FU.subOwner ?_)
  simp only [Bool.not_true, Bool.false_eq_true, if_false]
  refine wpAny_bind (wpAny_of_eq FU.madeHere ?_)
  refine wpAny_bind (wpAny_of_eq (a := 0) ?own ?_)
  case own =>
    show (do
      if ← isSubtype (.type "UnicodeDecodeError") (.type "AttributeError") then return 2
      if ← isSubtype (.type "UnicodeDecodeError") (.type "NameError") then return 1
      return 0 : Sem Nat) = pure 0
    simp only [FU.notAttr, FU.notName, pure_bind, Bool.false_eq_true, if_false]
  unfold newTuple
  refine wpAny_bind (wpAny_newObj_type (wpAny_bind (wpAny_newObj_type (wpAny_pure ⟨_, rfl, ?_⟩) (by size_fits))) (by show rest.toArray.size ≤ sizeLine; rw [List.size_toArray]; exact hrest))
  first
    | exact h
    | simpa using h
open Builtin.UnicodeEncodeError in
omit [Lo] in
noncomputable def mArr (m : Members) : Array Value := #[m.encoding, m.object, rawInt m.start, rawInt m.stop, m.reason]
omit [Lo] in
noncomputable def IsX (h : Heap) (e : Addr) (vs : Array Value) : Prop := ∃ o, h.get? e = some o ∧ o.cls = .type "UnicodeDecodeError" ∧ o.dict = none ∧ o.data = .fields vs
section
variable {M : Model} {A : Around} {E : Value → Shared → Prop} {s : Shared} {e : Addr} {vs : Array Value}
open Builtin.UnicodeEncodeError
theorem isX_update (x : IsX s.heap e vs) (f : Array Value → Array Value) : IsX (s.heap.update e (Obj.mapFields f)) e (f vs) := by
  refine x1a4 x fun o ho hc hd hdat => ?_; (try clear x)
  refine ⟨_, Heap.get?_update_self _ ho (Obj.isFreed_of_fields (Obj.data_mapFields hdat _)), by rw [Obj.cls_mapFields]; exact hc, ?_, Obj.data_mapFields hdat _⟩
  obtain ⟨c0, d0, dt0, sl0⟩ := o; dsimp only at hdat hd; subst hdat; exact hd
theorem setM {m : Members} {Q : Unit → Shared → Prop} (x : IsX s.heap e vs) (h6 : 6 ≤ vs.size) (h : ∀ h', IsX h' e (vs.extract 0 6 ++ mArr m) → Heap.SameBut e s.heap h' → Q () { s with heap := h' }) : wpAny M A (setMembers (.ref e) m) Q E s := by
  have hx := isX_update x fun vs => vs.extract 0 6 ++ mArr m
  refine x1a4 x fun o ho hc hd hdat => ?_; (try clear x)
  unfold setMembers
  exact wpAny_updateFields ho hdat (h _ hx (Heap.SameBut.update ..)) (by simp [mArr, sizeLine_eq]; lia)
theorem getM {m : Members} {b : Array Value} {Q : Members → Shared → Prop} (x : IsX s.heap e (b ++ mArr m)) (hb : b.size = 6) (h : Q m s) : wpAny M A (members (.ref e)) Q E s := by
  refine x1a4 x fun o ho hc hd hdat => ?_; (try clear x)
  unfold members
  refine wpAny_bind (wpAny_fieldsOf ho hdat ?_)
  have : ((b ++ mArr m).extract 6).toList = (mArr m).toList := by
    rw [← hb]; simp
  rw [this]
  exact wpAny_pure h
theorem setM0 {m : Members} {Q : Unit → Shared → Prop} (x : IsX s.heap e vs) (h6 : vs.size = 6) (h : ∀ h', IsX h' e (vs ++ mArr m) → Heap.SameBut e s.heap h' → Q () { s with heap := h' }) : wpAny M A (setMembers (.ref e) m) Q E s :=
  setM x (by omega) fun h' x' hs => h h' (by have : vs.extract 0 6 = vs := by rw [← h6]; simp
                                             rwa [this] at x') hs
theorem setM1 {m m' : Members} {b : Array Value} {Q : Unit → Shared → Prop} (x : IsX s.heap e (b ++ mArr m')) (hb : b.size = 6) (h : ∀ h', IsX h' e (b ++ mArr m) → Heap.SameBut e s.heap h' → Q () { s with heap := h' }) : wpAny M A (setMembers (.ref e) m) Q E s :=
  setM x (by simp [hb]) fun h' x' hs => h h' (by have : (b ++ mArr m').extract 0 6 = b := by rw [← hb]; simp
                                                 rwa [this] at x') hs
theorem setF {i : Nat} {v : Value} {Q : Unit → Shared → Prop} (x : IsX s.heap e vs) (hi : i < vs.size) (h : ∀ h', IsX h' e (vs.setIfInBounds i v) → Heap.SameBut e s.heap h' → Q () { s with heap := h' }) : wpAny M A (setField (.ref e) i v) Q E s := by
  have hx := isX_update x fun vs => vs.setIfInBounds i v
  refine x1a4 x fun o ho hc hd hdat => ?_; (try clear x)
  exact wpAny_setField ho hdat hi (h _ hx (Heap.SameBut.update ..))
theorem getM0 {Q : Members → Shared → Prop} (x : IsX s.heap e vs) (hb : vs.size = 6) (h : Q {} s) : wpAny M A (members (.ref e)) Q E s := by
  refine x1a4 x fun o ho hc hd hdat => ?_; (try clear x)
  unfold members
  refine wpAny_bind (wpAny_fieldsOf ho hdat ?_)
  have : (vs.extract 6).toList = [] := by simp [hb]
  rw [this]
  exact wpAny_pure h
end
section
variable {prog : Program} {w : World} {A : Around} {E : Value → Shared → Prop} {s : Shared}
open Builtin.UnicodeEncodeError
omit [Lo] in
noncomputable def udeVs (tup : Value) (enc obj : Value) (i j : Int) (rea : Value) : Array Value := #[tup, .none, .none, .none, .bool false, .none, enc, obj, rawInt i, rawInt j, rea]
theorem init_ude {e t0 : Addr} {en re : Str} {te tr ti tj tb : Tok} {b : Array UInt8} {i j : Int} {Q : Value → Shared → Prop} (x : IsX s.heap e #[.ref t0, .none, .none, .none, .bool false, .none])
    (hi : -(2 ^ 63 : Int) ≤ i ∧ i < 2 ^ 63) (hj : -(2 ^ 63 : Int) ≤ j ∧ j < 2 ^ 63)
    (h : ∀ h', IsX h' e (udeVs (.ref s.heap.objs.size) (.str en te) (.bytes b tb) i j (.str re tr)) → s.heap.objs.size ≤ h'.objs.size → (∀ c o, c ≠ e → s.heap.get? c = some o → h'.get? c = some o) → Q .none { s with heap := h' }) :
    wpAny (model prog w) A (call (.builtin "UnicodeDecodeError.__init__") [.ref e, .str en te, .bytes b tb, .int i ti, .int j tj, .str re tr]) Q E s := by
  refine x1a4 (id x) fun o ho hc hd hdat => ?_
  refine wpAny_call (codeAny_call_builtin FU.slot_init.plain FU.entry_init (FU.slot_init.check _ _ _ _ _ _ _ _ ⟨o, ho, hc⟩ (FU.args_init _ _ _ _ _ _) ?_))
  unfold Builtin.«UnicodeDecodeError.__init__» beginInit
  refine wpAny_bind (wpAny_bind ?_)
  refine wpAny_field ho hdat rfl ?_
  unfold newTuple
  refine wpAny_bind (wpAny_newObj_type ?_ (by size_fits))
  have x1 : IsX (s.heap.push { cls := .type "tuple", data := .seq [Value.str en te, .bytes b tb, .int i ti, .int j tj, .str re tr].toArray }) e #[.ref t0, .none, .none, .none, .bool false, .none] :=
    ⟨o, Heap.get?_push_of_some _ ho, hc, hd, hdat⟩
  refine wpAny_bind (setF x1 (by simp) fun h2 x2 s2 => wpAny_bind (wpAny_letGo ?_))
  refine bm_if_true rfl ?_
  refine wpAny_bind (getM0 x2 rfl ?_)
  refine wpAny_bind (setM0 x2 rfl fun h3 x3 s3 => wpAny_bind (wpAny_letGo ?_))
  refine wpAny_bind (getM x3 rfl ?_)
  refine wpAny_bind (setM1 x3 rfl fun h4 x4 s4 => wpAny_bind (wpAny_letGo ?_))
  refine wpAny_bind (getM x4 rfl ?_)
  refine wpAny_bind (setM1 x4 rfl fun h5 x5 s5 => wpAny_bind (wpAny_letGo ?_))
  refine bm_if_false rfl ?_
  refine wpAny_pure ?_
  refine wpAny_bind (wpAny_of_eq (a := ()) rfl ?_)
  have hsi : ∀ (k : Int) (t : Tok), -(2 ^ 63 : Int) ≤ k ∧ k < 2 ^ 63 → sizeArgument "UnicodeDecodeError.__init__" (.int k t) = pure k := fun k t hk => by
    unfold sizeArgument
    rw [asIndex_int]
    have : ¬ (decide (k < -(2 ^ 63 : Int)) || decide (k ≥ 2 ^ 63)) = true := by simp; omega
    simp only [pure_bind, this]
    rfl
  unfold initRange
  refine wpAny_bind (wpAny_bind (wpAny_of_eq (hsi i ti hi) ?_))
  refine wpAny_bind (getM x5 rfl ?_)
  refine wpAny_bind (setM1 x5 rfl fun h6 x6 s6 => ?_)
  refine wpAny_bind (wpAny_of_eq (hsi j tj hj) ?_)
  refine wpAny_bind (getM x6 rfl ?_)
  refine setM1 x6 rfl fun h7 x7 s7 => ?_
  refine wpAny_bind (wpAny_of_eq (a := ()) rfl ?_)
  refine wpAny_bind (wpAny_of_eq (a := some b) rfl ?_)
  refine bm_if_true rfl ?_
  refine wpAny_bind (wpAny_pure ?_)
  refine bm_if_true rfl ?_
  refine wpAny_bind (wpAny_pure ?_)
  refine bm_if_false rfl ?_
  refine wpAny_bind (getM x7 rfl ?_)
  refine wpAny_bind (setM1 x7 rfl fun h8 x8 s8 => ?_)
  refine wpAny_pure (h h8 ?_ ?_ ?_)
  · exact x8
  · have e8 := s8.1; have e7 := s7.1; have e6 := s6.1; have e5 := s5.1; have e4 := s4.1; have e3 := s3.1; have e2 := s2.1
    dsimp only at e2 e3 e4 e5 e6 e7 e8
    rw [Heap.size_push] at e2
    omega
  · intro c o' hc ho'
    rw [s8.2 c hc]; show h7.get? c = _
    rw [s7.2 c hc]; show h6.get? c = _
    rw [s6.2 c hc]; show h5.get? c = _
    rw [s5.2 c hc]; show h4.get? c = _
    rw [s4.2 c hc]; show h3.get? c = _
    rw [s3.2 c hc]; show h2.get? c = _
    rw [s2.2 c hc]
    exact Heap.get?_push_of_some _ ho'
set_option maxRecDepth 100000 in
theorem call_ude {en re : Str} {te tr ti tj tb : Tok} {b : Array UInt8} {i j : Int} {Q : Value → Shared → Prop}
    (hi : -(2 ^ 63 : Int) ≤ i ∧ i < 2 ^ 63) (hj : -(2 ^ 63 : Int) ≤ j ∧ j < 2 ^ 63)
    (h : ∀ h' e t0, IsX h' e (udeVs t0 (.str en te) (.bytes b tb) i j (.str re tr)) → s.heap.objs.size ≤ e → s.heap.objs.size ≤ h'.objs.size → (∀ c o, s.heap.get? c = some o → h'.get? c = some o) → Q (.ref e) { s with heap := h' }) :
    wpAny (model prog w) A (call (.type "UnicodeDecodeError") [.str en te, .bytes b tb, .int i ti, .int j tj, .str re tr]) Q E s := by
  refine wpAny_call (codeAny_of_tree ?_)
  show wpAny _ _ (callAny (.type "UnicodeDecodeError") ⟨_, []⟩) _ _ s
  simp only [callAny]
  refine wpAny_pure ⟨Code.quiet_builtin _ (by decide +kernel), codeAny_builtin entry_type_call ?_⟩
  rw [Around.under_plain (weight_type_call "UnicodeDecodeError" _ _) (by first | rfl | kernel_rfl | decide +kernel)]
  unfold Builtin.«type.__call__»
  dsimp only
  rw [if_neg (by rw [FU.notType]; exact Bool.false_ne_true), if_neg (by rw [FU.canNew]; exact Bool.false_ne_true)]
  refine x1a2 (FU.mro) fun l hl hle => ?_
  refine wpAny_bind (wpAny_of_eq (FU.typeCall _) (wpAny_bind (wpAny_of_eq hl ?_)))
  rw [if_neg (by rw [hle]; exact Bool.false_ne_true)]
  refine wpAny_bind (wpAny_of_eq FU.madeBy ?_)
  dsimp only
  refine wpAny_bind (wpAny_pure (wpAny_bind (wpAny_holding (new_ude ?_ (by size_fits)))))
  refine wpAny_bind (wpAny_isInstance (T := "UnicodeDecodeError") ⟨_, Heap.get?_push_size _ rfl, rfl⟩ FU.self ?_)
  simp only [Bool.not_true, Bool.false_eq_true, if_false]
  refine wpAny_bind (wpAny_holding (wpAny_callSpecial?_slot (name := Str.ofString "__init__") (T := "UnicodeDecodeError") ⟨_, Heap.get?_push_size _ rfl, rfl⟩ FU.slot_init
    (init_ude (t0 := s.heap.objs.size) ⟨_, Heap.get?_push_size _ rfl, rfl, rfl, rfl⟩ hi hj fun h' x hs hk => ?_)))
  dsimp only
  rw [if_neg (by simp)]
  refine wpAny_pure (h h' _ _ x (by simp) (by have := hs; dsimp only at this; simp at this; (clear hs hj hi; lia)) fun c o hc => ?_)
  exact hk c o (Nat.ne_of_lt (Nat.lt_of_lt_of_le (Heap.lt_size hc) (by simp))) (Heap.get?_push_of_some _ (Heap.get?_push_of_some _ hc))
end
end Mine
namespace Mine
open PySem PySem.W PyProof.Rows
variable [Lo]
variable {W : World}
section
variable {M : Model} {A : Around} {E : Value → Shared → Prop} {s : Shared} {env : Env}
theorem wq_tryStmt {body orelse : Sem Flow} {h₀ : ExceptHandler} {hs : List ExceptHandler} {Q : Flow → Shared → Prop}
    (h : wq M A body (fun f s₁ => match f with | .next => wq M A orelse Q E s₁ | f => Q f s₁)
      (fun e s₁ => wpAny M A (noteFrame e env) (fun _ s₂ => wpAny M A (setFlight e none) (fun _ s₃ => wq M A (handleBy e env (h₀ :: hs)) Q E s₃) E s₂) E s₁) s) :
    wq M A (tryStmt false body (h₀ :: hs) orelse [] env) Q E s := by
  unfold tryStmt
  rw [if_pos (show (([] : List Stmt).isEmpty) = true from rfl)]
  refine wq_bind (wq_attempt (wq_mono h (fun f s₁ h₁ => ?_) fun e s₁ h₁ => ?_))
  · cases f <;> first | exact h₁ | exact wq_pure h₁
  · exact wq_bind (wq_mono (wq_of h₁) (fun _ _ h₂ => wq_bind (wq_mono (wq_of h₂) (fun _ _ h₃ => h₃) fun _ _ x => x)) fun _ _ x => x)
theorem wq_handleBy_cons {e : Value} {t : Expr} {name : Option Str} {body : List Stmt} {pos : Pos} {rest : List ExceptHandler} {Q : Flow → Shared → Prop}
    (h : cq M (A.mark (some e)) (.handlers e [.ExceptHandler (some t) none [] pos] env) (fun r s₁ => match r with
      | .ok .brk => cq M (A.mark (some e)) (.handlers e [.ExceptHandler none name body pos] env) (fun r s₂ => match r with
          | .ok f => (match name with
            | none => Q f s₂
            | some n => wq M A (do bindName env n .none; unbindBehindTheSuite env n pos) (fun _ s₃ => Q f s₃) E s₂)
          | .error x => cameBackBy M A env E x s₂) s₁
      | .ok _ => False
      | .error x => cameBackBy M A env E x s₁) s) (hnb : e ≠ byPass) :
    wq M A (handleBy e env (.ExceptHandler (some t) name body pos :: rest)) Q E s := by
  rw [handleBy]
  have hnb' : (some e : Option Value) ≠ some byPass := fun x => hnb (Option.some.inj x)
  refine wq_bind (wq_holding (wq_runOwn (cq_mono h (fun r s₁ h₁ => ?_)) hnb'))
  cases r with
  | error x => exact h₁
  | ok f =>
    cases f with
    | brk =>
      refine wq_bind (wq_pure ?_)
      simp only [Bool.not_true, Bool.false_eq_true, if_false]
      refine wq_bind (wq_holding (wq_runOwn (cq_mono h₁ (fun r s₂ h₂ => ?_)) hnb'))
      cases r with
      | error x => exact h₂
      | ok f =>
        cases name with
        | none => exact wq_pure h₂
        | some n => exact wq_bind (wq_holding (wq_mono h₂ (fun _ s₃ h₃ => wq_pure h₃) fun _ _ x => x))
    | _ => exact h₁.elim
end
section
variable {prog : Program} {w : World} {A : Around} {s : Shared} {env : Env} {R : Result → Shared → Prop} {E : Value → Shared → Prop}
theorem cq_handlers_test {e : Value} {t : Expr} {pos : Pos}
    (h : wq (model prog w) A (eval t env) (fun c s₁ => wpAny (model prog w) A (excMatches e c) (fun b s₂ => R (.ok (if b then .brk else .next)) s₂) (notedBy (model prog w) A env fun x s₂ => R (.error x) s₂) s₁)
      (notedBy (model prog w) A env fun x s₁ => R (.error x) s₁) s) :
    cq (model prog w) A (.handlers e [.ExceptHandler (some t) none [] pos] env) R s := by
  refine cq_of_tree trivial ?_
  rw [under_self rfl rfl]
  show wq _ A (do return Fin.done (← (handleWith e env [.ExceptHandler (some t) none [] pos]).onRaise (fun x => do noteFrame x env; theTreesLotGoes x))) _ _ s
  refine wq_bind (wq_noted ?_)
  unfold handleWith
  refine wq_bind (wq_standAt (wq_bind (wq_mono h (fun c s₁ h₁ => wq_bind (wq_standAt (wq_bind (wq_mono (wq_of h₁) (fun b s₂ h₂ => wq_pure (wq_pure ?_)) fun _ _ x => x)))) fun _ _ x => x)))
  exact h₂
theorem cq_handlers_suite {e : Value} {b₀ : Stmt} {body : List Stmt} {pos : Pos}
    (h : wpAny (model prog w) A (setFlight e none) (fun _ s₁ => wq (model prog w) A (execs (b₀ :: body) env) (fun f s₂ => R (.ok f) s₂) (notedBy (model prog w) A env fun x s₂ => R (.error x) s₂) s₁) (notedBy (model prog w) A env fun x s₁ => R (.error x) s₁) s) :
    cq (model prog w) A (.handlers e [.ExceptHandler none none (b₀ :: body) pos] env) R s := by
  refine cq_of_tree trivial ?_
  rw [under_self rfl rfl]
  show wq _ A (do return Fin.done (← (handleWith e env [.ExceptHandler none none (b₀ :: body) pos]).onRaise (fun x => do noteFrame x env; theTreesLotGoes x))) _ _ s
  refine wq_bind (wq_noted ?_)
  unfold handleWith
  exact wq_bind (wq_standAt (wq_bind (wq_mono (wq_of h) (fun _ s₁ h₁ => wq_mono h₁ (fun f s₂ h₂ => wq_pure h₂) fun _ _ x => x) fun _ _ x => x)))
theorem cq_handlers_suite_as {e : Value} {n : Str} {b₀ : Stmt} {body : List Stmt} {pos : Pos}
    (h : wpAny (model prog w) A (setFlight e none) (fun _ s₁ => wq (model prog w) A (storeName env n e) (fun _ s₂ =>
        wq (model prog w) A (execs (b₀ :: body) env) (fun f s₃ => R (.ok f) s₃)
          (fun x s₃ => wpAny (model prog w) A (noteFrame x env) (fun _ s₃' =>
            wq (model prog w) A (do bindName env n .none; unbindBehindTheSuite env n pos)
              (fun _ s₄ => wpAny (model prog w) A (passOn "try.except-as" x env : Sem Flow) (fun _ _ => False) (notedBy (model prog w) A env fun x s' => R (.error x) s') s₄)
              (fun y s₄ => False) s₃') (notedBy (model prog w) A env fun x s' => R (.error x) s') s₃) s₂)
        (notedBy (model prog w) A env fun x s' => R (.error x) s') s₁) (notedBy (model prog w) A env fun x s' => R (.error x) s') s) :
    cq (model prog w) A (.handlers e [.ExceptHandler none (some n) (b₀ :: body) pos] env) R s := by
  refine cq_of_tree trivial ?_
  rw [under_self rfl rfl]
  show wq _ A (do return Fin.done (← (handleWith e env [.ExceptHandler none (some n) (b₀ :: body) pos]).onRaise (fun x => do noteFrame x env; theTreesLotGoes x))) _ _ s
  refine wq_bind (wq_noted ?_)
  unfold handleWith
  refine wq_bind (wq_standAt (wq_bind (wq_mono (wq_of h) (fun _ s₁ h₁ => ?_) fun _ _ x => x)))
  refine wq_bind (wq_bindName (wq_mono h₁ (fun _ s₂ h₂ => ?_) fun _ _ x => x))
  refine wq_bind (wq_attempt (wq_mono h₂ (fun f s₃ h₃ => wq_pure (wq_pure h₃)) fun x s₃ h₃ => ?_))
  refine wq_bind (wq_mono (wq_of h₃) (fun _ s₃' h₄ => ?_) fun _ _ y => y)
  refine wq_bind (wq_holding (wq_onRaise (wq_mono h₄ (fun _ s₄ h₅ => ?_) fun _ _ y => y.elim)))
  exact wq_mono (wq_of h₅) (fun _ _ hf => hf.elim) fun _ _ y => y
theorem wq_Try {body : List Stmt} {h₀ : ExceptHandler} {hs : List ExceptHandler} {pos : Pos} {Q : Flow → Shared → Prop}
    (h : wq (model prog w) A (execs body env) (fun f s₁ => Q f s₁)
      (fun e s₁ => wpAny (model prog w) A (noteFrame e env) (fun _ s₂ => wpAny (model prog w) A (setFlight e none) (fun _ s₃ => wq (model prog w) A (handleBy e env (h₀ :: hs)) Q E s₃) E s₂) E s₁) s) :
    wq (model prog w) A (exec (.Try body (h₀ :: hs) [] [] pos) env) Q E s := by
  rw [arm_exec_Try]
  refine wq_bind (wq_standAt (wq_tryStmt (wq_mono h (fun f s₁ h₁ => ?_) fun _ _ x => x)))
  cases f <;> first | exact wq_execs_nil h₁ | exact h₁
end
end Mine
namespace Mine
open PySem PySem.W PyProof.Rows
variable [Lo]
variable {W : World}
section
variable {X : Cx} {σ : Sto} {T : Tx} {s : Shared}
theorem StB.not_ban_rec (S : St X σ T s) {b : Addr} {o : Obj} {vs : Array Value} (hb : X.s0.heap.objs.size ≤ b) (ho : s.heap.get? b = some o) (hd : o.data = .fields vs) : ¬ X.ban σ b := by
  rintro (q | q | ⟨x, q⟩ | ⟨x, v, q⟩)
  · exact absurd (S.ok.hB b q).2 (Nat.not_lt.mpr hb)
  · obtain ⟨m, ⟨o', es, ep, ho', hd', _⟩, _⟩ := S.vars
    rw [← q, ho] at ho'; (have ho' := Option.some.inj ho'; subst ho')
    rw [hd] at hd'; cases hd'
  · obtain ⟨_, _, v, o', ho', hd'⟩ := S.cells x b q
    rw [ho] at ho'; (have ho' := Option.some.inj ho'; subst ho')
    rw [hd] at hd'; cases hd'
  · obtain ⟨m, _, hv⟩ := S.vars
    obtain ⟨w, _, h2⟩ := hv x _ q
    obtain ⟨_, h2⟩ := h2
    cases h2 with
    | list hl _ _ => obtain ⟨o', ho', _, _, _, _, hd'⟩ := hl; rw [ho] at ho'; (have ho' := Option.some.inj ho'; subst ho'); rw [hd] at hd'; cases hd'
    | dict hl _ _ _ => obtain ⟨⟨o', ho', _, _, _, _, hd'⟩, _⟩ := hl; rw [ho] at ho'; (have ho' := Option.some.inj ho'; subst ho'); rw [hd] at hd'; cases hd'
    | barr b hl => obtain ⟨o', ho', _, _, hd'⟩ := hl; rw [ho] at ho'; (have ho' := Option.some.inj ho'; subst ho'); rw [hd] at hd'; cases hd'
    | hid hl => obtain ⟨o', ho', _, _, _, _, hd', _⟩ := hl; rw [ho] at ho'; (have ho' := Option.some.inj ho'; subst ho'); rw [hd] at hd'; cases hd'
theorem ExcAt.leB {lo : Addr} {tr : Bool} {T' : Tx} {s' : Shared} {a : Addr} {x : XV} (e : ExcAt lo tr T s.toks s.heap a x) (S : St X σ T s) (hlo : X.s0.heap.objs.size ≤ lo) (l : LeB (X.ban σ) T s T' s') : ExcAt lo tr T' s'.toks s'.heap a x := by
  obtain ⟨ge, o, vs, ho, hc, hdi, hd, hsz, hfs, htb, htr⟩ := e
  refine x1a1 (l.ext a o (S.not_ban_rec (Nat.le_trans hlo ge) ho hd) ho) fun sl ho' => ?_
  refine ⟨ge, _, vs, ho', hc, hdi, hd, hsz, ?_, ?_, htr⟩
  · cases x with
    | index => exact hfs
    | ude d i j r =>
      refine x0a5 hfs fun f1 f2 f3 t_0 f6 => ?_; (try clear hfs); refine x1a2 t_0 fun v f4 f5 => ?_; (try clear t_0)
      refine ⟨f1, f2, f3, ⟨v, f4, f5.le l.toks l.tx⟩, fun hd => ?_⟩
      refine x1a2 (f6 hd) fun c g1 g2 => ?_
      refine ⟨c, g1, ?_⟩
      rcases g2 with g2 | ⟨b, ob, ws, h1, h0, h2, h3, h4, h5⟩
      · exact .inl g2
      · refine x1a1 (l.ext b ob (S.not_ban_rec (Nat.le_trans hlo h0) h2 h4) h2) fun sl h2' => ?_
        exact .inr ⟨b, _, ws, h1, h0, h2', h3, h4, h5⟩
  · rcases htb with h1 | ⟨t, ot, ts, h1, hlt, hta, hot, htc, htd, h3⟩
    · exact .inl h1
    · refine x1a1 (l.ext t ot (S.not_ban_rec (Nat.le_trans hlo hlt) hot htd) hot) fun sl hot' => ?_
      exact .inr ⟨t, _, ts, h1, hlt, hta, hot', htc, htd, h3⟩
end
omit [Lo] in
noncomputable def Cx.under (X : Cx) (a : Addr) : Cx := { X with A := X.A.mark (some (.ref a)), quiet := false }
section
variable {X : Cx} {σ σ' : Sto} {T T' : Tx} {s s' : Shared} {a : Addr} {B : Addr → Prop}
theorem Cx.Ok.under (h : X.Ok) : (X.under a).Ok := ⟨⟨h.a.depth, h.a.units, h.a.frames⟩, (fun q => nomatch q), h.kind, h.glob, h.bu, h.pg, h.nb, h.hB, h.locals, h.cl⟩
theorem StB.under (S : StB B X σ T s) : StB B (X.under a) σ T s := ⟨S.ok.under, S.le, S.pos, S.fro, S.vars, S.cells, S.apart, S.fresh, S.one⟩
theorem StB.out (S : StB B (X.under a) σ T s) (ok : X.Ok) : StB B X σ T s := ⟨ok, S.le, S.pos, S.fro, S.vars, S.cells, S.apart, S.fresh, S.one⟩
theorem Nx.out (n : Nx (X.under a) σ T s σ' T' s') (ok : X.Ok) : Nx X σ T s σ' T' s' := ⟨StB.out n.st ok, n.le, n.ban⟩
end
noncomputable def ExH (X : Cx) (x : XV) (t : Sem Flow) (σ : Sto) (Q : Post) : Prop := ∀ a lo T s, St (X.under a) σ T s → X.s0.heap.objs.size ≤ lo → lo ≤ s.heap.objs.size → ExcAt lo true T s.toks s.heap a x →
  wq X.M (X.under a).A t (fun f s' => ∃ T' o σ', Nx (X.under a) σ T s σ' T' s' ∧ FlowIs X T' s' f o ∧ Q o σ')
    (fun e s' => ∃ T' x' σ' a', e = .ref a' ∧ Nx (X.under a) σ T s σ' T' s' ∧ ExcAt lo false T' s'.toks s'.heap a' x' ∧ Q (.exc x') σ') s
section
variable {X : Cx} {σ : Sto} {Q : Post} {x : XV}
theorem ExH.of {t : Sem Flow} (h : ∀ a, ExT (X.under a) t σ Q) : ExH X x t σ Q := fun a lo T s S _ hl _ =>
  wq_mono (h a T s S) (fun _ _ q => q) fun e s' t_0 => x4a4 t_0 fun T' x σ' a he n ea q => ⟨T', x, σ', a, he, n, ea.weak hl, q⟩
theorem ExH.nil (q : Q .next σ) : ExH X x (execs [] X.env) σ Q := .of fun a => Ex.nil (X := X.under a) q
noncomputable def SeqH (X : Cx) (x : XV) (rest : List Stmt) (Q : Post) : Post := fun o σ => match o with
  | .next => ExH X x (execs rest X.env) σ Q
  | o => Q o σ
theorem ExH.cons {st : Stmt} {rest : List Stmt} (h : ExH X x (exec st X.env) σ (SeqH X x rest Q)) : ExH X x (execs (st :: rest) X.env) σ Q := fun a lo T s S hs hl ea => by
  refine wq_execs_cons (wq_mono (h a lo T s S hs hl ea) (fun f s' t_0 => x3a3 t_0 fun T' o σ' n f' q => ?_) fun e s' t_0 => x4a4 t_0 fun T' x σ' a he n ea q => ⟨T', x, σ', a, he, n, ea, q⟩)
  cases o with
  | next =>
    obtain rfl : f = .next := f'
    refine wq_mono (q a lo T' s' n.st hs (Nat.le_trans hl n.le.size) (ea.leB S hs n.le)) (fun f s'' t_0 => x3a3 t_0 fun T₂ o σ₂ n₂ f₂ q₂ => ⟨T₂, o, σ₂, n.trans n₂, f₂, q₂⟩)
      fun e s'' t_0 => x4a4 t_0 fun T₂ x σ₂ a he n₂ ea q₂ => ⟨T₂, x, σ₂, a, he, n.trans n₂, ea, q₂⟩
  | brk => obtain rfl : f = .brk := f'; exact ⟨T', .brk, σ', n, rfl, q⟩
  | cont => obtain rfl : f = .cont := f'; exact ⟨T', .cont, σ', n, rfl, q⟩
  | ret v => refine x1a2 f' fun w e_0 r => ?_; (try clear f'); subst e_0; exact ⟨T', .ret v, σ', n, ⟨w, rfl, r⟩, q⟩
  | exc x => exact f'.elim
theorem ExH.seq {st : Stmt} {rest : List Stmt} (h : ∀ a, Ex1 (X.under a) st σ (SeqH X x rest Q)) : ExH X x (execs (st :: rest) X.env) σ Q := .cons (.of h)
theorem ExH.if {test : Expr} {body orelse rest : List Stmt} {pos : Pos} {b : Bool} (ht : ∀ a, Te (X.under a) test σ b)
    (k : if b then ExH X x (execs body X.env) σ (SeqH X x rest Q) else ExH X x (execs orelse X.env) σ (SeqH X x rest Q)) : ExH X x (execs (.If test body orelse pos :: rest) X.env) σ Q :=
  .cons fun a lo T s S hs hl ea => by
    refine wq_If ((ht a).then S fun T₁ s₁ l₁ S₁ => ?_)
    have n := Nx.of_le S l₁
    cases b with
    | true =>
      exact wq_mono (k a lo T₁ s₁ S₁ hs (Nat.le_trans hl l₁.ext.1) (ea.leB S hs n.le)) (fun f s'' t_0 => x3a3 t_0 fun T₂ o σ₂ n₂ f₂ q₂ => ⟨T₂, o, σ₂, n.trans n₂, f₂, q₂⟩)
        fun e s'' t_0 => x4a4 t_0 fun T₂ x σ₂ a he n₂ ea q₂ => ⟨T₂, x, σ₂, a, he, n.trans n₂, ea, q₂⟩
    | false =>
      exact wq_mono (k a lo T₁ s₁ S₁ hs (Nat.le_trans hl l₁.ext.1) (ea.leB S hs n.le)) (fun f s'' t_0 => x3a3 t_0 fun T₂ o σ₂ n₂ f₂ q₂ => ⟨T₂, o, σ₂, n.trans n₂, f₂, q₂⟩)
        fun e s'' t_0 => x4a4 t_0 fun T₂ x σ₂ a he n₂ ea q₂ => ⟨T₂, x, σ₂, a, he, n.trans n₂, ea, q₂⟩
end
end Mine
namespace Mine
open PySem PySem.W PyProof.Rows
variable [Lo]
variable {W : World}
omit [Lo] in
structure ClauseOk (C : String) : Prop where
  exc : isSubtype (.type C) (.type "BaseException") = pure true
  notTup : isSubtype (.type ((Manifest.find? C).elim "type" fun x => x.metatype)) (.type "tuple") = pure false
  self : isSubtype (.type C) (.type C) = pure true
  boot : bootBuiltins (C : Str) = some (.type C)
  name : (C : Str) ≠ "__name__"
  dbg : ((C : Str) == ("__debug__" : Str)) = false
theorem clause_index : ClauseOk "IndexError" := ⟨by rw [isSubtype_type]; kernel_rfl, by rw [isSubtype_type]; kernel_rfl, by rw [isSubtype_type]; kernel_rfl, by kernel_rfl, by decide +kernel, by decide +kernel⟩
theorem clause_ude : ClauseOk "UnicodeDecodeError" := ⟨by rw [isSubtype_type]; kernel_rfl, by rw [isSubtype_type]; kernel_rfl, by rw [isSubtype_type]; kernel_rfl, by kernel_rfl, by decide +kernel, by decide +kernel⟩
theorem ExcAt.typeIs {lo : Addr} {tr : Bool} {T : Tx} {n : Nat} {s : Shared} {a : Addr} {x : XV} (e : ExcAt lo tr T n s.heap a x) : s.TypeIs (.ref a) x.cls := by
  obtain ⟨ge, o, vs, ho, hc, _⟩ := e
  exact ⟨o, ho, hc⟩
section
variable {X : Cx} {σ : Sto} {Q : Post}
noncomputable def TryP (X : Cx) (C : String) (suite : List Stmt) (P : Post) : Post := fun o σ => match o with
  | .exc x => x.cls = C ∧ ExH X x (execs suite X.env) σ P
  | o => P o σ
theorem Ex.tryX {C : String} {c : Str} {body suite rest : List Stmt} {b₀ : Stmt} {np hp pos : Pos} (hC : ClauseOk C) (hcn : c = (C : Str)) (ht : X.Top) (hkind : X.env.kindOf c = some .globalImplicit) (hg : X.G.mg c = none)
    (h : Ex X body σ (TryP X C (b₀ :: suite) (Seq X rest Q))) : Ex X (.Try body [.ExceptHandler (some (.Name c np)) none (b₀ :: suite) hp] [] [] pos :: rest) σ Q := .cons fun T s S => by
  subst hcn
  have hs := S.le.ext.1
  refine wq_Try (wq_mono (h T s S) (fun f s₁ t_0 => x3a3 t_0 fun T₁ o σ₁ n₁ f₁ q₁ => ?_) fun e s₁ t_0 => x4a5 t_0 fun T₁ x σ₁ a he n₁ ea hx hH => ?_)
  · cases o with
    | exc x => exact f₁.elim
    | _ => exact ⟨T₁, _, σ₁, n₁, f₁, q₁⟩
  · subst he
    obtain ⟨⟨outer, hfr⟩, hf⟩ := id ht
    have hfro := n₁.st.fro
    rw [hfr] at hfro
    refine wpAny_noteX (hfr ▸ n₁.st.ok.a.frames) hfro hf n₁.le.size ea fun h₂ sh₂ ea₂ => ?_
    have n₂ := n₁.shift hs sh₂
    refine wpAny_setFlightX ea₂ fun h₃ sh₃ ea₃ => ?_
    have n₃ := n₂.shift hs sh₃
    have onx : ∀ (s₅ : Shared) (e : Value), (∃ T' x σ' a', e = .ref a' ∧ Nx X σ T s σ' T' s₅ ∧ ExcAt s.heap.objs.size false T' s₅.toks s₅.heap a' x ∧ Seq X rest Q (.exc x) σ') →
        notedBy X.M (X.under a).A X.env (fun e s' => cameBackBy X.M X.A X.env (fun e s' => ∃ T' x σ' a', e = .ref a' ∧ Nx X σ T s σ' T' s' ∧ ExcAt s.heap.objs.size false T' s'.toks s'.heap a' x ∧ Seq X rest Q (.exc x) σ') e s') e s₅ := by
      rintro s₅ e ⟨T', x, σ', a', rfl, n', ea, q⟩
      exact notedX ht rfl hs n' ea fun s₃ n₃ ea₃ => cameX hs n₃ ea₃ fun s₄ n₄ ea₄ => ⟨T', x, σ', a', rfl, n₄, ea₄.weak (Nat.le_refl _), q⟩
    refine wq_handleBy_cons ?_ (by intro q; cases q)
    refine cq_handlers_test ?_
    refine StB.load_builtin (X := X.under a) (StB.under n₃.st) hkind hg hC.boot ?_ hC.name hC.dbg
    refine wpAny_excMatches_type (hx ▸ ea₃.typeIs) hC.exc hC.notTup hC.self ?_
    refine cq_handlers_suite ?_
    refine wpAny_setFlightX ea₃ fun h₄ sh₄ ea₄ => ?_
    have n₄ := n₃.shift hs sh₄
    refine wq_mono (hH a s.heap.objs.size T₁ _ (StB.under n₄.st) hs n₄.le.size ea₄) (fun f s₅ t_0 => x3a3 t_0 fun T₅ o σ₅ n₅ f₅ q₅ => ?_) fun e s₅ t_0 => x4a4 t_0 fun T₅ x σ₅ a' he n₅ ea₅ q₅ => ?_
    · exact ⟨T₅, o, σ₅, n₄.trans (n₅.out S.ok), f₅, q₅⟩
    · exact onx s₅ e ⟨T₅, x, σ₅, a', he, n₄.trans (n₅.out S.ok), ea₅, q₅⟩
end
end Mine
namespace Mine
open PySem PySem.W PyProof.Rows
variable [Lo]
variable {W : World}
theorem cls_dropName (name : Str) (o : Obj) : (Obj.dropName name o).cls = o.cls := by
  rw [Obj.dropName_eq]
  obtain ⟨c, d, dt, sl⟩ := o
  cases dt <;> simp only [Obj.dropNameByArray]
  split <;> rfl
theorem data_dropName (name : Str) (o : Obj) (es : Array DictEntry) (ep : Nat) (hd : o.data = .dict es ep) (hk : ∀ e ∈ es, ∃ n t, e.key = .str n t) :
    ∃ es' ep', (Obj.dropName name o).data = .dict es' ep' ∧ ∀ e ∈ es', e ∈ es := by
  rw [Obj.dropName_eq]
  obtain ⟨c, d, dt, sl⟩ := o
  dsimp only at hd
  subst hd
  simp only [Obj.dropNameByArray]
  split
  · rename_i i hi
    exact ⟨_, _, rfl, fun e he => by
      obtain ⟨l⟩ := es
      simp only [List.eraseIdxIfInBounds_toArray, List.mem_toArray] at he ⊢
      exact List.mem_of_mem_eraseIdx he⟩
  · exact ⟨_, _, rfl, fun e he => he⟩
section
variable {M : Model} {A : Around} {E : Value → Shared → Prop} {s : Shared} {env : Env} {m : Str → Option Value}
theorem wpAny_nsDel_cls {a : Addr} {name : Str} {v c : Value} {Q : Bool → Shared → Prop} (hn : s.heap.Ns a m) (hm : m name = some v) (hc : ClsAt s.heap a c)
    (hQ : ∀ h' m', h'.Ns a m' → Heap.SameBut a s.heap h' → ClsAt h' a c → Q true { s with heap := h' }) : wpAny M A (nsDel a name) Q E s := by
  refine x3a4 (id hn) fun o es ep ho hd hk hm' => ?_
  have hany : es.any (·.key.isStr name) = true := by
    have := (hm' name).trans hm
    simp only [nsFind, findBy, Option.map_eq_some_iff] at this
    refine x1a2 this fun e he _ => ?_; (try clear this)
    have h1 := Array.find?_some he
    have h2 := Array.mem_of_find?_eq_some he
    rw [Array.any_eq_true']
    exact ⟨e, h2, h1⟩
  have hhas : nsHas name o = pure true := by
    rw [nsHas_eq]; unfold nsHasByArray; rw [hd]
    show (if (es.any fun x => x.key.isStr name) = true then _ else _) = _
    rw [if_pos hany]
  unfold nsDel
  refine wpAny_bind (wpAny_loadPart ho ?_)
  rw [hhas]
  refine wpAny_bind (wpAny_pure ?_)
  refine wpAny_bind (wpAny_updatePart ho (wpAny_pure ?_))
  refine x2a2 (data_dropName name o es ep hd hk) fun es' ep' hd' hsub => ?_
  have hfr : (Obj.dropName name o).isFreed = false := by revert hd'; generalize Obj.dropName name o = o'; intro hd'; obtain ⟨c0, d0, dt0, sl0⟩ := o'; dsimp only at hd'; subst hd'; rfl
  have hget := Heap.get?_update_self (Obj.dropName name) ho hfr
  refine hQ _ _ ⟨_, es', ep', hget, hd', fun e he => hk e (hsub e he), fun _ => rfl⟩ (Heap.SameBut.update ..) ⟨_, hget, ?_⟩
  refine x1a2 hc fun o2 ho2 hc2 => ?_; (try clear hc)
  rw [ho] at ho2; (have ho2 := Option.some.inj ho2; subst ho2)
  exact (cls_dropName _ _).trans hc2
theorem wpAny_nameGoes_cls {n : Str} {pos : Pos} {c : Value} {Q : Unit → Shared → Prop} (hl : env.kindOf n = some .local) (hn : s.heap.Ns env.locals m) (hc : ClsAt s.heap env.locals c)
    (hp : (env.scope.kind == .class || (env.scope.kind == .module && env.locals != env.globals)) = false)
    (h : ∀ h' m', h'.Ns env.locals m' → Heap.SameBut env.locals s.heap h' → ClsAt h' env.locals c → Q () { s with heap := h', toks := s.toks + 1 }) :
    wpAny M A (do bindName env n .none; unbindBehindTheSuite env n pos) Q E s := by
  refine wpAny_bind (wpAny_bindName (wpAny_storeName_cls hl hn hc (fun h₁ hn₁ hs₁ hc₁ => ?_) hp))
  unfold unbindBehindTheSuite
  refine wpAny_onRaise ?_
  unfold unbindName
  refine wpAny_bind (wpAny_point (wpAny_bind ?_))
  unfold deleteName
  simp only [hl, hp]
  rw [if_neg (by decide)]
  refine wpAny_bind (wpAny_nsDel_cls (v := .none) hn₁ (if_pos rfl) hc₁ fun h₂ m₂ hn₂ hs₂ hc₂ => ?_)
  simp only [if_true, Option.isSome_some, Bool.not_true, Bool.false_eq_true, if_false]
  exact wpAny_pure (wpAny_point (h h₂ m₂ hn₂ (hs₁.trans hs₂) hc₂))
end
section
variable {X : Cx} {σ : Sto} {T : Tx} {s : Shared}
theorem StB.goes (S : St X σ T s) {n : Str} {pos : Pos} (hl : X.env.kindOf n = some .local) {Q : Unit → Shared → Prop} {E : Value → Shared → Prop} (h : ∀ s', Nx X σ T s [] T s' → Q () s') :
    wpAny X.M X.A (do bindName X.env n .none; unbindBehindTheSuite X.env n pos) Q E s := by
  refine x1a2 (S.vars) fun m hn hv => ?_
  refine x3a2 (id hn) fun oL _ _ hoL _ => ?_
  refine wpAny_nameGoes_cls hl hn ⟨oL, hoL, rfl⟩ (by rw [S.ok.kind]; rfl) fun h' m' hn' hs hcls => h _ ⟨?_, LeB.turn hs (.inr (.inl rfl)) (Nat.le_succ _), ?_⟩
  · refine x3a3 (id hn') fun o' es ep ho' hd' _ => ?_
    exact {
      ok := S.ok
      le := S.le_turn S.ok.locals hs (Nat.le_succ _)
      pos := Nat.succ_pos _
      fro := S.fro_turn hs fun ⟨o, f1, f2, f3, _⟩ => by
        rw [hoL] at f1; (have f1 := Option.some.inj f1; subst f1)
        refine x1a2 hcls fun o2 g1 g2 => ?_; (try clear hcls)
        rw [ho'] at g1; (have g1 := Option.some.inj g1; subst g1)
        exact ⟨o', ho', g2.trans f2, f3, es, ep, hd'⟩
      vars := ⟨m', hn', fun x c hc => nomatch hc⟩
      cells := fun y a hy => x0a3 (S.cells y a hy) fun h1 h2 t_0 => x1a1 t_0 fun w h3 => ⟨h1, h2, w, h3.sameBut hs h2⟩
      apart := S.apart
      fresh := fun a t_0 => x2a1 t_0 fun y w e => nomatch e
      one := fun y z a w w' h1 h2 => nomatch h1 }
  · rintro b hb (q | q | q | ⟨y, w, e⟩)
    · exact .inl q
    · exact .inr (.inl q)
    · exact .inr (.inr (.inl q))
    · exact nomatch e
omit [Lo] in
noncomputable def XV.av : XV → AV
  | .ude _ i j r => .exc i j r
  | .index => .none
theorem ExcAt.rep {lo : Addr} {tr : Bool} {B : Addr → Prop} {a : Addr} {d : Bool} {i j : Int} {r : List Nat} (e : ExcAt lo tr T s.toks s.heap a (.ude d i j r)) (hb : ¬ B a) : Rep W B T s.toks s.heap (.ref a) (.exc i j r) := by
  obtain ⟨ge, o, vs, ho, hc, hdi, hd, hsz, ⟨f1, f2, f3, f4, _⟩, _⟩ := e
  exact .exc hb ho hc hdi hd ⟨f1, f2, f3, f4⟩
theorem StB.not_ban_exc (S : St X σ T s) {lo : Addr} {tr : Bool} {a : Addr} {x : XV} (hlo : X.s0.heap.objs.size ≤ lo) (e : ExcAt lo tr T s.toks s.heap a x) : ¬ X.ban σ a := by
  obtain ⟨ge, o, vs, ho, hc, hdi, hd, _⟩ := e
  exact S.not_ban_rec (Nat.le_trans hlo ge) ho hd
end
end Mine
namespace Mine
open PySem PySem.W PyProof.Rows
variable [Lo]
variable {W : World}
theorem Rep.frame {B : Addr → Prop} {T T' : Tx} {s s' : Shared} {v : Value} {x : AV} {L : Addr} {oL : Obj} (r : Rep W B T s.toks s.heap v x) (hL : s.heap.get? L = some oL) (hc : oL.cls = .type "frame")
    (l : LeB (fun b => b = L) T s T' s') : Rep W B T' s'.toks s'.heap v x := by
  have ne : ∀ {a o}, s.heap.get? a = some o → o.cls ≠ .type "frame" → ¬ a = L := fun h1 h2 q => by subst q; rw [hL] at h1; (have h1 := Option.some.inj h1; subst h1); exact h2 hc
  induction r with
  | none => exact .none
  | bool b => exact .bool b
  | int i t => exact .int i t
  | str x => exact .str (x.le l.toks l.tx)
  | bytes b t => exact .bytes b t
  | txt x t => exact .txt x t
  | tup hb hl hs _ ih => refine x1a3 hl fun o ho hc t_0 => ?_; (try clear hl); refine x1a1 t_0 fun m hd => ?_; (try clear t_0); refine x1a1 (l.ext _ o (ne ho (by rw [hc]; decide)) ho) fun sl ho' => ?_; exact .tup hb ⟨_, ho', hc, m, hd⟩ hs ih
  | list hb hl hs _ ih => refine x1a5 hl fun o ho hc hn hsl t_0 => ?_; (try clear hl); refine x1a1 t_0 fun m hd => ?_; (try clear t_0); refine x1a1 (l.ext _ o (ne ho (by rw [hc]; decide)) ho) fun sl ho' => ?_; exact .list hb ⟨_, ho', hc, hn, (keepS_ne (by rw [hc]; decide)).trans hsl, m, hd⟩ hs ih
  | dict hb hl hs hk _ ih =>
    refine x0a2 hl fun t_0 ky => ?_; (try clear hl); refine x1a5 t_0 fun o ho hc hn hsl t_1 => ?_; (try clear t_0); refine x1a1 t_1 fun m hd => ?_; (try clear t_1); refine x1a1 (l.ext _ o (ne ho (by rw [hc]; decide)) ho) fun sl ho' => ?_
    exact .dict hb ⟨⟨_, ho', hc, hn, (keepS_ne (by rw [hc]; decide)).trans hsl, m, hd⟩, ky⟩ hs (fun i e x h1 h2 => (hk i e x h1 h2).le l.toks l.tx) ih
  | exc hb ho hc hdi hd hf =>
    refine x1a1 (l.ext _ _ (ne ho (by rw [hc]; decide)) ho) fun sl ho' => ?_
    exact .exc hb ho' hc hdi hd ⟨hf.size, hf.start, hf.stop, x1a2 hf.reason fun v h1 h2 => ⟨v, h1, h2.le l.toks l.tx⟩⟩
section
variable {M : Model} {A : Around} {E : Value → Shared → Prop} {s : Shared} {env : Env} {lo : Addr} {T : Tx} {n : Nat} {a : Addr} {x : XV}
theorem wpAny_passOnX {α : Type} {what : String} {Q : α → Shared → Prop} (hx : ExcAt lo true T n s.heap a x) (h : ∀ h', Shift lo s.heap h' → ExcAt lo true T n h' a x → E (.ref a) { s with heap := h' }) : wpAny M A (PySem.passOn what (.ref a) env : Sem α) Q E s := by
  unfold PySem.passOn
  obtain ⟨o, vs, ho, hc, hdi, hd, hsz, hfs, htb, htr⟩ := hx.at_
  obtain ⟨z, hz⟩ : ∃ z, vs[1]? = some z := ⟨vs[1]'(by lia), by rw [Array.getElem?_eq_getElem (by lia)]⟩
  refine wpAny_bind (wpAny_field ho hd hz ?_)
  have hzn : (z == Value.none) = false := by
    have := htr rfl
    rw [hz] at this
    exact beq_false_of_ne fun q => this (by rw [q])
  rw [if_neg (by rw [hzn]; decide)]
  exact wpAny_bind (wpAny_setFlightX hx fun h' sh hx' => wpAny_throw (h h' sh hx'))
end
section
variable {X : Cx} {σ : Sto} {Q : Post}
noncomputable def TryAsP (X : Cx) (C : String) (n : Str) (suite : List Stmt) (P : Post) : Post := fun o σ => match o with
  | .exc x => x.cls = C ∧ (∃ d i j r, x = .ude d i j r) ∧ ExH X x (execs suite X.env) (σ.upd n x.av) (fun o _ => P o [])
  | o => P o σ
theorem StB.goesF {σ : Sto} {T : Tx} {s : Shared} (S : St X σ T s) {n : Str} {pos : Pos} {f : Flow} {o : Out} (hf : FlowIs X T s f o) (hl : X.env.kindOf n = some .local) (hfr : FrAt s.heap X.env.locals) {Q : Unit → Shared → Prop} {E : Value → Shared → Prop}
    (h : ∀ s', Nx X σ T s [] T s' → FlowIs X T s' f o → Q () s') :
    wpAny X.M X.A (do bindName X.env n .none; unbindBehindTheSuite X.env n pos) Q E s := by
  refine x1a3 hfr fun oL hoL hoc _ => ?_; (try clear hfr)
  refine x1a2 (S.vars) fun m hn hv => ?_
  refine wpAny_nameGoes_cls hl hn ⟨oL, hoL, rfl⟩ (by rw [S.ok.kind]; rfl) fun h' m' hn' hs hcls => h _ ⟨?_, LeB.turn hs (.inr (.inl rfl)) (Nat.le_succ _), ?_⟩ ?_
  · refine x3a3 (id hn') fun o' es ep ho' hd' _ => ?_
    exact {
      ok := S.ok
      le := S.le_turn S.ok.locals hs (Nat.le_succ _)
      pos := Nat.succ_pos _
      fro := S.fro_turn hs fun ⟨o, f1, f2, f3, _⟩ => by
        rw [hoL] at f1; (have f1 := Option.some.inj f1; subst f1)
        refine x1a2 hcls fun o2 g1 g2 => ?_; (try clear hcls)
        rw [ho'] at g1; (have g1 := Option.some.inj g1; subst g1)
        exact ⟨o', ho', g2.trans f2, f3, es, ep, hd'⟩
      vars := ⟨m', hn', fun x c hc => nomatch hc⟩
      cells := fun y a hy => x0a3 (S.cells y a hy) fun h1 h2 t_0 => x1a1 t_0 fun w h3 => ⟨h1, h2, w, h3.sameBut hs h2⟩
      apart := S.apart
      fresh := fun a t_0 => x2a1 t_0 fun y w e => nomatch e
      one := fun y z a w w' h1 h2 => nomatch h1 }
  · rintro b hb (q | q | q | ⟨y, w, e⟩)
    · exact .inl q
    · exact .inr (.inl q)
    · exact .inr (.inr (.inl q))
    · exact nomatch e
  · cases o with
    | ret v => refine x1a2 hf fun w e_0 r => ?_; (try clear hf); subst e_0; exact ⟨w, rfl, Rep.frame (s' := { s with heap := h', toks := s.toks + 1 }) r hoL hoc (LeB.turn hs rfl (Nat.le_succ _))⟩
    | _ => exact hf
theorem Ex.tryAs {C : String} {c n : Str} {body suite rest : List Stmt} {b₀ : Stmt} {np hp pos : Pos} (hC : ClauseOk C) (hcn : c = (C : Str)) (ht : X.Top) (hkind : X.env.kindOf c = some .globalImplicit) (hg : X.G.mg c = none)
    (hn : X.env.kindOf n = some .local) (hst : storable X n)
    (h : Ex X body σ (TryAsP X C n (b₀ :: suite) (Seq X rest Q))) : Ex X (.Try body [.ExceptHandler (some (.Name c np)) (some n) (b₀ :: suite) hp] [] [] pos :: rest) σ Q := .cons fun T s S => by
  subst hcn
  have hs := S.le.ext.1
  refine wq_Try (wq_mono (h T s S) (fun f s₁ t_0 => x3a3 t_0 fun T₁ o σ₁ n₁ f₁ q₁ => ?_) fun e s₁ t_0 => x4a6 t_0 fun T₁ x σ₁ a he n₁ ea hx t_1 hH => x4a1 t_1 fun d i j r hude => ?_)
  · cases o with
    | exc x => exact f₁.elim
    | _ => exact ⟨T₁, _, σ₁, n₁, f₁, q₁⟩
  · subst he
    obtain ⟨⟨outer, hfr⟩, hf⟩ := id ht
    have hfro := n₁.st.fro
    rw [hfr] at hfro
    have frl : ∀ {σ' T' s'}, St X σ' T' s' → FrAt s'.heap X.env.locals := fun S' => by
      have := S'.fro
      rw [hfr] at this
      obtain ⟨_, ⟨L, h1, h2⟩, _⟩ := this
      rw [hf] at h1; (have h1 := Option.some.inj h1; subst h1); exact h2
    refine wpAny_noteX (hfr ▸ n₁.st.ok.a.frames) hfro hf n₁.le.size ea fun h₂ sh₂ ea₂ => ?_
    have n₂ := n₁.shift hs sh₂
    refine wpAny_setFlightX ea₂ fun h₃ sh₃ ea₃ => ?_
    have n₃ := n₂.shift hs sh₃
    have onx : ∀ (s₅ : Shared) (a' : Addr) (x : XV) (T' : Tx) (σ' : Sto), Nx X σ T s σ' T' s₅ → ExcAt s.heap.objs.size false T' s₅.toks s₅.heap a' x → Seq X rest Q (.exc x) σ' →
        notedBy X.M (X.under a).A X.env (fun e s' => cameBackBy X.M X.A X.env (fun e s' => ∃ T' x σ' a', e = .ref a' ∧ Nx X σ T s σ' T' s' ∧ ExcAt s.heap.objs.size false T' s'.toks s'.heap a' x ∧ Seq X rest Q (.exc x) σ') e s') (.ref a') s₅ := by
      intro s₅ a' x T' σ' n' ea q
      exact notedX ht rfl hs n' ea fun s₃ n₃ ea₃ => cameX hs n₃ ea₃ fun s₄ n₄ ea₄ => ⟨T', x, σ', a', rfl, n₄, ea₄.weak (Nat.le_refl _), q⟩
    refine wq_handleBy_cons ?_ (by intro q; cases q)
    refine cq_handlers_test ?_
    refine StB.load_builtin (X := X.under a) (StB.under n₃.st) hkind hg hC.boot ?_ hC.name hC.dbg
    refine wpAny_excMatches_type (hx ▸ ea₃.typeIs) hC.exc hC.notTup hC.self ?_
    refine cq_handlers_suite_as ?_
    refine wpAny_setFlightX ea₃ fun h₄ sh₄ ea₄ => ?_
    have n₄ := n₃.shift hs sh₄
    subst hude
    refine wq_of (StB.store (X := X.under a) (StB.under n₄.st) hst (ea₄.rep (n₄.st.not_ban_exc hs ea₄)) fun s₅ S₅ lb₅ => ?_)
    have n₅ : Nx X σ T s (σ₁.upd n (.exc i j r)) T₁ s₅ := n₄.trans ⟨StB.out S₅ S.ok, lb₅, fun b _ q => Cx.ban_upd q⟩
    have ea₅ := ea₄.leB n₄.st hs lb₅
    refine wq_mono (hH a s.heap.objs.size T₁ s₅ S₅ hs n₅.le.size ea₅) (fun f s₆ t_0 => x3a3 t_0 fun T₆ o σ₆ n₆ f₆ q₆ => ?_) fun e s₆ t_0 => x4a4 t_0 fun T₆ x σ₆ a' he n₆ ea₆ q₆ => ?_
    · have n₆' := n₅.trans (n₆.out S.ok)
      exact wq_of (n₆'.st.goesF f₆ hn (frl n₆'.st) fun s₇ n₇ f₇ => ⟨T₆, o, [], n₆'.trans n₇, f₇, q₆⟩)
    · subst he
      have n₆' := n₅.trans (n₆.out S.ok)
      have ea₆' := ea₆
      have hfro₆ := n₆'.st.fro
      rw [hfr] at hfro₆
      refine wpAny_noteX (A := (X.under a).A) (hfr ▸ n₆'.st.ok.a.frames) hfro₆ hf n₆'.le.size ea₆' fun h₇ sh₇ ea₇ => ?_
      have n₇ := n₆'.shift hs sh₇
      refine wq_of (StB.goes (X := X.under a) (StB.under n₇.st) hn fun s₈ n₈ => ?_)
      have ea₈ := ea₇.leB n₇.st hs n₈.le
      have n₈' := n₇.trans (n₈.out S.ok)
      refine wpAny_passOnX ea₈ fun h₉ sh₉ ea₉ => ?_
      exact onx _ a' x T₆ [] (n₈'.shift hs sh₉) (ea₉.weak (Nat.le_refl _)) q₆
end
end Mine
namespace Mine
open PySem PySem.W PyProof.Rows
variable [Lo]
variable {W : World}
section
variable {M : Model} {A : Around} {E : Value → Shared → Prop} {s : Shared} {env : Env}
omit [Lo] in
noncomputable def compEnd (M : Model) (A : Around) (E : Value → Shared → Prop) (use : Option (Value → Sem Unit)) (Q : Value → Shared → Prop) (acc : Value) (C : Addr) (s' : Shared) : Prop :=
  match use with
  | none => ∃ m, s'.heap.Ns C m ∧ ∀ h', Heap.SameBut C s'.heap h' → Q acc { s' with heap := h' }
  | some u => wq M A (u acc) (fun _ s'' => ∃ m, s''.heap.Ns C m ∧ ∀ h', Heap.SameBut C s''.heap h' → Q .none { s'' with heap := h' }) E s'
theorem wq_standIf {α : Type} {c : Prop} [Decidable c] {pos : Pos} {k : PUnit → Sem α} {Q : α → Shared → Prop} (h : wq M A (k ()) Q E s) :
    wq M A (if c then (standAt pos >>= k) else k ()) Q E s := by
  split
  · exact wq_bind (wq_standAt h)
  · exact h
theorem wq_comprehension {e : Expr} {scope : Scope} {pos : Pos} {newAcc first : Sem Value} {g : Comprehension} {gs : List Comprehension} {cl : List (Str × Addr)} {use : Option (Value → Sem Unit)}
    {Q : Value → Shared → Prop}
    (hcl : clausesOf e = g :: gs) (hs : ∀ x, foldedSetIterable g.iter env x = pure x) (hclos : closureFor scope env = pure cl)
    (hkind : scope.kind = .function) (hnames : ∀ x ∈ scope.names, x.2 = .local → scope.names.lookup x.1 = some .local)
    (h : wq M A first (fun x s₁ => wq M A (pyIter x) (fun it s₂ => wq M A newAcc (fun acc s₃ =>
      wq M A (newFunctionEnv scope env.globals cl [] env.qual none .none (some env)) (fun cenv s₄ =>
        cq M A (.compStart e 0 it acc { cenv with scope := relabel scope env }) (fun r s' => (∃ f, r = .ok f) ∧ compEnd M A E use Q acc cenv.locals s') s₄) E s₃) E s₂) E s₁) E s) :
    wq M A (comprehension e scope env pos newAcc false first use) Q E s := by
  unfold comprehension
  rw [hclos, hcl]
  refine wq_bind (wq_mono h (fun x s₁ h₁ => wq_bind (wq_standAt (wq_bind (wq_eq (hs x) (wq_pure (wq_bind (wq_holding (wq_mono h₁ (fun it s₂ h₂ =>
    wq_standIf (wq_bind (wq_mono h₂ (fun acc s₃ h₃ => wq_bind (wq_pure (wq_bind (wq_mono h₃ (fun cenv s₄ h₄ => ?_) fun _ _ h' => h')))) fun _ _ h' => h')))
      fun _ _ h' => h')))))))) fun _ _ h' => h')
  dsimp only
  have hv : ∀ x ∈ (scope.names.filter fun x => (x.2 == .local || x.2 == .cell) && x.1 != (".0" : Str)).reverse, x.2 = .local →
      Env.kindOf { cenv with scope := relabel scope env } x.1 = some .local := fun x hx hl => lookup_relabel_local (hnames x (List.mem_filter.mp (List.mem_reverse.mp hx)).1 hl)
  have hv' : ∀ x ∈ (scope.names.filter fun x => (x.2 == .local || x.2 == .cell) && x.1 != (".0" : Str)).reverse.drop 1 ++ (scope.names.filter fun x => (x.2 == .local || x.2 == .cell) && x.1 != (".0" : Str)).reverse.take 1,
      x.2 = .local → Env.kindOf { cenv with scope := relabel scope env } x.1 = some .local := fun x hx hl =>
    (List.mem_append.mp hx).elim (fun h1 => hv x (List.mem_of_mem_drop h1) hl) fun h1 => hv x (List.mem_of_mem_take h1) hl
  have go : ∀ (vs : List (Str × NameKind)) (cellsOf : List (Str × NameKind) → List Value) (s : Shared) (m : Str → Option Value) (Q : Unit → Shared → Prop), (∀ x ∈ vs, x.2 = .local → Env.kindOf { cenv with scope := relabel scope env } x.1 = some .local) → s.heap.Ns cenv.locals m →
      (∀ h', Heap.SameBut cenv.locals s.heap h' → Q () { s with heap := h' }) → wq M A (comprehension.letGo { cenv with scope := relabel scope env } cellsOf vs) Q E s := fun vs cellsOf s m Q h1 h2 h3 =>
    wq_of (wpAny_comp_letGo (cenv := { cenv with scope := relabel scope env }) hkind vs s m h1 h2 fun h' _ _ hs' => h3 h' hs')
  refine wq_holding (wq_bind (wq_attempt (wq_holding (wq_run (cq_mono h₄ fun r s' hr => ?_)))))
  obtain ⟨⟨f, rfl⟩, hr⟩ := hr
  unfold compEnd at hr
  cases use with
  | none =>
    obtain ⟨m, hn, hr⟩ := hr
    exact wq_bind (wq_holding (go _ _ s' m _ hv hn fun h' hs' => wq_pure (hr h' hs')))
  | some u =>
    refine wq_bind (wq_rule (wq_bind (wq_holding (wq_mono hr (fun _ s'' hr' => ?_) fun _ _ h' => h'))))
    obtain ⟨m, hn, hr'⟩ := hr'
    exact wq_bind (go _ _ s'' m _ hv' hn fun h' hs' => wq_pure (hr' h' hs'))
end
section
variable {prog : Program} {w : World} {A : Around} {R : Result → Shared → Prop} {s : Shared}
omit [Lo] in
noncomputable abbrev compTests' (ifs : List Expr) (env : Env) : Sem Bool :=
  forIn ifs true fun c r => if r = true then do let ok ← isTrue c env (eval c env); pure (ForInStep.yield ok) else pure (ForInStep.yield r)
omit [Lo] in
noncomputable def TurnIs (e target iter : Expr) (ifs : List Expr) (it acc : Value) (env : Env) (emit : Sem Unit) : Prop :=
  compTurn e 0 it acc env = (do
      standAt iter.pos
      match ← pyNext it with
      | none => pure (.done .next)
      | some v =>
        letOwnedTupleGo target it v
        assign target env v
        let mut ok := true
        for c in ifs do
          if ok then ok ← isTrue c env (eval c env)
        if ok then emit
        again (.compLoop e 0 it acc env))
theorem turnIs_list (elt target iter : Expr) (ifs : List Expr) (scope : Scope) (pos : Pos) (it acc : Value) (env : Env) :
    TurnIs (.ListComp elt [⟨target, iter, ifs, 0⟩] scope pos) target iter ifs it acc env (do let _ ← call (.builtin "list.append") [acc, ← eval elt env]) := compTurn_list ..
theorem cq_compLoop {e target iter : Expr} {ifs : List Expr} {it acc : Value} {env : Env} {emit : Sem Unit} (ht : TurnIs e target iter ifs it acc env emit) (I : Nat → Shared → Prop)
    (turn : ∀ n s, I n s → wq (model prog w) A (pyNext it) (fun r s₁ => match r with
      | none => R (.ok .next) s₁
      | some v => wq (model prog w) A (letOwnedTupleGo target it v) (fun _ s₁' => wq (model prog w) A (assign target env v) (fun _ s₂ =>
          wq (model prog w) A (compTests' ifs env) (fun ok s₃ =>
            if ok = true then wq (model prog w) A emit (fun _ s₅ => ∃ m, m < n ∧ I m s₅) (fun _ _ => False) s₃
            else ∃ m, m < n ∧ I m s₃) (fun _ _ => False) s₂) (fun _ _ => False) s₁') (fun _ _ => False) s₁) (fun _ _ => False) s)
    (n : Nat) (h : I n s) (hu : A.under (.compLoop e 0 it acc env) = A)
    (hden : (model prog w).den (.compLoop e 0 it acc env) = ((compTurn e 0 it acc env).onRaise (fun x => do noteFrame x env; theTreesLotGoes x))) :
    cq (model prog w) A (.compLoop e 0 it acc env) R s := by
  refine cq_loop trivial rfl I (fun n s hI => ?_) n h
  rw [hu, hden]
  refine wq_noted ?_
  rw [ht]
  refine wq_bind (wq_standAt (wq_bind (wq_mono (turn n s hI) (fun r s₁ h₁ => ?_) fun _ _ h' => h'.elim)))
  cases r with
  | none => exact wq_pure h₁
  | some v =>
    refine wq_bind (wq_mono h₁ (fun _ s₁' h₁ => ?_) fun _ _ h' => h'.elim)
    refine wq_bind (wq_mono h₁ (fun _ s₂ h₂ => wq_bind (wq_mono h₂ (fun ok s₃ h₃ => ?_) fun _ _ h' => h'.elim)) fun _ _ h' => h'.elim)
    cases ok with
    | false => exact wq_pure (.inl ⟨rfl, h₃⟩)
    | true => exact wq_bind (wq_mono h₃ (fun _ s₅ h₅ => wq_pure (.inl ⟨rfl, h₅⟩)) fun _ _ h' => h'.elim)
theorem wq_notedAt {α : Type} {M : Model} {A : Around} {env : Env} {m : Sem α} {pos : Pos} {Q : α → Shared → Prop} {E : Value → Shared → Prop} {s : Shared} (h : wq M A m Q (fun _ _ => False) s) :
    wq M A (m.onRaise fun x => do noteFrame x env; standAt pos) Q E s :=
  wq_onRaise (wq_mono h (fun _ _ q => q) fun _ _ hx => hx.elim)
theorem cq_compStart {e target iter : Expr} {ifs : List Expr} {it acc : Value} {env : Env} (hcl : clausesOf e = [⟨target, iter, ifs, 0⟩])
    (hden : (model prog w).den (.compStart e 0 it acc env) = ((compStart e 0 it acc env).onRaise (fun x => do noteFrame x env; standAt theWindowsPlace)))
    (h0 : cq (model prog w) A (.compLoop e 0 it acc env) R s)
    (hself : ∀ (Q : Value → Shared → Prop) (E : Value → Shared → Prop), Q it s → wpAny (model prog w) A (pyIter it) Q E s) (hu : A.under (.compStart e 0 it acc env) = A) :
    cq (model prog w) A (.compStart e 0 it acc env) R s := by
  refine cq_of_tree trivial ?_
  rw [hu, hden]
  refine wq_notedAt ?_
  unfold compStart
  rw [hcl]
  show wq _ A (ask >>= _) _ _ s
  refine wq_bind (wq_of (wpAny_askSetting ?_))
  show wq _ _ (if _ then _ else _) _ _ _
  split
  · exact wq_bind (wq_pure (wq_pure (And.intro rfl h0)))
  · refine wq_bind (wq_rule ?_)
    show wq _ _ (standAt iter.pos >>= _) _ _ s
    exact wq_bind (wq_standAt (wq_bind (wq_of (hself _ _ (wq_pure (And.intro rfl h0))))))
end
end Mine
namespace Mine
open PySem PySem.W PyProof.Rows
variable [Lo]
variable {W : World}
omit [Lo] in
noncomputable abbrev accS (D : Addr) (v : AV) : Sto := [("__classdict__", ⟨some D, v⟩)]
omit [Lo] in
noncomputable def clGo (cells : List (Str × Addr)) : List (Str × NameKind) → List (Str × Addr) → List (Str × Addr)
  | [], acc => acc
  | (n, k) :: r, acc => clGo cells r (if k == .free then match cells.lookup n with | some a => (n, a) :: acc | none => acc else acc)
omit [Lo] in
noncomputable def clOf (scope : Scope) (cells : List (Str × Addr)) : List (Str × Addr) := clGo cells scope.names []
omit [Lo] in
noncomputable def freeOk (names : List (Str × NameKind)) (cells : List (Str × Addr)) : Bool := names.all fun x => x.2 != .free || (cells.lookup x.1).isSome
theorem closure_go {env : Env} (f : Str × NameKind → List (Str × Addr) → Sem (ForInStep (List (Str × Addr))))
    (hf : ∀ n k c, f (n, k) c = if (k == NameKind.free) = true then (do let a ← cellOf env n; pure (.yield ((n, a) :: c))) else pure (.yield c)) :
    ∀ (names : List (Str × NameKind)) (acc : List (Str × Addr)), freeOk names env.cells = true → forIn names acc f = (pure (clGo env.cells names acc) : Sem _)
  | [], acc, _ => rfl
  | (n, k) :: r, acc, h => by
    obtain ⟨h1, h2⟩ := Bool.and_eq_true_iff.mp (show ((k != .free || (env.cells.lookup n).isSome) && freeOk r env.cells) = true from h)
    rw [List.forIn_cons, hf]
    by_cases hk : (k == NameKind.free) = true
    · have hk' : k = .free := by simpa using hk
      have hs : (env.cells.lookup n).isSome = true := by simpa [hk'] using h1
      obtain ⟨a, ha⟩ := Option.isSome_iff_exists.mp hs
      rw [if_pos hk]
      unfold clGo
      rw [if_pos hk]
      simp only [cellOf, ha]
      exact closure_go f hf r ((n, a) :: acc) h2
    · rw [if_neg hk]
      unfold clGo
      rw [if_neg hk]
      exact closure_go f hf r acc h2
theorem closure_of {scope : Scope} {env : Env} (h : freeOk scope.names env.cells = true) : closureFor scope env = pure (clOf scope env.cells) := by
  simp only [closureFor]
  rw [closure_go _ (fun n k c => by cases hk : k == NameKind.free <;> simp [hk]) scope.names [] h]
  rfl
theorem clGo_lookup {cells : List (Str × Addr)} : ∀ (names : List (Str × NameKind)) (acc : List (Str × Addr)), (∀ x a, acc.lookup x = some a → cells.lookup x = some a) →
    ∀ x a, (clGo cells names acc).lookup x = some a → cells.lookup x = some a
  | [], acc, h, x, a, e => h x a e
  | (n, k) :: r, acc, h, x, a, e => by
    refine clGo_lookup r _ ?_ x a e
    intro y b hb
    split at hb
    · split at hb
      · rename_i c hc
        rw [List.lookup_cons] at hb
        split at hb
        · rename_i q; (have hb := Option.some.inj hb; subst hb); rw [beq_iff_eq.mp q]; exact hc
        · exact h y b hb
      · exact h y b hb
    · exact h y b hb
theorem clOf_lookup {scope : Scope} {cells : List (Str × Addr)} {x : Str} {a : Addr} (h : (clOf scope cells).lookup x = some a) : cells.lookup x = some a :=
  clGo_lookup scope.names [] (fun _ _ e => by simp at e) x a h
theorem clGo_acc {cells : List (Str × Addr)} {x : Str} : ∀ (names : List (Str × NameKind)) (acc : List (Str × Addr)), (acc.lookup x).isSome = true → ((clGo cells names acc).lookup x).isSome = true
  | [], acc, h => h
  | (n, k) :: r, acc, h => by
    refine clGo_acc r _ ?_
    split
    · split
      · rw [List.lookup_cons]; split <;> simp_all
      · exact h
    · exact h
theorem clGo_some {cells : List (Str × Addr)} {x : Str} {a : Addr} (hx : cells.lookup x = some a) : ∀ (names : List (Str × NameKind)) (acc : List (Str × Addr)), names.lookup x = some .free → ((clGo cells names acc).lookup x).isSome = true
  | [], acc, h => by simp at h
  | (n, k) :: r, acc, h => by
    rw [List.lookup_cons] at h
    unfold clGo
    split at h
    · rename_i q; (have h := Option.some.inj h; subst h)
      rw [if_pos (by rfl), ← beq_iff_eq.mp q, hx]
      exact clGo_acc r _ (by simp [List.lookup_cons])
    · exact clGo_some hx r _ h
theorem clOf_some {scope : Scope} {cells : List (Str × Addr)} {x : Str} {a : Addr} (hx : cells.lookup x = some a) (h : scope.names.lookup x = some .free) : (clOf scope cells).lookup x = some a := by
  refine x1a1 (Option.isSome_iff_exists.mp (clGo_some hx scope.names [] h)) fun b hb => ?_
  have := clOf_lookup hb
  rw [hx] at this; (have this := Option.some.inj this; subst this); exact hb
omit [Lo] in
noncomputable def Cx.comp (X : Cx) (scope : Scope) (C : Addr) (T : Tx) (s : Shared) (B : Addr → Prop) : Cx :=
  { X with env := compEnvC scope (clOf scope X.env.cells) C X.env, T0 := T, s0 := s, B0 := B, inner := true }
omit [Lo] in
inductive SeenL (X : Cx) (σ : Sto) (scope : Scope) : Sto → Prop where
  | nil : SeenL X σ scope []
  | cons {x : Str} {v : AV} {σc : Sto} : σ.get x = some ⟨none, v⟩ → X.env.kindOf x = some .cell → scope.names.lookup x = some .free → (relabel scope X.env).names.lookup x = some .cell → SeenL X σ scope σc → SeenL X σ scope ((x, ⟨none, v⟩) :: σc)
theorem SeenL.get {X : Cx} {σ : Sto} {scope : Scope} {σc : Sto} (h : SeenL X σ scope σc) {x : Str} {c : Cell} : σc.get x = some c →
    c.own = none ∧ σ.get x = some c ∧ X.env.kindOf x = some .cell ∧ scope.names.lookup x = some .free ∧ (relabel scope X.env).names.lookup x = some .cell := by
  induction h with
  | nil => intro e; exact absurd e (by simp [Sto.get])
  | @cons y v σc h1 h2 h3 h4 _ ih =>
    intro e
    rw [Sto.get_cons] at e
    split at e
    · rename_i q; subst q; (have e := Option.some.inj e; subst e); exact ⟨rfl, h1, h2, h3, h4⟩
    · exact ih e
theorem get_append (σ τ : Sto) (x : Str) : Sto.get (σ ++ τ) x = (Sto.get σ x).or (Sto.get τ x) := by
  induction σ with
  | nil => simp [Sto.get]
  | cons p σ ih =>
    obtain ⟨y, c⟩ := p
    rw [List.cons_append, Sto.get_cons, Sto.get_cons, ih]
    split <;> simp
noncomputable def TeL (X : Cx) (ifs : List Expr) (σ : Sto) (b : Bool) : Prop := ∀ T s, St X σ T s →
  wq X.M X.A (compTests' ifs X.env) (PB T s b) noE s
theorem TeL.nil {X : Cx} {σ : Sto} : TeL X [] σ true := fun T s S => wq_pure ⟨rfl, T, .refl _ _⟩
theorem TeL.one {X : Cx} {σ : Sto} {c : Expr} {b : Bool} (h : Te X c σ b) : TeL X [c] σ b := fun T s S => by
  unfold compTests'
  simp only [List.forIn_cons, List.forIn_nil, if_true]
  exact wq_bind (wq_bind (wq_mono (h T s S) (fun b s' hb => wq_pure (wq_pure hb)) fun _ _ x => x))
noncomputable def EmitOk (X : Cx) (t : Sem Unit) (σ : Sto) (D : Addr) (av' : AV) : Prop := ∀ T s, St X σ T s →
  wq X.M X.A t (fun _ s' => ∃ T', Nx X σ T s (σ.updO "__classdict__" D av') T' s') (fun _ _ => False) s
noncomputable def CTurn (X : Cx) (target : Expr) (ifs : List Expr) (t : Sem Unit) (σc : Sto) (D : Addr) (x av av' : AV) : Prop :=
  ∃ σ₁, Binds X target x (σc ++ accS D av) σ₁ ∧ ∃ b, TeL X ifs σ₁ b ∧
    (b = false → av' = av ∧ Sto.Sub (σc ++ accS D av) σ₁) ∧
    (b = true → EmitOk X t σ₁ D av' ∧ Sto.Sub (σc ++ accS D av') (σ₁.updO "__classdict__" D av'))
section
variable {X : Cx} {σ : Sto} {T : Tx} {s : Shared}
theorem comp_ban {scope : Scope} {σc : Sto} {C D : Addr} {T₁ : Tx} {s₁ : Shared} {av : AV} (seen : SeenL X σ scope σc) {b : Addr}
    (h : (X.comp scope C T₁ s₁ (X.ban σ)).ban (σc ++ accS D av) b) : X.ban σ b ∨ b = C ∨ b = D := by
  rcases h with h | h | ⟨x, h⟩ | ⟨x, v, h⟩
  · exact .inl h
  · exact .inr (.inl h)
  · exact .inl (.inr (.inr (.inl ⟨x, clOf_lookup h⟩)))
  · rw [get_append] at h
    cases e : σc.get x with
    | none =>
      rw [e, Option.none_or, Sto.get_cons] at h
      split at h
      · cases Option.some.inj h; exact .inr (.inr rfl)
      · exact absurd h (by simp [Sto.get])
    | some c =>
      rw [e] at h
      simp only [Option.some_or] at h
      (have h := Option.some.inj h; subst h)
      have := (seen.get e).1
      exact sn this
theorem StB.comp (S : St X σ T s) {scope : Scope} {σc : Sto} {C D : Addr} {T' : Tx} {s' : Shared} {av : AV} (seen : SeenL X σ scope σc) (l : Le T s T' s') (hkind : scope.kind = .function)
    (hacc : (relabel scope X.env).names.lookup ("__classdict__" : Str) = none) (hC : s.heap.objs.size ≤ C) (hD : s.heap.objs.size ≤ D) (hDC : D ≠ C) {m : Str → Option Value} (hn : s'.heap.Ns C m)
    (r : OwnRep X.w ((X.comp scope C T s (X.ban σ)).ban (σc ++ accS D av)) T' s'.toks s'.heap D av) : St (X.comp scope C T s (X.ban σ)) (σc ++ accS D av) T' s' := by
  have nob : ∀ b, X.ban σ b → b ≠ C ∧ b ≠ D := fun b hb => ⟨fun q => Nat.lt_irrefl _ (Nat.lt_of_lt_of_le (S.ban_lt hb) (q ▸ hC)), fun q => Nat.lt_irrefl _ (Nat.lt_of_lt_of_le (S.ban_lt hb) (q ▸ hD))⟩
  have S' := S.le_mono l
  have own : ∀ a, Sto.owned (σc ++ accS D av) a → a = D := fun a t_0 => x2a1 t_0 fun x v h => by
    rw [get_append] at h
    cases e : σc.get x with
    | none =>
      rw [e, Option.none_or, Sto.get_cons] at h
      split at h
      · cases h; rfl
      · exact absurd h (by simp [Sto.get])
    | some c =>
      rw [e] at h
      simp only [Option.some_or] at h
      cases h
      have := (seen.get e).1
      cases this
  exact {
    ok := {
      a := S.ok.a
      hh := S.ok.hh
      kind := hkind
      glob := S.ok.glob
      bu := S.ok.bu
      pg := S.pg
      nb := Nat.le_trans S.ok.nb S.le.ext.1
      hB := fun a q => ⟨S.ban_ge q, S.ban_lt q⟩
      locals := hC
      cl := fun x a q => S.ok.cl x a (clOf_lookup q) }
    le := l
    pos := S'.pos
    fro := S'.fro
    vars := by
      refine ⟨m, hn, fun x c e => ?_⟩
      rw [get_append] at e
      cases e1 : σc.get x with
      | none =>
        rw [e1, Option.none_or, Sto.get_cons] at e
        split at e
        · rename_i q; subst q; cases e
          refine ⟨.ref D, ?_, rfl, r⟩
          unfold VarAt
          rw [show (X.comp scope C T s (X.ban σ)).env.kindOf "__classdict__" = none from hacc]
        · exact absurd e (by simp [Sto.get])
      | some c' =>
        rw [e1] at e
        simp only [Option.some_or] at e
        cases e
        refine x0a5 (seen.get e1) fun h0 h1 h2 h3 h4 => ?_
        refine x1a2 (S.vars) fun m₀ hn₀ hv₀ => ?_
        refine x1a2 (hv₀ x c h1) fun v w1 w2 => ?_
        unfold VarAt at w1
        rw [h2] at w1
        refine x1a2 w1 fun a c1 c2 => ?_; (try clear w1)
        refine ⟨v, ?_, ?_⟩
        · unfold VarAt
          rw [show (X.comp scope C T s (X.ban σ)).env.kindOf x = some .cell from h4]
          exact ⟨a, clOf_some c1 h3, isCell_ext c2 l.ext⟩
        · refine w2.mono l.toks l.tx l.ext fun b q => ?_
          rcases comp_ban seen q with q | q | q
          · exact .inl q
          · exact .inr (Heap.get?_none_of_le (q ▸ hC))
          · exact .inr (Heap.get?_none_of_le (q ▸ hD))
    cells := fun x a q => by
      have q' := clOf_lookup q
      refine x0a3 (S'.cells x a q') fun h1 h2 t_0 => ?_; refine x1a1 t_0 fun v h3 => ?_; (try clear t_0)
      exact ⟨(fun h => by cases h), (nob a (.inr (.inr (.inl ⟨x, q'⟩)))).1, v, h3⟩
    apart := fun x y a h1 h2 => S.apart x y a (clOf_lookup h1) (clOf_lookup h2)
    fresh := fun a o => by
      obtain rfl := own a o
      exact ⟨hD, hDC, fun x q => (nob a (.inr (.inr (.inl ⟨x, clOf_lookup q⟩)))).2 rfl⟩
    one := fun x y a v v' h1 h2 => by
      have f : ∀ x v, Sto.get (σc ++ accS D av) x = some ⟨some a, v⟩ → x = "__classdict__" := fun x v h => by
        rw [get_append] at h
        cases e : σc.get x with
        | none =>
          rw [e, Option.none_or, Sto.get_cons] at h
          split at h
          · assumption
          · exact absurd h (by simp [Sto.get])
        | some c =>
          rw [e] at h
          simp only [Option.some_or] at h
          cases h
          have := (seen.get e).1
          cases this
      exact (f x v h1).trans (f y v' h2).symm }
end
omit [Lo] in
noncomputable def NewOk (X : Cx) (newAcc : Sem Value) (av : AV) : Prop := ∃ o : Obj, o.isFreed = false ∧ (∀ B T n (h : Heap) a, 4 ≤ a → h.get? a = some o → OwnRep X.w B T n h a av) ∧
  ∀ (s : Shared) (Q : Value → Shared → Prop) (E : Value → Shared → Prop), Q (.ref s.heap.objs.size) { s with heap := s.heap.push o } → wpAny X.M X.A newAcc Q E s
omit [Lo] in
structure CompShape (X : Cx) (e target iter : Expr) (ifs : List Expr) (scope : Scope) (emit : Addr → Env → Sem Unit) : Prop where
  cl : clausesOf e = [⟨target, iter, ifs, 0⟩]
  turn : ∀ it D env, TurnIs e target iter ifs it (.ref D) env (emit D env)
  u1 : ∀ it acc env, X.A.under (.compLoop e 0 it acc env) = X.A
  u2 : ∀ it acc env, X.A.under (.compStart e 0 it acc env) = X.A
  d1 : ∀ it acc env, X.M.den (.compLoop e 0 it acc env) = ((compTurn e 0 it acc env).onRaise (fun x => do noteFrame x env; theTreesLotGoes x))
  d2 : ∀ it acc env, X.M.den (.compStart e 0 it acc env) = ((compStart e 0 it acc env).onRaise (fun x => do noteFrame x env; standAt theWindowsPlace))
omit [Lo] in
structure ScopeOk (X : Cx) (scope : Scope) : Prop where
  free : freeOk scope.names X.env.cells = true
  kind : scope.kind = .function
  names : ∀ x ∈ scope.names, x.2 = .local → scope.names.lookup x.1 = some .local
  cell : ∀ x ∈ scope.names, x.2 ≠ .cell
  acc : (relabel scope X.env).names.lookup ("__classdict__" : Str) = none
structure ItrC (X : Cx) (B : Addr → Prop) (target : Expr) (it : Value) (xs : List AV) (T1 : Tx) (s1 : Shared) (I : Addr → Prop) (J : Nat → Heap → Prop) : Prop where
  own : ∀ b, I b → s1.heap.objs.size ≤ b
  same : ∀ k h h', J k h → (∀ b o, I b → h.get? b = some o → ∃ sl, h'.get? b = some { o with slots := keepS b o sl }) → J k h'
  there : ∀ k h, J k h → ∀ b, I b → b < h.objs.size
  next : ∀ k (x : AV) T s (B' : Addr → Prop), xs[k]? = some x → J k s.heap → Le T1 s1 T s → (∀ b, B' b → b < s1.heap.objs.size → B b) → (∀ b, B' b → b < s.heap.objs.size ∧ ¬ I b) → X.G.In s.heap → 0 < s.toks →
    wpAny X.M X.A (pyNext it) (fun r s₁ => ∃ v, r = some v ∧ wpAny X.M X.A (letOwnedTupleGo target it v) (fun _ s' => ∃ T', Mv s1.heap.objs.size T s T' s' ∧ Rep X.w B' T' s'.toks s'.heap v x ∧ J (k + 1) s'.heap) (fun _ _ => False) s₁) (fun _ _ => False) s
  stop : ∀ T s, J xs.length s.heap → Le T1 s1 T s → X.G.In s.heap → 0 < s.toks →
    wpAny X.M X.A (pyNext it) (fun r s' => r = none ∧ ∃ T', Mv s1.heap.objs.size T s T' s') (fun _ _ => False) s
  self : ∀ k (s : Shared) (Q : Value → Shared → Prop) (E : Value → Shared → Prop), J k s.heap → Q it s → wpAny X.M X.A (pyIter it) Q E s
noncomputable def EvIC (X : Cx) (iter : Expr) (target : Expr) (σ : Sto) (xs : List AV) : Prop := ∀ T s, St X σ T s →
  wq X.M X.A (eval iter X.env) (fun x s₁ => wq X.M X.A (pyIter x) (fun it s₂ => ∃ T₀ s₀ T₂ I J, Le T s T₀ s₀ ∧ Le T₀ s₀ T₂ s₂ ∧ ItrC X (X.ban σ) target it xs T₀ s₀ I J ∧ J 0 s₂.heap) (fun _ _ => False) s₁) (fun _ _ => False) s
theorem EvI.c {X : Cx} {σ : Sto} {iter target : Expr} {xs : List AV} (h : EvI X iter target σ xs) : EvIC X iter target σ xs := fun T s S =>
  wq_mono (h T s S) (fun _ _ h₁ => wq_mono h₁ (fun _ _ t_0 => x5a4 t_0 fun T₀ s₀ T₂ I J a b itr j => ⟨T₀, s₀, T₂, I, J, a, b,
    ⟨itr.own, itr.same, itr.there, fun k x T s B' h1 h2 h3 => itr.next k x T s B' h1 h2 (h3.leB _), fun T s h1 h2 => itr.stop T s h1 (h2.leB _), itr.self⟩, j⟩) fun _ _ x => x) fun _ _ x => x
section
variable {X : Cx} {σ : Sto} {T : Tx} {s : Shared}
theorem comp_core {e target iter : Expr} {ifs : List Expr} {scope : Scope} {pos : Pos} {emit : Addr → Env → Sem Unit} {newAcc : Sem Value} {use : Option (Value → Sem Unit)} {xs : List AV} {σc : Sto} {vals : Nat → AV}
    {Q : Value → Shared → Prop} {E : Value → Shared → Prop} (S : St X σ T s) (h : EvIC X iter target σ xs) (sh : CompShape X e target iter ifs scope emit) (so : ScopeOk X scope) (seen : SeenL X σ scope σc) (hnew : NewOk X newAcc (vals 0))
    (turn : ∀ C D T₁ s₁ k x, xs[k]? = some x → CTurn (X.comp scope C T₁ s₁ (X.ban σ)) target ifs (emit D (compEnvC scope (clOf scope X.env.cells) C X.env)) σc D x (vals k) (vals (k + 1)))
    (fin : ∀ C D T₁ s₁ T' s', Le T s T₁ s₁ → St X σ T₁ s₁ → s₁.heap.objs.size ≤ C → s₁.heap.objs.size ≤ D → D ≠ C → St (X.comp scope C T₁ s₁ (X.ban σ)) (σc ++ accS D (vals xs.length)) T' s' → compEnd X.M X.A E use Q (.ref D) C s')
    (hs : autoParam (∀ x, foldedSetIterable iter X.env x = pure x) byI1) :
    wq X.M X.A (comprehension e scope X.env pos newAcc false (eval iter X.env) use) Q E s := by
  refine wq_comprehension sh.cl hs (closure_of so.free) so.kind so.names ?_
  refine wq_mono (h T s S) (fun v s' h₁ => ?_) fun _ _ x => x.elim
  refine wq_mono h₁ (fun it s₂ t_0 => x5a4 t_0 fun T₁ s₁ T₂ Io J l₁ l₂ itr j0 => ?_) fun _ _ x => x.elim
  have S₁ := S.le_mono l₁
  have S₂ := S₁.le_mono l₂
  refine x1a3 hnew fun o hof hown hmake => ?_; (try clear hnew)
  refine wq_of (hmake s₂ _ _ ?_)
  refine wq_of (wpAny_newFunctionEnv so.cell (by intro y hy; simp at hy) (fun h₁ hns₁ hsb₁ => ?_) so.kind)
  have hCs : ({ s₂ with heap := s₂.heap.push o } : Shared).heap.objs.size = s₂.heap.objs.size + 1 := Heap.size_push ..
  revert hns₁ hsb₁
  generalize hC : ({ s₂ with heap := s₂.heap.push o } : Shared).heap.objs.size = C
  rw [hCs] at hC
  intro hns₁ hsb₁
  generalize hD : s₂.heap.objs.size = D at hC
  have hDC : D ≠ C := by (clear hD hCs; lia)
  have lt1 : ∀ b, b < s₂.heap.objs.size → b ≠ C ∧ b ≠ D := fun b hb => ⟨Nat.ne_of_lt (Nat.lt_trans hb (by rw [hD, ← hC]; exact Nat.lt_succ_self _)), Nat.ne_of_lt (hD ▸ hb)⟩
  have hold : ∀ b ob, s₂.heap.get? b = some ob → h₁.get? b = some ob := fun b ob eb => by
    exact hsb₁.extBut b ob (lt1 b (Heap.lt_size eb)).1 (Heap.get?_push_of_some _ (Heap.get?_push_of_some _ eb))
  have hgetD : h₁.get? D = some o := hsb₁.extBut _ _ hDC (Heap.get?_push_of_some _ (hD ▸ Heap.get?_push_size _ hof))
  have l₃ : Le T₂ s₂ T₂ ({ s₂ with heap := h₁, toks := s₂.toks + ([] : List (Str × Value)).length } : Shared) :=
    Le.mk' (Ext.keeps (by have h0 : (D : Nat) < h₁.objs.size := Heap.lt_size hgetD; rw [hD]; exact Nat.le_of_lt h0) hold) (Nat.le_add_right _ _)
  have l₁₃ := l₂.trans l₃
  have big : 4 ≤ D := hD ▸ S₂.big
  have hCs₁ : s₁.heap.objs.size ≤ C := by have := l₂.ext.1; (clear hCs; lia)
  have hDs₁ : s₁.heap.objs.size ≤ D := by have := l₂.ext.1; (clear hCs₁ hC hCs; lia)
  have nIo : ∀ b, Io b → ∀ av, ¬ (X.comp scope C T₁ s₁ (X.ban σ)).ban (σc ++ accS D av) b := fun b hb av q => by
    have h1 := itr.own b hb
    have h2 := itr.there _ _ j0 b hb
    rcases comp_ban seen q with q | q | q
    · exact Nat.lt_irrefl _ (Nat.lt_of_lt_of_le (S₁.ban_lt q) h1)
    · exact (lt1 b h2).1 q
    · exact (lt1 b h2).2 q
  have St0 := S₁.comp (C := C) (D := D) (av := vals 0) (T' := T₂) seen l₁₃ so.kind so.acc hCs₁ hDs₁ hDC hns₁ (hown _ _ _ _ _ big hgetD)
  have hold' : ∀ k, J k s₂.heap → J k h₁ := fun k hj => itr.same k _ _ hj fun b ob _ eb => ⟨_, keepS_re (hold b ob eb)⟩
  show cq X.M X.A (.compStart e 0 it (.ref D) (compEnvC scope (clOf scope X.env.cells) C X.env)) _ _
  refine cq_compStart sh.cl (sh.d2 _ _ _) ?_ (fun Q E q => itr.self 0 _ Q E (hold' 0 j0) q) (sh.u2 _ _ _)
  let K : Nat → Shared → Prop := fun n s' => ∃ T' k, n = xs.length - k ∧ k ≤ xs.length ∧ St (X.comp scope C T₁ s₁ (X.ban σ)) (σc ++ accS D (vals k)) T' s' ∧ J k s'.heap
  refine cq_compLoop (sh.turn it D _) K (fun n s' t_0 => x2a4 t_0 fun T' k hn hk S' hj => ?_) xs.length ⟨T₂, 0, rfl, Nat.zero_le _, St0, hold' 0 j0⟩ (sh.u1 _ _ _) (sh.d1 _ _ _)
  by_cases hkx : k < xs.length
  · have hx : xs[k]? = some xs[k] := List.getElem?_eq_getElem hkx
    refine wq_mono (wq_of <| itr.next k xs[k] T' s' ((X.comp scope C T₁ s₁ (X.ban σ)).ban (σc ++ accS D (vals k))) hx hj S'.le (fun b q hlt => ?_) (fun b q => ⟨S'.ban_lt q, fun i => nIo b i _ q⟩) S'.pg S'.pos) (fun r s₃ t_0 => x1a2 t_0 fun v hr h₃ => ?_) fun _ _ x => x.elim
    · rcases comp_ban seen q with q | q | q
      · exact q
      · exact absurd q (lt1 b (Nat.lt_of_lt_of_le hlt l₂.ext.1)).1
      · exact absurd q (lt1 b (Nat.lt_of_lt_of_le hlt l₂.ext.1)).2
    subst hr
    refine wq_mono (wq_of h₃) (fun _ s₄ t_0 => x1a3 t_0 fun T₄ mv rep hj' => ?_) fun _ _ x => x.elim
    have S₄ := S'.mv mv (Nat.le_refl _)
    refine x1a2 (turn C D T₁ s₁ k xs[k] hx) fun σ₁ hb t_0 => ?_; refine x1a3 t_0 fun b ht hf htr => ?_; (try clear t_0)
    refine wq_mono (hb T₄ s₄ v S₄ rep) (fun _ s₅ t_0 => x1a1 t_0 fun T₅ n₅ => ?_) fun _ _ x => x.elim
    refine wq_mono (ht T₅ s₅ n₅.st) (fun c s₆ t_0 => x0a2 t_0 fun hc t_1 => x1a1 t_1 fun T₆ l₆ => ?_) fun _ _ x => x.elim
    subst hc
    have n₆ := n₅.trans (.of_le n₅.st l₆)
    have jn : ∀ {σ' : Sto} {T'' : Tx} {s'' : Shared}, Nx (X.comp scope C T₁ s₁ (X.ban σ)) (σc ++ accS D (vals k)) T₄ s₄ σ' T'' s'' → J (k + 1) s''.heap := fun n =>
      itr.same _ _ _ hj' fun b ob i eb => n.le.ext b ob (nIo b i _) eb
    cases hc : c with
    | false =>
      subst hc
      refine x0a2 (hf rfl) fun hv hsub => ?_
      show ∃ m, m < n ∧ K m s₆
      exact ⟨xs.length - (k + 1), by (clear hDs₁ hCs₁ hC hD hCs; omega), T₆, k + 1, rfl, hkx, by rw [hv]; exact n₆.st.sub hsub, jn n₆⟩
    | true =>
      subst hc
      refine x0a2 (htr rfl) fun hem hsub => ?_
      refine wq_mono (hem T₆ s₆ n₆.st) (fun _ s₇ t_0 => x1a1 t_0 fun T₇ n₇ => ?_) fun _ _ x => x.elim
      exact ⟨xs.length - (k + 1), by (clear hDs₁ hCs₁ hC hD hCs; omega), T₇, k + 1, rfl, hkx, n₇.st.sub hsub, jn (n₆.trans n₇)⟩
  · obtain rfl : k = xs.length := by (clear hn t_0 hDs₁ hCs₁ big hC hD hCs; lia)
    refine wq_mono (wq_of <| itr.stop T' s' hj S'.le S'.pg S'.pos) (fun r s₃ t_0 => x0a2 t_0 fun hr t_1 => x1a1 t_1 fun T₃ mv => ?_) fun _ _ x => x.elim
    subst hr
    exact ⟨⟨_, rfl⟩, fin C D T₁ s₁ T₃ s₃ l₁ S₁ hCs₁ hDs₁ hDC (S'.mv mv (Nat.le_refl _))⟩
end
end Mine
namespace Mine
open PySem PySem.W PyProof.Rows
variable [Lo]
variable {W : World}
section
variable {B : Addr → Prop} {X : Cx} {σ : Sto} {T : Tx} {s : Shared}
theorem StB.ownAt (S : StB B X σ T s) {x : Str} {a : Addr} {av : AV} (hx : σ.get x = some ⟨some a, av⟩) : OwnRep X.w B T s.toks s.heap a av := by
  refine x1a2 (S.vars) fun m hn hv => ?_
  refine x1a3 (hv x _ hx) fun v _ _ r => ?_
  exact r
theorem StB.off (S : StB B X σ T s) {C : Addr} {h' : Heap} (hs : Heap.SameBut C s.heap h') (hB : B C) (hC : X.s0.heap.objs.size ≤ C) (hl : C ≠ X.env.locals) (hc : ∀ x, X.env.cells.lookup x ≠ some C) (ho : ¬ σ.owned C)
    (hfr : FrOk h' X.fr) : StB B X σ T { s with heap := h' } where
  ok := S.ok
  le := S.le_turn hC hs (Nat.le_refl _)
  pos := S.pos
  fro := hfr
  vars := by
    refine x1a2 (S.vars) fun m hn hv => ?_
    refine ⟨m, hn.sameBut hs (Ne.symm hl), fun y c e => ?_⟩
    refine x1a2 (hv y c e) fun v h1 h2 => ?_
    refine ⟨v, ?_, ?_⟩
    · unfold VarAt at *
      split at h1
      · exact h1
      · refine x1a2 h1 fun a c1 c2 => ?_; (try clear h1)
        exact ⟨a, c1, c2.sameBut hs fun z => hc y (z ▸ c1)⟩
      · refine x1a2 h1 fun a c1 c2 => ?_; (try clear h1)
        exact ⟨a, c1, c2.sameBut hs fun z => hc y (z ▸ c1)⟩
      · exact h1
    · refine h2.but (fun b o hb e => (hs.2 b fun q => hb (q ▸ hB)).trans e) fun a o ha e => (hs.2 a fun q => ho ?_).trans e
      obtain ⟨c0, c1⟩ := c
      cases ha
      exact ⟨y, c1, q ▸ ‹_›⟩
  cells := fun x a q => x0a3 (S.cells x a q) fun h1 h2 t_0 => x1a1 t_0 fun v h3 => ⟨h1, h2, v, h3.sameBut hs fun z => hc x (z ▸ q)⟩
  apart := S.apart
  fresh := S.fresh
  one := S.one
theorem frOk_both {h h₂ h' : Heap} : ∀ {l : List Env}, FrOk h l → FrOk h₂ l → (∀ b, FrAt h b → FrAt h₂ b → FrAt h' b) → FrOk h' l
  | [], _, _, _ => trivial
  | env :: r, ⟨a1, ⟨L, a2, a3⟩, a4⟩, ⟨_, ⟨L', b2, b3⟩, b4⟩, k => ⟨a1, ⟨L, a2, k L a3 (by rw [a2] at b2; (have b2 := Option.some.inj b2; subst b2); exact b3)⟩, frOk_both a4 b4 k⟩
theorem Nx.turned {x : Str} {a : Addr} {av av' : AV} {T' : Tx} {s' : Shared} {h' : Heap} (S : St X σ T s) (l : Le T s T' s') (hx : σ.get x = some ⟨some a, av⟩) (hs : Heap.SameBut a s'.heap h') (r : OwnRep X.w (X.ban σ) T' s'.toks h' a av') :
    Nx X σ T s (σ.updO x a av') T' { s' with heap := h' } := by
  have S' := S.le_mono l
  refine ⟨S'.turn hx hs r, (l.leB _).trans (LeB.turn (k := s'.toks) hs (.inr (.inr (.inr ⟨x, av, hx⟩))) (Nat.le_refl _)) fun _ _ q => q, fun b hb q => ?_⟩
  rcases Cx.ban_updO q with q | q
  · exact q
  · exact q ▸ .inr (.inr (.inr ⟨x, av, hx⟩))
end
section
variable {X : Cx} {σ : Sto}
omit [Lo] in
noncomputable abbrev emitL (elt : Expr) (D : Addr) (env : Env) : Sem Unit := do let _ ← call (.builtin "list.append") [.ref D, ← eval elt env]
theorem EmitOk.list {elt : Expr} {D : Addr} {l : List AV} {y : AV} (h : Ev X elt σ y) (hx : σ.get "__classdict__" = some ⟨some D, .list l⟩) (hq : X.quiet = true) (hsz : l.length ≤ 16777216) : EmitOk X (emitL elt D X.env) σ D (.list (l ++ [y])) := fun T s S => by
  refine wq_bind (h.then S fun v T' s' l' S' rv => wq_bind ?_)
  refine wq_mono (mut_append hsz X (X.ban σ) T' s' D [v] S'.ok hq (.inr (.inr (.inr ⟨_, _, hx⟩))) (fun b q => S'.ban_lt q) S'.pg S'.pos (S'.ownAt hx) (.cons rv .nil)) (fun _ s'' t_0 => x3a4 t_0 fun T'' s₁ h' l'' hs e r => ?_) fun _ _ x => x.elim
  subst e
  exact wq_pure ⟨T'', Nx.turned S (l'.trans l'') hx hs r⟩
theorem compShape_list (elt target iter : Expr) (ifs : List Expr) (scope : Scope) (pos : Pos) : CompShape X (.ListComp elt [⟨target, iter, ifs, 0⟩] scope pos) target iter ifs scope (emitL elt) where
  cl := rfl
  turn := fun it D env => turnIs_list ..
  u1 := fun it acc env => under_self rfl rfl
  u2 := fun it acc env => under_self rfl rfl
  d1 := fun it acc env => rfl
  d2 := fun it acc env => rfl
theorem newOk_list : NewOk X (newList []) (.list []) :=
  ⟨{ cls := .type "list", data := .seq #[] }, rfl, fun B T n h a _ e => .ofLst ⟨_, e, rfl, rfl, rfl, _, rfl⟩ .nil, fun s Q E q => wpAny_newObj_type q⟩
variable {e target iter : Expr} {ifs : List Expr} {scope : Scope} {cpos : Pos} {emit : Addr → Env → Sem Unit} {newAcc : Sem Value} {xs : List AV} {σc : Sto} {vals : Nat → AV}
theorem comp_own {C D : Addr} {T₁ T' : Tx} {s₁ s' : Shared} {av : AV} {h' : Heap} (S' : St (X.comp scope C T₁ s₁ (X.ban σ)) (σc ++ accS D av) T' s') (seen : SeenL X σ scope σc) (hacc : (relabel scope X.env).names.lookup ("__classdict__" : Str) = none) (hDC : D ≠ C)
    (hs : Heap.SameBut C s'.heap h') : OwnRep X.w (fun b => X.ban σ b ∨ b = D ∨ b = C) T' s'.toks h' D av := by
  have hx : Sto.get (σc ++ accS D av) "__classdict__" = some ⟨some D, av⟩ := by
    rw [get_append]
    cases e : σc.get "__classdict__" with
    | none => rw [Option.none_or, Sto.get_cons, if_pos rfl]
    | some c => have := (seen.get e).2.2.2.2; rw [hacc] at this; exact ns this
  have hB : (X.comp scope C T₁ s₁ (X.ban σ)).ban (σc ++ accS D av) C := .inr (.inl rfl)
  have r := (S'.ownAt hx).but (h' := h') (fun b o hb e => (hs.2 b fun q => hb (q ▸ hB)).trans e) fun o e => (hs.2 D hDC).trans e
  refine r.mono (Nat.le_refl _) (fun _ _ => rfl) (.refl _) fun b q => .inl ?_
  rcases q with q | q | q
  · exact .inl q
  · subst q; exact .inr (.inr (.inr ⟨_, _, hx⟩))
  · exact .inr (.inl q)
theorem EvN.comp (sh : CompShape X e target iter ifs scope emit) (hnew : NewOk X newAcc (vals 0)) (he : eval e X.env = comprehension e scope X.env cpos newAcc false (eval iter X.env) none)
    (h : EvIC X iter target σ xs) (so : ScopeOk X scope) (seen : SeenL X σ scope σc)
    (turn : ∀ C D T₁ s₁ k x, xs[k]? = some x → CTurn (X.comp scope C T₁ s₁ (X.ban σ)) target ifs (emit D (compEnvC scope (clOf scope X.env.cells) C X.env)) σc D x (vals k) (vals (k + 1)))
    (hs : autoParam (∀ x, foldedSetIterable iter X.env x = pure x) byI1) : EvN X e σ (vals xs.length) := fun T s S => by
  rw [he]
  refine comp_core S h sh so seen hnew turn (fun C D T₁ s₁ T' s' l₁ S₁ hC hD hDC S' => ?_) hs
  refine x1a2 (S'.vars) fun m hn _ => ?_
  refine ⟨m, hn, fun h' hsb => ?_⟩
  have hsz : s.heap.objs.size ≤ s₁.heap.objs.size := l₁.ext.1
  have lf : Le T₁ s₁ T' { s' with heap := h' } := by
    refine ⟨⟨Nat.le_trans S'.le.ext.1 (Nat.le_of_eq hsb.1.symm), fun b o eb => ?_⟩, S'.le.toks, S'.le.tx, S'.le.gens, S'.le.os⟩
    refine x1a1 (S'.le.ext.2 b o eb) fun sl e2 => ?_
    exact ⟨sl, (hsb.2 b (Nat.ne_of_lt (Nat.lt_of_lt_of_le (Heap.lt_size eb) hC))).trans e2⟩
  refine ⟨T', D, rfl, l₁.trans lf, Nat.le_trans hsz hD, (comp_own S' seen so.acc hDC hsb).mono (Nat.le_refl _) (fun _ _ => rfl) (.refl _) fun b q => .inl (q.imp id .inl)⟩
theorem Ex.assign_comp {y : Str} {py spos : Pos} {rest : List Stmt} {Q : Post} (sh : CompShape X e target iter ifs scope emit) (hnew : NewOk X newAcc (vals 0))
    (he : ∀ use, evalThenUse e X.env use = (do let _ ← comprehension e scope X.env cpos newAcc false (eval iter X.env) (some use)))
    (hsw : swapsWith e (some (.Name y py)) spos.line X.env = pure true)
    (h : EvIC X iter target σ xs) (so : ScopeOk X scope) (seen : SeenL X σ scope σc)
    (turn : ∀ C D T₁ s₁ k x, xs[k]? = some x → CTurn (X.comp scope C T₁ s₁ (X.ban σ)) target ifs (emit D (compEnvC scope (clOf scope X.env.cells) C X.env)) σc D x (vals k) (vals (k + 1)))
    (hk : storable X y) (k : ∀ a, Ex X rest (σ.updO y a (vals xs.length)) Q)
    (hs : autoParam (∀ x, foldedSetIterable iter X.env x = pure x) byI1) : Ex X (.Assign [.Name y py] e spos :: rest) σ Q := .cons fun T s S => by
  rw [exec_Assign_Name_used _ _ _ _ hsw, he]
  refine wq_bind (wq_standAt (wq_bind (wq_bind ?_)))
  refine comp_core S h sh so seen hnew turn (fun C D T₁ s₁ T' s' l₁ S₁ hC hD hDC S' => ?_) hs
  have hsz : s.heap.objs.size ≤ s₁.heap.objs.size := l₁.ext.1
  have hs0 : X.s0.heap.objs.size ≤ s₁.heap.objs.size := S₁.le.ext.1
  have nob : ∀ b, X.ban σ b → b ≠ C ∧ b ≠ D := fun b hb => ⟨fun q => Nat.lt_irrefl _ (Nat.lt_of_lt_of_le (S₁.ban_lt hb) (q ▸ hC)), fun q => Nat.lt_irrefl _ (Nat.lt_of_lt_of_le (S₁.ban_lt hb) (q ▸ hD))⟩
  have r := comp_own S' seen so.acc hDC (Heap.SameBut.refl _ _)
  have Sx : StB (fun b => X.ban σ b ∨ b = D ∨ b = C) X σ T' s' := S₁.le_ban S'.le fun b q => by
    rcases q with q | q | q
    · exact .inl q
    · exact .inr (Heap.get?_none_of_le (q ▸ hD))
    · exact .inr (Heap.get?_none_of_le (q ▸ hC))
  refine x1a2 (S'.vars) fun m hn _ => ?_
  have hn : s'.heap.Ns C m := hn
  show wq X.M X.A (do standAt py; bindName X.env y (.ref D)) _ _ s'
  refine wq_bind (wq_standAt (wq_bindName (wq_of ?_)))
  refine Sx.storeC (c := ⟨some D, vals xs.length⟩) hk ⟨fun b q => .inl q, fun b e => ?_, fun b z v' e h => ?_⟩ ⟨rfl, r⟩ fun s'' S'' lb => ?_
  · (have e := Option.some.inj e; subst e)
    exact ⟨Nat.le_trans hs0 hD, fun q => (nob _ (.inr (.inl q))).2 rfl, fun z q => (nob _ (.inr (.inr (.inl ⟨z, q⟩)))).2 rfl⟩
  · (have e := Option.some.inj e; subst e)
    exact (nob _ (.inr (.inr (.inr ⟨z, v', h⟩)))).2 rfl
  · refine x3a4 (id hn) fun oC es ep e1 e2 e3 e4 => ?_
    refine x1a1 (lb.ext C oC (fun q => (nob C q).1 rfl) e1) fun sl e5 => ?_
    refine ⟨m, ⟨_, es, ep, e5, e2, e3, e4⟩, fun h' hsb => ?_⟩
    have lall : LeB (X.ban σ) T s T' { s'' with heap := h' } := by
      have l0 : LeB (X.ban σ) T s T' s'' := ((l₁.trans S'.le).leB _).trans lb fun _ _ q => q
      exact l0.trans (LeB.turn (B := fun b => b = C) (k := s''.toks) hsb rfl (Nat.le_refl _)) fun b hb q => absurd (q ▸ hb) (Nat.not_lt.mpr (Nat.le_trans hsz hC))
    have hfro : FrOk h' X.fr := by
      refine frOk_both S₁.fro S''.fro fun b f1 f2 => ?_
      have hb : b ≠ C := by
        refine x1a2 f1 fun o f _ => ?_; (try clear f1)
        exact Nat.ne_of_lt (Nat.lt_of_lt_of_le (Heap.lt_size f) hC)
      refine x1a2 f2 fun o g1 g2 => ?_; (try clear f2)
      exact ⟨o, (hsb.2 b hb).trans g1, g2⟩
    refine wq_pure (wq_pure ⟨T', .next, _, ⟨(S''.off hsb (.inr (.inr rfl)) (Nat.le_trans hs0 hC) (fun q => (nob C (.inr (.inl q))).1 rfl) (fun z q => (nob C (.inr (.inr (.inl ⟨z, q⟩)))).1 rfl) (fun o => ?_) hfro).anti fun b q => ?_, lall, fun b hb q => ?_⟩, rfl, k D⟩)
    · refine x2a1 o fun z v' e => ?_; (try clear o)
      rw [Sto.get_cons] at e
      split at e
      · cases Option.some.inj e; exact hDC rfl
      · exact (nob C (.inr (.inr (.inr ⟨z, v', e⟩)))).1 rfl
    · rcases Cx.ban_updO q with q | q
      · exact .inl q
      · exact .inr (.inl q)
    · rcases Cx.ban_updO q with q | q
      · exact q
      · exact absurd (q ▸ hb) (Nat.not_lt.mpr (Nat.le_trans hsz hD))
end
end Mine
namespace Mine
open PySem PySem.W PyProof.Rows
variable [Lo]
variable {W : World}
namespace FU
set_option maxRecDepth 100000
theorem slot_ga : Slot "UnicodeDecodeError" "__getattribute__" "BaseException.__getattribute__" :=
  .of (owner := "BaseException") (n := "__getattribute__") (by rw [typeLookup_type, builtinLookup_eq_fast]; kernel_rfl) (by decide +kernel) (by decide +kernel) (by decide +kernel)
    (by first | exact .inl (by decide +kernel) | exact .inr (by decide +kernel)) (by rw [isSubtype_type]; kernel_rfl)
theorem slot_mset : Slot "member_descriptor" "__set__" "member_descriptor.__set__" :=
  .of (owner := "member_descriptor") (n := "__set__") (by rw [typeLookup_type, builtinLookup_eq_fast]; kernel_rfl) (by decide +kernel) (by decide +kernel) (by decide +kernel)
    (by first | exact .inl (by decide +kernel) | exact .inr (by decide +kernel)) (by rw [isSubtype_type]; kernel_rfl)
theorem lk_start : typeLookup (.type "UnicodeDecodeError") "start" = pure (some (.builtin "UnicodeDecodeError.start")) := by rw [typeLookup_type, builtinLookup_eq_fast]; kernel_rfl
theorem ty_start : typeOf (.builtin "UnicodeDecodeError.start") = pure (.type "member_descriptor") := by kernel_rfl
theorem entry_start : entryFor table "UnicodeDecodeError.start" = some Builtin.«UnicodeDecodeError.start» := entryFor_of_tree (by kernel_rfl)
theorem own_start : (".".intercalate ("UnicodeDecodeError.start".cutAt '.').dropLast) = "UnicodeDecodeError" := by
  have e0 : "UnicodeDecodeError.start".cutAt '.' = ["UnicodeDecodeError", "start"] := by first | rfl | decide +kernel
  rw [e0]; decide +kernel
theorem lk_end : typeLookup (.type "UnicodeDecodeError") "end" = pure (some (.builtin "UnicodeDecodeError.end")) := by rw [typeLookup_type, builtinLookup_eq_fast]; kernel_rfl
theorem ty_end : typeOf (.builtin "UnicodeDecodeError.end") = pure (.type "member_descriptor") := by kernel_rfl
theorem entry_end : entryFor table "UnicodeDecodeError.end" = some Builtin.«UnicodeDecodeError.end» := entryFor_of_tree (by kernel_rfl)
theorem own_end : (".".intercalate ("UnicodeDecodeError.end".cutAt '.').dropLast) = "UnicodeDecodeError" := by
  have e0 : "UnicodeDecodeError.end".cutAt '.' = ["UnicodeDecodeError", "end"] := by first | rfl | decide +kernel
  rw [e0]; decide +kernel
theorem lk_reason : typeLookup (.type "UnicodeDecodeError") "reason" = pure (some (.builtin "UnicodeDecodeError.reason")) := by rw [typeLookup_type, builtinLookup_eq_fast]; kernel_rfl
theorem ty_reason : typeOf (.builtin "UnicodeDecodeError.reason") = pure (.type "member_descriptor") := by kernel_rfl
theorem entry_reason : entryFor table "UnicodeDecodeError.reason" = some Builtin.«UnicodeDecodeError.reason» := entryFor_of_tree (by kernel_rfl)
theorem own_reason : (".".intercalate ("UnicodeDecodeError.reason".cutAt '.').dropLast) = "UnicodeDecodeError" := by
  have e0 : "UnicodeDecodeError.reason".cutAt '.' = ["UnicodeDecodeError", "reason"] := by first | rfl | decide +kernel
  rw [e0]; decide +kernel
end FU
section
set_option maxRecDepth 100000
variable {prog : Program} {w : World} {A : Around} {E : Value → Shared → Prop} {h : Heap} {g : Array GenState} {d : Drawn} {t : Nat} {os : OsState} {a : Addr} {o : Obj} {vs : Array Value} {i j : Int} {r : List Nat} {T : Tx} {n : Nat}
open Builtin.UnicodeEncodeError
theorem members_exc {M : Model} {s : Shared} {Q : Members → Shared → Prop} (ho : s.heap.get? a = some o) (hd : o.data = .fields vs) (f : ExcF T n vs i j r)
    (h : ∀ enc obj rv, StrAt T n rv r → Q { encoding := enc, object := obj, start := i, stop := j, reason := rv } s) : wpAny M A (members (.ref a)) Q E s := by
  unfold members
  refine wpAny_bind (wpAny_fieldsOf ho hd ?_)
  obtain ⟨hs, ⟨ti, h8⟩, ⟨tj, h9⟩, ⟨rv, h10, hr⟩⟩ := f
  have hh := h vs[6] vs[7] rv hr
  have e : (vs.extract 6).toList = [vs[6], vs[7], vs[8], vs[9], vs[10]] := by
    apply List.ext_getElem
    · simp [hs]
    · intro k h1 h2
      simp at h2
      have h2 : k = 0 ∨ k = 1 ∨ k = 2 ∨ k = 3 ∨ k = 4 := by omega
      rcases h2 with rfl | rfl | rfl | rfl | rfl <;> simp
  have e8 : vs[8] = .int i ti := by rw [Array.getElem?_eq_getElem (by omega)] at h8; exact Option.some.inj h8
  have e9 : vs[9] = .int j tj := by rw [Array.getElem?_eq_getElem (by omega)] at h9; exact Option.some.inj h9
  have e10 : vs[10] = rv := by rw [Array.getElem?_eq_getElem (by omega)] at h10; exact Option.some.inj h10
  rw [e, e8, e9, e10]
  exact wpAny_pure hh
theorem start_get {R : Result → Shared → Prop} (hx : h.get? a = some o) (hc : o.cls = .type "UnicodeDecodeError") (hd : o.data = .fields vs) (f : ExcF T n vs i j r) (hq : R (.ok (.ret (.int i t))) ⟨h, g, d, t + 1, os⟩) :
    codeAny (model prog w) A (.call (.builtin "member_descriptor.__get__") ⟨[.builtin "UnicodeDecodeError.start", .ref a, .type "UnicodeDecodeError"], []⟩) R ⟨h, g, d, t, os⟩ := by
  have hT : (⟨h, g, d, t, os⟩ : Shared).TypeIs (.ref a) "UnicodeDecodeError" := ⟨_, hx, hc⟩
  have hT5 : (⟨h, g, d, t, os⟩ : Shared).TypeIs (.builtin "UnicodeDecodeError.start") "member_descriptor" := FU.ty_start
  have f8 : isSubtype (.type "UnicodeDecodeError") (.type (".".intercalate ("UnicodeDecodeError.start".cutAt '.').dropLast)) = pure true := by rw [FU.own_start]; exact FU.self
  refine codeAny_call_builtin KF.slot_mem.plain KF.entry_mem (KF.slot_mem.check _ _ _ _ _ _ _ _ hT5 (KF.args_mem _ _ _) ?_)
  unfold Builtin.«member_descriptor.__get__»
  repeat (any_goals (first | assumption | wp_step))
  refine ⟨Code.quiet_builtin _ (by decide +kernel), codeAny_builtin FU.entry_start ?_⟩
  unfold Builtin.«UnicodeDecodeError.start» sizeGet
  dsimp only
  refine wpAny_bind (members_exc hx hd f fun enc obj rv _ => ?_)
  repeat (any_goals (first | assumption | wp_step))
theorem start_entry {tk : Tok} {Q : Fin → Shared → Prop} (hx : h.get? a = some o) (hc : o.cls = .type "UnicodeDecodeError") (hd : o.data = .fields vs) (f : ExcF T n vs i j r) (hq : Q (.done (.ret (.int i t))) ⟨h, g, d, t + 1, os⟩) :
    wpAny (model prog w) A (Builtin.«object.__getattribute__» ⟨[.ref a, .str "start" tk], []⟩) Q E ⟨h, g, d, t, os⟩ := by
  have hT : (⟨h, g, d, t, os⟩ : Shared).TypeIs (.ref a) "UnicodeDecodeError" := ⟨_, hx, hc⟩
  have hT5 : (⟨h, g, d, t, os⟩ : Shared).TypeIs (.builtin "UnicodeDecodeError.start") "member_descriptor" := FU.ty_start
  have f4 := FU.lk_start
  have f5 := FU.ty_start
  have f6 := KF.slot_mem.lookup
  have f7 := FU.slot_mset.lookup
  repeat (any_goals (first | assumption | wp_step))
  refine start_get hx hc hd f ?_
  skip
  repeat (any_goals (first | assumption | wp_step))
theorem start_call {tk : Tok} {R : Result → Shared → Prop} (hx : h.get? a = some o) (hc : o.cls = .type "UnicodeDecodeError") (hd : o.data = .fields vs) (f : ExcF T n vs i j r) (hq : R (.ok (.ret (.int i t))) ⟨h, g, d, t + 1, os⟩) :
    codeAny (model prog w) A (.call (.builtin "BaseException.__getattribute__") ⟨[.ref a, .str "start" tk], []⟩) R ⟨h, g, d, t, os⟩ :=
  codeAny_call_builtin FU.slot_ga.plain F.entry_bexc_ga (FU.slot_ga.check _ _ _ _ _ _ _ _ (show (⟨h, g, d, t, os⟩ : Shared).TypeIs (.ref a) "UnicodeDecodeError" from ⟨_, hx, hc⟩) (F.args_bexc_ga _ _) (start_entry hx hc hd f hq))
theorem start_by {tk : Tok} {fill expr : Bool} {Q : Value → Shared → Prop} (hx : h.get? a = some o) (hc : o.cls = .type "UnicodeDecodeError") (hd : o.data = .fields vs) (f : ExcF T n vs i j r) (hq : Q (.int i t) ⟨h, g, d, t + 1, os⟩) :
    wpAny (model prog w) A (getAttrBy (.ref a) (.str "start" tk) fill expr) Q E ⟨h, g, d, t, os⟩ := by
  have hT : (⟨h, g, d, t, os⟩ : Shared).TypeIs (.ref a) "UnicodeDecodeError" := ⟨_, hx, hc⟩
  have f2 := FU.slot_ga.lookup
  have f3 := FU.slot_ga.bind (.ref a)
  have hx0 : (expr && onTheHeap (Value.builtin "BaseException.__getattribute__")) = false := by cases expr <;> rfl
  repeat (any_goals (first | assumption | wp_step))
  refine start_call hx hc hd f ?_
  skip
  repeat (any_goals (first | assumption | wp_step))
theorem start_attr {expr : Bool} {Q : Value → Shared → Prop} (hx : h.get? a = some o) (hc : o.cls = .type "UnicodeDecodeError") (hd : o.data = .fields vs) (f : ExcF T n vs i j r) (hq : Q (.int i (t + 1)) ⟨h, g, d, t + 1 + 1, os⟩) :
    wpAny (model prog w) A (getAttr (.ref a) "start" expr) Q E ⟨h, g, d, t, os⟩ := by
  unfold getAttr
  repeat (any_goals (first | assumption | with_reducible apply start_by hx hc hd f | wp_step))
theorem end_get {R : Result → Shared → Prop} (hx : h.get? a = some o) (hc : o.cls = .type "UnicodeDecodeError") (hd : o.data = .fields vs) (f : ExcF T n vs i j r) (hq : R (.ok (.ret (.int j t))) ⟨h, g, d, t + 1, os⟩) :
    codeAny (model prog w) A (.call (.builtin "member_descriptor.__get__") ⟨[.builtin "UnicodeDecodeError.end", .ref a, .type "UnicodeDecodeError"], []⟩) R ⟨h, g, d, t, os⟩ := by
  have hT : (⟨h, g, d, t, os⟩ : Shared).TypeIs (.ref a) "UnicodeDecodeError" := ⟨_, hx, hc⟩
  have hT5 : (⟨h, g, d, t, os⟩ : Shared).TypeIs (.builtin "UnicodeDecodeError.end") "member_descriptor" := FU.ty_end
  have f8 : isSubtype (.type "UnicodeDecodeError") (.type (".".intercalate ("UnicodeDecodeError.end".cutAt '.').dropLast)) = pure true := by rw [FU.own_end]; exact FU.self
  refine codeAny_call_builtin KF.slot_mem.plain KF.entry_mem (KF.slot_mem.check _ _ _ _ _ _ _ _ hT5 (KF.args_mem _ _ _) ?_)
  unfold Builtin.«member_descriptor.__get__»
  repeat (any_goals (first | assumption | wp_step))
  refine ⟨Code.quiet_builtin _ (by decide +kernel), codeAny_builtin FU.entry_end ?_⟩
  unfold Builtin.«UnicodeDecodeError.end» sizeGet
  dsimp only
  refine wpAny_bind (members_exc hx hd f fun enc obj rv _ => ?_)
  repeat (any_goals (first | assumption | wp_step))
theorem end_entry {tk : Tok} {Q : Fin → Shared → Prop} (hx : h.get? a = some o) (hc : o.cls = .type "UnicodeDecodeError") (hd : o.data = .fields vs) (f : ExcF T n vs i j r) (hq : Q (.done (.ret (.int j t))) ⟨h, g, d, t + 1, os⟩) :
    wpAny (model prog w) A (Builtin.«object.__getattribute__» ⟨[.ref a, .str "end" tk], []⟩) Q E ⟨h, g, d, t, os⟩ := by
  have hT : (⟨h, g, d, t, os⟩ : Shared).TypeIs (.ref a) "UnicodeDecodeError" := ⟨_, hx, hc⟩
  have hT5 : (⟨h, g, d, t, os⟩ : Shared).TypeIs (.builtin "UnicodeDecodeError.end") "member_descriptor" := FU.ty_end
  have f4 := FU.lk_end
  have f5 := FU.ty_end
  have f6 := KF.slot_mem.lookup
  have f7 := FU.slot_mset.lookup
  repeat (any_goals (first | assumption | wp_step))
  refine end_get hx hc hd f ?_
  skip
  repeat (any_goals (first | assumption | wp_step))
theorem end_call {tk : Tok} {R : Result → Shared → Prop} (hx : h.get? a = some o) (hc : o.cls = .type "UnicodeDecodeError") (hd : o.data = .fields vs) (f : ExcF T n vs i j r) (hq : R (.ok (.ret (.int j t))) ⟨h, g, d, t + 1, os⟩) :
    codeAny (model prog w) A (.call (.builtin "BaseException.__getattribute__") ⟨[.ref a, .str "end" tk], []⟩) R ⟨h, g, d, t, os⟩ :=
  codeAny_call_builtin FU.slot_ga.plain F.entry_bexc_ga (FU.slot_ga.check _ _ _ _ _ _ _ _ (show (⟨h, g, d, t, os⟩ : Shared).TypeIs (.ref a) "UnicodeDecodeError" from ⟨_, hx, hc⟩) (F.args_bexc_ga _ _) (end_entry hx hc hd f hq))
theorem end_by {tk : Tok} {fill expr : Bool} {Q : Value → Shared → Prop} (hx : h.get? a = some o) (hc : o.cls = .type "UnicodeDecodeError") (hd : o.data = .fields vs) (f : ExcF T n vs i j r) (hq : Q (.int j t) ⟨h, g, d, t + 1, os⟩) :
    wpAny (model prog w) A (getAttrBy (.ref a) (.str "end" tk) fill expr) Q E ⟨h, g, d, t, os⟩ := by
  have hT : (⟨h, g, d, t, os⟩ : Shared).TypeIs (.ref a) "UnicodeDecodeError" := ⟨_, hx, hc⟩
  have f2 := FU.slot_ga.lookup
  have f3 := FU.slot_ga.bind (.ref a)
  have hx0 : (expr && onTheHeap (Value.builtin "BaseException.__getattribute__")) = false := by cases expr <;> rfl
  repeat (any_goals (first | assumption | wp_step))
  refine end_call hx hc hd f ?_
  skip
  repeat (any_goals (first | assumption | wp_step))
theorem end_attr {expr : Bool} {Q : Value → Shared → Prop} (hx : h.get? a = some o) (hc : o.cls = .type "UnicodeDecodeError") (hd : o.data = .fields vs) (f : ExcF T n vs i j r) (hq : Q (.int j (t + 1)) ⟨h, g, d, t + 1 + 1, os⟩) :
    wpAny (model prog w) A (getAttr (.ref a) "end" expr) Q E ⟨h, g, d, t, os⟩ := by
  unfold getAttr
  repeat (any_goals (first | assumption | with_reducible apply end_by hx hc hd f | wp_step))
theorem reason_get {R : Result → Shared → Prop} (hx : h.get? a = some o) (hc : o.cls = .type "UnicodeDecodeError") (hd : o.data = .fields vs) (f : ExcF T n vs i j r) (hq : ∀ rv, StrAt T n rv r → R (.ok (.ret rv)) ⟨h, g, d, t, os⟩) :
    codeAny (model prog w) A (.call (.builtin "member_descriptor.__get__") ⟨[.builtin "UnicodeDecodeError.reason", .ref a, .type "UnicodeDecodeError"], []⟩) R ⟨h, g, d, t, os⟩ := by
  have hT : (⟨h, g, d, t, os⟩ : Shared).TypeIs (.ref a) "UnicodeDecodeError" := ⟨_, hx, hc⟩
  have hT5 : (⟨h, g, d, t, os⟩ : Shared).TypeIs (.builtin "UnicodeDecodeError.reason") "member_descriptor" := FU.ty_reason
  have f8 : isSubtype (.type "UnicodeDecodeError") (.type (".".intercalate ("UnicodeDecodeError.reason".cutAt '.').dropLast)) = pure true := by rw [FU.own_reason]; exact FU.self
  refine codeAny_call_builtin KF.slot_mem.plain KF.entry_mem (KF.slot_mem.check _ _ _ _ _ _ _ _ hT5 (KF.args_mem _ _ _) ?_)
  unfold Builtin.«member_descriptor.__get__»
  repeat (any_goals (first | assumption | wp_step))
  refine ⟨Code.quiet_builtin _ (by decide +kernel), codeAny_builtin FU.entry_reason ?_⟩
  unfold Builtin.«UnicodeDecodeError.reason» objectGet
  dsimp only
  refine wpAny_bind (members_exc hx hd f fun enc obj rv hr => ?_)
  refine x2a5 (id hr.is) fun x tt e_0 hx2 hx3 hx4 hx5 => ?_; subst e_0
  exact wpAny_pure (hq _ hr)
theorem reason_entry {tk : Tok} {Q : Fin → Shared → Prop} (hx : h.get? a = some o) (hc : o.cls = .type "UnicodeDecodeError") (hd : o.data = .fields vs) (f : ExcF T n vs i j r) (hq : ∀ rv, StrAt T n rv r → Q (.done (.ret rv)) ⟨h, g, d, t, os⟩) :
    wpAny (model prog w) A (Builtin.«object.__getattribute__» ⟨[.ref a, .str "reason" tk], []⟩) Q E ⟨h, g, d, t, os⟩ := by
  have hT : (⟨h, g, d, t, os⟩ : Shared).TypeIs (.ref a) "UnicodeDecodeError" := ⟨_, hx, hc⟩
  have hT5 : (⟨h, g, d, t, os⟩ : Shared).TypeIs (.builtin "UnicodeDecodeError.reason") "member_descriptor" := FU.ty_reason
  have f4 := FU.lk_reason
  have f5 := FU.ty_reason
  have f6 := KF.slot_mem.lookup
  have f7 := FU.slot_mset.lookup
  repeat (any_goals (first | assumption | wp_step))
  refine reason_get hx hc hd f (fun rv hrv => ?_)
  refine x2a2 (id hrv.is) fun x tt e_0 hzz => ?_; subst e_0; have hq := hq _ hrv
  repeat (any_goals (first | assumption | wp_step))
theorem reason_call {tk : Tok} {R : Result → Shared → Prop} (hx : h.get? a = some o) (hc : o.cls = .type "UnicodeDecodeError") (hd : o.data = .fields vs) (f : ExcF T n vs i j r) (hq : ∀ rv, StrAt T n rv r → R (.ok (.ret rv)) ⟨h, g, d, t, os⟩) :
    codeAny (model prog w) A (.call (.builtin "BaseException.__getattribute__") ⟨[.ref a, .str "reason" tk], []⟩) R ⟨h, g, d, t, os⟩ :=
  codeAny_call_builtin FU.slot_ga.plain F.entry_bexc_ga (FU.slot_ga.check _ _ _ _ _ _ _ _ (show (⟨h, g, d, t, os⟩ : Shared).TypeIs (.ref a) "UnicodeDecodeError" from ⟨_, hx, hc⟩) (F.args_bexc_ga _ _) (reason_entry hx hc hd f hq))
theorem reason_by {tk : Tok} {fill expr : Bool} {Q : Value → Shared → Prop} (hx : h.get? a = some o) (hc : o.cls = .type "UnicodeDecodeError") (hd : o.data = .fields vs) (f : ExcF T n vs i j r) (hq : ∀ rv, StrAt T n rv r → Q rv ⟨h, g, d, t, os⟩) :
    wpAny (model prog w) A (getAttrBy (.ref a) (.str "reason" tk) fill expr) Q E ⟨h, g, d, t, os⟩ := by
  have hT : (⟨h, g, d, t, os⟩ : Shared).TypeIs (.ref a) "UnicodeDecodeError" := ⟨_, hx, hc⟩
  have f2 := FU.slot_ga.lookup
  have f3 := FU.slot_ga.bind (.ref a)
  have hx0 : (expr && onTheHeap (Value.builtin "BaseException.__getattribute__")) = false := by cases expr <;> rfl
  repeat (any_goals (first | assumption | wp_step))
  refine reason_call hx hc hd f (fun rv hrv => ?_)
  refine x2a2 (id hrv.is) fun x tt e_0 hzz => ?_; subst e_0; have hq := hq _ hrv
  repeat (any_goals (first | assumption | wp_step))
theorem reason_attr {expr : Bool} {Q : Value → Shared → Prop} (hx : h.get? a = some o) (hc : o.cls = .type "UnicodeDecodeError") (hd : o.data = .fields vs) (f : ExcF T n vs i j r) (hq : ∀ rv, StrAt T n rv r → Q rv ⟨h, g, d, t + 1, os⟩) :
    wpAny (model prog w) A (getAttr (.ref a) "reason" expr) Q E ⟨h, g, d, t, os⟩ := by
  unfold getAttr
  repeat (any_goals (first | assumption | with_reducible apply reason_by hx hc hd f | wp_step))
end
end Mine
namespace Mine
open PySem PySem.W PyProof.Rows
variable [Lo]
variable {W : World}
namespace FU
set_option maxRecDepth 100000
theorem entry_unchain : entryFor table "proto.unchain" = some Builtin.«proto.unchain» := entryFor_of_tree (by kernel_rfl)
end FU
section
variable {prog : Program} {w : World} {A : Around} {E : Value → Shared → Prop} {s : Shared}
theorem unchain_ok {e h : Addr} {o : Obj} {ws : Array Value} {c : Value} {Q : Value → Shared → Prop} (ho : s.heap.get? h = some o) (hd : o.data = .fields ws) (h2 : ws[2]? = some c)
    (hc : c = .none ∨ ∃ b ob bs, c = .ref b ∧ b ≠ e ∧ b ≠ h ∧ s.heap.get? b = some ob ∧ ob.data = .fields bs ∧ bs[2]? = some .none) (hq : Q .none s) :
    wpAny (model prog w) A (runValue (.builtin "proto.unchain" ⟨[.ref e, .ref h, .ref h, .bool false], []⟩)) Q E s := by
  refine wpAny_runValue (codeAny_builtin FU.entry_unchain ?_)
  unfold Builtin.«proto.unchain»
  dsimp only
  refine wpAny_bind (wpAny_field ho hd h2 ?_)
  rcases hc with rfl | ⟨b, ob, bs, rfl, hbe, hbh, hob, hbd, hb2⟩
  · exact wpAny_pure hq
  · rw [if_neg (by simp), if_neg (by simpa using hbe), if_neg (by simpa using hbh)]
    refine wpAny_bind (wpAny_pure ?_)
    refine wpAny_pure ⟨Code.quiet_builtin _ (by decide +kernel), ?_⟩
    refine codeAny_builtin FU.entry_unchain ?_
    unfold Builtin.«proto.unchain»
    dsimp only
    refine wpAny_bind (wpAny_field hob hbd hb2 ?_)
    exact wpAny_pure hq
omit [Lo] in
noncomputable def BehindOk (h : Heap) (e hd : Addr) : Prop := ∃ o ws c, h.get? hd = some o ∧ o.data = .fields ws ∧ ws[2]? = some c ∧
  (c = .none ∨ ∃ b ob bs, c = .ref b ∧ b ≠ e ∧ b ≠ hd ∧ h.get? b = some ob ∧ ob.data = .fields bs ∧ bs[2]? = some .none)
theorem raiseNew_under {α : Type} {e hd : Addr} {vs : Array Value} {Q : α → Shared → Prop} (hh : A.handled = some (.ref hd)) (x : IsX s.heap e vs) (h2 : 2 < vs.size) (hne : hd ≠ e) (hb : BehindOk s.heap e hd)
    (h : ∀ h', IsX h' e (vs.setIfInBounds 2 (.ref hd)) → Heap.SameBut e s.heap h' → E (.ref e) { s with heap := h' }) : wpAny (model prog w) A (raiseNew (.ref e) : Sem α) Q E s := by
  refine x3a4 hb fun o ws c ho hd' hc hcc => ?_; (try clear hb)
  unfold raiseNew
  refine wpAny_bind (wpAny_handled ?_)
  rw [hh]
  dsimp only
  rw [if_pos (by simpa using hne)]
  refine wpAny_bind (wpAny_holding (unchain_ok ho hd' hc hcc ?_))
  refine x1a4 (id x) fun ox h1 h2' h3 h4 => ?_
  refine wpAny_bind (wpAny_setField h1 h4 h2 ?_)
  exact wpAny_throw (h _ (isX_update x _) (Heap.SameBut.update ..))
theorem excFrom_inst {e : Addr} {vs : Array Value} {msg : String} {Q : Value → Shared → Prop} (x : IsX s.heap e vs) (h : Q (.ref e) s) : wpAny (model prog w) A (excFromValue (.ref e) msg) Q E s := by
  refine x1a4 (id x) fun t_0 h1 h2 h3 h4 => ?_; obtain ⟨c, d, dt, sl⟩ := t_0
  dsimp only at h2 h3 h4
  subst h2 h3 h4
  obtain ⟨hp, g, d, tk, os⟩ := s
  have hsub := FU.base
  repeat (first | refine wpAny_loadPart h1 ?_ | wp_step)
  exact h
theorem FU.metaUde : (Value.type ((Manifest.find? "UnicodeDecodeError").elim "type" fun x => x.metatype) == Value.type "type") = true := by decide +kernel
theorem raiseTail {e hd : Addr} {vs : Array Value} {Q : Flow → Shared → Prop} (hh : A.handled = some (.ref hd)) (x : IsX s.heap e vs) (h2 : 2 < vs.size) (h1 : vs[1]? = some .none) (hne : hd ≠ e) (hb : BehindOk s.heap e hd)
    (h : ∀ h', IsX h' e (vs.setIfInBounds 2 (.ref hd)) → Heap.SameBut e s.heap h' → E (.ref e) { s with heap := h' }) :
    wpAny (model prog w) A (isType (.ref e) >>= fun b => if b = true then (holding [.ref e] (raisedFor (.ref e) (.ref e)) >>= fun e => setFlight e none >>= fun _ => raiseNew e) else (raisedInstance (.ref e) >>= fun e => setFlight e none >>= fun _ => raiseNew e)) Q E s := by
  refine x1a4 (id x) fun t_0 g1 g2 g3 g4 => ?_; obtain ⟨c, d, dt, sl⟩ := t_0
  dsimp only at g2 g3 g4
  subst g2 g3 g4
  have hmeta := FU.metaUde
  have step : wpAny (model prog w) A (do setFlight (.ref e) none; raiseNew (.ref e) : Sem Flow) Q E s := by
    unfold setFlight
    refine wpAny_bind (wpAny_bind (wpAny_field g1 rfl h1 ?_))
    rw [if_neg (by simp)]
    exact wpAny_pure (raiseNew_under hh x h2 hne hb h)
  obtain ⟨hp, g, dr, tk, os⟩ := s
  repeat (first | exact step | refine wpAny_loadPart g1 ?_ | wp_step)
theorem raiseStmt_ude {env : Env} {m : Sem Value} {hd : Addr} {Q : Flow → Shared → Prop} (hh : A.handled = some (.ref hd))
    (h : wq (model prog w) A m (fun v s₁ => ∃ e vs, v = .ref e ∧ IsX s₁.heap e vs ∧ 2 < vs.size ∧ vs[1]? = some .none ∧ hd ≠ e ∧ BehindOk s₁.heap e hd ∧
      ∀ h', IsX h' e (vs.setIfInBounds 2 (.ref hd)) → Heap.SameBut e s₁.heap h' → E (.ref e) { s₁ with heap := h' }) E s) : wq (model prog w) A (raiseStmt env (some m) none) Q E s := by
  unfold raiseStmt
  refine wq_bind (wq_mono h (fun v s₁ t_0 => x2a7 t_0 fun e vs hv x h2 h1 hne hb hE => ?_) fun _ _ q => q)
  subst hv
  refine wq_of ?_
  refine wpAny_bind (wpAny_pure (wpAny_bind (wpAny_holding (excFrom_inst x ?_))))
  exact raiseTail hh x h2 h1 hne hb hE
theorem BehindOk.sameBut {h h' : Heap} {e hd : Addr} (b : BehindOk h e hd) (hs : Heap.SameBut e h h') (hne : hd ≠ e) : BehindOk h' e hd := by
  refine x3a4 b fun o ws c ho hd' hc hcc => ?_; (try clear b)
  refine ⟨o, ws, c, (hs.2 hd hne).trans ho, hd', hc, ?_⟩
  rcases hcc with rfl | ⟨b, ob, bs, rfl, hbe, hbh, hob, hbd, hb2⟩
  · exact .inl rfl
  · exact .inr ⟨b, ob, bs, rfl, hbe, hbh, (hs.2 b hbe).trans hob, hbd, hb2⟩
theorem raiseStmt_from {env : Env} {m c : Sem Value} {hd : Addr} {Q : Flow → Shared → Prop} (hh : A.handled = some (.ref hd)) (hcn : ∀ (s : Shared) (Q : Value → Shared → Prop) (E : Value → Shared → Prop), Q .none s → wq (model prog w) A c Q E s)
    (h : wq (model prog w) A m (fun v s₁ => ∃ e vs, v = .ref e ∧ IsX s₁.heap e vs ∧ 4 < vs.size ∧ vs[1]? = some .none ∧ hd ≠ e ∧ BehindOk s₁.heap e hd ∧
      ∀ h', IsX h' e (((vs.setIfInBounds 3 .none).setIfInBounds 4 (.bool true)).setIfInBounds 2 (.ref hd)) → Heap.SameBut e s₁.heap h' → E (.ref e) { s₁ with heap := h' }) E s) : wq (model prog w) A (raiseStmt env (some m) (some c)) Q E s := by
  unfold raiseStmt
  refine wq_bind (wq_mono h (fun v s₁ t_0 => x2a7 t_0 fun e vs hv x h2 h1 hne hb hE => ?_) fun _ _ q => q)
  subst hv
  refine wq_bind (wq_holding (hcn _ _ _ (wq_bind (wq_pure ?_))))
  refine wq_bind (wq_holding (wq_of (excFrom_inst x ?_)))
  refine wq_of ?_
  dsimp only
  rw [if_pos (by rfl)]
  refine wpAny_bind (wpAny_pure ?_)
  refine wpAny_bind (setF x (by (clear t_0; lia)) fun h₂ x₂ s₂ => wpAny_bind (setF x₂ (by simp; (clear t_0; lia)) fun h₃ x₃ s₃ => ?_))
  refine raiseTail hh x₃ (by simp; (clear t_0; lia)) (by rw [Array.getElem?_setIfInBounds_ne (by (clear t_0 h2; lia)), Array.getElem?_setIfInBounds_ne (by (clear t_0 h2; lia))]; exact h1) hne ((hb.sameBut s₂ hne).sameBut s₃ hne) fun h' x' s' => hE h' x' ((s₂.trans s₃).trans s')
end
end Mine
namespace Mine
open PySem PySem.W PyProof.Rows
variable [Lo]
variable {W : World}
structure Fresh (W : World) (T : Tx) (s s' : Shared) (T' : Tx) (e : Addr) (vs : Array Value) (i j : Int) (re : List Nat) : Prop where
  le : Le T s T' s'
  new : s.heap.objs.size ≤ e
  is : IsX s'.heap e vs
  size : vs.size = 11
  tb : vs[1]? = some .none
  start : ∃ t, vs[8]? = some (.int i t)
  stop : ∃ t, vs[9]? = some (.int j t)
  reason : ∃ v, vs[10]? = some v ∧ StrAt T' s'.toks v re
section
variable {X : Cx} {σ : Sto}
theorem ude_call {c : Str} {np pos : Pos} {e : Expr} {es : List Expr} {en b re : List Nat} {i j : Int} (h : EvL X (e :: es) σ [.str en, .bytes b, .int i, .int j, .str re]) (hcn : c = ("UnicodeDecodeError" : Str))
    (hkind : X.env.kindOf c = some .globalImplicit) (hg : X.G.mg c = none) (hi : -(2 ^ 63 : Int) ≤ i ∧ i < 2 ^ 63) (hj : -(2 ^ 63 : Int) ≤ j ∧ j < 2 ^ 63)
    (he : autoParam (starEach (e :: es) X.env = (false, eval e X.env) :: starEach es X.env) byRfl) (hst : autoParam ((backTo pos (starEach (e :: es) X.env)).any (·.1) = false) byRfl)
    (hcall : autoParam (eval (.Call (.Name c np) (e :: es) [] pos) X.env = (do callWith pos (← eval (.Name c np) X.env) [] (backTo pos (starEach (e :: es) X.env)) (backToKw pos (keywordEach [] X.env)))) byRfl)
    {T : Tx} {s : Shared} (S : St X σ T s) : wq X.M X.A (eval (.Call (.Name c np) (e :: es) [] pos) X.env) (fun v s' => ∃ T' a vs, v = .ref a ∧ Fresh X.w T s s' T' a vs i j re) (fun _ _ => False) s := by
  subst hcn
  refine wq_Call (S.load_builtin hkind hg clause_ude.boot ?_ clause_ude.name clause_ude.dbg) hcall
  refine wq_callWith_plain (fun _ => by simp) hst ?_
  have h' := h
  unfold EvL at h'
  rw [he] at h' ⊢
  refine wq_evalArgs (wq_mono (h' T s S pos) (fun vs s' t_0 => x1a2 t_0 fun T' l rl => ?_) fun _ _ x => x.elim)
  have S' := S.le_mono l
  cases rl using RepL.cCons with
  | cons r₁ rl =>
  cases rl using RepL.cCons with
  | cons r₂ rl =>
  cases rl using RepL.cCons with
  | cons r₃ rl =>
  cases rl using RepL.cCons with
  | cons r₄ rl =>
  cases rl using RepL.cCons with
  | cons r₅ rl =>
  cases rl using RepL.cNil
  refine x2a2 (rep_str_inv r₁) fun x₁ t₁ e_0 _ => ?_; subst e_0
  refine x2a2 (rep_bytes_inv r₂) fun x₂ t₂ e_0 _ => ?_; subst e_0
  cases r₃ using Rep.cInt
  cases r₄ using Rep.cInt
  refine x2a5 (rep_str_inv r₅) fun x₅ t₅ e_0 h₅ k₁ k₂ k₃ => ?_; subst e_0
  refine wq_of (call_ude hi hj fun h' a t0 x hs hsz hk => ?_)
  refine ⟨T', a, _, rfl, ⟨l.trans (Le.mk' (k := s'.toks) (Ext.keeps hsz hk) (Nat.le_refl _)), Nat.le_trans l.ext.1 hs, x, rfl, rfl, ⟨_, rfl⟩, ⟨_, rfl⟩, ⟨_, rfl, ⟨_, _, rfl, h₅, k₁, k₂, k₃⟩⟩⟩⟩
end
omit [Lo] in
noncomputable def XV.short : XV → Bool
  | .index => true
  | .ude .. => false
omit [Lo] in
noncomputable def XV.flat : XV → Prop
  | .index => True
  | .ude d .. => d = true
theorem ExcAt.behind {lo : Addr} {tr : Bool} {T : Tx} {n : Nat} {h h' : Heap} {a e : Addr} {x : XV} (ea : ExcAt lo tr T n h a x) (hx : x.flat) (he : h.objs.size ≤ e) (hk : Ext h h') : BehindOk h' e a ∧ a ≠ e := by
  obtain ⟨ge, o, vs, ho, hc, hdi, hd, hsz, hf, htb, htr⟩ := ea
  have hae : a ≠ e := Nat.ne_of_lt (Nat.lt_of_lt_of_le (Heap.lt_size ho) he)
  refine x1a1 (hk.2 a o ho) fun sl ho' => ?_
  refine ⟨?_, hae⟩
  cases x with
  | index => exact ⟨_, vs, .none, ho', hd, hf, .inl rfl⟩
  | ude d i j r =>
    refine x0a5 hf fun _ _ _ _ h5 => ?_; (try clear hf)
    refine x1a2 (h5 hx) fun c hc2 hch => ?_
    refine ⟨_, vs, c, ho', hd, hc2, ?_⟩
    rcases hch with rfl | ⟨b, ob, ws, rfl, hb, hob, hcl, hdb, hw⟩
    · exact .inl rfl
    · refine x1a1 (hk.2 b ob hob) fun sl' hob' => ?_
      refine .inr ⟨b, _, ws, rfl, Nat.ne_of_lt (Nat.lt_of_lt_of_le (Heap.lt_size hob) he), fun q => ?_, hob', hdb, hw⟩
      subst q
      rw [ho] at hob; (have hob := Option.some.inj hob; subst hob)
      rw [hd] at hdb; cases hdb
      rw [hc2] at hw; cases Option.some.inj hw
section
variable {X : Cx} {σ : Sto} {Q : Post} {x : XV}
theorem raise_fin {a e lo : Addr} {T T' : Tx} {s s' : Shared} {vs vs' : Array Value} {i j : Int} {re : List Nat} {h' : Heap} (S : St (X.under a) σ T s) (hl : lo ≤ s.heap.objs.size) (ea : ExcAt lo true T s.toks s.heap a x) (fr : Fresh X.w T s s' T' e vs i j re)
    (x' : IsX h' e vs') (hs : Heap.SameBut e s'.heap h') (hv : vs'.size = vs.size) (hsame : ∀ k, k = 1 ∨ 5 ≤ k → vs'[k]? = vs[k]?) (h2 : vs'[2]? = some (.ref a)) (hne : a ≠ e) :
    Nx (X.under a) σ T s σ T' { s' with heap := h' } ∧ ExcAt lo false T' s'.toks h' e (.ude x.short i j re) := by
  have le' : Le T s T' { s' with heap := h' } := by
    refine ⟨⟨Nat.le_trans fr.le.ext.1 (Nat.le_of_eq hs.1.symm), fun b o eb => ?_⟩, fr.le.toks, fr.le.tx, fr.le.gens, fr.le.os⟩
    refine x1a1 (fr.le.ext.2 b o eb) fun sl e2 => ?_
    exact ⟨sl, (hs.2 b (Nat.ne_of_lt (Nat.lt_of_lt_of_le (Heap.lt_size eb) fr.new))).trans e2⟩
  refine ⟨.of_le S le', ?_⟩
  refine x1a4 x' fun o ho hc hdi hd => ?_; (try clear x')
  refine ⟨Nat.le_trans hl fr.new, o, vs', ho, hc, hdi, hd, by rw [hv, fr.size]; decide, ?_, .inl ((hsame 1 (.inl rfl)).trans fr.tb), fun q => by exact ft q⟩
  refine ⟨hv.trans fr.size, ?_, ?_, ?_, fun q => ⟨_, h2, ?_⟩⟩
  · refine x1a1 (fr.start) fun t h => ?_; exact ⟨t, (hsame 8 (.inr (by decide))).trans h⟩
  · refine x1a1 (fr.stop) fun t h => ?_; exact ⟨t, (hsame 9 (.inr (by decide))).trans h⟩
  · refine x1a2 (fr.reason) fun v h hr => ?_; exact ⟨v, (hsame 10 (.inr (by decide))).trans h, hr⟩
  · cases x with
    | index =>
      obtain ⟨ge, oa, ws, hoa, hca, _, hda, _, hf, _, _⟩ := ea
      refine x1a1 (le'.ext.2 a oa hoa) fun sl e2 => ?_
      exact .inr ⟨a, _, ws, rfl, ge, e2, by rw [hca]; decide, hda, hf⟩
    | ude d i j r => exact ft q
theorem ExH.raise {c : Str} {np pos rpos : Pos} {e : Expr} {rest : List Stmt} {es : List Expr} {en b re : List Nat} {i j : Int} (h : ∀ a, EvL (X.under a) (e :: es) σ [.str en, .bytes b, .int i, .int j, .str re]) (hcn : c = ("UnicodeDecodeError" : Str))
    (hkind : X.env.kindOf c = some .globalImplicit) (hg : X.G.mg c = none) (hi : -(2 ^ 63 : Int) ≤ i ∧ i < 2 ^ 63) (hj : -(2 ^ 63 : Int) ≤ j ∧ j < 2 ^ 63) (hx : x.flat) (q : Q (.exc (.ude x.short i j re)) σ)
    (he : autoParam (starEach (e :: es) X.env = (false, eval e X.env) :: starEach es X.env) byRfl) (hst : autoParam ((backTo pos (starEach (e :: es) X.env)).any (·.1) = false) byRfl)
    (hcall : autoParam (eval (.Call (.Name c np) (e :: es) [] pos) X.env = (do callWith pos (← eval (.Name c np) X.env) [] (backTo pos (starEach (e :: es) X.env)) (backToKw pos (keywordEach [] X.env)))) byRfl) :
    ExH X x (execs (.Raise (some (.Call (.Name c np) (e :: es) [] pos)) none rpos :: rest) X.env) σ Q := .cons fun a lo T s S hs hl ea => by
  show wq X.M (X.under a).A (do standAt rpos; raiseStmt X.env (some (do let v ← eval (.Call (.Name c np) (e :: es) [] pos) X.env; standAt rpos; pure v)) none) _ _ s
  refine wq_bind (wq_standAt (raiseStmt_ude (hd := a) rfl (wq_bind (wq_mono (ude_call (X := X.under a) (h a) hcn hkind hg hi hj he hst hcall S) (fun v s' t_0 => x3a2 t_0 fun T' e' vs hv fr => wq_bind (wq_standAt (wq_pure ?_))) fun _ _ x => x.elim))))
  refine x0a2 (ea.behind hx fr.new fr.le.ext) fun hb hne => ?_
  refine ⟨e', vs, hv, fr.is, by rw [fr.size]; decide, fr.tb, hne, hb, fun h' x' hsb => ?_⟩
  refine x0a2 (raise_fin S hl ea fr x' hsb (by simp) (fun k hk => by rw [Array.getElem?_setIfInBounds_ne (by (clear hl hs hi; omega))]) (by rw [Array.getElem?_setIfInBounds_self_of_lt (by rw [fr.size]; decide)]) hne) fun n ea' => ?_
  exact ⟨T', _, σ, e', rfl, n, ea', q⟩
theorem ExH.raise_from {c : Str} {np pos rpos cp : Pos} {k : Nat} {e : Expr} {rest : List Stmt} {es : List Expr} {en b re : List Nat} {i j : Int} (h : ∀ a, EvL (X.under a) (e :: es) σ [.str en, .bytes b, .int i, .int j, .str re]) (hcn : c = ("UnicodeDecodeError" : Str))
    (hkind : X.env.kindOf c = some .globalImplicit) (hg : X.G.mg c = none) (hi : -(2 ^ 63 : Int) ≤ i ∧ i < 2 ^ 63) (hj : -(2 ^ 63 : Int) ≤ j ∧ j < 2 ^ 63) (hx : x.flat) (q : Q (.exc (.ude x.short i j re)) σ)
    (he : autoParam (starEach (e :: es) X.env = (false, eval e X.env) :: starEach es X.env) byRfl) (hst : autoParam ((backTo pos (starEach (e :: es) X.env)).any (·.1) = false) byRfl)
    (hcall : autoParam (eval (.Call (.Name c np) (e :: es) [] pos) X.env = (do callWith pos (← eval (.Name c np) X.env) [] (backTo pos (starEach (e :: es) X.env)) (backToKw pos (keywordEach [] X.env)))) byRfl) :
    ExH X x (execs (.Raise (some (.Call (.Name c np) (e :: es) [] pos)) (some (.Constant .none k cp)) rpos :: rest) X.env) σ Q := .cons fun a lo T s S hs hl ea => by
  show wq X.M (X.under a).A (do standAt rpos; raiseStmt X.env (some (do let v ← eval (.Call (.Name c np) (e :: es) [] pos) X.env; standAt rpos; pure v)) (some (do let v ← eval (.Constant .none k cp) X.env; standAt rpos; pure v))) _ _ s
  refine wq_bind (wq_standAt (raiseStmt_from (hd := a) rfl (fun s Q E q => ?_) (wq_bind (wq_mono (ude_call (X := X.under a) (h a) hcn hkind hg hi hj he hst hcall S) (fun v s' t_0 => x3a2 t_0 fun T' e' vs hv fr => wq_bind (wq_standAt (wq_pure ?_))) fun _ _ x => x.elim))))
  · exact wq_bind (show wq X.M (X.under a).A (constValue X.env .none) _ _ s from wq_pure (wq_bind (wq_standAt (wq_pure q))))
  refine x0a2 (ea.behind hx fr.new fr.le.ext) fun hb hne => ?_
  refine ⟨e', vs, hv, fr.is, by rw [fr.size]; decide, fr.tb, hne, hb, fun h' x' hsb => ?_⟩
  refine x0a2 (raise_fin S hl ea fr x' hsb (by simp) (fun k hk => by rw [Array.getElem?_setIfInBounds_ne (by (clear hl hs hi; omega)), Array.getElem?_setIfInBounds_ne (by (clear hl hs hi; omega)), Array.getElem?_setIfInBounds_ne (by (clear hl hs hi; omega))]) (by rw [Array.getElem?_setIfInBounds_self_of_lt (by simp [fr.size])]) hne) fun n ea' => ?_
  exact ⟨T', _, σ, e', rfl, n, ea', q⟩
end
end Mine
namespace Mine
open PySem PySem.W PyProof.Rows
variable [Lo]
variable {W : World}
omit [Lo] in
noncomputable def excRec (cls : String) (t : Addr) : Obj := { cls := .type cls, data := .fields #[.ref t, .none, .none, .none, .bool false, .none] }
theorem raiseWords_rec {α : Type} {M : Model} {A : Around} {E : Value → Shared → Prop} {s : Shared} {cls msg : String} {Q : α → Shared → Prop} (hp : PlainExc cls) (hh : A.handled = none)
    (h : ∀ h' tk e t, s.toks ≤ tk → s.heap.objs.size ≤ e → s.heap.objs.size ≤ h'.objs.size → h'.get? e = some (excRec cls t) → (∀ b o, s.heap.get? b = some o → h'.get? b = some o) → E (.ref e) { s with heap := h', toks := tk }) :
    wpAny M A (raiseErrorWords cls msg : Sem α) Q E s := by
  unfold raiseErrorWords
  refine wpAny_bind (wpAny_mkText (wpAny_bind ?_))
  unfold newExc newTuple
  refine wpAny_bind (wpAny_newObj_type ?_)
  refine wpAny_bind (m := firstArgMember _ _) (wpAny_of_eq (a := Value.none) (by simp only [firstArgMember, hp.first]; rfl) ?_)
  rw [hp.own]
  refine wpAny_newObj_type (wpAny_raiseNew_none hh ?_)
  exact h _ _ _ _ (Nat.le_succ _) (by simp) (by simp; omega) (Heap.get?_push_size _ rfl) fun b o hb => Heap.get?_push_of_some _ (Heap.get?_push_of_some _ hb)
omit [Lo] in
noncomputable def raisesRec (cls : String) : PySem.Spec := fun A R s => A.handled = none ∧ ∀ h' tk e t, s.toks ≤ tk → s.heap.objs.size ≤ e → s.heap.objs.size ≤ h'.objs.size → h'.get? e = some (excRec cls t) →
  (∀ b o, s.heap.get? b = some o → h'.get? b = some o) → R (.error (.ref e)) { s with heap := h', toks := tk }
theorem seqIndex_out {i : Int} {n : Nat} (h0 : 0 ≤ i) (h : n ≤ i) : seqIndex? i n = none := by
  simp [seqIndex?]
  omega
open Builtin in
theorem meets_bytes_out (b : Array UInt8) (i : Int) (t u : Tok) (hr : Bytes.fitsIndex i = true) (h : seqIndex? i b.size = none) : Meets («bytes.__getitem__» ⟨[.bytes b t, .int i u], []⟩) (raisesRec "IndexError") := fun prog w A R s hs => by
  show wpAny _ A.in1 (Bytes.subscript? (.int i u) >>= fun r => _) _ _ s
  refine wpAny_bind ?_
  unfold Bytes.subscript?
  refine wpAny_bind (wpAny_specialOf (typeIs_int s i u) F.slot_int_index.lookup ?_)
  show wpAny _ A.in1 (if (!Bytes.fitsIndex i) = true then _ else pure (some i)) _ _ s
  rw [hr]
  refine wpAny_pure ?_
  show wpAny _ A.in1 (match (seqIndex? i b.size).bind (b[·]?) with | some x => retInt x.toNat | none => _) _ _ s
  rw [h]
  refine wpAny_bind (wpAny_rule ?_)
  exact wpAny_bind (raiseWords_rec (A := A.in1) (E := fun e s' => R (.error e) s') plainExc_IndexError hs.1 hs.2)
section
variable {X : Cx} {σ : Sto}
theorem EvX.bytes_out {e ie : Expr} {pos : Pos} {l : List Nat} {i : Int} (h1 : Ev X e σ (.bytes l)) (h2 : Ev X ie σ (.int i)) (h0 : (l.length : Int) ≤ i) (hi : i < 2 ^ 62) (hq : X.quiet = true)
    (hs : autoParam (∀ o i, subscripted ie false o i = operate [o, i] (getItem o i)) byI2) : EvX X (.Subscript e ie pos) σ (.error .index) := fun T s S => by
  refine wq_Subscript (h1.then S fun u T₁ s₁ l₁ S₁ r₁ => h2.then S₁ fun v T₂ s₂ l₂ S₂ r₂ => ⟨?_, ?_⟩) fun o i => ⟨_, hs o i⟩
  · refine x1a1 (look_get (o := .bytes l) rfl) fun id hid => ?_
    exact ⟨_, id, (r₁.le l₂).typeIs, hid⟩
  · refine x2a2 (rep_bytes_inv (r₁.le l₂)) fun b t e_0 hb => ?_; subst e_0
    cases r₂ using Rep.cInt
    have hz : b.size = l.length := by rw [← hb]; simp [bnats]
    refine wq_of (getItem_meets (typeIs_bytes _ _ _) (by decide) FB.slot_bytes_getitem FB.entry_bytes_getitem (FB.args_bytes_getitem_2 _ _) (meets_bytes_out b i _ _ ?_ (seqIndex_out (by (clear hz; lia)) (by lia))) ?_)
    · simp only [Builtin.Bytes.fitsIndex, Bool.and_eq_true, decide_eq_true_eq]; (clear hz; lia)
    · refine ⟨S₂.ok.hh hq, fun h' tk a tt hk hn hsz ha hold => ?_⟩
      have l₃ : Le T₂ s₂ T₂ { s₂ with heap := h', toks := tk } := Le.mk' (Ext.keeps hsz hold) hk
      have hl := (l₁.trans l₂).ext.1
      exact ⟨T₂, .index, a, rfl, rfl, (l₁.trans l₂).trans l₃, ⟨Nat.le_trans hl hn, _, _, ha, rfl, rfl, rfl, by simp, rfl, .inl rfl, fun q => by exact ft q⟩⟩
theorem wq_Attribute {x : Str} {p pos : Pos} {name : Str} {E : Value → Shared → Prop} {s : Shared} {Q : Value → Shared → Prop}
    (h : wq X.M X.A (eval (.Name x p) X.env) (fun o s₁ => wq X.M X.A (getAttr o name true) Q E s₁) E s)
    (hbase : autoParam (attributeBase (.Name x p) name X.env (eval (.Name x p) X.env) = eval (.Name x p) X.env) byRfl) : wq X.M X.A (eval (.Attribute (.Name x p) name pos) X.env) Q E s := by
  show wq X.M X.A (do
    let o ← attributeBase (.Name x p) name X.env (eval (.Name x p) X.env)
    standAt pos.atName
    let r ← holding [o] (getAttr o name true)
    letTemporaryGo (.Name x p) o r
    pure r) _ _ _
  rw [hbase]
  refine wq_bind (wq_mono h (fun o s₁ h₁ => wq_bind (wq_standAt (wq_bind (wq_holding (wq_mono h₁ (fun r s₂ h₂ => ?_) fun _ _ x => x))))) fun _ _ x => x)
  exact wq_bind (wq_pure (wq_pure h₂))
theorem Ev.start {x : Str} {p pos : Pos} {i j : Int} {r : List Nat} (h : Ev X (.Name x p) σ (.exc i j r))
    (hbase : autoParam (attributeBase (.Name x p) "start" X.env (eval (.Name x p) X.env) = eval (.Name x p) X.env) byRfl) : Ev X (.Attribute (.Name x p) "start" pos) σ (.int i) := fun T s S => by
  refine wq_Attribute (h.then S fun v T₁ s₁ l₁ S₁ r₁ => ?_) hbase
  cases r₁ using Rep.cExc with
  | exc hb ho hc hd hdat f => exact wq_of (start_attr ho hc hdat f ⟨T₁, l₁.trans (.tok (by show s₁.toks ≤ s₁.toks + 1 + 1; lia)), .int ..⟩)
theorem Ev.stop {x : Str} {p pos : Pos} {i j : Int} {r : List Nat} (h : Ev X (.Name x p) σ (.exc i j r))
    (hbase : autoParam (attributeBase (.Name x p) "end" X.env (eval (.Name x p) X.env) = eval (.Name x p) X.env) byRfl) : Ev X (.Attribute (.Name x p) "end" pos) σ (.int j) := fun T s S => by
  refine wq_Attribute (h.then S fun v T₁ s₁ l₁ S₁ r₁ => ?_) hbase
  cases r₁ using Rep.cExc with
  | exc hb ho hc hd hdat f => exact wq_of (end_attr ho hc hdat f ⟨T₁, l₁.trans (.tok (by show s₁.toks ≤ s₁.toks + 1 + 1; lia)), .int ..⟩)
theorem Ev.reason {x : Str} {p pos : Pos} {i j : Int} {r : List Nat} (h : Ev X (.Name x p) σ (.exc i j r))
    (hbase : autoParam (attributeBase (.Name x p) "reason" X.env (eval (.Name x p) X.env) = eval (.Name x p) X.env) byRfl) : Ev X (.Attribute (.Name x p) "reason" pos) σ (.str r) := fun T s S => by
  refine wq_Attribute (h.then S fun v T₁ s₁ l₁ S₁ r₁ => ?_) hbase
  cases r₁ using Rep.cExc with
  | exc hb ho hc hd hdat f => exact wq_of (reason_attr ho hc hdat f fun rv hr => ⟨T₁, l₁.trans (.tok (by show s₁.toks ≤ s₁.toks + 1; lia)), .str (hr.le (Nat.le_succ _) fun _ _ => rfl)⟩)
noncomputable def CallA (f : Value) (args : List AV) (r : AV) : Prop := ∀ (X : Cx) (B : Addr → Prop) (T : Tx) (s : Shared) (vals : List Value), X.Ok → (∀ b, B b → b < s.heap.objs.size) → X.G.In s.heap → 0 < s.toks →
  RepL X.w B T s.toks s.heap vals args → Yl X B T s (call f vals) r
theorem Ev.callA {f : Str} {p pos : Pos} {e : Expr} {es : List Expr} {xs : List AV} {r : AV} {fv : Value} (h : EvL X (e :: es) σ xs) (hc : CallA fv xs r)
    (hkind : X.env.kindOf f = some .globalImplicit) (hg : X.G.mg f = none) (hb : bootBuiltins f = some fv) (hfv : ∀ a, fv ≠ .ref a)
    (hn : autoParam (f ≠ "__name__") byDec) (hd : autoParam ((f == ("__debug__" : Str)) = false) byDec)
    (he : autoParam (starEach (e :: es) X.env = (false, eval e X.env) :: starEach es X.env) byRfl) (hst : autoParam ((backTo pos (starEach (e :: es) X.env)).any (·.1) = false) byRfl)
    (hcall : autoParam (eval (.Call (.Name f p) (e :: es) [] pos) X.env = (do callWith pos (← eval (.Name f p) X.env) [] (backTo pos (starEach (e :: es) X.env)) (backToKw pos (keywordEach [] X.env)))) byRfl) :
    Ev X (.Call (.Name f p) (e :: es) [] pos) σ r := fun T s S => by
  refine wq_Call (S.load_builtin hkind hg hb ?_ hn hd) hcall
  refine wq_callWith_plain hfv hst ?_
  have h' := h
  unfold EvL at h'
  rw [he] at h' ⊢
  refine wq_evalArgs (wq_mono (h' T s S pos) (fun vs s' t_0 => x1a2 t_0 fun T' l rl => ?_) fun _ _ x => x.elim)
  have S' := S.le_mono l
  exact Yl.backq l (hc X _ T' s' vs S'.ok (fun b q => S'.ban_lt q) S'.pg S'.pos rl)
theorem call_len_strA {l : List Nat} (hs : l.length ≤ 1099511627776) : CallA (.builtin "len") [.str l] (.int l.length) := fun X B T s vals _ _ _ h0 r => by
  cases r using RepL.cCons with
  | cons r₁ r₂ =>
    cases r₂ using RepL.cNil
    refine x2a3 (rep_str_inv r₁) fun x t e_0 hx _ => ?_; subst e_0
    have hlen : x.length = l.length := by subst hx; simp [Str.length]
    rw [← hlen]
    exact call_len_gives (typeIs_str _ _ _) F.slot_str_len F.entry_str_len (F.args_str_len_1 _) (gives_str_len x t) (by (clear hlen h0 hs; lia)) (by (clear h0; lia)) (yl_int (by (clear hlen hs; lia)))
theorem call_len_bytesA {l : List Nat} (hs : l.length ≤ 1099511627776) : CallA (.builtin "len") [.bytes l] (.int l.length) := fun X B T s vals _ _ _ h0 r => by
  cases r using RepL.cCons with
  | cons r₁ r₂ =>
    cases r₂ using RepL.cNil
    refine x2a2 (rep_bytes_inv r₁) fun b t e_0 e_1 => ?_; subst e_0; subst e_1
    have hlen : b.size = (bnats b).length := by simp [bnats]
    rw [← hlen] at hs ⊢
    exact len_bytes hs (yl_int (by (clear hlen hs; lia)))
end
end Mine
namespace Mine
open PySem PySem.W PyProof.Rows
variable [Lo]
variable {W : World}
structure IsT (x : AV) (T : String) (b : Bool) : Prop where
  run : ∀ (X : Cx) (B : Addr → Prop) (T' : Tx) (s : Shared) (v : Value), Rep X.w B T' s.toks s.heap v x → Yl X B T' s (call (.builtin "isinstance") [v, .type T]) (.bool b)
theorem meta_bytes : typeOf (.type "bytes") = pure (.type "type") := by kernel_rfl
theorem meta_memv : typeOf (.type "memoryview") = pure (.type "type") := by kernel_rfl
theorem sub_bytes_memv : isSubtype (.type "bytes") (.type "memoryview") = pure false := by rw [isSubtype_type]; kernel_rfl
theorem sub_bytes_bytes : isSubtype (.type "bytes") (.type "bytes") = pure true := by rw [isSubtype_type]; kernel_rfl
theorem isT_str_str {l : List Nat} : IsT (.str l) "str" true := ⟨fun X B T' s v r => by
  refine x2a2 (rep_str_inv r) fun x t e_0 _ => ?_; subst e_0
  exact IsiPair.str_str ⟨T', .refl _ _, .bool _⟩⟩
theorem isT_bytes_bytes {l : List Nat} : IsT (.bytes l) "bytes" true := ⟨fun X B T' s v r => by
  refine x2a2 (rep_bytes_inv r) fun x t e_0 _ => ?_; subst e_0
  exact call_isinstance_yes (Tx := "bytes") rfl meta_bytes sub_bytes_bytes ⟨T', .refl _ _, .bool _⟩⟩
theorem isT_bytes_no {l : List Nat} {T : String} (hne : (Value.type "bytes" == Value.type T) = false) (hty : typeOf (.type T) = pure (.type "type")) (hsub : isSubtype (.type "bytes") (.type T) = pure false) : IsT (.bytes l) T false := ⟨fun X B T' s v r => by
  refine x2a2 (rep_bytes_inv r) fun x t e_0 _ => ?_; subst e_0
  refine call_isinstance_of ?_
  exact isinstance_nested_false_bytes hne hty hsub ⟨T', .tok (Nat.le_succ _), .bool _⟩⟩
theorem isT_bytes_memv {l : List Nat} : IsT (.bytes l) "memoryview" false := isT_bytes_no (by decide +kernel) meta_memv sub_bytes_memv
section
variable {X : Cx} {σ : Sto}
theorem Ev.isinstance {p pos tp : Pos} {e : Expr} {f tn : Str} {x : AV} {T : String} {b : Bool} (h : Ev X e σ x) (hT : IsT x T b) (hf : f = ("isinstance" : Str)) (htn : bootBuiltins tn = some (.type T))
    (hkind : X.env.kindOf f = some .globalImplicit) (hg : X.G.mg f = none) (hkind' : X.env.kindOf tn = some .globalImplicit) (hg' : X.G.mg tn = none) (hn' : autoParam (tn ≠ "__name__") byDec) (hd' : autoParam ((tn == ("__debug__" : Str)) = false) byDec)
    (he : autoParam (starEach [e, .Name tn tp] X.env = [(false, eval e X.env), (false, eval (.Name tn tp) X.env)]) byRfl)
    (hcall : autoParam (eval (.Call (.Name f p) [e, .Name tn tp] [] pos) X.env = (do callWith pos (← eval (.Name f p) X.env) [] (backTo pos (starEach [e, .Name tn tp] X.env)) (backToKw pos (keywordEach [] X.env)))) byRfl) :
    Ev X (.Call (.Name f p) [e, .Name tn tp] [] pos) σ (.bool b) := fun T₀ s S => by
  subst hf
  refine wq_Call (S.load_builtin (v := .builtin "isinstance") hkind hg (by rfl) ?_) hcall
  refine wq_callWith_plain (fun _ => by simp) (by rw [he]; rfl) ?_
  rw [he]
  refine wq_evalArgs (wq_spliced_cons (h.then S fun v T₁ s₁ l₁ S₁ r₁ => wq_spliced_cons (S₁.load_builtin hkind' hg' htn (wq_spliced_nil ?_) hn' hd')))
  exact Yl.backq l₁ (hT.run X _ _ _ v r₁)
end
omit [Lo] in
structure Py (n : Nat) (x : AV) (d : PyData) : Prop where
  reads : ∀ {W : World} {B : Addr → Prop} {T : Tx} {k : Nat} {h : Heap} {v : Value}, Rep W B T k h v x → ∃ as, Reads h v d as
  lay : d.canLay0 = true ∧ d.depth ≤ n
  eqv_self : PyData.eqv d d = true
omit [Lo] in
structure PyL (n : Nat) (l : List AV) (ds : List PyData) : Prop where
  reads : ∀ {W : World} {B : Addr → Prop} {T : Tx} {k : Nat} {h : Heap} {vs : List Value}, RepL W B T k h vs l → ∃ as, ReadsAll h vs ds as
  lay : PyData.canLayAll0 ds = true ∧ PyData.depthAll ds ≤ n
  eqv_self : PyData.eqvAll ds ds = true
theorem Py.int {n : Nat} (i : Int) : Py n (.int i) (.int i) := ⟨fun r => by cases r using Rep.cInt; exact ⟨_, Reads.int i _⟩, by simp [PyData.canLay0, PyData.depth], by simp [PyData.eqv]⟩
theorem Py.list {n : Nat} {l : List AV} {ds : List PyData} (p : PyL n l ds) : Py (n + 1) (.list l) (.list ds) := ⟨fun r => by
    cases r using Rep.cList with
    | list hb ht hs hi =>
      refine x1a1 (p.reads (RepL.of (by rw [Array.length_toList]; exact hs) fun i v x h1 h2 => hi i v x (by simpa using h1) h2)) fun as q => ?_
      refine x1a5 ht fun o ho hc _ _ t_0 => ?_; (try clear ht); refine x1a1 t_0 fun k hd => ?_; (try clear t_0)
      exact ⟨_, reads_list_at ho hc hd q⟩, by
    simp only [PyData.canLay0, PyData.depth, p.lay.1, true_and]
    exact Nat.succ_le_succ p.lay.2, by simp only [PyData.eqv]; exact p.eqv_self⟩
theorem PyL.nil {n : Nat} : PyL n [] [] := ⟨fun r => by cases r using RepL.cNil; exact ⟨_, ReadsAll.nil⟩, by simp [PyData.canLayAll0, PyData.depthAll], by simp [PyData.eqvAll]⟩
theorem PyL.cons {n : Nat} {x : AV} {d : PyData} {l : List AV} {ds : List PyData} (p : Py n x d) (q : PyL n l ds) : PyL n (x :: l) (d :: ds) := ⟨fun r => by
    cases r using RepL.cCons with
    | cons r₁ r₂ =>
      obtain ⟨as, a⟩ := p.reads r₁
      obtain ⟨bs, b⟩ := q.reads r₂
      exact ⟨_, ReadsAll.cons a b⟩, by
    simp only [PyData.canLayAll0, PyData.depthAll, p.lay.1, q.lay.1, Bool.and_self, true_and]
    have a1 := p.lay.2
    have a2 := q.lay.2
    lia, by simp only [PyData.eqvAll, p.eqv_self, q.eqv_self, Bool.and_self]⟩
theorem Py.shaped {n : Nat} {x : AV} {d : PyData} (p : Py n x d) (hn : n ≤ 64) : SeqAt.shaped d = true := by
  unfold SeqAt.shaped; rw [p.lay.1, Bool.true_and]; exact decide_eq_true (Nat.le_trans p.lay.2 hn)
theorem units_ok {X : Cx} (ok : X.Ok) : X.A.units + 64 < cLine := by
  have := ok.a.units
  show X.A.units + 64 < 9900
  lia
theorem cmp_eq_deep {n m : Nat} {x y : AV} {d e : PyData} (p : Py n x d) (q : Py m y e) (hn : autoParam (n ≤ 64) byDec) (hm : autoParam (m ≤ 64) byDec) : CmpG .Eq x y (PyData.eqv d e) := fun X B T s u v ok _ h0 r₁ r₂ => by
  refine x1a1 (p.reads r₁) fun as ra => ?_
  refine x1a1 (q.reads r₂) fun bs rb => ?_
  exact eq_dataH ra rb (p.shaped hn) (q.shaped hm) (units_ok ok) ⟨T, .refl _ _, .bool _⟩
theorem pyL_ints {n : Nat} : ∀ l : List Int, PyL n (AV.ints l) (l.map .int)
  | [] => .nil
  | i :: l => .cons (.int i) (pyL_ints l)
theorem eqv_ints : ∀ l m : List Int, PyData.eqvAll (l.map .int) (m.map .int) = (l == m)
  | [], [] => rfl
  | [], _ :: _ => rfl
  | _ :: _, [] => rfl
  | a :: l, b :: m => by
    simp only [List.map_cons, PyData.eqvAll, PyData.eqv, eqv_ints l m]
    rfl
theorem cmp_eq_ints {l m : List Int} : CmpG .Eq (.list (AV.ints l)) (.list (AV.ints m)) (l == m) := by
  have := cmp_eq_deep (.list (pyL_ints (n := 0) l)) (.list (pyL_ints (n := 0) m))
  simp only [PyData.eqv, eqv_ints] at this
  exact this
end Mine
namespace Mine
open PySem PySem.W PyProof.Rows
variable [Lo]
variable {W : World}
namespace FD
open Builtin
set_option maxRecDepth 100000
variable {b : Array UInt8} {c : UInt8} {cs : List UInt8} {t t1 t2 t3 : Tok}
theorem loop_all {α β : Type} {g : Nat → α} {f : β → α → Sem (ForInStep α)} : ∀ (l : List β) (i : Nat), (∀ x k, i ≤ k → k < i + l.length → f x (g k) = pure (.yield (g (k + 1)))) → forIn l (g i) f = pure (g (i + l.length))
  | [], i, _ => rfl
  | x :: l, i, h => by
    rw [List.forIn_cons, h x i (Nat.le_refl _) (by simp), pure_bind]
    show forIn l (g (i + 1)) f = _
    rw [loop_all l (i + 1) fun x k h1 h2 => h x k (by omega) (by simp only [List.length_cons]; omega)]
    simp only [List.length_cons]
    rw [show i + 1 + l.length = i + (l.length + 1) by omega]
theorem run_key (F : Nat → Nat × Array Nat × _codecs.Faults → Sem (ForInStep (Nat × Array Nat × _codecs.Faults)))
    (hF : ∀ x k, k < b.size → F x (k, (b.map (·.toNat)).extract 0 k, {}) = pure (.yield (k + 1, (b.map (·.toNat)).extract 0 (k + 1), {}))) :
    (forIn (List.range' 0 ([:b.size] : Std.Legacy.Range).size) ((0, #[], {}) : Nat × Array Nat × _codecs.Faults) F >>= fun s => pure (s.2.1, s.1)) = (pure (b.map (·.toNat), b.size) : Sem _) := by
  have hl : (List.range' 0 ([:b.size] : Std.Legacy.Range).size).length = b.size := by simp [Std.Legacy.Range.size]
  have := loop_all (g := fun k => (k, (b.map (·.toNat)).extract 0 k, ({} : _codecs.Faults))) (f := F) (List.range' 0 ([:b.size] : Std.Legacy.Range).size) 0 fun x k h1 h2 => hF x k (by omega)
  simp only [hl, Nat.zero_add] at this
  have e0 : Array.extract (Array.map (fun x : UInt8 => x.toNat) b) 0 0 = #[] := by simp
  have e1 : Array.extract (Array.map (fun x : UInt8 => x.toNat) b) 0 b.size = Array.map (fun x => x.toNat) b := by
    have : b.size = (Array.map (fun x : UInt8 => x.toNat) b).size := by simp
    rw [this, Array.extract_size]
  rw [e0, e1] at this
  rw [this]
  rfl
theorem run_ascii {id : String} {errors : Option Str} (hb : ∀ c ∈ b.toList, c.toNat < 128) (hs : b.size ≤ 16777216) :
    _codecs.runDecoder id _codecs.asciiDecoder errors true b 0 [] = pure (b.map (·.toNat), b.size) := by
  unfold _codecs.runDecoder
  simp only [Std.Legacy.Range.forIn_eq_forIn_range']
  refine run_key _ fun x k hk => ?_
  have hsz : (Array.extract (Array.map (fun x : UInt8 => x.toNat) b) 0 k).size = k := by simp; omega
  have hlt : (b.getD k 0).toNat < 128 := by
    rw [Array.getD_eq_getD_getElem?, Array.getElem?_eq_getElem hk]
    exact hb _ (by simp)
  have hf : _codecs.asciiDecoder.find true b k = _codecs.Found.text [(b.getD k 0).toNat] (k + 1) := by
    show (if (b.getD k 0).toNat < 128 then _ else _) = _
    rw [if_pos hlt]
    rfl
  simp only [hf]
  rw [if_neg (by rw [hsz, sizeLine_eq]; omega), if_neg (by omega)]
  have he : Array.extract (Array.map (fun x : UInt8 => x.toNat) b) 0 (k + 1) = Array.extract (Array.map (fun x : UInt8 => x.toNat) b) 0 k ++ [(b.getD k 0).toNat].toArray := by
    apply Array.ext'
    simp only [Array.toList_extract, Array.toList_append, Array.toList_map]
    simp only [List.extract_eq_take_drop, List.drop_zero, Nat.sub_zero]
    rw [List.take_add_one]
    congr 1
    simp [Array.getD_eq_getD_getElem?, hk]
  rw [he]
theorem road_strict {id : String} : _codecs.decodeRoad id b (PySem.Str.ofString "ascii") (some (PySem.Str.ofString "strict")) [] = (_codecs.runDecoder id _codecs.asciiDecoder (some (PySem.Str.ofString "strict")) true b 0 [] >>= fun r => mkStr ⟨r.1⟩) := by kernel_rfl
theorem road_ignore {id : String} : _codecs.decodeRoad id b (PySem.Str.ofString "ascii") (some (PySem.Str.ofString "ignore")) [] = (_codecs.runDecoder id _codecs.asciiDecoder (some (PySem.Str.ofString "ignore")) true b 0 [] >>= fun r => mkStr ⟨r.1⟩) := by kernel_rfl
theorem new_strict : «str.__new__» ⟨[.type "str", .bytes (c :: cs).toArray t, .str (PySem.Str.ofString "ascii") t1, .str (PySem.Str.ofString "strict") t2], []⟩ =
    (mkStr (PySem.Str.ofString "ascii") >>= fun e => mkStr (PySem.Str.ofString "strict") >>= fun d => rule "str.__new__.decode-bytes" >>= fun _ => call (.builtin "bytes.decode") [.bytes (c :: cs).toArray t] [(PySem.Str.ofString "encoding", e), (PySem.Str.ofString "errors", d)] >>= fun v => ret v) := by kernel_rfl
theorem new_ignore : «str.__new__» ⟨[.type "str", .bytes (c :: cs).toArray t, .str (PySem.Str.ofString "ascii") t1, .str (PySem.Str.ofString "ignore") t2], []⟩ =
    (mkStr (PySem.Str.ofString "ascii") >>= fun e => mkStr (PySem.Str.ofString "ignore") >>= fun d => rule "str.__new__.decode-bytes" >>= fun _ => call (.builtin "bytes.decode") [.bytes (c :: cs).toArray t] [(PySem.Str.ofString "encoding", e), (PySem.Str.ofString "errors", d)] >>= fun v => ret v) := by kernel_rfl
theorem dec_strict : «bytes.decode» ⟨[.bytes (c :: cs).toArray t], [(PySem.Str.ofString "encoding", .str (PySem.Str.ofString "ascii") t1), (PySem.Str.ofString "errors", .str (PySem.Str.ofString "strict") t2)]⟩ =
    (mkStr (PySem.Str.ofString "utf-8") >>= fun _ => mkStr (PySem.Str.ofString "ascii") >>= fun e => mkStr (PySem.Str.ofString "strict") >>= fun d => mkStr (PySem.Str.ofString "bytes.decode") >>= fun i =>
      call (.builtin "_codecs.decode.text") [.bytes (c :: cs).toArray t, e, d, i] >>= fun v => ret v) := by kernel_rfl
theorem meets_text_strict {d : PySem.Str} (hb : ∀ c ∈ b.toList, c.toNat < 128) (hs : b.size ≤ 16777216) :
    Meets («_codecs.decode.text» ⟨[.bytes b t, .str (PySem.Str.ofString "ascii") t1, .str (PySem.Str.ofString "strict") t2, .str d t3], []⟩) (fun _ R s => R (.ok (.ret (.str ⟨b.map (·.toNat)⟩ s.toks))) { s with toks := s.toks + 1 }) := by
  refine .of_wp fun prog w A R s h => ?_
  show wpAny _ _ (Bytes.bytesLike _ (.bytes b t) >>= fun r => _) _ _ s
  refine wpAny_bind (wpAny_of_eq KBd.like_eq ?_)
  refine wpAny_bind (wpAny_of_eq KBd.held_eq ?_)
  show wpAny _ _ (_codecs.decodeRoad _ b (PySem.Str.ofString "ascii") (some (PySem.Str.ofString "strict")) [] >>= fun v => _) _ _ s
  rw [road_strict, run_ascii hb hs]
  refine wpAny_bind (wpAny_bind (wpAny_pure ?_))
  exact wpAny_mkStr (wpAny_pure ⟨_, rfl, h⟩) (by show (b.map (·.toNat)).size ≤ sizeLine; rw [Array.size_map, sizeLine_eq]; exact hs)
theorem dec_ignore : «bytes.decode» ⟨[.bytes (c :: cs).toArray t], [(PySem.Str.ofString "encoding", .str (PySem.Str.ofString "ascii") t1), (PySem.Str.ofString "errors", .str (PySem.Str.ofString "ignore") t2)]⟩ =
    (mkStr (PySem.Str.ofString "utf-8") >>= fun _ => mkStr (PySem.Str.ofString "ascii") >>= fun e => mkStr (PySem.Str.ofString "ignore") >>= fun d => mkStr (PySem.Str.ofString "bytes.decode") >>= fun i =>
      call (.builtin "_codecs.decode.text") [.bytes (c :: cs).toArray t, e, d, i] >>= fun v => ret v) := by kernel_rfl
theorem meets_text_ignore {d : PySem.Str} (hb : ∀ c ∈ b.toList, c.toNat < 128) (hs : b.size ≤ 16777216) :
    Meets («_codecs.decode.text» ⟨[.bytes b t, .str (PySem.Str.ofString "ascii") t1, .str (PySem.Str.ofString "ignore") t2, .str d t3], []⟩) (fun _ R s => R (.ok (.ret (.str ⟨b.map (·.toNat)⟩ s.toks))) { s with toks := s.toks + 1 }) := by
  refine .of_wp fun prog w A R s h => ?_
  show wpAny _ _ (Bytes.bytesLike _ (.bytes b t) >>= fun r => _) _ _ s
  refine wpAny_bind (wpAny_of_eq KBd.like_eq ?_)
  refine wpAny_bind (wpAny_of_eq KBd.held_eq ?_)
  show wpAny _ _ (_codecs.decodeRoad _ b (PySem.Str.ofString "ascii") (some (PySem.Str.ofString "ignore")) [] >>= fun v => _) _ _ s
  rw [road_ignore, run_ascii hb hs]
  refine wpAny_bind (wpAny_bind (wpAny_pure ?_))
  exact wpAny_mkStr (wpAny_pure ⟨_, rfl, h⟩) (by show (b.map (·.toNat)).size ≤ sizeLine; rw [Array.size_map, sizeLine_eq]; exact hs)
theorem args_object_init_4 (a b c d : Value) : argsOk "object.__init__" ⟨[a, b, c, d], []⟩ := by
  unfold argsOk; rw [signature?_of (id := "object.__init__") (n := ['_', '_', 't', 'i', 'n', 'i', '_', '_']) (o := ['t', 'c', 'e', 'j', 'b', 'o']) (by kernel_rfl) PySem.F.owner_object]; kernel_rfl
theorem typeCall_str_3 (a b c : Value) : checkTypeCall "str" ⟨[a, b, c], []⟩ = pure () := by kernel_rfl
theorem newCall_str_3 (a b c : Value) : checkBuiltinCall "str.__new__" ⟨[.type "str", a, b, c], []⟩ = pure () := by kernel_rfl
theorem check_decode (b : Array UInt8) (t : Tok) (e d : Value) : checkBuiltinCall "bytes.decode" ⟨[.bytes b t], [(PySem.Str.ofString "encoding", e), (PySem.Str.ofString "errors", d)]⟩ = pure () := by kernel_rfl
end FD
section
variable {prog : Program} {w : World} {A : Around} {E : Value → Shared → Prop} {s : Shared}
open Builtin
theorem call_str_strict {c : UInt8} {cs : List UInt8} {t t1 t2 : Tok} {Q : Value → Shared → Prop} (hb : ∀ x ∈ c :: cs, x.toNat < 128) (hs : (c :: cs).length ≤ 16777216)
    (h : ∀ t' k, s.toks ≤ t' → t' < k → Q (.str ⟨(c :: cs).toArray.map (·.toNat)⟩ t') { s with toks := k }) :
    wpAny (model prog w) A (call (.type "str") [.bytes (c :: cs).toArray t, .str (PySem.Str.ofString "ascii") t1, .str (PySem.Str.ofString "strict") t2]) Q E s := by
  refine callType_codes (T := "str") (Bi := Builtin.«object.__init__») (Q₁ := fun r s₁ => ∃ y u, r = .str y u ∧ Q r s₁) PySem.F.called_str (FD.typeCall_str_3 _ _ _) PySem.F.entry_object_init ?_ ?_
  · refine codeAny_of_tree ?_
    show wpAny _ A.in1.in1 (do checkBuiltinCall "str.__new__" ⟨_, []⟩; again (.builtin "str.__new__" ⟨_, []⟩)) _ _ s
    refine wpAny_bind (wpAny_of_eq (FD.newCall_str_3 _ _ _) (wpAny_pure ⟨plainId_quiet (by decide +kernel) _, codeAny_builtin PySem.F.entry_str_new ?_⟩))
    rw [Around.under_plainId (by decide +kernel) _]
    rw [FD.new_strict]
    refine wpAny_bind (wpAny_mkStr (wpAny_bind (wpAny_mkStr (wpAny_bind (wpAny_rule (wpAny_bind ?_))) (by decide))) (by decide))
    refine wpAny_call (codeAny_of_tree ?_)
    show wpAny _ A.in1.in1.in1 (do checkBuiltinCall "bytes.decode" ⟨_, _⟩; again (.builtin "bytes.decode" ⟨_, _⟩)) _ _ _
    refine wpAny_bind (wpAny_of_eq (FD.check_decode _ _ _ _) (wpAny_pure ⟨plainId_quiet (by decide +kernel) _, codeAny_builtin FB.entry_bytes_decode ?_⟩))
    rw [Around.under_plainId (by decide +kernel) _]
    rw [FD.dec_strict]
    refine wpAny_bind (wpAny_mkStr (wpAny_bind (wpAny_mkStr (wpAny_bind (wpAny_mkStr (wpAny_bind (wpAny_mkStr (wpAny_bind ?_) (by decide))) (by decide))) (by decide))) (by decide))
    refine call_function_meets KBd.kind_text KBd.plain_text KBd.entry_text (KBd.args_text _ _ _ _) (FD.meets_text_strict (by simpa using hb) (by simpa using hs)) ?_
    refine wpAny_pure (wpAny_pure ⟨_, _, rfl, h _ _ ?_ ?_⟩)
    · dsimp only; (clear hs; lia)
    · dsimp only; (clear hs; lia)
  · rintro obj s₁ ⟨y, u, rfl, hq⟩
    exact ⟨typeIs_str _ _ _, FD.args_object_init_4 _ _ _ _, object_init_meets PySem.F.called_str.init.lookup PySem.F.called_str.made (by decide) prog w A.in1 _ s₁ ⟨typeIs_str _ _ _, rfl, hq⟩⟩
theorem call_str_ignore {c : UInt8} {cs : List UInt8} {t t1 t2 : Tok} {Q : Value → Shared → Prop} (hb : ∀ x ∈ c :: cs, x.toNat < 128) (hs : (c :: cs).length ≤ 16777216)
    (h : ∀ t' k, s.toks ≤ t' → t' < k → Q (.str ⟨(c :: cs).toArray.map (·.toNat)⟩ t') { s with toks := k }) :
    wpAny (model prog w) A (call (.type "str") [.bytes (c :: cs).toArray t, .str (PySem.Str.ofString "ascii") t1, .str (PySem.Str.ofString "ignore") t2]) Q E s := by
  refine callType_codes (T := "str") (Bi := Builtin.«object.__init__») (Q₁ := fun r s₁ => ∃ y u, r = .str y u ∧ Q r s₁) PySem.F.called_str (FD.typeCall_str_3 _ _ _) PySem.F.entry_object_init ?_ ?_
  · refine codeAny_of_tree ?_
    show wpAny _ A.in1.in1 (do checkBuiltinCall "str.__new__" ⟨_, []⟩; again (.builtin "str.__new__" ⟨_, []⟩)) _ _ s
    refine wpAny_bind (wpAny_of_eq (FD.newCall_str_3 _ _ _) (wpAny_pure ⟨plainId_quiet (by decide +kernel) _, codeAny_builtin PySem.F.entry_str_new ?_⟩))
    rw [Around.under_plainId (by decide +kernel) _]
    rw [FD.new_ignore]
    refine wpAny_bind (wpAny_mkStr (wpAny_bind (wpAny_mkStr (wpAny_bind (wpAny_rule (wpAny_bind ?_))) (by decide))) (by decide))
    refine wpAny_call (codeAny_of_tree ?_)
    show wpAny _ A.in1.in1.in1 (do checkBuiltinCall "bytes.decode" ⟨_, _⟩; again (.builtin "bytes.decode" ⟨_, _⟩)) _ _ _
    refine wpAny_bind (wpAny_of_eq (FD.check_decode _ _ _ _) (wpAny_pure ⟨plainId_quiet (by decide +kernel) _, codeAny_builtin FB.entry_bytes_decode ?_⟩))
    rw [Around.under_plainId (by decide +kernel) _]
    rw [FD.dec_ignore]
    refine wpAny_bind (wpAny_mkStr (wpAny_bind (wpAny_mkStr (wpAny_bind (wpAny_mkStr (wpAny_bind (wpAny_mkStr (wpAny_bind ?_) (by decide))) (by decide))) (by decide))) (by decide))
    refine call_function_meets KBd.kind_text KBd.plain_text KBd.entry_text (KBd.args_text _ _ _ _) (FD.meets_text_ignore (by simpa using hb) (by simpa using hs)) ?_
    refine wpAny_pure (wpAny_pure ⟨_, _, rfl, h _ _ ?_ ?_⟩)
    · dsimp only; (clear hs; lia)
    · dsimp only; (clear hs; lia)
  · rintro obj s₁ ⟨y, u, rfl, hq⟩
    exact ⟨typeIs_str _ _ _, FD.args_object_init_4 _ _ _ _, object_init_meets PySem.F.called_str.init.lookup PySem.F.called_str.made (by decide) prog w A.in1 _ s₁ ⟨typeIs_str _ _ _, rfl, hq⟩⟩
end
omit [Lo] in
noncomputable def strictL : List Nat := [115, 116, 114, 105, 99, 116]
omit [Lo] in
noncomputable def ignoreL : List Nat := [105, 103, 110, 111, 114, 101]
omit [Lo] in
noncomputable def asciiL : List Nat := [97, 115, 99, 105, 105]
theorem call_str_ascii {l er : List Nat} (hl : l ≠ []) (hb : ∀ c ∈ l, c < 128) (hs : l.length ≤ 16777216) (he : er = strictL ∨ er = ignoreL) : CallG (.type "str") [.bytes l, .str asciiL, .str er] (.str l) := fun X B T s vals _ _ _ _ h0 rl => by
  cases rl using RepL.cCons with
  | cons r₁ rl =>
  cases rl using RepL.cCons with
  | cons r₂ rl =>
  cases rl using RepL.cCons with
  | cons r₃ rl =>
  cases rl using RepL.cNil
  refine x2a2 (rep_bytes_inv r₁) fun b t e_0 e_1 => ?_; subst e_0; subst e_1
  refine x2a3 (rep_str_inv r₂) fun x t1 e_0 hx _ => ?_; subst e_0
  refine x2a3 (rep_str_inv r₃) fun y t2 e_0 hy _ => ?_; subst e_0
  have hx' : x = PySem.Str.ofString "ascii" := (str_of hx).trans (by decide)
  subst hx'
  obtain ⟨c, cs, hbl⟩ : ∃ c cs, b = (c :: cs).toArray := by
    obtain ⟨bl⟩ := b
    cases bl with
    | nil => exact absurd rfl hl
    | cons c cs => exact ⟨c, cs, rfl⟩
  subst hbl
  have hb' : ∀ x ∈ c :: cs, x.toNat < 128 := fun x hx => hb _ (by simp only [bnats]; exact List.mem_map_of_mem hx)
  have hs' : (c :: cs).length ≤ 16777216 := by simpa [bnats] using hs
  have fin : ∀ t' k, s.toks ≤ t' → t' < k → ∃ T', Le T s T' { s with toks := k } ∧ Rep X.w B T' k s.heap (.str ⟨(c :: cs).toArray.map (·.toNat)⟩ t') (.str (bnats (c :: cs).toArray)) := fun t' k h1 h2 => by
    have hl : ((⟨(c :: cs).toArray.map (·.toNat)⟩ : Str).cps).toList = bnats (c :: cs).toArray := by simp [bnats]
    refine ⟨fun u => if u = t' then bnats (c :: cs).toArray else T u, ⟨Ext.refl _, by show s.toks ≤ k; (clear hs' hs; lia), fun t ht => if_neg (Nat.ne_of_lt (Nat.lt_of_lt_of_le ht h1)), rfl, rfl⟩, .str ⟨⟨_, t', rfl, hl, if_pos rfl, Nat.lt_of_lt_of_le h0 h1, h2⟩⟩⟩
  rcases he with rfl | rfl
  · have hy' : y = PySem.Str.ofString "strict" := (str_of hy).trans (by decide)
    subst hy'
    exact call_str_strict hb' hs' fin
  · have hy' : y = PySem.Str.ofString "ignore" := (str_of hy).trans (by decide)
    subst hy'
    exact call_str_ignore hb' hs' fin
end Mine
namespace Mine
open PySem PySem.W PyProof.Rows
variable [Lo]
variable {W : World}
section
variable {prog : Program} {w : World} {A : Around} {E : Value → Shared → Prop} {s : Shared}
end
end Mine
namespace Mine
open PySem PySem.W PyProof.Rows
variable [Lo]
variable {W : World}
theorem intsAre_of' {B : Addr → Prop} {T : Tx} {n : Nat} {h : Heap} {l : List Int} {vs : List Value} (r : RepL W B T n h vs (AV.ints l)) : IntsAre vs l :=
  intsAre_of (by simpa [AV.ints] using r.length) r.at
theorem rep_lst {B : Addr → Prop} {T : Tx} {n : Nat} {h : Heap} {v : Value} {l : List AV} (r : Rep W B T n h v (.list l)) : ∃ a items, v = .ref a ∧ ¬ B a ∧ IsLst h a items ∧ RepL W B T n h items.toList l := by
  cases r using Rep.cList with
  | @list a items _ hb hl hs hi => exact ⟨a, items, rfl, hb, hl, .of (by rw [Array.length_toList]; exact hs) fun i v x h1 h2 => hi i v x (by simpa using h1) h2⟩
theorem le_keeps {T : Tx} {s : Shared} {h' : Heap} {k : Nat} (hk : s.toks ≤ k) (hs : s.heap.objs.size ≤ h'.objs.size) (h : ∀ b o, s.heap.get? b = some o → h'.get? b = some o) : Le T s T { s with heap := h', toks := k } :=
  Le.mk' (Ext.keeps hs h) hk
theorem call_sum {l : List Int} : CallG (.builtin "sum") [.list (AV.ints l)] (.int l.sum) := fun X B T s vals ok hq hB hG h0 rl => by
  cases rl using RepL.cCons with
  | cons r rl =>
  cases rl using RepL.cNil
  refine x2a4 (rep_lst r) fun a items e_0 hb hl ri => ?_; subst e_0
  have hi := intsAre_of' ri
  refine x1a1 (hi.allInts.items) fun xs hx => ?_
  have hl' : s.heap.IsList a (intItems xs) := by
    have : s.heap.IsList a items.toList.toArray := by rw [Array.toArray_toList]; exact hl.is
    exact hx ▸ this
  refine wpAny_grow (sum_intListG (ok.hh hq) hl' fun h' tk t' hk h1 h2 => ?_)
  have e1 : l = xs.toList.map (·.1) := by
    rw [← nums_intItems, ← hx]
    exact (show numsOf items.toList.toArray.toList = l from hi.numsOf).symm
  have e2 : preSum (numAt xs) xs.size = l.sum := by
    rw [preSum_eq, List.take_of_length_le (by simp), e1]
  rw [e2]
  exact ⟨T, le_keeps h1 h2 hk, .int ..⟩
theorem repL_replicate {B : Addr → Prop} {T : Tx} {n : Nat} {h : Heap} {vs : List Value} {xs : List AV} (r : RepL W B T n h vs xs) : ∀ k : Nat, RepL W B T n h (List.replicate k vs).flatten (List.replicate k xs).flatten
  | 0 => .nil
  | k + 1 => by
    rw [List.replicate_succ, List.replicate_succ, List.flatten_cons, List.flatten_cons]
    exact r.append (repL_replicate r k)
theorem mulFold (items : Array Value) : ∀ (k : Nat) (acc : Array Value), (List.replicate k items).foldl (fun a b => a ++ b) acc = acc ++ (List.replicate k items.toList).flatten.toArray
  | 0, acc => by simp
  | k + 1, acc => by
    rw [List.replicate_succ, List.foldl_cons, mulFold items k, List.replicate_succ, List.flatten_cons]
    apply Array.ext'
    simp
theorem bin_mul_list {l : List AV} {i : Int} (h0 : 0 ≤ i) (hs : l.length * i.toNat ≤ 16777216) (hi : i ≤ 16777216) : BinG .Mult (.list l) (.int i) (.list (List.replicate i.toNat l).flatten) := fun X B T s u v hG hp hB r₁ r₂ => by
  refine x2a4 (rep_lst r₁) fun a items e_0 hb hl ri => ?_; subst e_0
  cases r₂ using Rep.cInt with
  | int t =>
  refine x1a1 (hl.rec) fun n hrec => ?_
  have hlen : items.size = l.length := by simpa using ri.length
  refine wpAny_binaryOp_repeat_ref (T := "list") (U := "int") (by decide) ⟨_, hrec, rfl⟩ (fun s' => typeIs_int s' i t) noFill_list_mul F.fills_int_mul F.slot_int_rmul repeat_list F.slot_int_index.lookup
    (call_meets F.slot_int_rmul (typeIs_int s i t) F.entry_int_rmul (F.args_int_rmul_2 _ _) (int___rmul___int_list i t a items n)
      ⟨hrec, rfl, ⟨_, hrec, rfl⟩, call_meets F.slot_list_mul ⟨_, hrec, rfl⟩ F.entry_list_mul (F.args_list_mul_2 _ _)
        (AutoListH.list___mul___list_int_3 a items n i t (by simp [Builtin.List.listFitsIndex]; (clear hlen hp hs; lia)) (by rw [hlen]; (clear hlen hp; lia)) (by simp [Builtin.List.listTooLong, sizeLine, hlen]; (clear hlen hp; lia)))
        ⟨hrec, ?_⟩⟩)
  refine ⟨T, le_push _, ?_⟩
  have hnew : IsLst (s.heap.push { cls := .type "list", data := .seq (List.foldl (fun x1 x2 => x1 ++ x2) #[] (List.replicate (if items.isEmpty = true then 0 else i.toNat) items)) }) s.heap.objs.size
    (List.replicate (if items.isEmpty = true then 0 else i.toNat) items.toList).flatten.toArray := ⟨_, Heap.get?_push_size _ rfl, rfl, rfl, rfl, 0, by rw [mulFold]; simp⟩
  have hfl : (List.replicate (if items.isEmpty = true then 0 else i.toNat) items.toList).flatten = (List.replicate i.toNat items.toList).flatten := by
    by_cases he : items.isEmpty = true
    · have : items = #[] := Array.isEmpty_iff.mp he
      subst this
      simp
    · rw [if_neg he]
  rw [hfl] at hnew
  have rr := (repL_replicate ri i.toNat).mono (B' := B) (Nat.le_refl _) (fun _ _ => rfl) ((Ext.refl s.heap).push { cls := .type "list", data := .seq (List.foldl (fun x1 x2 => x1 ++ x2) #[] (List.replicate (if items.isEmpty = true then 0 else i.toNat) items)) }) fun _ q => .inl q
  exact .list (fun q => Nat.lt_irrefl _ (hB _ q)) hnew (by simpa using rr.length) fun j v x h1 h2 => rr.at j v x (by simpa using h1) h2
end Mine
namespace Mine
open PySem PySem.W PyProof.Rows
variable [Lo]
variable {W : World}
theorem RepL.mv {lo : Addr} {B : Addr → Prop} {T T' : Tx} {s s' : Shared} : ∀ {vs : List Value} {xs : List AV}, RepL W B T s.toks s.heap vs xs → Mv lo T s T' s' → RepL W B T' s'.toks s'.heap vs xs
  | _, _, .nil, _ => .nil
  | _, _, .cons r rl, m => .cons (r.mv m) (rl.mv m)
theorem list_loop {X : Cx} {A₀ : Around} (hA : X.A = A₀.in1) {n : Str} {p : Pos} {it : Value} {xs : List AV} {T0 T1 : Tx} {s0 s1 : Shared} {Io : Addr → Prop} {J : Nat → Heap → Prop} {S : Addr} {res : Value} {R : Result → Shared → Prop}
    (itr : Itr X (fun b => b = S) (.Name n p) it xs T1 s1 Io J) (l01 : Le T0 s0 T1 s1) (hG0 : X.G.In s0.heap) (hS0 : s0.heap.objs.size ≤ S) (hS1 : S < s1.heap.objs.size) (hlen : xs.length ≤ 16777216)
    (fin : ∀ T' s' acc' c', LeB (fun b => b = S) T1 s1 T' s' → s'.heap.get? S = some { cls := .type "list", dict := none, data := .seq acc' c', slots := #[] } → RepL X.w (fun b => b = S) T' s'.toks s'.heap acc'.toList xs → R (.ok (.ret res)) s') :
    ∀ (k i : Nat) (T : Tx) (s : Shared) (acc : Array Value) (c : Nat), xs.length - i = k → i ≤ xs.length → J i s.heap → LeB (fun b => b = S) T1 s1 T s → 0 < s.toks →
      s.heap.get? S = some { cls := .type "list", dict := none, data := .seq acc c, slots := #[] } → RepL X.w (fun b => b = S) T s.toks s.heap acc.toList (xs.take i) →
      codeAny (model X.prog X.w) A₀ (.builtin "list.extend.loop" ⟨[.ref S, it, res], []⟩) R s := by
  have hG : ∀ {T : Tx} {s : Shared}, LeB (fun b => b = S) T1 s1 T s → X.G.In s.heap := fun {T s} lb => hG0.ext ⟨Nat.le_trans l01.ext.1 lb.size, fun b o e => by
    refine x1a1 (l01.ext.2 b o e) fun sl e1 => ?_
    refine x1a1 (lb.ext b _ (Nat.ne_of_lt (Nat.lt_of_lt_of_le (Heap.lt_size e) hS0)) e1) fun sl' e2 => ?_
    exact ⟨sl', keepS_tr e2⟩⟩
  have nI : ∀ b, Io b → b ≠ S := fun b hb q => Nat.lt_irrefl _ (Nat.lt_of_lt_of_le hS1 (q ▸ itr.own b hb))
  intro k
  induction k with
  | zero =>
    intro i T s acc c hk hi hj lb h0 hS ra
    have hin : i = xs.length := by (clear h0 hS0; lia)
    subst hin
    refine codeAny_builtin F.entry_extend_loop ?_
    rw [Around.under_plainId F.plain_extend_loop _]
    show wpAny _ A₀.in1 (pyNext it >>= _) _ _ s
    rw [← hA]
    refine wpAny_bind (wpAny_mono (itr.stop T s hj lb (hG lb) h0) (fun r s' t_0 => x0a2 t_0 fun hr t_1 => x1a1 t_1 fun T' mv => ?_) fun _ _ x => x.elim)
    subst hr
    refine x1a1 (mv.sh.low S _ hS1 hS) fun sl e => ?_
    refine wpAny_pure (fin T' s' acc c (lb.mv mv (Nat.le_refl _)) (by rw [e]; simp [keepS]) ?_)
    have := ra.mv mv
    rwa [List.take_of_length_le (Nat.le_refl _)] at this
  | succ k ih =>
    intro i T s acc c hk hi hj lb h0 hS ra
    have hlt : i < xs.length := by (clear h0 hi hS0; omega)
    have hx : xs[i]? = some xs[i] := List.getElem?_eq_getElem hlt
    refine codeAny_builtin F.entry_extend_loop ?_
    rw [Around.under_plainId F.plain_extend_loop _]
    show wpAny _ A₀.in1 (pyNext it >>= _) _ _ s
    rw [← hA]
    refine wpAny_bind (wpAny_mono (itr.next i xs[i] T s (fun b => b = S) hx hj lb (fun b q _ => q) (fun b q => ⟨q ▸ Heap.lt_size hS, fun hb => nI b hb q⟩) (hG lb) h0) (fun r s₁ t_0 => x1a2 t_0 fun v hr h₁ => ?_) fun _ _ x => x.elim)
    subst hr
    show wpAny _ X.A (letOwnedTupleGo (.Name n p) it v >>= fun _ => (updateSeq S (·.push v) >>= fun _ => again (.builtin "list.extend.loop" ⟨[.ref S, it, res], []⟩))) _ _ s₁
    refine wpAny_bind (wpAny_mono h₁ (fun _ s₂ t_0 => x1a3 t_0 fun T₂ mv rep hj' => ?_) fun _ _ x => x.elim)
    have lb₂ := lb.mv mv (Nat.le_refl _)
    have hS₂ : s₂.heap.get? S = some { cls := .type "list", dict := none, data := .seq acc c, slots := #[] } := by
      refine x1a1 (mv.sh.low S _ hS1 hS) fun sl e => ?_
      rw [e]; simp [keepS]
    have hal : acc.size = i := by
      have := ra.length
      rw [Array.length_toList, List.length_take] at this
      (clear h0 hk hS0; lia)
    refine wpAny_bind (wpAny_updateSeq hS₂ rfl ?_ (by rw [sizeLine_eq]; (clear h0 hk hS0; lia)) (by show (acc.push v).size ≤ sizeLine + 1; rw [Array.size_push, sizeLine_eq]; (clear h0 hk hS0; lia)))
    have hsb : Heap.SameBut S s₂.heap (s₂.heap.update S (Obj.mapSeq (·.push v))) := Heap.SameBut.update ..
    refine wpAny_pure ⟨plainId_quiet F.plain_extend_loop _, ih (i + 1) T₂ _ (acc.push v) _ (by (clear hal hS0; omega)) hlt ?_ (lb₂.trans (LeB.turn (B := fun b => b = S) (k := s₂.toks) hsb rfl (Nat.le_refl _)) fun _ _ q => q) (Nat.lt_of_lt_of_le h0 mv.toks) (Heap.get?_update_self _ hS₂ rfl) ?_⟩
    · exact itr.same _ _ _ hj' fun b o hb e => ⟨_, keepS_re ((hsb.2 b (nI b hb)).trans e)⟩
    · have e1 : xs.take (i + 1) = xs.take i ++ [xs[i]] := by rw [List.take_add_one, hx]; rfl
      rw [e1]
      simp only [Array.toList_push]
      exact ((ra.mv mv).append (.cons rep .nil)).but fun b o hb e => (hsb.2 b hb).trans e
theorem call_list_text {l : List Nat} (hs : l.length ≤ 16777216) : CallG (.type "list") [.str l] (.list (l.map fun c => .str [c])) := fun X B T s vals ok hq hB hG h0 rl => by
  cases rl with
  | cons r rl =>
  cases rl
  refine x2a3 (rep_str_inv r) fun x t e_0 hx _ => ?_; subst e_0
  subst hx
  refine callType_codes (Q₁ := fun obj s₁ => obj = .ref s.heap.objs.size ∧ s₁ = { s with heap := s.heap.push { cls := .type "list", data := .seq #[] } }) F.called_list (F.typeCall_list_1 _) F.entry_list_init
    (code_list_new _ ⟨rfl, rfl⟩) fun obj s₁ h₁ => ?_
  refine x0a2 h₁ fun e_0 e_1 => ?_; (try clear h₁); subst e_0; subst e_1
  have hS : (s.heap.push { cls := .type "list", data := .seq #[] }).get? s.heap.objs.size = some { cls := .type "list", data := .seq #[] } := Heap.get?_push_size _ rfl
  refine ⟨⟨_, hS, rfl⟩, F.args_list_init_2 _ _, ?_⟩
  generalize hSa : s.heap.objs.size = S at hS ⊢
  show wpAny _ X.A.in1.in1 (do let old ← Builtin.List.listItems (.ref S); Builtin.List.listUpdate (.ref S) (fun _ => #[]); letGo old.toList.reverse; Builtin.List.listExtendWith (.ref S) (.str x t) .none) _ _ _
  refine wpAny_bind ?_
  unfold Builtin.List.listItems
  refine wpAny_bind (wpAny_seqItems hS rfl (wpAny_pure ?_))
  show wpAny _ _ (updateSeq S (fun _ => #[]) >>= fun _ => letGo (#[] : Array Value).toList.reverse >>= fun _ => Builtin.List.listExtendWith (.ref S) (.str x t) .none) _ _ _
  refine wpAny_bind (wpAny_updateSeq hS rfl ?_)
  have hS₂ := Heap.get?_update_self (Obj.mapSeq (fun _ => (#[] : Array Value))) hS rfl
  have hold : ∀ b o, s.heap.get? b = some o → ((s.heap.push { cls := .type "list", data := .seq #[] }).update S (Obj.mapSeq (fun _ => (#[] : Array Value)))).get? b = some o := fun b o e =>
    (Heap.get?_update_other _ _ (Ne.symm (Nat.ne_of_lt (hSa ▸ Heap.lt_size e)))).trans (Heap.get?_push_of_some _ e)
  refine wpAny_bind (wpAny_letGo ?_)
  unfold Builtin.List.listExtendWith
  refine wpAny_bind (wpAny_typeOf (T := "str") (v := .str x t) rfl ?_)
  have h1 : Builtin.List.listSameRef (.ref S) (.str x t) = false := rfl
  have h2 : (Value.type "str" == Value.type "list") = false := by decide
  have h3 : (Value.type "str" == Value.type "tuple") = false := by decide
  simp only [h1, h2, h3, Bool.or_false, Bool.false_eq_true, if_false]
  refine wpAny_bind (wpAny_pyIter_strU ?_)
  refine wpAny_bind (wpAny_holding ?_)
  unfold Builtin.List.listLengthHint
  refine wpAny_bind (wpAny_specialOf (T := "str") (v := .str x t) rfl F.str_len ?_)
  wp_delta
  refine wpAny_bind (wpAny_isInstance (T := "str") (v := .str x t) (b := true) rfl (by rw [isSubtype_type]; kernel_rfl) ?_)
  show wpAny _ _ (typeOf (Value.str x t) >>= _) _ _ _
  refine wpAny_bind (wpAny_typeOf (T := "str") (v := .str x t) rfl ?_)
  refine wpAny_pure ?_
  rw [if_neg (by decide)]
  refine wpAny_pure ⟨plainId_quiet F.plain_extend_loop _, ?_⟩
  let s1 : Shared := { s with heap := (s.heap.push { cls := .type "list", data := .seq #[] }).update S (Obj.mapSeq (fun _ => (#[] : Array Value))) }
  have hsz1 : s1.heap.objs.size = S + 1 := by
    show ((s.heap.push _).update S _).objs.size = _
    rw [Heap.size_update, Heap.size_push, hSa]
  have l01 : Le T s T s1 := le_keeps (k := s.toks) (Nat.le_refl _) (by rw [hsz1, hSa]; exact Nat.le_succ _) hold
  have hS1 : S < s1.heap.objs.size := by rw [hsz1]; exact Nat.lt_succ_self _
  have itr : Itr { X with A := X.A.in1.in1 } (fun b => b = S) (.Name "c" default) (.ref s1.heap.objs.size) (x.cps.toList.map fun n => .str [n]) T s1 (fun b => b = s1.heap.objs.size) (fun k h => h.IsStrIter s1.heap.objs.size (strIterType x) x t k) := Itr.str (X := { X with A := X.A.in1.in1 }) (ok.hh hq) (Nat.le_refl _)
  have hpush : Le T s1 T { s1 with heap := s1.heap.push { cls := .type (strIterType x), data := .fields #[.str x t, .int 0 0] } } := le_push _
  refine list_loop (X := { X with A := X.A.in1.in1 }) (A₀ := X.A.in1) rfl itr l01 hG (Nat.le_of_eq hSa) hS1 (by simpa using hs) (fun T' s' acc' c' lb hS' ra => ?_) _ 0 T _ #[] _ rfl (Nat.zero_le _) ⟨_, Heap.get?_push_size _ rfl, rfl, rfl⟩ (hpush.leB _) h0 (Heap.get?_push_of_some _ hS₂) (by simpa using RepL.nil)
  refine ⟨rfl, T', ⟨⟨Nat.le_trans l01.ext.1 lb.size, fun b o e => ?_⟩, Nat.le_trans l01.toks lb.toks, fun u hu => (lb.tx u hu), lb.gens, lb.os⟩, ?_⟩
  · refine x1a1 (l01.ext.2 b o e) fun sl e1 => ?_
    refine x1a1 (lb.ext b _ (Nat.ne_of_lt (hSa ▸ Heap.lt_size e)) e1) fun sl' e2 => ?_
    exact ⟨sl', keepS_tr e2⟩
  · refine .list (fun q => ?_) ⟨_, hS', rfl, rfl, rfl, c', rfl⟩ (by simpa using ra.length) fun j v y h1 h2 => ?_
    · have := hB _ q
      rw [hSa] at this
      exact Nat.lt_irrefl _ this
    · have hr := ra.at j v y (by simpa using h1) h2
      rw [List.getElem?_map] at h2
      refine x1a2 (Option.map_eq_some_iff.mp h2) fun c _ e_0 => ?_; subst e_0
      exact hr.reban rfl
end Mine
namespace Mine
open PySem PySem.W PyProof.Rows
variable [Lo]
variable {W : World}
section
variable {X : Cx} {σ : Sto}
noncomputable def EvLN (X : Cx) (es : List Expr) (σ : Sto) (xs : List AV) : Prop := ∀ T s, St X σ T s → ∀ pos,
  wq X.M X.A (spliced (backTo pos (starEach es X.env))) (fun vs s' => ∃ T', Le T s T' s' ∧ vs.length = xs.length ∧
    ∀ (i : Nat) (v : Value) (x : AV), vs[i]? = some v → xs[i]? = some x → ∃ a, v = .ref a ∧ s.heap.objs.size ≤ a ∧ OwnRep X.w (fun b => X.ban σ b ∨ b = a) T' s'.toks s'.heap a x) (fun _ _ => False) s
theorem EvLN.nil : EvLN X [] σ [] := fun T s S pos => wq_args_nil ⟨T, .refl _ _, rfl, fun i v x h _ => by simp at h⟩
theorem EvLN.cons {e : Expr} {es : List Expr} {x : AV} {xs : List AV} (h1 : EvN X e σ x) (h2 : EvLN X es σ xs)
    (he : autoParam (starEach (e :: es) X.env = (false, eval e X.env) :: starEach es X.env) byRfl) : EvLN X (e :: es) σ (x :: xs) := fun T s S pos => by
  refine wq_args_cons (wq_mono (h1 T s S) (fun v s' t_0 => x2a4 t_0 fun T' a hv l ha r => ?_) fun _ _ x => x) he
  refine wq_mono (h2 T' s' (S.le_mono l) pos) (fun vs s'' t_0 => x1a3 t_0 fun T'' l' hl k => ?_) fun _ _ x => x
  refine ⟨T'', l.trans l', by simp [hl], fun i w y g1 g2 => ?_⟩
  cases i with
  | zero =>
    simp at g1 g2
    subst g1 g2
    exact ⟨a, hv, ha, r.mono l'.toks l'.tx l'.ext fun b q => .inl q⟩
  | succ i =>
    refine x1a3 (k i w y (by simpa using g1) (by simpa using g2)) fun b e1 e2 e3 => ?_
    exact ⟨b, e1, Nat.le_trans l.ext.1 e2, e3⟩
theorem EvN.pick {es : List Expr} {lp pos : Pos} {ie : Expr} {xs : List AV} {i : Int} {x : AV} (h : EvLN X es σ xs) (h2 : Ev X ie σ (.int i)) (h0 : 0 ≤ i) (hx : xs[i.toNat]? = some x) (hs0 : xs.length ≤ 1000)
    (hs : autoParam (∀ o i, subscripted ie false o i = operate [o, i] (getItem o i)) byI2) : EvN X (.Subscript (.List es lp) ie pos) σ x := fun T s S => by
  refine wq_Subscript (wq_List (wq_mono (h T s S lp) (fun vs s₁ t_0 => x1a3 t_0 fun T₁ l₁ hl k => ⟨by rw [hl, sizeLine_eq]; exact Nat.le_trans hs0 (by decide), ?_⟩) fun _ _ x => x)) fun o i => ⟨_, hs o i⟩
  have S₁ := (S.le_mono l₁).le_mono (le_push (T := T₁) (s := s₁) { cls := .type "list", data := .seq vs.toArray })
  refine h2.then S₁ fun v T₂ s₂ l₂ S₂ r₂ => ?_
  have hli : IsLst s₂.heap s₁.heap.objs.size vs.toArray := isList_ext (a := s₁.heap.objs.size) ⟨_, Heap.get?_push_size _ rfl, rfl, rfl, rfl, _, rfl⟩ l₂.ext
  refine ⟨?_, ?_⟩
  · refine x1a3 hli fun o ho hc _ => ?_; (try clear hli)
    refine x1a1 (look_get (o := .list []) rfl) fun id hid => ?_
    exact ⟨_, id, ⟨o, ho, hc⟩, hid⟩
  · cases r₂ using Rep.cInt
    have hlt : i.toNat < xs.length := (List.getElem?_eq_some_iff.mp hx).1
    have hv : vs[i.toNat]? = some vs[i.toNat] := List.getElem?_eq_getElem (by rw [hl]; exact hlt)
    refine x1a3 (k i.toNat _ x hv hx) fun a e1 e2 e3 => ?_
    have lall := (le_push (T := T₁) (s := s₁) { cls := .type "list", data := .seq vs.toArray }).trans l₂
    refine wq_of (wpAny_getItem_list hli.is h0 (by omega) (x := vs[i.toNat]) (by simpa using hv) ?_)
    exact ⟨T₂, a, e1, l₁.trans lall, e2, e3.mono lall.toks lall.tx lall.ext fun b q => .inl q⟩
end
end Mine
namespace Mine
open PySem PySem.W PyProof.Rows
variable [Lo]
variable {W : World}
section
variable {X : Cx} {σ : Sto}
end
end Mine
namespace Mine
open PySem PySem.Calls PySem.W PyProof.Rows
variable [Lo]
omit [Lo] in
noncomputable def bodyOf : Stmt → List Stmt
  | .FunctionDef _ _ b _ _ _ _ _ _ _ => b
  | _ => []
omit [Lo] in
noncomputable def whileBody : Stmt → List Stmt
  | .While _ b _ _ => b
  | _ => []
omit [Lo] in
noncomputable def fdOf (st : Stmt) (pm cd doc dV kV : Value) : FuncData := match st with
  | .FunctionDef n a b _ _ _ sc _ _ _ => { docDef n a b sc pm cd doc with defaults := dV, kwdefaults := kV }
  | _ => default
omit [Lo] in
noncomputable def FnIs (G : Pg) (name : Str) (st : Stmt) (dV : Value := .none) : Prop := ∃ a pm cd doc, G.fn name = some (a, fdOf st pm cd doc dV .none)
theorem FSpec.ofR {prog : Program} {w : World} {G : Pg} {k : Nat} {f : Str} {args dflt : List AV} {r : Except XV AV} {a : Addr} {fd : FuncData} {body : List Stmt} {ps : List Str}
    (hfn : G.fn f = some (a, fd)) (hbody : fd.body = .stmts body) (hb : BindOk G prog w fd ps args.length dflt)
    (h : ∀ A L T s B fr (R : Post), (∀ o σ, Ends o r → R o σ) → Ex (fcx G prog w A fd L a T s B fr k) body (Sto.of ps (args ++ dflt)) R)
    (hps : autoParam (ps.length = args.length + dflt.length) byRfl) (hnd : autoParam (ps.Nodup) byDec)
    (hkind' : autoParam (paramsOk fd.scope.names ps = true) byRfl)
    (hclo : autoParam (fd.closure = []) byRfl) (hgl : autoParam (fd.globals = mainGlobals) byRfl) (hbu : autoParam (fd.builtins = builtinsNs) byRfl)
    (hco : autoParam (fd.scope.isCoroutine = false) byRfl) (hgen : autoParam (fd.scope.isGenerator = false) byRfl) (hk : autoParam (fd.scope.kind = .function) byRfl) : FSpec prog w G (k + 1) f args r :=
  FSpec.of hfn hbody hb (fun A L T s B fr => h A L T s B fr _ fun _ _ q => q) hps hnd hkind' hclo hgl hbu hco hgen hk
section
variable {X : Cx} {σ : Sto} {Q : Post}
theorem Te.sub {e : Expr} {σ' : Sto} {b : Bool} (h : Te X e σ' b) (hs : Sto.Sub σ' σ) : Te X e σ b := fun T s S => h T s (S.sub hs)
theorem Sto.Sub.cons {σ' σ : Sto} (h : Sto.Sub σ' σ) (x : Str) (c : Cell) : Sto.Sub ((x, c) :: σ') ((x, c) :: σ) := fun y d e => by
  rw [Sto.get_cons] at e ⊢
  by_cases q : y = x
  · rw [if_pos q] at e ⊢; exact e
  · rw [if_neg q] at e ⊢; exact h y d e
theorem Sto.Sub.updL {σ' σ : Sto} (h : Sto.Sub σ' σ) : ∀ (xs : List Str) (vs : List AV), Sto.Sub (σ'.updL xs vs) (σ.updL xs vs)
  | [], _ => by simpa [Sto.updL] using h
  | _ :: _, [] => by simpa [Sto.updL] using h
  | x :: xs, v :: vs => Sto.Sub.updL (h.cons x ⟨none, v⟩) xs vs
theorem Ex.whileC {P : Type} {test : Expr} {body orelse rest : List Stmt} {pos : Pos} (ht : X.Top) (C : P → Sto) (Inv : Nat → P → Prop)
    (turn : ∀ n p, Inv n p → ∃ b, Te X test (C p) b ∧ (b = true → Ex X body (C p) (Turn X rest Q fun σ' => ∃ p' m, Sto.Sub (C p') σ' ∧ m < n ∧ Inv m p')) ∧ (b = false → Ex X orelse (C p) (Seq X rest Q)))
    (n : Nat) (p : P) (h0 : Inv n p) (hs : Sto.subB (C p) σ) : Ex X (.While test body orelse pos :: rest) σ Q := by
  refine Ex.while ht (fun n σ => ∃ p, Inv n p ∧ Sto.Sub (C p) σ) (fun n σ t_0 => x1a2 t_0 fun p hi hs => ?_) n ⟨p, h0, Sto.sub_of hs⟩
  obtain ⟨b, t, h1, h2⟩ := turn n p hi
  refine ⟨b, t.sub hs, fun hb => ExT.sub hs (ExT.mono (h1 hb) fun o σ' q => ?_), fun hb => ExT.sub hs (h2 hb)⟩
  cases o with
  | next => obtain ⟨p', m, a, b, c⟩ := q; exact ⟨m, b, p', c, a⟩
  | cont => obtain ⟨p', m, a, b, c⟩ := q; exact ⟨m, b, p', c, a⟩
  | brk => exact q
  | ret v => exact q
  | exc x => exact q
theorem Ex.forN {P : Type} {x : Str} {tp : Pos} {iter : Expr} {body orelse rest : List Stmt} {pos : Pos} {xs : List AV} (ht : X.Top) (h : EvI X iter (.Name x tp) σ xs) (hk : storable X x) (C : P → Sto) (Inv : Nat → P → Prop)
    (turn : ∀ k v p, xs[k]? = some v → Inv k p → Ex X body ((C p).upd x v) (Turn X rest Q fun σ' => ∃ p', Sto.Sub (C p') σ' ∧ Inv (k + 1) p'))
    (fin : ∀ p, Inv xs.length p → Ex X orelse (C p) (Seq X rest Q)) (p : P) (h0 : Inv 0 p) (hs : Sto.subB (C p) σ)
    (hf : autoParam (∀ x, foldedSetIterable iter X.env x = pure x) byI1) : Ex X (.For (.Name x tp) iter body orelse pos :: rest) σ Q := by
  refine Ex.for ht h (fun k σ => ∃ p, Inv k p ∧ Sto.Sub (C p) σ) ⟨p, h0, Sto.sub_of hs⟩ (fun k v σ' hv t_0 => x1a2 t_0 fun p hi hs => ⟨_, Binds.name hk, ExT.sub (hs.cons x _) (ExT.mono (turn k v p hv hi) fun o σ' q => ?_)⟩)
    (fun σ' t_0 => x1a2 t_0 fun p hi hs => ExT.sub hs (fin p hi)) hf
  cases o with
  | next => obtain ⟨p', a, b⟩ := q; exact ⟨p', b, a⟩
  | cont => obtain ⟨p', a, b⟩ := q; exact ⟨p', b, a⟩
  | brk => exact q
  | ret v => exact q
  | exc x => exact q
theorem Ex.forT {P : Type} {es : List Expr} {ns : List Str} {tk : Nat} {tp : Pos} {iter : Expr} {body orelse rest : List Stmt} {pos : Pos} {xs : List AV} (ht : X.Top) (h : EvI X iter (.Tuple es tk tp) σ xs) (hn : NamesT X es ns) (hq : X.quiet = true) (C : P → Sto) (Inv : Nat → P → Prop)
    (turn : ∀ k v p, xs[k]? = some v → Inv k p → ∃ vs, v = .tup vs ∧ ns.length = vs.length ∧ Ex X body ((C p).updL ns vs) (Turn X rest Q fun σ' => ∃ p', Sto.Sub (C p') σ' ∧ Inv (k + 1) p'))
    (fin : ∀ p, Inv xs.length p → Ex X orelse (C p) (Seq X rest Q)) (p : P) (h0 : Inv 0 p) (hs : Sto.subB (C p) σ)
    (hf : autoParam (∀ x, foldedSetIterable iter X.env x = pure x) byI1) : Ex X (.For (.Tuple es tk tp) iter body orelse pos :: rest) σ Q := by
  refine Ex.for ht h (fun k σ => ∃ p, Inv k p ∧ Sto.Sub (C p) σ) ⟨p, h0, Sto.sub_of hs⟩ (fun k v σ' hv t_0 => x1a2 t_0 fun p hi hs => ?_)
    (fun σ' t_0 => x1a2 t_0 fun p hi hs => ExT.sub hs (fin p hi)) hf
  obtain ⟨vs, rfl, hl, hb⟩ := turn k v p hv hi
  refine ⟨_, Binds.tuple hn hq hl, ExT.sub (hs.updL ns vs) (ExT.mono hb fun o σ' q => ?_)⟩
  cases o with
  | next => obtain ⟨p', a, b⟩ := q; exact ⟨p', b, a⟩
  | cont => obtain ⟨p', a, b⟩ := q; exact ⟨p', b, a⟩
  | brk => exact q
  | ret v => exact q
  | exc x => exact q
theorem Ex.forTR {P : Type} {es : List Expr} {ns : List Str} {tk : Nat} {tp : Pos} {iter : Expr} {body orelse rest : List Stmt} {pos : Pos} {xs : List AV} (ht : X.Top) (h : EvI X iter (.Tuple es tk tp) σ xs) (hn : NamesT X es ns) (hq : X.quiet = true) (C : P → Sto) (Inv : Nat → P → Prop)
    (turn : ∀ k v p, xs[k]? = some v → Inv k p → ∃ vs, v = .tup vs ∧ ns.length = vs.length ∧ ∀ R : Post, (∀ p' σ', Sto.subB (C p') σ' → Inv (k + 1) p' → R .next σ') → (∀ o σ', Turn X rest Q (fun _ => False) o σ' → R o σ') → Ex X body ((C p).updL ns vs) R)
    (fin : ∀ p, Inv xs.length p → Ex X orelse (C p) (Seq X rest Q)) (p : P) (h0 : Inv 0 p) (hs : Sto.subB (C p) σ)
    (hf : autoParam (∀ x, foldedSetIterable iter X.env x = pure x) byI1) : Ex X (.For (.Tuple es tk tp) iter body orelse pos :: rest) σ Q := by
  refine Ex.forT ht h hn hq C Inv (fun k v p hv hi => ?_) fin p h0 hs hf
  obtain ⟨vs, e, hl, hb⟩ := turn k v p hv hi
  refine ⟨vs, e, hl, hb _ (fun p' σ' a b => ⟨p', Sto.sub_of a, b⟩) fun o σ' q => ?_⟩
  cases o with
  | next => exact q.elim
  | cont => exact q.elim
  | _ => exact q
end
omit [Lo] in
noncomputable def thr (j bias : Int) : Int := if 36 * (j + 1) - bias < 1 then 1 else if 36 * (j + 1) - bias > 26 then 26 else 36 * (j + 1) - bias
omit [Lo] in
theorem thr_ge (j bias : Int) : 1 ≤ thr j bias := by unfold thr; split <;> (try split) <;> omega
omit [Lo] in
theorem thr_le (j bias : Int) : thr j bias ≤ 26 := by unfold thr; split <;> (try split) <;> omega
omit [Lo] in
noncomputable def tN (j : Nat) (bias : Int) : Nat := (thr j bias).toNat
omit [Lo] in
theorem tN_eq (j : Nat) (bias : Int) : (tN j bias : Int) = thr j bias := Int.toNat_of_nonneg (Int.le_trans (by decide) (thr_ge j bias))
omit [Lo] in
theorem tN_ge (j : Nat) (bias : Int) : 1 ≤ tN j bias := by have := tN_eq j bias; have := thr_ge j bias; lia
omit [Lo] in
theorem tN_le (j : Nat) (bias : Int) : tN j bias ≤ 26 := by have := tN_eq j bias; have := thr_le j bias; lia
omit [Lo] in
noncomputable def numl (bias : Int) (j N : Nat) : List Nat :=
  (measure fun p : Nat × Nat => p.2).wf.fix (fun p rec => if h : p.2 < tN p.1 bias then [p.2] else (tN p.1 bias + (p.2 - tN p.1 bias) % (36 - tN p.1 bias)) :: rec (p.1 + 1, (p.2 - tN p.1 bias) / (36 - tN p.1 bias))
    (Nat.lt_of_le_of_lt (Nat.div_le_self _ _) (Nat.sub_lt (Nat.lt_of_lt_of_le (tN_ge _ _) (Nat.not_lt.mp h)) (tN_ge _ _)))) (j, N)
omit [Lo] in
theorem numl_eq (bias : Int) (j N : Nat) : numl bias j N = if h : N < tN j bias then [N] else (tN j bias + (N - tN j bias) % (36 - tN j bias)) :: numl bias (j + 1) ((N - tN j bias) / (36 - tN j bias)) := WellFounded.fix_eq _ _ _
omit [Lo] in
noncomputable def adpLoop (d k : Nat) : Nat × Nat :=
  (measure fun p : Nat × Nat => p.1).wf.fix (fun p rec => if h : 455 < p.1 then rec (p.1 / 35, p.2 + 36) (Nat.div_lt_self (Nat.lt_trans (Nat.succ_pos _) h) (by decide)) else p) (d, k)
omit [Lo] in
theorem adpLoop_eq (d k : Nat) : adpLoop d k = if h : 455 < d then adpLoop (d / 35) (k + 36) else (d, k) := WellFounded.fix_eq _ _ _
omit [Lo] in
theorem adpLoop_pos {d k : Nat} (h : 455 < d) : adpLoop d k = adpLoop (d / 35) (k + 36) := (adpLoop_eq d k).trans (dif_pos h)
omit [Lo] in
theorem adpLoop_neg {d k : Nat} (h : ¬ 455 < d) : adpLoop d k = (d, k) := (adpLoop_eq d k).trans (dif_neg h)
omit [Lo] in
noncomputable def adp (delta : Nat) (first : Bool) (nc : Nat) : Nat :=
  let d := if first then delta / 700 else delta / 2
  let r := adpLoop (d + d / nc) 0
  r.2 + 36 * r.1 / (r.1 + 38)
omit [Lo] in
noncomputable def AV.nats (l : List Nat) : List AV := l.map fun (n : Nat) => .int n
noncomputable def gensGo (base : Nat) : Nat → Nat → List Nat → List Nat
  | _, _, [] => []
  | i, bias, d :: ds => numl bias 0 d ++ gensGo base (i + 1) (adp d (i == 0) (base + i + 1)) ds
omit [Lo] in
noncomputable def readN (bias : Int) : Nat → List Nat → Option (Nat × Nat)
  | _, [] => none
  | j, d :: fs => if d < tN j bias then some (1, d) else (readN bias (j + 1) fs).map fun r => (r.1 + 1, d + (36 - tN j bias) * r.2)
omit [Lo] in
noncomputable def udig (d : Nat) : Nat := if d < 26 then 65 + d else 22 + d
omit [Lo] in
noncomputable def incL : List Nat := ("incomplete punycode string" : Str).cps.toList
omit [Lo] in
noncomputable def decR (bias : Int) (fs : List Nat) (p : Nat) (er : List Nat) : Except XV AV := match readN bias 0 (fs.drop p) with
  | some (c, n) => .ok (.tup [.int ((p + c : Nat) : Int), .int (n : Nat)])
  | none => if er == strictL then .error (.ude true (fs.length : Nat) ((fs.length : Nat) + 1) incL) else .ok (.tup [.int ((fs.length : Nat) + 1), .none])
omit [Lo] in
theorem meas_lt {l p c : Nat} (h : p < l) (hc : 0 < c) : l - (p + c) < l - p := by omega
noncomputable def insGo (fs er : List Nat) (base : List Nat) (char at_ bias p : Nat) : Except XV AV :=
  (measure fun x : List Nat × Nat × Nat × Nat × Nat => fs.length - x.2.2.2.2).wf.fix (C := fun _ => Except XV AV) (fun x rec => if h : x.2.2.2.2 < fs.length then
      match readN x.2.2.2.1 0 (fs.drop x.2.2.2.2) with
      | none => if er == strictL then .error (.ude true (fs.length : Nat) ((fs.length : Nat) + 1) incL) else .ok (.str x.1)
      | some (c, n) =>
        if hc : 0 < c then
          rec (insAt ((x.2.2.1 + n) % (x.1.length + 1)) (x.2.1 + (x.2.2.1 + n) / (x.1.length + 1)) x.1, x.2.1 + (x.2.2.1 + n) / (x.1.length + 1), (x.2.2.1 + n) % (x.1.length + 1) + 1,
            adp n (x.2.2.2.2 == 0) (x.1.length + 1), x.2.2.2.2 + c) (meas_lt h hc)
        else .ok (.str x.1)
    else .ok (.str x.1)) (base, char, at_, bias, p)
omit [Lo] in
theorem insGo_eq (fs er : List Nat) (base : List Nat) (char at_ bias p : Nat) : insGo fs er base char at_ bias p = (if h : p < fs.length then
    match readN bias 0 (fs.drop p) with
    | none => if er == strictL then .error (.ude true (fs.length : Nat) ((fs.length : Nat) + 1) incL) else .ok (.str base)
    | some (c, n) =>
      if hc : 0 < c then
        insGo fs er (insAt ((at_ + n) % (base.length + 1)) (char + (at_ + n) / (base.length + 1)) base) (char + (at_ + n) / (base.length + 1)) ((at_ + n) % (base.length + 1) + 1)
          (adp n (p == 0) (base.length + 1)) (p + c)
      else .ok (.str base)
  else .ok (.str base)) := WellFounded.fix_eq _ _ _
omit [Lo] in
noncomputable def insOk (fs : List Nat) (len char at_ bias p : Nat) : Prop :=
  (measure fun x : Nat × Nat × Nat × Nat × Nat => fs.length - x.2.2.2.2).wf.fix (C := fun _ => Prop) (fun x rec => if h : x.2.2.2.2 < fs.length then
      match readN x.2.2.2.1 0 (fs.drop x.2.2.2.2) with
      | none => True
      | some (c, n) => x.2.1 + (x.2.2.1 + n) / (x.1 + 1) ≤ 1114111 ∧
        if hc : 0 < c then rec (x.1 + 1, x.2.1 + (x.2.2.1 + n) / (x.1 + 1), (x.2.2.1 + n) % (x.1 + 1) + 1, adp n (x.2.2.2.2 == 0) (x.1 + 1), x.2.2.2.2 + c) (meas_lt h hc) else True
    else True) (len, char, at_, bias, p)
omit [Lo] in
theorem insOk_eq (fs : List Nat) (len char at_ bias p : Nat) : insOk fs len char at_ bias p = (if h : p < fs.length then
    match readN bias 0 (fs.drop p) with
    | none => True
    | some (c, n) => char + (at_ + n) / (len + 1) ≤ 1114111 ∧
      if hc : 0 < c then insOk fs (len + 1) (char + (at_ + n) / (len + 1)) ((at_ + n) % (len + 1) + 1) (adp n (p == 0) (len + 1)) (p + c) else True
  else True) := WellFounded.fix_eq _ _ _
omit [Lo] in
theorem readN_le {bias : Int} : ∀ {fs : List Nat} {j c n : Nat}, readN bias j fs = some (c, n) → 0 < c ∧ c ≤ fs.length
  | [], _, _, _, h => by simp [readN] at h
  | d :: fs, j, c, n, h => by
    unfold readN at h
    split at h
    · simp at h; simp only [List.length_cons]; lia
    · obtain ⟨r, h1, h2⟩ := Option.map_eq_some_iff.mp h
      have := readN_le h1
      simp only [Prod.mk.injEq] at h2
      simp only [List.length_cons]
      lia
omit [Lo] in
theorem clipAt_nat {n i : Nat} (h : i ≤ n) : clipAt n (i : Int) = i := by
  unfold clipAt
  rw [if_neg (Int.not_lt.mpr (Int.natCast_nonneg i)), Int.min_eq_left (Int.ofNat_le.mpr h), Int.max_eq_right (Int.natCast_nonneg i)]; rfl
omit [Lo] in
theorem clipAt_big {n i : Nat} (h : n ≤ i) : clipAt n (i : Int) = n := by
  unfold clipAt
  rw [if_neg (Int.not_lt.mpr (Int.natCast_nonneg i)), Int.min_eq_right (Int.ofNat_le.mpr h), Int.max_eq_right (Int.natCast_nonneg n)]; rfl
omit [Lo] in
theorem cutL_take {α : Type} {l : List α} {i : Nat} (h : i ≤ l.length) : cutL none (some (i : Int)) l = l.take i := by
  unfold cutL; simp [clipAt_nat h]
omit [Lo] in
theorem cutL_drop {α : Type} {l : List α} {i : Nat} (h : i ≤ l.length) : cutL (some (i : Int)) none l = l.drop i := by
  unfold cutL; simp only [Option.elim_some, Option.elim_none, clipAt_nat h]; rw [List.take_of_length_le (by simp)]
omit [Lo] in
theorem boot_len : bootBuiltins "len" = some (.builtin "len") := by decide +kernel
omit [Lo] in
theorem boot_chr : bootBuiltins "chr" = some (.builtin "chr") := by decide +kernel
omit [Lo] in
theorem boot_ord : bootBuiltins "ord" = some (.builtin "ord") := by decide +kernel
omit [Lo] in
theorem boot_sum : bootBuiltins "sum" = some (.builtin "sum") := by decide +kernel
omit [Lo] in
theorem boot_list : bootBuiltins "list" = some (.type "list") := by decide +kernel
omit [Lo] in
theorem boot_str : bootBuiltins "str" = some (.type "str") := by decide +kernel
omit [Lo] in
theorem enum_get {xs : List AV} {k : Nat} {v : AV} (h : ((List.range xs.length).zipWith (fun (i : Nat) x => AV.tup [.int i, x]) xs)[k]? = some v) : ∃ x, xs[k]? = some x ∧ v = .tup [.int (k : Nat), x] := by
  rw [List.getElem?_zipWith] at h
  cases h1 : (List.range xs.length)[k]? with
  | none => rw [h1] at h; simp at h
  | some i =>
    cases h2 : xs[k]? with
    | none => rw [h1, h2] at h; simp at h
    | some x =>
      rw [h1, h2] at h
      have hi : i = k := by
        have := List.getElem?_eq_some_iff.mp h1
        obtain ⟨hlt, e⟩ := this
        simp at e
        exact e.symm
      subst hi
      simp at h
      exact ⟨x, rfl, h.symm⟩
omit [Lo] in
theorem enum_len (xs : List AV) : ((List.range xs.length).zipWith (fun (i : Nat) x => AV.tup [.int i, x]) xs).length = xs.length := by simp
omit [Lo] in
theorem nats_get {ds : List Nat} {k : Nat} {x : AV} (h : (AV.nats ds)[k]? = some x) : ∃ d, ds[k]? = some d ∧ x = .int (d : Nat) := by
  unfold AV.nats at h
  rw [List.getElem?_map] at h
  obtain ⟨d, h1, h2⟩ := Option.map_eq_some_iff.mp h
  exact ⟨d, h1, h2.symm⟩
omit [Lo] in
theorem drop_of_get {α : Type} {l : List α} {k : Nat} {x : α} (h : l[k]? = some x) : l.drop k = x :: l.drop (k + 1) := by
  obtain ⟨hlt, e⟩ := List.getElem?_eq_some_iff.mp h
  rw [List.drop_eq_getElem_cons hlt, e]
omit [Lo] in
noncomputable def dig (d : Nat) : Nat := if d < 26 then 97 + d else 22 + d
omit [Lo] in
noncomputable def digitsL : List Nat := [97, 98, 99, 100, 101, 102, 103, 104, 105, 106, 107, 108, 109, 110, 111, 112, 113, 114, 115, 116, 117, 118, 119, 120, 121, 122, 48, 49, 50, 51, 52, 53, 54, 55, 56, 57]
omit [Lo] in
theorem digitsL_get {d : Nat} (h : d < 36) : digitsL.getD d 0 = dig d := by
  have : ∀ d : Fin 36, digitsL.getD d.1 0 = dig d.1 := by decide
  exact this ⟨d, h⟩
end Mine
namespace Mine
open PySem PySem.Calls PySem.W PyProof.Rows
structure FnP (mg : Str → Option Value) (h : Heap) (x : Str) (p : Addr × FuncData) : Prop where
  g : mg x = some (.ref p.1)
  o : ∃ o, h.get? p.1 = some o ∧ o.data = .func p.2
  c : h.CodeRec p.2.code p.2.qualname
theorem FnP.uniq {mg : Str → Option Value} {h : Heap} {x : Str} {p q : Addr × FuncData} (a : FnP mg h x p) (b : FnP mg h x q) : p = q := by
  refine x1a2 (a.o) fun o h1 h2 => ?_
  refine x1a2 (b.o) fun o' h3 h4 => ?_
  have e : p.1 = q.1 := Value.ref.inj (Option.some.inj (a.g.symm.trans b.g))
  rw [e] at h1
  have e2 : o = o' := Option.some.inj (h1.symm.trans h3)
  rw [e2] at h2
  exact Prod.ext e (Data.func.inj (h2.symm.trans h4))
open Classical in
noncomputable def fnOf (mg : Str → Option Value) (h : Heap) (x : Str) : Option (Addr × FuncData) := if H : ∃ p, FnP mg h x p then some H.choose else none
theorem fnOf_of {mg : Str → Option Value} {h : Heap} {x : Str} {a : Addr} {o : Obj} {fd : FuncData} (h1 : mg x = some (.ref a)) (h2 : h.get? a = some o) (h3 : o.data = .func fd) (h4 : h.CodeRec fd.code fd.qualname) : fnOf mg h x = some (a, fd) := by
  have H : FnP mg h x (a, fd) := ⟨h1, ⟨o, h2, h3⟩, h4⟩
  have E : ∃ p, FnP mg h x p := ⟨_, H⟩
  exact (dif_pos E).trans (congrArg some (E.choose_spec.uniq H))
theorem fnOf_is {mg : Str → Option Value} {h : Heap} {x : Str} {a : Addr} {fd : FuncData} (e : fnOf mg h x = some (a, fd)) : mg x = some (.ref a) ∧ (∃ o, h.get? a = some o ∧ o.data = .func fd) ∧ h.CodeRec fd.code fd.qualname := by
  unfold fnOf at e
  split at e
  · rename_i E
    have q := Option.some.inj e
    have s := E.choose_spec
    rw [q] at s
    exact ⟨s.g, s.o, s.c⟩
  · exact nomatch e
noncomputable abbrev pgOf (mg mb : Str → Option Value) (h : Heap) (more : List (Addr × Obj)) : Pg := { mg := mg, mb := mb, mc := fun _ => none, fn := fnOf mg h, more := more, nb := h.objs.size }
section
variable {p : Program} {loose : List Str} {R : WRecords} {XP : (Str → Option Value) → Heap → Prop} {w : World} {s₀ : Shared} {mg mb : Str → Option Value} {h : Heap}
theorem head_in (G : Ground p loose R XP w s₀ mg mb h) {more : List (Addr × Obj)} {o2 : Obj} {n : Nat} (h2 : h.get? 2 = some o2) (hd2 : o2.data = .dict #[] n) (hm : ∀ q ∈ more, h.get? q.1 = some q.2) :
    @Pg.In ⟨h.objs.size⟩ (pgOf mg mb h more) h := by
  letI : Lo := ⟨h.objs.size⟩
  exact {
    g := G.T.g
    b := G.T.b
    st := ⟨o2, #[], n, h2, hd2, fun e he => by simp at he, fun x => rfl⟩
    fn := fun x a fd e => fnOf_is e
    lim := rfl
    booked := rfl
    builtins := G.T.builtins
    big := by
      refine x3a2 (G.T.g) fun o es ep ho _ => ?_
      exact Heap.lt_size ho
    lo := Nat.le_refl _
    more := fun q hq => ⟨Heap.lt_size (hm q hq), q.2.slots, by rw [hm q hq, keepS_lt (Heap.lt_size (hm q hq))]⟩ }
theorem head_fn (G : Ground p loose R XP w s₀ mg mb h) {more : List (Addr × Obj)} {name : Str} {st : Stmt} {d : DefRec} (e : defOf p name = some (d, [])) (hp : d.params.defaults = []) (hst : ∀ pm cd doc dV kV, fdOf st pm cd doc dV kV = { docDef d.name d.params d.body d.scope pm cd doc with defaults := dV, kwdefaults := kV }) :
    FnIs (pgOf mg mb h more) name st := by
  obtain ⟨a, o, pm, cd, doc, dV, kV, h1, h2, h3, h4, h5⟩ := G.fn e
  have hV : dV = .none := by
    rcases h5.pos with ⟨_, q⟩ | ⟨q, _⟩
    · exact q
    · exact absurd hp q
  have hK : kV = .none := by
    rcases h5.kw with ⟨_, q⟩ | ⟨q, _⟩
    · exact q
    · exact absurd rfl q
  subst hV hK
  exact ⟨a, pm, cd, doc, fnOf_of h1 h2 (by rw [hst]; exact h3) (by rw [hst]; exact h4)⟩
end
theorem mg_lit {h : Heap} {mg : Str → Option Value} {o : Obj} {es : Array DictEntry} {ep : Nat} (hn : h.Ns mainGlobals mg) (ho : h.get? mainGlobals = some o) (hd : o.data = .dict es ep) (x : Str) : mg x = (es.toList.find? fun e => e.key.isStr x).map (·.val) := by
  refine x3a4 hn fun o' es' ep' ho' hd' _ hm => ?_; (try clear hn)
  rw [ho] at ho'
  (have ho' := Option.some.inj ho'; subst ho')
  rw [hd] at hd'
  cases hd'
  rw [← hm, Array.find?_toList]
  rfl
theorem fn_lit {h : Heap} {mg mb : Str → Option Value} {more : List (Addr × Obj)} {name : Str} {st : Stmt} {dV pm doc : Value} {a c : Addr} {o oc : Obj} {vs : Array Value} {t : Tok} (h1 : mg name = some (.ref a)) (h2 : h.get? a = some o) (h3 : o.data = .func (fdOf st pm (.ref c) doc dV .none))
    (h4 : h.get? c = some oc) (h5 : oc.data = .fields vs) (hc : (fdOf st pm (.ref c) doc dV .none).code = .ref c) (h6 : vs[1]? = some (.str (fdOf st pm (.ref c) doc dV .none).qualname t)) : FnIs (pgOf mg mb h more) name st dV :=
  ⟨a, pm, .ref c, doc, fnOf_of h1 h2 h3 ⟨c, oc, vs, t, hc, h4, h5, h6⟩⟩
theorem ints_of_shape {R : WRecords} : ∀ {xs : List WData}, WShape.hasItems R xs .int = true → ∃ ns : List Int, xs = ns.map .int
  | [], _ => ⟨[], rfl⟩
  | x :: xs, hx =>
    x0a2 (Bool.and_eq_true_iff.mp (hx : (WShape.has R x .int && WShape.hasItems R xs .int) = true)) fun h1 h2 => (ints_of_shape h2).elim fun ns e => (hasW_int h1).elim fun i e' => ⟨i :: ns, e ▸ e' ▸ rfl⟩
theorem holds_bool {R : WRecords} {t : WTm} {c : WCtx} {b : Bool} (e : t.value R c = some (.bool b)) (h : t.holds R c = true) : b = true := by
  unfold WTm.holds at h
  rw [e] at h
  cases b
  · exact h
  · rfl
theorem le63 {B : WTm} {xs : List WData} (h : (WTm.and (.not (.lt (.lit (.int 63)) (.len (.arg 0)))) B).holds ([] : WRecords) { args := [WData.list xs] } = true) : xs.length ≤ 63 := by
  have h1 := holds_bool (b := !decide ((63 : Int) < (xs.length : Int))) (by with_unfolding_all rfl) (holds_andW h).1
  exact Int.ofNat_le.mp (Int.not_lt.mp (of_decide_eq_false (Bool.not_eq_true' _ ▸ h1)))
theorem script_of {l : OpenLaw} {B : WTm} (hm : l.pre = .and (.not (.lt (.lit (.int 63)) (.len (.arg 0)))) B) {args : List WData} (hpre : l.row.toRowW.claim.pre args = true) : ∃ ns : List Int, args = [.list (ns.map .int)] ∧ ns.length ≤ 63 := by
  have h := pre_splitW hpre
  refine x2a3 (hasAllW_cons (e := .list .int) (es := []) h.1) fun d r e_0 h1 h2 => ?_; subst e_0
  cases hasAllW_nil h2
  refine x1a2 (hasW_list h1) fun xs e_0 h3 => ?_; subst e_0
  refine x1a1 (ints_of_shape h3) fun ns e_0 => ?_; subst e_0
  have h4 : l.pre.holds [] { args := [WData.list (ns.map .int)] } = true := h.2
  rw [hm] at h4
  have := le63 h4
  rw [List.length_map] at this
  exact ⟨ns, rfl, this⟩
noncomputable def WellTo (P : Params) (h : Heap) (v : Value) : WData → Prop
  | .int i => ∃ t, v = .int i t
  | .list xs => ∃ a vs, v = .ref a ∧ h.get? a = some { cls := .type "list", data := .seq vs.toArray } ∧ WellAll P h vs xs
  | _ => True
theorem well_to {P : Params} {h : Heap} {v : Value} {d : WData} (w : Well P h v d) : WellTo P h v d := by
  cases w with
  | int i t => exact ⟨t, rfl⟩
  | list a b => exact ⟨_, _, rfl, a, b⟩
  | _ => trivial
theorem rep_ints {W : World} {B : Addr → Prop} {T : Tx} {n : Nat} {P : Params} {h : Heap} : ∀ {ns : List Int} {vs : List Value}, WellAll P h vs (ns.map .int) → vs.length = ns.length ∧ ∀ (i : Nat) (v : Value) (x : AV), vs[i]? = some v → (AV.ints ns)[i]? = some x → Rep W B T n h v x
  | [], vs, w => by
    cases w
    exact ⟨rfl, fun i v x hv => nomatch hv⟩
  | m :: ns, vs, w => by
    obtain ⟨v, vs', rfl, h1, h2⟩ := wellAll_cons_inv w
    obtain ⟨t, rfl⟩ := well_to h1
    obtain ⟨a, b⟩ := rep_ints (ns := ns) h2
    refine ⟨congrArg Nat.succ a, fun i v x hv hx => ?_⟩
    cases i with
    | zero => (have hv := Option.some.inj hv; subst hv); (have hx := Option.some.inj hx; subst hx); exact .int m t
    | succ i => exact b i v x hv hx
theorem rep_script {w : World} {s : Shared} {vals : List Value} {ns : List Int} (W : WellAll w.params s.heap vals [.list (ns.map .int)]) : RepL w (fun _ => False) (fun _ => []) s.toks s.heap vals [.list (AV.ints ns)] := by
  obtain ⟨v, vs', rfl, h1, h2⟩ := wellAll_cons_inv W
  obtain ⟨a, vs, rfl, hg, hw⟩ := well_to h1
  cases h2
  obtain ⟨e, r⟩ := rep_ints hw
  refine .cons (.list (fun q => q) ⟨_, hg, rfl, rfl, rfl, _, rfl⟩ (by rw [List.size_toArray, e]; exact (List.length_map ..).symm) fun i v x hv hx => r i v x ((List.getElem?_toArray ..).symm.trans hv) hx) .nil
theorem post_true {l : OpenLaw} {args ds : List WData} : l.row.toRowW.claim.post args (.bool true) ds = true := by with_unfolding_all rfl
theorem head_good {l : OpenLaw} {prog : Program} {w : World} {s₀ s₁ : Shared} {args : List WData} {vals : List Value} {a : Addr} {B : WTm} (hm : l.pre = .and (.not (.lt (.lit (.int 63)) (.len (.arg 0)))) B) (hpre : l.row.toRowW.claim.pre args = true) (hwl : WellAll w.params s₁.heap vals args) (hg : s₁.gens = #[])
    (H : ∀ ns : List Int, ns.length ≤ 63 → RepL w (fun _ => False) (fun _ => []) s₁.toks s₁.heap vals [.list (AV.ints ns)] →
      wq (model prog w) callerA (call (.ref a) vals) (fun v s' => v = .bool true ∧ ∃ T', @Le ⟨s₁.heap.objs.size⟩ (fun _ => []) s₁ T' s') (fun _ _ => False) s₁) :
    wq (model prog w) callerA (call (.ref a) vals) (fun v s' => GoodWG l.row.toRowW.claim (classAt s₀.heap) (ExcName.means s₀.heap) args s₁ (.ok (.ret v)) s')
      (fun e s' => GoodWG l.row.toRowW.claim (classAt s₀.heap) (ExcName.means s₀.heap) args s₁ (.error e) s') s₁ := by
  refine x1a2 (script_of hm hpre) fun ns e_0 hl => ?_; subst e_0
  refine wq_mono (H ns hl (rep_script hwl)) (fun v s' t_0 => x0a2 t_0 fun hv t_1 => x1a1 t_1 fun T' le => ?_) fun e s' q => q.elim
  subst hv
  letI : Lo := ⟨s₁.heap.objs.size⟩
  refine ⟨.inl ⟨.bool true, .bool true, [], rfl, fun cls => rfl, .bool true, post_true, fun _ => ⟨.nil, nofun⟩⟩, .of_keep fun b o e => ?_, le.os, ?_⟩
  · refine x1a1 (le.ext.2 b o e) fun sl e' => ?_
    rw [keepS_lt (Heap.lt_size e)] at e'
    exact e'
  · rw [le.gens, hg]
    exact AllBare.empty
end Mine
namespace Mine
open PySem PySem.Calls PySem.W PyProof.Rows
variable [Lo]
omit [Lo] in
noncomputable abbrev topOf (n : Nat) : Stmt := (PySem.Challenge.rw_ij0167_02.prog.main.body.drop n).headD (.Pass default)
omit [Lo] in
noncomputable abbrev stT := topOf 1
omit [Lo] in
noncomputable abbrev stGen := topOf 3
omit [Lo] in
noncomputable abbrev stAdapt := topOf 4
omit [Lo] in
noncomputable abbrev stGens := topOf 5
omit [Lo] in
noncomputable abbrev stDec := topOf 6
omit [Lo] in
noncomputable abbrev stIns := topOf 7
omit [Lo] in
noncomputable abbrev stPuny := topOf 8
omit [Lo] in
structure PunyG (G : Pg) : Prop where
  T : FnIs G "T" stT
  gen : FnIs G "generate_generalized_integer" stGen
  adapt : FnIs G "adapt" stAdapt
  gens : FnIs G "generate_integers" stGens
  dec : FnIs G "decode_generalized_number" stDec
  ins : FnIs G "insertion_sort" stIns
  puny : FnIs G "punycode_decode" stPuny
  digits : ∃ t, G.mg "digits" = some (.bytes (digitsL.map Nat.toUInt8).toArray t)
  none : ∀ x : Str, x = "bytearray" ∨ x = "bytes" ∨ x = "enumerate" ∨ x = "IndexError" ∨ x = "UnicodeDecodeError" ∨ x = "len" ∨ x = "chr" ∨ x = "isinstance" ∨ x = "str" ∨ x = "memoryview" → G.mg x = none
section
variable {prog : Program} {w : World} {G : Pg}
theorem walk_T (P : PunyG G) {j bias : Int} : FSpec prog w G 1 "T" [.int j, .int bias] (.ok (.int (thr j bias))) := by
  refine x4a1 (P.T) fun a pm cd doc hf => ?_
  refine FSpec.of hf (body := bodyOf stT) (ps := ["j", "bias"]) rfl (.plain fun vals hv => ?_) (fun A L T s B fr => ?_)
  · refine x2a1 (len2 hv) fun a b e_0 => ?_; subst e_0; rfl
  refine Ex.assign (Ev.binop (Ev.binop Ev.cint (Ev.binop (Ev.name rfl) Ev.cint bin_add_int) (bin_mul_intL (by decide))) (Ev.name rfl) bin_sub_int) (.inl rfl) ?_
  refine Ex.ite (Te.cmp (Ev.name rfl) Ev.cint cmp_lt_int) (fun h => Ex.ret Ev.cint ?_) (fun h => Ex.nil ?_)
  · have h := of_decide_eq_true h
    show Except.ok (AV.int (thr j bias)) = _
    unfold thr; rw [if_pos h]
  have h := of_decide_eq_false h
  refine Ex.ite (Te.cmp (Ev.name rfl) Ev.cint cmp_gt_int) (fun h' => Ex.ret Ev.cint ?_) (fun h' => Ex.nil (Ex.ret (Ev.name rfl) ?_))
  · have h' := of_decide_eq_true h'
    show Except.ok (AV.int (thr j bias)) = _
    unfold thr; rw [if_neg h, if_pos h']
  · have h' := of_decide_eq_false h'
    show Except.ok (AV.int (thr j bias)) = _
    unfold thr; rw [if_neg h, if_neg h']
omit [Lo] in
theorem numl_length (bias : Int) (N : Nat) : ∀ j, (numl bias j N).length ≤ N + 1 := by
  induction N using Nat.strongRecOn with
  | ind N ih =>
    intro j
    rw [numl_eq]
    split
    · simp
    · rename_i h
      have h1 := tN_ge j bias
      have h2 := tN_le j bias
      have h3 : (N - tN j bias) / (36 - tN j bias) ≤ N - tN j bias := Nat.div_le_self _ _
      have := ih ((N - tN j bias) / (36 - tN j bias)) (by omega) (j + 1)
      simp only [List.length_cons]
      omega
theorem walk_gen (P : PunyG G) {N₀ : Nat} {bias : Int} (hN : N₀ ≤ 1000000) : FSpec prog w G 2 "generate_generalized_integer" [.int (N₀ : Nat), .int bias] (.ok (.bytes ((numl bias 0 N₀).map dig))) := by
  refine x4a1 (P.gen) fun a pm cd doc hf => ?_
  refine x4a1 (P.T) fun aT pmT cdT docT hT => ?_
  refine x1a1 (P.digits) fun td hdig => ?_
  refine FSpec.of hf (body := bodyOf stGen) (ps := ["N", "bias"]) rfl (.plain fun vals hv => ?_) (fun A L T s B fr => ?_)
  · refine x2a1 (len2 hv) fun a b e_0 => ?_; subst e_0; rfl
  refine Ex.assign_own (EvN.bytearray rfl (P.none _ (by simp))) (.inl rfl) fun b => ?_
  refine Ex.assign Ev.cint (.inl rfl) ?_
  refine Ex.whileC fcx_top (P := Nat × Nat × List Nat) (fun p => [("N", ⟨none, .int (p.1 : Nat)⟩), ("bias", ⟨none, .int bias⟩), ("j", ⟨none, .int (p.2.1 : Nat)⟩), ("result", ⟨some b, .barr p.2.2⟩)])
    (fun n p => n = p.1 ∧ p.1 ≤ N₀ ∧ p.2.2 ++ (numl bias p.2.1 p.1).map dig = (numl bias 0 N₀).map dig) (fun n p hi => ?_) N₀ (N₀, 0, []) ⟨rfl, Nat.le_refl _, rfl⟩ ⟨rfl, rfl, rfl, rfl, trivial⟩
  obtain ⟨N, j, acc⟩ := p
  refine x0a3 hi fun hn hle hacc => ?_; (try clear hi)
  subst n
  dsimp only at hle hacc ⊢
  refine ⟨true, Te.value Ev.cint (tru_int 1), fun _ => ?_, fun h => by exact tf h⟩
  have hlen : acc.length ≤ 1000001 := by
    have := congrArg List.length hacc
    simp only [List.length_append, List.length_map] at this
    have := numl_length bias N₀ 0
    lia
  refine Ex.assign (EvX.ev (EvX.call (walk_T P) (.cons (Ev.name rfl) (.cons (Ev.name rfl) .nil)) rfl rfl (Nat.le_refl 1) hT)) (.inl rfl) ?_
  have t1 := tN_ge j bias
  have t2 := tN_le j bias
  rw [← tN_eq]
  have hdg : ∀ B T n h, Rep w B T n h (.bytes (digitsL.map Nat.toUInt8).toArray td) (.bytes digitsL) := fun B T n h => Rep.bytes _ _
  refine Ex.ite (Te.cmp (Ev.name rfl) (Ev.name rfl) cmp_lt_int) (fun h => ?_) (fun h => Ex.nil ?_)
  · have h := of_decide_eq_true h
    have hlt : N < tN j bias := by (clear hlen hle hN; omega)
    have hn : numl bias j N = [N] := by rw [numl_eq]; rw [dif_pos hlt]
    rw [hn] at hacc
    refine Ex.mut rfl FA.meth_append (.cons (Ev.index (Ev.global rfl hdig hdg) (Ev.name rfl) (get_bytes (by (clear hlt h t2 t1 hlen; lia)) (by show (N : Int) < 36; (clear t1 hlen hN; lia)) (by decide))) .nil) (mut_ba_append (by (clear hlt h t2 t1 hlen hle hN; lia)) ?_ (by (clear hlt h t2 t1 hle; lia))) rfl ?_
    · rw [show ((N : Int)).toNat = N from rfl, digitsL_get (by (clear t1 hlen hN; lia))]; unfold dig; split <;> omega
    refine Ex.ret (Ev.bytesOf rfl ?_ rfl (P.none _ (by simp))) ?_
    · simp; (clear hlt h t2 t1 hle; lia)
    · show Except.ok _ = Except.ok _
      rw [show ((N : Int)).toNat = N from rfl, digitsL_get (by (clear t1 hlen hN; lia))]
      rw [← hacc]
      rfl
  · have h := of_decide_eq_false h
    have hlt : ¬ N < tN j bias := by (clear hlen hle hN; omega)
    have hn : numl bias j N = (tN j bias + (N - tN j bias) % (36 - tN j bias)) :: numl bias (j + 1) ((N - tN j bias) / (36 - tN j bias)) := by
      conv => lhs; rw [numl_eq]
      rw [dif_neg hlt]
    rw [hn, List.map_cons] at hacc
    have e1 : ((N : Int) - (tN j bias : Int)) % (36 - (tN j bias : Int)) = ((N - tN j bias) % (36 - tN j bias) : Nat) := by
      rw [← Int.ofNat_sub (by (clear hlen hle hN; omega)), show (36 : Int) - (tN j bias : Int) = ((36 - tN j bias : Nat) : Int) by (clear hlt h t1 hlen hle hN; lia)]; rfl
    have e2 : ((N : Int) - (tN j bias : Int)) / (36 - (tN j bias : Int)) = ((N - tN j bias) / (36 - tN j bias) : Nat) := by
      rw [← Int.ofNat_sub (by (clear e1 hlen hle hN; omega)), show (36 : Int) - (tN j bias : Int) = ((36 - tN j bias : Nat) : Int) by (clear e1 hlt h t1 hlen hle hN; lia)]; rfl
    have hm : (N - tN j bias) % (36 - tN j bias) < 36 - tN j bias := Nat.mod_lt _ (by (clear e2 e1 hlt h t1 hlen hle hN; omega))
    have hidx : (tN j bias : Int) + ((N : Int) - (tN j bias : Int)) % (36 - (tN j bias : Int)) = ((tN j bias + (N - tN j bias) % (36 - tN j bias) : Nat) : Int) := by rw [e1]; rfl
    refine Ex.mut rfl FA.meth_append (.cons (Ev.index (Ev.global rfl hdig hdg) (Ev.binop (Ev.name rfl) (Ev.binop (Ev.binop (Ev.name rfl) (Ev.name rfl) bin_sub_int) (Ev.binop Ev.cint (Ev.name rfl) bin_sub_int) (bin_mod_int (by (clear hidx hm e2 e1 t1 hlen hle hN; lia)))) bin_add_int)
      (get_bytes (by rw [hidx]; (clear hidx e2 e1 hlt h t2 t1 hlen hle hN; lia)) (by rw [hidx]; show _ < (36 : Int); (clear hidx e2 e1 t2 hlen hle hN; omega)) (by decide))) .nil) (mut_ba_append (by (clear hidx hm e2 e1 hlt h hlen hle hN; lia)) ?_ (by (clear hidx hm e2 e1 hlt h t2 t1 hle; lia))) rfl ?_
    · rw [hidx, show ((tN j bias + (N - tN j bias) % (36 - tN j bias) : Nat) : Int).toNat = _ from rfl, digitsL_get (by (clear hidx e2 e1 hlt h t2 hlen hle hN; omega))]; unfold dig; split <;> omega
    refine Ex.assign (Ev.binop (Ev.binop (Ev.name rfl) (Ev.name rfl) bin_sub_int) (Ev.binop Ev.cint (Ev.name rfl) bin_sub_int) (bin_div_int (by (clear hidx hm e2 e1 t1 hlen hle hN; lia)) (by (clear hidx hm e2 e1 t2 t1 hlen hle hN; lia)))) (.inl rfl) ?_
    refine Ex.aug rfl Ev.cint inp_add_int (.inl rfl) (Ex.nil ?_)
    rw [e2, hidx, show ((tN j bias + (N - tN j bias) % (36 - tN j bias) : Nat) : Int).toNat = _ from rfl, digitsL_get (by (clear hidx e2 e1 hlt h t2 hlen hle hN; omega))]
    refine ⟨((N - tN j bias) / (36 - tN j bias), j + 1, acc ++ [dig (tN j bias + (N - tN j bias) % (36 - tN j bias))]), _, Sto.sub_of ⟨rfl, rfl, rfl, rfl, trivial⟩, ?_, rfl, ?_, ?_⟩
    · have h3 : (N - tN j bias) / (36 - tN j bias) ≤ N - tN j bias := Nat.div_le_self _ _
      dsimp only; (clear hidx hm e1 t2 hlen hle hN; lia)
    · have h3 : (N - tN j bias) / (36 - tN j bias) ≤ N - tN j bias := Nat.div_le_self _ _
      dsimp only; (clear hidx hm e2 e1 hlt h t2 t1 hlen; lia)
    · dsimp only
      rw [List.append_assoc]
      exact hacc
theorem walk_adapt (P : PunyG G) {delta nc : Nat} {first : Bool} (hn : 0 < nc) (hn' : nc < 1000000) : FSpec prog w G 1 "adapt" [.int (delta : Nat), .bool first, .int (nc : Nat)] (.ok (.int (adp delta first nc : Nat))) := by
  refine x4a1 (P.adapt) fun a pm cd doc hf => ?_
  refine FSpec.of hf (body := bodyOf stAdapt) (ps := ["delta", "first", "numchars"]) rfl (.plain fun vals hv => ?_) (fun A L T s B fr => ?_)
  · refine x3a1 (len3 hv) fun a b c e_0 => ?_; subst e_0; rfl
  have key : ∀ (d0 : Nat) (σ : Sto), d0 = (if first then delta / 700 else delta / 2) → Sto.Sub [("delta", ⟨none, .int (d0 : Nat)⟩), ("numchars", ⟨none, .int (nc : Nat)⟩)] σ →
      Ex (fcx G prog w A (fdOf stAdapt pm cd doc Value.none Value.none) L a T s B fr 0) ((bodyOf stAdapt).drop 1) σ (fun o _ => Ends o (.ok (.int (adp delta first nc : Nat)))) := by
    intro d0 σ hd0 hs
    refine ExT.sub hs ?_
    refine Ex.aug rfl (Ev.binop (Ev.name rfl) (Ev.name rfl) (bin_div_int (by (clear hd0 hn'; lia)) (by (clear hd0 hn; lia)))) inp_add_int (.inl rfl) ?_
    refine Ex.assign Ev.cint (.inl rfl) ?_
    refine Ex.whileC fcx_top (P := Nat × Nat) (fun p => [("delta", ⟨none, .int (p.1 : Nat)⟩), ("divisions", ⟨none, .int (p.2 : Nat)⟩)])
      (fun n p => n = p.1 ∧ adpLoop p.1 p.2 = adpLoop (d0 + d0 / nc) 0) (fun n p hi => ?_) (d0 + d0 / nc) (d0 + d0 / nc, 0) ⟨rfl, rfl⟩ ⟨rfl, rfl, trivial⟩
    obtain ⟨d, k⟩ := p
    refine x0a2 hi fun hn hl => ?_; (try clear hi)
    subst n
    dsimp only at hl ⊢
    refine ⟨_, Te.cmp (Ev.name rfl) Ev.cint cmp_gt_int, fun h => ?_, fun h => Ex.nil ?_⟩
    · have h := of_decide_eq_true h
      have hd : 455 < d := by (clear hd0; omega)
      rw [adpLoop_pos hd] at hl
      refine Ex.assign (Ev.binop (Ev.name rfl) Ev.cint (bin_div_int (by decide) (by decide))) (.inl rfl) ?_
      refine Ex.aug rfl Ev.cint inp_add_int (.inl rfl) (Ex.nil ?_)
      exact ⟨(d / 35, k + 36), _, Sto.sub_of ⟨rfl, rfl, trivial⟩, by dsimp only; (clear hd0 hn' hn; lia), rfl, hl⟩
    · have h := of_decide_eq_false h
      have hd : ¬ 455 < d := by (clear hd0; omega)
      rw [adpLoop_neg hd] at hl
      refine Ex.assign (Ev.binop (Ev.name rfl) (Ev.binop (Ev.binop Ev.cint (Ev.name rfl) (bin_mul_intL (by decide))) (Ev.binop (Ev.name rfl) Ev.cint bin_add_int) (bin_div_int (by (clear hd h hd0; lia)) (by (clear hd0; lia)))) bin_add_int) (.inl rfl) ?_
      refine Ex.ret (Ev.name rfl) ?_
      show Except.ok _ = Except.ok _
      have e : adp delta first nc = k + 36 * d / (d + 38) := by
        unfold adp
        dsimp only
        rw [← hd0, ← hl]
      rw [e]
      rfl
  refine Ex.ite (Te.value (Ev.name rfl) (tru_bool first)) (fun h => ?_) (fun h => ?_)
  · refine Ex.aug rfl Ev.cint (inp_div_int (by decide) (by decide)) (.inl rfl) (Ex.nil ?_)
    exact key (delta / 700) _ (by rw [if_pos h]) (Sto.sub_of ⟨rfl, rfl, trivial⟩)
  · refine Ex.aug rfl Ev.cint (inp_div_int (by decide) (by decide)) (.inl rfl) (Ex.nil ?_)
    exact key (delta / 2) _ (by rw [h]; rfl) (Sto.sub_of ⟨rfl, rfl, trivial⟩)
theorem gensGo_length (base : Nat) : ∀ (ds : List Nat) (i bias : Nat), (∀ d ∈ ds, d ≤ 100000) → (gensGo base i bias ds).length ≤ 100001 * ds.length
  | [], _, _, _ => by simp [gensGo]
  | d :: ds, i, bias, h => by
    have h1 := numl_length bias d 0
    have h2 := h d (.head _)
    have h3 := gensGo_length base ds (i + 1) (adp d (i == 0) (base + i + 1)) fun x hx => h x (.tail _ hx)
    simp only [gensGo, List.length_append, List.length_cons]
    lia
theorem walk_gens (P : PunyG G) {base : Nat} {ds : List Nat} (hb : base ≤ 100000) (hl : ds.length ≤ 100) (hd : ∀ d ∈ ds, d ≤ 100000) :
    FSpec prog w G 3 "generate_integers" [.int (base : Nat), .list (AV.nats ds)] (.ok (.bytes ((gensGo base 0 72 ds).map dig))) := by
  refine x4a1 (P.gens) fun a pm cd doc hf => ?_
  refine x4a1 (P.adapt) fun aA pmA cdA docA hA => ?_
  refine x4a1 (P.gen) fun aN pmN cdN docN hN => ?_
  refine FSpec.of hf (body := bodyOf stGens) (ps := ["baselen", "deltas"]) rfl (.plain fun vals hv => ?_) (fun A L T s B fr => ?_)
  · refine x2a1 (len2 hv) fun a b e_0 => ?_; subst e_0; rfl
  have hlen0 : (gensGo base 0 72 ds).length ≤ 10000100 := Nat.le_trans (gensGo_length base ds 0 72 hd) (by (clear hb; lia))
  refine Ex.assign_own (EvN.bytearray rfl (P.none _ (by simp))) (.inl rfl) fun b => ?_
  refine Ex.assign Ev.cint (.inl rfl) ?_
  refine Ex.forT fcx_top (ns := ["points", "delta"]) (EvI.enum (Ev.name rfl) rfl rfl (P.none _ (by simp))) (.cons (.inl rfl) (.cons (.inl rfl) .nil)) rfl (P := List Nat × Nat)
    (fun p => [("baselen", ⟨none, .int (base : Nat)⟩), ("bias", ⟨none, .int (p.2 : Nat)⟩), ("result", ⟨some b, .barr p.1⟩)])
    (fun k p => p.1 ++ (gensGo base k p.2 (ds.drop k)).map dig = (gensGo base 0 72 ds).map dig) (fun k v p hv hi => ?_) (fun p hi => ?_) ([], 72) rfl ⟨rfl, rfl, rfl, trivial⟩
  · obtain ⟨acc, bias⟩ := p
    dsimp only at hi
    refine x1a2 (enum_get hv) fun x hx e_0 => ?_; subst e_0
    refine x1a2 (nats_get hx) fun d hd1 e_0 => ?_; subst e_0
    have hdm : d ≤ 100000 := hd d (List.mem_of_getElem? hd1)
    have hk : k < ds.length := (List.getElem?_eq_some_iff.mp hd1).1
    rw [drop_of_get hd1] at hi
    simp only [gensGo, List.map_append] at hi
    have hlen := congrArg List.length hi
    simp only [List.length_append, List.length_map] at hlen
    refine ⟨_, rfl, rfl, ?_⟩
    refine Ex.assign (EvX.ev (EvX.call (walk_gen P (by (clear hlen hk hlen0 hl; lia))) (.cons (Ev.name rfl) (.cons (Ev.name rfl) .nil)) rfl rfl (Nat.le_refl 2) hN)) (.inl rfl) ?_
    refine Ex.mut rfl FA.meth_extend (.cons (Ev.name rfl) .nil) (mut_ba_extend (by rw [List.length_map]; dsimp only; lia)) rfl ?_
    refine Ex.assign (EvX.ev (EvX.call (walk_adapt P (nc := base + k + 1) (first := (k == 0)) (by (clear hlen hlen0; lia)) (by (clear hlen hlen0; lia))) (.cons (Ev.name rfl) (.cons (Ev.cmp (Ev.name rfl) Ev.cint ?_) (.cons (Ev.binop (Ev.binop (Ev.name rfl) (Ev.name rfl) bin_add_int) Ev.cint bin_add_int) .nil))) rfl rfl (Nat.le_succ 1) hA)) (.inl rfl) (Ex.nil ?_)
    · have := cmp_eq_int (a := (k : Int)) (b := 0)
      have e : ((k : Int) == 0) = (k == 0) := by cases k <;> rfl
      rw [e] at this
      exact this
    · refine ⟨(acc ++ (numl bias 0 d).map dig, adp d (k == 0) (base + k + 1)), Sto.sub_of ⟨rfl, rfl, rfl, trivial⟩, ?_⟩
      dsimp only
      rw [List.append_assoc]
      exact hi
  · obtain ⟨acc, bias⟩ := p
    dsimp only at hi
    refine Ex.nil (Ex.ret (Ev.bytesOf rfl ?_ rfl (P.none _ (by simp))) ?_)
    · have hlen := congrArg List.length hi
      simp only [List.length_append, List.length_map] at hlen
      dsimp only
      lia
    · have e : ds.drop ((List.range (AV.nats ds).length).zipWith (fun (i : Nat) x => AV.tup [.int i, x]) (AV.nats ds)).length = [] := by
        rw [enum_len]; simp [AV.nats]
      rw [e] at hi
      simp only [gensGo, List.map_nil, List.append_nil] at hi
      show Except.ok _ = Except.ok _
      rw [hi]
end
end Mine
namespace Mine
open PySem PySem.Calls PySem.W PyProof.Rows
variable [Lo]
section
variable {prog : Program} {w : World} {G : Pg}
theorem walk_dec (P : PunyG G) {fs er : List Nat} {p : Nat} {bias : Int} (hf : ∀ d ∈ fs, d < 36) (hp : p ≤ fs.length) (hl : fs.length ≤ 16000000) :
    FSpec prog w G 2 "decode_generalized_number" [.bytes (fs.map udig), .int (p : Nat), .int bias, .str er] (decR bias fs p er) := by
  refine x4a1 (P.dec) fun a pm cd doc hfn => ?_
  refine x4a1 (P.T) fun aT pmT cdT docT hT => ?_
  refine FSpec.of hfn (body := bodyOf stDec) (ps := ["extended", "extpos", "bias", "errors"]) rfl (.plain fun vals hv => ?_) (fun A L T s B fr => ?_)
  · refine x4a1 (len4 hv) fun a b c d e_0 => ?_; subst e_0; rfl
  refine Ex.assign Ev.cint (.inl rfl) (Ex.assign Ev.cint (.inl rfl) (Ex.assign Ev.cint (.inl rfl) ?_))
  refine Ex.whileC fcx_top (P := Nat × Nat × Nat × Nat) (fun x => [("extended", ⟨none, .bytes (fs.map udig)⟩), ("extpos", ⟨none, .int (x.1 : Nat)⟩), ("bias", ⟨none, .int bias⟩), ("errors", ⟨none, .str er⟩), ("j", ⟨none, .int (x.2.1 : Nat)⟩), ("w", ⟨none, .int (x.2.2.1 : Nat)⟩), ("result", ⟨none, .int (x.2.2.2 : Nat)⟩)])
    (fun n x => n = fs.length - x.1 ∧ p ≤ x.1 ∧ x.1 ≤ fs.length ∧ readN bias 0 (fs.drop p) = (readN bias x.2.1 (fs.drop x.1)).map fun r => (r.1 + (x.1 - p), x.2.2.2 + x.2.2.1 * r.2))
    (fun n x hi => ?_) (fs.length - p) (p, 0, 1, 0) ⟨rfl, Nat.le_refl _, hp, ?_⟩ ⟨rfl, rfl, rfl, rfl, rfl, rfl, rfl, trivial⟩
  · obtain ⟨q, j, wt, res⟩ := x
    refine x0a4 hi fun hn hpq hq hr => ?_; (try clear hi)
    subst n
    dsimp only at hpq hq hr ⊢
    refine ⟨true, Te.value Ev.cint (tru_int 1), fun _ => ?_, fun h => by exact tf h⟩
    refine Ex.tryX clause_index rfl fcx_top rfl (P.none _ (by simp)) ?_
    by_cases hlt : q < fs.length
    · have hd : fs[q]? = some fs[q] := List.getElem?_eq_getElem hlt
      have hd36 : fs[q] < 36 := hf _ (List.getElem_mem hlt)
      rw [drop_of_get hd] at hr
      have hgd : (fs.map udig).getD ((q : Nat) : Int).toNat 0 = udig fs[q] := by
        rw [show ((q : Nat) : Int).toNat = q from rfl, List.getD_eq_getElem?_getD, List.getElem?_map, hd]; rfl
      generalize hdd : fs[q] = d at hr hd36 hgd
      refine Ex.assign (Ev.index (Ev.name rfl) (Ev.name rfl) (get_bytes (by (clear hgd hdd hl hp; lia)) (by rw [List.length_map]; (clear hgd hdd hpq hp; lia)) (by rw [List.length_map]; (clear hgd hdd hpq hp; lia)))) (.inl rfl) (Ex.nil ?_)
      rw [hgd]
      refine Ex.aug rfl Ev.cint inp_add_int (.inl rfl) ?_
      have tail : ∀ σ, Sto.Sub [("extended", ⟨none, .bytes (fs.map udig)⟩), ("extpos", ⟨none, .int ((q + 1 : Nat) : Int)⟩), ("bias", ⟨none, .int bias⟩), ("errors", ⟨none, .str er⟩), ("j", ⟨none, .int (j : Nat)⟩), ("w", ⟨none, .int (wt : Nat)⟩), ("result", ⟨none, .int (res : Nat)⟩), ("digit", ⟨none, .int (d : Nat)⟩)] σ →
          Ex (fcx G prog w A (fdOf stDec pm cd doc Value.none Value.none) L a T s B fr 1) ((whileBody (((bodyOf stDec).drop 3).headD (.Pass default))).drop 3) σ (Turn (fcx G prog w A (fdOf stDec pm cd doc Value.none Value.none) L a T s B fr 1) [] (fun o _ => Ends o (decR bias fs p er)) fun σ' => ∃ (p' : Nat × Nat × Nat × Nat) (m : Nat), Sto.Sub [("extended", ⟨none, .bytes (fs.map udig)⟩), ("extpos", ⟨none, .int (p'.1 : Nat)⟩), ("bias", ⟨none, .int bias⟩), ("errors", ⟨none, .str er⟩), ("j", ⟨none, .int (p'.2.1 : Nat)⟩), ("w", ⟨none, .int (p'.2.2.1 : Nat)⟩), ("result", ⟨none, .int (p'.2.2.2 : Nat)⟩)] σ' ∧ m < fs.length - q ∧ m = fs.length - p'.1 ∧ p ≤ p'.1 ∧ p'.1 ≤ fs.length ∧ readN bias 0 (fs.drop p) = (readN bias p'.2.1 (fs.drop p'.1)).map fun r => (r.1 + (p'.1 - p), p'.2.2.2 + p'.2.2.1 * r.2)) := by
        intro σ hs
        refine ExT.sub hs ?_
        have t1 := tN_ge j bias
        have t2 := tN_le j bias
        refine Ex.assign (EvX.ev (EvX.call (walk_T P) (.cons (Ev.name rfl) (.cons (Ev.name rfl) .nil)) rfl rfl (Nat.le_refl 1) hT)) (.inl rfl) ?_
        rw [← tN_eq]
        refine Ex.aug rfl (Ev.binop (Ev.name rfl) (Ev.name rfl) (bin_mul_intL (by (clear t2 t1 hgd hdd hpq hp; omega)))) inp_add_int (.inl rfl) ?_
        refine Ex.ite (Te.cmp (Ev.name rfl) (Ev.name rfl) cmp_lt_int) (fun h => ?_) (fun h => Ex.nil ?_)
        · have h := of_decide_eq_true h
          have hlt' : d < tN j bias := by (clear hgd hdd hpq hp; omega)
          simp only [readN, hlt', if_true, Option.map_some] at hr
          refine Ex.ret (Ev.tuple (.cons (Ev.name rfl) (.cons (Ev.name rfl) .nil)) (Nat.le_of_ble_eq_true rfl)) ?_
          show decR bias fs p er = _
          unfold decR
          rw [hr]
          have e1 : p + (1 + (q - p)) = q + 1 := by (clear hlt' h t2 t1 hgd hdd hl hp; lia)
          have e2 : ((res + wt * d : Nat) : Int) = (res : Int) + (d : Int) * (wt : Int) := by rw [Int.natCast_add, Int.natCast_mul, Int.mul_comm]
          simp only [e1, e2]
        · have h := of_decide_eq_false h
          have hlt' : ¬ d < tN j bias := by (clear hgd hdd hpq hp; omega)
          simp only [readN, hlt', if_false, Option.map_map] at hr
          refine Ex.assign (Ev.binop (Ev.name rfl) (Ev.binop Ev.cint (Ev.name rfl) bin_sub_int) (bin_mul_intR (by (clear t1 hgd hd36 hdd hpq hp; omega)))) (.inl rfl) ?_
          refine Ex.aug rfl Ev.cint inp_add_int (.inl rfl) (Ex.nil ?_)
          have e3 : (wt : Int) * (36 - (tN j bias : Int)) = ((wt * (36 - tN j bias) : Nat) : Int) := by
            rw [Int.natCast_mul, Int.ofNat_sub (by (clear t1 hgd hdd hpq hp; omega))]; rfl
          have e4 : (res : Int) + (d : Int) * (wt : Int) = ((res + wt * d : Nat) : Int) := by rw [Int.natCast_add, Int.natCast_mul, Int.mul_comm]
          rw [e3, e4]
          refine ⟨(q + 1, j + 1, wt * (36 - tN j bias), res + wt * d), _, Sto.sub_of ⟨rfl, rfl, rfl, rfl, rfl, rfl, rfl, trivial⟩, ?_, rfl, ?_, ?_, ?_⟩
          · dsimp only; (clear e4 e3 hlt' h t2 t1 hgd hd36 hdd hpq hp; omega)
          · dsimp only; (clear e4 e3 hlt' h t2 t1 hgd hdd hl hp; lia)
          · dsimp only; (clear e4 e3 hlt' h t2 t1 hgd hdd hpq hp; lia)
          · dsimp only
            rw [hr]
            congr 1
            funext r
            simp only [Function.comp]
            have : r.1 + 1 + (q - p) = r.1 + (q + 1 - p) := by (clear e4 e3 hlt' h t2 t1 hgd hd36 hdd hp; lia)
            rw [this, Nat.mul_add, Nat.add_assoc, Nat.mul_assoc]
      have hu1 : d < 26 → udig d = 65 + d := fun h => by unfold udig; rw [if_pos h]
      have hu2 : ¬ d < 26 → udig d = 22 + d := fun h => by unfold udig; rw [if_neg h]
      refine Ex.ite (Te.chain Ev.cint (Ev.name rfl) Ev.cint cmp_le_int cmp_le_int) (fun h => ?_) (fun h => ?_)
      · rw [Bool.and_eq_true, decide_eq_true_eq, decide_eq_true_eq] at h
        have hc : d < 26 := by
          rcases Nat.lt_or_ge d 26 with h1 | h1
          · exact h1
          · have := hu2 (by (clear hgd hd36 hdd hpq hp; omega)); (clear h1 hgd hdd hpq hp; lia)
        rw [hu1 hc]
        refine Ex.assign (Ev.binop (Ev.name rfl) Ev.cint bin_sub_int) (.inl rfl) (Ex.nil (tail _ (Sto.sub_of ⟨rfl, rfl, rfl, rfl, rfl, rfl, rfl, ?_, trivial⟩)))
        have e : ((65 + d : Nat) : Int) - 65 = (d : Nat) := by (clear hgd hdd hpq hp; lia)
        rw [e]
        rfl
      · rw [Bool.and_eq_false_iff, decide_eq_false_iff_not, decide_eq_false_iff_not] at h
        have hc : ¬ d < 26 := fun h1 => by have := hu1 h1; (clear hgd hd36 hdd hpq hp; omega)
        rw [hu2 hc]
        refine Ex.ite (Te.chain Ev.cint (Ev.name rfl) Ev.cint cmp_le_int cmp_le_int) (fun h' => ?_) (fun h' => ?_)
        · refine Ex.assign (Ev.binop (Ev.name rfl) Ev.cint bin_sub_int) (.inl rfl) (Ex.nil (Ex.nil (tail _ (Sto.sub_of ⟨rfl, rfl, rfl, rfl, rfl, rfl, rfl, ?_, trivial⟩))))
          have e : ((22 + d : Nat) : Int) - 22 = (d : Nat) := by (clear hgd hdd; lia)
          rw [e]
          rfl
        · rw [Bool.and_eq_false_iff, decide_eq_false_iff_not, decide_eq_false_iff_not] at h'
          exfalso
          (clear hgd hdd; lia)
    · have hqe : q = fs.length := by (clear hpq hp; lia)
      subst hqe
      rw [List.drop_of_length_le (Nat.le_refl _)] at hr
      simp only [readN, Option.map_none] at hr
      refine Ex.assignX (EvX.bytes_out (l := fs.map udig) (Ev.name rfl) (Ev.name rfl) (by rw [List.length_map]; exact Int.le_refl _) (by lia) rfl) (.inl rfl) ?_
      refine ⟨rfl, ?_⟩
      refine ExH.if (b := er == strictL) (fun a => Te.cmp (Ev.name rfl) (Ev.cstr rfl) cmp_eq_str) ?_
      cases he : er == strictL with
      | true =>
        refine ExH.raise (en := ("punycode" : Str).cps.toList) (b := fs.map udig) (re := incL) (i := (fs.length : Nat)) (j := (fs.length : Nat) + 1) (fun a => .cons (Ev.cstr rfl) (.cons (Ev.name rfl) (.cons (Ev.name rfl) (.cons (Ev.binop (Ev.name rfl) Ev.cint bin_add_int) (.cons (Ev.cstr rfl) .nil))))) rfl rfl (P.none _ (by simp)) (by lia) (by lia) trivial ?_
        show decR bias fs p er = _
        unfold decR
        rw [hr]
        simp only [he, if_true]
        rfl
      | false =>
        refine ExH.nil ?_
        refine ExH.of fun a => Ex.ret (Ev.tuple (.cons (Ev.binop (Ev.name rfl) Ev.cint bin_add_int) (.cons Ev.cnone .nil)) (Nat.le_of_ble_eq_true rfl)) ?_
        show decR bias fs p er = _
        unfold decR
        rw [hr]
        simp only [he]
        rfl
  · dsimp only
    cases readN bias 0 (fs.drop p) with
    | none => rfl
    | some r => simp
end
end Mine
namespace Mine
open PySem PySem.Calls PySem.W PyProof.Rows
variable [Lo]
section
variable {prog : Program} {w : World} {G : Pg}
theorem walk_ins (P : PunyG G) {fs er base₀ : List Nat} (hf : ∀ d ∈ fs, d < 36) (hl : fs.length ≤ 8000000) (hb : base₀.length ≤ 500000) (hl2 : fs.length ≤ 400000) (hok : insOk fs base₀.length 128 0 72 0) :
    FSpec prog w G 3 "insertion_sort" [.str base₀, .bytes (fs.map udig), .str er] (insGo fs er base₀ 128 0 72 0) := by
  obtain ⟨a, pm, cd, doc, hfn⟩ := P.ins
  obtain ⟨aD, pmD, cdD, docD, hD⟩ := P.dec
  obtain ⟨aA, pmA, cdA, docA, hA⟩ := P.adapt
  refine FSpec.of hfn (body := bodyOf stIns) (ps := ["base", "extended", "errors"]) rfl (.plain fun vals hv => ?_) (fun A L T s B fr => ?_)
  · obtain ⟨a, b, c, rfl⟩ := len3 hv; rfl
  refine Ex.assign Ev.cint (.inl rfl) (Ex.assign (Ev.neg Ev.cint) (.inl rfl) (Ex.assign Ev.cint (.inl rfl) (Ex.assign Ev.cint (.inl rfl) ?_)))
  refine Ex.whileC fcx_top (P := List Nat × Nat × Nat × Nat × Nat) (fun x => [("base", ⟨none, .str x.1⟩), ("extended", ⟨none, .bytes (fs.map udig)⟩), ("errors", ⟨none, .str er⟩), ("char", ⟨none, .int (x.2.1 : Nat)⟩), ("pos", ⟨none, .int ((x.2.2.1 : Nat) - 1)⟩), ("bias", ⟨none, .int (x.2.2.2.1 : Nat)⟩), ("extpos", ⟨none, .int (x.2.2.2.2 : Nat)⟩)])
    (fun n x => n = fs.length - x.2.2.2.2 ∧ x.2.2.2.2 ≤ fs.length ∧ x.1.length ≤ base₀.length + x.2.2.2.2 ∧ insOk fs x.1.length x.2.1 x.2.2.1 x.2.2.2.1 x.2.2.2.2 ∧ insGo fs er x.1 x.2.1 x.2.2.1 x.2.2.2.1 x.2.2.2.2 = insGo fs er base₀ 128 0 72 0)
    (fun n x hi => ?_) (fs.length) (base₀, 128, 0, 72, 0) ⟨rfl, Nat.zero_le _, Nat.le_refl _, hok, rfl⟩ ⟨rfl, rfl, rfl, rfl, rfl, rfl, rfl, trivial⟩
  obtain ⟨base, char, at_, bias, p⟩ := x
  obtain ⟨hn, hp, hbl, hok, hg⟩ := hi
  subst n
  dsimp only at hp hbl hok hg ⊢
  refine ⟨_, Te.cmp (Ev.name rfl) (Ev.callB (.cons (Ev.name rfl) .nil) (call_len_bytes' (by rw [List.length_map]; (clear hbl hl2 hb; lia))) rfl rfl (P.none _ (by simp)) boot_len nofun) cmp_lt_int, fun h => ?_, fun h => ?_⟩
  · have h := of_decide_eq_true h
    rw [List.length_map] at h
    have hlt : p < fs.length := by omega
    conv at hg => lhs; rw [insGo_eq]
    rw [dif_pos hlt] at hg
    rw [insOk_eq] at hok
    rw [dif_pos hlt] at hok
    have hdec := walk_dec (prog := prog) (w := w) P (er := er) (p := p) (bias := (bias : Nat)) hf hp (by (clear hbl hl2 hb; lia))
    unfold decR at hdec
    cases hr : readN (bias : Nat) 0 (fs.drop p) with
    | none =>
      rw [hr] at hdec hg hok
      dsimp only at hdec hg hok
      cases he : er == strictL with
      | true =>
        rw [he] at hdec hg
        simp only [if_true] at hdec hg
        refine Ex.assignTX (xs := ["newpos", "delta"]) (vs := []) (EvX.call hdec (.cons (Ev.name rfl) (.cons (Ev.name rfl) (.cons (Ev.name rfl) (.cons (Ev.name rfl) .nil)))) rfl rfl (Nat.le_refl 2) hD) (.cons (.inl rfl) (.cons (.inl rfl) .nil)) rfl ?_
        exact hg.symm
      | false =>
        rw [he] at hdec hg
        simp only [Bool.false_eq_true, if_false] at hdec hg
        refine Ex.assignT (xs := ["newpos", "delta"]) (EvX.ev (EvX.call hdec (.cons (Ev.name rfl) (.cons (Ev.name rfl) (.cons (Ev.name rfl) (.cons (Ev.name rfl) .nil)))) rfl rfl (Nat.le_refl 2) hD)) (.cons (.inl rfl) (.cons (.inl rfl) .nil)) rfl ?_
        refine Ex.ite (Te.cmp (Ev.name rfl) Ev.cnone cmp_is_none) (fun _ => Ex.ret (Ev.name rfl) ?_) (fun h => by exact tf h)
        exact hg.symm
    | some r =>
      obtain ⟨c, m⟩ := r
      rw [hr] at hdec hg hok
      dsimp only at hdec hg hok
      have hc := readN_le hr
      rw [dif_pos hc.1] at hg
      obtain ⟨hch, hok⟩ := hok
      rw [dif_pos hc.1] at hok
      have hcl : c ≤ fs.length - p := by simpa using hc.2
      refine Ex.assignT (xs := ["newpos", "delta"]) (EvX.ev (EvX.call hdec (.cons (Ev.name rfl) (.cons (Ev.name rfl) (.cons (Ev.name rfl) (.cons (Ev.name rfl) .nil)))) rfl rfl (Nat.le_refl 2) hD)) (.cons (.inl rfl) (.cons (.inl rfl) .nil)) rfl ?_
      refine Ex.ite (Te.cmp (Ev.name rfl) Ev.cnone cmp_is_none) (fun h => by exact ft h) (fun _ => Ex.nil ?_)
      refine Ex.aug rfl (Ev.binop (Ev.name rfl) Ev.cint bin_add_int) inp_add_int (.inl rfl) ?_
      have e1 : ((at_ : Nat) : Int) - 1 + ((m : Int) + 1) = ((at_ + m : Nat) : Int) := by (clear hcl hch hc hlt h hbl hp hl2 hb hl; lia)
      rw [e1]
      refine Ex.aug rfl (Ev.binop (Ev.name rfl) (Ev.binop (Ev.callB (.cons (Ev.name rfl) .nil) (call_len_str' (by (clear e1 hcl hch hc hlt h hl2; lia))) rfl rfl (P.none _ (by simp)) boot_len nofun) Ev.cint bin_add_int) (bin_div_int (by (clear e1 hcl hch hc hlt h hbl hp hl2 hb hl; lia)) (by (clear e1 hcl hch hc hlt h hl2; lia)))) inp_add_int (.inl rfl) ?_
      have e2 : (char : Int) + ((at_ + m : Nat) : Int) / ((base.length : Int) + 1) = ((char + (at_ + m) / (base.length + 1) : Nat) : Int) := rfl
      rw [e2]
      refine Ex.ite (Te.cmp (Ev.name rfl) Ev.cint cmp_gt_int) (fun h => ?_) (fun _ => Ex.nil ?_)
      · have h := of_decide_eq_true h
        exfalso
        (clear e2 hcl hc hbl hb; omega)
      refine Ex.assign (Ev.binop (Ev.name rfl) (Ev.binop (Ev.callB (.cons (Ev.name rfl) .nil) (call_len_str' (by (clear e2 e1 hcl hch hc hlt h hl2; lia))) rfl rfl (P.none _ (by simp)) boot_len nofun) Ev.cint bin_add_int) (bin_mod_int (by (clear e2 e1 hcl hch hc hlt h hbl hp hl2 hb hl; lia)))) (.inl rfl) ?_
      have e3 : ((at_ + m : Nat) : Int) % ((base.length : Int) + 1) = (((at_ + m) % (base.length + 1) : Nat) : Int) := rfl
      rw [e3]
      have hm : (at_ + m) % (base.length + 1) < base.length + 1 := Nat.mod_lt _ (Nat.succ_pos _)
      generalize hpos : (at_ + m) % (base.length + 1) = pos at hm hg hok
      generalize hch' : char + (at_ + m) / (base.length + 1) = ch at hch hg hok
      refine Ex.assign (Ev.binop (Ev.binop (Ev.slice (Ev.name rfl) .none (.some (Ev.name rfl)) (slice_str (by (clear hch' hpos e3 e2 e1 hcl hc hlt h hl2; lia)))) (Ev.callB (.cons (Ev.name rfl) .nil) (call_chr' (by (clear hch hch' hm hpos e3 e2 e1 hcl hc hlt h hbl hp hl2 hb hl; lia)) (by (clear hch' hm hpos e3 e2 e1 hcl hc hlt h hbl hp hl2 hb hl; lia))) rfl rfl (P.none _ (by simp)) boot_chr nofun) (bin_add_str ?_)) (Ev.slice (Ev.name rfl) (.some (Ev.name rfl)) .none (slice_str (by (clear hch' hpos e3 e2 e1 hcl hc hlt h hl2; lia)))) (bin_add_str ?_)) (.inl rfl) ?_
      · rw [cutL_take (by (clear hch' hpos e3 e2 e1 hcl hc hlt h hbl hp hl2 hb hl; lia))]; simp; (clear hch hch' hm hpos e3 e2 e1 hcl hc hlt h hl2; lia)
      · rw [cutL_take (by (clear hch' hpos e3 e2 e1 hcl hc hlt h hbl hp hl2 hb hl; lia)), cutL_drop (by (clear hch' hpos e3 e2 e1 hcl hc hlt h hbl hp hl2 hb hl; lia))]; simp; (clear hch hch' hm hpos e3 e2 e1 hcl hc hlt h hl2; omega)
      rw [cutL_take (by (clear hch' hpos e3 e2 e1 hcl hc hlt h hbl hp hl2 hb hl; lia)), cutL_drop (by (clear hch' hpos e3 e2 e1 hcl hc hlt h hbl hp hl2 hb hl; lia))]
      have e4 : base.take pos ++ [((ch : Nat) : Int).toNat] ++ base.drop pos = insAt pos ch base := by unfold insAt; simp
      rw [e4]
      have hil : (insAt pos ch base).length = base.length + 1 := by unfold insAt; simp; (clear hch hch' hm hpos e3 e2 e1 hcl hc hlt h hp hl2 hl; lia)
      have hadp := walk_adapt (prog := prog) (w := w) P (delta := m) (nc := base.length + 1) (first := (p == 0)) (by (clear hil hch' hm hpos e3 e2 e1 hcl hc hlt h hbl hp hl2 hb hl; lia)) (by (clear hil hch' hpos e3 e2 e1 hcl hc hlt h hl; lia))
      rw [← hil] at hadp
      refine Ex.assign (EvX.ev (EvX.call hadp (.cons (Ev.name rfl) (.cons (Ev.cmp (Ev.name rfl) Ev.cint ?_) (.cons (Ev.callB (.cons (Ev.name rfl) .nil) (call_len_str' (by rw [hil]; (clear hil hch' hpos e3 e2 e1 hcl hc hlt h hl2; lia))) rfl rfl (P.none _ (by simp)) boot_len nofun) .nil))) rfl rfl (Nat.le_succ 1) hA)) (.inl rfl) ?_
      · have := cmp_eq_int (a := (p : Int)) (b := 0)
        have e : ((p : Int) == 0) = (p == 0) := by cases p <;> rfl
        rw [e] at this
        exact this
      refine Ex.assign (Ev.name rfl) (.inl rfl) (Ex.nil ?_)
      rw [hil]
      refine ⟨(insAt pos ch base, ch, pos + 1, adp m (p == 0) (base.length + 1), p + c), _, Sto.sub_of ⟨rfl, rfl, rfl, rfl, ?_, rfl, rfl, trivial⟩, ?_, rfl, ?_, ?_, ?_, hg⟩
      · have e : ((pos + 1 : Nat) : Int) - 1 = (pos : Nat) := by (clear hil hch' hm hpos e3 e2 e1 hcl hc hlt h hbl hp hl2 hb hl; lia)
        dsimp only
        rw [e]
        rfl
      · dsimp only; (clear hil hch hch' hm hpos e3 e2 e1 hcl hbl hb; omega)
      · dsimp only; (clear hil hch' hm hpos e3 e2 e1 hc hlt h hbl hb; lia)
      · dsimp only; rw [hil]; (clear hil hch' hm hpos e3 e2 e1 hcl hlt h hp hl2 hl; lia)
      · dsimp only; rw [hil]; exact hok
  · have h := of_decide_eq_false h
    rw [List.length_map] at h
    refine Ex.nil (Ex.ret (Ev.name rfl) ?_)
    conv at hg => lhs; rw [insGo_eq]
    rw [dif_neg (by (clear hbl hp hb; lia))] at hg
    exact hg.symm
end
end Mine
namespace Mine
open PySem PySem.Calls PySem.W PyProof.Rows
variable [Lo]
section
variable {X : Cx} {σ : Sto} {Q : Post}
theorem Ex1.assign {x : Str} {p pos : Pos} {e : Expr} {v : AV} (h : Ev X e σ v) (hk : storable X x) (k : Q .next (σ.upd x v))
    (hs : autoParam (swapsWith e (some (.Name x p)) pos.line X.env = pure false) byRfl) : Ex1 X (.Assign [.Name x p] e pos) σ Q := fun T s S => by
  refine wq_Assign_Name (h.then S fun w T' s' l S' r => ?_) hs
  exact wq_of <| StB.store S' hk r fun s'' S'' lb => ⟨_, .next, _, ⟨S'', (l.leB _).trans lb fun _ _ q => q, fun b _ q => Cx.ban_upd q⟩, rfl, k⟩
end
theorem insGo_err {fs er : List Nat} : ∀ (n : Nat) (base : List Nat) (char at_ bias p : Nat), fs.length - p = n → ∀ x, insGo fs er base char at_ bias p = .error x → x = .ude true (fs.length : Nat) ((fs.length : Nat) + 1) incL := by
  intro n
  induction n using Nat.strongRecOn with
  | ind n ih =>
    intro base char at_ bias p hn x hx
    rw [insGo_eq] at hx
    split at hx
    · rename_i hlt
      split at hx
      · split at hx
        · injection hx with hx; exact hx.symm
        · cases hx
      · split at hx
        · rename_i c m hr hc
          exact ih (fs.length - (p + c)) (by omega) _ _ _ _ _ rfl x hx
        · cases hx
    · cases hx
noncomputable def pyR (len : Nat) (fs er base : List Nat) : Except XV AV := match insGo fs er base 128 0 72 0 with
  | .ok v => .ok v
  | .error _ => .error (.ude false (len : Nat) ((len : Nat) + 1) incL)
structure Label (t : List Nat) (base fs : List Nat) : Prop where
  ascii : ∀ c ∈ t, c < 128
  figs : ∀ d ∈ fs, d < 36
  parts : (base = [] ∧ lastOf t 45 = -1 ∧ upL t = fs.map udig) ∨ (base ≠ [] ∧ lastOf t 45 = (base.length : Nat) ∧ base.length < t.length ∧ t.take base.length = base ∧ upL (t.drop (base.length + 1)) = fs.map udig)
theorem Label.len {t base fs : List Nat} (h : Label t base fs) : t.length = (lastOf t 45 + 1).toNat + fs.length ∧ 0 ≤ lastOf t 45 + 1 := by
  rcases h.parts with ⟨_, h2, h3⟩ | ⟨_, h2, h3, h4, h5⟩
  · have := congrArg List.length h3
    simp only [upL, List.length_map] at this
    rw [h2]; simp [this]
  · have := congrArg List.length h5
    simp only [upL, List.length_map, List.length_drop] at this
    rw [h2]; omega
section
variable {prog : Program} {w : World} {G : Pg}
theorem puny_tail (P : PunyG G) {t er base fs : List Nat} (hl : Label t base fs) (hlen : t.length ≤ 300000) (her : er = strictL ∨ er = ignoreL ∨ base = []) (hok : insOk fs base.length 128 0 72 0) {a : Addr} {pm cd doc : Value} {A : Around} {L : Addr} {T : Tx} {s : Shared} {B : Addr → Prop} {fr : List Env} {σ : Sto}
    (hs : Sto.Sub [("text", ⟨none, .bytes t⟩), ("errors", ⟨none, .str er⟩)] σ) :
    Ex (fcx G prog w A (fdOf stPuny pm cd doc Value.none Value.none) L a T s B fr 3) ((bodyOf stPuny).drop 2) σ (fun o _ => Ends o (pyR t.length fs er base)) := by
  refine x4a1 (P.ins) fun aI pmI cdI docI hI => ?_
  refine ExT.sub hs ?_
  have hlen2 := hl.len
  have hfl : fs.length ≤ t.length := by lia
  have hbl : base.length ≤ t.length := by
    rcases hl.parts with ⟨h1, _⟩ | ⟨_, h2, h3, _⟩
    · rw [h1]; exact Nat.zero_le _
    · (clear h2 hlen2; lia)
  refine Ex.assign (Ev.meth (x := .bytes t) FC.meth_rfind (Ev.name rfl) (.cons (Ev.cbytes (l := [(45 : UInt8).toNat]) rfl) .nil) call_rfind rfl) (.inl rfl) ?_
  rw [show (45 : UInt8).toNat = 45 from rfl]
  have rest : ∀ σ, Sto.Sub [("text", ⟨none, .bytes t⟩), ("errors", ⟨none, .str er⟩), ("pos", ⟨none, .int (lastOf t 45)⟩), ("base", ⟨none, .str base⟩), ("extended", ⟨none, .bytes (fs.map udig)⟩)] σ →
      Ex (fcx G prog w A (fdOf stPuny pm cd doc Value.none Value.none) L a T s B fr 3) ((bodyOf stPuny).drop 4) σ (fun o _ => Ends o (pyR t.length fs er base)) := by
    intro σ hs
    refine ExT.sub hs ?_
    refine Ex.tryAs clause_ude rfl fcx_top rfl (P.none _ (by simp)) rfl (.inl rfl) ?_
    have hins := walk_ins (prog := prog) (w := w) P (fs := fs) (er := er) (base₀ := base) hl.figs (by (clear hlen2; lia)) (by (clear hfl hlen2; lia)) (by (clear hlen2; lia)) hok
    cases hr : insGo fs er base 128 0 72 0 with
    | ok v =>
      rw [hr] at hins
      refine Ex.retX (EvX.call hins (.cons (Ev.name rfl) (.cons (Ev.name rfl) (.cons (Ev.name rfl) .nil))) rfl rfl (Nat.le_refl 3) hI) ?_
      dsimp only
      show pyR t.length fs er base = _
      unfold pyR; rw [hr]
    | error x =>
      rw [hr] at hins
      have hx := insGo_err _ _ _ _ _ _ rfl x hr
      subst hx
      refine Ex.retX (EvX.call hins (.cons (Ev.name rfl) (.cons (Ev.name rfl) (.cons (Ev.name rfl) .nil))) rfl rfl (Nat.le_refl 3) hI) ?_
      dsimp only
      refine ⟨rfl, ⟨_, _, _, _, rfl⟩, ?_⟩
      refine ExH.seq (fun a => Ex1.assign (Ev.binop (Ev.name rfl) Ev.cint bin_add_int) (.inl rfl) ?_)
      refine ExH.raise_from (en := ("punycode" : Str).cps.toList) (b := t) (re := incL) (i := lastOf t 45 + 1 + (fs.length : Nat)) (j := lastOf t 45 + 1 + ((fs.length : Nat) + 1)) (fun a => .cons (Ev.cstr rfl) (.cons (Ev.name rfl) (.cons (Ev.binop (Ev.name rfl) (Ev.start (Ev.name rfl)) bin_add_int) (.cons (Ev.binop (Ev.name rfl) (Ev.stop (Ev.name rfl)) bin_add_int) (.cons (Ev.reason (Ev.name rfl)) .nil))))) rfl rfl (P.none _ (by simp)) (by (clear hbl hfl; lia)) (by (clear hbl hfl; lia)) rfl ?_
      show pyR t.length fs er base = _
      unfold pyR; rw [hr]
      dsimp only
      have e1 : lastOf t 45 + 1 + (fs.length : Nat) = (t.length : Nat) := by lia
      have e2 : lastOf t 45 + 1 + ((fs.length : Nat) + 1) = (t.length : Nat) + 1 := by (clear hbl hlen2; lia)
      rw [e1, e2]
      rfl
  refine Ex.ite (Te.cmp (Ev.name rfl) (Ev.neg Ev.cint) cmp_eq_int) (fun h => ?_) (fun h => ?_)
  · have h : lastOf t 45 = -1 := by simpa using h
    rcases hl.parts with ⟨h1, h2, h3⟩ | ⟨_, h2, _⟩
    · subst h1
      refine Ex.assign (Ev.cstr (l := []) rfl) (.inl rfl) ?_
      refine Ex.assign (Ev.meth0 (x := .bytes t) FC.meth_upper (Ev.name rfl) (call_upper (by (clear h2 h hfl hlen2; lia))) rfl) (.inl rfl) (Ex.nil ?_)
      rw [h3]
      exact rest _ (Sto.sub_of ⟨rfl, rfl, rfl, rfl, rfl, trivial⟩)
    · (clear hfl hlen2; omega)
  · have h : ¬ lastOf t 45 = -1 := by simpa using h
    rcases hl.parts with ⟨_, h2, _⟩ | ⟨h0, h2, h3, h4, h5⟩
    · exact absurd h2 h
    · have her' : er = strictL ∨ er = ignoreL := by
        rcases her with h | h | h
        · exact .inl h
        · exact .inr h
        · exact absurd h h0
      refine Ex.tryAs clause_ude rfl fcx_top rfl (P.none _ (by simp)) rfl (.inl rfl) ?_
      have hcut : cutL none (some (lastOf t 45)) t = base := by rw [h2, cutL_take (by (clear h3 h2 hlen2; lia)), h4]
      refine Ex.assign (Ev.callB (.cons (Ev.slice (Ev.name rfl) .none (.some (Ev.name rfl)) (slice_bytes (by (clear h2 hfl hlen2; lia)))) (.cons (Ev.cstr (l := asciiL) rfl) (.cons (Ev.name rfl) .nil))) (call_str_ascii (by rw [hcut]; exact h0) ?_ ?_ her') rfl rfl (P.none _ (by simp)) boot_str nofun) (.inl rfl) (Ex.nil ?_)
      · rw [hcut]; intro c hc; exact hl.ascii c (by rw [← h4] at hc; exact List.mem_of_mem_take hc)
      · rw [hcut]; (clear h3 h2 hfl hlen2; lia)
      rw [hcut]
      refine Ex.assign (Ev.meth0 (x := .bytes (cutL (some (lastOf t 45 + 1)) none t)) FC.meth_upper (Ev.slice (Ev.name rfl) (.some (Ev.binop (Ev.name rfl) Ev.cint bin_add_int)) .none (slice_bytes (by (clear h2 hfl hlen2; lia)))) (call_upper ?_) rfl) (.inl rfl) (Ex.nil ?_)
      · exact Nat.le_trans (cutL_length_le _ _ _) (by (clear h2 hfl hlen2; lia))
      · have hcut2 : cutL (some (lastOf t 45 + 1)) none t = t.drop (base.length + 1) := by
          have : lastOf t 45 + 1 = ((base.length + 1 : Nat) : Int) := by (clear hbl hfl hlen2; lia)
          rw [this, cutL_drop (by (clear this h2 hfl hlen2; lia))]
        rw [hcut2, h5]
        exact rest _ (Sto.sub_of ⟨rfl, rfl, rfl, rfl, rfl, trivial⟩)
theorem walk_puny_s (P : PunyG G) {t er base fs : List Nat} (hl : Label t base fs) (hlen : t.length ≤ 300000) (her : er = strictL ∨ er = ignoreL ∨ base = []) (hok : insOk fs base.length 128 0 72 0) :
    FSpec prog w G 4 "punycode_decode" [.str t, .str er] (pyR t.length fs er base) := by
  refine x4a1 (P.puny) fun a pm cd doc hf => ?_
  refine FSpec.of hf (body := bodyOf stPuny) (ps := ["text", "errors"]) rfl (.plain fun vals hv => ?_) (fun A L T s B fr => ?_)
  · refine x2a1 (len2 hv) fun a b e_0 => ?_; subst e_0; rfl
  refine Ex.ite (Te.value (Ev.isinstance (Ev.name rfl) isT_str_str rfl rfl rfl (P.none _ (by simp)) rfl (P.none _ (by simp))) (tru_bool _)) (fun _ => ?_) (fun h => by exact tf h)
  refine Ex.assign (Ev.meth (x := .str t) FC.meth_encode (Ev.name rfl) (.cons (Ev.cstr (l := [97, 115, 99, 105, 105]) rfl) .nil) (call_encode hl.ascii (by lia)) rfl) (.inl rfl) (Ex.nil ?_)
  refine Ex.ite (Te.value (Ev.isinstance (Ev.name rfl) isT_bytes_memv rfl rfl rfl (P.none _ (by simp)) rfl (P.none _ (by simp))) (tru_bool _)) (fun h => by exact ft h) (fun _ => Ex.nil ?_)
  exact puny_tail P hl hlen her hok (Sto.sub_of ⟨rfl, rfl, trivial⟩)
end
end Mine
namespace Mine
open PySem PySem.Calls PySem.W PyProof.Rows
variable [Lo]
section
variable {X : Cx} {σ σc : Sto} {Q : Post}
theorem CTurn.list {elt : Expr} {x : Str} {tp : Pos} {ifs : List Expr} {D : Addr} {v : AV} {l l' : List AV} {env : Env} (henv : env = X.env) (hk : storable X x) (hq : X.quiet = true) (hx : x ≠ ("__classdict__" : Str)) (hx' : Sto.get σc x = none)
    (ha : Sto.get σc "__classdict__" = none) (hsz : l.length ≤ 16777216)
    (h : ∃ b, TeL X ifs ((x, ⟨none, v⟩) :: (σc ++ accS D (.list l))) b ∧ (b = false → l' = l) ∧ (b = true → ∃ y, Ev X elt ((x, ⟨none, v⟩) :: (σc ++ accS D (.list l))) y ∧ l' = l ++ [y])) :
    CTurn X (.Name x tp) ifs (emitL elt D env) σc D v (.list l) (.list l') := by
  subst henv
  obtain ⟨b, h1, h2, h3⟩ := h
  have hacc : Sto.get ((x, ⟨none, v⟩) :: (σc ++ accS D (.list l))) "__classdict__" = some ⟨some D, .list l⟩ := by
    rw [Sto.get_cons, if_neg (Ne.symm hx), get_append, ha, Option.none_or, Sto.get_cons, if_pos rfl]
  have sub : ∀ a, Sto.Sub (σc ++ accS D a) (("__classdict__", ⟨some D, a⟩) :: (x, ⟨none, v⟩) :: (σc ++ accS D (.list l))) := fun a y d e => by
    rw [Sto.get_cons]
    by_cases q : y = ("__classdict__" : Str)
    · subst q
      rw [get_append, ha, Option.none_or, Sto.get_cons, if_pos rfl] at e
      rw [if_pos rfl]; exact e
    · rw [if_neg q, Sto.get_cons]
      rw [get_append, show Sto.get (accS D a) y = none by rw [Sto.get_cons, if_neg q]; rfl, Option.or_none] at e
      have hy : y ≠ x := fun q => by subst q; rw [hx'] at e; exact ns e
      rw [if_neg hy, get_append, e]; rfl
  refine ⟨_, Binds.name hk, b, h1, fun hb => ⟨by rw [h2 hb], fun y d e => ?_⟩, fun hb => ?_⟩
  · have hy : y ≠ x := fun q => by
      subst q
      rw [get_append, hx', Option.none_or, Sto.get_cons, if_neg hx] at e
      exact ns e
    show Sto.get ((x, ⟨none, v⟩) :: (σc ++ accS D (.list l))) y = some d
    rw [Sto.get_cons, if_neg hy]; exact e
  · obtain ⟨y, he, hl⟩ := h3 hb
    subst hl
    exact ⟨EmitOk.list he hacc hq hsz, sub _⟩
noncomputable abbrev cx (X : Cx) (scope : Scope) (C : Addr) (T : Tx) (s : Shared) (σ : Sto) : Cx := X.comp scope C T s (X.ban σ)
theorem EvN.listC {elt iter : Expr} {x : Str} {tp pos : Pos} {ifs : List Expr} {scope : Scope} {xs : List AV} (acc : Nat → List AV) (h0 : acc 0 = []) (h : EvI X iter (.Name x tp) σ xs) (so : ScopeOk X scope) (seen : SeenL X σ scope σc) (hq : X.quiet = true)
    (hsz : ∀ k, k ≤ xs.length → (acc k).length ≤ 16777216)
    (turn : ∀ C D T₁ s₁ k v, xs[k]? = some v → ∃ b, TeL (cx X scope C T₁ s₁ σ) ifs ((x, ⟨none, v⟩) :: (σc ++ accS D (.list (acc k)))) b ∧ (b = false → acc (k + 1) = acc k) ∧
      (b = true → ∃ y, Ev (cx X scope C T₁ s₁ σ) elt ((x, ⟨none, v⟩) :: (σc ++ accS D (.list (acc k)))) y ∧ acc (k + 1) = acc k ++ [y]))
    (hk : autoParam ((relabel scope X.env).names.lookup x = some .local) byRfl) (hx : autoParam (x ≠ ("__classdict__" : Str)) byDec) (hx' : autoParam (Sto.get σc x = none) byRfl) (ha : autoParam (Sto.get σc "__classdict__" = none) byRfl)
    (hs : autoParam (∀ x, foldedSetIterable iter X.env x = pure x) byI1) :
    EvN X (.ListComp elt [⟨.Name x tp, iter, ifs, 0⟩] scope pos) σ (.list (acc xs.length)) := by
  refine EvN.comp (vals := fun k => .list (acc k)) (cpos := iter.pos) (compShape_list elt (.Name x tp) iter ifs scope pos) (h0 ▸ newOk_list) rfl h.c so seen (fun C D T₁ s₁ k v hv => ?_) hs
  exact CTurn.list rfl (.inl hk) hq hx hx' ha (hsz k (Nat.le_of_lt (List.getElem?_eq_some_iff.mp hv).1)) (turn C D T₁ s₁ k v hv)
theorem Ex.assign_listC {y : Str} {py spos : Pos} {rest : List Stmt} {elt iter : Expr} {x : Str} {tp pos : Pos} {ifs : List Expr} {scope : Scope} {xs : List AV} (acc : Nat → List AV) (h0 : acc 0 = []) (h : EvI X iter (.Name x tp) σ xs) (so : ScopeOk X scope) (seen : SeenL X σ scope σc) (hq : X.quiet = true)
    (hsz : ∀ k, k ≤ xs.length → (acc k).length ≤ 16777216)
    (turn : ∀ C D T₁ s₁ k v, xs[k]? = some v → ∃ b, TeL (cx X scope C T₁ s₁ σ) ifs ((x, ⟨none, v⟩) :: (σc ++ accS D (.list (acc k)))) b ∧ (b = false → acc (k + 1) = acc k) ∧
      (b = true → ∃ y, Ev (cx X scope C T₁ s₁ σ) elt ((x, ⟨none, v⟩) :: (σc ++ accS D (.list (acc k)))) y ∧ acc (k + 1) = acc k ++ [y]))
    (hst : storable X y) (k : ∀ a, Ex X rest (σ.updO y a (.list (acc xs.length))) Q) (hsw : autoParam (swapsWith (.ListComp elt [⟨.Name x tp, iter, ifs, 0⟩] scope pos) (some (.Name y py)) spos.line X.env = pure true) byRfl)
    (hk : autoParam ((relabel scope X.env).names.lookup x = some .local) byRfl) (hx : autoParam (x ≠ ("__classdict__" : Str)) byDec) (hx' : autoParam (Sto.get σc x = none) byRfl) (ha : autoParam (Sto.get σc "__classdict__" = none) byRfl)
    (hs : autoParam (∀ x, foldedSetIterable iter X.env x = pure x) byI1) :
    Ex X (.Assign [.Name y py] (.ListComp elt [⟨.Name x tp, iter, ifs, 0⟩] scope pos) spos :: rest) σ Q := by
  refine Ex.assign_comp (vals := fun k => .list (acc k)) (cpos := iter.pos) (compShape_list elt (.Name x tp) iter ifs scope pos) (h0 ▸ newOk_list) (fun _ => rfl) hsw h.c so seen (fun C D T₁ s₁ k v hv => ?_) hst k hs
  exact CTurn.list rfl (.inl hk) hq hx hx' ha (hsz k (Nat.le_of_lt (List.getElem?_eq_some_iff.mp hv).1)) (turn C D T₁ s₁ k v hv)
theorem EvN.mapC {elt iter : Expr} {x : Str} {tp pos : Pos} {scope : Scope} {xs ys : List AV} (h : EvI X iter (.Name x tp) σ xs) (so : ScopeOk X scope) (seen : SeenL X σ scope σc) (hq : X.quiet = true) (hl : ys.length = xs.length) (hsz : xs.length ≤ 16777216)
    (turn : ∀ C D T₁ s₁ k v y, xs[k]? = some v → ys[k]? = some y → Ev (cx X scope C T₁ s₁ σ) elt ((x, ⟨none, v⟩) :: (σc ++ accS D (.list (ys.take k)))) y)
    (hk : autoParam ((relabel scope X.env).names.lookup x = some .local) byRfl) (hx : autoParam (x ≠ ("__classdict__" : Str)) byDec) (hx' : autoParam (Sto.get σc x = none) byRfl) (ha : autoParam (Sto.get σc "__classdict__" = none) byRfl)
    (hs : autoParam (∀ x, foldedSetIterable iter X.env x = pure x) byI1) :
    EvN X (.ListComp elt [⟨.Name x tp, iter, [], 0⟩] scope pos) σ (.list ys) := by
  have := EvN.listC (elt := elt) (pos := pos) (ifs := []) (fun k => ys.take k) rfl h so seen hq (fun k hk => by have := List.length_take_le k ys; (clear hl; lia)) (fun C D T₁ s₁ k v hv => ?_) hk hx hx' ha hs
  · rw [← hl] at this; simpa using this
  · obtain ⟨hlt, -⟩ := List.getElem?_eq_some_iff.mp hv
    have hy : ys[k]? = some (ys[k]'(by lia)) := List.getElem?_eq_getElem _
    exact ⟨true, .nil, nofun, fun _ => ⟨_, turn C D T₁ s₁ k v _ hv hy, by rw [List.take_succ, hy]; rfl⟩⟩
end
end Mine
namespace Mine
open PySem PySem.Calls PySem.W PyProof.Rows
variable [Lo]
omit [Lo] in
noncomputable abbrev stEsc := topOf 11
omit [Lo] in
noncomputable abbrev stUne := topOf 12
omit [Lo] in
structure DefD (G : Pg) (name : Str) (st : Stmt) : Prop where
  ex : ∃ a pm cd doc t ot n d od, G.fn name = some (a, fdOf st pm cd doc (.ref t) .none) ∧ (t, ot) ∈ G.more ∧ ot.data = .seq #[.ref d] n ∧ (d, od) ∈ G.more ∧ od.cls = .type "dict" ∧ od.dict = none ∧ od.slots = {} ∧ od.data = .dict #[]
omit [Lo] in
structure SaxG (G : Pg) : Prop where
  drs : FnIs G "dict_replace_saxutils" stDrs
  esc : DefD G "escape" stEsc
  une : DefD G "unescape" stUne
omit [Lo] in
noncomputable abbrev sdv (D : List (List Nat × List Nat)) : List (List Nat × AV) := D.map fun p => (p.1, .str p.2)
omit [Lo] in
noncomputable def replAll : List (List Nat × List Nat) → List Nat → List Nat
  | [], s => s
  | p :: D, s => replAll D (repl s p.1 p.2)
omit [Lo] in
noncomputable def Fit1 (s y z : List Nat) : Prop := y ≠ z ∧ s.length + (s.length + 1) * z.length ≤ 16777216
omit [Lo] in
noncomputable def replFit : List (List Nat × List Nat) → List Nat → Prop
  | [], _ => True
  | p :: D, s => Fit1 s p.1 p.2 ∧ replFit D (repl s p.1 p.2)
section
variable {prog : Program} {w : World} {G : Pg}
omit [Lo] in
noncomputable def ampL : List Nat := [38, 97, 109, 112, 59]
omit [Lo] in
noncomputable def ltL : List Nat := [38, 108, 116, 59]
omit [Lo] in
noncomputable def gtL : List Nat := [38, 103, 116, 59]
omit [Lo] in
noncomputable def uneSeq (D : List (List Nat × List Nat)) : List (List Nat × List Nat) := (ltL, [60]) :: (gtL, [62]) :: D ++ [(ampL, [38])]
omit [Lo] in
noncomputable def escSeq (D : List (List Nat × List Nat)) : List (List Nat × List Nat) := ([38], ampL) :: ([62], gtL) :: ([60], ltL) :: D
end
end Mine
namespace Mine
open PySem PySem.Calls PySem.W PyProof.Rows
variable [Lo]
omit [Lo] in
structure DefE (G : Pg) (name : Str) (st : Stmt) : Prop where
  ex : ∃ a pm cd doc t ot n d od, G.fn name = some (a, fdOf st pm cd doc (.ref t) .none) ∧ (t, ot) ∈ G.more ∧ ot.data = .seq #[.ref d] n ∧ (d, od) ∈ G.more ∧ od.cls = .type "dict" ∧ od.dict = none ∧ od.slots = #[] ∧ od.data = .dict #[] ∧ 4 ≤ d
omit [Lo] in
structure SaxE (G : Pg) : Prop where
  esc : DefE G "escape" stEsc
  une : DefE G "unescape" stUne
section
variable {prog : Program} {w : World} {G : Pg}
theorem bind1 {st : Stmt} {pm cd doc : Value} {t d : Addr} {ot od : Obj} {n : Nat} (ht : (t, ot) ∈ G.more) (hd : ot.data = .seq #[.ref d] n) (hod : (d, od) ∈ G.more) (c1 : od.cls = .type "dict") (c2 : od.dict = none) (c3 : od.slots = #[]) (c4 : od.data = .dict #[]) (h4 : 4 ≤ d)
    {k : Value → Option (Array Value) → Sem (List (Str × Value))} (h1 : ∀ a, bindArgs (fdOf st pm cd doc (.ref t) .none) ⟨[a], []⟩ = seqItems? (fdOf st pm cd doc (.ref t) .none).defaults >>= k a)
    (h2 : ∀ a, k a (some #[.ref d]) = pure [(("data" : Str), a), (("entities" : Str), .ref d)]) (h0 : (fdOf st pm cd doc (.ref t) .none).defaults = .ref t) :
    BindOk G prog w (fdOf st pm cd doc (.ref t) .none) ["data", "entities"] 1 [.dict []] := fun A E s vals hG hl => by
  obtain ⟨a, rfl⟩ := len1 hl
  · skip
    obtain ⟨-, sl, ho⟩ := hG.more _ ht
    obtain ⟨hlt, sl', ho'⟩ := hG.more _ hod
    rw [h1, h0]
    refine wpAny_bind (wpAny_seqItems ho hd ?_)
    rw [h2]
    refine wpAny_pure ⟨rfl, [.ref d], by simp, fun B T n hB => .cons (.dict (fun q => Nat.lt_irrefl _ (Nat.lt_of_lt_of_le hlt (hB _ q))) (isDictAt_new (?_ : s.heap.get? d = _) h4) rfl (fun i e x hi => by simp at hi) (fun i e x hi => by simp at hi)) .nil⟩
    rw [ho']
    obtain ⟨c, dd, dt, ss⟩ := od
    dsimp only at c1 c2 c3 c4
    subst c1 c2 c3 c4
    dsimp only
    rw [keepS_ne (by decide)]
theorem walk_une1 (P : SaxE G) {s₀ : List Nat} (hf : replFit (uneSeq []) s₀) : FSpec prog w G 1 "unescape" [.str s₀] (.ok (.str (replAll (uneSeq []) s₀))) := by
  obtain ⟨a, pm, cd, doc, t, ot, n, d, od, hfn, ht, htd, hod, c1, c2, c3, c4, h4⟩ := P.une.ex
  refine FSpec.of hfn (body := bodyOf stUne) (ps := ["data", "entities"]) rfl (dflt := [.dict []]) (bind1 ht htd hod c1 c2 c3 c4 h4 (fun a => rfl) (fun a => rfl) rfl) (fun A L T s B fr => ?_)
  refine x0a4 hf fun t_0 t_1 t_2 e_3 => ?_; (try clear hf); refine x0a2 t_0 fun f1 f1' => ?_; (try clear t_0); refine x0a2 t_1 fun f2 f2' => ?_; (try clear t_1); refine x0a2 t_2 fun f3 f3' => ?_; (try clear t_2); clear e_3
  refine Ex.assign (Ev.meth (x := .str s₀) FC.meth_replace (Ev.name rfl) (.cons (Ev.cstr (l := ltL) rfl) (.cons (Ev.cstr (l := [60]) rfl) .nil)) (call_replace f1 f1') rfl) (.inl rfl) ?_
  refine Ex.assign (Ev.meth (x := .str _) FC.meth_replace (Ev.name rfl) (.cons (Ev.cstr (l := gtL) rfl) (.cons (Ev.cstr (l := [62]) rfl) .nil)) (call_replace f2 f2') rfl) (.inl rfl) ?_
  refine Ex.ite (Te.value (Ev.name rfl) (tru_dict (by simp))) (fun h => by exact ft h) (fun h => Ex.nil ?_)
  exact Ex.ret (Ev.meth (x := .str _) FC.meth_replace (Ev.name rfl) (.cons (Ev.cstr (l := ampL) rfl) (.cons (Ev.cstr (l := [38]) rfl) .nil)) (call_replace f3 f3') rfl) rfl
theorem walk_esc1 (P : SaxE G) {s₀ : List Nat} (hf : replFit (escSeq []) s₀) : FSpec prog w G 1 "escape" [.str s₀] (.ok (.str (replAll (escSeq []) s₀))) := by
  obtain ⟨a, pm, cd, doc, t, ot, n, d, od, hfn, ht, htd, hod, c1, c2, c3, c4, h4⟩ := P.esc.ex
  refine FSpec.of hfn (body := bodyOf stEsc) (ps := ["data", "entities"]) rfl (dflt := [.dict []]) (bind1 ht htd hod c1 c2 c3 c4 h4 (fun a => rfl) (fun a => rfl) rfl) (fun A L T s B fr => ?_)
  refine x0a4 hf fun t_0 t_1 t_2 e_3 => ?_; (try clear hf); refine x0a2 t_0 fun f1 f1' => ?_; (try clear t_0); refine x0a2 t_1 fun f2 f2' => ?_; (try clear t_1); refine x0a2 t_2 fun f3 f3' => ?_; (try clear t_2); clear e_3
  refine Ex.assign (Ev.meth (x := .str s₀) FC.meth_replace (Ev.name rfl) (.cons (Ev.cstr (l := [38]) rfl) (.cons (Ev.cstr (l := ampL) rfl) .nil)) (call_replace f1 f1') rfl) (.inl rfl) ?_
  refine Ex.assign (Ev.meth (x := .str _) FC.meth_replace (Ev.name rfl) (.cons (Ev.cstr (l := [62]) rfl) (.cons (Ev.cstr (l := gtL) rfl) .nil)) (call_replace f2 f2') rfl) (.inl rfl) ?_
  refine Ex.assign (Ev.meth (x := .str _) FC.meth_replace (Ev.name rfl) (.cons (Ev.cstr (l := [60]) rfl) (.cons (Ev.cstr (l := ltL) rfl) .nil)) (call_replace f3 f3') rfl) (.inl rfl) ?_
  refine Ex.ite (Te.value (Ev.name rfl) (tru_dict (by simp))) (fun h => by exact ft h) (fun h => Ex.nil ?_)
  exact Ex.ret (Ev.name rfl) rfl
end
end Mine
namespace Mine
open PySem PySem.Calls PySem.W PyProof.Rows
variable [Lo]
omit [Lo] in
noncomputable abbrev stLDraw := topOf 14
omit [Lo] in
noncomputable abbrev stLCells := topOf 15
omit [Lo] in
noncomputable abbrev stLLay := topOf 16
omit [Lo] in
noncomputable abbrev stLFold := topOf 17
omit [Lo] in
noncomputable abbrev stLFewer := topOf 18
omit [Lo] in
noncomputable abbrev stLCut := topOf 19
omit [Lo] in
noncomputable abbrev stLaw := topOf 20
omit [Lo] in
structure ModG (G : Pg) : Prop where
  puny : PunyG G
  sax : SaxE G
  draw : FnIs G "_law_draw" stLDraw
  cells : FnIs G "_law_cells" stLCells
  lay : FnIs G "_law_lay" stLLay
  fold : FnIs G "_law_fold" stLFold
  fewer : FnIs G "_law_fewer" stLFewer
  cut : FnIs G "_law_cut" stLCut
  law : FnIs G "law" stLaw
  none : ∀ x : Str, x = "ord" ∨ x = "len" ∨ x = "chr" ∨ x = "sum" ∨ x = "list" ∨ x = "isinstance" ∨ x = "bytes" ∨ x = "enumerate" ∨ x = "zip" → G.mg x = none
omit [Lo] in
noncomputable def ones (l : List Nat) : List (List Nat) := l.map fun c => [c]
omit [Lo] in
theorem ones_strs (l : List Nat) : (l.map fun n => AV.str [n]) = AV.strs (ones l) := by unfold AV.strs ones; rw [List.map_map]; rfl
omit [Lo] in
theorem ones_flat (l : List Nat) : (ones l).flatten = l := by
  induction l with
  | nil => rfl
  | cons c l ih => show [c] ++ (ones l).flatten = _; rw [ih]; rfl
omit [Lo] in
theorem strs_len (l : List (List Nat)) : (AV.strs l).length = l.length := by unfold AV.strs; simp
omit [Lo] in
theorem ones_len (l : List Nat) : (ones l).length = l.length := by unfold ones; simp
omit [Lo] in
theorem nats_len (l : List Nat) : (AV.nats l).length = l.length := by unfold AV.nats; simp
omit [Lo] in
theorem ints_len (l : List Int) : (AV.ints l).length = l.length := by unfold AV.ints; simp
omit [Lo] in
theorem cutL_nat {α : Type} {l : List α} {i : Nat} : cutL none (some (i : Int)) l = l.take i := by
  by_cases h : i ≤ l.length
  · exact cutL_take h
  · have : clipAt l.length (i : Int) = l.length := clipAt_big (Nat.le_of_lt (Nat.not_le.mp h))
    unfold cutL
    simp only [Option.elim_none, Option.elim_some, this, List.drop_zero, Nat.sub_zero]
    rw [List.take_of_length_le (Nat.le_refl _), List.take_of_length_le (by omega)]
omit [Lo] in
noncomputable def sgL : List Nat := [38, 60, 62, 59, 108, 116, 45, 97, 109, 112]
omit [Lo] in
noncomputable def signs0 : Nat → List Nat
  | 0 => [60, 38]
  | 1 => [38]
  | _ => []
omit [Lo] in
noncomputable def nums0 : Nat → List Nat
  | 0 => [12, 35]
  | 1 => [7]
  | _ => []
omit [Lo] in
noncomputable def drS (st : List Nat × List Nat) (n : Int) : List Nat × List Nat :=
  if n % 3 = 0 then (st.1 ++ [sgL.getD (n / 3 % 10).toNat 0], st.2)
  else if n % 3 = 1 then (st.1, st.2 ++ [(n / 3 % 30).toNat])
  else (st.1, st.2 ++ [(n / 3 % 5000).toNat])
omit [Lo] in
noncomputable def dr2 (ns : List Int) : List Nat × List Nat := (ns.take 8).foldl drS (signs0 (ns.length % 3), nums0 (ns.length % 3))
omit [Lo] in
structure DrOk (k : Nat) (st : List Nat × List Nat) : Prop where
  sg : st.1.length ≤ 2 + k
  nm : st.2.length ≤ 2 + k
  sgs : ∀ c ∈ st.1, c ∈ sgL
  nms : ∀ n ∈ st.2, n < 5000
omit [Lo] in
theorem sgL_mem {i : Nat} (h : i < 10) : sgL.getD i 0 ∈ sgL := by
  have : ∀ i : Fin 10, sgL.getD i.1 0 ∈ sgL := by decide
  exact this ⟨i, h⟩
omit [Lo] in
theorem drS_ok {k : Nat} {st : List Nat × List Nat} (h : DrOk k st) (n : Int) : DrOk (k + 1) (drS st n) := by
  obtain ⟨h1, h2, h3, h4⟩ := h
  unfold drS
  split
  · refine ⟨by simp; lia, by dsimp only; lia, fun c hc => ?_, h4⟩
    rcases List.mem_append.mp hc with hc | hc
    · exact h3 c hc
    · rw [List.mem_singleton.mp hc]; exact sgL_mem (by (clear h2 h1; lia))
  · split
    · refine ⟨by dsimp only; lia, by simp; lia, h3, fun c hc => ?_⟩
      rcases List.mem_append.mp hc with hc | hc
      · exact h4 c hc
      · rw [List.mem_singleton.mp hc]; (clear h2 h1; lia)
    · refine ⟨by dsimp only; lia, by simp; lia, h3, fun c hc => ?_⟩
      rcases List.mem_append.mp hc with hc | hc
      · exact h4 c hc
      · rw [List.mem_singleton.mp hc]; (clear h2 h1; lia)
omit [Lo] in
theorem dr0_ok (m : Nat) : DrOk 0 (signs0 (m % 3), nums0 (m % 3)) := by
  have : ∀ r : Fin 3, (signs0 r.1).length ≤ 2 ∧ (nums0 r.1).length ≤ 2 ∧ (∀ c ∈ signs0 r.1, c ∈ sgL) ∧ (∀ n ∈ nums0 r.1, n < 5000) := by decide
  have h := this ⟨m % 3, Nat.mod_lt _ (by decide)⟩
  exact ⟨h.1, h.2.1, h.2.2.1, h.2.2.2⟩
omit [Lo] in
theorem foldl_ok : ∀ (l : List Int) (k : Nat) (st : List Nat × List Nat), DrOk k st → DrOk (k + l.length) (l.foldl drS st)
  | [], k, st, h => h
  | n :: l, k, st, h => by
    have := foldl_ok l (k + 1) (drS st n) (drS_ok h n)
    rw [List.foldl_cons, List.length_cons, show k + (l.length + 1) = k + 1 + l.length by lia]
    exact this
omit [Lo] in
theorem dr2_ok (ns : List Int) : DrOk 8 (dr2 ns) := by
  obtain ⟨a, b, c, d⟩ := foldl_ok (ns.take 8) 0 _ (dr0_ok ns.length)
  rw [List.length_take] at a b
  exact ⟨by unfold dr2; lia, by unfold dr2; lia, c, d⟩
section
variable {prog : Program} {w : World} {G : Pg}
set_option maxHeartbeats 400000
set_option maxRecDepth 8000
theorem walk_draw (P : ModG G) {ns : List Int} (hl : ns.length ≤ 63) :
    FSpec prog w G 1 "_law_draw" [.list (AV.ints ns)] (.ok (.tup [.list (AV.strs (ones (dr2 ns).1)), .list (AV.nats (dr2 ns).2)])) := by
  refine x4a1 (P.draw) fun a pm cd doc hf => ?_
  refine FSpec.of hf (body := bodyOf stLDraw) (ps := ["script"]) rfl (.plain fun vals hv => ?_) (fun A L T s B fr => ?_)
  · refine x1a1 (len1 hv) fun a e_0 => ?_; subst e_0; rfl
  have hil : (AV.ints ns).length = ns.length := ints_len ns
  have e3 : ((ns.length : Int) % 3).toNat = ns.length % 3 := by (clear hil; lia)
  refine @Ex.assign_own _ _ _ _ _ _ _ _ _ (.list (AV.strs (ones (signs0 (ns.length % 3))))) ?h1 (.inl rfl) (fun bs => ?_) rfl
  case h1 =>
    refine @EvN.pick _ _ _ _ _ _ _ [.list [.str [60], .str [38]], .list [.str [38]], .list []] ((ns.length : Int) % 3) _ ?_ ?_ (by (clear e3 hil; lia)) ?_ (by simp) ?_
    · exact (@EvLN.cons _ _ _ _ _ _ _ (@EvN.list _ _ _ _ _ _ (@EvL.cons _ _ _ _ _ _ _ (Ev.cstr (l := [60]) rfl) (@EvL.cons _ _ _ _ _ _ _ (Ev.cstr (l := [38]) rfl) .nil rfl) rfl) (Nat.le_of_ble_eq_true rfl)) (@EvLN.cons _ _ _ _ _ _ _ (@EvN.list _ _ _ _ _ _ (@EvL.cons _ _ _ _ _ _ _ (Ev.cstr (l := [38]) rfl) .nil rfl) (Nat.le_of_ble_eq_true rfl)) (@EvLN.cons _ _ _ _ _ _ _ (@EvN.list _ _ _ _ _ _ .nil (Nat.le_of_ble_eq_true rfl)) .nil rfl) rfl) rfl)
    · rw [← hil]
      exact Ev.binop (Ev.callB (.cons (Ev.name rfl) .nil) (call_len_list' (by (clear e3; lia))) rfl rfl (P.none _ (by simp)) boot_len nofun) Ev.cint (bin_mod_int (by decide))
    · have h3 : ∀ r : Fin 3, ([.list [.str [60], .str [38]], .list [.str [38]], .list []] : List AV)[r.1]? = some (.list (AV.strs (ones (signs0 r.1)))) := fun r => by
        match r with
        | ⟨0, _⟩ => rfl
        | ⟨1, _⟩ => rfl
        | ⟨2, _⟩ => rfl
      have := h3 ⟨ns.length % 3, Nat.mod_lt _ (by decide)⟩
      rw [e3]; exact this
    · intro _ _; rfl
  refine @Ex.assign_own _ _ _ _ _ _ _ _ _ (.list (AV.nats (nums0 (ns.length % 3)))) ?h2 (.inl rfl) (fun bn => ?_) rfl
  case h2 =>
    refine @EvN.pick _ _ _ _ _ _ _ [.list [.int 12, .int 35], .list [.int 7], .list []] ((ns.length : Int) % 3) _ ?_ ?_ (by (clear e3 hil; lia)) ?_ (by simp) ?_
    · exact (@EvLN.cons _ _ _ _ _ _ _ (@EvN.list _ _ _ _ _ _ (@EvL.cons _ _ _ _ _ _ _ Ev.cint (@EvL.cons _ _ _ _ _ _ _ Ev.cint .nil rfl) rfl) (Nat.le_of_ble_eq_true rfl)) (@EvLN.cons _ _ _ _ _ _ _ (@EvN.list _ _ _ _ _ _ (@EvL.cons _ _ _ _ _ _ _ Ev.cint .nil rfl) (Nat.le_of_ble_eq_true rfl)) (@EvLN.cons _ _ _ _ _ _ _ (@EvN.list _ _ _ _ _ _ .nil (Nat.le_of_ble_eq_true rfl)) .nil rfl) rfl) rfl)
    · rw [← hil]
      exact Ev.binop (Ev.callB (.cons (Ev.name rfl) .nil) (call_len_list' (by (clear e3; lia))) rfl rfl (P.none _ (by simp)) boot_len nofun) Ev.cint (bin_mod_int (by decide))
    · have h3 : ∀ r : Fin 3, ([.list [.int 12, .int 35], .list [.int 7], .list []] : List AV)[r.1]? = some (.list (AV.nats (nums0 r.1))) := fun r => by
        match r with
        | ⟨0, _⟩ => rfl
        | ⟨1, _⟩ => rfl
        | ⟨2, _⟩ => rfl
      have := h3 ⟨ns.length % 3, Nat.mod_lt _ (by decide)⟩
      rw [e3]; exact this
    · intro _ _; rfl
  have h00 := dr0_ok ns.length
  refine Ex.forN fcx_top (EvI.list (Ev.slice (Ev.name rfl) .none (.some Ev.cint) (slice_list (by rw [hil]; (clear e3 hil; lia)))) rfl) (.inl rfl) (P := List Nat × List Nat) (fun st => [("signs", ⟨some bs, .list (AV.strs (ones st.1))⟩), ("numbers", ⟨some bn, .list (AV.nats st.2)⟩)])
    (fun k st => st = ((ns.take 8).take k).foldl drS (signs0 (ns.length % 3), nums0 (ns.length % 3)) ∧ DrOk k st) (fun k v st hv hi => ?_) (fun st hi => ?_) (signs0 (ns.length % 3), nums0 (ns.length % 3)) ⟨rfl, h00⟩ ⟨rfl, rfl, trivial⟩
  · refine x0a2 hi fun hst hinv => ?_; (try clear hi)
    have hcut : cutL none (some (8 : Int)) (AV.ints ns) = (ns.take 8).map .int := by
      have := cutL_nat (l := AV.ints ns) (i := 8)
      rw [show ((8 : Nat) : Int) = 8 from rfl] at this
      rw [this]; unfold AV.ints; rw [List.map_take]
    rw [hcut, List.getElem?_map] at hv
    refine x1a2 (Option.map_eq_some_iff.mp hv) fun n hn e_0 => ?_; subst e_0
    have hk8 : k < 8 := by
      have := (List.getElem?_eq_some_iff.mp hn).1
      rw [List.length_take] at this; (clear e3 hil hl; lia)
    have hstep : ((ns.take 8).take (k + 1)).foldl drS (signs0 (ns.length % 3), nums0 (ns.length % 3)) = drS st n := by
      rw [List.take_add_one, hn, hst]; simp [List.foldl_append]
    have hnext := drS_ok hinv n
    obtain ⟨h1, h2, h3, h4⟩ := hinv
    obtain ⟨sg, nm⟩ := st
    dsimp only at h1 h2 h3 h4 ⊢
    have fin : ∀ σ, Sto.Sub [("signs", ⟨some bs, .list (AV.strs (ones (drS (sg, nm) n).1))⟩), ("numbers", ⟨some bn, .list (AV.nats (drS (sg, nm) n).2)⟩)] σ →
        ∃ p', Sto.Sub [("signs", ⟨some bs, .list (AV.strs (ones p'.1))⟩), ("numbers", ⟨some bn, .list (AV.nats p'.2)⟩)] σ ∧ p' = ((ns.take 8).take (k + 1)).foldl drS (signs0 (ns.length % 3), nums0 (ns.length % 3)) ∧ DrOk (k + 1) p' := fun σ hs => ⟨_, hs, hstep.symm, hnext⟩
    unfold drS at fin
    dsimp only at fin
    refine Ex.assignS (xs := ["way", "rest"]) (Ev.tuple (.cons (Ev.binop (Ev.name rfl) Ev.cint (bin_mod_int (by decide))) (.cons (Ev.binop (Ev.name rfl) Ev.cint (bin_div_int (by decide) (by decide))) .nil)) (Nat.le_of_ble_eq_true rfl)) (.cons (.inl rfl) (.cons (.inl rfl) .nil)) rfl ?_
    generalize hq : n / 3 = q at fin ⊢
    refine Ex.ite (Te.cmp (Ev.name rfl) Ev.cint cmp_eq_int) (fun h => ?_) (fun h => ?_)
    · have h : n % 3 = 0 := by simpa using h
      rw [if_pos h] at fin
      have hsl : sgL.length = 10 := by decide
      refine Ex.mut (x := "signs") (av := .list (AV.strs (ones sg))) rfl meth_append (.cons (Ev.index (Ev.cstr (l := sgL) rfl) (Ev.binop (Ev.name rfl) Ev.cint (bin_mod_int (by decide))) (get_str (by (clear hsl h hq h2 h1 hk8 e3 hil hl; lia)) (by (clear h hq h2 h1 hk8 e3 hil hl; lia)) (by (clear h hq h2 h1 e3 hil hl; lia)))) .nil) (mut_append (by rw [strs_len, ones_len]; (clear h hq h2 e3 hil hl; lia))) rfl (Ex.nil ?_)
      have e : AV.strs (ones sg) ++ [.str [sgL.getD (q % 10).toNat 0]] = AV.strs (ones (sg ++ [sgL.getD (q % 10).toNat 0])) := by unfold AV.strs ones; simp
      rw [e]
      exact Ex.nil (fin _ (Sto.sub_of ⟨rfl, rfl, trivial⟩))
    have h : ¬ n % 3 = 0 := by simpa using h
    rw [if_neg h] at fin
    refine Ex.ite (Te.cmp (Ev.name rfl) Ev.cint cmp_eq_int) (fun h => ?_) (fun h => ?_)
    · have h : n % 3 = 1 := by simpa using h
      rw [if_pos h] at fin
      refine Ex.mut (x := "numbers") (av := .list (AV.nats nm)) rfl meth_append (.cons (Ev.binop (Ev.name rfl) Ev.cint (bin_mod_int (by decide))) .nil) (mut_append (by rw [nats_len]; (clear h hq e3 hil hl; lia))) rfl (Ex.nil ?_)
      have e : AV.nats nm ++ [.int (q % 30)] = AV.nats (nm ++ [(q % 30).toNat]) := by
        have : ((q % 30).toNat : Int) = q % 30 := by (clear h hq h2 h1 hk8 e3 hil hl; lia)
        unfold AV.nats; simp [this]
      rw [e]
      exact Ex.nil (Ex.nil (fin _ (Sto.sub_of ⟨rfl, rfl, trivial⟩)))
    have h : ¬ n % 3 = 1 := by simpa using h
    rw [if_neg h] at fin
    refine Ex.mut (x := "numbers") (av := .list (AV.nats nm)) rfl meth_append (.cons (Ev.binop (Ev.name rfl) Ev.cint (bin_mod_int (by decide))) .nil) (mut_append (by rw [nats_len]; (clear hq e3 hil hl; lia))) rfl (Ex.nil ?_)
    have e : AV.nats nm ++ [.int (q % 5000)] = AV.nats (nm ++ [(q % 5000).toNat]) := by
      have : ((q % 5000).toNat : Int) = q % 5000 := by (clear hq h2 h1 hk8 e3 hil hl; lia)
      unfold AV.nats; simp [this]
    rw [e]
    exact Ex.nil (Ex.nil (fin _ (Sto.sub_of ⟨rfl, rfl, trivial⟩)))
  · refine x0a2 hi fun hst hinv => ?_; (try clear hi)
    refine Ex.nil (ExT.freeze (x := "signs") rfl (ExT.freeze (x := "numbers") rfl (Ex.ret (Ev.tuple (.cons (Ev.name rfl) (.cons (Ev.name rfl) .nil)) (Nat.le_of_ble_eq_true rfl)) ?_)))
    have hcut : (cutL none (some (8 : Int)) (AV.ints ns)).length = (ns.take 8).length := by
      have := cutL_nat (l := AV.ints ns) (i := 8)
      rw [show ((8 : Nat) : Int) = 8 from rfl] at this
      rw [this, List.length_take, List.length_take, hil]
    rw [hcut, List.take_length] at hst
    subst hst
    rfl
end
end Mine
namespace Mine
open PySem PySem.Calls PySem.W PyProof.Rows
variable [Lo]
theorem get_updL {y : Str} : ∀ {xs : List Str} {vs : List AV} {σ : Sto}, y ∉ xs → (σ.updL xs vs).get y = σ.get y
  | [], _, _, _ => by simp [Sto.updL]
  | _ :: _, [], _, _ => by simp [Sto.updL]
  | x :: xs, v :: vs, σ, h => by
    rw [Sto.updL, get_updL (fun q => h (List.mem_cons_of_mem _ q)), Sto.get_cons, if_neg (fun q => h (by rw [q]; exact List.mem_cons_self))]
section
variable {X : Cx} {σ σc : Sto} {Q : Post}
theorem CTurn.listT {elt : Expr} {es : List Expr} {xs : List Str} {kx : Nat} {tp : Pos} {ifs : List Expr} {D : Addr} {vs : List AV} {l l' : List AV} {env : Env} (henv : env = X.env) (hn : NamesT X es xs) (hq : X.quiet = true) (hl : xs.length = vs.length)
    (hx : ∀ x ∈ xs, x ≠ ("__classdict__" : Str) ∧ Sto.get σc x = none) (ha : Sto.get σc "__classdict__" = none) (hsz : l.length ≤ 16777216)
    (h : ∃ b, TeL X ifs ((σc ++ accS D (.list l)).updL xs vs) b ∧ (b = false → l' = l) ∧ (b = true → ∃ y, Ev X elt ((σc ++ accS D (.list l)).updL xs vs) y ∧ l' = l ++ [y])) :
    CTurn X (.Tuple es kx tp) ifs (emitL elt D env) σc D (.tup vs) (.list l) (.list l') := by
  subst henv
  obtain ⟨b, h1, h2, h3⟩ := h
  have hcd : ("__classdict__" : Str) ∉ xs := fun q => (hx _ q).1 rfl
  have hacc : Sto.get ((σc ++ accS D (.list l)).updL xs vs) "__classdict__" = some ⟨some D, .list l⟩ := by
    rw [get_updL hcd, get_append, ha, Option.none_or, Sto.get_cons, if_pos rfl]
  have notin : ∀ a y d, Sto.get (σc ++ accS D a) y = some d → y ∉ xs := fun a y d e q => by
    have := hx y q
    rw [get_append, this.2, Option.none_or, Sto.get_cons, if_neg this.1] at e
    exact ns e
  have sub : ∀ a, Sto.Sub (σc ++ accS D a) (("__classdict__", ⟨some D, a⟩) :: (σc ++ accS D (.list l)).updL xs vs) := fun a y d e => by
    rw [Sto.get_cons]
    by_cases q : y = ("__classdict__" : Str)
    · subst q
      rw [get_append, ha, Option.none_or, Sto.get_cons, if_pos rfl] at e
      rw [if_pos rfl]; exact e
    · rw [if_neg q, get_updL (notin a y d e)]
      rw [get_append, show Sto.get (accS D a) y = none by rw [Sto.get_cons, if_neg q]; rfl, Option.or_none] at e
      rw [get_append, e]; rfl
  refine ⟨_, Binds.tuple hn hq hl, b, h1, fun hb => ⟨by rw [h2 hb], fun y d e => ?_⟩, fun hb => ?_⟩
  · rw [get_updL (notin _ y d e)]; exact e
  · obtain ⟨y, he, hl⟩ := h3 hb
    subst hl
    exact ⟨EmitOk.list he hacc hq hsz, sub _⟩
theorem EvN.listCT {elt iter : Expr} {es : List Expr} {ns : List Str} {kx : Nat} {tp pos : Pos} {ifs : List Expr} {scope : Scope} {xs : List AV} (acc : Nat → List AV) (h0 : acc 0 = []) (h : EvI X iter (.Tuple es kx tp) σ xs) (so : ScopeOk X scope) (seen : SeenL X σ scope σc) (hq : X.quiet = true)
    (hn : ∀ C T₁ s₁, NamesT (cx X scope C T₁ s₁ σ) es ns) (hx : ∀ x ∈ ns, x ≠ ("__classdict__" : Str) ∧ Sto.get σc x = none)
    (hsz : ∀ k, k ≤ xs.length → (acc k).length ≤ 16777216)
    (turn : ∀ C D T₁ s₁ k v, xs[k]? = some v → ∃ vs, v = .tup vs ∧ ns.length = vs.length ∧ ∃ b, TeL (cx X scope C T₁ s₁ σ) ifs ((σc ++ accS D (.list (acc k))).updL ns vs) b ∧ (b = false → acc (k + 1) = acc k) ∧
      (b = true → ∃ y, Ev (cx X scope C T₁ s₁ σ) elt ((σc ++ accS D (.list (acc k))).updL ns vs) y ∧ acc (k + 1) = acc k ++ [y]))
    (ha : autoParam (Sto.get σc "__classdict__" = none) byRfl) (hs : autoParam (∀ x, foldedSetIterable iter X.env x = pure x) byI1) :
    EvN X (.ListComp elt [⟨.Tuple es kx tp, iter, ifs, 0⟩] scope pos) σ (.list (acc xs.length)) := by
  refine EvN.comp (vals := fun k => .list (acc k)) (cpos := iter.pos) (compShape_list elt (.Tuple es kx tp) iter ifs scope pos) (h0 ▸ newOk_list) rfl h.c so seen (fun C D T₁ s₁ k v hv => ?_) hs
  obtain ⟨vs, rfl, hl, t⟩ := turn C D T₁ s₁ k v hv
  exact CTurn.listT rfl (hn C T₁ s₁) hq hl hx ha (hsz k (Nat.le_of_lt (List.getElem?_eq_some_iff.mp hv).1)) t
theorem EvN.mapCT {elt iter : Expr} {es : List Expr} {ns : List Str} {kx : Nat} {tp pos : Pos} {scope : Scope} {xs ys : List AV} (h : EvI X iter (.Tuple es kx tp) σ xs) (so : ScopeOk X scope) (seen : SeenL X σ scope σc) (hq : X.quiet = true)
    (hn : ∀ C T₁ s₁, NamesT (cx X scope C T₁ s₁ σ) es ns) (hx : ∀ x ∈ ns, x ≠ ("__classdict__" : Str) ∧ Sto.get σc x = none) (hl : ys.length = xs.length) (hsz : xs.length ≤ 16777216)
    (turn : ∀ C D T₁ s₁ k v y, xs[k]? = some v → ys[k]? = some y → ∃ vs, v = .tup vs ∧ ns.length = vs.length ∧ Ev (cx X scope C T₁ s₁ σ) elt ((σc ++ accS D (.list (ys.take k))).updL ns vs) y)
    (ha : autoParam (Sto.get σc "__classdict__" = none) byRfl) (hs : autoParam (∀ x, foldedSetIterable iter X.env x = pure x) byI1) :
    EvN X (.ListComp elt [⟨.Tuple es kx tp, iter, [], 0⟩] scope pos) σ (.list ys) := by
  have := EvN.listCT (elt := elt) (pos := pos) (ifs := []) (fun k => ys.take k) rfl h so seen hq hn hx (fun k hk => by have := List.length_take_le k ys; (clear hl; lia)) (fun C D T₁ s₁ k v hv => ?_) ha hs
  · rw [← hl] at this; simpa using this
  · obtain ⟨hlt, -⟩ := List.getElem?_eq_some_iff.mp hv
    have hy : ys[k]? = some (ys[k]'(by lia)) := List.getElem?_eq_getElem _
    obtain ⟨vs, e1, e2, e3⟩ := turn C D T₁ s₁ k v _ hv hy
    exact ⟨vs, e1, e2, true, .nil, nofun, fun _ => ⟨_, e3, by rw [List.take_add_one, hy]; rfl⟩⟩
end
end Mine
namespace Mine
open PySem PySem.Builtin PySem.Builtin.Str PySem.StrLaws
variable [Lo]
omit [Lo] in
noncomputable def rgo (y z : List Nat) : Nat → List Nat → List Nat
  | _, [] => []
  | k + 1, _ :: l => rgo y z k l
  | 0, c :: l => if (c :: l).take y.length = y then z ++ rgo y z (y.length - 1) l else c :: rgo y z 0 l
omit [Lo] in
theorem rgo_skip (y z : List Nat) : ∀ (k : Nat) (l : List Nat), rgo y z k l = rgo y z 0 (l.drop k)
  | 0, l => by simp
  | k + 1, [] => by simp [rgo]
  | k + 1, c :: l => by rw [rgo, rgo_skip y z k l]; simp
omit [Lo] in
theorem rgo_hit {y z l : List Nat} (hy : y ≠ []) (h : l.take y.length = y) : rgo y z 0 l = z ++ rgo y z 0 (l.drop y.length) := by
  cases l with
  | nil => rw [List.take_nil] at h; exact absurd h.symm hy
  | cons c l =>
    rw [rgo, if_pos h, rgo_skip]
    have : 0 < y.length := List.length_pos_iff.mpr hy
    obtain ⟨m, hm⟩ : ∃ m, y.length = m + 1 := ⟨y.length - 1, by lia⟩
    rw [hm]; simp
omit [Lo] in
theorem rgo_miss {y z l : List Nat} {c : Nat} (h : (c :: l).take y.length ≠ y) : rgo y z 0 (c :: l) = c :: rgo y z 0 l := by
  rw [rgo, if_neg h]
omit [Lo] in
theorem rgo_none {y z : List Nat} : ∀ {l : List Nat}, (∀ k, k < l.length → (l.drop k).take y.length ≠ y) → rgo y z 0 l = l
  | [], _ => by rw [rgo]
  | c :: l, h => by
    rw [rgo_miss (by simpa using h 0 (by simp)), rgo_none fun k hk => by simpa using h (k + 1) (by simpa using hk)]
omit [Lo] in
theorem at_iff {x y : Str} {k : Nat} (hy : y.cps.toList ≠ []) : At x y x.length k ↔ (x.cps.toList.drop k).take y.cps.toList.length = y.cps.toList := by
  unfold At
  rw [subAt_eq]
  have hl : y.length = y.cps.toList.length := by simp [Str.length]
  have hx : x.length = x.cps.toList.length := by simp [Str.length]
  rw [hl, hx, beq_iff_eq]
  constructor
  · exact fun h => h.2
  · intro h
    refine ⟨?_, h⟩
    have := congrArg List.length h
    rw [List.length_take, List.length_drop] at this
    have : 0 < y.cps.toList.length := List.length_pos_iff.mpr hy
    omega
omit [Lo] in
theorem join_cons (z p : Str) : ∀ ps : List Str, ps ≠ [] → (Str.join z (p :: ps)).cps.toList = p.cps.toList ++ z.cps.toList ++ (Str.join z ps).cps.toList
  | [], h => absurd rfl h
  | q :: ps, _ => by
    show (p ++ z ++ Str.join z (q :: ps)).cps.toList = _
    rw [Str.cps_append, Str.cps_append]; simp
omit [Lo] in
theorem partsFrom_ne (x : Str) (w a : Nat) (cuts : List Nat) : partsFrom x w a cuts ≠ [] := by cases cuts <;> simp [partsFrom]
omit [Lo] in
theorem rgo_upto {y z : List Nat} {l : List Nat} : ∀ (n : Nat) (a : Nat), (∀ k, a ≤ k → k < a + n → (l.drop k).take y.length ≠ y) → a + n ≤ l.length → rgo y z 0 (l.drop a) = (l.drop a).take n ++ rgo y z 0 (l.drop (a + n))
  | 0, a, _, _ => by simp
  | n + 1, a, h, hl => by
    have hd : l.drop a = l[a] :: l.drop (a + 1) := List.drop_eq_getElem_cons (by omega)
    have h0 := h a (Nat.le_refl _) (by omega)
    rw [hd] at h0 ⊢
    rw [rgo_miss h0, rgo_upto n (a + 1) (fun k h1 h2 => h k (by omega) (by omega)) (by omega), List.take_succ_cons]
    rw [show a + 1 + n = a + (n + 1) by omega]; rfl
omit [Lo] in
theorem join_parts (x y z : Str) (hy : y.cps.toList ≠ []) : ∀ (cuts : List Nat) (a f : Nat), a ≤ x.length → ChainG x y x.length a cuts f → (∀ k, f ≤ k → ¬ At x y x.length k) →
    (Str.join z (partsFrom x y.length a cuts)).cps.toList = rgo y.cps.toList z.cps.toList 0 (x.cps.toList.drop a)
  | [], a, f, ha, h, hn => by
    have e : f = a := h
    subst e
    show (strSub x f x.length).cps.toList = _
    rw [strSub_toList, rgo_none]
    · rw [List.take_of_length_le]; simp [Str.length]
    · intro k _ q
      rw [List.drop_drop] at q
      exact hn (f + k) (by lia) ((at_iff hy).mpr q)
  | c :: r, a, f, ha, h, hn => by
    refine x0a4 h fun h1 h2 h3 h4 => ?_; (try clear h)
    have hx : x.length = x.cps.toList.length := by simp [Str.length]
    have hl : y.length = y.cps.toList.length := by simp [Str.length]
    have hc := h2.1
    show (Str.join z (strSub x a c :: partsFrom x y.length (c + y.length) r)).cps.toList = _
    rw [join_cons _ _ _ (partsFrom_ne _ _ _ _), join_parts x y z hy r (c + y.length) f hc h4 hn, strSub_toList]
    have u := rgo_upto (y := y.cps.toList) (z := z.cps.toList) (l := x.cps.toList) (c - a) a (fun k g1 g2 q => h3 k g1 (by (clear hc hl hx; lia)) ((at_iff hy).mpr q)) (by (clear hl h1; lia))
    rw [u, show a + (c - a) = c by (clear hc hl hx ha; lia), rgo_hit hy ((at_iff hy).mp h2), List.drop_drop, ← hl, List.append_assoc]
omit [Lo] in
theorem repl_eq {x y z : List Nat} (hy : y ≠ []) : repl x y z = rgo y z 0 x := by
  unfold repl Txt.replace
  refine x1a2 (occ_tight ⟨x.toArray⟩ ⟨y.toArray⟩ (by have := List.length_pos_iff.mpr hy; show 1 ≤ y.toArray.size; rw [List.size_toArray]; exact this)) fun f h1 h2 => ?_
  have hz : ((⟨y.toArray⟩ : Str).length == 0) = false := by cases y with | nil => exact absurd rfl hy | cons => rfl
  rw [hz, Bool.false_and, Bool.or_false]
  generalize hc : occurrences ⟨x.toArray⟩ ⟨y.toArray⟩ 0 (⟨x.toArray⟩ : Str).length ((⟨x.toArray⟩ : Str).length + 1) = cuts at h1
  have key := join_parts ⟨x.toArray⟩ ⟨y.toArray⟩ ⟨z.toArray⟩ (by simpa using hy) cuts 0 f (Nat.zero_le _) h1 h2
  cases cuts with
  | nil =>
    have e : (Str.join ⟨z.toArray⟩ (partsFrom ⟨x.toArray⟩ (⟨y.toArray⟩ : Str).length 0 [])).cps.toList = x := by
      show (strSub ⟨x.toArray⟩ 0 _).cps.toList = x
      rw [strSub_toList]; simp [Str.length]
    rw [e] at key
    simpa using key
  | cons c r =>
    simp only [List.isEmpty_cons, Bool.false_eq_true, if_false]
    rw [glued_eq_join, partsBetween_eq]
    simpa using key
end Mine
namespace Mine
open PySem
variable [Lo]
omit [Lo] in
inductive Tk where
  | ch (c : Nat)
  | rf (n : List Nat)
omit [Lo] in
noncomputable def refL (n : List Nat) : List Nat := 38 :: (n ++ [59])
omit [Lo] in
noncomputable abbrev Voc := List (List Nat × List Nat)
omit [Lo] in
noncomputable def outT (V : Voc) : Tk → List Nat
  | .ch c => [c]
  | .rf n => match V.lookup n with
    | some v => v
    | none => refL n
omit [Lo] in
noncomputable def outs (V : Voc) (ts : List Tk) : List Nat := (ts.map (outT V)).flatten
omit [Lo] in
theorem outs_cons (V : Voc) (t : Tk) (ts : List Tk) : outs V (t :: ts) = outT V t ++ outs V ts := rfl
omit [Lo] in
noncomputable def Lt (c : Nat) : Prop := c ≠ 38 ∧ c ≠ 59 ∧ c ≠ 60 ∧ c ≠ 62 ∧ c < 128
omit [Lo] in
noncomputable def Nm (n : List Nat) : Prop := ∀ c ∈ n, Lt c
omit [Lo] in
noncomputable def VOk (v : List Nat) : Prop := v ≠ [] ∧ ∀ c ∈ v, c = 60 ∨ c = 62 ∨ 128 ≤ c
omit [Lo] in
noncomputable def VsOk (V : Voc) : Prop := ∀ p ∈ V, VOk p.2
omit [Lo] in
noncomputable def TsOk (K : List (List Nat)) : List Tk → Prop
  | [] => True
  | .ch c :: ts => (c = 38 → ∀ n ∈ K, (outs [] ts).take (n.length + 1) ≠ n ++ [59]) ∧ TsOk K ts
  | .rf n :: ts => Nm n ∧ TsOk K ts
omit [Lo] in
theorem lookup_ok {V : Voc} (h : VsOk V) {n v : List Nat} (e : V.lookup n = some v) : VOk v := by
  refine x2a2 (List.lookup_eq_some_iff.mp e) fun l₁ l₂ e_0 _ => ?_; subst e_0
  exact h (n, v) (by simp)
omit [Lo] in
theorem lead {V : Voc} (hV : VsOk V) : ∀ (ts : List Tk) (w : List Nat), (∀ c ∈ w, Lt c ∨ c = 59) → (outs V ts).take w.length = w → (outs [] ts).take w.length = w
  | _, [], _, _ => by simp
  | [], a :: w, _, h => by simp [outs] at h
  | .ch c :: ts, a :: w, hw, h => by
    rw [outs_cons] at h ⊢
    simp only [outT, List.singleton_append, List.length_cons, List.take_succ_cons, List.cons.injEq] at h ⊢
    exact ⟨h.1, lead hV ts w (fun c hc => hw c (List.mem_cons_of_mem _ hc)) h.2⟩
  | .rf n :: ts, a :: w, hw, h => by
    exfalso
    have ha := hw a List.mem_cons_self
    rw [outs_cons] at h
    cases e : V.lookup n with
    | some v =>
      simp only [outT, e] at h
      obtain ⟨hv0, hv⟩ := lookup_ok hV e
      cases v with
      | nil => exact hv0 rfl
      | cons b v =>
        simp only [List.cons_append, List.length_cons, List.take_succ_cons, List.cons.injEq] at h
        have := hv b List.mem_cons_self
        rw [h.1] at this
        unfold Lt at ha
        (clear h; lia)
    | none =>
      simp only [outT, e, refL, List.cons_append, List.length_cons, List.take_succ_cons, List.cons.injEq] at h
      have h1 := h.1
      unfold Lt at ha
      lia
omit [Lo] in
theorem refL_len (n : List Nat) : (refL n).length = n.length + 2 := by simp [refL]
omit [Lo] in
theorem rgo_pass {k v : List Nat} : ∀ (u l : List Nat), (∀ c ∈ u, c ≠ 38) → rgo (refL k) v 0 (u ++ l) = u ++ rgo (refL k) v 0 l
  | [], _, _ => rfl
  | c :: u, l, h => by
    have hc := h c List.mem_cons_self
    rw [List.cons_append, rgo_miss, rgo_pass u l fun d hd => h d (List.mem_cons_of_mem _ hd)]
    · rfl
    · rw [refL_len, List.take_succ_cons]
      intro q
      simp only [refL, List.cons.injEq] at q
      exact hc q.1
omit [Lo] in
theorem same_name {k n r : List Nat} (hk : Nm k) (hn : Nm n) (h : (n ++ 59 :: r).take (k.length + 1) = k ++ [59]) : n = k := by
  induction k generalizing n with
  | nil =>
    cases n with
    | nil => rfl
    | cons c n =>
      have := hn c List.mem_cons_self
      simp at h
      exact absurd h this.2.1
  | cons a k ih =>
    cases n with
    | nil =>
      have := hk a List.mem_cons_self
      simp at h
      exact absurd h.1.symm this.2.1
    | cons c n =>
      simp only [List.cons_append, List.length_cons, List.take_succ_cons, List.cons.injEq] at h
      rw [h.1, ih (fun c hc => hk c (List.mem_cons_of_mem _ hc)) (fun c hc => hn c (List.mem_cons_of_mem _ hc)) h.2]
omit [Lo] in
theorem lookup_snoc (V : Voc) (k v n : List Nat) : (V ++ [(k, v)]).lookup n = (V.lookup n).or (if n = k then some v else none) := by
  induction V with
  | nil => 
    rw [List.nil_append, List.lookup_cons]
    by_cases h : n = k
    · subst h; simp
    · rw [beq_false_of_ne h, if_neg h]; rfl
  | cons p V ih =>
    rw [List.cons_append, List.lookup_cons, List.lookup_cons]
    split
    · rfl
    · exact ih
omit [Lo] in
theorem rgo_outs {V : Voc} (hV : VsOk V) {K : List (List Nat)} {k v : List Nat} (hk : Nm k) (hK : k ∈ K) : ∀ (ts : List Tk), TsOk K ts → rgo (refL k) v 0 (outs V ts) = outs (V ++ [(k, v)]) ts
  | [], _ => by simp [outs, rgo]
  | .ch c :: ts, h => by
    rw [outs_cons, outs_cons]
    show rgo (refL k) v 0 (c :: outs V ts) = c :: outs (V ++ [(k, v)]) ts
    rw [rgo_miss, rgo_outs hV hk hK ts h.2]
    rw [refL_len, List.take_succ_cons]
    intro q
    simp only [refL, List.cons.injEq] at q
    refine h.1 q.1 k hK ?_
    have := lead hV ts (k ++ [59]) (fun c hc => by
      rcases List.mem_append.mp hc with hc | hc
      · exact .inl (hk c hc)
      · exact .inr (by simpa using hc)) (by simpa using q.2)
    simpa using this
  | .rf n :: ts, h => by
    rw [outs_cons, outs_cons]
    have hl := lookup_snoc V k v n
    cases e : V.lookup n with
    | some u =>
      rw [e, Option.some_or] at hl
      simp only [outT, e, hl]
      rw [rgo_pass _ _ fun c hc => by have := (lookup_ok hV e).2 c hc; lia, rgo_outs hV hk hK ts h.2]
    | none =>
      rw [e, Option.none_or] at hl
      by_cases hn : n = k
      · subst hn
        rw [if_pos rfl] at hl
        simp only [outT, e, hl]
        rw [rgo_hit (by simp [refL]) (by simp), List.drop_left, rgo_outs hV hk hK ts h.2]
      · rw [if_neg hn] at hl
        simp only [outT, e, hl]
        have hs : refL n ++ outs V ts = 38 :: ((n ++ [59]) ++ outs V ts) := rfl
        rw [hs, rgo_miss, rgo_pass, rgo_outs hV hk hK ts h.2]
        · rfl
        · intro c hc
          rcases List.mem_append.mp hc with hc | hc
          · exact (h.1 c hc).1
          · have : c = 59 := by simpa using hc
            lia
        · rw [refL_len, List.take_succ_cons]
          intro q
          simp only [refL, List.cons.injEq] at q
          refine hn (same_name hk h.1 (r := outs V ts) ?_)
          have := q.2
          rw [List.append_assoc] at this
          exact this
omit [Lo] in
theorem outs_len {V : Voc} (hV : ∀ p ∈ V, p.2.length ≤ p.1.length + 2) (ts : List Tk) : (outs V ts).length ≤ (outs [] ts).length := by
  induction ts with
  | nil => exact Nat.le_refl _
  | cons t ts ih =>
    rw [outs_cons, outs_cons, List.length_append, List.length_append]
    have : (outT V t).length ≤ (outT [] t).length := by
      cases t with
      | ch c => exact Nat.le_refl _
      | rf n =>
        cases e : V.lookup n with
        | none => simp [outT, e]
        | some v =>
          refine x2a2 (List.lookup_eq_some_iff.mp e) fun l₁ l₂ e_0 _ => ?_; subst e_0
          have := hV (n, v) (by simp)
          simp only [outT, e, List.lookup_nil, refL_len]
          exact this
    lia
end Mine
namespace Mine
open PySem PySem.Calls PySem.W PyProof.Rows
variable [Lo]
omit [Lo] in
theorem sdv_lookup (n : List Nat) : ∀ D : Voc, (sdv D).lookup n = (D.lookup n).map .str
  | [] => rfl
  | p :: D => by
    show List.lookup n ((p.1, AV.str p.2) :: sdv D) = _
    rw [List.lookup_cons, List.lookup_cons]
    split
    · rfl
    · exact sdv_lookup n D
theorem EvN.dict3 {X : Cx} {σ : Sto} {k1 v1 k2 v2 k3 v3 : Expr} {pos : Pos} {a1 a2 a3 : List Nat} {x1 x2 x3 : AV} (h1 : Ev X k1 σ (.str a1)) (g1 : Ev X v1 σ x1) (h2 : Ev X k2 σ (.str a2)) (g2 : Ev X v2 σ x2) (h3 : Ev X k3 σ (.str a3)) (g3 : Ev X v3 σ x3)
    (n12 : a1 ≠ a2) (n13 : a1 ≠ a3) (n23 : a2 ≠ a3) (hx1 : autoParam (x1.atom = true) byRfl) (hx2 : autoParam (x2.atom = true) byRfl) (hx3 : autoParam (x3.atom = true) byRfl) : EvN X (.Dict [some k1, some k2, some k3] [v1, v2, v3] pos) σ (.dict [(a1, x1), (a2, x2), (a3, x3)]) := by
  have := EvN.dict (X := X) (σ := σ) (pos := pos) (keys := [some k1, some k2, some k3]) (values := [v1, v2, v3]) (EvK.cons (k := k1) (v := v1) (pos := pos) h1 g1 (EvK.cons (k := k2) (v := v2) (pos := pos) h2 g2 (EvK.cons (k := k3) (v := v3) (pos := pos) h3 g3 .nil hx3) hx2) hx1) rfl (by simp) (by simp) (by simp)
  have e : [(a1, x1), (a2, x2), (a3, x3)].foldl (fun a p => putL a p.1 p.2) [] = [(a1, x1), (a2, x2), (a3, x3)] := by simp [putL, n12, n13, n23]
  rwa [e] at this
omit [Lo] in
noncomputable def textsV : Voc := [([38], ampL), ([60], ltL), ([62], gtL)]
omit [Lo] in
noncomputable def cellOf (c : Nat) : List Nat := if c = 38 then ampL else if c = 60 then ltL else if c = 62 then gtL else [c]
omit [Lo] in
theorem cell_in {c : Nat} (h : (textsV.lookup [c]).isSome = true) : textsV.lookup [c] = some (cellOf c) := by
  unfold textsV at h ⊢
  simp only [List.lookup_cons, List.lookup_nil] at h ⊢
  unfold cellOf
  by_cases h1 : c = 38
  · subst h1; rfl
  by_cases h2 : c = 60
  · subst h2; rfl
  by_cases h3 : c = 62
  · subst h3; rfl
  have e : ∀ d, c ≠ d → ([c] == [d]) = false := fun d hd => by simp [hd]
  rw [e 38 h1, e 60 h2, e 62 h3] at h
  exact ft h
omit [Lo] in
theorem cell_out {c : Nat} (h : (textsV.lookup [c]).isSome = false) : cellOf c = [c] := by
  unfold textsV at h
  simp only [List.lookup_cons, List.lookup_nil] at h
  unfold cellOf
  have e : ∀ d, c = d → ([c] == [d]) = true := fun d hd => by simp [hd]
  rw [if_neg, if_neg, if_neg]
  · intro q; subst q; exact tf h
  · intro q; subst q; exact tf h
  · intro q; subst q; exact tf h
omit [Lo] in
theorem strs_get {l : List (List Nat)} {k : Nat} {v : AV} (h : (AV.strs l)[k]? = some v) : ∃ n, l[k]? = some n ∧ v = .str n := by
  unfold AV.strs at h
  rw [List.getElem?_map] at h
  refine x1a2 (Option.map_eq_some_iff.mp h) fun n h1 h2 => ?_
  exact ⟨n, h1, h2.symm⟩
omit [Lo] in
theorem ones_get {l : List Nat} {k : Nat} {v : List Nat} (h : (ones l)[k]? = some v) : ∃ c, l[k]? = some c ∧ v = [c] := by
  unfold ones at h
  rw [List.getElem?_map] at h
  refine x1a2 (Option.map_eq_some_iff.mp h) fun n h1 h2 => ?_
  exact ⟨n, h1, h2.symm⟩
section
variable {prog : Program} {w : World} {G : Pg}
set_option maxHeartbeats 1000000
set_option maxRecDepth 8000
theorem walk_cells (P : ModG G) {sg : List Nat} (hl : sg.length ≤ 1000000) :
    FSpec prog w G 1 "_law_cells" [.list (AV.strs (ones sg))] (.ok (.list (AV.strs (sg.map cellOf)))) := by
  refine x4a1 (P.cells) fun a pm cd doc hf => ?_
  refine FSpec.of hf (body := bodyOf stLCells) (ps := ["signs"]) rfl (.plain fun vals hv => ?_) (fun A L T s B fr => ?_)
  · refine x1a1 (len1 hv) fun a e_0 => ?_; subst e_0; rfl
  refine @Ex.assign_own _ _ _ _ _ _ _ _ _ (.dict (sdv textsV)) ?h (.inr ⟨rfl, rfl, _, rfl⟩) (fun bt => ?_) rfl
  case h =>
    exact @EvN.dict3 _ _ _ _ _ _ _ _ _ _ _ _ _ _ _ _ (Ev.cstr (l := [38]) rfl) (Ev.cstr (l := ampL) rfl) (Ev.cstr (l := [60]) rfl) (Ev.cstr (l := ltL) rfl) (Ev.cstr (l := [62]) rfl) (Ev.cstr (l := gtL) rfl) (by decide) (by decide) (by decide) rfl rfl rfl
  refine ExT.freeze (x := "texts") rfl ?_
  refine Ex.ret (EvN.ev (EvN.mapC (σc := [("texts", ⟨none, .dict (sdv textsV)⟩)]) (ys := AV.strs (sg.map cellOf)) (EvI.list (Ev.name rfl) rfl) ⟨rfl, rfl, by decide, by decide, rfl⟩ (SeenL.cons rfl rfl rfl rfl .nil) rfl (by rw [strs_len, strs_len, List.length_map, ones_len]) (by rw [strs_len, ones_len]; lia) (fun C D T₁ s₁ k v y hv hy => ?_)) ⟨fun _ q => (by cases q), fun q => (by cases q)⟩) rfl
  refine x1a2 (strs_get hv) fun v hv2 e_0 => ?_; subst e_0
  refine x1a2 (ones_get hv2) fun c hc e_0 => ?_; subst e_0
  refine x1a2 (strs_get hy) fun m hm e_0 => ?_; subst e_0
  rw [List.getElem?_map, hc] at hm
  (have hm := Option.some.inj hm; subst hm)
  refine Ev.ifexp (Te.cmp (Ev.name rfl) (Ev.name rfl) in_dict) (fun hb => ?_) (fun hb => ?_)
  · rw [sdv_lookup, Option.isSome_map] at hb
    exact Ev.index (Ev.name rfl) (Ev.name rfl) (get_dict (by rw [sdv_lookup, cell_in hb]; rfl))
  · rw [sdv_lookup, Option.isSome_map] at hb
    rw [cell_out hb]
    exact Ev.name rfl
end
omit [Lo] in
noncomputable abbrev Ent := Nat × Int
omit [Lo] in
noncomputable def AV.ent (e : Ent) : AV := .tup [.str [e.1], .int e.2]
omit [Lo] in
noncomputable def AV.row (r : List Ent) : List AV := r.map AV.ent
omit [Lo] in
theorem row_len (r : List Ent) : (AV.row r).length = r.length := by unfold AV.row; simp
omit [Lo] in
noncomputable def cellE (k : Nat) (c : List Nat) : List Ent := c.map fun x => (x, (k : Int))
omit [Lo] in
noncomputable def flatGo : Nat → List (List Nat) → List Ent
  | _, [] => []
  | k, c :: cs => cellE k c ++ flatGo (k + 1) cs
omit [Lo] in
noncomputable def layGo : List Ent → Nat → Nat → Nat → List Nat → List Ent
  | row, _, _, _, [] => row
  | row, code, at_, t, n :: ns => layGo (insAt ((at_ + n) % (row.length + 1)) (code + (at_ + n) / (row.length + 1), -1 - (t : Int)) row) (code + (at_ + n) / (row.length + 1)) ((at_ + n) % (row.length + 1) + 1) (t + 1) ns
omit [Lo] in
noncomputable def layR (cells : List (List Nat)) (ns : List Nat) : List Ent := layGo (flatGo 0 cells) 128 0 0 ns
omit [Lo] in
theorem insAt_len {α : Type} (i : Nat) (x : α) (l : List α) : (insAt i x l).length = l.length + 1 := by
  unfold insAt; simp [List.length_take, List.length_drop]; omega
omit [Lo] in
theorem row_ins (i : Nat) (e : Ent) (r : List Ent) : insAt i (AV.ent e) (AV.row r) = AV.row (insAt i e r) := by
  unfold insAt AV.row
  simp [List.map_take, List.map_drop]
omit [Lo] in
theorem row_append (r q : List Ent) : AV.row r ++ AV.row q = AV.row (r ++ q) := by unfold AV.row; simp
omit [Lo] in
theorem flatGo_len : ∀ (cs : List (List Nat)) (k : Nat), (∀ c ∈ cs, c.length ≤ 5) → (flatGo k cs).length ≤ 5 * cs.length
  | [], _, _ => by simp [flatGo]
  | c :: cs, k, h => by
    have := flatGo_len cs (k + 1) fun c hc => h c (List.mem_cons_of_mem _ hc)
    have := h c List.mem_cons_self
    simp only [flatGo, cellE, List.length_append, List.length_map, List.length_cons]
    lia
omit [Lo] in
theorem flatGo_snoc : ∀ (cs : List (List Nat)) (k : Nat) (c : List Nat), flatGo k (cs ++ [c]) = flatGo k cs ++ cellE (k + cs.length) c
  | [], k, c => by simp [flatGo]
  | d :: cs, k, c => by
    rw [List.cons_append, flatGo, flatGo_snoc cs (k + 1) c, flatGo, List.append_assoc, List.length_cons, show k + 1 + cs.length = k + (cs.length + 1) by lia]
section
variable {prog : Program} {w : World} {G : Pg}
set_option maxHeartbeats 1000000
set_option maxRecDepth 8000
theorem walk_lay (P : ModG G) {cells : List (List Nat)} {ns : List Nat} (hc : cells.length ≤ 100) (h5 : ∀ c ∈ cells, c.length ≤ 5) (hn : ns.length ≤ 100) (hns : ∀ n ∈ ns, n < 5000) :
    FSpec prog w G 1 "_law_lay" [.list (AV.strs cells), .list (AV.nats ns)] (.ok (.list (AV.row (layR cells ns)))) := by
  refine x4a1 (P.lay) fun a pm cd doc hf => ?_
  refine FSpec.of hf (body := bodyOf stLLay) (ps := ["cells", "numbers"]) rfl (.plain fun vals hv => ?_) (fun A L T s B fr => ?_)
  · refine x2a1 (len2 hv) fun a b e_0 => ?_; subst e_0; rfl
  have hcl := strs_len cells
  refine Ex.assign_own (EvN.list .nil) (.inl rfl) fun br => ?_
  have hflat := flatGo_len cells 0 h5
  refine Ex.forT fcx_top (ns := ["owner", "cell"]) (EvI.enum (Ev.name rfl) rfl rfl (P.none _ (by simp))) (.cons (.inr ⟨rfl, rfl, _, rfl⟩) (.cons (.inl rfl) .nil)) rfl (P := List Ent)
    (fun r => [("numbers", ⟨none, .list (AV.nats ns)⟩), ("row", ⟨some br, .list (AV.row r)⟩)])
    (fun k r => r = flatGo 0 (cells.take k)) (fun k v r hv hi => ?_) (fun r hi => ?_) [] rfl ⟨rfl, rfl, trivial⟩
  · refine x1a2 (enum_get hv) fun x hx e_0 => ?_; subst e_0
    refine x1a2 (strs_get hx) fun c hcc e_0 => ?_; subst e_0
    have hk : k < cells.length := (List.getElem?_eq_some_iff.mp hcc).1
    have hc5 := h5 c (List.mem_of_getElem? hcc)
    have hr : r.length ≤ 500 := by
      rw [hi]
      have := flatGo_len (cells.take k) 0 fun c hc => h5 c (List.mem_of_mem_take hc)
      rw [List.length_take] at this
      (clear hc5 hk hflat hcl hn; lia)
    refine ⟨_, rfl, rfl, ?_⟩
    refine Ex.mut (x := "row") (av := .list (AV.row r)) rfl meth_extend (.cons (EvN.ev (EvN.mapC (σc := [("owner", ⟨none, .int (k : Int)⟩)]) (ys := AV.row (cellE k c)) (EvI.str (Ev.name rfl) rfl) ⟨rfl, rfl, by decide, by decide, rfl⟩ (SeenL.cons rfl rfl rfl rfl .nil) rfl (by unfold cellE; rw [row_len, List.length_map, List.length_map]) (by rw [List.length_map]; (clear hr hk hflat hcl hn hc; lia)) (fun C D T₁ s₁ j v y hv hy => ?_)) ⟨fun _ q => (by cases q), fun q => (by cases q)⟩) .nil)
      (mut_extend (by rw [row_len, row_len]; unfold cellE; rw [List.length_map]; (clear hk hflat hcl hn hc; lia))) rfl (Ex.nil ?_)
    · rw [List.getElem?_map] at hv
      refine x1a2 (Option.map_eq_some_iff.mp hv) fun o ho e_0 => ?_; subst e_0
      unfold AV.row cellE at hy
      rw [List.getElem?_map, List.getElem?_map, ho] at hy
      (have hy := Option.some.inj hy; subst hy)
      exact Ev.tuple (.cons (Ev.name rfl) (.cons (Ev.name rfl) .nil)) (Nat.le_of_ble_eq_true rfl)
    · rw [row_append]
      refine ⟨r ++ cellE k c, Sto.sub_of ⟨rfl, rfl, trivial⟩, ?_⟩
      rw [List.take_add_one, hcc, hi]
      show _ = flatGo 0 (cells.take k ++ [c])
      rw [flatGo_snoc, List.length_take, Nat.zero_add, Nat.min_eq_left (Nat.le_of_lt hk)]
  rw [enum_len, hcl, List.take_length] at hi
  subst hi
  refine Ex.nil ?_
  refine Ex.assignT (xs := ["code", "place"]) (vs := [.int 128, .int (-1)]) (Ev.tuple (.cons Ev.cint (.cons (Ev.neg Ev.cint) .nil)) (Nat.le_of_ble_eq_true rfl)) (.cons (.inl rfl) (.cons (.inl rfl) .nil)) rfl ?_
  refine Ex.forT fcx_top (ns := ["turn", "number"]) (EvI.enum (Ev.name rfl) rfl rfl (P.none _ (by simp))) (.cons (.inl rfl) (.cons (.inl rfl) .nil)) rfl (P := List Ent × Nat × Nat)
    (fun p => [("row", ⟨some br, .list (AV.row p.1)⟩), ("code", ⟨none, .int (p.2.1 : Int)⟩), ("place", ⟨none, .int ((p.2.2 : Int) - 1)⟩)])
    (fun k p => layGo p.1 p.2.1 p.2.2 k (ns.drop k) = layR cells ns ∧ p.2.2 ≤ p.1.length ∧ p.1.length ≤ 500 + k ∧ p.2.1 ≤ 128 + 10000 * k) (fun k v p hv hi => ?_) (fun p hi => ?_) (flatGo 0 cells, 128, 0) ⟨rfl, Nat.zero_le _, by dsimp only; (clear hcl hn; lia), by dsimp only; (clear hflat hcl hn hc; lia)⟩ ⟨rfl, rfl, rfl, trivial⟩
  · obtain ⟨row, code, at_⟩ := p
    dsimp only at hi ⊢
    refine x1a2 (enum_get hv) fun x hx e_0 => ?_; subst e_0
    refine x1a2 (nats_get hx) fun n hn1 e_0 => ?_; subst e_0
    have hk : k < ns.length := (List.getElem?_eq_some_iff.mp hn1).1
    have hnn := hns n (List.mem_of_getElem? hn1)
    rw [drop_of_get hn1] at hi
    refine x0a4 hi fun h1 h2 h3 h4 => ?_; (try clear hi)
    rw [layGo] at h1
    have hrl := row_len row
    have hq : (at_ + n) / (row.length + 1) ≤ at_ + n := Nat.div_le_self _ _
    have hm : (at_ + n) % (row.length + 1) < row.length + 1 := Nat.mod_lt _ (by (clear hq hrl h4 h2 hnn hk hflat hcl hn hc; lia))
    refine ⟨_, rfl, rfl, ?_⟩
    refine Ex.assign (v := .int ((row.length : Int) - ((at_ : Int) - 1))) ?_ (.inl rfl) ?_
    · rw [← hrl]
      exact Ev.binop (Ev.callO (.cons (EvO.own rfl) .nil) (call_len_list' (by rw [hrl]; (clear hm hq hrl h4 hflat hcl hc; lia))) rfl rfl rfl (P.none _ (by simp)) boot_len nofun) (Ev.name rfl) bin_sub_int
    have fin : ∀ σ, Sto.Sub [("row", ⟨some br, .list (AV.row row)⟩), ("turn", ⟨none, .int (k : Int)⟩), ("code", ⟨none, .int ((code + (at_ + n) / (row.length + 1) : Nat) : Int)⟩), ("place", ⟨none, .int (((at_ + n) % (row.length + 1) : Nat) : Int)⟩)] σ →
        Ex (fcx G prog w A (fdOf stLLay pm cd doc .none .none) L a T s B fr 0) ((match (bodyOf stLLay).drop 3 with | .For _ _ b _ _ :: _ => b | _ => []).drop 2) σ (Turn (fcx G prog w A (fdOf stLLay pm cd doc .none .none) L a T s B fr 0) ((bodyOf stLLay).drop 4) (fun o _ => Ends o (.ok (.list (AV.row (layR cells ns)))))
          fun σ' => ∃ p' : List Ent × Nat × Nat, Sto.Sub [("row", ⟨some br, .list (AV.row p'.1)⟩), ("code", ⟨none, .int (p'.2.1 : Int)⟩), ("place", ⟨none, .int ((p'.2.2 : Int) - 1)⟩)] σ' ∧ layGo p'.1 p'.2.1 p'.2.2 (k + 1) (ns.drop (k + 1)) = layR cells ns ∧ p'.2.2 ≤ p'.1.length ∧ p'.1.length ≤ 500 + (k + 1) ∧ p'.2.1 ≤ 128 + 10000 * (k + 1)) := fun σ hs => by
      refine ExT.sub hs ?_
      have hcd : code + (at_ + n) / (row.length + 1) < 1114112 := by (clear hm hrl hflat hcl hc; lia)
      have hil := insAt_len ((at_ + n) % (row.length + 1)) ((code + (at_ + n) / (row.length + 1), -1 - (k : Int)) : Ent) row
      refine Ex.mut (x := "row") (av := .list (AV.row row)) rfl meth_insert (.cons (Ev.name rfl) (.cons (Ev.tuple (.cons (Ev.callB (.cons (Ev.name rfl) .nil) (call_chr' (Int.natCast_nonneg _) (by generalize code + (at_ + n) / (row.length + 1) = cc at hcd ⊢; (clear hil hm hq hrl h4 h3 h2 hk hflat hcl hn hc; lia))) rfl rfl (P.none _ (by simp)) boot_chr nofun) (.cons (Ev.binop (Ev.neg Ev.cint) (Ev.name rfl) bin_sub_int) .nil)) (Nat.le_of_ble_eq_true rfl)) .nil))
        (mut_insert (by (clear hil hcd hq hrl h4 h3 h2 hnn hk hflat hcl hn hc; omega)) (by rw [hrl]; (clear hil hcd hq hrl h4 h3 hnn hk hflat hcl hn hc; lia)) (by rw [hrl]; (clear hil hcd hm hq hrl h4 hflat hcl hc; lia))) rfl (Ex.nil ?_)
      have e : (AV.tup [.str [((code + (at_ + n) / (row.length + 1) : Nat) : Int).toNat], .int (-1 - (k : Int))]) = AV.ent (code + (at_ + n) / (row.length + 1), -1 - (k : Int)) := by
        unfold AV.ent; rw [Int.toNat_natCast]
      rw [e, row_ins, Int.toNat_natCast]
      refine ⟨(insAt ((at_ + n) % (row.length + 1)) (code + (at_ + n) / (row.length + 1), -1 - (k : Int)) row, code + (at_ + n) / (row.length + 1), (at_ + n) % (row.length + 1) + 1), Sto.sub_of ⟨rfl, rfl, ?_, trivial⟩, h1, ?_, ?_, ?_⟩
      · dsimp only
        rw [show (((at_ + n) % (row.length + 1) + 1 : Nat) : Int) - 1 = (((at_ + n) % (row.length + 1) : Nat) : Int) by (clear hil hcd hq hrl h4 h3 h2 hnn hk hflat hcl hn hc; lia)]
        rfl
      · dsimp only; (clear hcd hq hrl h4 h2 hnn hk hflat hcl hn hc; omega)
      · dsimp only; (clear hcd hm hq hrl h2 hnn hk hflat hcl hn hc; lia)
      · dsimp only; (clear hil hrl hflat hcl hc; lia)
    refine Ex.ite (Te.cmp (Ev.name rfl) (Ev.name rfl) cmp_lt_int) (fun hb => ?_) (fun hb => ?_)
    · have hb : (n : Int) < (row.length : Int) - ((at_ : Int) - 1) := by simpa using hb
      have hlt : at_ + n < row.length + 1 := by (clear hm hq hrl h4 h3 hk hflat hcl hn hc; lia)
      have d0 : (at_ + n) / (row.length + 1) = 0 := Nat.div_eq_of_lt hlt
      have m0 : (at_ + n) % (row.length + 1) = at_ + n := Nat.mod_eq_of_lt hlt
      refine Ex.aug rfl (Ev.binop (Ev.name rfl) Ev.cint bin_add_int) inp_add_int (.inl rfl) (Ex.nil (fin _ (Sto.sub_of ⟨rfl, rfl, ?_, ?_, trivial⟩)))
      · rw [d0]; rfl
      · rw [m0, show (((at_ + n : Nat) : Int)) = (at_ : Int) - 1 + ((n : Int) + 1) by (clear m0 d0 hlt hb hm hq hrl h4 h3 h2 hk hflat hcl hn hc; lia)]; rfl
    · have hb : ¬ (n : Int) < (row.length : Int) - ((at_ : Int) - 1) := by simpa using hb
      have hge : row.length + 1 ≤ at_ + n := by (clear hm hq hrl h4 h3 hk hflat hcl hn hc; lia)
      obtain ⟨m, hm1⟩ : ∃ m : Nat, at_ + n = m + (row.length + 1) := ⟨at_ + n - (row.length + 1), by (clear hm hq hrl h4 h3 hk hflat hcl hn hc; lia)⟩
      have em : (n : Int) - ((row.length : Int) - ((at_ : Int) - 1)) = (m : Int) := by (clear hm hq hrl h4 h3 hk hflat hcl hn hc; lia)
      have d1 : (at_ + n) / (row.length + 1) = m / (row.length + 1) + 1 := by rw [hm1, Nat.add_div_right _ (by (clear em hm1 hge hb hm hq hrl h4 h2 hnn hk hflat hcl hn hc; lia))]
      have m1 : (at_ + n) % (row.length + 1) = m % (row.length + 1) := by rw [hm1, Nat.add_mod_right]
      have cd : ((m / (row.length + 1) : Nat) : Int) = (m : Int) / ((row.length : Int) + 1) := by rw [Int.natCast_ediv]; rfl
      have cm : ((m % (row.length + 1) : Nat) : Int) = (m : Int) % ((row.length : Int) + 1) := by rw [Int.natCast_emod]; rfl
      have lenE : ∀ {σ : Sto}, σ.get "row" = some ⟨some br, .list (AV.row row)⟩ → True := fun _ => trivial
      refine Ex.aug rfl (Ev.binop Ev.cint (Ev.binop (Ev.binop (Ev.name rfl) (Ev.name rfl) bin_sub_int) (Ev.binop (Ev.callO (.cons (EvO.own rfl) .nil) (call_len_list' (l := AV.row row) (by rw [hrl]; (clear cm cd m1 d1 em hm1 hm hq hrl h4 hflat hcl hc; omega))) rfl rfl rfl (P.none _ (by simp)) boot_len nofun) Ev.cint bin_add_int) (bin_div_int (by rw [hrl]; (clear cm cd m1 d1 em hm1 hge hb hm hq hrl h4 h3 hnn hk hflat hcl hn hc; lia)) (by rw [hrl]; (clear cm cd m1 d1 em hm1 hm hq hrl h4 hflat hcl hc; omega)))) bin_add_int) inp_add_int (.inl rfl) ?_
      refine Ex.assign (Ev.binop (Ev.binop (Ev.name rfl) (Ev.name rfl) bin_sub_int) (Ev.binop (Ev.callO (.cons (EvO.own rfl) .nil) (call_len_list' (l := AV.row row) (by rw [hrl]; (clear cm cd m1 d1 em hm1 hm hq hrl h4 hflat hcl hc; omega))) rfl rfl rfl (P.none _ (by simp)) boot_len nofun) Ev.cint bin_add_int) (bin_mod_int (by rw [hrl]; (clear cm cd m1 d1 em hm1 hge hb hm hq hrl h4 h3 hnn hk hflat hcl hn hc; lia)))) (.inl rfl) (Ex.nil (fin _ (Sto.sub_of ⟨rfl, rfl, ?_, ?_, trivial⟩)))
      · rw [hrl, em, d1, show (((code + (m / (row.length + 1) + 1) : Nat)) : Int) = (code : Int) + (1 + ((m / (row.length + 1) : Nat) : Int)) by (clear cm m1 d1 em hm1 hge hb hm hq hrl h4 h3 h2 hnn hk hflat hcl hn hc; lia), cd]; rfl
      · rw [hrl, em, m1, cm]; rfl
  · obtain ⟨row, code, at_⟩ := p
    refine x0a2 hi fun h1 e_0 => ?_; (try clear hi); clear e_0
    rw [enum_len, nats_len, List.drop_length] at h1
    refine Ex.nil (ExT.freeze (x := "row") rfl (Ex.ret (Ev.name rfl) ?_))
    exact congrArg (fun r => Except.ok (AV.list (AV.row r))) (show layR cells ns = row from h1.symm)
end
end Mine
namespace Mine
open PySem PySem.Calls PySem.W PyProof.Rows
variable [Lo]
omit [Lo] in
noncomputable abbrev Itm := Nat × Int × Nat
omit [Lo] in
noncomputable def AV.itm (e : Itm) : AV := .tup [.str [e.1], .int e.2.1, .int (e.2.2 : Nat)]
omit [Lo] in
noncomputable def AV.itms (r : List Itm) : List AV := r.map AV.itm
omit [Lo] in
theorem itms_len (r : List Itm) : (AV.itms r).length = r.length := by unfold AV.itms; simp
omit [Lo] in
noncomputable def szO (cells : List (List Nat)) (o : Int) : Nat := if 0 ≤ o then (cells.getD o.toNat []).length else 1
omit [Lo] in
noncomputable def whole (cells : List (List Nat)) (r : List Ent) (o : Int) : Bool := decide (1 < szO cells o) && ((r.take (szO cells o)).map (·.2) == List.replicate (szO cells o) o)
omit [Lo] in
noncomputable def foldGo (sg : List Nat) (cells : List (List Nat)) : Nat → List Ent → List Itm
  | _, [] => []
  | k + 1, _ :: r => foldGo sg cells k r
  | 0, e :: r => if whole cells (e :: r) e.2 = true then (sg.getD e.2.toNat 0, e.2, szO cells e.2 - 1) :: foldGo sg cells (szO cells e.2 - 1) r else (e.1, e.2, 0) :: foldGo sg cells 0 r
omit [Lo] in
theorem foldGo_skip (sg : List Nat) (cells : List (List Nat)) : ∀ (k : Nat) (r : List Ent), foldGo sg cells k r = foldGo sg cells 0 (r.drop k)
  | 0, r => by simp
  | k + 1, [] => by simp [foldGo]
  | k + 1, e :: r => by rw [foldGo, foldGo_skip sg cells k r]; simp
omit [Lo] in
theorem whole_pos {cells : List (List Nat)} {r : List Ent} {o : Int} (h : whole cells r o = true) : 1 < szO cells o ∧ szO cells o ≤ r.length ∧ (r.take (szO cells o)).map (·.2) = List.replicate (szO cells o) o := by
  unfold whole at h
  rw [Bool.and_eq_true_iff] at h
  have h2 := eq_of_beq h.2
  have := congrArg List.length h2
  rw [List.length_map, List.length_take, List.length_replicate] at this
  exact ⟨of_decide_eq_true h.1, by lia, h2⟩
omit [Lo] in
theorem foldGo_hit {sg : List Nat} {cells : List (List Nat)} {e : Ent} {r : List Ent} (h : whole cells (e :: r) e.2 = true) :
    foldGo sg cells 0 (e :: r) = (sg.getD e.2.toNat 0, e.2, szO cells e.2 - 1) :: foldGo sg cells 0 ((e :: r).drop (szO cells e.2)) := by
  have h1 := (whole_pos h).1
  obtain ⟨m, hm⟩ : ∃ m, szO cells e.2 = m + 1 := ⟨szO cells e.2 - 1, by lia⟩
  rw [foldGo, if_pos h, foldGo_skip, hm]
  simp
omit [Lo] in
theorem foldGo_miss {sg : List Nat} {cells : List (List Nat)} {e : Ent} {r : List Ent} (h : ¬ whole cells (e :: r) e.2 = true) : foldGo sg cells 0 (e :: r) = (e.1, e.2, 0) :: foldGo sg cells 0 r := by
  rw [foldGo, if_neg h]
omit [Lo] in
theorem foldGo_len (sg : List Nat) (cells : List (List Nat)) : ∀ (n : Nat) (r : List Ent), r.length = n → (foldGo sg cells 0 r).length ≤ r.length := by
  intro n
  induction n using Nat.strongRecOn with
  | ind n ih =>
    intro r hn
    cases r with
    | nil => simp [foldGo]
    | cons e r =>
      simp only [List.length_cons] at hn
      by_cases h : whole cells (e :: r) e.2 = true
      · have h1 := whole_pos h
        rw [foldGo_hit h, List.length_cons]
        have hd : ((e :: r).drop (szO cells e.2)).length = (e :: r).length - szO cells e.2 := List.length_drop ..
        rw [List.length_cons] at hd
        have := ih ((e :: r).drop (szO cells e.2)).length (by omega) _ rfl
        rw [List.length_cons]; (clear hn; omega)
      · rw [foldGo_miss h, List.length_cons, List.length_cons]
        have := ih r.length (by lia) r rfl
        (clear hn; lia)
omit [Lo] in
theorem cutL_mid {α : Type} {l : List α} {i n : Nat} (h : i ≤ l.length) : cutL (some (i : Int)) (some ((i : Int) + (n : Int))) l = (l.drop i).take n := by
  unfold cutL
  simp only [Option.elim_some, clipAt_nat h]
  by_cases h2 : i + n ≤ l.length
  · rw [show (i : Int) + (n : Int) = ((i + n : Nat) : Int) by (clear h2 h; lia), clipAt_nat h2, show i + n - i = n by lia]
  · have : clipAt l.length ((i : Int) + (n : Int)) = l.length := by unfold clipAt; split <;> omega
    rw [this, List.take_of_length_le (by rw [List.length_drop]; (clear this h2 h; lia)), List.take_of_length_le (by rw [List.length_drop]; (clear this h; lia))]
omit [Lo] in
theorem row_get {r : List Ent} {i : Nat} {e : Ent} (h : r[i]? = some e) : (AV.row r)[((i : Nat) : Int).toNat]? = some (.tup [.str [e.1], .int e.2]) := by
  rw [Int.toNat_natCast]
  unfold AV.row; rw [List.getElem?_map, h]; rfl
omit [Lo] in
theorem row_drop_take (r : List Ent) (i n : Nat) : ((AV.row r).drop i).take n = AV.row ((r.drop i).take n) := by
  unfold AV.row; rw [List.map_take, List.map_drop]
omit [Lo] in
theorem repl_ints (n : Nat) (o : Int) : (List.replicate n [AV.int o]).flatten = AV.ints (List.replicate n o) := by
  induction n with
  | zero => rfl
  | succ n ih => rw [List.replicate_succ, List.replicate_succ, List.flatten_cons, ih]; rfl
section
variable {prog : Program} {w : World} {G : Pg}
set_option maxHeartbeats 1000000
set_option maxRecDepth 8000
theorem walk_fold (P : ModG G) {row : List Ent} {sg : List Nat} {cells : List (List Nat)} (hr : row.length ≤ 10000) (hs : sg.length = cells.length) (hc : cells.length ≤ 1000) (h5 : ∀ c ∈ cells, c.length ≤ 5) (ho : ∀ e ∈ row, e.2 < (cells.length : Int)) :
    FSpec prog w G 1 "_law_fold" [.list (AV.row row), .list (AV.strs (ones sg)), .list (AV.strs cells)] (.ok (.list (AV.itms (foldGo sg cells 0 row)))) := by
  refine x4a1 (P.fold) fun a pm cd doc hf => ?_
  refine FSpec.of hf (body := bodyOf stLFold) (ps := ["row", "signs", "cells"]) rfl (.plain fun vals hv => ?_) (fun A L T s B fr => ?_)
  · refine x3a1 (len3 hv) fun a b c e_0 => ?_; subst e_0; rfl
  have hrl := row_len row
  have hcl := strs_len cells
  have hsl : (AV.strs (ones sg)).length = sg.length := by rw [strs_len, ones_len]
  refine Ex.assign_own (EvN.list .nil) (.inl rfl) fun br => ?_
  refine Ex.assign Ev.cint (.inl rfl) ?_
  refine Ex.whileC fcx_top (P := Nat × List Itm) (fun p => [("row", ⟨none, .list (AV.row row)⟩), ("signs", ⟨none, .list (AV.strs (ones sg))⟩), ("cells", ⟨none, .list (AV.strs cells)⟩), ("read", ⟨some br, .list (AV.itms p.2)⟩), ("i", ⟨none, .int (p.1 : Nat)⟩)])
    (fun n p => n = row.length - p.1 ∧ p.1 ≤ row.length ∧ p.2 ++ foldGo sg cells 0 (row.drop p.1) = foldGo sg cells 0 row) (fun n p hi => ?_) row.length (0, []) ⟨by simp, by simp, by simp⟩ ⟨rfl, rfl, rfl, rfl, rfl, trivial⟩
  obtain ⟨i, acc⟩ := p
  dsimp only at hi ⊢
  refine x0a3 hi fun hn hile hacc => ?_; (try clear hi)
  have hal : acc.length ≤ 10000 := by
    have h1 := congrArg List.length hacc
    rw [List.length_append] at h1
    have := foldGo_len sg cells row.length row rfl
    (clear hile hn hsl hcl hrl hc hs; lia)
  refine ⟨decide ((i : Int) < (row.length : Int)), ?_, fun hb => ?_, fun hb => ?_⟩
  · rw [← hrl]
    exact Te.cmp (Ev.name rfl) (Ev.callB (.cons (Ev.name rfl) .nil) (call_len_list' (by (clear hal hn hsl hcl hc hs; lia))) rfl rfl (P.none _ (by simp)) boot_len nofun) cmp_lt_int
  · have hlt : i < row.length := by have := of_decide_eq_true hb; (clear hal hn hsl hcl hrl hc hs; omega)
    obtain ⟨e, he⟩ : ∃ e, row[i]? = some e := ⟨_, List.getElem?_eq_getElem hlt⟩
    have hd := drop_of_get he
    have hem := List.mem_of_getElem? he
    have hoc := ho e hem
    rw [hd] at hacc
    have hgr := get_list (l := AV.row row) (i := ((i : Nat) : Int)) (by (clear hoc hlt hal hile hn hsl hcl hrl hc hs hr; lia)) (row_get he) (by (clear hoc hal hn hsl hcl hc hs; lia))
    refine Ex.assign (v := .int e.2) (Ev.index (Ev.index (Ev.name rfl) (Ev.name rfl) hgr) Ev.cint (get_tup (by (clear hoc hlt hal hile hn hsl hcl hrl hc hs hr; lia)) rfl (by simp))) (.inl rfl) ?_
    have hcg : 0 ≤ e.2 → (AV.strs cells)[e.2.toNat]? = some (.str (cells.getD e.2.toNat [])) := fun h0 => by
      unfold AV.strs
      rw [List.getElem?_map, List.getElem?_eq_getElem (by (clear hlt hal hile hn hsl hcl hrl hs hr; lia))]
      simp [List.getD, List.getElem?_eq_getElem (show e.2.toNat < cells.length by (clear hlt hal hile hn hsl hcl hrl hs hr; lia))]
    have hsz : szO cells e.2 ≤ 5 := by
      unfold szO
      split
      · refine h5 _ ?_
        simp [List.getD, List.getElem?_eq_getElem (show e.2.toNat < cells.length by (clear hlt hal hile hn hsl hcl hrl hs hr; lia))]
      · (clear hoc hlt hal hile hn hsl hcl hrl hc hs hr; lia)
    refine Ex.assign (v := .int (szO cells e.2 : Nat)) (Ev.ifexp (Te.cmp (Ev.name rfl) Ev.cint cmp_ge_int) (fun hb => ?_) (fun hb => ?_)) (.inl rfl) ?_
    · have h0 : 0 ≤ e.2 := by simpa using hb
      have e1 : szO cells e.2 = (cells.getD e.2.toNat []).length := by unfold szO; rw [if_pos h0]
      rw [e1]
      exact Ev.callB (.cons (Ev.index (Ev.name rfl) (Ev.name rfl) (get_list h0 (hcg h0) (by (clear e1 h0 hsz hoc hlt hal hile hn hsl hrl hs hr; lia)))) .nil) (call_len_str' (by (clear hoc hlt hal hile hn hsl hcl hrl hc hs hr; lia))) rfl rfl (P.none _ (by simp)) boot_len nofun
    · have h0 : ¬ 0 ≤ e.2 := by simpa using hb
      have e1 : szO cells e.2 = 1 := by unfold szO; rw [if_neg h0]
      rw [e1]
      exact Ev.cint
    have hcut : cutL (some (i : Int)) (some ((i : Int) + (szO cells e.2 : Nat))) (AV.row row) = AV.row ((e :: row.drop (i + 1)).take (szO cells e.2)) := by
      rw [cutL_mid (by (clear hsz hoc hlt hal hn hsl hcl hc hs; lia)), row_drop_take, hd]
    have hw : whole cells (e :: row.drop (i + 1)) e.2 = (decide ((szO cells e.2 : Int) > 1) && ((((e :: row.drop (i + 1)).take (szO cells e.2)).map (·.2) == List.replicate (szO cells e.2) e.2) && true)) := by
      unfold whole
      rw [Bool.and_true]
      congr 1
      rw [decide_eq_decide]; (clear hsz hoc hlt hal hile hn hsl hcl hrl hs hr; omega)
    refine Ex.ite (Te.and (Ands.cons (Te.cmp (Ev.name rfl) Ev.cint cmp_gt_int) fun _ => Ands.cons (Te.cmp (EvN.ev (EvN.mapCT (σc := []) (ns := ["c", "k"]) (ys := AV.ints (((e :: row.drop (i + 1)).take (szO cells e.2)).map (·.2))) (EvI.list (Ev.slice (Ev.name rfl) (.some (Ev.name rfl)) (.some (Ev.binop (Ev.name rfl) (Ev.name rfl) bin_add_int)) (slice_list (by (clear hsz hoc hal hn hsl hcl hc hs; lia)))) rfl) ⟨rfl, rfl, by decide, by decide, rfl⟩ .nil rfl
        (fun _ _ _ => .cons (.inl rfl) (.cons (.inl rfl) .nil)) (by decide) (by rw [hcut, row_len]; unfold AV.ints; rw [List.length_map, List.length_map]) (by have := cutL_length_le (some (i : Int)) (some ((i : Int) + (szO cells e.2 : Nat))) (AV.row row); (clear hoc hlt hal hile hn hsl hcl hc hs; lia)) (fun C D T₁ s₁ k v y hv hy => ?_)) ⟨fun _ q => (by cases q), fun q => (by cases q)⟩)
      (Ev.binop (Ev.list (.cons (Ev.name rfl) .nil) (Nat.le_of_ble_eq_true rfl)) (Ev.name rfl) ?_) (cmp_eq_ints (m := List.replicate (szO cells e.2) e.2))) fun _ => Ands.nil)) (fun hb => ?_) (fun hb => ?_)
    · rw [hcut] at hv
      unfold AV.row at hv
      rw [List.getElem?_map] at hv
      refine x1a2 (Option.map_eq_some_iff.mp hv) fun f hf1 e_0 => ?_; subst e_0
      unfold AV.ints at hy
      rw [List.getElem?_map, List.getElem?_map, hf1] at hy
      (have hy := Option.some.inj hy; subst hy)
      exact ⟨_, rfl, rfl, Ev.name rfl⟩
    · rw [← repl_ints]
      exact bin_mul_list (l := [.int e.2]) (i := (szO cells e.2 : Nat)) (by (clear hsz hoc hlt hal hile hn hsl hcl hrl hs hr; lia)) (by rw [Int.toNat_natCast]; simp; (clear hoc hlt hal hile hn hsl hcl hrl hs hr; lia)) (by (clear hoc hlt hal hile hn hsl hcl hrl hs hr; lia))
    · have hb := hw.trans hb
      have hw2 := whole_pos hb
      rw [foldGo_hit hb] at hacc
      have h0 : 0 ≤ e.2 := by
        have := hw2.1
        unfold szO at this
        split at this
        · assumption
        · (clear hw2 hsz hoc hlt hal hile hn hsl hcl hrl hc hs hr; lia)
      have hsg : (AV.strs (ones sg))[e.2.toNat]? = some (.str [sg.getD e.2.toNat 0]) := by
        unfold AV.strs ones
        rw [List.getElem?_map, List.getElem?_map, List.getElem?_eq_getElem (by (clear hw2 hlt hal hile hn hsl hcl hrl hr; lia))]
        simp [List.getD, List.getElem?_eq_getElem (show e.2.toNat < sg.length by (clear hw2 hlt hal hile hn hsl hcl hrl hr; lia))]
      refine Ex.mut (x := "read") (av := .list (AV.itms acc)) rfl meth_append (.cons (Ev.tuple (.cons (Ev.index (Ev.name rfl) (Ev.name rfl) (get_list h0 hsg (by (clear h0 hw2 hsz hoc hlt hal hile hn hcl hrl hr; lia)))) (.cons (Ev.name rfl) (.cons (Ev.binop (Ev.name rfl) Ev.cint bin_sub_int) .nil))) (Nat.le_of_ble_eq_true rfl)) .nil) (mut_append (by rw [itms_len]; (clear h0 hw2 hsz hoc hlt hile hn hsl hcl hrl hc hs hr; lia))) rfl ?_
      refine Ex.aug rfl (Ev.name rfl) inp_add_int (.inl rfl) (Ex.nil (Ex.nil ?_))
      have hdl : (e :: row.drop (i + 1)).length = row.length - i := by rw [← hd, List.length_drop]
      refine ⟨(i + szO cells e.2, acc ++ [(sg.getD e.2.toNat 0, e.2, szO cells e.2 - 1)]), row.length - (i + szO cells e.2), Sto.sub_of ⟨rfl, rfl, rfl, ?_, ?_, trivial⟩, by (clear hdl hsz hcg hoc hal hsl hcl hrl hc hs hr; omega), rfl, by dsimp only; (clear hlt hal hn hsl hcl hrl hs; omega), ?_⟩
      · have e2 : (szO cells e.2 : Int) - 1 = ((szO cells e.2 - 1 : Nat) : Int) := by (clear h0 hsz hoc hlt hal hile hn hsl hcl hrl hc hs hr; omega)
        rw [e2]
        show some _ = some _
        unfold AV.itms
        rw [List.map_append]
        rfl
      · rfl
      · dsimp only
        rw [← hacc, List.append_assoc, ← hd, List.drop_drop]
        rfl
    · have hb := hw.trans hb
      rw [foldGo_miss (by rw [hb]; decide)] at hacc
      refine Ex.mut (x := "read") (av := .list (AV.itms acc)) rfl meth_append (.cons (Ev.tuple (.cons (Ev.index (Ev.index (Ev.name rfl) (Ev.name rfl) hgr) Ev.cint (get_tup (by (clear hsz hoc hlt hal hile hn hsl hcl hrl hc hs hr; lia)) rfl (by simp))) (.cons (Ev.name rfl) (.cons Ev.cint .nil))) (Nat.le_of_ble_eq_true rfl)) .nil) (mut_append (by rw [itms_len]; (clear hsz hoc hlt hile hn hsl hcl hrl hc hs hr; lia))) rfl ?_
      refine Ex.aug rfl Ev.cint inp_add_int (.inl rfl) (Ex.nil (Ex.nil ?_))
      refine ⟨(i + 1, acc ++ [(e.1, e.2, 0)]), row.length - (i + 1), Sto.sub_of ⟨rfl, rfl, rfl, ?_, ?_, trivial⟩, by (clear hcg hal hrl; lia), rfl, by dsimp only; (clear hsz hoc hal hn hsl hcl hrl hc hs; lia), ?_⟩
      · show some _ = some _
        unfold AV.itms
        rw [List.map_append]
        rfl
      · rfl
      · dsimp only
        rw [← hacc, List.append_assoc]
        rfl
  · have hge : i = row.length := by have := of_decide_eq_false hb; (clear hal hn hsl hcl hrl hc hs; lia)
    subst hge
    rw [List.drop_length] at hacc
    simp only [foldGo, List.append_nil] at hacc
    subst hacc
    exact Ex.nil (ExT.freeze (x := "read") rfl (Ex.ret (Ev.name rfl) rfl))
end
end Mine
namespace Mine
open PySem PySem.Calls PySem.W PyProof.Rows
variable [Lo]
omit [Lo] in
theorem TupAt.pair {h : Heap} {a : Addr} (x : TupAt h a) : ∃ u v, IsPair h a u v := by
  refine x1a4 x fun t_0 ho hc hd t_1 => ?_; (try clear x); obtain ⟨c, d, dt, sl⟩ := t_0; refine x2a2 t_1 fun u v hdt hs => ?_; (try clear t_1)
  dsimp only at hc hd hdt hs
  subst hc hd hdt hs
  exact ⟨u, v, ho⟩
omit [Lo] in
theorem tupAt_of {h : Heap} {a : Addr} {u v : Value} (x : IsPair h a u v) : TupAt h a := ⟨_, x, rfl, rfl, u, v, rfl, rfl⟩
theorem Sto.updL_sub {σ' σ : Sto} (h : Sto.Sub σ' σ) : ∀ (xs : List Str) (vs : List AV), Sto.Sub (σ'.updL xs vs) (σ.updL xs vs)
  | [], _ => by simpa [Sto.updL] using h
  | _ :: _, [] => by simpa [Sto.updL] using h
  | x :: xs, v :: vs => by
    refine Sto.updL_sub (σ' := σ'.upd x v) (σ := σ.upd x v) (fun y d e => ?_) xs vs
    rw [Sto.get_cons] at e ⊢
    by_cases q : y = x
    · rw [if_pos q] at e ⊢; exact e
    · rw [if_neg q] at e ⊢; exact h y d e
section
variable {X : Cx} {σ : Sto} {Q : Post}
theorem StB.addHid {T T' : Tx} {s s' : Shared} (S : St X σ T s) (l : Le T s T' s') {a : Addr} (ha : s.heap.objs.size ≤ a) (hk : X.env.kindOf "__classdict__" = none) (r : TupAt s'.heap a) : St X (σ.updO "__classdict__" a .hid) T' s' := by
  have hno : ∀ b, X.ban σ b → b ≠ a := fun b hb q => by
    subst q; exact Nat.lt_irrefl _ (Nat.lt_of_lt_of_le (StB.ban_lt S hb) ha)
  have hnone : s.heap.get? a = none := Heap.get?_none_of_le ha
  have S' : StB (fun b => X.ban σ b ∨ b = a) X σ T' s' := S.le_ban l fun b q => q.imp id fun (e : b = a) => e ▸ hnone
  refine x1a2 (S'.vars) fun m hn hv => ?_
  refine StB.anti (B := fun b => X.ban σ b ∨ b = a) ?_ fun _ b => Cx.ban_updO b
  exact {
    ok := S'.ok
    le := S'.le
    pos := S'.pos
    fro := S'.fro
    vars := ⟨m, hn, fun y c e => by
      rw [Sto.get_cons] at e
      by_cases q : y = "__classdict__"
      · subst q
        rw [if_pos rfl] at e; (have e := Option.some.inj e; subst e)
        exact ⟨.ref a, by unfold VarAt; rw [hk], rfl, .hid r⟩
      · rw [if_neg q] at e; exact hv y c e⟩
    cells := S'.cells
    apart := S'.apart
    fresh := fun b t_0 => x2a1 t_0 fun y w e => by
      rw [Sto.get_cons] at e
      split at e
      · cases Option.some.inj e
        exact ⟨Nat.le_trans S.le.ext.1 ha, fun q => hno _ (.inr (.inl q)) rfl, fun y q => hno _ (.inr (.inr (.inl ⟨y, q⟩))) rfl⟩
      · exact S'.fresh b ⟨y, w, e⟩
    one := fun y z b w w' h1 h2 => by
      rw [Sto.get_cons] at h1 h2
      split at h1
      · rename_i q1
        split at h2
        · rename_i q2; rw [q1, q2]
        · cases Option.some.inj h1; exact absurd rfl (hno _ (.inr (.inr (.inr ⟨z, w', h2⟩))))
      · split at h2
        · cases Option.some.inj h2; exact absurd rfl (hno _ (.inr (.inr (.inr ⟨y, w, h1⟩))))
        · exact S'.one y z b w w' h1 h2 }
end
section
variable {prog : Program} {w : World} {A : Around} {E : Value → Shared → Prop} {s : Shared}
theorem zip_end1 {z TI TO i1 i2 l1 l2 : Addr} {k1 : Nat} {xs : Array Value} {Q : Option Value → Shared → Prop} (hh : A.handled = none) (D : ZipApart z TI TO i1 i2 l1 l2)
    (hz : IsZip s.heap z TI TO .none) (hTI : IsPair s.heap TI (.ref i1) (.ref i2))
    (h1 : s.heap.IsListIter i1 l1 k1) (hl1 : s.heap.IsList l1 xs) (hx : xs[k1]? = none)
    (hQ : ∀ h', (∀ c o, c ≠ z → c ≠ i1 → s.heap.get? c = some o → h'.get? c = some o) → Q none { s with heap := h' }) : wpAny (model prog w) A (pyNext (.ref z)) Q E s := by
  have hT : s.TypeIs (.ref z) "zip" := ⟨_, hz, rfl⟩
  unfold pyNext
  refine wpAny_bind (wpAny_attempt (wpAny_callSpecial?_slot (name := Str.ofString "__next__") hT F.slot_zip_next
    (wpAny_call_entry F.slot_zip_next hT F.entry_zip_next ?_ (F.args_zip_next_1 _))))
  show wpAny _ _ (field (.ref z) 2 >>= _) _ _ _
  refine wpAny_bind (wpAny_field hz rfl (x := .bool false) rfl ?_)
  show wpAny _ _ (field (.ref z) 3 >>= _) _ _ _
  refine wpAny_bind (wpAny_field hz rfl (x := .ref TI) rfl ?_)
  refine wpAny_bind (wpAny_seqItems hTI rfl ?_)
  show wpAny _ _ (Builtin.SmallTypes.ownedTupleIsFree (.ref z) >>= _) _ _ _
  refine wpAny_bind ?_
  unfold Builtin.SmallTypes.ownedTupleIsFree
  refine wpAny_bind (wpAny_field hz rfl (x := .none) rfl (wpAny_pure ?_))
  simp only [if_true]
  refine wpAny_bind (wpAny_rule ?_)
  refine wpAny_bind (wpAny_field hz rfl (x := .ref TO) rfl ?_)
  refine wpAny_bind (wpAny_setField_rec hz (by simp) fun h₁ hz₁ hs₁ => ?_)
  replace hz₁ : IsZip h₁ z TI TO .ellipsis := hz₁
  refine wpAny_bind ?_
  simp only [List.zipIdx_cons, List.zipIdx_nil, List.forIn_cons, List.forIn_nil]
  refine wpAny_bind (wpAny_bind (wpAny_onRaise ?_))
  show wpAny _ _ (Builtin.SmallTypes.nextOf (.ref i1) >>= _) _ _ _
  refine wpAny_bind (wpAny_nextOf_list_end hh (h1.extBut hs₁.extBut D.i1z) (hl1.extBut hs₁.extBut D.l1z) hx fun h₂ e hs₂ he => ?_)
  refine x1a2 he fun oe hoe hce => ?_; (try clear he)
  have hz₂ : IsZip h₂ z TI TO .ellipsis := hs₂ _ _ D.i1z.symm hz₁
  have hez : e ≠ z := fun x => by subst x; rw [hz₂] at hoe; (have hoe := Option.some.inj hoe; subst hoe); simp at hce
  refine wpAny_setField_rec hz₂ (by simp) fun h₃ _ hs₃ => ?_
  refine wpAny_bind (wpAny_isInstance (T := "StopIteration") (b := true) ⟨oe, hs₃.extBut _ _ hez hoe, hce⟩ isSubtype_stop ?_)
  exact wpAny_pure (hQ _ fun c o c1 c3 x => hs₃.extBut _ _ c1 (hs₂ _ _ c3 (hs₁.extBut _ _ c1 x)))
end
section
variable {X : Cx} {σ : Sto} {Q : Post}
theorem Ex.forZ {P : Type} {elts : List Expr} {kx : Nat} {px p pos fpos : Pos} {e1 e2 : Expr} {ns : List Str} {body orelse rest : List Stmt} {xs ys : List AV} (ht : X.Top) (h1 : Ev X e1 σ (.list xs)) (h2 : Ev X e2 σ (.list ys)) (hlen : xs.length ≤ ys.length) (hq : X.quiet = true)
    (hkind : X.env.kindOf "zip" = some .globalImplicit) (hg : X.G.mg "zip" = none) (hkz : X.env.kindOf "__classdict__" = none) (hn : NamesT X elts ns) (h2n : ns.length = 2) (C : Addr → P → Sto) (Inv : Nat → P → Prop) (hC : ∀ z p, (C z p).get "__classdict__" = some ⟨some z, .hid⟩)
    (turn : ∀ z k x y p, xs[k]? = some x → ys[k]? = some y → Inv k p → ∀ R : Post, (∀ p' σ', Sto.subB (C z p') σ' → Inv (k + 1) p' → R .next σ') → (∀ o σ', Turn X rest Q (fun _ => False) o σ' → R o σ') → Ex X body ((C z p).updL ns [x, y]) R)
    (fin : ∀ z p, Inv xs.length p → Ex X orelse (C z p) (Seq X rest Q)) (p0 : P) (h0 : Inv 0 p0) (hs0 : ∀ z, Sto.subB (C z p0) (σ.updO "__classdict__" z .hid))
    (he : autoParam (starEach [e1, e2] X.env = (false, eval e1 X.env) :: starEach [e2] X.env) byRfl) (he2 : autoParam (starEach [e2] X.env = [(false, eval e2 X.env)]) byRfl) (hst : autoParam ((backTo pos (starEach [e1, e2] X.env)).any (·.1) = false) byRfl)
    (hcall : autoParam (eval (.Call (.Name "zip" p) [e1, e2] [] pos) X.env = (do callWith pos (← eval (.Name "zip" p) X.env) [] (backTo pos (starEach [e1, e2] X.env)) (backToKw pos (keywordEach [] X.env)))) byRfl)
    (hf : autoParam (∀ x, foldedSetIterable (.Call (.Name "zip" p) [e1, e2] [] pos) X.env x = pure x) byI1) :
    Ex X (.For (.Tuple elts kx px) (.Call (.Name "zip" p) [e1, e2] [] pos) body orelse fpos :: rest) σ Q := .cons fun T s S => by
  have hs := S.le.ext.1
  refine wq_For ?_ hf
  refine wq_Call (S.load_builtin hkind hg (v := .type "zip") (by decide +kernel) ?_) hcall
  refine wq_callWith_plain (fun _ => by simp) hst ?_
  have hargs := EvL.cons h1 (EvL.cons h2 EvL.nil he2) he
  unfold EvL at hargs
  rw [he] at hargs ⊢
  refine wq_evalArgs (wq_mono (hargs T s S pos) (fun vs s₁ t_0 => x1a2 t_0 fun T₁ l₁ rl => ?_) fun _ _ x => x.elim)
  have S₁ := S.le_mono l₁
  cases rl using RepL.cCons with
  | cons r₁ rl =>
  cases rl using RepL.cCons with
  | cons r₂ rl =>
  cases rl using RepL.cNil
  cases r₁ using Rep.cList with
  | @list a1 it1 _ hb1 hl1 hsz1 hi1 =>
  cases r₂ using Rep.cList with
  | @list a2 it2 _ hb2 hl2 hsz2 hi2 =>
  refine wq_of (call_zip_2 hl1.is hl2.is fun h' hz hTI hTO hj1 hj2 hsz' hk' => ?_)
  refine wq_of (wpAny_pyIter_zip hz ?_)
  have lt1 : a1 < s₁.heap.objs.size := by refine x1a2 hl1 fun o ho _ => ?_; (try clear hl1); exact Heap.lt_size ho
  have lt2 : a2 < s₁.heap.objs.size := by refine x1a2 hl2 fun o ho _ => ?_; (try clear hl2); exact Heap.lt_size ho
  have D : ZipApart (s₁.heap.objs.size + 4) (s₁.heap.objs.size + 2) (s₁.heap.objs.size + 3) s₁.heap.objs.size (s₁.heap.objs.size + 1) a1 a2 := zipApart_new lt1 lt2
  generalize hz4 : s₁.heap.objs.size + 4 = z at hz D ⊢
  generalize hz2 : s₁.heap.objs.size + 2 = TI at hz hTI D ⊢
  generalize hz3 : s₁.heap.objs.size + 3 = TO at hz hTO D ⊢
  generalize hz1 : s₁.heap.objs.size + 1 = i2 at hTI hj2 D ⊢
  generalize hz0 : s₁.heap.objs.size = i1 at hTI hj1 D
  have hge : ∀ b : Addr, b = z ∨ b = TI ∨ b = i1 ∨ b = i2 → s₁.heap.objs.size ≤ b := fun b hb => by rcases hb with rfl | rfl | rfl | rfl <;> omega
  have l₂ : Le T₁ s₁ T₁ { s₁ with heap := h' } := .mk' (.keeps (by (clear hz1 hz3 hz2 hz4 hsz2 hsz1 hs h2n hlen; lia)) hk') (Nat.le_refl _)
  have SZ : St X (σ.updO "__classdict__" TO .hid) T₁ { s₁ with heap := h' } := S₁.addHid l₂ (by (clear hz1 hz2 hz4 hsz' hsz2 hsz1 hs h2n hlen; lia)) hkz (tupAt_of hTO)
  have nx0 : Nx X σ T s (σ.updO "__classdict__" TO .hid) T₁ { s₁ with heap := h' } := ⟨SZ, (l₁.trans l₂).leB _, fun b hb q => by
    rcases Cx.ban_updO q with q | q
    · exact q
    · subst q; have := l₁.ext.1; (clear hz0 hz1 hz2 hz4 hsz2 hsz1 hs h2n hlen; lia)⟩
  have nx1 := nx0.sub (Sto.sub_of (hs0 TO))
  let J : Nat → Heap → Prop := fun k h => IsZip h z TI TO .none ∧ IsPair h TI (.ref i1) (.ref i2) ∧ h.IsListIter i1 a1 k ∧ h.IsListIter i2 a2 k
  let K : Nat → Shared → Prop := fun n s' => ∃ T' σ' k p, n = xs.length - k ∧ k ≤ xs.length ∧ Nx X σ T s σ' T' s' ∧ LeB (X.ban σ) T₁ s₁ T' s' ∧ (∀ b, b < s₁.heap.objs.size → X.ban σ' b → X.ban σ b) ∧ (∀ b, b = z ∨ b = TI ∨ b = i1 ∨ b = i2 → ¬ X.ban σ' b) ∧ J k s'.heap ∧ Sto.Sub (C TO p) σ' ∧ Inv k p
  have onx : ∀ (s₂ : Shared) (e : Value), PX X σ T s Q e s₂ → notedBy X.M X.A X.env (fun e s' => cameBackBy X.M X.A X.env (PX X σ T s Q) e s') e s₂ := by
    rintro s₂ e ⟨T', x, σ', a, rfl, n', ea, q⟩
    exact notedX ht rfl hs n' ea fun s₃ n₃ ea₃ => cameX hs n₃ ea₃ fun s₄ n₄ ea₄ => ⟨T', x, σ', a, rfl, n₄, ea₄.weak (Nat.le_refl _), q⟩
  have hbS : ∀ b, X.ban σ b → b < s₁.heap.objs.size := fun b q => S₁.ban_lt q
  have hbZ : ∀ b, X.ban (C TO p0) b → X.ban σ b ∨ b = TO := fun b q => Cx.ban_updO (Cx.ban_sub (Sto.sub_of (hs0 TO)) q)
  refine cq_forLoop K (fun n s' ⟨T', σ', k, p, hn', hk, nx, lb, hb, hIo, ⟨jz, jt, j1, j2⟩, hsub, hI⟩ => ?_) xs.length
    ⟨T₁, _, 0, p0, rfl, Nat.zero_le _, nx1, l₂.leB _, fun b hb q => by
      rcases hbZ b q with q | q
      · exact q
      · subst q; (clear hz0 hz1 hz2 hz4 hsz' hsz2 hsz1 hs h2n hlen; lia), fun b hb q => by
      rcases hbZ b q with q | q
      · exact Nat.lt_irrefl _ (Nat.lt_of_lt_of_le (hbS b q) (hge b hb))
      · subst q
        rcases hb with h | h | h | h
        · exact D.TOz h
        · exact D.TITO h.symm
        · exact D.TOi1 h
        · exact D.TOi2 h, ⟨hz, hTI, hj1, hj2⟩, fun _ _ e => e, h0⟩
  have hx0 := hsub _ _ (hC TO p)
  obtain ⟨ua, ub, hTO'⟩ : ∃ u v, IsPair s'.heap TO u v := by
    have := nx.st.ownAt hx0
    cases this with
    | hid q => exact q.pair
  have hl1' := isLst_leB hl1 hb1 lb
  have hl2' := isLst_leB hl2 hb2 lb
  by_cases hkx : k < xs.length
  · obtain ⟨x, hx⟩ : ∃ x, xs[k]? = some x := ⟨_, List.getElem?_eq_getElem hkx⟩
    obtain ⟨y, hy⟩ : ∃ y, ys[k]? = some y := ⟨_, List.getElem?_eq_getElem (by (clear hz0 hz1 hz3 hz2 hz4 hsz' hsz2 hsz1 hs h2n; lia))⟩
    obtain ⟨u, hv1⟩ : ∃ u, it1[k]? = some u := ⟨_, Array.getElem?_eq_getElem (by (clear hz0 hz1 hz3 hz2 hz4 hsz' hsz2 hs h2n hlen; lia))⟩
    obtain ⟨v, hv2⟩ : ∃ v, it2[k]? = some v := ⟨_, Array.getElem?_eq_getElem (by (clear hz0 hz1 hz3 hz2 hz4 hsz' hsz1 hs h2n; lia))⟩
    refine wq_of (wpAny_pyNext_zip_item D jz jt hTO' j1 j2 hl1'.is hl2'.is hv1 hv2 fun h₁ z1 t1 j1' j2' tp hsz₁ hk₁ => ?_)
    refine wq_of (wpAny_letOwnedTupleGo_zip z1 fun h₂ z2 sb₂ => ?_)
    have tlt : TO < s'.heap.objs.size := Heap.lt_size hTO'
    have sbA := Heap.SameBut.update (h := s'.heap) (a := TO) (f := fun _ => ({ cls := .type "tuple", data := .seq #[u, v] } : Obj))
    have gA : IsPair (s'.heap.update TO fun _ => { cls := .type "tuple", data := .seq #[u, v] }) TO u v := Heap.get?_update_self _ hTO' rfl
    generalize s'.heap.update TO (fun _ => { cls := .type "tuple", data := .seq #[u, v] }) = hA at sbA gA
    have nA := Nx.turned nx.st (.refl _ _) hx0 sbA (.hid (tupAt_of gA))
    have nA' : Nx X σ' T' s' σ' T' { s' with heap := hA } := nA.sub fun y' c e => by
      rw [Sto.get_cons]
      by_cases q : y' = ("__classdict__" : Str)
      · subst q; rw [if_pos rfl, ← hx0]; exact e
      · rw [if_neg q]; exact e
    have hsh : Shift s₁.heap.objs.size hA h₂ := by
      refine .but (P := fun b => b = z ∨ b = i1 ∨ b = i2) ?_ (fun b q => hge b (q.imp id .inr)) (fun b o q e => ?_) fun b o q e => ?_
      · rw [show h₂.objs.size = h₁.objs.size from sb₂.1, hsz₁, show hA.objs.size = s'.heap.objs.size from sbA.1]; (clear hsz₁ hkx hk hn' hz0 hz1 hz3 hz2 hz4 hsz' hsz2 hsz1 hs h2n hlen; lia)
      · have hne : b ≠ TO := fun e => by
          rcases q with q | q | q
          · exact D.TOz (e.symm.trans q)
          · exact D.TOi1 (e.symm.trans q)
          · exact D.TOi2 (e.symm.trans q)
        have e' : s'.heap.get? b = some o := (sbA.2 b hne).symm.trans e
        rcases q with rfl | rfl | rfl
        · rw [jz] at e'; (have e' := Option.some.inj e'; subst e'); exact ⟨⟨_, rfl⟩, by simp⟩
        · refine x1a3 j1 fun o1 f1 f2 f3 => ?_; (try clear j1)
          rw [f1] at e'; (have e' := Option.some.inj e'; subst e'); exact ⟨⟨_, f3⟩, by rw [f2]; simp⟩
        · refine x1a3 j2 fun o1 f1 f2 f3 => ?_; (try clear j2)
          rw [f1] at e'; (have e' := Option.some.inj e'; subst e'); exact ⟨⟨_, f3⟩, by rw [f2]; simp⟩
      · have nz : b ≠ z := fun e => q (.inl e)
        by_cases hne : b = TO
        · subst hne
          rw [gA] at e; (have e := Option.some.inj e; subst e)
          exact (sb₂.2 _ nz).trans t1
        · have e' : s'.heap.get? b = some o := (sbA.2 b hne).symm.trans e
          exact (sb₂.2 _ nz).trans (hk₁ b o nz hne (fun e => q (.inr (.inl e))) (fun e => q (.inr (.inr e))) e')
    have mv : Mv s₁.heap.objs.size T' { s' with heap := hA } T' { s' with heap := h₂ } := ⟨hsh, Nat.le_refl _, fun _ _ => rfl, rfl, rfl⟩
    have nxA := nx.trans nA'
    have nx₄ := nxA.mv mv l₁.ext.1 hs
    have lb₄ := (lb.trans nA'.le hb).mv mv (Nat.le_refl _)
    have hnew : h₂.get? s'.heap.objs.size = some { cls := .type "tuple", data := .seq #[u, v] } := (sb₂.2 _ (Nat.ne_of_gt (Heap.lt_size jz))).trans tp
    have rep : Rep X.w (X.ban σ') T' s'.toks h₂ (.ref s'.heap.objs.size) (.tup [x, y]) := .tup (fun q => Nat.lt_irrefl _ (nx.st.ban_lt q)) ⟨_, hnew, rfl, _, rfl⟩ rfl (by
      intro i v' x' g1 g2
      rcases i with _ | _ | i
      · simp at g1 g2; subst g1 g2; exact (hi1 k _ _ hv1 hx).leB' lb₄ fun b q hlt => hb b hlt q
      · simp at g1 g2; subst g1 g2; exact (hi2 k _ _ hv2 hy).leB' lb₄ fun b q hlt => hb b hlt q
      · simp at g2)
    have hbody : Ex X body (σ'.updL ns [x, y]) (Turn X rest Q fun σ' => ∃ p, Sto.Sub (C TO p) σ' ∧ Inv (k + 1) p) := ExT.sub (Sto.updL_sub hsub ns [x, y]) (turn TO k _ _ p hx hy hI _ (fun p' σ' a b => ⟨p', Sto.sub_of a, b⟩) fun o σ' q => by
      cases o with
      | next => exact q.elim
      | cont => exact q.elim
      | _ => exact q)
    refine wq_mono (Binds.tuple (vs := [x, y]) hn hq h2n T' _ _ nx₄.st rep) (fun _ s₅ t_0 => x1a1 t_0 fun T₅ nx₅ => ?_) fun _ _ x => x.elim
    refine wq_mono (hbody T₅ s₅ nx₅.st) (fun f s₆ t_0 => x3a3 t_0 fun T₆ o σ₆ n₆ f₆ q₆ => ?_) fun e s₆ t_0 => x4a4 t_0 fun T₆ x σ₆ a he n₆ ea q => onx s₆ e ⟨T₆, x, σ₆, a, he, nx₄.trans (nx₅.trans n₆), ea.weak (nx₄.trans nx₅).le.size, q⟩
    have n46 := nx₅.trans n₆
    have n06 := nx₄.trans n46
    have zlt : ∀ b, b = z ∨ b = TI ∨ b = i1 ∨ b = i2 → b < h₂.objs.size := fun b q => by
      have e1 : h₂.objs.size = s'.heap.objs.size + 1 := (show h₂.objs.size = h₁.objs.size from sb₂.1).trans hsz₁
      have e2 := Heap.lt_size jz
      have e3 := Heap.lt_size jt
      rcases q with rfl | rfl | rfl | rfl <;> omega
    have again : (∃ p, Sto.Sub (C TO p) σ₆ ∧ Inv (k + 1) p) → ∃ m, m < n ∧ K m s₆ := fun t_0 => x1a2 t_0 fun p' hsub' hI' => by
      refine ⟨xs.length - (k + 1), by (clear tlt hsz₁ hz0 hz1 hz3 hsz1 hs; omega), T₆, σ₆, k + 1, p', rfl, hkx, n06, lb₄.trans n46.le hb, fun b hlt q => hb b hlt (n46.ban b (Nat.lt_of_lt_of_le hlt lb₄.size) q), fun b i q => hIo b i (n46.ban b (zlt b i) q), ⟨?_, ?_, ?_, ?_⟩, hsub', hI'⟩
      · refine x1a1 (n46.le.ext z _ (hIo z (.inl rfl)) z2) fun sl e' => ?_
        exact keepS_rec e' (by simp)
      · have e0 : h₂.get? TI = some { cls := .type "tuple", data := .seq #[.ref i1, .ref i2] } := (sb₂.2 _ D.TIz).trans (hk₁ TI _ D.TIz D.TITO D.TIi1 D.TIi2 jt)
        refine x1a1 (n46.le.ext TI _ (hIo TI (.inr (.inl rfl))) e0) fun sl e' => ?_
        exact keepS_rec e' (by simp)
      · refine x1a3 j1' fun o1 f1 f2 f3 => ?_; (try clear j1')
        have e0 : h₂.get? i1 = some o1 := (sb₂.2 _ D.i1z).trans f1
        refine x1a1 (n46.le.ext i1 _ (hIo i1 (.inr (.inr (.inl rfl)))) e0) fun sl e' => ?_
        exact ⟨_, e', f2, f3⟩
      · refine x1a3 j2' fun o1 f1 f2 f3 => ?_; (try clear j2')
        have e0 : h₂.get? i2 = some o1 := (sb₂.2 _ D.i2z).trans f1
        refine x1a1 (n46.le.ext i2 _ (hIo i2 (.inr (.inr (.inr rfl)))) e0) fun sl e' => ?_
        exact ⟨_, e', f2, f3⟩
    cases o with
    | next => obtain rfl : f = .next := f₆; exact again q₆
    | cont => obtain rfl : f = .cont := f₆; exact again q₆
    | brk => obtain rfl : f = .brk := f₆; exact ⟨T₆, .next, σ₆, n06, rfl, q₆⟩
    | ret v => refine x1a2 f₆ fun w e_0 r => ?_; (try clear f₆); subst e_0; exact ⟨T₆, .ret v, σ₆, n06, ⟨w, rfl, r⟩, q₆⟩
    | exc x => exact f₆.elim
  · obtain rfl : k = xs.length := by (clear hz0 hz1 hz3 hz2 hz4 hsz' hsz2 hsz1 hs h2n hlen; lia)
    have hend : it1[xs.length]? = none := Array.getElem?_eq_none (by (clear hz0 hz1 hz3 hz2 hz4 hsz' hsz2 hs h2n hlen; lia))
    refine wq_of (wpAny_grow (zip_end1 (S.ok.hh hq) D jz jt j1 hl1'.is hend fun h₂ hk₂ _ hsz₂ => ?_))
    have hsh : Shift s₁.heap.objs.size s'.heap h₂ := by
      refine .but (P := fun b => b = z ∨ b = i1) hsz₂ (fun b q => hge b (q.imp id fun q => .inr (.inl q))) (fun b o q e => ?_) fun b o q e => hk₂ b o (fun e => q (.inl e)) (fun e => q (.inr e)) e
      rcases q with rfl | rfl
      · rw [jz] at e; (have e := Option.some.inj e; subst e); exact ⟨⟨_, rfl⟩, by simp⟩
      · refine x1a3 j1 fun o1 f1 f2 f3 => ?_; (try clear j1)
        rw [f1] at e; (have e := Option.some.inj e; subst e); exact ⟨⟨_, f3⟩, by rw [f2]; simp⟩
    have mv : Mv s₁.heap.objs.size T' s' T' { s' with heap := h₂ } := ⟨hsh, Nat.le_refl _, fun _ _ => rfl, rfl, rfl⟩
    have nx₃ := nx.mv mv l₁.ext.1 hs
    exact wq_mono (ExT.after nx₃ (ExT.sub hsub (fin TO p hI))) (fun f s₄ h₄ => h₄) fun e s₄ h₄ => onx s₄ e h₄
end
end Mine
namespace Mine
open PySem PySem.Calls PySem.W PyProof.Rows
variable [Lo]
omit [Lo] in
noncomputable def lessOf (read : List Itm) : Nat := (read.map (·.2.2)).sum
omit [Lo] in
noncomputable def spGo : List Itm → Nat → List (Nat × Nat) → List (Nat × Nat)
  | [], _, sp => sp
  | e :: r, a, sp => spGo r (a + e.2.2) (if e.2.1 < 0 then sp.set (-1 - e.2.1).toNat (e.1, a + e.2.2) else sp)
omit [Lo] in
noncomputable def fewGo (less : Nat) : Nat → Nat → List Nat → List (Nat × Nat) → List Int
  | code, before, n :: ns, sp :: r => ((n : Int) - (less : Int) * ((sp.1 : Int) - (code : Int)) - ((sp.2 : Int) - (before : Int))) :: fewGo less sp.1 sp.2 ns r
  | _, _, _, _ => []
omit [Lo] in
noncomputable def fewerOf (read : List Itm) (ns : List Nat) : List Int := fewGo (lessOf read) 128 0 ns (spGo read 0 (ns.map fun _ => (128, 0)))
omit [Lo] in
noncomputable def AV.spot (p : Nat × Nat) : AV := .tup [.int (p.1 : Nat), .int (p.2 : Nat)]
omit [Lo] in
noncomputable def AV.spots (l : List (Nat × Nat)) : List AV := l.map AV.spot
omit [Lo] in
theorem spots_len (l : List (Nat × Nat)) : (AV.spots l).length = l.length := by unfold AV.spots; simp
omit [Lo] in
theorem lessOf_le {read : List Itm} (h : ∀ e ∈ read, e.2.2 ≤ 100) : lessOf read ≤ 100 * read.length := by
  induction read with
  | nil => simp [lessOf]
  | cons e r ih =>
    have := ih fun e he => h e (List.mem_cons_of_mem _ he)
    have := h e List.mem_cons_self
    unfold lessOf at *
    simp only [List.map_cons, List.sum_cons, List.length_cons]
    lia
omit [Lo] in
theorem itm_get {r : List Itm} {i : Nat} {v : AV} (h : (AV.itms r)[i]? = some v) : ∃ e, r[i]? = some e ∧ v = .tup [.str [e.1], .int e.2.1, .int (e.2.2 : Nat)] := by
  unfold AV.itms at h
  rw [List.getElem?_map] at h
  refine x1a2 (Option.map_eq_some_iff.mp h) fun e h1 h2 => ?_
  exact ⟨e, h1, h2.symm⟩
omit [Lo] in
theorem spot_get {r : List (Nat × Nat)} {i : Nat} {v : AV} (h : (AV.spots r)[i]? = some v) : ∃ e, r[i]? = some e ∧ v = .tup [.int (e.1 : Nat), .int (e.2 : Nat)] := by
  unfold AV.spots at h
  rw [List.getElem?_map] at h
  refine x1a2 (Option.map_eq_some_iff.mp h) fun e h1 h2 => ?_
  exact ⟨e, h1, h2.symm⟩
omit [Lo] in
theorem sum_cast (l : List Nat) : (l.map fun (n : Nat) => (n : Int)).sum = ((l.sum : Nat) : Int) := by
  induction l with
  | nil => rfl
  | cons a l ih => simp only [List.map_cons, List.sum_cons, ih]; lia
section
variable {prog : Program} {w : World} {G : Pg}
set_option maxHeartbeats 1000000
set_option maxRecDepth 8000
theorem walk_fewer (P : ModG G) {read : List Itm} {ns : List Nat} (hr : read.length ≤ 10000) (hn : ns.length ≤ 1000) (hlost : ∀ e ∈ read, e.2.2 ≤ 100) (hown : ∀ e ∈ read, e.2.1 < 0 → (-1 - e.2.1).toNat < ns.length) :
    FSpec prog w G 1 "_law_fewer" [.list (AV.itms read), .list (AV.nats ns)] (.ok (.list (AV.ints (fewerOf read ns)))) := by
  refine x4a1 (P.fewer) fun a pm cd doc hf => ?_
  refine FSpec.ofR hf (body := bodyOf stLFewer) (ps := ["read", "numbers"]) rfl (.plain fun vals hv => ?_) (fun A L T s B fr R hR => ?_)
  · refine x2a1 (len2 hv) fun a b e_0 => ?_; subst e_0; rfl
  have hrl := itms_len read
  have hnl := nats_len ns
  have hless := lessOf_le hlost
  refine Ex.assign (v := .int (lessOf read : Nat)) ?_ (.inl rfl) ?_
  · have e : ((lessOf read : Nat) : Int) = (read.map fun e => (e.2.2 : Int)).sum := by
      unfold lessOf
      rw [← sum_cast, List.map_map]; rfl
    rw [e]
    refine Ev.callB (.cons (EvN.ev (EvN.mapCT (σc := []) (ns := ["c", "owner", "lost"]) (ys := AV.ints (read.map fun e => (e.2.2 : Int))) (EvI.list (Ev.name rfl) rfl) ⟨rfl, rfl, by decide, by decide, rfl⟩ .nil rfl (fun _ _ _ => .cons (.inl rfl) (.cons (.inl rfl) (.cons (.inl rfl) .nil))) (by decide)
      (by unfold AV.ints; rw [hrl, List.length_map, List.length_map]) (by (clear e hnl hn; lia)) (fun C D T₁ s₁ k v y hv hy => ?_)) ⟨fun _ q => (by cases q), fun q => (by cases q)⟩) .nil) call_sum rfl rfl (P.none _ (by simp)) boot_sum nofun
    refine x1a2 (itm_get hv) fun e he e_0 => ?_; subst e_0
    unfold AV.ints at hy
    rw [List.getElem?_map, List.getElem?_map, he] at hy
    (have hy := Option.some.inj hy; subst hy)
    exact ⟨_, rfl, rfl, Ev.name rfl⟩
  generalize hls : lessOf read = less at hless ⊢
  refine Ex.assign_listC (σc := []) (fun k => AV.spots ((ns.take k).map fun _ => (128, 0))) rfl (EvI.list (Ev.name rfl) rfl) ⟨rfl, rfl, by decide, by decide, rfl⟩ .nil rfl (fun k hk => by rw [spots_len, List.length_map, List.length_take]; (clear hk hless hls hnl hrl hr; lia)) (fun C D T₁ s₁ k v hv => ?_) (.inl rfl) fun bs => ?_
  · refine x1a2 (nats_get hv) fun m hm e_0 => ?_; subst e_0
    refine ⟨true, .nil, nofun, fun _ => ⟨AV.spot (128, 0), Ev.tuple (.cons Ev.cint (.cons Ev.cint .nil)) (Nat.le_of_ble_eq_true rfl), ?_⟩⟩
    rw [List.take_add_one, hm]
    unfold AV.spots
    simp
  rw [hnl, List.take_length]
  refine Ex.assign Ev.cint (.inl rfl) ?_
  refine Ex.forTR fcx_top (ns := ["c", "owner", "lost"]) (EvI.list (Ev.name rfl) rfl) (.cons (.inl rfl) (.cons (.inl rfl) (.cons (.inl rfl) .nil))) rfl (P := List (Nat × Nat) × Nat)
    (fun p => [("numbers", ⟨none, .list (AV.nats ns)⟩), ("less", ⟨none, .int (less : Nat)⟩), ("spots", ⟨some bs, .list (AV.spots p.1)⟩), ("ahead", ⟨none, .int (p.2 : Nat)⟩)])
    (fun k p => spGo (read.drop k) p.2 p.1 = spGo read 0 (ns.map fun _ => (128, 0)) ∧ p.1.length = ns.length) (fun k v p hv hi => ?_) (fun p hi => ?_) (ns.map fun _ => (128, 0), 0) ⟨rfl, List.length_map ..⟩ ⟨rfl, rfl, rfl, rfl, trivial⟩
  · refine x1a2 (itm_get hv) fun e he e_0 => ?_; subst e_0
    obtain ⟨sp, ah⟩ := p
    refine x0a2 hi fun h1 h2 => ?_; (try clear hi)
    have hem := List.mem_of_getElem? he
    rw [drop_of_get he, spGo] at h1
    dsimp only at h1 h2
    refine ⟨_, rfl, rfl, fun R1 hN hO => ?_⟩
    refine Ex.aug rfl (Ev.name rfl) inp_add_int (.inl rfl) ?_
    refine Ex.ite (Te.cmp (Ev.name rfl) Ev.cint cmp_lt_int) (fun hb => ?_) (fun hb => ?_)
    · have hb := of_decide_eq_true hb
      rw [if_pos hb] at h1
      have hlt := hown e hem hb
      have hset : (AV.spots sp).set (-1 - e.2.1).toNat (.tup [.int (e.1 : Nat), .int ((ah : Int) + (e.2.2 : Nat))]) = AV.spots (sp.set (-1 - e.2.1).toNat (e.1, ah + e.2.2)) := by
        unfold AV.spots; rw [List.map_set]; rfl
      refine Ex.setitem (x := "spots") rfl (Ev.binop (Ev.neg Ev.cint) (Ev.name rfl) bin_sub_int) (Ev.tuple (.cons (Ev.callB (.cons (Ev.name rfl) .nil) call_ord' rfl rfl (P.none _ (by simp)) boot_ord nofun) (.cons (Ev.name rfl) .nil)) (Nat.le_of_ble_eq_true rfl)) (set_list (l := AV.spots sp) (i := -1 - e.2.1) (by (clear hlt h2 hless hls hnl hrl hn hr; lia)) (by rw [spots_len]; (clear hb hless hls hnl hrl hr; omega)) (by rw [spots_len]; (clear hlt hb hless hls hnl hrl hr; lia))) ?_
      rw [hset]
      exact Ex.nil (Ex.nil (hN (sp.set (-1 - e.2.1).toNat (e.1, ah + e.2.2), ah + e.2.2) _ ⟨rfl, rfl, rfl, rfl, trivial⟩ ⟨h1, by rw [List.length_set]; exact h2⟩))
    · have hb := of_decide_eq_false hb
      rw [if_neg hb] at h1
      exact Ex.nil (Ex.nil (hN (sp, ah + e.2.2) _ ⟨rfl, rfl, rfl, rfl, trivial⟩ ⟨h1, h2⟩))
  obtain ⟨sp, ah⟩ := p
  refine x0a2 hi fun h1 h2 => ?_; (try clear hi)
  rw [hrl, List.drop_length] at h1
  dsimp only at h1 h2 ⊢
  rw [spGo] at h1
  refine Ex.nil (ExT.freeze (x := "spots") rfl ?_)
  refine Ex.assign_own (EvN.list .nil) (.inl rfl) fun bf => ?_
  refine Ex.assignT (xs := ["code", "before"]) (vs := [.int 128, .int 0]) (Ev.tuple (.cons Ev.cint (.cons Ev.cint .nil)) (Nat.le_of_ble_eq_true rfl)) (.cons (.inl rfl) (.cons (.inl rfl) .nil)) rfl ?_
  have hfew : fewGo less 128 0 ns sp = fewerOf read ns := by unfold fewerOf; rw [hls, h1]
  refine Ex.forZ fcx_top (ns := ["number", "spot"]) (xs := AV.nats ns) (ys := AV.spots sp) (Ev.name rfl) (Ev.name rfl) (by rw [hnl, spots_len]; (clear hless hls hnl hrl hr; lia)) rfl rfl (P.none _ (by simp)) rfl (.cons (.inl rfl) (.cons (.inl rfl) .nil)) rfl (P := List Int × Nat × Nat)
    (fun z p => [("__classdict__", ⟨some z, .hid⟩), ("less", ⟨none, .int (less : Nat)⟩), ("fewer", ⟨some bf, .list (AV.ints p.1)⟩), ("code", ⟨none, .int (p.2.1 : Nat)⟩), ("before", ⟨none, .int (p.2.2 : Nat)⟩)])
    (fun k p => p.1 ++ fewGo less p.2.1 p.2.2 (ns.drop k) (sp.drop k) = fewerOf read ns ∧ p.1.length ≤ k) (fun _ _ => rfl) (fun z k x y p hx hy hi R1 hN hO => ?_) (fun z p hi => ?_) ([], 128, 0) ⟨hfew, Nat.le_refl _⟩ (fun z => ⟨rfl, rfl, rfl, rfl, rfl, trivial⟩)
  · refine x1a2 (nats_get hx) fun n hn1 e_0 => ?_; subst e_0
    refine x1a2 (spot_get hy) fun q hq1 e_0 => ?_; subst e_0
    obtain ⟨acc, code, before⟩ := p
    refine x0a2 hi fun g1 g2 => ?_; (try clear hi)
    have hk := (List.getElem?_eq_some_iff.mp hn1).1
    rw [drop_of_get hn1, drop_of_get hq1, fewGo] at g1
    dsimp only at g1 g2 ⊢
    have hal : (AV.ints acc).length = acc.length := by unfold AV.ints; simp
    refine Ex.mut (x := "fewer") (av := .list (AV.ints acc)) rfl meth_append (.cons (Ev.binop (Ev.binop (Ev.name rfl) (Ev.binop (Ev.name rfl) (Ev.binop (Ev.index (Ev.name rfl) Ev.cint (get_tup (by (clear hal hk g2 h2 hless hls hnl hrl hn hr; lia)) rfl (by simp))) (Ev.name rfl) bin_sub_int) (bin_mul_intL (by (clear hal hk g2 h2 hls hnl hrl hn; lia)))) bin_sub_int) (Ev.binop (Ev.index (Ev.name rfl) Ev.cint (get_tup (by (clear hal hk g2 h2 hless hls hnl hrl hn hr; lia)) rfl (by simp))) (Ev.name rfl) bin_sub_int) bin_sub_int) .nil) (mut_append (by rw [hal]; (clear hal h2 hless hls hnl hrl hr; lia))) rfl ?_
    refine Ex.assignT (xs := ["code", "before"]) (vs := [.int (q.1 : Nat), .int (q.2 : Nat)]) (Ev.name rfl) (.cons (.inl rfl) (.cons (.inl rfl) .nil)) rfl (Ex.nil ?_)
    refine hN (acc ++ [(n : Int) - (less : Int) * ((q.1 : Int) - (code : Int)) - ((q.2 : Int) - (before : Int))], q.1, q.2) _ ⟨rfl, rfl, ?_, rfl, rfl, trivial⟩ ⟨?_, by simp; (clear hal h2 hless hls hnl hrl hn hr; lia)⟩
    · show some _ = some _
      unfold AV.ints
      rw [List.map_append]
      rfl
    · rw [List.append_assoc]; exact g1
  · obtain ⟨acc, code, before⟩ := p
    refine x0a2 hi fun g1 g2 => ?_; (try clear hi)
    rw [hnl, List.drop_length] at g1
    have e0 : fewGo less code before [] (sp.drop ns.length) = [] := by simp [fewGo]
    dsimp only at g1 ⊢
    rw [e0, List.append_nil] at g1
    refine Ex.nil (ExT.freeze (x := "fewer") rfl (Ex.ret (Ev.name rfl) (hR _ _ ?_)))
    exact congrArg (fun r => Except.ok (AV.list (AV.ints r))) g1.symm
end
end Mine
namespace Mine
open PySem PySem.Calls PySem.W PyProof.Rows
variable [Lo]
theorem Ev.join {X : Cx} {σ : Sto} {e : Expr} {l : List (List Nat)} {k : Nat} {cp apos pos : Pos} (h : EvO X e σ (.list (AV.strs l))) (hl : l.flatten.length ≤ 16777216) (hq : X.quiet = true)
    (hst : autoParam (starEach [e] X.env = [(false, eval e X.env)]) byRfl) (hfew : autoParam (methodCallForm (([e] : List Expr).length + ([] : List Keyword).length) (backTo pos (starEach [e] X.env)) (backToKw pos (keywordEach [] X.env)) = true) byRfl)
    (hbase : autoParam (attributeBase (.Constant (.str ("" : Str)) k cp) "join" X.env (eval (.Constant (.str ("" : Str)) k cp) X.env) = eval (.Constant (.str ("" : Str)) k cp) X.env) byRfl)
    (hany : autoParam ((backTo pos (starEach [e] X.env)).any (·.1) = false) byRfl) (hline : autoParam ((apos.endLine == pos.line) = true) byRfl) :
    Ev X (.Call (.Attribute (.Constant (.str ("" : Str)) k cp) "join" apos) [e] [] pos) σ (.str l.flatten) :=
  Ev.methO (x := .str []) FC.meth_join (Ev.cstr rfl) (.cons h .nil hst) (call_join hl) rfl hq (hbase := hbase) (hfew := hfew) (hline := hline) (he := hst) (hst := hany)
theorem Ev.joinOnes {X : Cx} {σ : Sto} {e : Expr} {l : List Nat} {k : Nat} {cp apos pos : Pos} (h : EvO X e σ (.list (AV.strs (ones l)))) (hl : l.length ≤ 16777216) (hq : X.quiet = true)
    (hst : autoParam (starEach [e] X.env = [(false, eval e X.env)]) byRfl) (hfew : autoParam (methodCallForm (([e] : List Expr).length + ([] : List Keyword).length) (backTo pos (starEach [e] X.env)) (backToKw pos (keywordEach [] X.env)) = true) byRfl)
    (hbase : autoParam (attributeBase (.Constant (.str ("" : Str)) k cp) "join" X.env (eval (.Constant (.str ("" : Str)) k cp) X.env) = eval (.Constant (.str ("" : Str)) k cp) X.env) byRfl)
    (hany : autoParam ((backTo pos (starEach [e] X.env)).any (·.1) = false) byRfl) (hline : autoParam ((apos.endLine == pos.line) = true) byRfl) :
    Ev X (.Call (.Attribute (.Constant (.str ("" : Str)) k cp) "join" apos) [e] [] pos) σ (.str l) := by
  have := Ev.join (k := k) (cp := cp) (apos := apos) (pos := pos) h (by rw [ones_flat]; exact hl) hq hst hfew hbase hany hline
  rwa [ones_flat] at this
omit [Lo] in
theorem cutL_init {α : Type} (l : List α) : cutL none (some (-1)) l = l.dropLast := by
  have hc : clipAt l.length (-1) = l.length - 1 := by unfold clipAt; split <;> omega
  unfold cutL
  simp only [Option.elim_none, Option.elim_some, hc, List.drop_zero, Nat.sub_zero]
  rw [List.dropLast_eq_take]
omit [Lo] in
theorem nats_init (l : List Nat) : (AV.nats l).dropLast = AV.nats l.dropLast := by unfold AV.nats; rw [List.map_dropLast]
omit [Lo] in
theorem row_get' {r : List Ent} {i : Nat} {v : AV} (h : (AV.row r)[i]? = some v) : ∃ e, r[i]? = some e ∧ v = .tup [.str [e.1], .int e.2] := by
  unfold AV.row at h
  rw [List.getElem?_map] at h
  refine x1a2 (Option.map_eq_some_iff.mp h) fun e h1 h2 => ?_
  exact ⟨e, h1, h2.symm⟩
omit [Lo] in
noncomputable def labOf (written row : List Nat) : List Nat := (if written.isEmpty then [] else written ++ [45]) ++ row
section
variable {prog : Program} {w : World} {G : Pg}
set_option maxHeartbeats 1000000
set_option maxRecDepth 8000
theorem walk_cut (P : ModG G) {written row sg fs text : List Nat} {cells : List (List Nat)} {ns : List Nat} (hW : written.length ≤ 1000) (hrow : row.length ≤ 100000) (hrb : ∀ c ∈ row, c < 128)
    (hcl : cells.length ≤ 100) (h5 : ∀ c ∈ cells, c.length ≤ 5) (hsl : sg.length = cells.length) (hn : ns.length ≤ 100) (hns : ∀ n ∈ ns, n < 5000)
    (h1 : row.take ((gensGo written.length 0 72 ns.dropLast).map dig).length = (gensGo written.length 0 72 ns.dropLast).map dig) (h2 : ((gensGo written.length 0 72 ns.dropLast).map dig).length < row.length)
    (hlab : Label (labOf written (upL row.dropLast)) written fs) (hok : insOk fs written.length 128 0 72 0)
    (htext : text = (layR cells ns.dropLast).map (·.1)) (hlr : (layR cells ns.dropLast).length ≤ 10000) (hown : ∀ e ∈ layR cells ns.dropLast, e.2 < (cells.length : Int))
    (hign : pyR (labOf written (upL row.dropLast)).length fs ignoreL written = .ok (.str text))
    (hfit : replFit (uneSeq []) text) (hune : replAll (uneSeq []) text = (foldGo sg cells 0 (layR cells ns.dropLast)).map (·.1))
    (hstr : (row.length = ((gensGo written.length 0 72 ns.dropLast).map dig).length + 1 ∧ pyR (labOf written (upL row.dropLast)).length fs strictL written = .ok (.str text)) ∨
      (((gensGo written.length 0 72 ns.dropLast).map dig).length + 1 < row.length ∧ pyR (labOf written (upL row.dropLast)).length fs strictL written = .error (.ude false ((labOf written (upL row.dropLast)).length : Nat) (((labOf written (upL row.dropLast)).length : Nat) + 1) incL))) :
    FSpec prog w G 5 "_law_cut" [.str written, .bytes row, .list (AV.strs (ones sg)), .list (AV.strs cells), .list (AV.nats ns)] (.ok (.bool true)) := by
  refine x4a1 (P.cut) fun a pm cd doc hf => ?_
  refine x4a1 (P.puny.puny) fun aP pmP cdP docP hP => ?_
  refine x4a1 (P.puny.gens) fun aG pmG cdG docG hG => ?_
  refine x4a1 (P.lay) fun aL pmL cdL docL hL => ?_
  refine x4a1 (P.fold) fun aF pmF cdF docF hF => ?_
  obtain ⟨aU, pmU, cdU, docU, tU, otU, nU, dU, odU, hU, -⟩ := P.sax.une.ex
  have hdl : ns.dropLast.length ≤ 100 := by rw [List.length_dropLast]; (clear hlr h2 hsl hcl hrow hW; omega)
  have hdn : ∀ n ∈ ns.dropLast, n < 5000 := fun n hn => hns n (List.dropLast_subset _ hn)
  have wG := walk_gens (prog := prog) (w := w) P.puny (base := written.length) (ds := ns.dropLast) (by (clear hlr h2 hn hsl hcl hrow; lia)) hdl (fun n hn => by have := hdn n hn; (clear hlr h2 hsl hcl hrow hW; lia))
  have wL := walk_lay (prog := prog) (w := w) P (cells := cells) (ns := ns.dropLast) hcl h5 hdl hdn
  have wF := walk_fold (prog := prog) (w := w) P (row := layR cells ns.dropLast) (sg := sg) hlr hsl (by (clear hdl hlr h2 hsl hrow hW; lia)) h5 hown
  have wU := walk_une1 (prog := prog) (w := w) P.sax hfit
  have hll : (labOf written (upL row.dropLast)).length ≤ 300000 := by
    unfold labOf upL
    rw [List.length_append, List.length_map, List.length_dropLast]
    split <;> simp <;> omega
  have wI := walk_puny_s (prog := prog) (w := w) P.puny hlab hll (.inr (.inl rfl)) hok
  have wS := walk_puny_s (prog := prog) (w := w) P.puny hlab hll (.inl rfl) hok
  rw [hign] at wI
  rw [hune] at wU
  generalize hfd : (gensGo written.length 0 72 ns.dropLast).map dig = first at *
  generalize hld : layR cells ns.dropLast = laid at *
  have hfl := foldGo_len sg cells laid.length laid rfl
  refine FSpec.ofR hf (body := bodyOf stLCut) (ps := ["written", "row", "signs", "cells", "numbers"]) rfl (.plain fun vals hv => ?_) (fun A L T s B fr R hR => ?_)
  · refine x5a1 (len5 hv) fun a b c d e e_0 => ?_; subst e_0; rfl
  refine Ex.assign (v := .bytes first) (EvX.ev (EvX.call wG (.cons (Ev.callB (.cons (Ev.name rfl) .nil) (call_len_str' (by (clear hfl hlr h2 hll hn hsl hcl hrow; lia))) rfl rfl (P.none _ (by simp)) boot_len nofun) (.cons ?_ .nil)) rfl rfl (Nat.le_of_ble_eq_true rfl) hG)) (.inl rfl) ?_
  · rw [← nats_init, ← cutL_init]
    exact Ev.slice (Ev.name rfl) .none (.some (Ev.neg Ev.cint)) (slice_list (by rw [nats_len]; (clear hfl hlr h2 hll hsl hcl hrow hW; lia)))
  have hcut : cutL none (some (first.length : Int)) row = first := by rw [cutL_nat, h1]
  refine Ex.ite (Te.or (Ors.cons (Te.not (Te.value (Ev.isinstance (Ev.name rfl) isT_bytes_bytes rfl rfl rfl (P.none _ (by simp)) rfl (P.none _ (by simp))) (tru_bool _))) fun _ => Ors.cons (Te.cmp (Ev.slice (Ev.name rfl) .none (.some (Ev.callB (.cons (Ev.name rfl) .nil) (call_len_bytes' (by (clear hfl hll hdl hn hsl hcl hW; lia))) rfl rfl (P.none _ (by simp)) boot_len nofun)) (slice_bytes (by (clear hfl hlr hll hdl hn hsl hcl hW; lia)))) (Ev.name rfl) cmp_ne_bytes) fun _ =>
    Ors.cons (Te.cmp (Ev.callB (.cons (Ev.name rfl) .nil) (call_len_bytes' (by (clear hfl hlr hll hdl hn hsl hcl hW; lia))) rfl rfl (P.none _ (by simp)) boot_len nofun) (Ev.callB (.cons (Ev.name rfl) .nil) (call_len_bytes' (by (clear hfl hll hdl hn hsl hcl hW; lia))) rfl rfl (P.none _ (by simp)) boot_len nofun) cmp_le_int) fun _ => Ors.nil)) (fun hb => ?_) (fun hb => Ex.nil ?_)
  · exfalso
    rw [hcut] at hb
    simp at hb
    (clear hfl hlr hll hdl hn hsl hcl hW; lia)
  have hupl : (upL row.dropLast).length ≤ 100000 := by unfold upL; rw [List.length_map, List.length_dropLast]; (clear hfl hlr h2 hll hdl hn hsl hcl hW; omega)
  have hupb : ∀ c ∈ upL row.dropLast, c < 128 := fun c hc => by
    have := hlab.ascii c (by unfold labOf; exact List.mem_append_right _ hc)
    exact this
  refine Ex.assign (v := .str (labOf written (upL row.dropLast))) ?_ (.inl rfl) ?_
  · unfold labOf
    refine Ev.binop (Ev.ifexp (Te.value (Ev.name rfl) (tru_str (by (clear hupl hfl hlr h2 hll hn hsl hcl hrow; lia)))) (fun h => ?_) (fun h => ?_)) (Ev.joinOnes (l := upL row.dropLast) (Ev.o (EvN.ev (EvN.mapC (σc := []) (ys := AV.strs (ones (upL row.dropLast))) (EvI.bytes (Ev.meth0 (x := .bytes row.dropLast) FC.meth_upper ?_ (call_upper (by rw [List.length_dropLast]; (clear hupl hfl hlr h2 hll hdl hn hsl hcl hW; omega))) rfl) rfl) ⟨rfl, rfl, by decide, by decide, rfl⟩ .nil rfl (by rw [strs_len, ones_len, List.length_map]) (by rw [List.length_map]; (clear hfl hlr h2 hll hdl hn hsl hcl hW; lia)) (fun C D T₁ s₁ k v y hv hy => ?_)) ⟨fun _ q => (by cases q), fun q => (by cases q)⟩)) (by (clear hfl hlr h2 hll hdl hn hsl hcl hW; lia)) rfl) (bin_add_str (by split <;> simp <;> omega))
    · have h : written.isEmpty = false := by simpa using h
      rw [h]
      exact Ev.binop (Ev.name rfl) (Ev.cstr (l := [45]) rfl) (bin_add_str (by simp; (clear hupl hfl hlr h2 hll hn hsl hcl hrow; lia)))
    · have h : written.isEmpty = true := by simpa using h
      rw [h]
      exact Ev.cstr (l := []) rfl
    · rw [← cutL_init]
      exact Ev.slice (Ev.name rfl) .none (.some (Ev.neg Ev.cint)) (slice_bytes (by (clear hfl hlr h2 hll hdl hn hsl hcl hW; lia)))
    · rw [List.getElem?_map] at hv
      refine x1a2 (Option.map_eq_some_iff.mp hv) fun o ho e_0 => ?_; subst e_0
      refine x1a2 (strs_get hy) fun m hm e_0 => ?_; subst e_0
      unfold ones at hm
      rw [List.getElem?_map, ho] at hm
      (have hm := Option.some.inj hm; subst hm)
      have ho2 := hupb o (List.mem_of_getElem? ho)
      exact Ev.callB (.cons (Ev.name rfl) .nil) (call_chr' (i := (o : Nat)) (by (clear ho2 hupl hfl hlr h2 hll hdl hn hsl hcl hrow hW; lia)) (by (clear hupl hfl hlr h2 hll hdl hn hsl hcl hrow hW; lia))) rfl rfl (P.none _ (by simp)) boot_chr nofun
  generalize labOf written (upL row.dropLast) = label at *
  refine Ex.assign (v := .list (AV.row laid)) (EvX.ev (EvX.call wL (.cons (Ev.name rfl) (.cons ?_ .nil)) rfl rfl (Nat.le_of_ble_eq_true rfl) hL)) (.inl rfl) ?_
  · rw [← nats_init, ← cutL_init]
    exact Ev.slice (Ev.name rfl) .none (.some (Ev.neg Ev.cint)) (slice_list (by rw [nats_len]; (clear hupl hfl hlr h2 hdl hsl hcl hrow hW; lia)))
  have htl : text.length = laid.length := by rw [htext, List.length_map]
  refine Ex.assign (v := .str text) (Ev.joinOnes (l := text) (Ev.o (EvN.ev (EvN.mapCT (σc := []) (ns := ["c", "owner"]) (ys := AV.strs (ones text)) (EvI.list (Ev.name rfl) rfl) ⟨rfl, rfl, by decide, by decide, rfl⟩ .nil rfl (fun _ _ _ => .cons (.inl rfl) (.cons (.inl rfl) .nil)) (by decide) (by rw [strs_len, ones_len, row_len]; exact htl) (by rw [row_len]; (clear htl hupl hfl h2 hdl hn hsl hcl hrow hW; lia)) (fun C D T₁ s₁ k v y hv hy => ?_)) ⟨fun _ q => (by cases q), fun q => (by cases q)⟩)) (by (clear hll hupl hfl h2 hdl hn hsl hcl hrow hW; lia)) rfl) (.inl rfl) ?_
  · refine x1a2 (row_get' hv) fun e he e_0 => ?_; subst e_0
    refine x1a2 (strs_get hy) fun m hm e_0 => ?_; subst e_0
    refine x1a2 (ones_get hm) fun c hc e_0 => ?_; subst e_0
    rw [htext, List.getElem?_map, he] at hc
    (have hc := Option.some.inj hc; subst hc)
    exact ⟨_, rfl, rfl, Ev.name rfl⟩
  have hfl2 : ((foldGo sg cells 0 laid).map (·.1)).length ≤ 10000 := by rw [List.length_map]; (clear htl hupl h2 hdl hn hsl hcl hrow hW; lia)
  refine Ex.ite (Te.or (Ors.cons (Te.cmp (EvX.ev (EvX.call wI (.cons (Ev.name rfl) (.cons (Ev.cstr rfl) .nil)) rfl rfl (Nat.le_of_ble_eq_true rfl) hP)) (Ev.name rfl) cmp_ne_str) fun _ => Ors.cons (Te.cmp (EvX.ev (EvX.call wU (.cons (Ev.name rfl) .nil) rfl rfl (Nat.le_of_ble_eq_true rfl) hU)) (Ev.joinOnes (l := (foldGo sg cells 0 laid).map (·.1)) (Ev.o (EvN.ev (EvN.mapCT (σc := []) (ns := ["c", "owner", "lost"]) (ys := AV.strs (ones ((foldGo sg cells 0 laid).map (·.1))))
      (EvI.list (EvX.ev (EvX.call wF (.cons (Ev.name rfl) (.cons (Ev.name rfl) (.cons (Ev.name rfl) .nil))) rfl rfl (Nat.le_of_ble_eq_true rfl) hF)) rfl) ⟨rfl, rfl, by decide, by decide, rfl⟩ .nil rfl (fun _ _ _ => .cons (.inl rfl) (.cons (.inl rfl) (.cons (.inl rfl) .nil))) (by decide) (by rw [strs_len, ones_len, itms_len, List.length_map]) (by rw [itms_len]; (clear hfl2 htl hupl h2 hdl hn hsl hcl hrow hW; lia)) (fun C D T₁ s₁ k v y hv hy => ?_)) ⟨fun _ q => (by cases q), fun q => (by cases q)⟩)) (by (clear htl hll hupl hfl h2 hdl hn hsl hcl hrow hW; lia)) rfl) cmp_ne_str) fun _ => Ors.nil)) (fun hb => ?_) (fun hb => Ex.nil ?_)
  · refine x1a2 (itm_get hv) fun e he e_0 => ?_; subst e_0
    refine x1a2 (strs_get hy) fun m hm e_0 => ?_; subst e_0
    refine x1a2 (ones_get hm) fun c hc e_0 => ?_; subst e_0
    rw [List.getElem?_map, he] at hc
    (have hc := Option.some.inj hc; subst hc)
    exact ⟨_, rfl, rfl, Ev.name rfl⟩
  · simp at hb
  refine Ex.tryAs clause_ude rfl fcx_top rfl (P.puny.none _ (by simp)) rfl (.inl rfl) ?_
  generalize hr : pyR label.length fs strictL written = r at wS hstr
  refine Ex.assignX (EvX.call wS (.cons (Ev.name rfl) (.cons (Ev.cstr rfl) .nil)) rfl rfl (Nat.le_of_ble_eq_true rfl) hP) (.inl rfl) ?_
  rcases hstr with ⟨hl1, rfl⟩ | ⟨hl1, rfl⟩
  · refine Ex.nil (Ex.ret (v := .bool (((row.length : Int) == (first.length : Int) + 1) && (text == text))) (Ev.and_cons (Ev.cmp (Ev.callB (.cons (Ev.name rfl) .nil) (call_len_bytes' (by (clear hl1 hfl2 htl hupl hfl hlr h2 hdl hn hsl hcl hW; lia))) rfl rfl (P.none _ (by simp)) boot_len nofun) (Ev.binop (Ev.callB (.cons (Ev.name rfl) .nil) (call_len_bytes' (by (clear hl1 hfl2 htl hfl hlr hdl hn hsl hcl hW; lia))) rfl rfl (P.none _ (by simp)) boot_len nofun) Ev.cint bin_add_int) cmp_eq_int) fun _ => Ev.and_one (Ev.cmp (Ev.name rfl) (Ev.name rfl) cmp_eq_str)) (hR _ _ ?_))
    show Except.ok _ = Except.ok _
    rw [hl1]; simp
  · refine ⟨rfl, ⟨_, _, _, _, rfl⟩, ?_⟩
    refine ExH.of fun a => Ex.ret (v := .bool (decide ((row.length : Int) > (first.length : Int) + 1) && (((label.length : Int) == (label.length : Int)) && ((((label.length : Int) + 1) == ((label.length : Int) + 1)) && (incL == incL)))))
      (Ev.and_cons (Ev.cmp (Ev.callA (.cons (Ev.name rfl) .nil) (call_len_bytesA (by (clear hfl2 htl hll hupl hfl hlr hdl hn hsl hcl hW; lia))) rfl (P.none _ (by simp)) boot_len nofun) (Ev.binop (Ev.callA (.cons (Ev.name rfl) .nil) (call_len_bytesA (by (clear hl1 hfl2 htl hfl hlr hdl hn hsl hcl hW; lia))) rfl (P.none _ (by simp)) boot_len nofun) Ev.cint bin_add_int) cmp_gt_int) fun _ => Ev.and_cons (Ev.cmp (Ev.start (Ev.name rfl)) (Ev.callA (.cons (Ev.name rfl) .nil) (call_len_strA (by (clear hl1 hfl2 htl hupl hfl hlr h2 hdl hn hsl hcl hrow hW; lia))) rfl (P.none _ (by simp)) boot_len nofun) cmp_eq_int) fun _ =>
      Ev.and_cons (Ev.cmp (Ev.stop (Ev.name rfl)) (Ev.binop (Ev.callA (.cons (Ev.name rfl) .nil) (call_len_strA (by (clear hl1 hfl2 htl hupl hfl hlr h2 hdl hn hsl hcl hrow hW; lia))) rfl (P.none _ (by simp)) boot_len nofun) Ev.cint bin_add_int) cmp_eq_int) fun _ => Ev.and_one (Ev.cmp (Ev.reason (Ev.name rfl)) (Ev.cstr (l := incL) rfl) cmp_eq_str)) (hR _ _ ?_)
    show Except.ok _ = Except.ok _
    have : decide ((row.length : Int) > (first.length : Int) + 1) = true := decide_eq_true (by (clear hfl2 htl hupl hfl hlr hdl hn hsl hcl hW; omega))
    rw [this]; simp
end
end Mine
namespace Mine
open PySem PySem.Calls PySem.W PyProof.Rows
variable [Lo]
omit [Lo] in
theorem up_dig {d : Nat} (h : d < 36) : (if 97 ≤ dig d ∧ dig d ≤ 122 then dig d - 32 else dig d) = udig d := by
  have : ∀ d : Fin 36, (if 97 ≤ dig d.1 ∧ dig d.1 ≤ 122 then dig d.1 - 32 else dig d.1) = udig d.1 := by decide
  exact this ⟨d, h⟩
omit [Lo] in
theorem up_digs {fs : List Nat} (h : ∀ d ∈ fs, d < 36) : upL (fs.map dig) = fs.map udig := by
  unfold upL
  rw [List.map_map]
  exact List.map_congr_left fun d hd => up_dig (h d hd)
omit [Lo] in
noncomputable def figs (written : List Nat) (nu : List Nat) : List Nat := gensGo written.length 0 72 nu
omit [Lo] in
noncomputable def plainOf (read : List Itm) : List Nat := (read.filter fun e => decide (0 ≤ e.2.1)).map (·.1)
omit [Lo] in
structure Law2 (sg nu : List Nat) (written text again plain fw : List Nat) : Prop where
  sgl : sg.length ≤ 100
  nul : nu.length ≤ 50
  nus : ∀ n ∈ nu, n < 5000
  esc : replFit (escSeq []) sg
  escE : replAll (escSeq []) sg = written
  wr : (sg.map cellOf).flatten = written
  wl : written.length ≤ 600
  rl : (figs written nu).length ≤ 10000
  f36 : ∀ d ∈ figs written nu, d < 36
  lab : Label (labOf written ((figs written nu).map dig)) written (figs written nu)
  ok : insOk (figs written nu) written.length 128 0 72 0
  dec : pyR (labOf written ((figs written nu).map dig)).length (figs written nu) strictL written = .ok (.str text)
  tx : text = (layR (sg.map cellOf) nu).map (·.1)
  ll : (layR (sg.map cellOf) nu).length ≤ 1000
  own : ∀ e ∈ layR (sg.map cellOf) nu, e.2 < ((sg.map cellOf).length : Int)
  ag : again = (foldGo sg (sg.map cellOf) 0 (layR (sg.map cellOf) nu)).map (·.1)
  uneF : replFit (uneSeq []) text
  une : replAll (uneSeq []) text = again
  esc2F : replFit (escSeq []) again
  esc2 : replAll (escSeq []) again = (again.map cellOf).flatten
  lost : ∀ e ∈ foldGo sg (sg.map cellOf) 0 (layR (sg.map cellOf) nu), e.2.2 ≤ 100
  neg : ∀ e ∈ foldGo sg (sg.map cellOf) 0 (layR (sg.map cellOf) nu), e.2.1 < 0 → (-1 - e.2.1).toNat < nu.length
  pl : plain = plainOf (foldGo sg (sg.map cellOf) 0 (layR (sg.map cellOf) nu))
  few : AV.ints (fewerOf (foldGo sg (sg.map cellOf) 0 (layR (sg.map cellOf) nu)) nu) = AV.nats fw
  fwl : fw.length ≤ 50
  fws : ∀ n ∈ fw, n ≤ 100000
  gl : (figs plain fw).length ≤ 100000
  g36 : ∀ d ∈ figs plain fw, d < 36
  gok : insOk (figs plain fw) plain.length 128 0 72 0
  ins : insGo (figs plain fw) strictL plain 128 0 72 0 = .ok (.str again)
section
variable {prog : Program} {w : World} {G : Pg}
set_option maxHeartbeats 1000000
set_option maxRecDepth 8000
theorem call_list_ones {l : List Nat} (hs : l.length ≤ 16777216) : CallG (.type "list") [.str l] (.list (AV.strs (ones l))) := by
  have := call_list_text hs
  rwa [ones_strs] at this
theorem walk_law2 (P : ModG G) {ns : List Int} (hl : ns.length ≤ 63) {written text again plain fw : List Nat} (K : Law2 (dr2 ns).1 (dr2 ns).2 written text again plain fw)
    (hcut : (dr2 ns).2 ≠ [] → FSpec prog w G 5 "_law_cut" [.str written, .bytes ((figs written (dr2 ns).2).map dig), .list (AV.strs (ones (dr2 ns).1)), .list (AV.strs ((dr2 ns).1.map cellOf)), .list (AV.nats (dr2 ns).2)] (.ok (.bool true))) :
    FSpec0 prog w G 6 "law" [.list (AV.ints ns)] (.ok (.bool true)) := by
  refine x4a1 (P.law) fun a pm cd doc hf => ?_
  refine x4a1 (P.draw) fun aD pmD cdD docD hD => ?_
  refine x4a1 (P.cells) fun aC pmC cdC docC hC => ?_
  refine x4a1 (P.puny.puny) fun aP pmP cdP docP hP => ?_
  refine x4a1 (P.puny.gens) fun aG pmG cdG docG hG => ?_
  refine x4a1 (P.puny.ins) fun aI pmI cdI docI hI => ?_
  refine x4a1 (P.lay) fun aL pmL cdL docL hL => ?_
  refine x4a1 (P.fold) fun aF pmF cdF docF hF => ?_
  refine x4a1 (P.fewer) fun aW pmW cdW docW hW => ?_
  refine x4a1 (P.cut) fun aX pmX cdX docX hX => ?_
  obtain ⟨aU, pmU, cdU, docU, tU, otU, nU, dU, odU, hU, -⟩ := P.sax.une.ex
  obtain ⟨aE, pmE, cdE, docE, tE, otE, nE, dE, odE, hE, -⟩ := P.sax.esc.ex
  obtain ⟨hsgl, hnul, hnus, hesc, hescE, hwr, hwl, hrl, hf36, hlab, hok, hdec, htx, hll, hown, hag, huneF, hune, hesc2F, hesc2, hlost, hneg, hpl, hfew, hfwl, hfws, hgl, hg36, hgok, hins⟩ := K
  have w0 := walk_draw (prog := prog) (w := w) P hl
  generalize hsg : (dr2 ns).1 = sg at *
  generalize hnu : (dr2 ns).2 = nu at *
  have h5 : ∀ c ∈ sg.map cellOf, c.length ≤ 5 := fun c hc => by
    refine x1a2 (List.mem_map.mp hc) fun d _ e_0 => ?_; subst e_0
    unfold cellOf ampL ltL gtL
    split
    · simp
    · split
      · simp
      · split <;> simp
  have hcl : (sg.map cellOf).length = sg.length := List.length_map ..
  have w1 := walk_cells (prog := prog) (w := w) P (sg := sg) (by (clear hcl hll hrl hgl hfwl hwl hl; lia))
  have w2 := walk_esc1 (prog := prog) (w := w) P.sax hesc
  have w3 := walk_gens (prog := prog) (w := w) P.puny (base := written.length) (ds := nu) (by (clear hcl hll hnul hsgl hgl hfwl hl; lia)) (by (clear hcl hll hsgl hgl hfwl hwl hl; lia)) (fun n hn => by have := hnus n hn; (clear hcl hll hrl hnul hsgl hgl hfwl hwl hl; lia))
  have w4 := walk_lay (prog := prog) (w := w) P (cells := sg.map cellOf) (ns := nu) (by (clear hll hrl hgl hfwl hwl hl; lia)) h5 (by (clear hcl hll hsgl hgl hfwl hwl hl; lia)) hnus
  have hlbl : (labOf written ((figs written nu).map dig)).length ≤ 300000 := by
    unfold labOf
    rw [List.length_append, List.length_map]
    split <;> simp <;> omega
  have w5 := walk_puny_s (prog := prog) (w := w) P.puny hlab hlbl (er := strictL) (.inl rfl) hok
  have w6 := walk_fold (prog := prog) (w := w) P (row := layR (sg.map cellOf) nu) (sg := sg) (by (clear hlbl hrl hnul hsgl hgl hfwl hwl hl; lia)) hcl.symm (by (clear hlbl hll hrl hgl hfwl hwl hl; lia)) h5 hown
  have w7 := walk_une1 (prog := prog) (w := w) P.sax huneF
  have w8 := walk_esc1 (prog := prog) (w := w) P.sax hesc2F
  have hfl := foldGo_len sg (sg.map cellOf) (layR (sg.map cellOf) nu).length (layR (sg.map cellOf) nu) rfl
  have hagl : again.length ≤ 1000 := by rw [hag, List.length_map]; (clear hlbl hcl hrl hnul hsgl hgl hfwl hwl hl; lia)
  have w9 := walk_cells (prog := prog) (w := w) P (sg := again) (by (clear hfl hlbl hcl hll hrl hsgl hgl hfwl hwl hl; lia))
  have w10 := walk_fewer (prog := prog) (w := w) P (read := foldGo sg (sg.map cellOf) 0 (layR (sg.map cellOf) nu)) (ns := nu) (by (clear hlbl hcl hrl hnul hsgl hgl hfwl hwl hl; lia)) (by (clear hfl hlbl hcl hll hrl hsgl hgl hfwl hwl hl; lia)) hlost hneg
  have hpll : plain.length ≤ 1000 := by
    rw [hpl]; unfold plainOf
    rw [List.length_map]
    exact Nat.le_trans (List.length_filter_le _ _) (by (clear hlbl hcl hrl hnul hsgl hgl hfwl hwl hl; lia))
  have w11 := walk_gens (prog := prog) (w := w) P.puny (base := plain.length) (ds := fw) (by (clear hagl hfl hlbl hcl hll hrl hsgl hgl hfwl hwl hl; lia)) (by (clear hagl hfl hlbl hcl hll hrl hnul hsgl hgl hwl hl; lia)) hfws
  have w12 := walk_ins (prog := prog) (w := w) P.puny (er := strictL) hg36 (by (clear hagl hfl hlbl hcl hll hrl hnul hsgl hwl hl; lia)) (by (clear hagl hfl hlbl hcl hll hrl hsgl hgl hfwl hwl hl; lia)) (by (clear hagl hfl hlbl hcl hll hrl hnul hsgl hwl hl; lia)) hgok
  rw [hescE] at w2
  rw [hdec] at w5
  rw [hune] at w7
  rw [hesc2] at w8
  rw [hfew] at w10
  rw [hins] at w12
  have e3 : gensGo written.length 0 72 nu = figs written nu := rfl
  have e11 : gensGo plain.length 0 72 fw = figs plain fw := rfl
  rw [e3] at w3
  rw [e11] at w11
  have hdb : ∀ o ∈ (figs written nu).map dig, o < 128 := fun o ho => hlab.ascii o (by unfold labOf; exact List.mem_append_right _ ho)
  have hup := up_digs hg36
  generalize figs written nu = fs at *
  generalize figs plain fw = gs at *
  generalize hldE : layR (sg.map cellOf) nu = laid at *
  generalize hrdE : foldGo sg (sg.map cellOf) 0 laid = read at *
  have hrd : read.length ≤ 1000 := by (clear hgl hlbl hrl hpll hagl hcl hnul hsgl hfwl hwl hl; lia)
  have hwl2 : (again.map cellOf).flatten.length ≤ 16777216 := by
    have : ∀ l : List Nat, (l.map cellOf).flatten.length ≤ 5 * l.length := fun l => by
      induction l with
      | nil => simp
      | cons c l ih =>
        have : (cellOf c).length ≤ 5 := by unfold cellOf ampL ltL gtL; split <;> (try split) <;> (try split) <;> simp
        simp only [List.map_cons, List.flatten_cons, List.length_append, List.length_cons]; (clear hrd hfl hll hgl hlbl hrl hpll hagl hcl hnul hsgl hfwl hwl hl; lia)
    have := this again
    (clear hrd hfl hll hgl hlbl hrl hpll hcl hnul hsgl hfwl hwl hl; lia)
  refine FSpec0.of hf (body := bodyOf stLaw) (ps := ["script"]) rfl (.plain fun vals hv => ?_) (fun A L T s B fr => ?_)
  · refine x1a1 (len1 hv) fun a e_0 => ?_; subst e_0; rfl
  refine Ex.assignT (xs := ["signs", "numbers"]) (EvX.ev (EvX.call w0 (.cons (Ev.name rfl) .nil) rfl rfl (Nat.le_of_ble_eq_true rfl) hD)) (.cons (.inl rfl) (.cons (.inl rfl) .nil)) rfl ?_
  refine Ex.assign (EvX.ev (EvX.call w1 (.cons (Ev.name rfl) .nil) rfl rfl (Nat.le_of_ble_eq_true rfl) hC)) (.inl rfl) ?_
  refine Ex.assign (EvX.ev (EvX.call w2 (.cons (Ev.joinOnes (l := sg) (Ev.o (Ev.name rfl)) (by (clear hwl2 hrd hfl hll hlbl hrl hpll hagl hcl hnul hfwl hwl hl; lia)) rfl) .nil) rfl rfl (Nat.le_of_ble_eq_true rfl) hE)) (.inl rfl) ?_
  refine Ex.assign (EvX.ev (EvX.call w3 (.cons (Ev.callB (.cons (Ev.name rfl) .nil) (call_len_str' (by (clear hwl2 hrd hfl hll hlbl hrl hpll hagl hcl hnul hsgl hfwl hl; lia))) rfl rfl (P.none _ (by simp)) boot_len nofun) (.cons (Ev.name rfl) .nil)) rfl rfl (Nat.le_of_ble_eq_true rfl) hG)) (.inl rfl) ?_
  refine Ex.ite (Te.or (Ors.cons (Te.cmp (Ev.name rfl) (Ev.join (l := sg.map cellOf) (Ev.o (Ev.name rfl)) (by rw [hwr]; (clear hwl2 hrd hfl hll hlbl hrl hpll hagl hcl hnul hsgl hfwl hl; lia)) rfl) cmp_ne_str) fun _ => Ors.cons (Te.not (Te.value (Ev.isinstance (Ev.name rfl) isT_bytes_bytes rfl rfl rfl (P.none _ (by simp)) rfl (P.none _ (by simp))) (tru_bool _))) fun _ => Ors.nil)) (fun hb => ?_) (fun hb => Ex.nil ?_)
  · rw [hwr] at hb; simp at hb
  refine Ex.assign (EvX.ev (EvX.call w4 (.cons (Ev.name rfl) (.cons (Ev.name rfl) .nil)) rfl rfl (Nat.le_of_ble_eq_true rfl) hL)) (.inl rfl) ?_
  have hlab2 : (labOf written (fs.map dig)) = (if written.isEmpty then [] else written ++ [45]) ++ fs.map dig := rfl
  have hfm : (fs.map dig).length ≤ 10000 := by rw [List.length_map]; exact hrl
  refine Ex.assign (v := .str text) (EvX.ev (EvX.call w5 (.cons ?_ (.cons (Ev.cstr rfl) .nil)) rfl rfl (Nat.le_of_ble_eq_true rfl) hP)) (.inl rfl) ?_
  · rw [hlab2]
    refine Ev.binop (Ev.ifexp (Te.value (Ev.name rfl) (tru_str (by (clear hfm hwl2 hrd hfl hll hlbl hrl hpll hagl hcl hnul hsgl hfwl hl; lia)))) (fun h => ?_) (fun h => ?_)) (Ev.joinOnes (l := fs.map dig) (Ev.o (EvN.ev (EvN.mapC (σc := []) (ys := AV.strs (ones (fs.map dig))) (EvI.bytes (Ev.name rfl) rfl) ⟨rfl, rfl, by decide, by decide, rfl⟩ .nil rfl (by simp [strs_len, ones_len]) (by rw [List.length_map]; (clear hwl2 hrd hfl hll hgl hlbl hpll hagl hcl hnul hsgl hfwl hwl hl; lia)) (fun C D T₁ s₁ k v y hv hy => ?_)) ⟨fun _ q => (by cases q), fun q => (by cases q)⟩)) (by (clear hwl2 hrd hfl hll hgl hlbl hpll hagl hcl hnul hsgl hfwl hwl hl; lia)) rfl) (bin_add_str (by split <;> simp <;> omega))
    · have h : written.isEmpty = false := by simpa using h
      rw [h]
      exact Ev.binop (Ev.name rfl) (Ev.cstr (l := [45]) rfl) (bin_add_str (by simp; (clear hfm hwl2 hrd hfl hll hlbl hrl hpll hagl hcl hnul hsgl hfwl hl; lia)))
    · have h : written.isEmpty = true := by simpa using h
      rw [h]
      exact Ev.cstr (l := []) rfl
    · rw [List.getElem?_map] at hv
      refine x1a2 (Option.map_eq_some_iff.mp hv) fun o ho e_0 => ?_; subst e_0
      refine x1a2 (strs_get hy) fun m hm e_0 => ?_; subst e_0
      refine x1a2 (ones_get hm) fun c hc e_0 => ?_; subst e_0
      rw [ho] at hc
      (have hc := Option.some.inj hc; subst hc)
      have ho2 := hdb o (List.mem_of_getElem? ho)
      exact Ev.callB (.cons (Ev.name rfl) .nil) (call_chr' (i := (o : Nat)) (by (clear ho2 hfm hwl2 hrd hfl hll hgl hlbl hrl hpll hagl hcl hnul hsgl hfwl hwl hl; lia)) (by (clear hfm hwl2 hrd hfl hll hgl hlbl hrl hpll hagl hcl hnul hsgl hfwl hwl hl; lia))) rfl rfl (P.none _ (by simp)) boot_chr nofun
  have htl : text.length = laid.length := by rw [htx, List.length_map]
  refine Ex.ite (Te.cmp (Ev.name rfl) (Ev.joinOnes (l := text) (Ev.o (EvN.ev (EvN.mapCT (σc := []) (ns := ["c", "owner"]) (ys := AV.strs (ones text)) (EvI.list (Ev.name rfl) rfl) ⟨rfl, rfl, by decide, by decide, rfl⟩ .nil rfl (fun _ _ _ => .cons (.inl rfl) (.cons (.inl rfl) .nil)) (by decide) (by rw [strs_len, ones_len, row_len]; exact htl) (by rw [row_len]; (clear htl hfm hwl2 hrd hfl hgl hlbl hrl hpll hagl hcl hnul hsgl hfwl hwl hl; lia)) (fun C D T₁ s₁ k v y hv hy => ?_)) ⟨fun _ q => (by cases q), fun q => (by cases q)⟩)) (by (clear hfm hwl2 hrd hfl hgl hlbl hrl hpll hagl hcl hnul hsgl hfwl hwl hl; lia)) rfl) cmp_ne_str) (fun hb => ?_) (fun hb => Ex.nil ?_)
  · refine x1a2 (row_get' hv) fun e he e_0 => ?_; subst e_0
    refine x1a2 (strs_get hy) fun m hm e_0 => ?_; subst e_0
    refine x1a2 (ones_get hm) fun c hc e_0 => ?_; subst e_0
    rw [htx, List.getElem?_map, he] at hc
    (have hc := Option.some.inj hc; subst hc)
    exact ⟨_, rfl, rfl, Ev.name rfl⟩
  · simp at hb
  refine Ex.assign (EvX.ev (EvX.call w6 (.cons (Ev.name rfl) (.cons (Ev.name rfl) (.cons (Ev.name rfl) .nil))) rfl rfl (Nat.le_of_ble_eq_true rfl) hF)) (.inl rfl) ?_
  have hal : again.length = read.length := by rw [hag, List.length_map]
  refine Ex.assign (v := .str again) (Ev.joinOnes (l := again) (Ev.o (EvN.ev (EvN.mapCT (σc := []) (ns := ["c", "owner", "lost"]) (ys := AV.strs (ones again)) (EvI.list (Ev.name rfl) rfl) ⟨rfl, rfl, by decide, by decide, rfl⟩ .nil rfl (fun _ _ _ => .cons (.inl rfl) (.cons (.inl rfl) (.cons (.inl rfl) .nil))) (by decide) (by rw [strs_len, ones_len, itms_len]; exact hal) (by rw [itms_len]; (clear hal htl hfm hwl2 hfl hll hgl hlbl hrl hpll hagl hcl hnul hsgl hfwl hwl hl; lia)) (fun C D T₁ s₁ k v y hv hy => ?_)) ⟨fun _ q => (by cases q), fun q => (by cases q)⟩)) (by (clear hal htl hfm hwl2 hrd hfl hll hlbl hrl hpll hcl hnul hsgl hfwl hwl hl; lia)) rfl) (.inl rfl) ?_
  · refine x1a2 (itm_get hv) fun e he e_0 => ?_; subst e_0
    refine x1a2 (strs_get hy) fun m hm e_0 => ?_; subst e_0
    refine x1a2 (ones_get hm) fun c hc e_0 => ?_; subst e_0
    rw [hag, List.getElem?_map, he] at hc
    (have hc := Option.some.inj hc; subst hc)
    exact ⟨_, rfl, rfl, Ev.name rfl⟩
  refine Ex.ite (Te.or (Ors.cons (Te.cmp (EvX.ev (EvX.call w7 (.cons (Ev.name rfl) .nil) rfl rfl (Nat.le_of_ble_eq_true rfl) hU)) (Ev.name rfl) cmp_ne_str) fun _ => Ors.cons (Te.cmp (EvX.ev (EvX.call w8 (.cons (Ev.name rfl) .nil) rfl rfl (Nat.le_of_ble_eq_true rfl) hE)) (Ev.join (l := again.map cellOf) (Ev.o (EvX.ev (EvX.call w9 (.cons (Ev.callB (.cons (Ev.name rfl) .nil) (call_list_ones (by (clear hal htl hfm hwl2 hrd hfl hll hlbl hrl hpll hcl hnul hsgl hfwl hwl hl; lia))) rfl rfl (P.none _ (by simp)) boot_list nofun) .nil) rfl rfl (Nat.le_of_ble_eq_true rfl) hC))) hwl2 rfl) cmp_ne_str) fun _ => Ors.nil)) (fun hb => ?_) (fun hb => Ex.nil ?_)
  · simp at hb
  have hpt : ∀ k, plainOf (read.take (k + 1)) = plainOf (read.take k) ++ (match read[k]? with | some e => if 0 ≤ e.2.1 then [e.1] else [] | none => []) := fun k => by
    unfold plainOf
    rw [List.take_add_one, List.filter_append, List.map_append]
    cases read[k]? with
    | none => rfl
    | some e => 
      by_cases h : 0 ≤ e.2.1
      · simp [h]
      · simp [h]
  have hpk : ∀ k, (plainOf (read.take k)).length ≤ 1000 := fun k => by
    unfold plainOf
    rw [List.length_map]
    exact Nat.le_trans (List.length_filter_le _ _) (by rw [List.length_take]; (clear hal htl hfm hwl2 hfl hll hgl hlbl hrl hpll hagl hcl hnul hsgl hfwl hwl hl; lia))
  refine Ex.assign (v := .str plain) (Ev.joinOnes (l := plain) (Ev.o ?_) (by (clear hal htl hfm hwl2 hrd hfl hll hlbl hrl hagl hcl hnul hsgl hfwl hwl hl; lia)) rfl) (.inl rfl) ?_
  · refine EvN.ev ?_ ⟨fun _ q => (by cases q), fun q => (by cases q)⟩
    have hpe : (AV.list (AV.strs (ones plain))) = .list ((fun k => AV.strs (ones (plainOf (read.take k)))) (AV.itms read).length) := by
      dsimp only
      rw [itms_len, List.take_length, ← hpl]
    rw [hpe]
    refine EvN.listCT (σc := []) (ns := ["c", "owner", "lost"]) (xs := AV.itms read) (fun k => AV.strs (ones (plainOf (read.take k)))) rfl (EvI.list (Ev.name rfl) rfl) ⟨rfl, rfl, by decide, by decide, rfl⟩ .nil rfl (fun _ _ _ => .cons (.inl rfl) (.cons (.inl rfl) (.cons (.inl rfl) .nil))) (by decide) (fun k hk => by rw [strs_len, ones_len]; have := hpk k; (clear hk hal htl hfm hwl2 hfl hll hgl hlbl hrl hpll hagl hcl hnul hsgl hfwl hwl hl; lia)) (fun C D T₁ s₁ k v hv => ?_)
    · refine x1a2 (itm_get hv) fun e he e_0 => ?_; subst e_0
      have hk := hpt k
      rw [he] at hk
      dsimp only at hk
      refine ⟨_, rfl, rfl, decide (e.2.1 ≥ 0), TeL.one (Te.cmp (Ev.name rfl) Ev.cint cmp_ge_int), fun hb => ?_, fun hb => ⟨_, Ev.name rfl, ?_⟩⟩
      · have hb := of_decide_eq_false hb
        rw [hk, if_neg hb, List.append_nil]
      · have hb := of_decide_eq_true hb
        rw [hk, if_pos hb]
        unfold AV.strs ones
        simp
  refine Ex.assign (v := .bytes (gs.map dig)) (EvX.ev (EvX.call w11 (.cons (Ev.callB (.cons (Ev.name rfl) .nil) (call_len_str' (by (clear hal htl hfm hwl2 hrd hfl hll hlbl hrl hagl hcl hnul hsgl hfwl hwl hl; lia))) rfl rfl (P.none _ (by simp)) boot_len nofun) (.cons (EvX.ev (EvX.call w10 (.cons (Ev.name rfl) (.cons (Ev.name rfl) .nil)) rfl rfl (Nat.le_of_ble_eq_true rfl) hW)) .nil)) rfl rfl (Nat.le_of_ble_eq_true rfl) hG)) (.inl rfl) ?_
  rw [← hup] at w12
  refine Ex.ite (Te.cmp (EvX.ev (EvX.call w12 (.cons (Ev.name rfl) (.cons (Ev.meth0 (x := .bytes (gs.map dig)) FC.meth_upper (Ev.name rfl) (call_upper (by rw [List.length_map]; (clear hal htl hfm hwl2 hrd hfl hll hlbl hrl hpll hagl hcl hnul hsgl hfwl hwl hl; lia))) rfl) (.cons (Ev.cstr rfl) .nil))) rfl rfl (Nat.le_of_ble_eq_true rfl) hI)) (Ev.name rfl) cmp_ne_str) (fun hb => ?_) (fun hb => Ex.nil ?_)
  · simp at hb
  refine Ex.ret (v := .bool ((!(!(AV.nats nu).isEmpty)) || true)) (Ev.or_cons (Ev.not (Ev.name rfl) (tru_list (by rw [nats_len]; (clear hal htl hfm hwl2 hrd hfl hll hlbl hrl hpll hagl hcl hsgl hfwl hwl hl; lia)))) fun hb => Ev.or_one (EvX.ev (EvX.call (hcut ?_) (.cons (Ev.name rfl) (.cons (Ev.name rfl) (.cons (Ev.name rfl) (.cons (Ev.name rfl) (.cons (Ev.name rfl) .nil))))) rfl rfl (Nat.le_of_ble_eq_true rfl) hX))) ?_
  · intro q
    rw [q] at hb
    exact tf hb
  · show Except.ok _ = Except.ok _
    rw [Bool.or_true]
end
end Mine
namespace Mine
open PySem
variable [Lo]
omit [Lo] in
theorem readN_numl (bias : Int) (rest : List Nat) : ∀ (N j : Nat), readN bias j (numl bias j N ++ rest) = some ((numl bias j N).length, N) := by
  intro N
  induction N using Nat.strongRecOn with
  | ind N ih =>
    intro j
    have h1 := tN_ge j bias
    have h2 := tN_le j bias
    rw [numl_eq]
    split
    · rename_i h
      rw [List.cons_append, readN, if_pos h]; simp
    · rename_i h
      have h3 : (N - tN j bias) / (36 - tN j bias) ≤ N - tN j bias := Nat.div_le_self _ _
      have hlt : ¬ tN j bias + (N - tN j bias) % (36 - tN j bias) < tN j bias := by lia
      rw [List.cons_append, readN, if_neg hlt, ih _ (by (clear hlt h2; omega))]
      have hd := Nat.div_add_mod (N - tN j bias) (36 - tN j bias)
      simp only [Option.map_some, List.length_cons, Option.some.injEq, Prod.mk.injEq, true_and]
      omega
omit [Lo] in
theorem numl_lt (bias : Int) : ∀ (N j : Nat), ∀ d ∈ numl bias j N, d < 36 := by
  intro N
  induction N using Nat.strongRecOn with
  | ind N ih =>
    intro j d hd
    have h1 := tN_ge j bias
    have h2 := tN_le j bias
    rw [numl_eq] at hd
    split at hd
    · rename_i h
      have := List.mem_singleton.mp hd
      (clear h1; lia)
    · rename_i h
      have h3 : (N - tN j bias) / (36 - tN j bias) ≤ N - tN j bias := Nat.div_le_self _ _
      have h4 : (N - tN j bias) % (36 - tN j bias) < 36 - tN j bias := Nat.mod_lt _ (by (clear h3 h h1; omega))
      rcases List.mem_cons.mp hd with hd | hd
      · (clear h3 h2; omega)
      · exact ih _ (by (clear h4 h2; omega)) _ d hd
omit [Lo] in
theorem numl_short (bias : Int) : ∀ (k N j : Nat), N < 10 ^ k → (numl bias j N).length ≤ k + 1
  | 0, N, j, h => by
    have h1 := tN_ge j bias
    have : N = 0 := by simpa using h
    subst this
    rw [numl_eq]
    rw [dif_pos (by lia)]; simp
  | k + 1, N, j, h => by
    have h1 := tN_ge j bias
    have h2 := tN_le j bias
    rw [numl_eq]
    split
    · simp
    · have h3 : (N - tN j bias) / (36 - tN j bias) ≤ (N - tN j bias) / 10 := Nat.div_le_div_left (by (clear h1 h; lia)) (by (clear h; lia))
      have h4 : (N - tN j bias) / 10 < 10 ^ k := by rw [Nat.div_lt_iff_lt_mul (by (clear h3 h; lia))]; rw [Nat.pow_succ] at h; (clear h3 h2 h1; omega)
      have := numl_short bias k ((N - tN j bias) / (36 - tN j bias)) (j + 1) (by lia)
      simp only [List.length_cons]; lia
end Mine
namespace Mine
open PySem
noncomputable def layN : List Nat → Nat → Nat → List Nat → List Nat
  | base, _, _, [] => base
  | base, code, at_, n :: ns => layN (insAt ((at_ + n) % (base.length + 1)) (code + (at_ + n) / (base.length + 1)) base) (code + (at_ + n) / (base.length + 1)) ((at_ + n) % (base.length + 1) + 1) ns
noncomputable def bEnd (b0 : Nat) : Nat → Nat → List Nat → Nat
  | _, bias, [] => bias
  | i, bias, d :: ds => bEnd b0 (i + 1) (adp d (i == 0) (b0 + i + 1)) ds
theorem gens_append (b0 : Nat) (ms : List Nat) : ∀ (ns : List Nat) (i bias : Nat), gensGo b0 i bias (ns ++ ms) = gensGo b0 i bias ns ++ gensGo b0 (i + ns.length) (bEnd b0 i bias ns) ms
  | [], i, bias => rfl
  | d :: ds, i, bias => by
    rw [List.cons_append, gensGo, gensGo, bEnd, gens_append b0 ms ds, List.append_assoc, List.length_cons, show i + 1 + ds.length = i + (ds.length + 1) by lia]
theorem map_insAt {α β : Type} (f : α → β) (p : Nat) (x : α) (l : List α) : (insAt p x l).map f = insAt p (f x) (l.map f) := by
  unfold insAt; simp [List.map_take, List.map_drop]
theorem lay_fst : ∀ (ns : List Nat) (row : List Ent) (code at_ t : Nat), (layGo row code at_ t ns).map (·.1) = layN (row.map (·.1)) code at_ ns
  | [], _, _, _, _ => rfl
  | n :: ns, row, code, at_, t => by
    rw [layGo, layN, lay_fst ns, map_insAt, List.length_map]
theorem numl_ne (bias : Int) (j N : Nat) : 0 < (numl bias j N).length := by
  have := readN_numl bias [] N j
  exact (readN_le this).1
theorem ins_gens {fs er : List Nat} {b0 : Nat} {tail : List Nat} : ∀ (ns : List Nat) (i bias p at_ code : Nat) (base : List Nat), base.length = b0 + i → (p == 0) = (i == 0) → p ≤ fs.length → fs.drop p = gensGo b0 i bias ns ++ tail → readN (bEnd b0 i bias ns) 0 tail = none →
    insGo fs er base code at_ bias p = if tail = [] then .ok (.str (layN base code at_ ns)) else if er == strictL then .error (.ude true (fs.length : Nat) ((fs.length : Nat) + 1) incL) else .ok (.str (layN base code at_ ns))
  | [], i, bias, p, at_, code, base, hb, hp, hl, hd, ht => by
    have hd : fs.drop p = tail := hd
    rw [insGo_eq, layN]
    by_cases h : p < fs.length
    · rw [dif_pos h, hd]
      have h0 : tail ≠ [] := fun q => by
        rw [q] at hd
        have := congrArg List.length hd
        rw [List.length_drop, List.length_nil] at this
        lia
      have ht : readN (bias : Nat) 0 tail = none := ht
      rw [ht, if_neg h0]
    · rw [dif_neg h, if_pos]
      rw [← hd]; exact List.drop_of_length_le (Nat.not_lt.mp h)
  | d :: ds, i, bias, p, at_, code, base, hb, hp, hl, hd, ht => by
    rw [gensGo, List.append_assoc] at hd
    have hr := readN_numl (bias : Nat) (gensGo b0 (i + 1) (adp d (i == 0) (b0 + i + 1)) ds ++ tail) d 0
    have h0 := numl_ne (bias : Nat) 0 d
    have hlen := congrArg List.length hd
    rw [List.length_drop, List.length_append] at hlen
    rw [insGo_eq, dif_pos (by lia), hd, hr]
    dsimp only
    rw [dif_pos h0, layN]
    have hil := insAt_len ((at_ + d) % (base.length + 1)) (code + (at_ + d) / (base.length + 1)) base
    rw [hp, show adp d (i == 0) (base.length + 1) = adp d (i == 0) (b0 + i + 1) by rw [hb]]
    refine ins_gens ds (i + 1) _ _ _ _ _ (by rw [hil, hb]; lia) (by rw [beq_false_of_ne (by lia), beq_false_of_ne (by lia)]) (by lia) ?_ ht
    rw [← List.drop_drop, hd, List.drop_left]
theorem ok_gens {fs : List Nat} {b0 : Nat} {tail : List Nat} : ∀ (ns : List Nat) (i bias p at_ code len : Nat), len = b0 + i → (p == 0) = (i == 0) → p ≤ fs.length → fs.drop p = gensGo b0 i bias ns ++ tail → readN (bEnd b0 i bias ns) 0 tail = none →
    at_ ≤ len → (∀ n ∈ ns, n ≤ 6000) → code + 6001 * ns.length ≤ 1114111 → insOk fs len code at_ bias p
  | [], i, bias, p, at_, code, len, hb, hp, hl, hd, ht, _, _, _ => by
    have hd : fs.drop p = tail := hd
    rw [insOk_eq]
    by_cases h : p < fs.length
    · have ht : readN (bias : Nat) 0 tail = none := ht
      rw [dif_pos h, hd, ht]
      trivial
    · rw [dif_neg h]; trivial
  | d :: ds, i, bias, p, at_, code, len, hb, hp, hl, hd, ht, ha, hn, hc => by
    rw [gensGo, List.append_assoc] at hd
    have hr := readN_numl (bias : Nat) (gensGo b0 (i + 1) (adp d (i == 0) (b0 + i + 1)) ds ++ tail) d 0
    have h0 := numl_ne (bias : Nat) 0 d
    have hlen := congrArg List.length hd
    rw [List.length_drop, List.length_append] at hlen
    rw [insOk_eq, dif_pos (by lia), hd, hr]
    dsimp only
    rw [dif_pos h0]
    have hd6 := hn d List.mem_cons_self
    have hq : (at_ + d) / (len + 1) ≤ 1 + d := Nat.div_le_of_le_mul (by rw [Nat.mul_add, Nat.mul_one]; exact Nat.add_le_add (Nat.le_succ_of_le ha) (Nat.le_mul_of_pos_left d (Nat.succ_pos len)))
    have hm : (at_ + d) % (len + 1) < len + 1 := Nat.mod_lt _ (Nat.succ_pos _)
    rw [List.length_cons] at hc
    refine ⟨by lia, ?_⟩
    rw [hp, show adp d (i == 0) (len + 1) = adp d (i == 0) (b0 + i + 1) by rw [hb]]
    refine ok_gens ds (i + 1) _ _ _ _ _ (by lia) (by rw [beq_false_of_ne (by lia), beq_false_of_ne (by lia)]) (by lia) ?_ ht (by lia) (fun n h => hn n (List.mem_cons_of_mem _ h)) (by lia)
    rw [← List.drop_drop, hd, List.drop_left]
theorem gens_lt (b0 : Nat) : ∀ (ns : List Nat) (i bias : Nat), ∀ d ∈ gensGo b0 i bias ns, d < 36
  | [], _, _, d, h => by cases h
  | n :: ns, i, bias, d, h => by
    rw [gensGo] at h
    rcases List.mem_append.mp h with h | h
    · exact numl_lt _ _ _ d h
    · exact gens_lt b0 ns _ _ d h
theorem gens_len (b0 : Nat) : ∀ (ns : List Nat) (i bias : Nat), (∀ n ∈ ns, n ≤ 6000) → (gensGo b0 i bias ns).length ≤ 5 * ns.length
  | [], _, _, _ => Nat.le_refl _
  | n :: ns, i, bias, h => by
    have h1 := numl_short (bias : Nat) 4 n 0 (by have := h n List.mem_cons_self; lia)
    have h2 := gens_len b0 ns (i + 1) (adp n (i == 0) (b0 + i + 1)) fun m hm => h m (List.mem_cons_of_mem _ hm)
    rw [gensGo, List.length_append, List.length_cons]
    lia
theorem readN_cut (bias : Int) : ∀ (N j : Nat), readN bias j (numl bias j N).dropLast = none := by
  intro N
  induction N using Nat.strongRecOn with
  | ind N ih =>
    intro j
    have h1 := tN_ge j bias
    have h2 := tN_le j bias
    rw [numl_eq]
    split
    · rfl
    · rename_i h
      have h3 : (N - tN j bias) / (36 - tN j bias) ≤ N - tN j bias := Nat.div_le_self _ _
      have hlt : ¬ tN j bias + (N - tN j bias) % (36 - tN j bias) < tN j bias := by lia
      have h0 : numl bias (j + 1) ((N - tN j bias) / (36 - tN j bias)) ≠ [] := List.length_pos_iff.mp (numl_ne _ _ _)
      rw [List.dropLast_cons_of_ne_nil h0, readN, if_neg hlt, ih _ (by clear hlt h2; omega)]
      rfl
end Mine
namespace Mine
open PySem
theorem rgo_one (c : Nat) (z : List Nat) : ∀ l : List Nat, rgo [c] z 0 l = l.flatMap fun d => if d = c then z else [d]
  | [] => rfl
  | d :: l => by
    rw [rgo, List.flatMap_cons, rgo_one c z l, List.length_singleton, rgo_one c z l]
    by_cases h : d = c
    · rw [if_pos (by simp [h]), if_pos h]
    · rw [if_neg (by simp [h]), if_neg h]; rfl
theorem flatMap_len {f : Nat → List Nat} (h : ∀ d, (f d).length ≤ 5) : ∀ l : List Nat, (l.flatMap f).length ≤ 5 * l.length
  | [] => Nat.zero_le _
  | d :: l => by
    have := flatMap_len h l
    have := h d
    rw [List.flatMap_cons, List.length_append, List.length_cons]; lia
theorem fit_of {s y z : List Nat} (h : y ≠ z) (hs : s.length ≤ 2000) (hz : z.length ≤ 5) : Fit1 s y z := by
  refine ⟨h, ?_⟩
  have := Nat.mul_le_mul (Nat.succ_le_succ hs) hz
  lia
noncomputable def e1 (d : Nat) : List Nat := if d = 38 then ampL else [d]
noncomputable def e2 (d : Nat) : List Nat := if d = 62 then gtL else [d]
noncomputable def e3 (d : Nat) : List Nat := if d = 60 then ltL else [d]
theorem e12_eq (d : Nat) : (e1 d).flatMap e2 = if d = 38 then ampL else if d = 62 then gtL else [d] := by
  unfold e1
  by_cases h : d = 38
  · rw [if_pos h, if_pos h]; decide
  · rw [if_neg h, if_neg h, List.flatMap_singleton]; rfl
theorem e123_eq (d : Nat) : ((e1 d).flatMap e2).flatMap e3 = cellOf d := by
  rw [e12_eq]
  unfold cellOf
  by_cases h : d = 38
  · subst h; decide
  rw [if_neg h, if_neg h]
  by_cases h2 : d = 62
  · subst h2; decide
  · rw [if_neg h2, List.flatMap_singleton]; rfl
theorem esc_cells {R : List Nat} (h : R.length ≤ 300) : replAll (escSeq []) R = (R.map cellOf).flatten ∧ replFit (escSeq []) R := by
  have s1 : repl R [38] ampL = R.flatMap e1 := by rw [repl_eq (by simp), rgo_one]; rfl
  have s2 : repl (R.flatMap e1) [62] gtL = R.flatMap fun d => (e1 d).flatMap e2 := by rw [repl_eq (by simp), rgo_one, List.flatMap_assoc]; rfl
  have s3 : repl (R.flatMap fun d => (e1 d).flatMap e2) [60] ltL = R.flatMap cellOf := by
    rw [repl_eq (by simp), rgo_one, List.flatMap_assoc]
    exact congrArg (List.flatMap · R) (funext e123_eq)
  have l1 : (R.flatMap e1).length ≤ 5 * R.length := flatMap_len (fun d => by unfold e1; split <;> simp [ampL]) R
  have l2 : (R.flatMap fun d => (e1 d).flatMap e2).length ≤ 5 * R.length := flatMap_len (fun d => by
    rw [e12_eq]
    split
    · simp [ampL]
    · split <;> simp [gtL]) R
  refine ⟨?_, fit_of (by decide) (by lia) (by decide), ?_⟩
  · show repl (repl (repl R [38] ampL) [62] gtL) [60] ltL = _
    rw [s1, s2, s3, List.flatMap_def]
  · show Fit1 (repl R [38] ampL) [62] gtL ∧ Fit1 (repl (repl R [38] ampL) [62] gtL) [60] ltL ∧ True
    rw [s1, s2]
    exact ⟨fit_of (by decide) (by lia) (by decide), fit_of (by decide) (by lia) (by decide), trivial⟩
noncomputable def aN : List Nat := [97, 109, 112]
noncomputable def lN : List Nat := [108, 116]
noncomputable def gN : List Nat := [103, 116]
noncomputable def Kn3 : List (List Nat) := [lN, gN, aN]
noncomputable def V3 : Voc := [(lN, [60]), (gN, [62]), (aN, [38])]
theorem une_outs3 {ts : List Tk} (hts : TsOk Kn3 ts) (hl : (outs [] ts).length ≤ 1000) : replAll (uneSeq []) (outs [] ts) = outs V3 ts ∧ replFit (uneSeq []) (outs [] ts) := by
  have nl : Nm lN := by unfold Nm Lt; decide
  have ng : Nm gN := by unfold Nm Lt; decide
  have na : Nm aN := by unfold Nm Lt; decide
  have v1 : VsOk [(lN, [60])] := fun p hp => by rw [List.mem_singleton.mp hp]; exact ⟨by simp, by simp⟩
  have v2 : VsOk ([(lN, [60])] ++ [(gN, [62])]) := fun p hp => by
    rcases List.mem_append.mp hp with hp | hp
    · exact v1 p hp
    · rw [List.mem_singleton.mp hp]; exact ⟨by simp, by simp⟩
  have s1 : repl (outs [] ts) ltL [60] = outs [(lN, [60])] ts := by rw [repl_eq (by simp [ltL])]; exact rgo_outs (V := []) (fun p hp => by cases hp) nl (by simp [Kn3]) ts hts
  have s2 : repl (outs [(lN, [60])] ts) gtL [62] = outs ([(lN, [60])] ++ [(gN, [62])]) ts := by rw [repl_eq (by simp [gtL])]; exact rgo_outs v1 ng (by simp [Kn3]) ts hts
  have s3 : repl (outs ([(lN, [60])] ++ [(gN, [62])]) ts) ampL [38] = outs V3 ts := by rw [repl_eq (by simp [ampL])]; exact rgo_outs v2 na (by simp [Kn3]) ts hts
  have l1 := outs_len (V := [(lN, [60])]) (fun p hp => by rw [List.mem_singleton.mp hp]; simp) ts
  have l2 := outs_len (V := [(lN, [60])] ++ [(gN, [62])]) (fun p hp => by
    rcases List.mem_append.mp hp with hp | hp
    · rw [List.mem_singleton.mp hp]; simp
    · rw [List.mem_singleton.mp hp]; simp) ts
  refine ⟨?_, fit_of (by decide) (by lia) (by decide), ?_⟩
  · show repl (repl (repl (outs [] ts) ltL [60]) gtL [62]) ampL [38] = _
    rw [s1, s2, s3]
  · show Fit1 (repl (outs [] ts) ltL [60]) gtL [62] ∧ Fit1 (repl (repl (outs [] ts) ltL [60]) gtL [62]) ampL [38] ∧ True
    rw [s1, s2]
    exact ⟨fit_of (by decide) (by lia) (by decide), fit_of (by decide) (by lia) (by decide), trivial⟩
inductive Pc where
  | one (e : Ent)
  | cel (k : Nat)
noncomputable def nmC (c : Nat) : List Nat := if c = 38 then aN else if c = 60 then lN else gN
noncomputable def pcRow (sg : List Nat) : Pc → List Ent
  | .one e => [e]
  | .cel k => cellE k (cellOf (sg.getD k 0))
noncomputable def pcItm (sg : List Nat) : Pc → Itm
  | .one e => (e.1, e.2, 0)
  | .cel k => (sg.getD k 0, (k : Int), (cellOf (sg.getD k 0)).length - 1)
noncomputable def pcTk (sg : List Nat) : Pc → Tk
  | .one e => .ch e.1
  | .cel k => .rf (nmC (sg.getD k 0))
noncomputable def own (e : Ent) : Bool := decide (0 ≤ e.2)
structure PsOk (sg : List Nat) (k j : Nat) (row : List Ent) (ps : List Pc) : Prop where
  rows : (ps.map (pcRow sg)).flatten = row
  fold : foldGo sg (sg.map cellOf) 0 row = ps.map (pcItm sg)
  tk : TsOk Kn3 (ps.map (pcTk sg))
  cel : ∀ i : Nat, .cel i ∈ ps → k ≤ i ∧ i < sg.length ∧ (sg.getD i 0 = 38 ∨ sg.getD i 0 = 60 ∨ sg.getD i 0 = 62)
  one : ∀ e : Ent, .one e ∈ ps → e.2 < 0 ∨ e.2 = (j : Int) ∨ (k : Int) ≤ e.2
  dis : ∀ (e : Ent) (i : Nat), .one e ∈ ps → .cel i ∈ ps → e.2 ≠ (i : Int)
theorem cellOf_cases (c : Nat) : ((c = 38 ∨ c = 60 ∨ c = 62) ∧ cellOf c = refL (nmC c) ∧ Nm (nmC c)) ∨ (¬ (c = 38 ∨ c = 60 ∨ c = 62) ∧ cellOf c = [c]) := by
  unfold cellOf nmC
  by_cases h1 : c = 38
  · subst h1; exact .inl ⟨.inl rfl, rfl, by unfold Nm Lt; decide⟩
  by_cases h2 : c = 60
  · subst h2; exact .inl ⟨.inr (.inl rfl), rfl, by unfold Nm Lt; decide⟩
  by_cases h3 : c = 62
  · subst h3; exact .inl ⟨.inr (.inr rfl), rfl, by unfold Nm Lt; decide⟩
  · exact .inr ⟨by lia, by rw [if_neg h1, if_neg h2, if_neg h3]⟩
theorem outT_pc (sg : List Nat) (p : Pc) (h : ∀ i, p = .cel i → (sg.getD i 0 = 38 ∨ sg.getD i 0 = 60 ∨ sg.getD i 0 = 62)) : outT [] (pcTk sg p) = (pcRow sg p).map (·.1) ∧ outT V3 (pcTk sg p) = [(pcItm sg p).1] := by
  cases p with
  | one e => exact ⟨rfl, rfl⟩
  | cel i =>
    have hi := h i rfl
    show outT [] (.rf (nmC (sg.getD i 0))) = (cellE i (cellOf (sg.getD i 0))).map (·.1) ∧ outT V3 (.rf (nmC (sg.getD i 0))) = [sg.getD i 0]
    generalize sg.getD i 0 = c at hi ⊢
    rcases hi with rfl | rfl | rfl <;> exact ⟨rfl, rfl⟩
theorem flatGo_ge : ∀ (cs : List (List Nat)) (k : Nat), ∀ e ∈ flatGo k cs, (k : Int) ≤ e.2 ∧ e.2 < (k : Int) + cs.length
  | [], _, e, h => by cases h
  | c :: cs, k, e, h => by
    rw [flatGo] at h
    rcases List.mem_append.mp h with h | h
    · unfold cellE at h
      refine x1a2 (List.mem_map.mp h) fun x _ e_0 => ?_; subst e_0
      simp only [List.length_cons]; lia
    · have := flatGo_ge cs (k + 1) e h
      simp only [List.length_cons]; lia
theorem cellE_own (k : Nat) (c : List Nat) : ∀ e ∈ cellE k c, e.2 = (k : Int) := fun e h => by
  unfold cellE at h
  refine x1a2 (List.mem_map.mp h) fun x _ e_0 => ?_; subst e_0; rfl
theorem flat_own (cs : List (List Nat)) (k : Nat) : (flatGo k cs).filter own = flatGo k cs := by
  rw [List.filter_eq_self]
  intro e h
  have := (flatGo_ge cs k e h).1
  exact decide_eq_true (by lia)
theorem take_own {r : List Ent} {m : Nat} (h : ∀ e ∈ r.take m, 0 ≤ e.2) : r.filter own = r.take m ++ (r.drop m).filter own := by
  have h2 : (r.take m).filter own = r.take m := by
    rw [List.filter_eq_self]
    exact fun e he => decide_eq_true (h e he)
  conv => lhs; rw [← List.take_append_drop m r, List.filter_append, h2]
theorem szO_eq {sg : List Nat} {k : Nat} (h : k < sg.length) : szO (sg.map cellOf) (k : Int) = (cellOf (sg.getD k 0)).length := by
  unfold szO
  rw [if_pos (Int.natCast_nonneg k), Int.toNat_natCast]
  simp [List.getD, List.getElem?_eq_getElem h]
theorem szO_neg {cells : List (List Nat)} {o : Int} (h : o < 0) : szO cells o = 1 := by
  unfold szO
  rw [if_neg (by lia)]
end Mine
namespace Mine
open PySem
theorem flat_count (cs : List (List Nat)) {k j : Nat} (h : j < k) : ((flatGo k cs).map (·.2)).count (j : Int) = 0 := by
  refine List.count_eq_zero_of_not_mem fun q => ?_
  refine x1a2 (List.mem_map.mp q) fun e he e_0 => ?_
  have := (flatGo_ge cs k e he).1
  lia
theorem rep_le {r q : List Ent} {m : Nat} {o : Int} (h : (r.take m).map (·.2) = List.replicate m o) (h0 : 0 ≤ o) (hq : r.filter own = q) : m ≤ (q.map (·.2)).count o := by
  have h1 := take_own (r := r) (m := m) fun e he => by
    have : e.2 ∈ (r.take m).map (·.2) := List.mem_map.mpr ⟨e, he, rfl⟩
    rw [h] at this
    rw [(List.mem_replicate.mp this).2]; exact h0
  rw [← hq, h1, List.map_append, h, List.count_append, List.count_replicate_self]
  exact Nat.le_add_right _ _
theorem tk_map {sg : List Nat} {ps : List Pc} (h : ∀ i : Nat, .cel i ∈ ps → (sg.getD i 0 = 38 ∨ sg.getD i 0 = 60 ∨ sg.getD i 0 = 62)) :
    outs [] (ps.map (pcTk sg)) = ((ps.map (pcRow sg)).flatten).map (·.1) ∧ outs V3 (ps.map (pcTk sg)) = (ps.map (pcItm sg)).map (·.1) := by
  induction ps with
  | nil => exact ⟨rfl, rfl⟩
  | cons p ps ih =>
    refine x0a2 (ih fun i hi => h i (List.mem_cons_of_mem _ hi)) fun h1 h2 => ?_
    refine x0a2 (outT_pc sg p fun i hi => h i (hi ▸ List.mem_cons_self)) fun g1 g2 => ?_
    rw [List.map_cons, outs_cons, outs_cons, g1, g2, h1, h2]
    simp
theorem broken {sg : List Nat} {k : Nat} {c : Nat} {r : List Ent} {tl : List Nat} {q : List Ent} (hc : cellOf c = 38 :: tl) (hf : r.filter own = cellE k tl ++ q) (hlow : ∀ e ∈ r, e.2 < 0 → 128 ≤ e.1)
    (hw : (r.take tl.length).map (·.2) ≠ List.replicate tl.length (k : Int)) : ∀ n ∈ Kn3, (r.map (·.1)).take (n.length + 1) ≠ n ++ [59] := by
  intro n hn he
  have hn3 : n = lN ∨ n = gN ∨ n = aN := by simpa [Kn3] using hn
  have hsm : ∀ x ∈ n ++ [59], x < 128 := by rcases hn3 with rfl | rfl | rfl <;> decide
  rw [← List.map_take] at he
  have h1 := take_own (r := r) (m := n.length + 1) fun e h => by
    rcases Int.lt_or_le e.2 0 with g | g
    · have := hlow e (List.mem_of_mem_take h) g
      have := hsm e.1 (he ▸ List.mem_map.mpr ⟨e, h, rfl⟩)
      omega
    · exact g
  rw [hf] at h1
  have hl : (r.take (n.length + 1)).length = n.length + 1 := by
    have := congrArg List.length he
    simpa using this
  have h2 := congrArg (List.map (·.1)) h1
  rw [List.map_append, List.map_append, he] at h2
  have hce : (cellE k tl).map (·.1) = tl := by unfold cellE; rw [List.map_map]; exact List.map_id _
  rw [hce] at h2
  have ht : tl = n ++ [59] := by
    have hcc := cellOf_cases c
    rw [hc] at hcc
    have : tl = [97, 109, 112, 59] ∨ tl = [108, 116, 59] ∨ tl = [103, 116, 59] := by
      rcases hcc with ⟨h, g, _⟩ | ⟨h, g⟩
      · rcases h with rfl | rfl | rfl
        · exact .inl (List.cons.inj g).2
        · exact .inr (.inl (List.cons.inj g).2)
        · exact .inr (.inr (List.cons.inj g).2)
      · exact absurd (.inl (List.cons.inj g).1.symm) h
    rcases hn3 with rfl | rfl | rfl <;> rcases this with rfl | rfl | rfl <;> first | rfl | (exfalso; simp [lN, gN, aN] at h2)
  have hlt : tl.length = n.length + 1 := by rw [ht]; simp
  refine hw ?_
  have h3 := List.append_inj_left h1 (by rw [hl]; unfold cellE; rw [List.length_map, hlt])
  rw [hlt, ← h3]
  unfold cellE
  rw [List.map_map, ← hlt]
  exact List.eq_replicate_iff.mpr ⟨List.length_map .., fun b hb => by refine x1a2 (List.mem_map.mp hb) fun x _ e_0 => ?_; exact e_0.symm⟩
theorem cellOf_tail {c h : Nat} {tl : List Nat} (hc : cellOf c = h :: tl) : (∀ x ∈ tl, x ≠ 38) ∧ (h = 38 → 1 < (cellOf c).length) ∧ (tl ≠ [] → h = 38) := by
  rcases cellOf_cases c with ⟨h1, g, g2⟩ | ⟨h1, g⟩
  · have g0 := g
    rw [hc] at g
    have e := List.cons.inj g
    refine ⟨fun x hx => ?_, fun _ => by rw [g0, refL_len]; lia, fun _ => e.1⟩
    rw [e.2] at hx
    rcases List.mem_append.mp hx with hx | hx
    · exact (g2 x hx).1
    · rw [List.mem_singleton.mp hx]; decide
  · rw [hc] at g
    have e := List.cons.inj g
    refine ⟨fun x hx => (by rw [e.2] at hx; cases hx), fun q => absurd (.inl (e.1.symm.trans q)) h1, fun q => absurd e.2 q⟩
theorem cellOf_ne (c : Nat) : ∃ h tl, cellOf c = h :: tl := by
  rcases cellOf_cases c with ⟨_, g, _⟩ | ⟨_, g⟩
  · exact ⟨38, _, g⟩
  · exact ⟨c, [], g⟩
theorem pieces (sg : List Nat) : ∀ (n : Nat) (row : List Ent), row.length = n → ∀ (k j : Nat) (s : List Nat), (s ≠ [] → j < k ∧ k ≤ sg.length ∧ s.length < (cellOf (sg.getD j 0)).length ∧ ∀ c ∈ s, c ≠ 38) →
    row.filter own = cellE j s ++ flatGo k ((sg.drop k).map cellOf) → (∀ e ∈ row, e.2 < 0 → 128 ≤ e.1) → ∃ ps, PsOk sg k j row ps := by
  intro n
  induction n using Nat.strongRecOn with
  | ind n ih =>
    intro row hn k j s hs hf hlow
    cases row with
    | nil => exact ⟨[], rfl, rfl, trivial, nofun, nofun, nofun⟩
    | cons e r =>
      have hlow' : ∀ x ∈ r, x.2 < 0 → 128 ≤ x.1 := fun x hx => hlow x (List.mem_cons_of_mem _ hx)
      have hrn : r.length < n := by rw [← hn]; exact Nat.lt_succ_self _
      have one : ∀ (k' j' : Nat) (ps : List Pc), PsOk sg k' j' r ps → k ≤ k' → (e.2 < 0 ∨ (e.2 = (j : Int) ∧ j < k ∧ j' = j) ∨ (e.2 = (k : Int) ∧ k < k' ∧ j' = k)) → (∀ x : Ent, .one x ∈ ps → x.2 < 0 ∨ x.2 = (j : Int) ∨ (k : Int) ≤ x.2) →
          ¬ whole (sg.map cellOf) (e :: r) e.2 = true → (e.1 = 38 → ∀ n ∈ Kn3, (r.map (·.1)).take (n.length + 1) ≠ n ++ [59]) → ∃ ps, PsOk sg k j (e :: r) ps := by
        intro k' j' ps P hk he hone hw hb
        refine ⟨.one e :: ps, ?_, ?_, ?_, ?_, ?_, ?_⟩
        · rw [List.map_cons, List.flatten_cons, P.rows]; rfl
        · rw [foldGo_miss hw, P.fold]; rfl
        · refine ⟨fun q m hm => ?_, P.tk⟩
          have := (tk_map (sg := sg) (ps := ps) fun i hi => (P.cel i hi).2.2).1
          rw [this, P.rows]
          exact hb q m hm
        · intro i hi
          rcases List.mem_cons.mp hi with hi | hi
          · cases hi
          · have := P.cel i hi; exact ⟨Nat.le_trans hk this.1, this.2⟩
        · intro x hx
          rcases List.mem_cons.mp hx with hx | hx
          · cases hx; rcases he with h | h | h
            · exact .inl h
            · exact .inr (.inl h.1)
            · exact .inr (.inr (by lia))
          · exact hone x hx
        · intro x i hx hi
          rcases List.mem_cons.mp hi with hi | hi
          · cases hi
          have hc := (P.cel i hi).1
          rcases List.mem_cons.mp hx with hx | hx
          · cases hx
            rcases he with h | h | h <;> lia
          · exact P.dis x i hx hi
      by_cases h0 : 0 ≤ e.2
      · have he : own e = true := decide_eq_true h0
        rw [List.filter_cons_of_pos he] at hf
        cases s with
        | cons x s' =>
          obtain ⟨hjk, hks, hsl, hs38⟩ := hs (List.cons_ne_nil _ _)
          have hf2 := List.cons.inj (show e :: r.filter own = (x, (j : Int)) :: (cellE j s' ++ flatGo k ((sg.drop k).map cellOf)) from hf)
          obtain ⟨ps, P⟩ := ih r.length hrn r rfl k j s' (fun q => ⟨hjk, hks, Nat.lt_of_succ_lt hsl, fun c hc => hs38 c (List.mem_cons_of_mem _ hc)⟩) hf2.2 hlow'
          refine one k j ps P (Nat.le_refl _) (.inr (.inl ⟨by rw [hf2.1], hjk, rfl⟩)) P.one (fun hw => ?_) (fun q => ?_)
          · have hw3 := (whole_pos hw).2.2
            rw [hf2.1] at hw3
            have hsz := szO_eq (sg := sg) (Nat.lt_of_lt_of_le hjk hks)
            dsimp only at hw3
            rw [hsz] at hw3
            have hle := rep_le hw3 (Int.natCast_nonneg j) (q := cellE j (x :: s') ++ flatGo k ((sg.drop k).map cellOf)) (by
              rw [← hf2.1, List.filter_cons_of_pos he, hf2.2, hf2.1]; rfl)
            rw [List.map_append, List.count_append, flat_count _ hjk] at hle
            have : (List.map (fun x : Ent => x.2) (cellE j (x :: s'))).count (j : Int) ≤ (x :: s').length := Nat.le_trans List.count_le_length (by unfold cellE; simp)
            omega
          · rw [hf2.1] at q
            exact absurd q (hs38 x List.mem_cons_self)
        | nil =>
          have hf : e :: r.filter own = flatGo k ((sg.drop k).map cellOf) := hf
          cases hd : sg.drop k with
          | nil => rw [hd] at hf; cases hf
          | cons c rest =>
            have hk : k < sg.length := by
              rcases Nat.lt_or_ge k sg.length with h | h
              · exact h
              · rw [List.drop_of_length_le h] at hd; cases hd
            have hck : sg.getD k 0 = c := by
              have := List.drop_eq_getElem_cons hk
              rw [hd] at this
              have := (List.cons.inj this).1
              simp [List.getD, List.getElem?_eq_getElem hk, this]
            have hrest : sg.drop (k + 1) = rest := by
              have := List.drop_eq_getElem_cons hk
              rw [hd] at this
              exact (List.cons.inj this).2.symm
            obtain ⟨h, tl, hcell⟩ := cellOf_ne c
            rw [hd, List.map_cons, flatGo, hcell] at hf
            have hf2 := List.cons.inj (show e :: r.filter own = (h, (k : Int)) :: (cellE k tl ++ flatGo (k + 1) (rest.map cellOf)) from hf)
            obtain ⟨ht1, ht2, ht3⟩ := cellOf_tail hcell
            have hek : e.2 = (k : Int) := by rw [hf2.1]
            have hsz : szO (sg.map cellOf) e.2 = tl.length + 1 := by rw [hek, szO_eq hk, hck, hcell]; rfl
            by_cases hw : whole (sg.map cellOf) (e :: r) e.2 = true
            · obtain ⟨w1, w2, w3⟩ := whole_pos hw
              rw [hsz] at w1 w2 w3
              have htake := take_own (r := e :: r) (m := tl.length + 1) fun x hx => by
                have : x.2 ∈ ((e :: r).take (tl.length + 1)).map (·.2) := List.mem_map.mpr ⟨x, hx, rfl⟩
                rw [w3] at this
                rw [(List.mem_replicate.mp this).2]; exact h0
              rw [List.filter_cons_of_pos he, hf] at htake
              have hinj := List.append_inj htake (by rw [List.length_take, Nat.min_eq_left w2]; unfold cellE; simp)
              have hdl : ((e :: r).drop (tl.length + 1)).length < n := by rw [List.length_drop, ← hn]; simp only [List.length_cons]; lia
              obtain ⟨ps, P⟩ := ih _ hdl ((e :: r).drop (tl.length + 1)) rfl (k + 1) (k + 1) [] (fun q => absurd rfl q) (by rw [hrest]; exact hinj.2.symm) (fun x hx => hlow x (List.mem_of_mem_drop hx))
              have hspec : c = 38 ∨ c = 60 ∨ c = 62 := by
                rcases cellOf_cases c with ⟨q, _⟩ | ⟨_, q⟩
                · exact q
                · rw [hcell] at q
                  have := (List.cons.inj q).2
                  rw [this] at w1
                  simp at w1
              refine ⟨.cel k :: ps, ?_, ?_, ?_, ?_, ?_, ?_⟩
              · rw [List.map_cons, List.flatten_cons, P.rows]
                show cellE k (cellOf (sg.getD k 0)) ++ _ = _
                rw [hck, hcell, hinj.1, List.take_append_drop]
              · rw [foldGo_hit hw, hsz, P.fold, List.map_cons]
                show _ = (sg.getD k 0, (k : Int), (cellOf (sg.getD k 0)).length - 1) :: _
                rw [hek, Int.toNat_natCast, hck, hcell]
                rfl
              · refine ⟨?_, P.tk⟩
                rw [hck]
                rcases hspec with rfl | rfl | rfl <;> (unfold Nm Lt nmC; decide)
              · intro i hi
                rcases List.mem_cons.mp hi with hi | hi
                · cases hi; exact ⟨Nat.le_refl _, hk, by rw [hck]; exact hspec⟩
                · have := P.cel i hi; exact ⟨Nat.le_of_succ_le this.1, this.2⟩
              · intro x hx
                rcases List.mem_cons.mp hx with hx | hx
                · cases hx
                · rcases P.one x hx with h | h | h
                  · exact .inl h
                  · exact .inr (.inr (by lia))
                  · exact .inr (.inr (by lia))
              · intro x i hx hi
                rcases List.mem_cons.mp hx with hx | hx
                · cases hx
                rcases List.mem_cons.mp hi with hi | hi
                · cases hi
                  rcases P.one x hx with h | h | h <;> lia
                · exact P.dis x i hx hi
            · obtain ⟨ps, P⟩ := ih r.length hrn r rfl (k + 1) k tl (fun q => ⟨Nat.lt_succ_self _, hk, by rw [hck, hcell]; exact Nat.lt_succ_self _, ht1⟩) (by rw [hrest]; exact hf2.2) hlow'
              refine one (k + 1) k ps P (Nat.le_succ _) (.inr (.inr ⟨hek, Nat.lt_succ_self _, rfl⟩)) (fun x hx => ?_) hw (fun q => ?_)
              · rcases P.one x hx with h | h | h
                · exact .inl h
                · exact .inr (.inr (by lia))
                · exact .inr (.inr (by lia))
              · have hh : h = 38 := by rw [hf2.1] at q; exact q
                rw [hh] at hcell
                refine broken (sg := sg) hcell hf2.2 hlow' fun hrep => hw ?_
                have hpos := ht2 hh
                rw [hh] at ht2
                unfold whole
                rw [hsz, List.take_succ_cons, List.map_cons, hek, hrep, List.replicate_succ, beq_self_eq_true, Bool.and_true, decide_eq_true_eq]
                have : (cellOf c).length = tl.length + 1 := by rw [hcell]; rfl
                omega
      · have hneg : e.2 < 0 := Int.not_le.mp h0
        rw [List.filter_cons_of_neg (by unfold own; simpa using h0)] at hf
        obtain ⟨ps, P⟩ := ih r.length hrn r rfl k j s hs hf hlow'
        refine one k j ps P (Nat.le_refl _) (.inl hneg) P.one (fun hw => ?_) (fun q => ?_)
        · have := (whole_pos hw).1
          rw [szO_neg hneg] at this
          exact absurd this (Nat.lt_irrefl _)
        · have := hlow e List.mem_cons_self hneg
          lia
end Mine
namespace Mine
open PySem
section
variable (pr : Ent → Option Ent)
noncomputable def dn (r : List Ent) : Nat := (r.filter fun e => (pr e).isNone).length
theorem dn_append (a b : List Ent) : dn pr (a ++ b) = dn pr a + dn pr b := by unfold dn; rw [List.filter_append, List.length_append]
theorem dn_cons (e : Ent) (b : List Ent) : dn pr (e :: b) = (if (pr e).isNone = true then 1 else 0) + dn pr b := by
  unfold dn
  by_cases h : (pr e).isNone = true
  · rw [List.filter_cons_of_pos (p := fun e => (pr e).isNone) h, if_pos h, List.length_cons, Nat.add_comm]
  · rw [List.filter_cons_of_neg (p := fun e => (pr e).isNone) h, if_neg h, Nat.zero_add]
theorem dn_len : ∀ r : List Ent, dn pr r + (r.filterMap pr).length = r.length
  | [] => rfl
  | e :: r => by
    have ih := dn_len r
    rw [dn_cons]
    cases h : pr e with
    | none => rw [List.filterMap_cons_none h, Option.isNone_none, if_pos rfl, List.length_cons]; lia
    | some x => rw [List.filterMap_cons_some h, Option.isNone_some, if_neg (by decide), List.length_cons, List.length_cons]; lia
theorem pr_le (r : List Ent) {a b : Nat} (h : a ≤ b) : ((r.take a).filterMap pr).length ≤ ((r.take b).filterMap pr).length := by
  have : r.take a = (r.take b).take a := by rw [List.take_take, Nat.min_eq_left h]
  rw [this]
  conv => rhs; rw [← List.take_append_drop a (r.take b), List.filterMap_append, List.length_append]
  exact Nat.le_add_right _ _
variable {pr}
theorem dn_ins {e : Ent} (he : pr e = some e) (p : Nat) (r : List Ent) : dn pr (insAt p e r) = dn pr r := by
  unfold insAt
  rw [dn_append, dn_cons, he, Option.isNone_some, if_neg (by decide), Nat.zero_add, ← dn_append, List.take_append_drop]
theorem pr_ins {e : Ent} (he : pr e = some e) (p : Nat) (r : List Ent) : (insAt p e r).filterMap pr = insAt ((r.take p).filterMap pr).length e (r.filterMap pr) := by
  have h : r.filterMap pr = (r.take p).filterMap pr ++ (r.drop p).filterMap pr := by rw [← List.filterMap_append, List.take_append_drop]
  unfold insAt
  rw [List.filterMap_append, List.filterMap_cons_some he, h, List.take_left, List.drop_left]
theorem ins_mid {x e : Ent} (hx : pr x = some x) (p : Nat) (A B : List Ent) : ∃ A' B', insAt p x (A ++ e :: B) = A' ++ e :: B' ∧ dn pr A' = dn pr A ∧ ∀ y ∈ A' ++ B', y = x ∨ y ∈ A ++ B := by
  by_cases h : p ≤ A.length
  · refine ⟨insAt p x A, B, ?_, dn_ins hx p A, fun y hy => ?_⟩
    · unfold insAt
      rw [List.take_append_of_le_length h, List.drop_append_of_le_length h, List.append_assoc, List.cons_append]
    · rcases List.mem_append.mp hy with hy | hy
      · unfold insAt at hy
        rcases List.mem_append.mp hy with hy | hy
        · exact .inr (List.mem_append_left _ (List.mem_of_mem_take hy))
        · rcases List.mem_cons.mp hy with hy | hy
          · exact .inl hy
          · exact .inr (List.mem_append_left _ (List.mem_of_mem_drop hy))
      · exact .inr (List.mem_append_right _ hy)
  · obtain ⟨m, hm⟩ : ∃ m, p = A.length + (m + 1) := ⟨p - A.length - 1, by lia⟩
    refine ⟨A, insAt m x B, ?_, rfl, fun y hy => ?_⟩
    · unfold insAt
      rw [hm, List.take_length_add_append, List.drop_length_add_append, List.take_succ_cons, List.drop_succ_cons, List.append_assoc]
      rfl
    · rcases List.mem_append.mp hy with hy | hy
      · exact .inr (List.mem_append_left _ hy)
      · unfold insAt at hy
        rcases List.mem_append.mp hy with hy | hy
        · exact .inr (List.mem_append_right _ (List.mem_of_mem_take hy))
        · rcases List.mem_cons.mp hy with hy | hy
          · exact .inl hy
          · exact .inr (List.mem_append_right _ (List.mem_of_mem_drop hy))
theorem lay_mid (hn : ∀ (c : Nat) (o : Int), o < 0 → pr (c, o) = some (c, o)) {e : Ent} : ∀ (ns : List Nat) (A B : List Ent) (code at_ t : Nat), (∀ y ∈ A ++ B, y.2 ≠ e.2) → -1 - (t : Int) < e.2 →
    ∃ A' B', layGo (A ++ e :: B) code at_ t ns = A' ++ e :: B' ∧ dn pr A' = dn pr A ∧ ∀ y ∈ A' ++ B', y.2 ≠ e.2
  | [], A, B, code, at_, t, h, _ => ⟨A, B, rfl, rfl, h⟩
  | n :: ns, A, B, code, at_, t, h, ht => by
    rw [layGo]
    generalize (at_ + n) % ((A ++ e :: B).length + 1) = p
    generalize code + (at_ + n) / ((A ++ e :: B).length + 1) = c
    obtain ⟨A1, B1, h1, h2, h3⟩ := ins_mid (pr := pr) (e := e) (hn c (-1 - (t : Int)) (by lia)) p A B
    rw [h1]
    obtain ⟨A2, B2, g1, g2, g3⟩ := lay_mid hn (e := e) ns A1 B1 c (p + 1) (t + 1) (fun y hy => by
      rcases h3 y hy with h' | h'
      · rw [h']; dsimp only; lia
      · exact h y h') (by lia)
    exact ⟨A2, B2, g1, g2.trans h2, g3⟩
end
noncomputable def spR (pr : Ent → Option Ent) : List Ent → Nat → List (Nat × Nat) → List (Nat × Nat)
  | [], _, sp => sp
  | e :: r, a, sp => spR pr r (a + if (pr e).isNone = true then 1 else 0) (if e.2 < 0 then sp.set (-1 - e.2).toNat (e.1, a) else sp)
theorem spR_append (pr : Ent → Option Ent) : ∀ (A B : List Ent) (a : Nat) (sp : List (Nat × Nat)), spR pr (A ++ B) a sp = spR pr B (a + dn pr A) (spR pr A a sp)
  | [], B, a, sp => rfl
  | e :: A, B, a, sp => by rw [List.cons_append, spR, spR_append pr A B, spR, dn_cons, Nat.add_assoc]
theorem spR_len (pr : Ent → Option Ent) : ∀ (A : List Ent) (a : Nat) (sp : List (Nat × Nat)), (spR pr A a sp).length = sp.length
  | [], _, _ => rfl
  | e :: A, a, sp => by rw [spR, spR_len pr A]; split <;> simp
theorem spR_keep (pr : Ent → Option Ent) (t : Nat) : ∀ (A : List Ent) (a : Nat) (sp : List (Nat × Nat)), (∀ y ∈ A, y.2 ≠ -1 - (t : Int)) → (spR pr A a sp)[t]? = sp[t]?
  | [], _, _, _ => rfl
  | e :: A, a, sp, h => by
    rw [spR, spR_keep pr t A _ _ fun y hy => h y (List.mem_cons_of_mem _ hy)]
    have := h e List.mem_cons_self
    split
    · rw [List.getElem?_set_ne (by lia)]
    · rfl
theorem spR_at (pr : Ent → Option Ent) {A B : List Ent} {c t : Nat} {sp : List (Nat × Nat)} (h : ∀ y ∈ A ++ B, y.2 ≠ -1 - (t : Int)) (ht : t < sp.length) : (spR pr (A ++ (c, -1 - (t : Int)) :: B) 0 sp)[t]? = some (c, dn pr A) := by
  rw [spR_append, spR, spR_keep pr t B _ _ fun y hy => h y (List.mem_append_right _ hy), if_pos (by dsimp only; lia)]
  dsimp only
  have e : (-1 - (-1 - (t : Int))).toNat = t := by lia
  rw [e, List.getElem?_set_self (by rw [spR_len]; exact ht), Nat.zero_add]
theorem few_lay {pr : Ent → Option Ent} (hn : ∀ (c : Nat) (o : Int), o < 0 → pr (c, o) = some (c, o)) {less : Nat} {sp0 : List (Nat × Nat)} : ∀ (ns : List Nat) (row : List Ent) (code at_ t : Nat), at_ ≤ row.length → dn pr row = less → t + ns.length ≤ sp0.length →
    (∀ e ∈ row, -1 - (t : Int) < e.2) → (∀ n ∈ ns, n < 5000) → row.length + ns.length ≤ 1000 →
    ∃ fw : List Nat, fewGo less code (dn pr (row.take at_)) ns ((spR pr (layGo row code at_ t ns) 0 sp0).drop t) = fw.map (fun (n : Nat) => (n : Int)) ∧ fw.length = ns.length ∧ (∀ n ∈ fw, n ≤ 6000) ∧
      layN ((row.filterMap pr).map (·.1)) code ((row.take at_).filterMap pr).length fw = ((layGo row code at_ t ns).filterMap pr).map (·.1)
  | [], row, code, at_, t, _, _, _, _, _, _ => ⟨[], by simp [fewGo], rfl, nofun, rfl⟩
  | n :: ns, row, code, at_, t, ha, hl, hsp, hf, hb, hsz => by
    rw [layGo]
    have hm : (at_ + n) % (row.length + 1) < row.length + 1 := Nat.mod_lt _ (Nat.succ_pos _)
    have hdm := Nat.div_add_mod (at_ + n) (row.length + 1)
    generalize (at_ + n) % (row.length + 1) = p at hm hdm ⊢
    generalize (at_ + n) / (row.length + 1) = q at hdm ⊢
    have hp : p ≤ row.length := Nat.le_of_lt_succ hm
    have hnew := hn (code + q) (-1 - (t : Int)) (by lia)
    have htk : (insAt p (code + q, -1 - (t : Int)) row).take (p + 1) = row.take p ++ [((code + q, -1 - (t : Int)) : Ent)] := by
      unfold insAt
      have : (row.take p).length = p := by rw [List.length_take]; exact Nat.min_eq_left hp
      rw [show p + 1 = (row.take p).length + 1 by rw [this], List.take_length_add_append]
      rfl
    have hil := insAt_len p ((code + q, -1 - (t : Int)) : Ent) row
    simp only [List.length_cons] at hsp hsz
    obtain ⟨fw, i1, i2, i3, i4⟩ := few_lay hn (less := less) (sp0 := sp0) ns (insAt p (code + q, -1 - (t : Int)) row) (code + q) (p + 1) (t + 1) (by rw [hil]; exact Nat.succ_le_succ hp) (by rw [dn_ins hnew]; exact hl) (by lia) (fun e he => by
        unfold insAt at he
        rcases List.mem_append.mp he with he | he
        · have := hf e (List.mem_of_mem_take he); lia
        · rcases List.mem_cons.mp he with he | he
          · rw [he]; dsimp only; lia
          · have := hf e (List.mem_of_mem_drop he); lia) (fun m hm => hb m (List.mem_cons_of_mem _ hm)) (by rw [hil]; lia)
    obtain ⟨A, B, hAB, hdA, hAn⟩ := lay_mid hn (e := (code + q, -1 - (t : Int))) ns (row.take p) (row.drop p) (code + q) (p + 1) (t + 1) (fun y hy => by
        rw [List.take_append_drop] at hy
        have := hf y hy
        dsimp only; lia) (by dsimp only; lia)
    have hins : insAt p ((code + q, -1 - (t : Int)) : Ent) row = row.take p ++ (code + q, -1 - (t : Int)) :: row.drop p := rfl
    rw [← hins] at hAB
    have hget : (spR pr (layGo (insAt p (code + q, -1 - (t : Int)) row) (code + q) (p + 1) (t + 1) ns) 0 sp0)[t]? = some (code + q, dn pr (row.take p)) := by
      rw [hAB, ← hdA]
      exact spR_at pr hAn (by lia)
    rw [drop_of_get hget, fewGo]
    dsimp only
    rw [htk, dn_append] at i1
    have hd1 : dn pr [((code + q, -1 - (t : Int)) : Ent)] = 0 := by rw [dn_cons, hnew]; rfl
    rw [hd1, Nat.add_zero] at i1
    rw [i1]
    rw [htk, List.filterMap_append, List.filterMap_cons_some hnew, List.filterMap_nil, List.length_append, List.length_singleton, pr_ins hnew, map_insAt] at i4
    have k1 := dn_len pr row
    have k2 := dn_len pr (row.take p)
    have k3 := dn_len pr (row.take at_)
    rw [List.length_take, Nat.min_eq_left hp] at k2
    rw [List.length_take, Nat.min_eq_left ha] at k3
    rw [hl] at k1
    have k4 := pr_le pr row hp
    have k5 := pr_le pr row ha
    rw [List.take_length] at k4 k5
    have k6 : q = 0 → ((row.take at_).filterMap pr).length ≤ ((row.take p).filterMap pr).length := fun h0 => by
      subst h0
      exact pr_le pr row (by lia)
    have hb0 := hb n List.mem_cons_self
    generalize hL : (row.filterMap pr).length = L at k1 k4 k5
    generalize ((row.take p).filterMap pr).length = p' at i4 k2 k4 k6
    generalize ((row.take at_).filterMap pr).length = a' at k3 k5 k6 ⊢
    generalize dn pr (row.take p) = dp at k2 ⊢
    generalize dn pr (row.take at_) = da at k3 ⊢
    have hle : a' ≤ q * (L + 1) + p' := by
      cases q with
      | zero => have := k6 rfl; lia
      | succ q => rw [Nat.succ_mul]; lia
    have hmul : (row.length + 1) * q = q * (L + 1) + less * q := by rw [← k1, Nat.mul_comm, show less + L + 1 = (L + 1) + less by lia, Nat.mul_add, Nat.mul_comm q less]
    have e0 : (n : Int) - (less : Int) * (((code + q : Nat) : Int) - (code : Int)) - ((dp : Int) - (da : Int)) = ((q * (L + 1) + p' - a' : Nat) : Int) := by
      have : ((code + q : Nat) : Int) - (code : Int) = (q : Int) := by lia
      rw [this, ← Int.natCast_mul]
      generalize less * q = lq at hmul ⊢
      generalize q * (L + 1) = qL at hmul hle ⊢
      generalize (row.length + 1) * q = x at hmul hdm
      lia
    refine ⟨(q * (L + 1) + p' - a') :: fw, ?_, by rw [List.length_cons, i2, List.length_cons], fun m hm => ?_, ?_⟩
    · rw [e0, List.map_cons]
    · rcases List.mem_cons.mp hm with hm | hm
      · rw [hm]
        generalize less * q = lq at hmul
        generalize q * (L + 1) = qL at hmul hle ⊢
        generalize (row.length + 1) * q = x at hmul hdm
        lia
      · exact i3 m hm
    · rw [layN, List.length_map, hL]
      have e1 : a' + (q * (L + 1) + p' - a') = (L + 1) * q + p' := by rw [Nat.mul_comm (L + 1) q]; exact Nat.add_sub_cancel' hle
      rw [e1, Nat.mul_add_div (Nat.succ_pos L), Nat.mul_add_mod, Nat.div_eq_of_lt (Nat.lt_succ_of_le k4), Nat.mod_eq_of_lt (Nat.lt_succ_of_le k4), Nat.add_zero]
      exact i4
end Mine
namespace Mine
open PySem
noncomputable def wPs (ps : List Pc) (o : Int) : Prop := ∃ k : Nat, .cel k ∈ ps ∧ (k : Int) = o
open Classical in
noncomputable def prP (sg : List Nat) (ps : List Pc) (e : Ent) : Option Ent := if wPs ps e.2 then (if e.1 = 38 then some (sg.getD e.2.toNat 0, e.2) else none) else some e
theorem prP_neg (sg : List Nat) (ps : List Pc) (c : Nat) (o : Int) (h : o < 0) : prP sg ps (c, o) = some (c, o) := by
  unfold prP
  rw [if_neg]
  intro ⟨k, _, q⟩
  dsimp only at q
  lia
theorem prP_own {sg : List Nat} {ps : List Pc} {e x : Ent} (h : prP sg ps e = some x) : x.2 = e.2 := by
  unfold prP at h
  split at h
  · split at h
    · cases h; rfl
    · cases h
  · cases h; rfl
theorem own_comm {pr : Ent → Option Ent} (h : ∀ e x, pr e = some x → x.2 = e.2) : ∀ r : List Ent, (r.filterMap pr).filter own = (r.filter own).filterMap pr
  | [] => rfl
  | e :: r => by
    have ih := own_comm h r
    cases he : pr e with
    | none =>
      rw [List.filterMap_cons_none he, ih]
      by_cases ho : own e = true
      · rw [List.filter_cons_of_pos ho, List.filterMap_cons_none he]
      · rw [List.filter_cons_of_neg ho]
    | some x =>
      have hx : own x = own e := by unfold own; rw [h e x he]
      rw [List.filterMap_cons_some he]
      by_cases ho : own e = true
      · rw [List.filter_cons_of_pos ho, List.filterMap_cons_some he, List.filter_cons_of_pos (hx.trans ho), ih]
      · rw [List.filter_cons_of_neg ho, List.filter_cons_of_neg (by rw [hx]; exact ho), ih]
theorem spR_own (pr : Ent → Option Ent) : ∀ (A : List Ent) (a : Nat) (sp : List (Nat × Nat)), (∀ y ∈ A, 0 ≤ y.2) → spR pr A a sp = sp
  | [], _, _, _ => rfl
  | e :: A, a, sp, h => by
    rw [spR, spR_own pr A _ _ fun y hy => h y (List.mem_cons_of_mem _ hy)]
    exact if_neg (Int.not_lt.mpr (h e List.mem_cons_self))
section
variable {sg : List Nat} {k j : Nat} {row : List Ent} {ps : List Pc}
noncomputable def itE (e : Itm) : Ent := (e.1, e.2.1)
theorem cel_facts (P : PsOk sg k j row ps) {i : Nat} (h : .cel i ∈ ps) :
    (cellE i (cellOf (sg.getD i 0))).filterMap (prP sg ps) = [(sg.getD i 0, (i : Int))] ∧ dn (prP sg ps) (cellE i (cellOf (sg.getD i 0))) = (cellOf (sg.getD i 0)).length - 1 := by
  obtain ⟨h1, tl, hc⟩ := cellOf_ne (sg.getD i 0)
  obtain ⟨t1, _, t3⟩ := cellOf_tail hc
  have hw : wPs ps (i : Int) := ⟨i, h, rfl⟩
  have h38 : h1 = 38 := by
    have := (P.cel i h).2.2
    generalize sg.getD i 0 = c at this hc
    rcases this with rfl | rfl | rfl <;> exact (List.cons.inj hc).1.symm
  subst h38
  rw [hc]
  have e0 : prP sg ps (38, (i : Int)) = some (sg.getD i 0, (i : Int)) := by
    unfold prP; rw [if_pos hw, if_pos rfl]; rfl
  have e1 : ∀ x ∈ cellE i tl, prP sg ps x = none := fun x hx => by
    unfold cellE at hx
    refine x1a2 (List.mem_map.mp hx) fun y hy e_0 => ?_; subst e_0
    unfold prP; rw [if_pos hw, if_neg (t1 y hy)]
  have e2 : (cellE i tl).filterMap (prP sg ps) = [] := List.filterMap_eq_nil_iff.mpr e1
  have hs : cellE i (38 :: tl) = (38, (i : Int)) :: cellE i tl := rfl
  have hl := dn_len (prP sg ps) (cellE i tl)
  rw [e2] at hl
  refine ⟨?_, ?_⟩
  · rw [hs, List.filterMap_cons_some e0, e2]
  · rw [hs, dn_cons, e0, Option.isNone_some, if_neg (by decide), Nat.zero_add]
    have : (cellE i tl).length = tl.length := by unfold cellE; rw [List.length_map]
    simp only [List.length_cons, List.length_nil] at hl ⊢
    lia
theorem ps_facts (P : PsOk sg k j row ps) : ∀ qs : List Pc, (∀ p ∈ qs, p ∈ ps) → ((qs.map (pcRow sg)).flatten).filterMap (prP sg ps) = (qs.map (pcItm sg)).map itE ∧ dn (prP sg ps) (qs.map (pcRow sg)).flatten = lessOf (qs.map (pcItm sg)) ∧
    ∀ a sp, spGo (qs.map (pcItm sg)) a sp = spR (prP sg ps) (qs.map (pcRow sg)).flatten a sp
  | [], _ => ⟨rfl, rfl, fun _ _ => rfl⟩
  | p :: qs, h => by
    obtain ⟨i1, i2, i3⟩ := ps_facts P qs fun q hq => h q (List.mem_cons_of_mem _ hq)
    have hp := h p List.mem_cons_self
    rw [List.map_cons, List.map_cons, List.flatten_cons]
    cases p with
    | one e =>
      have he : prP sg ps e = some e := by
        unfold prP
        rw [if_neg]
        intro ⟨i, hi, q⟩
        exact P.dis e i hp hi q.symm
      have hr : pcRow sg (.one e) ++ (qs.map (pcRow sg)).flatten = e :: (qs.map (pcRow sg)).flatten := rfl
      rw [hr]
      refine ⟨?_, ?_, fun a sp => ?_⟩
      · rw [List.filterMap_cons_some he, i1]; rfl
      · rw [dn_cons, he, i2, Option.isNone_some, if_neg (by decide)]
        unfold lessOf
        rw [List.map_cons, List.sum_cons]; rfl
      · rw [spR, he, Option.isNone_some, if_neg (by decide), ← i3]; rfl
    | cel i =>
      obtain ⟨g1, g2⟩ := cel_facts P hp
      have hr : pcRow sg (.cel i) = cellE i (cellOf (sg.getD i 0)) := rfl
      rw [hr]
      refine ⟨?_, ?_, fun a sp => ?_⟩
      · rw [List.filterMap_append, g1, i1]; rfl
      · rw [dn_append, g2, i2]
        unfold lessOf
        rw [List.map_cons, List.sum_cons]; rfl
      · rw [spR_append, g2, spR_own _ (cellE i (cellOf (sg.getD i 0))) _ _ fun y hy => by rw [cellE_own _ _ y hy]; exact Int.natCast_nonneg i, ← i3]
        have h0 : ¬ (i : Int) < 0 := Int.not_lt.mpr (Int.natCast_nonneg i)
        rw [spGo]
        show spGo _ _ (if (i : Int) < 0 then (sp.set (-1 - (i : Int)).toNat ((pcItm sg (.cel i)).1, a + (pcItm sg (.cel i)).2.2)) else sp) = _
        rw [if_neg h0]; rfl
end
theorem lay_own : ∀ (ns : List Nat) (row : List Ent) (code at_ t : Nat), (layGo row code at_ t ns).filter own = row.filter own
  | [], _, _, _, _ => rfl
  | n :: ns, row, code, at_, t => by
    rw [layGo, lay_own ns]
    unfold insAt
    rw [List.filter_append, List.filter_cons_of_neg (by unfold own; simp; lia), ← List.filter_append, List.take_append_drop]
theorem lay_len : ∀ (ns : List Nat) (row : List Ent) (code at_ t : Nat), (layGo row code at_ t ns).length = row.length + ns.length
  | [], _, _, _, _ => rfl
  | n :: ns, row, code, at_, t => by rw [layGo, lay_len ns, insAt_len, List.length_cons]; lia
theorem lay_mem : ∀ (ns : List Nat) (row : List Ent) (code at_ t : Nat), ∀ e ∈ layGo row code at_ t ns, e ∈ row ∨ (e.2 < 0 ∧ code ≤ e.1 ∧ (-1 - e.2).toNat < t + ns.length)
  | [], _, _, _, _, e, h => .inl h
  | n :: ns, row, code, at_, t, e, h => by
    rw [layGo] at h
    rw [List.length_cons]
    rcases lay_mem ns _ _ _ _ e h with h | ⟨h1, h2, h3⟩
    · unfold insAt at h
      rcases List.mem_append.mp h with h | h
      · exact .inl (List.mem_of_mem_take h)
      · rcases List.mem_cons.mp h with h | h
        · right
          rw [h]; dsimp only
          exact ⟨by lia, Nat.le_add_right _ _, by lia⟩
        · exact .inl (List.mem_of_mem_drop h)
    · exact .inr ⟨h1, Nat.le_trans (Nat.le_add_right _ _) h2, by lia⟩
theorem flat_fst : ∀ (cs : List (List Nat)) (k : Nat), (flatGo k cs).map (·.1) = cs.flatten
  | [], _ => rfl
  | c :: cs, k => by
    rw [flatGo, List.map_append, flat_fst cs, List.flatten_cons]
    congr 1
    unfold cellE; rw [List.map_map]; exact List.map_id _
structure In2 (sg nu : List Nat) : Prop where
  sl : sg.length ≤ 10
  nl : nu.length ≤ 10
  sa : ∀ c ∈ sg, c < 128
  ns : ∀ n ∈ nu, n < 5000
noncomputable def wrt (sg : List Nat) : List Nat := (sg.map cellOf).flatten
noncomputable def rowOf (sg nu : List Nat) : List Ent := layR (sg.map cellOf) nu
noncomputable def rdOf (sg nu : List Nat) : List Itm := foldGo sg (sg.map cellOf) 0 (rowOf sg nu)
section
variable {sg nu : List Nat}
theorem cellOf_len (c : Nat) : (cellOf c).length ≤ 5 := by
  rcases cellOf_cases c with ⟨h, _, _⟩ | ⟨_, g⟩
  · rcases h with rfl | rfl | rfl <;> decide
  · rw [g]; exact Nat.le_of_ble_eq_true rfl
theorem wrt_len (h : In2 sg nu) : (wrt sg).length ≤ 50 := by
  have := flatMap_len cellOf_len sg
  rw [List.flatMap_def] at this
  have := h.sl
  unfold wrt; lia
theorem wrt_ascii (h : In2 sg nu) : ∀ c ∈ wrt sg, c < 128 := fun c hc => by
  unfold wrt at hc
  obtain ⟨l, hl, hcl⟩ := List.mem_flatten.mp hc
  refine x1a2 (List.mem_map.mp hl) fun d hd e_0 => ?_; subst e_0
  have := h.sa d hd
  rcases cellOf_cases d with ⟨h1, _, _⟩ | ⟨_, g⟩
  · have : ∀ x ∈ cellOf d, x < 128 := by rcases h1 with rfl | rfl | rfl <;> decide
    exact this c hcl
  · rw [g] at hcl
    rw [List.mem_singleton.mp hcl]; exact this
theorem row_text (sg nu : List Nat) : (rowOf sg nu).map (·.1) = layN (wrt sg) 128 0 nu := by
  unfold rowOf layR wrt
  rw [lay_fst, flat_fst]
theorem row_len2 (h : In2 sg nu) : (rowOf sg nu).length ≤ 60 := by
  unfold rowOf layR
  rw [lay_len]
  have : (flatGo 0 (sg.map cellOf)).length = (wrt sg).length := by unfold wrt; rw [← flat_fst (sg.map cellOf) 0, List.length_map]
  have := wrt_len h
  have := h.nl
  lia
theorem row_mem (sg nu : List Nat) : ∀ e ∈ rowOf sg nu, (0 ≤ e.2 ∧ e.2 < ((sg.map cellOf).length : Int)) ∨ (e.2 < 0 ∧ 128 ≤ e.1 ∧ (-1 - e.2).toNat < nu.length) := fun e he => by
  unfold rowOf layR at he
  rcases lay_mem _ _ _ _ _ e he with h | h
  · have := flatGo_ge _ _ e h
    exact .inl (by lia)
  · exact .inr (by lia)
theorem row_ps (sg nu : List Nat) : ∃ ps, PsOk sg 0 1 (rowOf sg nu) ps :=
  pieces sg _ (rowOf sg nu) rfl 0 1 [] (fun q => absurd rfl q) (by
    unfold rowOf layR
    rw [lay_own, flat_own, List.drop_zero]; rfl) fun e he hn => by
    rcases row_mem sg nu e he with h | h
    · lia
    · exact h.2.1
theorem une_row (h : In2 sg nu) : replAll (uneSeq []) ((rowOf sg nu).map (·.1)) = (rdOf sg nu).map (·.1) ∧ replFit (uneSeq []) ((rowOf sg nu).map (·.1)) := by
  obtain ⟨ps, P⟩ := row_ps sg nu
  have hk := tk_map (sg := sg) (ps := ps) fun i hi => (P.cel i hi).2.2
  rw [P.rows] at hk
  have hl := row_len2 h
  have := une_outs3 P.tk (by rw [hk.1, List.length_map]; lia)
  rw [hk.1, hk.2] at this
  unfold rdOf
  rw [P.fold]
  exact this
theorem rd_lost (sg nu : List Nat) : ∀ e ∈ rdOf sg nu, e.2.2 ≤ 100 ∧ (e.2.1 < 0 → (-1 - e.2.1).toNat < nu.length) := fun e he => by
  obtain ⟨ps, P⟩ := row_ps sg nu
  unfold rdOf at he
  rw [P.fold] at he
  refine x1a2 (List.mem_map.mp he) fun p hp e_0 => ?_; subst e_0
  cases p with
  | one x =>
    refine ⟨Nat.zero_le _, fun hn => ?_⟩
    have hx : x ∈ rowOf sg nu := by
      rw [← P.rows]
      exact List.mem_flatten.mpr ⟨[x], List.mem_map.mpr ⟨_, hp, rfl⟩, List.mem_singleton.mpr rfl⟩
    rcases row_mem sg nu x hx with h | h
    · exact absurd hn (by show ¬ x.2 < 0; lia)
    · exact h.2.2
  | cel i =>
    have := cellOf_len (sg.getD i 0)
    refine ⟨by show (cellOf (sg.getD i 0)).length - 1 ≤ 100; lia, fun hn => ?_⟩
    exact absurd hn (by show ¬ (i : Int) < 0; lia)
theorem few_row (h : In2 sg nu) : ∃ fw : List Nat, fewerOf (rdOf sg nu) nu = fw.map (fun (n : Nat) => (n : Int)) ∧ fw.length = nu.length ∧ (∀ n ∈ fw, n ≤ 6000) ∧ layN (plainOf (rdOf sg nu)) 128 0 fw = (rdOf sg nu).map (·.1) := by
  obtain ⟨ps, P⟩ := row_ps sg nu
  obtain ⟨f1, f2, f3⟩ := ps_facts P ps fun p hp => hp
  rw [P.rows, ← P.fold] at f1 f2 f3
  have hrow : rowOf sg nu = layGo (flatGo 0 (sg.map cellOf)) 128 0 0 nu := rfl
  have hl := row_len2 h
  rw [hrow, lay_len] at hl
  have hpl : plainOf (rdOf sg nu) = ((flatGo 0 (sg.map cellOf)).filterMap (prP sg ps)).map (·.1) := by
    have h1 : plainOf (rdOf sg nu) = (((rdOf sg nu).map itE).filter own).map (·.1) := by
      unfold plainOf
      rw [List.filter_map, List.map_map]
      rfl
    have h2 : (rdOf sg nu).map itE = (rowOf sg nu).filterMap (prP sg ps) := f1.symm
    rw [h1, h2, own_comm fun e x => prP_own, hrow, lay_own, flat_own]
  have hag : (rdOf sg nu).map (·.1) = ((rowOf sg nu).filterMap (prP sg ps)).map (·.1) := by
    have h2 : (rowOf sg nu).filterMap (prP sg ps) = (rdOf sg nu).map itE := f1
    rw [h2, List.map_map]
    rfl
  have hdn : dn (prP sg ps) (flatGo 0 (sg.map cellOf)) = lessOf (rdOf sg nu) := by
    have a1 := dn_len (prP sg ps) (flatGo 0 (sg.map cellOf))
    have : ∀ (ns : List Nat) (row : List Ent) (code at_ t : Nat), dn (prP sg ps) (layGo row code at_ t ns) = dn (prP sg ps) row := fun ns => by
      induction ns with
      | nil => intros; rfl
      | cons n ns ih => intro row code at_ t; rw [layGo, ih, dn_ins (prP_neg sg ps _ _ (by lia))]
    rw [← this nu _ 128 0 0]
    exact f2
  obtain ⟨fw, g1, g2, g3, g4⟩ := few_lay (prP_neg sg ps) (less := lessOf (rdOf sg nu)) (sp0 := nu.map fun _ => (128, 0)) nu (flatGo 0 (sg.map cellOf)) 128 0 0 (Nat.zero_le _) hdn (by rw [List.length_map]; lia) (fun e he => by have := (flatGo_ge _ _ e he).1; lia) h.ns (by lia)
  refine ⟨fw, ?_, g2, g3, ?_⟩
  · unfold fewerOf
    have h3 : spGo (rdOf sg nu) 0 (nu.map fun _ => (128, 0)) = spR (prP sg ps) (rowOf sg nu) 0 (nu.map fun _ => (128, 0)) := f3 0 _
    rw [h3, hrow]
    exact g1
  · rw [hpl, hag, hrow]
    exact g4
end
end Mine
namespace Mine
open PySem
theorem lastOf_snoc (l : List Nat) (x c : Nat) : lastOf (l ++ [x]) c = if x = c then (l.length : Int) else lastOf l c := by
  unfold lastOf
  rw [List.length_append, List.length_singleton, List.range_succ, List.reverse_append, List.reverse_singleton, List.singleton_append, List.find?_cons]
  have h0 : (l ++ [x])[l.length]? = some x := by simp
  rw [h0]
  by_cases h : x = c
  · subst h; simp
  · have h1 : (some x == some c) = false := by simp [h]
    rw [h1, if_neg h]
    have : (List.range l.length).reverse.find? (fun i => (l ++ [x])[i]? == some c) = (List.range l.length).reverse.find? (fun i => l[i]? == some c) := by
      have : ∀ L : List Nat, (∀ i ∈ L, i < l.length) → L.find? (fun i => (l ++ [x])[i]? == some c) = L.find? (fun i => l[i]? == some c) := by
        intro L hL
        induction L with
        | nil => rfl
        | cons i L ih =>
          rw [List.find?_cons, List.find?_cons, ih fun i hi => hL i (List.mem_cons_of_mem _ hi), List.getElem?_append_left (hL i List.mem_cons_self)]
      exact this _ fun i hi => by simpa using hi
    dsimp only
    rw [this]
theorem lastOf_tail {c : Nat} : ∀ (row l : List Nat), c ∉ row → lastOf (l ++ row) c = lastOf l c
  | [], l, _ => by rw [List.append_nil]
  | x :: row, l, h => by
    have e : l ++ x :: row = (l ++ [x]) ++ row := by simp
    rw [e, lastOf_tail row (l ++ [x]) fun q => h (List.mem_cons_of_mem _ q), lastOf_snoc, if_neg fun q : x = c => h (by rw [← q]; exact List.mem_cons_self)]
theorem label_ok {written row fs : List Nat} (hw : ∀ c ∈ written, c < 128) (hr : ∀ c ∈ row, c < 128 ∧ c ≠ 45) (hf : ∀ d ∈ fs, d < 36) (hu : upL row = fs.map udig) : Label (labOf written row) written fs := by
  have h45 : 45 ∉ row := fun q => (hr 45 q).2 rfl
  cases written with
  | nil => exact ⟨fun c hc => (hr c hc).1, hf, .inl ⟨rfl, lastOf_tail row [] h45, hu⟩⟩
  | cons x l =>
    have e : labOf (x :: l) row = ((x :: l) ++ [45]) ++ row := rfl
    rw [e]
    refine ⟨fun c hc => ?_, hf, .inr ⟨nofun, ?_, ?_, ?_, ?_⟩⟩
    · rcases List.mem_append.mp hc with hc | hc
      · rcases List.mem_append.mp hc with hc | hc
        · exact hw c hc
        · rw [List.mem_singleton.mp hc]; decide
      · exact (hr c hc).1
    · rw [lastOf_tail row _ h45, lastOf_snoc, if_pos rfl]
    · simp only [List.length_append, List.length_cons, List.length_nil]; lia
    · rw [List.append_assoc, List.take_left]
    · have : ((x :: l) ++ [45]).length = (x :: l).length + 1 := by simp
      rw [← this, List.drop_left]; exact hu
theorem udig_facts {d : Nat} (h : d < 36) : (if 97 ≤ udig d ∧ udig d ≤ 122 then udig d - 32 else udig d) = udig d ∧ udig d < 128 ∧ udig d ≠ 45 ∧ dig d < 128 ∧ dig d ≠ 45 := by
  have : ∀ d : Fin 36, (if 97 ≤ udig d.1 ∧ udig d.1 ≤ 122 then udig d.1 - 32 else udig d.1) = udig d.1 ∧ udig d.1 < 128 ∧ udig d.1 ≠ 45 ∧ dig d.1 < 128 ∧ dig d.1 ≠ 45 := by decide
  exact this ⟨d, h⟩
theorem up_udigs {fs : List Nat} (h : ∀ d ∈ fs, d < 36) : upL (fs.map udig) = fs.map udig := by
  unfold upL
  rw [List.map_map]
  exact List.map_congr_left fun d hd => (udig_facts (h d hd)).1
section
variable {sg nu : List Nat}
theorem figs_ins {base ns : List Nat} (er : List Nat) : insGo (figs base ns) er base 128 0 72 0 = .ok (.str (layN base 128 0 ns)) := by
  have := ins_gens (fs := figs base ns) (er := er) (b0 := base.length) (tail := []) ns 0 72 0 0 128 base rfl rfl (Nat.zero_le _) (by rw [List.append_nil]; rfl) rfl
  rw [if_pos rfl] at this
  exact this
theorem figs_ok {base ns : List Nat} (hn : ∀ n ∈ ns, n ≤ 6000) (hl : ns.length ≤ 50) : insOk (figs base ns) base.length 128 0 72 0 :=
  ok_gens (b0 := base.length) (tail := []) ns 0 72 0 0 128 base.length rfl rfl (Nat.zero_le _) (by rw [List.append_nil]; rfl) rfl (Nat.zero_le _) hn (by lia)
theorem law2_ok (h : In2 sg nu) : ∃ fw : List Nat, Law2 sg nu (wrt sg) ((rowOf sg nu).map (·.1)) ((rdOf sg nu).map (·.1)) (plainOf (rdOf sg nu)) fw := by
  obtain ⟨fw, g1, g2, g3, g4⟩ := few_row h
  have hw := wrt_len h
  have hs := h.sl
  have hnl := h.nl
  have hrl := row_len2 h
  have h6 : ∀ n ∈ nu, n ≤ 6000 := fun n hn => by have := h.ns n hn; lia
  have hfl : (figs (wrt sg) nu).length ≤ 50 := by have := gens_len (wrt sg).length nu 0 72 h6; unfold figs; lia
  have hf36 : ∀ d ∈ figs (wrt sg) nu, d < 36 := gens_lt _ _ _ _
  have hesc := esc_cells (R := sg) (by lia)
  have hrd : (rdOf sg nu).length ≤ 60 := Nat.le_trans (foldGo_len sg (sg.map cellOf) (rowOf sg nu).length (rowOf sg nu) rfl) hrl
  have hesc2 := esc_cells (R := (rdOf sg nu).map (·.1)) (by rw [List.length_map]; lia)
  have hune := une_row h
  have hll := rd_lost sg nu
  have hup := up_digs hf36
  have hg := gens_len (plainOf (rdOf sg nu)).length fw 0 72 g3
  exact ⟨fw, { sgl := by lia, nul := by lia, nus := h.ns, esc := hesc.2, escE := hesc.1, wr := rfl, wl := by lia, rl := by lia, f36 := hf36
               lab := label_ok (wrt_ascii h) (fun c hc => by
                 refine x1a2 (List.mem_map.mp hc) fun d hd e_0 => ?_; subst e_0
                 exact (udig_facts (hf36 d hd)).2.2.2) hf36 hup
               ok := figs_ok h6 (by lia)
               dec := by unfold pyR; rw [figs_ins, row_text]
               tx := rfl, ll := Nat.le_trans hrl (by decide)
               own := fun e he => by
                 rcases row_mem sg nu e he with q | q
                 · exact q.2
                 · lia
               ag := rfl, uneF := hune.2, une := hune.1, esc2F := hesc2.2, esc2 := hesc2.1
               lost := fun e he => (hll e he).1, neg := fun e he => (hll e he).2
               pl := rfl
               few := by
                 have : AV.ints (fewerOf (rdOf sg nu) nu) = AV.nats fw := by
                   rw [g1]; unfold AV.ints AV.nats; rw [List.map_map]; rfl
                 exact this
               fwl := by lia, fws := fun n hn => Nat.le_trans (g3 n hn) (by decide)
               gl := by unfold figs; lia
               g36 := gens_lt _ _ _ _, gok := figs_ok g3 (by lia), ins := by rw [figs_ins, g4] }⟩
end
section
variable [Lo] {prog : Program} {w : World} {G : Pg}
set_option maxHeartbeats 1000000
theorem cut_ok (P : ModG G) {sg nu : List Nat} (h : In2 sg nu) (h0 : nu ≠ []) :
    FSpec prog w G 5 "_law_cut" [.str (wrt sg), .bytes ((figs (wrt sg) nu).map dig), .list (AV.strs (ones sg)), .list (AV.strs (sg.map cellOf)), .list (AV.nats nu)] (.ok (.bool true)) := by
  obtain ⟨ms, m, rfl⟩ : ∃ ms m, nu = ms ++ [m] := ⟨nu.dropLast, nu.getLast h0, (List.dropLast_concat_getLast h0).symm⟩
  have hms : In2 sg ms := ⟨h.sl, by have := h.nl; rw [List.length_append] at this; lia, h.sa, fun n hn => h.ns n (List.mem_append_left _ hn)⟩
  have h6 : ∀ n ∈ ms, n ≤ 6000 := fun n hn => by have := hms.ns n hn; lia
  have hm := h.ns m (by simp)
  have hw := wrt_len h
  have hs := h.sl
  have hml := hms.nl
  have hrl := row_len2 hms
  have hdl : (ms ++ [m]).dropLast = ms := List.dropLast_concat
  generalize hb : bEnd (wrt sg).length 0 72 ms = b
  have hfig : figs (wrt sg) (ms ++ [m]) = figs (wrt sg) ms ++ numl (b : Nat) 0 m := by
    unfold figs
    rw [gens_append, hb, gensGo, gensGo, List.append_nil]
  have hne := numl_ne (b : Nat) 0 m
  have hne' : numl (b : Nat) 0 m ≠ [] := List.length_pos_iff.mp hne
  have hcut := readN_cut (b : Nat) m 0
  have hsh := numl_short (b : Nat) 4 m 0 (by lia)
  have hlt := numl_lt (b : Nat) m 0
  rw [hfig]
  have hgl := gens_len (wrt sg).length ms 0 72 h6
  have hf36 : ∀ d ∈ figs (wrt sg) ms, d < 36 := gens_lt _ _ _ _
  have hgd : gensGo (wrt sg).length 0 72 ms = figs (wrt sg) ms := rfl
  rw [hgd] at hgl
  have hrow : ((figs (wrt sg) ms ++ numl (b : Nat) 0 m).map dig).dropLast = (figs (wrt sg) ms ++ (numl (b : Nat) 0 m).dropLast).map dig := by
    rw [← List.map_dropLast, List.dropLast_append_of_ne_nil hne']
  have h36 : ∀ d ∈ figs (wrt sg) ms ++ (numl (b : Nat) 0 m).dropLast, d < 36 := fun d hd => by
    rcases List.mem_append.mp hd with hd | hd
    · exact hf36 d hd
    · exact hlt d (List.dropLast_subset _ hd)
  have hupr : upL ((figs (wrt sg) ms ++ (numl (b : Nat) 0 m).dropLast).map dig) = (figs (wrt sg) ms ++ (numl (b : Nat) 0 m).dropLast).map udig := up_digs h36
  have hd1 : (numl (b : Nat) 0 m).dropLast.length = (numl (b : Nat) 0 m).length - 1 := List.length_dropLast
  have hi := fun er => ins_gens (fs := figs (wrt sg) ms ++ (numl (b : Nat) 0 m).dropLast) (er := er) (b0 := (wrt sg).length) (tail := (numl (b : Nat) 0 m).dropLast) ms 0 72 0 0 128 (wrt sg) rfl rfl (Nat.zero_le _) rfl (by rw [hb]; exact hcut)
  have hk := ok_gens (fs := figs (wrt sg) ms ++ (numl (b : Nat) 0 m).dropLast) (b0 := (wrt sg).length) (tail := (numl (b : Nat) 0 m).dropLast) ms 0 72 0 0 128 (wrt sg).length rfl rfl (Nat.zero_le _) rfl (by rw [hb]; exact hcut) (Nat.zero_le _) h6 (by lia)
  have hune := une_row hms
  rw [← row_text sg ms] at hi
  have hdg : gensGo (wrt sg).length 0 72 (ms ++ [m]).dropLast = figs (wrt sg) ms := by rw [hdl]; rfl
  have hlen1 : ((figs (wrt sg) ms ++ numl (b : Nat) 0 m).map dig).length = ((figs (wrt sg) ms).map dig).length + (numl (b : Nat) 0 m).length := by simp
  refine walk_cut (fs := figs (wrt sg) ms ++ (numl (b : Nat) 0 m).dropLast) (text := (rowOf sg ms).map (·.1)) P (by lia) (by rw [hlen1, List.length_map]; lia) (fun c hc => ?_) (by rw [List.length_map]; lia) (fun c hc => ?_) (by rw [List.length_map]) (by rw [List.length_append]; simp; lia) h.ns ?_ ?_ ?_ hk ?_ ?_ ?_ ?_ hune.2 ?_ ?_
  · refine x1a2 (List.mem_map.mp hc) fun d hd e_0 => ?_; subst e_0
    have : d < 36 := by
      rcases List.mem_append.mp hd with hd | hd
      · exact hf36 d hd
      · exact hlt d hd
    exact (udig_facts this).2.2.2.1
  · refine x1a2 (List.mem_map.mp hc) fun d hd e_0 => ?_; subst e_0
    exact cellOf_len d
  · rw [hdg, List.map_append, List.take_left]
  · rw [hdg, hlen1]; lia
  · rw [hrow, hupr]
    refine label_ok (wrt_ascii h) (fun c hc => ?_) h36 (up_udigs h36)
    refine x1a2 (List.mem_map.mp hc) fun d hd e_0 => ?_; subst e_0
    have := udig_facts (h36 d hd)
    exact ⟨this.2.1, this.2.2.1⟩
  · rw [hdl]; rfl
  · rw [hdl]; exact Nat.le_trans hrl (by decide)
  · rw [hdl]
    intro e he
    rcases row_mem sg ms e he with q | q
    · exact q.2
    · lia
  · unfold pyR
    rw [hi]
    have e : (ignoreL == strictL) = false := by decide
    rw [e, if_neg Bool.false_ne_true, ite_self]
  · rw [hdl]; exact hune.1
  · rw [hdg, hlen1]
    generalize labOf (wrt sg) _ = label
    unfold pyR
    rw [hi]
    have e : (strictL == strictL) = true := by decide
    rw [e]
    by_cases ht : (numl (b : Nat) 0 m).dropLast = []
    · rw [if_pos ht]
      refine .inl ⟨?_, rfl⟩
      rw [ht] at hd1
      simp only [List.length_nil] at hd1
      lia
    · rw [if_neg ht]
      refine .inr ⟨?_, rfl⟩
      have := List.length_pos_iff.mpr ht
      lia
theorem sgL_small : ∀ c ∈ sgL, c < 128 := by decide
theorem law_true2 (P : ModG G) {ns : List Int} (hl : ns.length ≤ 63) : FSpec0 prog w G 6 "law" [.list (AV.ints ns)] (.ok (.bool true)) := by
  have D := dr2_ok ns
  have h : In2 (dr2 ns).1 (dr2 ns).2 := ⟨D.sg, D.nm, fun c hc => sgL_small c (D.sgs c hc), D.nms⟩
  obtain ⟨fw, K⟩ := law2_ok h
  exact walk_law2 P hl K fun h0 => cut_ok P h h0
end
end Mine
namespace Mine
open PySem PySem.Calls PySem.W PyProof.Rows
variable [Lo]
theorem law_head {prog : Program} {w : World} {G : Pg} (P : ModG G) {s : Shared} (hG : G.In s.heap) {a : Addr} {fd : FuncData} (hfn : G.fn "law" = some (a, fd)) (hnb : G.nb ≤ s.heap.objs.size) {vals : List Value} {ns : List Int}
    (rep : RepL w (fun _ => False) (fun _ => []) s.toks s.heap vals [.list (AV.ints ns)]) (hl : ns.length ≤ 63) :
    wq (model prog w) callerA (call (.ref a) vals) (fun v s' => v = .bool true ∧ ∃ T', Le (fun _ => []) s T' s') (fun _ _ => False) s := by
  refine wq_call ?_
  refine cq_mono (law_true2 P hl callerA [] (fun _ => []) s (fun _ => False) vals a fd hfn ⟨by decide, by decide, rfl⟩ rfl hG trivial (fun b q => q.elim) hnb rep) fun res s' h => ?_
  cases res with
  | ok fl =>
    cases fl with
    | ret v =>
      refine x2a3 h fun T' av e l r => ?_
      cases e
      cases r
      exact ⟨rfl, T', l⟩
    | _ => exact h.elim
  | error e => exact x3a4 h fun T' x b e1 _ _ _ => nomatch e1
end Mine
namespace Mine
open PySem PySem.Calls PySem.W PyProof.Rows
noncomputable abbrev callerΓ : Ctx := ⟨.builtin "claim.caller" {}, none, none, [], none⟩
theorem caller_clean : Clean callerΓ := ⟨⟨by decide +kernel, by decide +kernel⟩, fun x hx => by cases hx⟩
theorem ends_q {prog : Program} {w : World} {t : Sem Fin} {s : Shared} {R : Result → Shared → Prop} (hreg : s.asleep)
    (h : wq (model prog w) callerA t (fun fin s' => ∃ f, fin = .done f ∧ (R (.ok f) s' ∧ AllBare s'.gens)) (fun e s' => R (.error e) s' ∧ AllBare s'.gens) s) :
    ∃ n r s' s'', runN (denote table) prog w n s ⟨t, .builtin "claim.caller" {}, default, []⟩ = .halted (outcomeOf r) s' ∧
      schedN (denote table) prog w n (.single s ⟨t, .builtin "claim.caller" {}, default, []⟩) = .halted (outcomeOf r) s' ∧ s'.forget = s''.forget ∧ R r s'' := by
  have h1 : Sem.wp (model prog w) callerΓ t (Sem.finPost (model prog w) callerΓ fun r s' => R r s' ∧ leftWithCleanup s'.gens = false)
      (fun e _ s' => R (.error e) s' ∧ leftWithCleanup s'.gens = false) default s := by
    refine Sem.wp_mono _ _ t (fun fin p' s' x => ?_) (fun e _ s' x => ⟨x.1, leftWithCleanup_false_of_bare x.2⟩) default s (h callerΓ default caller_in caller_clean)
    refine x1a3 x fun f e_0 hf hg => ?_; (try clear x); subst e_0
    exact ⟨hf, leftWithCleanup_false_of_bare hg⟩
  refine x4a4 (wp_halts_full (M := model prog w) (R := R) hreg h1) fun n r s₁ s₂ hs hn hfo hR => ?_
  exact ⟨n, r, s₂, s₁, hn, hs, hfo, hR⟩
theorem x7a5 {α β γ δ ε ζ η : Type} {P Q R S T : α → β → γ → δ → ε → ζ → η → Prop} {H : Prop} (h : ∃ a b c d e f g, P a b c d e f g ∧ Q a b c d e f g ∧ R a b c d e f g ∧ S a b c d e f g ∧ T a b c d e f g)
    (kk : ∀ a b c d e f g, P a b c d e f g → Q a b c d e f g → R a b c d e f g → S a b c d e f g → T a b c d e f g → H) : H :=
  h.elim fun a h => h.elim fun b h => h.elim fun c h => h.elim fun d h => h.elim fun e h => h.elim fun f h => h.elim fun g h => kk a b c d e f g h.1 h.2.1 h.2.2.1 h.2.2.2.1 h.2.2.2.2
noncomputable abbrev WalkQ (q : Program) (loose : List Str) (XP : (Str → Option Value) → Heap → Prop) (YP : World → Heap → Prop) (r : RowW) (d : DefRec) (kwd : List (Str × Expr)) : Prop :=
  ∀ (w : World) (s₀ s₁ : Shared) (mg mb : Str → Option Value), Ground q loose r.records XP w s₀ mg mb s₁.heap → YP w s₁.heap → ∀ (a : Addr) (o : Obj) (pm cd doc dV kV : Value), s₁.heap.get? a = some o →
    o.data = .func { docDef d.name d.params d.body d.scope pm cd doc with defaults := dV, kwdefaults := kV } → s₁.heap.CodeRec cd d.name → Dflts mg s₁.heap d.params kwd dV kV → mg d.name = some (.ref a) → s₁.gens = #[] →
    ∀ (args : List WData) (vals : List Value) (as : List Addr), r.claim.pre args = true → WData.layableAll args = true → ReadsAllW r.records (classAt s₀.heap) s₁.heap vals args as → WellAll w.params s₁.heap vals args → (∀ a ∈ as, (a == sysModules) = false) →
      wq (model r.prog w) callerA (call (.ref a) vals) (fun v s' => GoodWG r.claim (classAt s₀.heap) (ExcName.means s₀.heap) args s₁ (.ok (.ret v)) s')
        (fun e s' => GoodWG r.claim (classAt s₀.heap) (ExcName.means s₀.heap) args s₁ (.error e) s') s₁
noncomputable def lawTree (name : Str) (vs : List Value) : Sem Fin := do
  match ← nsGet mainNs name with
  | some f => do ret (← PySem.call f vs)
  | none => unsupported "claim.caller:no-such-global"
theorem PySem.W.holds_open {r : OpenRow} {q : Program} {loose : List Str} {Xt : Shared → Bool} {XP : (Str → Option Value) → Heap → Prop} {α : Type} {Yf : Shared → α} {Ya : World → α} {YP : World → Heap → Prop} {d : DefRec} {kwd : List (Str × Expr)} {N : Nat}
    (left : LeftO r.prog q loose Xt Yf Ya N) (hY : ∀ w s, Yf s = Ya w → YP w s.heap) (hYk : ∀ w h h', YP w h → (∀ b o, h.get? b = some o → h'.get? b = some o) → YP w h')
    (hX : ∀ s, Xt s = true → XP (s.heap.nsMap mainGlobals) s.heap) (hXk : ∀ mg h h', XP mg h → (∀ b o, h.get? b = some o → h'.get? b = some o) → XP mg h')
    (hdef : defOf q r.name = some (d, kwd)) (hp : r.prog.theDef r.name = some (d.params, d.body, d.scope)) (hk : kwWritten? d.params.kwonlyargs d.params.kw_defaults = some kwd) (hRf : ∀ s, Xt s = true → RecFacts r.records s.heap) (hwr : (!r.writes || r.records.isEmpty) = true)
    (k1 : r.wellSaid = true) (ok : (chainsOk q && opensWell r.prog && (frees r.toRowW && r.within.isEmpty)) = true) (hb : r.prog.bare) (hw : r.toRowW.promised)
    (call : WalkQ q loose XP YP r.toRowW d kwd) : r.Holds := by
  have hch : chainsOk q = true := (Bool.and_eq_true_iff.mp (Bool.and_eq_true_iff.mp ok).1).1
  have ho : opensWell r.prog = true := (Bool.and_eq_true_iff.mp (Bool.and_eq_true_iff.mp ok).1).2
  have hf5 : frees r.toRowW = true := (Bool.and_eq_true_iff.mp (Bool.and_eq_true_iff.mp ok).2).1
  have hwi : r.claim.within = [] := List.isEmpty_iff.mp (Bool.and_eq_true_iff.mp (Bool.and_eq_true_iff.mp ok).2).2
  refine x0a5 (frees_parts hf5) fun hsame hu ha hap hm => ?_
  refine ⟨k1, hw, ⟨⟨hb, ho, by show r.makers.map _ = []; rw [hm]; rfl⟩, hw.witness, fun w => ⟨(left.behind hX hch w).1, fun s' hs' => ?_⟩⟩⟩
  refine hide fun Q₁ k₁ => ?_
  refine x1a3 ((left.behind (XP := fun mg h => XP mg h ∧ RecFacts r.records h) (fun s hs => ⟨hX s hs, hRf s hs⟩) hch w).2 s' hs') fun s₀ hf hg0 t_0 => ?_; refine x1a6 t_0 fun s hT hz hgens hg G00 y => ?_; (try clear t_0)
  have G0 : Ground q loose [] XP w s (s.heap.nsMap mainGlobals) (s.heap.nsMap builtinsNs) s.heap := ⟨G00.T, G00.B, G00.D, G00.TE, G00.TD, G00.W, G00.X.1, G00.cls, G00.has, G00.apart, G00.once, G00.K⟩
  have RF := G00.X.2
  refine k₁ ⟨s₀, hf, hg0, s, hT, fun n hn => ?_, RF.1, RF.2.1, ?_⟩
  · obtain rfl : n = r.name := by split at hn <;> simp_all
    exact pinned_of_view hg G0 hdef hp hk
  have hg1 : s.gens = #[] := Array.eq_empty_of_size_eq_zero (beq_iff_eq.mp hgens)
  have G : Ground q loose r.records XP w s _ _ s.heap := RF.ground G0
  clear k₁ Q₁
  intro args hpre hlay ord hord
  refine hide fun Q₂ k₂ => ?_
  refine x1a1 (Option.isSome_iff_exists.mp (layAllW_isSome (P := w.params) (ord := ord) G.has args r.args s (pre_splitW hpre).1)) fun t_0 hlaid => ?_; obtain ⟨vs, s₁⟩ := t_0
  have keeps := layAllW_keeps _ _ _ hlaid
  have hal := layAllW_rest _ _ _ hlaid
  refine x1a3 (reads_layAllW hord _ _ _ hlaid hlay s₁.heap (fun _ _ e => e)) fun as hrd hin hold => ?_
  have L : Laid r.records w s s₁ args vs as := ⟨⟨ord, hord, hlaid⟩, hrd, hin, hold, keeps, hal.1.trans hg1, hal.2.2.1⟩
  have G₁ := G.keeps hXk keeps
  refine x7a5 (G₁.fn hdef) fun a o pm cd doc dV kV h1 h2 h3 h4 h5 => ?_
  have w0 := call w s s₁ _ _ G₁ (hYk _ _ _ (hY w s y) keeps) a o pm cd doc dV kV h2 h3 h4 h5 (defOf_name hdef ▸ h1) L.gens args vs as hpre hlay L.reads L.well (L.low G.low)
  have hi := ident_freeW hu ha hap
  have w1 : wq (model r.claim.prog w) callerA (lawTree r.name vs)
      (fun fin s' => ∃ f, fin = .done f ∧ ((r.claim.Ends s args vs s₁ (.ok f) s' ∧ s'.os = s.os ∧ namesKept r.prog (r.keeps) s.heap s'.heap) ∧ AllBare s'.gens))
      (fun e s' => (r.claim.Ends s args vs s₁ (.error e) s' ∧ s'.os = s.os ∧ namesKept r.prog (r.keeps) s.heap s'.heap) ∧ AllBare s'.gens) s₁ := by
    have fin : ∀ res s', GoodWG r.claim (classAt s.heap) (ExcName.means s.heap) args s₁ res s' → (r.claim.Ends s args vs s₁ res s' ∧ s'.os = s.os ∧ namesKept r.prog (r.keeps) s.heap s'.heap) ∧ AllBare s'.gens := fun res s' g =>
      have z := g.laid (c := r.claim) hsame hwi hi L
      ⟨⟨z.1, z.2.1, namesKept_of hT hg (r.keeps) keeps g.2.1.old⟩, z.2.2⟩
    refine wq_bind (wq_of (wpAny_nsGet G₁.T.g ?_))
    rw [h1]
    exact wq_bind (wq_mono w0 (fun v s' g => wq_pure ⟨_, rfl, fin _ _ g⟩) fun e s' g => fin _ _ g)
  refine x4a4 (ends_q (prog := r.prog) (w := w) (t := lawTree r.name vs) (s := s₁)
    (R := fun res s' => r.claim.Ends s args vs s₁ res s' ∧ s'.os = s.os ∧ namesKept r.prog (r.keeps) s.heap s'.heap) (Shared.asleep_of_life hal.2.2.2 hz) w1) fun k res s' s'' hrun hsched hfo t_1 => ?_
  refine x0a3 t_1 fun hcase hos hkp => ?_; clear t_1
  refine x0a5 (Shared.forget_eq hfo) fun eh _ _ eo _ => ?_
  rw [← eh] at hkp
  rw [← eo] at hos
  have hlife : s'.heap.life = s.heap.life := (runN_life _ _ _ hrun).trans hal.2.2.2
  refine k₂ ⟨vs, s₁, hlaid, k, _, s', hsched, ?_, (fun _ i x hx => by rw [hg1] at hx; simp at hx), fun q => ⟨hkp, noTable hwr q⟩, by rw [hlife], Shared.rest_eq hos⟩
  refine hide fun Q₃ k₃ => ?_
  rcases hcase.congr eh with ⟨v, rfl, d1, d2, d3, d4, d5⟩ | ⟨e, ob, cls, rfl, d1, d2, d3, d4, d5⟩
  · exact k₃ (.inl ⟨v, rfl, d1, d2, d3, fun b o y _ => d4 b o y, d5⟩)
  · exact k₃ (.inr ⟨e, ob, cls, rfl, d1, d2, d3, d4, fun b o y _ => d5 b o y⟩)
end Mine
open PySem PySem.Calls PySem.W PyProof.Rows
namespace Mine
noncomputable abbrev tupO (d : Addr) : Obj := { cls := .type "tuple", data := .seq #[.ref d] }
noncomputable abbrev dctO : Obj := { cls := .type "dict", data := .dict #[] }
noncomputable abbrev more1 : List (Addr × Obj) := [(72, tupO 71), (71, dctO), (81, tupO 80), (80, dctO)]
noncomputable def eN (P : Params) (n : String) (t : Tok) (v : Value) : DictEntry := { hash := PyData.keyHash P (Str.ofString n), key := .str (Str.ofString n) t, val := v }
noncomputable def modE (P : Params) : Array DictEntry := #[
  eN P "__name__" 165 (Value.str (Str.ofString "law_ij0167_02") 307),
  eN P "__doc__" 166 (Value.none),
  eN P "__package__" 167 (Value.none),
  eN P "__loader__" 168 (Value.builtin "__main__.__loader__#opaque"),
  eN P "__spec__" 169 (Value.none),
  eN P "__annotations__" 170 (Value.ref 6),
  eN P "__builtins__" 171 (Value.ref 4),
  eN P "__file__" 173 (Value.str (Str.ofString "/claim/cut.py") 172),
  eN P "__cached__" 174 (Value.none),
  eN P "T" 197 (Value.ref 21),
  eN P "digits" 199 (Value.bytes #[97, 98, 99, 100, 101, 102, 103, 104, 105, 106, 107, 108, 109, 110, 111, 112, 113, 114, 115, 116, 117, 118, 119, 120, 121, 122, 48, 49, 50, 51, 52, 53, 54, 55, 56, 57] 198),
  eN P "generate_generalized_integer" 210 (Value.ref 28),
  eN P "adapt" 221 (Value.ref 35),
  eN P "generate_integers" 234 (Value.ref 42),
  eN P "decode_generalized_number" 250 (Value.ref 49),
  eN P "insertion_sort" 265 (Value.ref 56),
  eN P "punycode_decode" 278 (Value.ref 63),
  eN P "dict_replace_saxutils" 290 (Value.ref 70),
  eN P "escape" 298 (Value.ref 79),
  eN P "unescape" 306 (Value.ref 88),
  eN P "_law_draw" 320 (Value.ref 95),
  eN P "_law_cells" 326 (Value.ref 100),
  eN P "_law_lay" 332 (Value.ref 105),
  eN P "_law_fold" 338 (Value.ref 110),
  eN P "_law_fewer" 344 (Value.ref 115),
  eN P "_law_cut" 350 (Value.ref 120),
  eN P "law" 356 (Value.ref 125)]
noncomputable abbrev cdO (vs : Array Value) : Obj := { cls := .type "code", data := .fields vs }
noncomputable def cdE : Array Value := #[Value.str (Str.ofString "escape") 291, Value.str (Str.ofString "escape") 292, Value.str (Str.ofString "/claim/cut.py") 293, Value.int 112 0, Value.int 2 0, Value.int 0 0, Value.int 0 0, Value.int 3 0, Value.ref 73, Value.bool true, Value.int 181 0, Value.ref 74, Value.none, Value.ref 75, Value.ref 76, Value.ref 77, Value.int 296 0, Value.int 112 0, Value.str (Str.ofString "/claim/cut.py") 297]
noncomputable def cdU : Array Value := #[Value.str (Str.ofString "unescape") 299, Value.str (Str.ofString "unescape") 300, Value.str (Str.ofString "/claim/cut.py") 301, Value.int 119 0, Value.int 2 0, Value.int 0 0, Value.int 0 0, Value.int 3 0, Value.ref 82, Value.bool true, Value.int 181 0, Value.ref 83, Value.none, Value.ref 84, Value.ref 85, Value.ref 86, Value.int 304 0, Value.int 119 0, Value.str (Str.ofString "/claim/cut.py") 305]
noncomputable abbrev pmS : Value := Value.str (Str.ofString "cpy313.xml.sax.saxutils") 279
noncomputable def kf (P : Params) : Frag := [(2, { cls := .none, data := .dict #[] }), (3, { cls := .type "dict", data := .dict (modE P) 27 }), (71, dctO), (72, tupO 71), (78, cdO cdE), (79, { cls := .type "function", data := .func (fdOf stEsc pmS (.ref 78) .none (.ref 72) .none) }),
  (80, dctO), (81, tupO 80), (87, cdO cdU), (88, { cls := .type "function", data := .func (fdOf stUne pmS (.ref 87) .none (.ref 81) .none) })]
noncomputable def vq : Program := view PySem.Challenge.pw_ij0167_02 [1, 2, 3, 4, 5, 6, 7, 8, 10, 14, 15, 16, 17, 18, 19, 20]
noncomputable def hk : Hook := kHook kf [2, 3, 71, 72, 78, 79, 80, 81, 87, 88] (fun _ => rfl)
noncomputable def drO : Stmt → DefRec
  | .FunctionDef n a b _ _ _ sc _ _ pos => ⟨n, a, b, sc, pos⟩
  | _ => ⟨"", default, [], default, default⟩
set_option maxRecDepth 100000
set_option maxHeartbeats 8000000
theorem left1 : LeftO PySem.Challenge.pw_ij0167_02 vq ["escape", "unescape"] (fun s => xlAt vq [] s && recOk [] s) (Hook.obs hk) (Hook.val hk) 1258 := by
  intro w
  kernel_rfl
theorem said1 : PySem.Challenge.rw_ij0167_02.wellSaid = true := by
  delta OpenLaw.wellSaid OpenRow.wellSaid OpenRow.partSaid looksOpen
  repeat' with_reducible refine look_both ?_ ?_
  all_goals decide +kernel
theorem dfT : defOf vq "T" = some (drO stT, []) := by kernel_rfl
theorem dfgen : defOf vq "generate_generalized_integer" = some (drO stGen, []) := by kernel_rfl
theorem dfad : defOf vq "adapt" = some (drO stAdapt, []) := by kernel_rfl
theorem dfgs : defOf vq "generate_integers" = some (drO stGens, []) := by kernel_rfl
theorem dfdec : defOf vq "decode_generalized_number" = some (drO stDec, []) := by kernel_rfl
theorem dfins : defOf vq "insertion_sort" = some (drO stIns, []) := by kernel_rfl
theorem dfpu : defOf vq "punycode_decode" = some (drO stPuny, []) := by kernel_rfl
theorem dfdraw : defOf vq "_law_draw" = some (drO stLDraw, []) := by kernel_rfl
theorem dfcells : defOf vq "_law_cells" = some (drO stLCells, []) := by kernel_rfl
theorem dflay : defOf vq "_law_lay" = some (drO stLLay, []) := by kernel_rfl
theorem dffold : defOf vq "_law_fold" = some (drO stLFold, []) := by kernel_rfl
theorem dffew : defOf vq "_law_fewer" = some (drO stLFewer, []) := by kernel_rfl
theorem dfcut : defOf vq "_law_cut" = some (drO stLCut, []) := by kernel_rfl
theorem dflaw : defOf vq "law" = some (drO stLaw, []) := by kernel_rfl
theorem main : PySem.Challenge.rw_ij0167_02.Holds := by
  refine holds_law said1 fun said => ?_
  refine PySem.W.holds_open (q := vq) (d := drO stLaw) (kwd := []) (loose := ["escape", "unescape"]) (Xt := fun s => xlAt vq [] s && recOk (RowW.records PySem.Challenge.rw_ij0167_02.row.toRowW) s) (XP := XL vq []) (Yf := Hook.obs hk) (Ya := Hook.val hk) (YP := Hook.says hk) (N := 1258) left1 (Hook.of hk) (Hook.keeps hk)
    (fun s e => xl_of s (Bool.and_eq_true_iff.mp e).1) XL.keeps (by kernel_rfl) (by kernel_rfl) (by kernel_rfl) (fun s e => recFacts_of (Bool.and_eq_true_iff.mp e).2) (by rfl) said (by decide +kernel) ⟨rfl, rfl, rfl, rfl, rfl, by decide +kernel⟩ ?hw ?hc
  case hw => w_witness2
  intro w s₀ s₁ mg mb G Y a o pm cd doc dV kV ho hd hcd hD hmg hg args vals as hpre hlay hrd hwl hlo
  have KX : (kf w.params).In s₁.heap := kIn_of Y
  have hlaw : mg "law" = some (.ref a) := hmg
  clear hd hcd hD hmg hlay hrd hlo Y
  refine head_good rfl hpre hwl hg fun ns hl rep => ?_
  have hm := mg_lit G.T.g (KX 3 _ rfl) rfl
  have h2 := KX 2 _ rfl
  letI : Lo := ⟨s₁.heap.objs.size⟩
  have hin : (pgOf mg mb s₁.heap more1).In s₁.heap := head_in G h2 rfl fun q hq => by
    rcases List.mem_cons.mp hq with rfl | hq
    · exact KX 72 _ rfl
    rcases List.mem_cons.mp hq with rfl | hq
    · exact KX 71 _ rfl
    rcases List.mem_cons.mp hq with rfl | hq
    · exact KX 81 _ rfl
    rcases List.mem_cons.mp hq with rfl | hq
    · exact KX 80 _ rfl
    cases hq
  have fT : FnIs (pgOf mg mb s₁.heap more1) "T" stT := head_fn G dfT rfl fun _ _ _ _ _ => rfl
  have fgen : FnIs (pgOf mg mb s₁.heap more1) "generate_generalized_integer" stGen := head_fn G dfgen rfl fun _ _ _ _ _ => rfl
  have fad : FnIs (pgOf mg mb s₁.heap more1) "adapt" stAdapt := head_fn G dfad rfl fun _ _ _ _ _ => rfl
  have fgs : FnIs (pgOf mg mb s₁.heap more1) "generate_integers" stGens := head_fn G dfgs rfl fun _ _ _ _ _ => rfl
  have fdec : FnIs (pgOf mg mb s₁.heap more1) "decode_generalized_number" stDec := head_fn G dfdec rfl fun _ _ _ _ _ => rfl
  have fins : FnIs (pgOf mg mb s₁.heap more1) "insertion_sort" stIns := head_fn G dfins rfl fun _ _ _ _ _ => rfl
  have fpu : FnIs (pgOf mg mb s₁.heap more1) "punycode_decode" stPuny := head_fn G dfpu rfl fun _ _ _ _ _ => rfl
  have fdraw : FnIs (pgOf mg mb s₁.heap more1) "_law_draw" stLDraw := head_fn G dfdraw rfl fun _ _ _ _ _ => rfl
  have fcells : FnIs (pgOf mg mb s₁.heap more1) "_law_cells" stLCells := head_fn G dfcells rfl fun _ _ _ _ _ => rfl
  have flay : FnIs (pgOf mg mb s₁.heap more1) "_law_lay" stLLay := head_fn G dflay rfl fun _ _ _ _ _ => rfl
  have ffold : FnIs (pgOf mg mb s₁.heap more1) "_law_fold" stLFold := head_fn G dffold rfl fun _ _ _ _ _ => rfl
  have ffew : FnIs (pgOf mg mb s₁.heap more1) "_law_fewer" stLFewer := head_fn G dffew rfl fun _ _ _ _ _ => rfl
  have fcut : FnIs (pgOf mg mb s₁.heap more1) "_law_cut" stLCut := head_fn G dfcut rfl fun _ _ _ _ _ => rfl
  have flaw : FnIs (pgOf mg mb s₁.heap more1) "law" stLaw := head_fn G dflaw rfl fun _ _ _ _ _ => rfl
  have fesc : FnIs (pgOf mg mb s₁.heap more1) "escape" stEsc (.ref 72) := fn_lit ((hm _).trans rfl) (KX 79 _ rfl) rfl (KX 78 _ rfl) rfl rfl rfl
  have fune : FnIs (pgOf mg mb s₁.heap more1) "unescape" stUne (.ref 81) := fn_lit ((hm _).trans rfl) (KX 88 _ rfl) rfl (KX 87 _ rfl) rfl rfl rfl
  have hdig : mg "digits" = some (.bytes (digitsL.map Nat.toUInt8).toArray 198) := (hm _).trans rfl
  have hpuny : PunyG (pgOf mg mb s₁.heap more1) := ⟨fT, fgen, fad, fgs, fdec, fins, fpu, ⟨198, hdig⟩, fun x hx => by rcases hx with rfl | rfl | rfl | rfl | rfl | rfl | rfl | rfl | rfl | rfl <;> exact (hm _).trans rfl⟩
  have desc : DefE (pgOf mg mb s₁.heap more1) "escape" stEsc := by
    refine x4a1 fesc fun a' pm' cd' doc' e => ?_; (try clear fesc)
    exact ⟨a', pm', cd', doc', 72, tupO 71, _, 71, dctO, e, .head _, rfl, .tail _ (.head _), rfl, rfl, rfl, rfl, by decide⟩
  have dune : DefE (pgOf mg mb s₁.heap more1) "unescape" stUne := by
    refine x4a1 fune fun a' pm' cd' doc' e => ?_; (try clear fune)
    exact ⟨a', pm', cd', doc', 81, tupO 80, _, 80, dctO, e, .tail _ (.tail _ (.head _)), rfl, .tail _ (.tail _ (.tail _ (.head _))), rfl, rfl, rfl, rfl, by decide⟩
  refine x4a1 (id flaw) fun a' pm' cd' doc' e => ?_
  have ea : a' = a := by
    have := (fnOf_is e).1
    rw [hlaw] at this
    cases Option.some.inj this
    rfl
  subst ea
  exact law_head ⟨hpuny, ⟨desc, dune⟩, fdraw, fcells, flay, ffold, ffew, fcut, flaw, fun x hx => by rcases hx with rfl | rfl | rfl | rfl | rfl | rfl | rfl | rfl | rfl <;> exact (hm _).trans rfl⟩ hin e (Nat.le_refl _) rep hl
end Mine


theorem PySem.Challenge.cw_ij0167_02_holds : PySem.Challenge.rw_ij0167_02.Holds :=
  Mine.main
