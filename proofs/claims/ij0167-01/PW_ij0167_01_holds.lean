import PyProof.Rows.All
import Wide.All
import OpenK.AllK
import Wide.FinOn
import Lean
import PySem.Challenge.RW_ij0167_01
set_option Elab.async false
set_option linter.all false
set_option genSizeOf false
namespace Mine
def byRfl : Lean.Syntax := Lean.Unhygienic.run `(Lean.Parser.Tactic.tacticSeq| rfl)
def byI1 : Lean.Syntax := Lean.Unhygienic.run `(Lean.Parser.Tactic.tacticSeq| (intro _; rfl))
def byI2 : Lean.Syntax := Lean.Unhygienic.run `(Lean.Parser.Tactic.tacticSeq| (intro _ _; rfl))
def byI3 : Lean.Syntax := Lean.Unhygienic.run `(Lean.Parser.Tactic.tacticSeq| (intro _ _ _; rfl))
def byDec : Lean.Syntax := Lean.Unhygienic.run `(Lean.Parser.Tactic.tacticSeq| decide)
def byNo : Lean.Syntax := Lean.Unhygienic.run `(Lean.Parser.Tactic.tacticSeq| nofun)
def byEx : Lean.Syntax := Lean.Unhygienic.run `(Lean.Parser.Tactic.tacticSeq| exact ⟨_, _, rfl, rfl⟩)
def byOpen : Lean.Syntax := Lean.Unhygienic.run `(Lean.Parser.Tactic.tacticSeq| exact ⟨nofun, nofun⟩)
end Mine
namespace Mine
open PySem PySem.W PyProof.Rows
theorem hide {P : Prop} (h : ∀ Q : Prop, (P → Q) → Q) : P := h P id
theorem x0a2  {P Q : Prop} {H : Prop} (h : P ∧ Q) (kk : P → Q → H) : H := kk h.1 h.2
theorem x0a3  {P Q R : Prop} {H : Prop} (h : P ∧ Q ∧ R) (kk : P → Q → R → H) : H := kk h.1 h.2.1 h.2.2
theorem x0a4  {P Q R S : Prop} {H : Prop} (h : P ∧ Q ∧ R ∧ S) (kk : P → Q → R → S → H) : H := kk h.1 h.2.1 h.2.2.1 h.2.2.2
theorem x0a5  {P Q R S T : Prop} {H : Prop} (h : P ∧ Q ∧ R ∧ S ∧ T) (kk : P → Q → R → S → T → H) : H := kk h.1 h.2.1 h.2.2.1 h.2.2.2.1 h.2.2.2.2
theorem x1a1 {α : Sort _} {P : α → Prop} {H : Prop} (h : ∃ a, P a) (kk : ∀ a, P a → H) : H := h.elim fun a h => kk a h
theorem x1a2 {α : Sort _} {P Q : α → Prop} {H : Prop} (h : ∃ a, P a ∧ Q a) (kk : ∀ a, P a → Q a → H) : H := h.elim fun a h => kk a h.1 h.2
theorem x1a3 {α : Sort _} {P Q R : α → Prop} {H : Prop} (h : ∃ a, P a ∧ Q a ∧ R a) (kk : ∀ a, P a → Q a → R a → H) : H := h.elim fun a h => kk a h.1 h.2.1 h.2.2
theorem x1a4 {α : Sort _} {P Q R S : α → Prop} {H : Prop} (h : ∃ a, P a ∧ Q a ∧ R a ∧ S a) (kk : ∀ a, P a → Q a → R a → S a → H) : H := h.elim fun a h => kk a h.1 h.2.1 h.2.2.1 h.2.2.2
theorem x1a5 {α : Sort _} {P Q R S T : α → Prop} {H : Prop} (h : ∃ a, P a ∧ Q a ∧ R a ∧ S a ∧ T a) (kk : ∀ a, P a → Q a → R a → S a → T a → H) : H := h.elim fun a h => kk a h.1 h.2.1 h.2.2.1 h.2.2.2.1 h.2.2.2.2
theorem x1a6 {α : Sort _} {P Q R S T U : α → Prop} {H : Prop} (h : ∃ a, P a ∧ Q a ∧ R a ∧ S a ∧ T a ∧ U a) (kk : ∀ a, P a → Q a → R a → S a → T a → U a → H) : H := h.elim fun a h => kk a h.1 h.2.1 h.2.2.1 h.2.2.2.1 h.2.2.2.2.1 h.2.2.2.2.2
theorem x2a1 {α : Sort _} {β : Sort _} {P : α → β → Prop} {H : Prop} (h : ∃ a b, P a b) (kk : ∀ a b, P a b → H) : H := h.elim fun a h => h.elim fun b h => kk a b h
theorem x2a2 {α : Sort _} {β : Sort _} {P Q : α → β → Prop} {H : Prop} (h : ∃ a b, P a b ∧ Q a b) (kk : ∀ a b, P a b → Q a b → H) : H := h.elim fun a h => h.elim fun b h => kk a b h.1 h.2
theorem x2a3 {α : Sort _} {β : Sort _} {P Q R : α → β → Prop} {H : Prop} (h : ∃ a b, P a b ∧ Q a b ∧ R a b) (kk : ∀ a b, P a b → Q a b → R a b → H) : H := h.elim fun a h => h.elim fun b h => kk a b h.1 h.2.1 h.2.2
theorem x2a4 {α : Sort _} {β : Sort _} {P Q R S : α → β → Prop} {H : Prop} (h : ∃ a b, P a b ∧ Q a b ∧ R a b ∧ S a b) (kk : ∀ a b, P a b → Q a b → R a b → S a b → H) : H := h.elim fun a h => h.elim fun b h => kk a b h.1 h.2.1 h.2.2.1 h.2.2.2
theorem x2a5 {α : Sort _} {β : Sort _} {P Q R S T : α → β → Prop} {H : Prop} (h : ∃ a b, P a b ∧ Q a b ∧ R a b ∧ S a b ∧ T a b) (kk : ∀ a b, P a b → Q a b → R a b → S a b → T a b → H) : H := h.elim fun a h => h.elim fun b h => kk a b h.1 h.2.1 h.2.2.1 h.2.2.2.1 h.2.2.2.2
theorem x2a6 {α : Sort _} {β : Sort _} {P Q R S T U : α → β → Prop} {H : Prop} (h : ∃ a b, P a b ∧ Q a b ∧ R a b ∧ S a b ∧ T a b ∧ U a b) (kk : ∀ a b, P a b → Q a b → R a b → S a b → T a b → U a b → H) : H := h.elim fun a h => h.elim fun b h => kk a b h.1 h.2.1 h.2.2.1 h.2.2.2.1 h.2.2.2.2.1 h.2.2.2.2.2
theorem x2a7 {α : Sort _} {β : Sort _} {P Q R S T U V : α → β → Prop} {H : Prop} (h : ∃ a b, P a b ∧ Q a b ∧ R a b ∧ S a b ∧ T a b ∧ U a b ∧ V a b) (kk : ∀ a b, P a b → Q a b → R a b → S a b → T a b → U a b → V a b → H) : H := h.elim fun a h => h.elim fun b h => kk a b h.1 h.2.1 h.2.2.1 h.2.2.2.1 h.2.2.2.2.1 h.2.2.2.2.2.1 h.2.2.2.2.2.2
theorem x3a1 {α : Sort _} {β : Sort _} {γ : Sort _} {P : α → β → γ → Prop} {H : Prop} (h : ∃ a b c, P a b c) (kk : ∀ a b c, P a b c → H) : H := h.elim fun a h => h.elim fun b h => h.elim fun c h => kk a b c h
theorem x3a2 {α : Sort _} {β : Sort _} {γ : Sort _} {P Q : α → β → γ → Prop} {H : Prop} (h : ∃ a b c, P a b c ∧ Q a b c) (kk : ∀ a b c, P a b c → Q a b c → H) : H := h.elim fun a h => h.elim fun b h => h.elim fun c h => kk a b c h.1 h.2
theorem x3a3 {α : Sort _} {β : Sort _} {γ : Sort _} {P Q R : α → β → γ → Prop} {H : Prop} (h : ∃ a b c, P a b c ∧ Q a b c ∧ R a b c) (kk : ∀ a b c, P a b c → Q a b c → R a b c → H) : H := h.elim fun a h => h.elim fun b h => h.elim fun c h => kk a b c h.1 h.2.1 h.2.2
theorem x3a4 {α : Sort _} {β : Sort _} {γ : Sort _} {P Q R S : α → β → γ → Prop} {H : Prop} (h : ∃ a b c, P a b c ∧ Q a b c ∧ R a b c ∧ S a b c) (kk : ∀ a b c, P a b c → Q a b c → R a b c → S a b c → H) : H := h.elim fun a h => h.elim fun b h => h.elim fun c h => kk a b c h.1 h.2.1 h.2.2.1 h.2.2.2
theorem x3a8 {α : Sort _} {β : Sort _} {γ : Sort _} {P Q R S T U V W : α → β → γ → Prop} {H : Prop} (h : ∃ a b c, P a b c ∧ Q a b c ∧ R a b c ∧ S a b c ∧ T a b c ∧ U a b c ∧ V a b c ∧ W a b c) (kk : ∀ a b c, P a b c → Q a b c → R a b c → S a b c → T a b c → U a b c → V a b c → W a b c → H) : H := h.elim fun a h => h.elim fun b h => h.elim fun c h => kk a b c h.1 h.2.1 h.2.2.1 h.2.2.2.1 h.2.2.2.2.1 h.2.2.2.2.2.1 h.2.2.2.2.2.2.1 h.2.2.2.2.2.2.2
theorem x4a1 {α : Sort _} {β : Sort _} {γ : Sort _} {δ : Sort _} {P : α → β → γ → δ → Prop} {H : Prop} (h : ∃ a b c d, P a b c d) (kk : ∀ a b c d, P a b c d → H) : H := h.elim fun a h => h.elim fun b h => h.elim fun c h => h.elim fun d h => kk a b c d h
theorem x4a4 {α : Sort _} {β : Sort _} {γ : Sort _} {δ : Sort _} {P Q R S : α → β → γ → δ → Prop} {H : Prop} (h : ∃ a b c d, P a b c d ∧ Q a b c d ∧ R a b c d ∧ S a b c d) (kk : ∀ a b c d, P a b c d → Q a b c d → R a b c d → S a b c d → H) : H := h.elim fun a h => h.elim fun b h => h.elim fun c h => h.elim fun d h => kk a b c d h.1 h.2.1 h.2.2.1 h.2.2.2
theorem x4a5 {α : Sort _} {β : Sort _} {γ : Sort _} {δ : Sort _} {P Q R S T : α → β → γ → δ → Prop} {H : Prop} (h : ∃ a b c d, P a b c d ∧ Q a b c d ∧ R a b c d ∧ S a b c d ∧ T a b c d) (kk : ∀ a b c d, P a b c d → Q a b c d → R a b c d → S a b c d → T a b c d → H) : H := h.elim fun a h => h.elim fun b h => h.elim fun c h => h.elim fun d h => kk a b c d h.1 h.2.1 h.2.2.1 h.2.2.2.1 h.2.2.2.2
theorem x4a6 {α : Sort _} {β : Sort _} {γ : Sort _} {δ : Sort _} {P Q R S T U : α → β → γ → δ → Prop} {H : Prop} (h : ∃ a b c d, P a b c d ∧ Q a b c d ∧ R a b c d ∧ S a b c d ∧ T a b c d ∧ U a b c d) (kk : ∀ a b c d, P a b c d → Q a b c d → R a b c d → S a b c d → T a b c d → U a b c d → H) : H := h.elim fun a h => h.elim fun b h => h.elim fun c h => h.elim fun d h => kk a b c d h.1 h.2.1 h.2.2.1 h.2.2.2.1 h.2.2.2.2.1 h.2.2.2.2.2
theorem x5a1 {α : Sort _} {β : Sort _} {γ : Sort _} {δ : Sort _} {ε : Sort _} {P : α → β → γ → δ → ε → Prop} {H : Prop} (h : ∃ a b c d e, P a b c d e) (kk : ∀ a b c d e, P a b c d e → H) : H := h.elim fun a h => h.elim fun b h => h.elim fun c h => h.elim fun d h => h.elim fun e h => kk a b c d e h
theorem x5a4 {α : Sort _} {β : Sort _} {γ : Sort _} {δ : Sort _} {ε : Sort _} {P Q R S : α → β → γ → δ → ε → Prop} {H : Prop} (h : ∃ a b c d e, P a b c d e ∧ Q a b c d e ∧ R a b c d e ∧ S a b c d e) (kk : ∀ a b c d e, P a b c d e → Q a b c d e → R a b c d e → S a b c d e → H) : H := h.elim fun a h => h.elim fun b h => h.elim fun c h => h.elim fun d h => h.elim fun e h => kk a b c d e h.1 h.2.1 h.2.2.1 h.2.2.2
theorem ns {α : Type _} {a : α} {H : Prop} (h : none = some a) : H := nomatch h
theorem sn {α : Type _} {a : α} {H : Prop} (h : some a = none) : H := nomatch h
theorem tf {H : Prop} (h : true = false) : H := nomatch h
theorem ft {H : Prop} (h : false = true) : H := nomatch h
theorem Runs.toks_le {M : Model} {Γ : Ctx} {p : Pos} {t : Sem Fin} {fs : List Frame} {s s' : Shared} {e : End}
    (h : Runs M Γ p t fs s e s') : s.toks ≤ s'.toks := by
  induction h <;> first
    | exact Nat.le_refl _
    | assumption
    | (simp only [Shared.setGen] at *; omega)
    | omega
theorem wpCode_toks {M : Model} {Γ : Ctx} {R : Result → Shared → Prop} {p : Pos} {s : Shared} (h : wpCode M Γ R p s) :
    wpCode M Γ (fun r s' => s.toks ≤ s'.toks ∧ R r s') p s := by
  obtain ⟨r, s', hr, hR⟩ := h
  exact ⟨r, s', hr, Runs.toks_le hr, hR⟩
theorem wp_toks {α : Type} (M : Model) (Γ : Ctx) (t : Sem α) (Q : α → Pos → Shared → Prop) (E : Value → Pos → Shared → Prop) (p : Pos) (s : Shared) (n : Nat) (hn : n ≤ s.toks)
    (h : Sem.wp M Γ t Q E p s) : Sem.wp M Γ t (fun a p' s' => n ≤ s'.toks ∧ Q a p' s') (fun e p' s' => n ≤ s'.toks ∧ E e p' s') p s := by
  induction t generalizing p s with
  | pure a => exact ⟨hn, h⟩
  | raise e => exact ⟨hn, h⟩
  | unsupported | finish | yield | fork | await | register => exact h
  | rule _ k ih | «at» _ k ih | loadIfAlive _ k ih | point _ k ih | ask k ih | handled _ k ih | stack k ih | thread k ih => exact ih _ _ _ hn h
  | alloc _ k ih | os _ _ k ih | newGen _ k ih => exact ih _ _ _ (by simpa using hn) h
  | fresh k ih => exact ih _ _ _ (by show n ≤ s.toks + 1; omega) h
  | load a _ k ih | genState a k ih => obtain ⟨o, ho, h⟩ := h; exact ⟨o, ho, ih _ _ _ hn h⟩
  | update a _ f k ih => obtain ⟨ho, h⟩ := h; exact ⟨ho, ih _ _ _ (by simpa using hn) h⟩
  | choose _ _ k ih => obtain ⟨ho, h⟩ := h; exact ⟨ho, ih _ _ _ (by simpa using hn) h⟩
  | call c hd g l k ih =>
    have h' := wpCode_toks (show wpCode M (Γ.enter c hd p) _ p s from h)
    refine wpCode_mono (fun r s' hh => ?_) h'
    exact ih _ _ _ (Nat.le_trans hn hh.1) hh.2
  | resume g r l k ih =>
    obtain ⟨res, s', hw, h⟩ := h
    refine ⟨res, s', hw, ih _ _ _ ?_ h⟩
    have : s.toks ≤ s'.toks := by
      unfold Wakes at hw
      split at hw
      · exact hw.elim
      · split at hw
        · obtain ⟨e₁, s₁, hr, _, _, rfl⟩ := hw
          have := Runs.toks_le hr
          simpa [Shared.setGen] using this
        · obtain ⟨_, rfl⟩ := hw; exact Nat.le_refl _
        · obtain ⟨_, rfl⟩ := hw; exact Nat.le_refl _
      · obtain ⟨e₁, s₁, hr, _, _, rfl⟩ := hw
        have := Runs.toks_le hr
        simpa [Shared.setGen] using this
      · obtain ⟨_, rfl⟩ := hw; exact Nat.le_refl _
      · obtain ⟨_, rfl⟩ := hw; exact Nat.le_refl _
    omega
theorem wpAny_toks {α : Type} {M : Model} {A : Around} {t : Sem α} {Q : α → Shared → Prop} {E : Value → Shared → Prop} {s : Shared}
    (h : wpAny M A t Q E s) : wpAny M A t (fun a s' => s.toks ≤ s'.toks ∧ Q a s') (fun e s' => s.toks ≤ s'.toks ∧ E e s') s :=
  fun Γ p hΓ => wp_toks M Γ t _ _ p s s.toks (Nat.le_refl _) (h Γ p hΓ)
theorem Runs.size_le {M : Model} {Γ : Ctx} {p : Pos} {t : Sem Fin} {fs : List Frame} {s s' : Shared} {e : End}
    (h : Runs M Γ p t fs s e s') : s.heap.objs.size ≤ s'.heap.objs.size := by
  induction h <;> first
    | exact Nat.le_refl _
    | assumption
    | (simp only [Shared.setGen, Heap.size_after_update, Heap.size_push] at *; omega)
    | omega
theorem wpCode_size {M : Model} {Γ : Ctx} {R : Result → Shared → Prop} {p : Pos} {s : Shared} (h : wpCode M Γ R p s) :
    wpCode M Γ (fun r s' => s.heap.objs.size ≤ s'.heap.objs.size ∧ R r s') p s := by
  obtain ⟨r, s', hr, hR⟩ := h
  exact ⟨r, s', hr, Runs.size_le hr, hR⟩
theorem wp_size {α : Type} (M : Model) (Γ : Ctx) (t : Sem α) (Q : α → Pos → Shared → Prop) (E : Value → Pos → Shared → Prop) (p : Pos) (s : Shared) (n : Nat) (hn : n ≤ s.heap.objs.size)
    (h : Sem.wp M Γ t Q E p s) : Sem.wp M Γ t (fun a p' s' => n ≤ s'.heap.objs.size ∧ Q a p' s') (fun e p' s' => n ≤ s'.heap.objs.size ∧ E e p' s') p s := by
  induction t generalizing p s with
  | pure a => exact ⟨hn, h⟩
  | raise e => exact ⟨hn, h⟩
  | unsupported | finish | yield | fork | await | register => exact h
  | rule _ k ih | «at» _ k ih | loadIfAlive _ k ih | point _ k ih | ask k ih | handled _ k ih | stack k ih | thread k ih => exact ih _ _ _ hn h
  | alloc o k ih => exact ih _ _ _ (by rw [Heap.size_push]; omega) h
  | os _ _ k ih | newGen _ k ih | fresh k ih => exact ih _ _ _ (by simpa using hn) h
  | load a _ k ih | genState a k ih => obtain ⟨o, ho, h⟩ := h; exact ⟨o, ho, ih _ _ _ hn h⟩
  | update a _ f k ih => obtain ⟨ho, h⟩ := h; exact ⟨ho, ih _ _ _ (by simpa using hn) h⟩
  | choose _ _ k ih => obtain ⟨ho, h⟩ := h; exact ⟨ho, ih _ _ _ (by simpa using hn) h⟩
  | call c hd g l k ih =>
    have h' := wpCode_size (show wpCode M (Γ.enter c hd p) _ p s from h)
    refine wpCode_mono (fun r s' hh => ?_) h'
    exact ih _ _ _ (Nat.le_trans hn hh.1) hh.2
  | resume g r l k ih =>
    obtain ⟨res, s', hw, h⟩ := h
    refine ⟨res, s', hw, ih _ _ _ ?_ h⟩
    have : s.heap.objs.size ≤ s'.heap.objs.size := by
      unfold Wakes at hw
      split at hw
      · exact hw.elim
      · split at hw
        · obtain ⟨e₁, s₁, hr, _, _, rfl⟩ := hw
          have := Runs.size_le hr
          simpa [Shared.setGen] using this
        · obtain ⟨_, rfl⟩ := hw; exact Nat.le_refl _
        · obtain ⟨_, rfl⟩ := hw; exact Nat.le_refl _
      · obtain ⟨e₁, s₁, hr, _, _, rfl⟩ := hw
        have := Runs.size_le hr
        simpa [Shared.setGen] using this
      · obtain ⟨_, rfl⟩ := hw; exact Nat.le_refl _
      · obtain ⟨_, rfl⟩ := hw; exact Nat.le_refl _
    omega
theorem wpAny_grow {α : Type} {M : Model} {A : Around} {t : Sem α} {Q : α → Shared → Prop} {E : Value → Shared → Prop} {s : Shared}
    (h : wpAny M A t (fun a s' => s.toks ≤ s'.toks → s.heap.objs.size ≤ s'.heap.objs.size → Q a s') E s) : wpAny M A t Q E s :=
  wpAny_mono (fun Γ p hΓ => wp_size M Γ t _ _ p s _ (Nat.le_refl _) ((wpAny_toks h) Γ p hΓ) : wpAny M A t (fun a s' => s.heap.objs.size ≤ s'.heap.objs.size ∧ s.toks ≤ s'.toks ∧ (s.toks ≤ s'.toks → s.heap.objs.size ≤ s'.heap.objs.size → Q a s'))
    (fun e s' => s.heap.objs.size ≤ s'.heap.objs.size ∧ s.toks ≤ s'.toks ∧ E e s') s)
    (fun a s' ⟨h1, h2, h3⟩ => h3 h2 h1) fun _ _ ⟨_, _, h⟩ => h
end Mine
namespace Mine
open PySem PySem.W PyProof.Rows
noncomputable def holders : List String := ["bytearray.__contains__", "bytearray.__mod__", "bytearray.__rmod__", "_struct.pack_into.held", "bytearray.find.held"]
noncomputable def okCode : Code → Prop
  | .builtin id _ => Builtin.Bytes.decodersThatHold.contains id = false ∧ holders.contains id = false
  | _ => True
noncomputable def CleanB (Γ : Ctx) : Prop := ∀ x ∈ Γ.below, okCode x.1
noncomputable def Clean (Γ : Ctx) : Prop := okCode Γ.code ∧ CleanB Γ
noncomputable def wq {α : Type} (M : Model) (A : Around) (t : Sem α) (Q : α → Shared → Prop) (E : Value → Shared → Prop) (s : Shared) : Prop :=
  ∀ Γ p, Γ.In A → Clean Γ → Sem.wp M Γ t (fun a _ s' => Q a s') (fun e _ s' => E e s') p s
noncomputable def cq (M : Model) (A : Around) (c : Code) (R : Result → Shared → Prop) (s : Shared) : Prop :=
  ∀ Γ p, Γ.code = c → Γ.Below A → CleanB Γ → wpCode M Γ R p s
theorem Clean.enter {Γ : Ctx} (h : Clean Γ) (c : Code) (hd : Option Value) (p : Pos) : CleanB (Γ.enter c hd p) := fun x hx => by
  rcases List.mem_cons.mp hx with rfl | hx
  · exact h.1
  · exact h.2 x hx
section
variable {α β : Type} {M : Model} {A : Around} {E : Value → Shared → Prop} {s : Shared}
theorem wq_of {t : Sem α} {Q : α → Shared → Prop} (h : wpAny M A t Q E s) : wq M A t Q E s := fun Γ p hΓ _ => h Γ p hΓ
theorem cq_of {c : Code} {R : Result → Shared → Prop} (h : codeAny M A c R s) : cq M A c R s := fun Γ p hc hΓ _ => h Γ p hc hΓ
theorem wq_pure {a : α} {Q : α → Shared → Prop} (h : Q a s) : wq M A (pure a) Q E s := fun _ _ _ _ => h
theorem wq_mono {t : Sem α} {Q Q' : α → Shared → Prop} {E' : Value → Shared → Prop} (h : wq M A t Q E s)
    (hQ : ∀ a s, Q a s → Q' a s) (hE : ∀ e s, E e s → E' e s) : wq M A t Q' E' s :=
  fun Γ p hΓ hc => Sem.wp_mono M Γ t (fun a _ s => hQ a s) (fun e _ s => hE e s) p s (h Γ p hΓ hc)
theorem wq_bind {m : Sem α} {f : α → Sem β} {Q : β → Shared → Prop} (h : wq M A m (fun a s' => wq M A (f a) Q E s') E s) : wq M A (m >>= f) Q E s := fun Γ p hΓ hc => by
  rw [Sem.wp_bind']
  exact Sem.wp_mono M Γ m (fun a p' s' h' => h' Γ p' hΓ hc) (fun _ _ _ h' => h') p s (h Γ p hΓ hc)
theorem wq_onRaise {m : Sem α} {k : Value → Sem Unit} {Q : α → Shared → Prop} (h : wq M A m Q (fun e s' => wq M A (k e) (fun _ s'' => E e s'') E s') s) : wq M A (m.onRaise k) Q E s := fun Γ p hΓ hc => by
  rw [Sem.wp_onRaise]
  exact Sem.wp_mono M Γ m (fun _ _ _ h' => h') (fun e p' s' h' => h' Γ p' hΓ hc) p s (h Γ p hΓ hc)
theorem wq_attempt {m : Sem α} {Q : Except Value α → Shared → Prop} (h : wq M A m (fun a => Q (.ok a)) (fun e => Q (.error e)) s) : wq M A m.attempt Q E s :=
  fun Γ p hΓ hc => by rw [Sem.wp_attempt]; exact h Γ p hΓ hc
theorem wq_holding {vs : List Value} {m : Sem α} {Q : α → Shared → Prop} (h : wq M A m Q E s) : wq M A (holding vs m) Q E s := fun Γ p hΓ hc => by rw [Sem.wp_holding]; exact h Γ p hΓ hc
theorem wq_keep {vs : List Value} {m : Sem α} {Q : α → Shared → Prop} (h : wq M A m Q E s) : wq M A (m.keep vs) Q E s := fun Γ p hΓ hc => by rw [Sem.wp_keep]; exact h Γ p hΓ hc
theorem wq_standAt {pos : Pos} {Q : Unit → Shared → Prop} (h : Q () s) : wq M A (standAt pos) Q E s := fun _ _ _ _ => h
theorem wq_rule {tag : String} {Q : Unit → Shared → Prop} (h : Q () s) : wq M A (rule tag) Q E s := fun _ _ _ _ => h
theorem wq_point {Q : Unit → Shared → Prop} (h : Q () s) : wq M A point Q E s := fun _ _ _ _ => h
theorem wq_release {vs keep : List Value} {Q : Unit → Shared → Prop} (h : Q () s) : wq M A (release vs keep) Q E s := wq_of (wpAny_release' h)
theorem wq_operate {vs : List Value} {m : Sem Value} {Q : Value → Shared → Prop} (h : wq M A m Q E s) : wq M A (operate vs m) Q E s := fun Γ p hΓ hc => by
  rw [Sem.wp_operate]; exact h Γ p hΓ hc
theorem wq_eq {t t' : Sem α} {Q : α → Shared → Prop} (e : t = t') (h : wq M A t' Q E s) : wq M A t Q E s := e ▸ h
theorem cq_mono {c : Code} {R R' : Result → Shared → Prop} (h : cq M A c R s) (hR : ∀ r s, R r s → R' r s) : cq M A c R' s := fun Γ p hc hΓ hb => wpCode_mono hR (h Γ p hc hΓ hb)
theorem wq_run {c : Code} {h : Option Value} {Q : Flow → Shared → Prop}
    (hc : cq M (A.mark h) c (fun r s' => match r with | .ok f => Q f s' | .error e => E e s') s) (hnb : autoParam (h ≠ some byPass) byNo) : wq M A (run c h) Q E s :=
  fun Γ p hΓ hcl => by rw [Sem.wp_run]; exact hc _ p rfl (hΓ.enter c h p hnb) (hcl.enter c h p)
theorem wq_runValue {c : Code} {Q : Value → Shared → Prop}
    (hc : cq M A c (fun r s' => match r with | .ok (.ret v) => Q v s' | .ok _ => False | .error e => E e s') s) : wq M A (runValue c) Q E s := fun Γ p hΓ hcl => by
  rw [Sem.wp_runValue]; exact hc _ p rfl (hΓ.enter c none p (by intro x; exact ns x)) (hcl.enter c none p)
theorem wq_call {f : Value} {pos : List Value} {kw : List (Str × Value)} {Q : Value → Shared → Prop}
    (hc : cq M A (.call f ⟨pos, kw⟩) (fun r s' => match r with | .ok (.ret v) => Q v s' | .ok _ => False | .error e => E e s') s) : wq M A (call f pos kw) Q E s := wq_runValue hc
theorem cq_of_tree {c : Code} {R : Result → Shared → Prop} (hok : okCode c)
    (h : wq M (A.under c) (M.den c) (fun fin s' => match fin with | .done f => R (.ok f) s' | .again c' => c'.quiet = true ∧ cq M A c' R s') (fun e s' => R (.error e) s') s) : cq M A c R s := fun Γ p hc hΓ hb => by
  rw [wpCode_iff_wp, hc]
  refine Sem.wp_mono M Γ _ (fun fin p' s' h' => ?_) (fun _ _ _ h' => h') p s (h Γ p (hc ▸ hΓ.in) ⟨hc ▸ hok, hb⟩)
  cases fin with
  | done f => exact h'
  | again c' => exact ⟨h'.1, h'.2 (Γ.goto c') p' rfl (hΓ.goto c') hb⟩
theorem cq_loop {c : Code} {R : Result → Shared → Prop} (hok : okCode c) (hq : c.quiet = true) (I : Nat → Shared → Prop)
    (turn : ∀ n s, I n s → wq M (A.under c) (M.den c)
      (fun fin s' => match fin with
        | .done f => R (.ok f) s'
        | .again c' => (c' = c ∧ ∃ m, m < n ∧ I m s') ∨ (c'.quiet = true ∧ cq M A c' R s')) (fun e s' => R (.error e) s') s)
    (n : Nat) (h : I n s) : cq M A c R s := by
  induction n using Nat.strongRecOn generalizing s with
  | ind n ih =>
    refine cq_of_tree hok (wq_mono (turn n s h) (fun fin s' hf => ?_) fun _ _ h' => h')
    cases fin with
    | done f => exact hf
    | again c' =>
      rcases hf with ⟨rfl, m, hm, hI⟩ | hf
      · exact ⟨hq, ih m hm hI⟩
      · exact hf
theorem wq_Name {env : Env} {x : Str} {pos : Pos} {Q : Value → Shared → Prop} (h : wq M A (loadName env x) Q E s) (hd : autoParam ((x == ("__debug__" : Str)) = false) byDec) : wq M A (eval (.Name x pos) env) Q E s := by
  show wq M A (do standAt pos; if x == ("__debug__" : Str) then debugConstant else loadName env x) Q E s
  rw [hd]; exact wq_bind (wq_standAt h)
theorem wq_BinOp {env : Env} {l r : Expr} {op : Operator} {pos : Pos} {Q : Value → Shared → Prop}
    (h : wq M A (eval l env) (fun a s₁ => wq M A (eval r env) (fun b s₂ => wq M A (binaryOp op a b) Q E s₂) E s₁) E s) : wq M A (eval (.BinOp l op r pos) env) Q E s := by
  show wq M A (do let a ← eval l env; let b ← holding [a] (eval r env); standAt pos; operate [a, b] (binaryOp op a b)) Q E s
  exact wq_bind (wq_mono h (fun a s₁ h₁ => wq_bind (wq_holding (wq_mono h₁ (fun b s₂ h₂ => wq_bind (wq_standAt (wq_operate h₂))) fun _ _ x => x))) fun _ _ x => x)
theorem wq_UnaryOp {env : Env} {op : UnaryOp} {x : Expr} {pos : Pos} {Q : Value → Shared → Prop} (h : wq M A (eval x env) (fun v s₁ => wq M A (unaryOp op v) Q E s₁) E s) : wq M A (eval (.UnaryOp op x pos) env) Q E s := by
  show wq M A (do let v ← eval x env; standAt pos; holding [v] (unaryOp op v)) Q E s
  exact wq_bind (wq_mono h (fun v s₁ h₁ => wq_bind (wq_standAt (wq_holding h₁))) fun _ _ x => x)
theorem wq_IfExp {env : Env} {t b o : Expr} {pos : Pos} {Q : Value → Shared → Prop}
    (h : wq M A (isTrue t env (eval t env)) (fun c s₁ => if c = true then wq M A (eval b env) Q E s₁ else wq M A (eval o env) Q E s₁) E s) : wq M A (eval (.IfExp t b o pos) env) Q E s := by
  show wq M A (do if ← isTrue t env (eval t env) then eval b env else eval o env) Q E s
  refine wq_bind (wq_mono h (fun c s₁ h₁ => ?_) fun _ _ x => x)
  cases c <;> exact h₁
theorem wq_Compare1 {env : Env} {l r : Expr} {op : CmpOp} {pos : Pos} {Q : Value → Shared → Prop}
    (h : wq M A (eval l env) (fun a s₁ => wq M A (eval r env) (fun b s₂ => wq M A (compareOp op a b) Q E s₂) E s₁) E s) (hm : autoParam (behindInMarks op r = false) byRfl) : wq M A (eval (.Compare l [op] [r] pos) env) Q E s := by
  show wq M A (do compareChain pos (← eval l env) [op] (markedEach [op] [r] (evalEach [r] env))) Q E s
  rw [markedEach_of_false _ _ _ (show lastMarks [op] [r] = false by simpa [lastMarks] using hm)]
  refine wq_bind (wq_mono h (fun a s₁ h₁ => ?_) fun _ _ x => x)
  show wq M A (do let rv ← holding [a] (eval r env); standAt pos; operate [a, rv] (compareOp op a rv)) Q E s₁
  exact wq_bind (wq_holding (wq_mono h₁ (fun b s₂ h₂ => wq_bind (wq_standAt (wq_operate h₂))) fun _ _ x => x))
theorem wq_isTrue_Compare1 {env : Env} {l r : Expr} {op : CmpOp} {pos : Pos} {whole : Sem Value} {Q : Bool → Shared → Prop}
    (h : wq M A (eval l env) (fun a s₁ => wq M A (eval r env) (fun b s₂ => wq M A (compareOp op a b) (fun c s₃ => wq M A (truthy c) Q E s₃) E s₂) E s₁) E s) (hm : autoParam (behindInMarks op r = false) byRfl) :
    wq M A (isTrue (.Compare l [op] [r] pos) env whole) Q E s := by
  show wq M A (do testChain pos (← eval l env) [op] (markedEach [op] [r] (evalEach [r] env))) Q E s
  rw [markedEach_of_false _ _ _ (show lastMarks [op] [r] = false by simpa [lastMarks] using hm)]
  refine wq_bind (wq_mono h (fun a s₁ h₁ => ?_) fun _ _ x => x)
  show wq M A (do let rv ← holding [a] (eval r env); standAt pos; let c ← operate [a, rv] (compareOp op a rv); holding [c] (truthy c)) Q E s₁
  exact wq_bind (wq_holding (wq_mono h₁ (fun b s₂ h₂ => wq_bind (wq_standAt (wq_bind (wq_operate (wq_mono h₂ (fun c s₃ h₃ => wq_holding h₃) fun _ _ x => x))))) fun _ _ x => x))
theorem wq_isTrue_chain {env : Env} {l r₁ r₂ : Expr} {op₁ op₂ : CmpOp} {pos : Pos} {whole : Sem Value} {Q : Bool → Shared → Prop}
    (h : wq M A (eval l env) (fun a s₁ => wq M A (testChain pos a [op₁, op₂] [eval r₁ env, eval r₂ env]) Q E s₁) E s) (hm : autoParam (lastMarks [op₁, op₂] [r₁, r₂] = false) byRfl) :
    wq M A (isTrue (.Compare l [op₁, op₂] [r₁, r₂] pos) env whole) Q E s := by
  show wq M A (do testChain pos (← eval l env) [op₁, op₂] (markedEach [op₁, op₂] [r₁, r₂] (evalEach [r₁, r₂] env))) Q E s
  rw [markedEach_of_false _ _ _ hm]
  exact wq_bind h
theorem wq_isTrue_Not {env : Env} {x : Expr} {pos : Pos} {whole : Sem Value} {Q : Bool → Shared → Prop} (h : wq M A (isTrue x env (eval x env)) (fun b s₁ => Q (!b) s₁) E s) :
    wq M A (isTrue (.UnaryOp .Not x pos) env whole) Q E s := by
  show wq M A (do return !(← isTrue x env (eval x env))) Q E s
  exact wq_bind (wq_mono h (fun b s₁ h₁ => wq_pure h₁) fun _ _ x => x)
theorem wq_isTrue_BoolOp {env : Env} {op : BoolOp} {es : List Expr} {pos : Pos} {whole : Sem Value} {Q : Bool → Shared → Prop} (h : wq M A (allTrue op es env) Q E s) : wq M A (isTrue (.BoolOp op es pos) env whole) Q E s := h
theorem wq_allTrue_nil {op : BoolOp} {env : Env} {Q : Bool → Shared → Prop} (h : Q (op == .And) s) : wq M A (allTrue op [] env) Q E s := wq_pure h
theorem wq_allTrue_And {x : Expr} {es : List Expr} {env : Env} {Q : Bool → Shared → Prop}
    (h : wq M A (isTrue x env (eval x env)) (fun b s₁ => if b = true then wq M A (allTrue .And es env) Q E s₁ else Q false s₁) E s) : wq M A (allTrue .And (x :: es) env) Q E s := by
  show wq M A (do match BoolOp.And, ← isTrue x env (eval x env) with | .And, false => pure false | .Or, true => pure true | _, _ => allTrue .And es env) Q E s
  refine wq_bind (wq_mono h (fun b s₁ h₁ => ?_) fun _ _ x => x)
  cases b
  · exact wq_pure h₁
  · exact h₁
theorem wq_allTrue_Or {x : Expr} {es : List Expr} {env : Env} {Q : Bool → Shared → Prop}
    (h : wq M A (isTrue x env (eval x env)) (fun b s₁ => if b = true then Q true s₁ else wq M A (allTrue .Or es env) Q E s₁) E s) : wq M A (allTrue .Or (x :: es) env) Q E s := by
  show wq M A (do match BoolOp.Or, ← isTrue x env (eval x env) with | .And, false => pure false | .Or, true => pure true | _, _ => allTrue .Or es env) Q E s
  refine wq_bind (wq_mono h (fun b s₁ h₁ => ?_) fun _ _ x => x)
  cases b
  · exact h₁
  · exact wq_pure h₁
theorem wq_isTrue_value {env : Env} {e : Expr} {whole : Sem Value} {Q : Bool → Shared → Prop} (h : wq M A whole (fun v s₁ => wq M A (truthy v) Q E s₁) E s)
    (he : isTrue e env whole = (do let v ← whole; standAt e.pos; holding [v] (truthy v))) : wq M A (isTrue e env whole) Q E s := by
  rw [he]; exact wq_bind (wq_mono h (fun v s₁ h₁ => wq_bind (wq_standAt (wq_holding h₁))) fun _ _ x => x)
theorem wq_BoolOp_one {env : Env} {op : BoolOp} {e : Expr} {pos : Pos} {Q : Value → Shared → Prop} (h : wq M A (eval e env) Q E s) : wq M A (eval (.BoolOp op [e] pos) env) Q E s := h
theorem wq_BoolOp_and {env : Env} {e₁ e₂ : Expr} {es : List Expr} {pos : Pos} {Q : Value → Shared → Prop}
    (h : wq M A (eval e₁ env) (fun v s₁ => wq M A (truthy v) (fun c s₂ => if c = true then wq M A (eval (.BoolOp .And (e₂ :: es) pos) env) Q E s₂ else Q v s₂) E s₁) E s) : wq M A (eval (.BoolOp .And (e₁ :: e₂ :: es) pos) env) Q E s := by
  show wq M A (do
    let v ← eval e₁ env
    standAt pos
    let t ← holding [v] (truthy v)
    match BoolOp.And, t with
    | .And, false | .Or, true => pure v
    | _, _ => boolOp pos .And (evalEach (e₂ :: es) env)) Q E s
  refine wq_bind (wq_mono h (fun v s₁ h₁ => wq_bind (wq_standAt (wq_bind (wq_holding (wq_mono h₁ (fun c s₂ h₂ => ?_) fun _ _ x => x))))) fun _ _ x => x)
  cases c
  · exact wq_pure h₂
  · exact h₂
theorem wq_BoolOp_or {env : Env} {e₁ e₂ : Expr} {es : List Expr} {pos : Pos} {Q : Value → Shared → Prop}
    (h : wq M A (eval e₁ env) (fun v s₁ => wq M A (truthy v) (fun c s₂ => if c = true then Q v s₂ else wq M A (eval (.BoolOp .Or (e₂ :: es) pos) env) Q E s₂) E s₁) E s) : wq M A (eval (.BoolOp .Or (e₁ :: e₂ :: es) pos) env) Q E s := by
  show wq M A (do
    let v ← eval e₁ env
    standAt pos
    let t ← holding [v] (truthy v)
    match BoolOp.Or, t with
    | .And, false | .Or, true => pure v
    | _, _ => boolOp pos .Or (evalEach (e₂ :: es) env)) Q E s
  refine wq_bind (wq_mono h (fun v s₁ h₁ => wq_bind (wq_standAt (wq_bind (wq_holding (wq_mono h₁ (fun c s₂ h₂ => ?_) fun _ _ x => x))))) fun _ _ x => x)
  cases c
  · exact h₂
  · exact wq_pure h₂
theorem wq_spliced_nil {Q : List Value → Shared → Prop} (h : Q [] s) : wq M A (spliced []) Q E s := wq_pure h
theorem wq_spliced_cons {x : Sem Value} {rest : List (Bool × Sem Value)} {Q : List Value → Shared → Prop} (h : wq M A x (fun v s₁ => wq M A (spliced rest) (fun vs s₂ => Q (v :: vs) s₂) E s₁) E s) :
    wq M A (spliced ((false, x) :: rest)) Q E s := by
  show wq M A (do
    let v ← x
    let here ← (pure [v] : Sem (List Value))
    return here ++ (← holding here (spliced rest))) Q E s
  exact wq_bind (wq_mono h (fun v s₁ h₁ => wq_bind (wq_pure (wq_bind (wq_holding (wq_mono h₁ (fun vs s₂ h₂ => wq_pure h₂) fun _ _ x => x))))) fun _ _ x => x)
theorem wq_args_nil {env : Env} {pos : Pos} {Q : List Value → Shared → Prop} (h : Q [] s) : wq M A (spliced (backTo pos (starEach [] env))) Q E s := wq_spliced_nil h
theorem wq_args_cons {env : Env} {e : Expr} {rest : List Expr} {pos : Pos} {Q : List Value → Shared → Prop}
    (h : wq M A (eval e env) (fun v s₁ => wq M A (spliced (backTo pos (starEach rest env))) (fun vs s₂ => Q (v :: vs) s₂) E s₁) E s) (he : autoParam (starEach (e :: rest) env = (false, eval e env) :: starEach rest env) byRfl) :
    wq M A (spliced (backTo pos (starEach (e :: rest) env))) Q E s := by
  rw [he]; exact wq_spliced_cons h
theorem wq_Tuple {env : Env} {elts : List Expr} {k : Nat} {pos : Pos} {Q : Value → Shared → Prop}
    (h : wq M A (spliced (backTo pos (starEach elts env))) (fun vs s₁ => vs.length ≤ sizeLine ∧ Q (.ref s₁.heap.objs.size) { s₁ with heap := s₁.heap.push { cls := .type "tuple", data := .seq vs.toArray } }) E s) : wq M A (eval (.Tuple elts k pos) env) Q E s := by
  show wq M A (do standAt pos; newTuple (← spliced (backTo pos (starEach elts env)))) Q E s
  refine wq_bind (wq_standAt (wq_bind (wq_mono h (fun vs s₁ h₁ => ?_) fun _ _ x => x)))
  exact wq_of (by unfold newTuple; exact wpAny_newObj_type h₁.2 (by show (vs.toArray).size ≤ sizeLine; simpa using h₁.1))
theorem wq_List {env : Env} {elts : List Expr} {pos : Pos} {Q : Value → Shared → Prop}
    (h : wq M A (spliced (backTo pos (starEach elts env))) (fun vs s₁ => vs.length ≤ sizeLine ∧ Q (.ref s₁.heap.objs.size) { s₁ with heap := s₁.heap.push { cls := .type "list", data := .seq vs.toArray } }) E s) : wq M A (eval (.List elts pos) env) Q E s := by
  show wq M A (do standAt pos; newList (← spliced (backTo pos (starEach elts env)))) Q E s
  refine wq_bind (wq_standAt (wq_bind (wq_mono h (fun vs s₁ h₁ => ?_) fun _ _ x => x)))
  exact wq_of (by unfold newList; exact wpAny_newObj_type h₁.2 (by show (vs.toArray).size ≤ sizeLine; simpa using h₁.1))
theorem wq_execs_nil {env : Env} {Q : Flow → Shared → Prop} (h : Q .next s) : wq M A (execs [] env) Q E s := wq_pure h
theorem wq_execs_cons {env : Env} {st : Stmt} {rest : List Stmt} {Q : Flow → Shared → Prop}
    (h : wq M A (exec st env) (fun f s' => match f with | .next => wq M A (execs rest env) Q E s' | f => Q f s') E s) : wq M A (execs (st :: rest) env) Q E s := by
  show wq M A (do match ← exec st env with | .next => execs rest env | f => pure f) Q E s
  refine wq_bind (wq_mono h (fun f s' h' => ?_) fun _ _ x => x)
  cases f with
  | next => exact h'
  | brk => exact wq_pure h'
  | cont => exact wq_pure h'
  | ret v => exact wq_pure h'
theorem wq_Return {env : Env} {e : Expr} {pos : Pos} {Q : Flow → Shared → Prop} (h : wq M A (eval e env) (fun v => Q (.ret v)) E s) : wq M A (exec (.Return (some e) pos) env) Q E s := by
  show wq M A (do standAt pos; return .ret (← eval e env)) Q E s
  exact wq_bind (wq_standAt (wq_bind (wq_mono h (fun v s' h' => wq_pure h') fun _ _ x => x)))
theorem wq_If {env : Env} {test : Expr} {body orelse : List Stmt} {pos : Pos} {Q : Flow → Shared → Prop}
    (h : wq M A (isTrue test env (eval test env)) (fun b s₂ => if b = true then wq M A (execs body env) Q E s₂ else wq M A (execs orelse env) Q E s₂) E s) : wq M A (exec (.If test body orelse pos) env) Q E s := by
  show wq M A (do standAt pos; if ← isTrue test env (eval test env) then execs body env else execs orelse env) Q E s
  refine wq_bind (wq_standAt (wq_bind (wq_mono h (fun b s₂ h₂ => ?_) fun _ _ x => x)))
  cases b <;> exact h₂
theorem wq_bindName {env : Env} {x : Str} {v : Value} {Q : Unit → Shared → Prop} (h : wq M A (storeName env x v) Q E s) : wq M A (bindName env x v) Q E s := by
  show wq M A (do holding [v] point; storeName env x v; point) Q E s
  exact wq_bind (wq_holding (wq_point (wq_bind (wq_mono h (fun _ s' h' => wq_point h') fun _ _ x => x))))
theorem wq_Assign_Name {env : Env} {x : Str} {pos' : Pos} {value : Expr} {pos : Pos} {Q : Flow → Shared → Prop}
    (h : wq M A (eval value env) (fun v s₁ => wq M A (storeName env x v) (fun _ => Q .next) E s₁) E s) (hs : autoParam (swapsWith value (some (.Name x pos')) pos.line env = pure false) byRfl) :
    wq M A (exec (.Assign [.Name x pos'] value pos) env) Q E s := by
  rw [exec_Assign]
  refine wq_bind (wq_standAt ?_)
  rw [show swapsWithSole [.Name x pos'] value pos.line env = pure false from hs]
  refine wq_bind (wq_pure ?_)
  rw [if_neg (by decide)]
  refine wq_bind (wq_mono h (fun v s₁ h₁ => ?_) fun _ _ x => x)
  have hw : swappedStores [.Name x pos'] value env = pure none := by unfold swappedStores; cases value <;> rfl
  rw [hw]
  refine wq_bind (wq_pure ?_)
  show wq M A (do assignAll v [assign (.Name x pos') env]; pure .next) Q E s₁
  refine wq_bind ?_
  show wq M A (do standAt pos'; bindName env x v) _ E s₁
  exact wq_bind (wq_standAt (wq_bindName (wq_mono h₁ (fun _ s' h' => wq_pure h') fun _ _ x => x)))
theorem wq_AugAssign_Name {env : Env} {x : Str} {pos' : Pos} {op : Operator} {value : Expr} {pos : Pos} {Q : Flow → Shared → Prop}
    (h : wq M A (loadName env x) (fun old s₁ => wq M A (eval value env) (fun v s₂ => wq M A (inplaceOp op old v) (fun r s₃ => wq M A (storeName env x r) (fun _ => Q .next) E s₃) E s₂) E s₁) E s) :
    wq M A (exec (.AugAssign (.Name x pos') op value pos) env) Q E s := by
  show wq M A (do
    standAt pos'
    let old ← loadName env x
    let v ← holding [old] (eval value env)
    standAt pos
    let new ← operate [old, v] (inplaceOp op old v)
    standAt pos'
    bindName env x new
    pure .next) Q E s
  refine wq_bind (wq_standAt (wq_bind (wq_mono h (fun old s₁ h₁ => wq_bind (wq_holding (wq_mono h₁ (fun v s₂ h₂ => wq_bind (wq_standAt (wq_bind (wq_operate (wq_mono h₂ (fun r s₃ h₃ => ?_) fun _ _ x => x))))) fun _ _ x => x))) fun _ _ x => x)))
  exact wq_bind (wq_standAt (wq_bind (wq_bindName (wq_mono h₃ (fun _ s' h' => wq_pure h') fun _ _ x => x))))
theorem wq_theTreesLotGoes {x : Value} {Q : Unit → Shared → Prop} (h : Q () s) : wq M A (theTreesLotGoes x) Q E s := wq_of (wpAny_theTreesLotGoes h)
theorem wq_noted {env : Env} {m : Sem α} {Q : α → Shared → Prop} (h : wq M A m Q (notedBy M A env E) s) : wq M A (m.onRaise fun x => do noteFrame x env; theTreesLotGoes x) Q E s :=
  wq_onRaise (wq_mono h (fun _ _ q => q) fun _ _ hx => wq_bind (wq_mono (wq_of hx) (fun _ _ e => wq_theTreesLotGoes e) fun _ _ e => e))
theorem wq_runOwn {env : Env} {c : Code} {h : Option Value} {Q : Flow → Shared → Prop}
    (hc : cq M (A.mark h) c (fun r s' => match r with | .ok f => Q f s' | .error e => cameBackBy M A env E e s') s) (hnb : autoParam (h ≠ some byPass) byNo) : wq M A (runOwn c env h) Q E s := by
  unfold runOwn
  refine wq_onRaise (wq_mono (wq_run (Q := Q) (E := fun e s' => cameBackBy M A env E e s') (cq_mono hc fun r s' hr => ?_) hnb) (fun _ _ q => q) fun e s' hx => wq_of hx)
  cases r <;> exact hr
theorem wq_While {env : Env} {test : Expr} {body orelse : List Stmt} {pos : Pos} {Q : Flow → Shared → Prop}
    (h : cq M A (.whileLoop test body orelse env) (fun r s' => match r with | .ok f => Q f s' | .error e => cameBackBy M A env E e s') s) : wq M A (exec (.While test body orelse pos) env) Q E s := by
  show wq M A (do standAt pos; runOwn (.whileLoop test body orelse env) env) Q E s
  exact wq_bind (wq_standAt (wq_runOwn h))
theorem wq_For {env : Env} {target iter : Expr} {body orelse : List Stmt} {pos : Pos} {Q : Flow → Shared → Prop}
    (h : wq M A (eval iter env) (fun x s₁ => wq M A (pyIter x) (fun it s₂ => cq M A (.forLoop target it body orelse env) (fun r s' => match r with | .ok f => Q f s' | .error e => cameBackBy M A env E e s') s₂) E s₁) E s)
    (hf : autoParam (∀ x, foldedSetIterable iter env x = pure x) byI1) : wq M A (exec (.For target iter body orelse pos) env) Q E s := by
  show wq M A (do
    standAt pos
    let x ← foldedSetIterable iter env (← eval iter env)
    standAt iter.pos
    runOwn (.forLoop target (← holding [x] (pyIter x)) body orelse env) env) Q E s
  refine wq_bind (wq_standAt (wq_bind (wq_mono h (fun x s₁ h₁ => ?_) fun _ _ x => x)))
  rw [hf]
  exact wq_bind (wq_pure (wq_bind (wq_standAt (wq_bind (wq_holding (wq_mono h₁ (fun it s₂ h₂ => wq_runOwn h₂) fun _ _ x => x))))))
end
section
variable {prog : Program} {w : World} {A : Around} {E : Value → Shared → Prop} {s : Shared} {R : Result → Shared → Prop}
theorem under_self {c : Code} (h : c.weight = 0) (hu : c.cUnits = 0) : A.under c = A := Around.under_of_weight h hu
theorem cq_whileLoop {test : Expr} {body orelse : List Stmt} {env : Env} (I : Nat → Shared → Prop)
    (turn : ∀ n s, I n s → wq (model prog w) A (isTrue test env (eval test env)) (fun b s₂ =>
        if b then wq (model prog w) A (execs body env) (fun f s₃ => match f with
            | .next | .cont => ∃ m, m < n ∧ I m s₃
            | .brk => R (.ok .next) s₃
            | .ret v => R (.ok (.ret v)) s₃) (notedBy (model prog w) A env fun e s' => R (.error e) s') s₂
        else wq (model prog w) A (execs orelse env) (fun f s₃ => R (.ok f) s₃) (notedBy (model prog w) A env fun e s' => R (.error e) s') s₂)
        (notedBy (model prog w) A env fun e s' => R (.error e) s') s)
    (n : Nat) (h : I n s) : cq (model prog w) A (.whileLoop test body orelse env) R s := by
  refine cq_loop trivial rfl I (fun n s hI => ?_) n h
  rw [under_self rfl rfl]
  show wq _ _ ((whileTurn test body orelse env).onRaise (fun x => do noteFrame x env; theTreesLotGoes x)) _ _ s
  refine wq_noted ?_
  unfold whileTurn
  refine wq_bind (wq_mono (turn n s hI) (fun b s₂ h₂ => ?_) fun _ _ x => x)
  cases b with
  | true =>
    refine wq_bind (wq_mono h₂ (fun f s₃ h₃ => ?_) fun _ _ x => x)
    cases f with
    | next => exact wq_pure (.inl ⟨rfl, h₃⟩)
    | cont => exact wq_pure (.inl ⟨rfl, h₃⟩)
    | brk => exact wq_pure h₃
    | ret v => exact wq_pure h₃
  | false => exact wq_bind (wq_mono h₂ (fun f s₃ h₃ => wq_pure h₃) fun _ _ x => x)
theorem cq_block {stmts : List Stmt} {env : Env} (h : wq (model prog w) A (execs stmts env) (fun f s' => R (.ok f) s') (notedBy (model prog w) A env fun e s' => R (.error e) s') s) : cq (model prog w) A (.block stmts env) R s := by
  refine cq_of_tree trivial ?_
  rw [under_self rfl rfl]
  show wq _ _ (do return Fin.done (← (execs stmts env).onRaise (fun x => do noteFrame x env; theTreesLotGoes x))) _ _ s
  exact wq_bind (wq_noted (wq_mono h (fun f s' h' => wq_pure h') fun _ _ h' => h'))
theorem cq_forLoop {target : Expr} {it : Value} {body orelse : List Stmt} {env : Env} (I : Nat → Shared → Prop)
    (turn : ∀ n s, I n s → wq (model prog w) A (pyNext it) (fun r s₁ => match r with
      | none => wq (model prog w) A (execs orelse env) (fun f s₃ => R (.ok f) s₃) (notedBy (model prog w) A env fun e s' => R (.error e) s') s₁
      | some v => wq (model prog w) A (letOwnedTupleGo target it v) (fun _ s₁ => wq (model prog w) A (assign target env v) (fun _ s₂ => wq (model prog w) A (execs body env) (fun f s₃ => match f with
          | .next | .cont => ∃ m, m < n ∧ I m s₃
          | .brk => R (.ok .next) s₃
          | .ret v => R (.ok (.ret v)) s₃) (notedBy (model prog w) A env fun e s' => R (.error e) s') s₂) (fun _ _ => False) s₁) (fun _ _ => False) s₁) (fun _ _ => False) s)
    (n : Nat) (h : I n s) : cq (model prog w) A (.forLoop target it body orelse env) R s := by
  refine cq_loop trivial rfl I (fun n s hI => ?_) n h
  rw [under_self rfl rfl]
  show wq _ _ ((forTurn target it body orelse env).onRaise (fun x => do noteFrame x env; theTreesLotGoes x)) _ _ s
  refine wq_noted ?_
  unfold forTurn
  refine wq_bind (wq_standAt (wq_bind (wq_onRaise (wq_mono (turn n s hI) (fun r s₁ h₁ => ?_) fun _ _ h' => h'.elim))))
  cases r with
  | none => exact wq_pure (.inr ⟨rfl, cq_block h₁⟩)
  | some v =>
    refine wq_bind (wq_mono h₁ (fun _ s₁ h₁ => ?_) fun _ _ h' => h'.elim)
    refine wq_bind (wq_mono h₁ (fun _ s₂ h₂ => wq_bind (wq_mono h₂ (fun f s₃ h₃ => ?_) fun _ _ h' => h')) fun _ _ h' => h'.elim)
    cases f with
    | next => exact wq_pure (.inl ⟨rfl, h₃⟩)
    | cont => exact wq_pure (.inl ⟨rfl, h₃⟩)
    | brk => exact wq_pure h₃
    | ret v => exact wq_pure h₃
end
end Mine
namespace Mine
open PySem PySem.W PyProof.Rows
noncomputable def ClsAt (h : Heap) (a : Addr) (c : Value) : Prop := ∃ o, h.get? a = some o ∧ o.cls = c
theorem ClsAt.sameBut {h h' : Heap} {a b : Addr} {c : Value} (x : ClsAt h a c) (hs : Heap.SameBut b h h') (hab : a ≠ b) : ClsAt h' a c := x1a2 x fun o h1 h2 => ⟨o, (hs.2 a hab).trans h1, h2⟩
theorem ClsAt.keeps {h h' : Heap} {a : Addr} {c : Value} (x : ClsAt h a c) (k : ∀ b o, h.get? b = some o → h'.get? b = some o) : ClsAt h' a c := x1a2 x fun o h1 h2 => ⟨o, k _ _ h1, h2⟩
theorem cls_putName (name : Str) (h : Int) (key v : Value) (o : Obj) : (o.putName name h key v).cls = o.cls := by
  rw [Obj.putName_eq]
  obtain ⟨c, d, dt, sl⟩ := o
  cases dt <;> simp only [Obj.putNameByArray]
  split <;> rfl
theorem freed_putName (name : Str) (h : Int) (key v : Value) (o : Obj) (es : Array DictEntry) (ep : Nat) (hd : o.data = .dict es ep) : (o.putName name h key v).isFreed = false := by
  rw [Obj.putName_eq]
  obtain ⟨c, d, dt, sl⟩ := o
  subst hd
  simp only [Obj.putNameByArray]
  split <;> rfl
theorem wp_nsSet_cls (M : Model) (Γ : Ctx) (E : Value → Pos → Shared → Prop) (p : Pos) (s : Shared) {a : Addr} {m} (hn : s.heap.Ns a m) (name : Str) (v : Value) {c : Value} (hc : ClsAt s.heap a c) (Q : Unit → Pos → Shared → Prop)
    (hQ : ∀ h', h'.Ns a (fun x => if x = name then some v else m x) → Heap.SameBut a s.heap h' → ClsAt h' a c →
      Q () p { s with heap := h', toks := s.toks + 1 }) : Sem.wp M Γ (nsSet a name v) Q E p s := by
  have key : ∃ hsh k, ∀ Q : Unit → Pos → Shared → Prop, Sem.wp M Γ (nsSet a name v) Q E p s ↔ Q () p { s with heap := s.heap.update a (Obj.putName name hsh k v), toks := s.toks + 1 } := by
    obtain ⟨o, es, ep, ho, hd, hk, hm⟩ := hn
    refine ⟨if name.cps.isEmpty = true then 0 else reduceHash (M.w.params.strHash name.cps), .str name s.toks, fun Q => ?_⟩
    simp only [nsSet, strHash, Sem.wp_bind', Sem.wp_cmd_ask, Sem.wp_pure', Sem.wp_cmd_mkText]
    rw [Sem.wp_loadPart_of M Γ E p { s with toks := s.toks + 1 } (o := o) _ ho]
    have hany : es.any (·.refKey) = false := by
      rw [Array.any_eq_false']; intro e he; obtain ⟨n, t, h⟩ := hk e he; simp [DictEntry.refKey, h]
    simp only [hd, aRefKeyMayBeTheName_eq, aRefKeyMayBeTheNameByArray, hany, Bool.and_false, Bool.false_eq_true, if_false, Sem.wp_cmd_updatePart]
    exact ⟨fun h => h.2, fun h => ⟨by rw [ho]; rfl, h⟩⟩
  obtain ⟨hsh, k, key⟩ := key
  have lib := (key _).mp (Sem.wp_nsSet M Γ E p s hn name v (fun _ _ s' => ∃ h', h'.Ns a (fun x => if x = name then some v else m x) ∧ Heap.SameBut a s.heap h' ∧ s' = { s with heap := h', toks := s.toks + 1 }) fun h' h1 h2 => ⟨h', h1, h2, rfl⟩)
  obtain ⟨h', h1, h2, h3⟩ := lib
  have h3' : s.heap.update a (Obj.putName name hsh k v) = h' := congrArg Shared.heap h3
  subst h3'
  refine (key Q).mpr (hQ _ h1 h2 ?_)
  obtain ⟨o, ho, hcl⟩ := hc
  obtain ⟨o', es, ep, ho', hd, _⟩ := hn
  rw [ho] at ho'; (have ho' := Option.some.inj ho'; subst ho')
  exact ⟨_, Heap.get?_update_self _ ho (freed_putName _ _ _ _ _ es ep hd), (cls_putName ..).trans hcl⟩
section
variable {M : Model} {A : Around} {E : Value → Shared → Prop} {s s₀ : Shared} {env : Env} {m cm : Str → Option Value}
theorem wpAny_storeName_cls {name : Str} {v : Value} {Q : Unit → Shared → Prop} {c : Value} (hl : env.kindOf name = some .local)
    (hn : s.heap.Ns env.locals m) (hc : ClsAt s.heap env.locals c)
    (h : ∀ h', h'.Ns env.locals (fun x => if x = name then some v else m x) → Heap.SameBut env.locals s.heap h' → ClsAt h' env.locals c →
      Q () { s with heap := h', toks := s.toks + 1 })
    (hp : autoParam ((env.scope.kind == .class || (env.scope.kind == .module && env.locals != env.globals)) = false) byRfl) : wpAny M A (storeName env name v) Q E s := by
  rw [storeName_local hl hp]; exact fun Γ p _ => wp_nsSet_cls M Γ _ p s hn name v hc _ h
theorem stLC' {n : Str} {v : Value} {Q : Unit → Shared → Prop} (x : InCallC s₀ env.locals m env.cells cm s) {c : Value} (y : ClsAt s.heap env.locals c) (hk : env.scope.kind = .function) (hl : env.kindOf n = some .local)
    (h : ∀ s', InCallC s₀ env.locals (fun y => if y = n then some v else m y) env.cells cm s' → ClsAt s'.heap env.locals c → Q () s') : wpAny M A (storeName env n v) Q E s := by
  refine wpAny_storeName_cls hl x.toInCall.ns y (fun h' hn' hs' hy => h _ ⟨⟨?_, hn', fun b o e => ?_, x.toInCall.fresh⟩, fun k c hc => ?_, x.apart, x.above⟩ hy) (by rw [hk]; rfl)
  · refine x2a1 (x.toInCall.same) fun h₁ tk e_0 => ?_; subst e_0
    exact ⟨h', _, rfl⟩
  · exact hs'.extBut b o (Nat.ne_of_lt (Nat.lt_of_lt_of_le (Heap.lt_size e) x.toInCall.fresh)) (x.toInCall.keep b o e)
  · exact (x.cell k c hc).sameBut hs' (Nat.ne_of_gt (x.above k c (mem_of_lookup hc)))
theorem bindParams' {c : Value} (f : Str × Value → PUnit → Sem (ForInStep PUnit)) (hf : ∀ n v u, f (n, v) u = (do storeName env n v; pure (.yield ⟨⟩))) (hk : env.scope.kind = .function) :
    ∀ (binds : List (Str × Value)) (m cm : Str → Option Value) (s : Shared) (Q : PUnit → Shared → Prop), InCallC s₀ env.locals m env.cells cm s → ClsAt s.heap env.locals c →
      (∀ x ∈ binds, env.kindOf x.1 = some .local ∨ (env.kindOf x.1 = some .cell ∧ (env.cells.lookup x.1).isSome = true)) →
      (∀ s', InCallC s₀ env.locals (bindL env.kindOf binds m) env.cells (bindC env.kindOf binds cm) s' → ClsAt s'.heap env.locals c → Q ⟨⟩ s') → wpAny M A (forIn binds ⟨⟩ f) Q E s
  | [], m, cm, s, Q, x, y, _, h => by rw [List.forIn_nil]; exact wpAny_pure (h s x y)
  | (n, v) :: r, m, cm, s, Q, x, y, hkind, h => by
    rw [List.forIn_cons, hf]
    have hr : ∀ y ∈ r, env.kindOf y.1 = some .local ∨ (env.kindOf y.1 = some .cell ∧ (env.cells.lookup y.1).isSome = true) := fun y hy => hkind y (List.mem_cons_of_mem _ hy)
    rcases hkind (n, v) List.mem_cons_self with hl | ⟨hl, hc⟩
    · refine wpAny_bind (wpAny_bind (stLC' x y hk hl fun s' x' y' => wpAny_pure (bindParams' f hf hk r _ _ s' Q x' y' hr fun s'' x'' y'' => h s'' ?_ y'')))
      unfold bindL bindC; rw [if_pos hl, if_pos hl]; exact x''
    · refine x1a1 (Option.isSome_iff_exists.mp hc) fun d hd => ?_
      have hnl : ¬ env.kindOf n = some .local := by rw [hl]; decide
      have hLd := x.above n d (mem_of_lookup hd)
      refine wpAny_bind (wpAny_bind (wpAny_storeName_cell hk hl hd (x.cell n d hd) fun h' hc' hs' => wpAny_pure (bindParams' f hf hk r _ (fun y => if y = n then some v else cm y) _ Q
        ⟨⟨?_, x.toInCall.ns.sameBut hs' (Nat.ne_of_lt hLd), fun b o e => ?_, x.toInCall.fresh⟩, fun k c' hk' => ?_, x.apart, x.above⟩ (y.sameBut hs' (Nat.ne_of_lt hLd)) hr fun s'' x'' y'' => h s'' ?_ y'')))
      · refine x2a1 (x.toInCall.same) fun h₁ tk e_0 => ?_; subst e_0
        exact ⟨h', _, rfl⟩
      · exact hs'.extBut b o (Nat.ne_of_lt (Nat.lt_trans (Nat.lt_of_lt_of_le (Heap.lt_size e) x.toInCall.fresh) hLd)) (x.toInCall.keep b o e)
      · by_cases hkn : k = n
        · subst hkn
          rw [hd] at hk'; (have hk' := Option.some.inj hk'; subst hk')
          simpa using hc'
        · have hne : c' ≠ d := fun e => hkn (name_of_addr x.apart (mem_of_lookup hk') (e ▸ mem_of_lookup hd))
          simpa [hkn] using (x.cell k c' hk').sameBut hs' hne
      · unfold bindL bindC; rw [if_neg hnl, if_neg hnl]; exact x''
theorem newFunctionEnv_cls {scope : Scope} {globals : Addr} {binds : List (Str × Value)} {qual : Str} {func : Option Addr} {code : Value} {builtins : Addr} {Q : Env → Shared → Prop}
    (hk : scope.kind = .function)
    (hkind : ∀ x ∈ binds, scope.names.lookup x.1 = some .local ∨ (scope.names.lookup x.1 = some .cell ∧ ((cellsFrom (s.heap.objs.size + 1) scope.names []).lookup x.1).isSome = true))
    (hQ : ∀ env, env = newEnv scope s.heap.objs.size globals (cellsFrom (s.heap.objs.size + 1) scope.names []) qual func code none builtins →
      ∀ s', InCallC s env.locals (bindL env.kindOf binds fun _ => none) env.cells (bindC env.kindOf binds fun _ => none) s' → ClsAt s'.heap env.locals (.type "frame") → Q env s') :
    wpAny M A (newFunctionEnv scope globals [] binds qual func code none builtins) Q E s := by
  simp only [newFunctionEnv, Option.isSome_none, Bool.false_eq_true, if_false]
  refine wpAny_bind (wpAny_alloc ?_)
  refine wpAny_bind (wpAny_layCells _ (fun name kind cells => by cases hkc : kind == NameKind.cell <;> simp [hkc]) _ _ _ _ ?_)
  have ok := cellsFrom_ok scope.names (s.heap.push { cls := .type "frame", data := .dict #[] }) (s.heap.objs.size + 1) [] ⟨fun _ _ hm => (nomatch hm), List.Pairwise.nil⟩ (by rw [Heap.size_push]; exact Nat.le_refl _)
  rw [Heap.size_push] at ok
  rw [show ({ s with heap := s.heap.push { cls := .type "frame", data := .dict #[] } } : Shared).heap.objs.size = s.heap.objs.size + 1 from Heap.size_push ..]
  refine wpAny_bind (bindParams' (s₀ := s) (env := newEnv scope s.heap.objs.size globals (cellsFrom (s.heap.objs.size + 1) scope.names []) qual func code none builtins)
    _ (fun _ _ _ => rfl) hk binds (fun _ => none) (fun _ => none) _ _
    ⟨⟨⟨_, _, rfl⟩, (Heap.Ns.new s.heap (.type "frame")).keeps (pushCells_keeps _ _), fun b o e => pushCells_keeps _ _ b o (Heap.get?_push_of_some _ e), Nat.le_refl _⟩,
      fun n c hc => (ok.empty n c (mem_of_lookup hc)).1, ok.apart, fun n c hm => (ok.empty n c hm).2⟩
    (ClsAt.keeps ⟨_, Heap.get?_push_size _ rfl, rfl⟩ (pushCells_keeps _ _)) hkind fun s' x y => wpAny_pure (hQ _ rfl s' x y))
end
end Mine
namespace Mine
open PySem PySem.W PyProof.Rows
variable {W : World}
noncomputable abbrev Tx := Tok → List Nat
class Lo where
  lo : Addr
variable [Lo]
noncomputable def keepS (b : Addr) (o : Obj) (sl : Array (Option Value)) : Array (Option Value) := if o.cls = .type "frame" ∧ Lo.lo ≤ b then sl else o.slots
theorem keepS_re {h : Heap} {b : Addr} {o : Obj} (e : h.get? b = some o) : h.get? b = some { o with slots := keepS b o o.slots } := by
  rw [e]; congr 1; unfold keepS; cases o; simp
theorem keepS_tr {h : Heap} {b : Addr} {o : Obj} {sl sl' : Array (Option Value)} (e : h.get? b = some { o with slots := keepS b { o with slots := keepS b o sl } sl' }) : h.get? b = some { o with slots := keepS b o sl' } := by
  rw [e]; congr 2; unfold keepS; dsimp only; split <;> rfl
theorem keepS_ne {b : Addr} {o : Obj} {sl : Array (Option Value)} (h : o.cls ≠ .type "frame") : keepS b o sl = o.slots := if_neg fun q => h q.1
theorem keepS_lt {b : Addr} {o : Obj} {sl : Array (Option Value)} (h : b < Lo.lo) : keepS b o sl = o.slots := if_neg fun q => Nat.lt_irrefl _ (Nat.lt_of_lt_of_le h q.2)
noncomputable def Ext (h h' : Heap) : Prop := h.objs.size ≤ h'.objs.size ∧ ∀ b o, h.get? b = some o → ∃ sl, h'.get? b = some { o with slots := keepS b o sl }
theorem Ext.refl (h : Heap) : Ext h h := ⟨Nat.le_refl _, fun _ o e => ⟨o.slots, keepS_re e⟩⟩
theorem Ext.trans {h₁ h₂ h₃ : Heap} (x : Ext h₁ h₂) (y : Ext h₂ h₃) : Ext h₁ h₃ :=
  ⟨Nat.le_trans x.1 y.1, fun b o e => let ⟨_, e₁⟩ := x.2 b o e; x1a1 (y.2 b _ e₁) fun sl e₂ => ⟨sl, keepS_tr e₂⟩⟩
theorem Ext.push {h h' : Heap} (x : Ext h h') (o : Obj) : Ext h (h'.push o) :=
  x.trans ⟨by rw [Heap.size_push]; lia, fun _ o' e => ⟨o'.slots, keepS_re (Heap.get?_push_of_some o e)⟩⟩
theorem Ext.keeps {h h' : Heap} (hs : h.objs.size ≤ h'.objs.size) (x : ∀ b o, h.get? b = some o → h'.get? b = some o) : Ext h h' :=
  ⟨hs, fun b o e => ⟨o.slots, keepS_re (x b o e)⟩⟩
structure Le (T : Tx) (s : Shared) (T' : Tx) (s' : Shared) : Prop where
  ext : Ext s.heap s'.heap
  toks : s.toks ≤ s'.toks
  tx : ∀ t, t < s.toks → T' t = T t
  gens : s'.gens = s.gens
  os : s'.os = s.os
theorem Le.refl (T : Tx) (s : Shared) : Le T s T s := ⟨.refl _, Nat.le_refl _, fun _ _ => rfl, rfl, rfl⟩
theorem Le.trans {T₁ T₂ T₃ : Tx} {s₁ s₂ s₃ : Shared} (x : Le T₁ s₁ T₂ s₂) (y : Le T₂ s₂ T₃ s₃) : Le T₁ s₁ T₃ s₃ :=
  ⟨x.ext.trans y.ext, Nat.le_trans x.toks y.toks, fun t ht => (y.tx t (Nat.lt_of_lt_of_le ht x.toks)).trans (x.tx t ht), y.gens.trans x.gens, y.os.trans x.os⟩
theorem Le.mk' {T : Tx} {s : Shared} {h' : Heap} {k : Nat} (he : Ext s.heap h') (hk : s.toks ≤ k) : Le T s T { s with heap := h', toks := k } :=
  ⟨he, hk, fun _ _ => rfl, rfl, rfl⟩
theorem Le.tok {T : Tx} {s : Shared} {k : Nat} (hk : s.toks ≤ k) : Le T s T { s with toks := k } := Le.mk' (.refl _) hk
omit [Lo] in
noncomputable def Tx.set (T : Tx) (t : Tok) (l : List Nat) : Tx := fun u => if u = t then l else T u
theorem Le.set {T : Tx} {s : Shared} {l : List Nat} {k : Nat} (hk : s.toks ≤ k) : Le T s (T.set s.toks l) { s with toks := k } :=
  ⟨.refl _, hk, fun t ht => by simp [Tx.set, Nat.ne_of_lt ht], rfl, rfl⟩
omit [Lo] in
inductive AV where
  | none
  | bool (b : Bool)
  | int (i : Int)
  | str (l : List Nat)
  | txt (l : List Nat)
  | bytes (l : List Nat)
  | tup (l : List AV)
  | list (l : List AV)
  | dict (l : List (List Nat × AV))
  | barr (l : List Nat)
  | exc (i j : Int) (r : List Nat)
  | hid
omit [Lo] in
noncomputable abbrev AV.Open (x : AV) : Prop := (∀ l, x ≠ .barr l) ∧ x ≠ .hid
omit [Lo] in
noncomputable def TupAt (h : Heap) (a : Addr) : Prop := ∃ o, h.get? a = some o ∧ o.cls = .type "tuple" ∧ o.dict = Option.none ∧ ∃ x y, o.data = .seq #[x, y] ∧ o.slots = #[]
omit [Lo] in
structure StrAt (T : Tx) (n : Nat) (v : Value) (l : List Nat) : Prop where
  is : ∃ s t, v = .str s t ∧ s.cps.toList = l ∧ T t = l ∧ 0 < t ∧ t < n
omit [Lo] in
noncomputable def strOf : Value → Str
  | .str x _ => x
  | _ => ⟨#[]⟩
omit [Lo] in
noncomputable def KeysOk (W : World) (es : Array DictEntry) : Prop := (∀ e ∈ es, ∃ x t, e.key = .str x t ∧ e.hash = hashStr W x) ∧ (es.toList.map fun e => strOf e.key).Nodup
omit [Lo] in
noncomputable def IsDictAt (W : World) (h : Heap) (a : Addr) (es : Array DictEntry) : Prop := (∃ o, h.get? a = some o ∧ o.cls = .type "dict" ∧ o.dict = none ∧ o.slots = #[] ∧ ∃ ep, o.data = .dict es ep) ∧ ((a == sysModules) = false ∧ KeysOk W es)
omit [Lo] in
noncomputable def IsLst (h : Heap) (a : Addr) (items : Array Value) : Prop := ∃ o, h.get? a = some o ∧ o.cls = .type "list" ∧ o.dict = none ∧ o.slots = #[] ∧ ∃ n, o.data = .seq items n
theorem IsLst.is {h : Heap} {a : Addr} {items : Array Value} (x : IsLst h a items) : h.IsList a items := let ⟨o, ho, hc, _, _, r⟩ := x; ⟨o, ho, hc, r⟩
theorem IsLst.rec {h : Heap} {a : Addr} {items : Array Value} (x : IsLst h a items) : ∃ n, h.get? a = some { cls := .type "list", dict := none, data := .seq items n, slots := #[] } := by
  refine x1a5 x fun t_0 ho hc hd hs t_1 => ?_; (try clear x); obtain ⟨c, d, dt, sl⟩ := t_0; refine x1a1 t_1 fun n hdt => ?_; (try clear t_1)
  dsimp only at hc hd hs hdt
  subst hc hd hs hdt
  exact ⟨n, ho⟩
omit [Lo] in
noncomputable def IsBarr (h : Heap) (a : Addr) (b : Array UInt8) : Prop := ∃ o, h.get? a = some o ∧ o.cls = .type "bytearray" ∧ o.dict = none ∧ o.data = .bytearray b 0
omit [Lo] in
noncomputable def bnats (b : Array UInt8) : List Nat := b.toList.map UInt8.toNat
omit [Lo] in
structure ExcF (T : Tx) (n : Nat) (vs : Array Value) (i j : Int) (r : List Nat) : Prop where
  size : vs.size = 11
  start : ∃ t, vs[8]? = some (.int i t)
  stop : ∃ t, vs[9]? = some (.int j t)
  reason : ∃ v, vs[10]? = some v ∧ StrAt T n v r
omit [Lo] in
inductive Rep (W : World) (B : Addr → Prop) (T : Tx) (n : Nat) (h : Heap) : Value → AV → Prop where
  | none : Rep W B T n h .none .none
  | bool (b : Bool) : Rep W B T n h (.bool b) (.bool b)
  | int (i : Int) (t : Tok) : Rep W B T n h (.int i t) (.int i)
  | str {v : Value} {l : List Nat} : StrAt T n v l → Rep W B T n h v (.str l)
  | txt (x : Str) (t : Tok) : Rep W B T n h (.str x t) (.txt x.cps.toList)
  | bytes (b : Array UInt8) (t : Tok) : Rep W B T n h (.bytes b t) (.bytes (bnats b))
  | tup {a : Addr} {items : Array Value} {l : List AV} : ¬ B a → h.IsTuple a items → items.size = l.length →
      (∀ (i : Nat) (v : Value) (x : AV), items[i]? = some v → l[i]? = some x → Rep W B T n h v x) → Rep W B T n h (.ref a) (.tup l)
  | list {a : Addr} {items : Array Value} {l : List AV} : ¬ B a → IsLst h a items → items.size = l.length →
      (∀ (i : Nat) (v : Value) (x : AV), items[i]? = some v → l[i]? = some x → Rep W B T n h v x) → Rep W B T n h (.ref a) (.list l)
  | dict {a : Addr} {es : Array DictEntry} {l : List (List Nat × AV)} : ¬ B a → IsDictAt W h a es → es.size = l.length →
      (∀ (i : Nat) (e : DictEntry) (x : List Nat × AV), es[i]? = some e → l[i]? = some x → StrAt T n e.key x.1) →
      (∀ (i : Nat) (e : DictEntry) (x : List Nat × AV), es[i]? = some e → l[i]? = some x → Rep W B T n h e.val x.2) → Rep W B T n h (.ref a) (.dict l)
  | exc {a : Addr} {o : Obj} {vs : Array Value} {i j : Int} {r : List Nat} : ¬ B a → h.get? a = some o → o.cls = .type "UnicodeDecodeError" → o.dict = none → o.data = .fields vs → ExcF T n vs i j r → Rep W B T n h (.ref a) (.exc i j r)
theorem StrAt.le {T T' : Tx} {n n' : Nat} {v : Value} {l : List Nat} (x : StrAt T n v l) (hn : n ≤ n') (ht : ∀ t, t < n → T' t = T t) : StrAt T' n' v l := by
  refine x2a5 (x.is) fun s t e_0 h1 h2 h3 h4 => ?_; subst e_0
  exact ⟨_, _, rfl, h1, (ht t h4).trans h2, h3, Nat.lt_of_lt_of_le h4 hn⟩
theorem isList_ext {h h' : Heap} {a : Addr} {items : Array Value} (x : IsLst h a items) (e : Ext h h') : IsLst h' a items := by
  refine x1a5 x fun o ho hc hn hsl t_0 => ?_; (try clear x); refine x1a1 t_0 fun n hd => ?_; (try clear t_0)
  refine x1a1 (e.2 a o ho) fun sl ho' => ?_
  exact ⟨_, ho', hc, hn, (keepS_ne (by rw [hc]; decide)).trans hsl, n, hd⟩
theorem isTuple_ext {h h' : Heap} {a : Addr} {items : Array Value} (x : h.IsTuple a items) (e : Ext h h') : h'.IsTuple a items := by
  obtain ⟨o, ho, hc, n, hd⟩ := x
  obtain ⟨sl, ho'⟩ := e.2 a o ho
  exact ⟨_, ho', hc, n, hd⟩
theorem isDict_ext {h h' : Heap} {a : Addr} {es : Array DictEntry} (x : IsDictAt W h a es) (e : Ext h h') : IsDictAt W h' a es := by
  refine x0a2 x fun t_0 ky => ?_; (try clear x); refine x1a5 t_0 fun o ho hc n hsl hd => ?_; (try clear t_0)
  refine x1a1 (e.2 a o ho) fun sl ho' => ?_
  exact ⟨⟨_, ho', hc, n, (keepS_ne (by rw [hc]; decide)).trans hsl, hd⟩, ky⟩
theorem isBarr_ext {h h' : Heap} {a : Addr} {b : Array UInt8} (x : IsBarr h a b) (e : Ext h h') : IsBarr h' a b := by
  refine x1a4 x fun o ho hc n hd => ?_; (try clear x)
  refine x1a1 (e.2 a o ho) fun sl ho' => ?_
  exact ⟨_, ho', hc, n, hd⟩
theorem ns_ext {h h' : Heap} {a : Addr} {m : Str → Option Value} (x : h.Ns a m) (e : Ext h h') : h'.Ns a m := by
  refine x3a4 x fun o es ep ho hd hk hm => ?_; (try clear x)
  refine x1a1 (e.2 a o ho) fun sl ho' => ?_
  exact ⟨_, es, ep, ho', hd, hk, hm⟩
theorem isCell_ext {h h' : Heap} {a : Addr} {v : Option Value} (x : h.IsCell a v) (e : Ext h h') : h'.IsCell a v := by
  refine x1a2 x fun o ho hd => ?_; (try clear x)
  refine x1a1 (e.2 a o ho) fun sl ho' => ?_
  exact ⟨_, ho', hd⟩
theorem codeRec_ext {h h' : Heap} {c : Value} {q : Str} (x : h.CodeRec c q) (e : Ext h h') : h'.CodeRec c q := by
  refine x4a4 x fun c o vs t e_0 ho hd hv => ?_; (try clear x); subst e_0
  refine x1a1 (e.2 c o ho) fun sl ho' => ?_
  exact ⟨c, _, vs, t, rfl, ho', hd, hv⟩
theorem Rep.mono {B B' : Addr → Prop} {T T' : Tx} {n n' : Nat} {h h' : Heap} {v : Value} {x : AV} (r : Rep W B T n h v x)
    (hn : n ≤ n') (ht : ∀ t, t < n → T' t = T t) (he : Ext h h') (hB : ∀ a, B' a → B a ∨ h.get? a = Option.none) : Rep W B' T' n' h' v x := by
  induction r with
  | none => exact .none
  | bool b => exact .bool b
  | int i t => exact .int i t
  | str s => exact .str (s.le hn ht)
  | bytes b t => exact .bytes b t
  | txt x t => exact .txt x t
  | tup hb hl hs _ ih =>
    refine .tup (fun q => ?_) (isTuple_ext hl he) hs ih
    rcases hB _ q with q | q
    · exact hb q
    · refine x1a2 hl fun o ho _ => ?_; (try clear hl); rw [q] at ho; exact ns ho
  | list hb hl hs _ ih =>
    refine .list (fun q => ?_) (isList_ext hl he) hs ih
    rcases hB _ q with q | q
    · exact hb q
    · refine x1a2 hl fun o ho _ => ?_; (try clear hl); rw [q] at ho; exact ns ho
  | dict hb hl hs hk _ ih =>
    refine .dict (fun q => ?_) (isDict_ext hl he) hs (fun i e x h1 h2 => (hk i e x h1 h2).le hn ht) ih
    rcases hB _ q with q | q
    · exact hb q
    · refine x0a2 hl fun t_0 _ => ?_; (try clear hl); refine x1a2 t_0 fun o ho _ => ?_; (try clear t_0); rw [q] at ho; exact ns ho
  | exc hb ho hc hdi hd hf =>
    refine x1a1 (he.2 _ _ ho) fun sl ho' => ?_
    refine .exc (fun q => ?_) ho' hc hdi hd ⟨hf.size, hf.start, hf.stop, x1a2 hf.reason fun v h1 h2 => ⟨v, h1, h2.le hn ht⟩⟩
    rcases hB _ q with q | q
    · exact hb q
    · rw [q] at ho; exact ns ho
theorem Rep.le {B : Addr → Prop} {T T' : Tx} {s s' : Shared} {v : Value} {x : AV} (r : Rep W B T s.toks s.heap v x) (l : Le T s T' s') : Rep W B T' s'.toks s'.heap v x :=
  r.mono l.toks l.tx l.ext fun _ h => .inl h
theorem Rep.sub {B B' : Addr → Prop} {T : Tx} {n : Nat} {h : Heap} {v : Value} {x : AV} (r : Rep W B T n h v x) (hB : ∀ a, B' a → B a) : Rep W B' T n h v x :=
  r.mono (Nat.le_refl _) (fun _ _ => rfl) (.refl _) fun a q => .inl (hB a q)
theorem Rep.but {B : Addr → Prop} {T : Tx} {n : Nat} {h h' : Heap} {v : Value} {x : AV} (r : Rep W B T n h v x)
    (he : ∀ b o, ¬ B b → h.get? b = some o → h'.get? b = some o) : Rep W B T n h' v x := by
  induction r with
  | none => exact .none
  | bool b => exact .bool b
  | int i t => exact .int i t
  | str s => exact .str s
  | bytes b t => exact .bytes b t
  | txt x t => exact .txt x t
  | tup hb hl hs _ ih => refine x1a2 hl fun o ho r => ?_; (try clear hl); exact .tup hb ⟨o, he _ _ hb ho, r⟩ hs ih
  | list hb hl hs _ ih => refine x1a2 hl fun o ho r => ?_; (try clear hl); exact .list hb ⟨o, he _ _ hb ho, r⟩ hs ih
  | dict hb hl hs hk _ ih => refine x0a2 hl fun t_0 ky => ?_; (try clear hl); refine x1a2 t_0 fun o ho r => ?_; (try clear t_0); exact .dict hb ⟨⟨o, he _ _ hb ho, r⟩, ky⟩ hs hk ih
  | exc hb ho hc hdi hd hf => exact .exc hb (he _ _ hb ho) hc hdi hd hf
omit [Lo] in
inductive OwnRep (W : World) (B : Addr → Prop) (T : Tx) (n : Nat) (h : Heap) (a : Addr) : AV → Prop where
  | list {items : Array Value} {l : List AV} : IsLst h a items → items.size = l.length →
      (∀ (i : Nat) (v : Value) (x : AV), items[i]? = some v → l[i]? = some x → Rep W B T n h v x) → OwnRep W B T n h a (.list l)
  | dict {es : Array DictEntry} {l : List (List Nat × AV)} : IsDictAt W h a es → es.size = l.length →
      (∀ (i : Nat) (e : DictEntry) (x : List Nat × AV), es[i]? = some e → l[i]? = some x → StrAt T n e.key x.1) →
      (∀ (i : Nat) (e : DictEntry) (x : List Nat × AV), es[i]? = some e → l[i]? = some x → Rep W B T n h e.val x.2) → OwnRep W B T n h a (.dict l)
  | barr (b : Array UInt8) : IsBarr h a b → OwnRep W B T n h a (.barr (bnats b))
  | hid : TupAt h a → OwnRep W B T n h a .hid
theorem OwnRep.mono {B B' : Addr → Prop} {T T' : Tx} {n n' : Nat} {h h' : Heap} {a : Addr} {x : AV} (r : OwnRep W B T n h a x)
    (hn : n ≤ n') (ht : ∀ t, t < n → T' t = T t) (he : Ext h h') (hB : ∀ a, B' a → B a ∨ h.get? a = Option.none) : OwnRep W B' T' n' h' a x := by
  cases r with
  | list hl hs hi => exact .list (isList_ext hl he) hs fun i v x h1 h2 => (hi i v x h1 h2).mono hn ht he hB
  | dict hl hs hk hi => exact .dict (isDict_ext hl he) hs (fun i e x h1 h2 => (hk i e x h1 h2).le hn ht) fun i v x h1 h2 => (hi i v x h1 h2).mono hn ht he hB
  | barr b hb => exact .barr b (isBarr_ext hb he)
  | hid hb => refine x1a4 hb fun o ho hc hn t_0 => ?_; (try clear hb); refine x2a2 t_0 fun x y hd hs => ?_; (try clear t_0); refine x1a1 (he.2 a o ho) fun sl ho' => ?_; exact .hid ⟨_, ho', hc, hn, x, y, hd, (keepS_ne (by rw [hc]; decide)).trans hs⟩
theorem OwnRep.but {B : Addr → Prop} {T : Tx} {n : Nat} {h h' : Heap} {a : Addr} {x : AV} (r : OwnRep W B T n h a x)
    (he : ∀ b o, ¬ B b → h.get? b = some o → h'.get? b = some o) (ha : ∀ o, h.get? a = some o → h'.get? a = some o) : OwnRep W B T n h' a x := by
  cases r with
  | list hl hs hi => refine x1a2 hl fun o ho r => ?_; (try clear hl); exact .list ⟨o, ha _ ho, r⟩ hs fun i v x h1 h2 => (hi i v x h1 h2).but he
  | dict hl hs hk hi => refine x0a2 hl fun t_0 ky => ?_; (try clear hl); refine x1a2 t_0 fun o ho r => ?_; (try clear t_0); exact .dict ⟨⟨o, ha _ ho, r⟩, ky⟩ hs hk fun i v x h1 h2 => (hi i v x h1 h2).but he
  | barr b hb => refine x1a2 hb fun o ho r => ?_; (try clear hb); exact .barr b ⟨o, ha _ ho, r⟩
  | hid hb => refine x1a2 hb fun o ho r => ?_; (try clear hb); exact .hid ⟨o, ha _ ho, r⟩
theorem OwnRep.there {B : Addr → Prop} {T : Tx} {n : Nat} {h : Heap} {a : Addr} {x : AV} (r : OwnRep W B T n h a x) : ∃ o, h.get? a = some o := by
  cases r with
  | list hl => refine x1a2 hl fun o ho _ => ?_; (try clear hl); exact ⟨o, ho⟩
  | dict hl => refine x0a2 hl fun t_0 _ => ?_; (try clear hl); refine x1a2 t_0 fun o ho _ => ?_; (try clear t_0); exact ⟨o, ho⟩
  | barr b hb => refine x1a2 hb fun o ho _ => ?_; (try clear hb); exact ⟨o, ho⟩
  | hid hb => refine x1a2 hb fun o ho _ => ?_; (try clear hb); exact ⟨o, ho⟩
section
variable {B : Addr → Prop} {T : Tx} {n : Nat} {h : Heap}
theorem Rep.cInt {i : Int} {motive : (v : Value) → Rep W B T n h v (.int i) → Prop} (int : ∀ t, motive (.int i t) (.int i t)) {v : Value} (r : Rep W B T n h v (.int i)) : motive v r := by
  cases r; exact int _
theorem Rep.cBool {b : Bool} {motive : (v : Value) → Rep W B T n h v (.bool b) → Prop} (bool : motive (.bool b) (.bool b)) {v : Value} (r : Rep W B T n h v (.bool b)) : motive v r := by
  cases r; exact bool
theorem Rep.cNone {motive : (v : Value) → Rep W B T n h v .none → Prop} (none : motive .none .none) {v : Value} (r : Rep W B T n h v .none) : motive v r := by
  cases r; exact none
theorem Rep.cBytes {motive : (l : List Nat) → (v : Value) → Rep W B T n h v (.bytes l) → Prop} (bytes : ∀ b t, motive (bnats b) (.bytes b t) (.bytes b t)) {l : List Nat} {v : Value} (r : Rep W B T n h v (.bytes l)) : motive l v r := by
  cases r; exact bytes _ _
theorem Rep.cList {l : List AV} {motive : (v : Value) → Rep W B T n h v (.list l) → Prop} (list : ∀ {a : Addr} {items : Array Value} {_u : Unit} (hb : ¬ B a) (hl : IsLst h a items) (hs : items.size = l.length)
      (hi : ∀ (i : Nat) (v : Value) (x : AV), items[i]? = some v → l[i]? = some x → Rep W B T n h v x), motive (.ref a) (.list hb hl hs hi)) {v : Value} (r : Rep W B T n h v (.list l)) : motive v r := by
  cases r with
  | list hb hl hs hi => exact list (_u := ()) hb hl hs hi
theorem Rep.cTup {l : List AV} {motive : (v : Value) → Rep W B T n h v (.tup l) → Prop} (tup : ∀ {a : Addr} {items : Array Value} {_u : Unit} (hb : ¬ B a) (hl : h.IsTuple a items) (hs : items.size = l.length)
      (hi : ∀ (i : Nat) (v : Value) (x : AV), items[i]? = some v → l[i]? = some x → Rep W B T n h v x), motive (.ref a) (.tup hb hl hs hi)) {v : Value} (r : Rep W B T n h v (.tup l)) : motive v r := by
  cases r with
  | tup hb hl hs hi => exact tup (_u := ()) hb hl hs hi
theorem Rep.cDict {l : List (List Nat × AV)} {motive : (v : Value) → Rep W B T n h v (.dict l) → Prop} (dict : ∀ {a : Addr} {es : Array DictEntry} {_u : Unit} (hb : ¬ B a) (hl : IsDictAt W h a es) (hs : es.size = l.length)
      (hk : ∀ (i : Nat) (e : DictEntry) (x : List Nat × AV), es[i]? = some e → l[i]? = some x → StrAt T n e.key x.1)
      (hi : ∀ (i : Nat) (e : DictEntry) (x : List Nat × AV), es[i]? = some e → l[i]? = some x → Rep W B T n h e.val x.2), motive (.ref a) (.dict hb hl hs hk hi)) {v : Value} (r : Rep W B T n h v (.dict l)) : motive v r := by
  cases r with
  | dict hb hl hs hk hi => exact dict (_u := ()) hb hl hs hk hi
theorem Rep.cExc {i j : Int} {r : List Nat} {motive : (v : Value) → Rep W B T n h v (.exc i j r) → Prop} (exc : ∀ {a : Addr} {o : Obj} {vs : Array Value} (hb : ¬ B a) (ho : h.get? a = some o) (hc : o.cls = .type "UnicodeDecodeError") (hd : o.dict = Option.none) (hdat : o.data = .fields vs) (f : ExcF T n vs i j r),
      motive (.ref a) (.exc hb ho hc hd hdat f)) {v : Value} (q : Rep W B T n h v (.exc i j r)) : motive v q := by
  cases q with
  | exc a b c d e f => exact exc a b c d e f
theorem OwnRep.cBarr {a : Addr} {motive : (l : List Nat) → OwnRep W B T n h a (.barr l) → Prop} (barr : ∀ b (hb : IsBarr h a b), motive (bnats b) (.barr b hb)) {l : List Nat} (r : OwnRep W B T n h a (.barr l)) : motive l r := by
  cases r with
  | barr b hb => exact barr b hb
end
omit [Lo] in
set_option genInjectivity false in
structure Pg where
  mg : Str → Option Value
  mb : Str → Option Value
  mc : Str → Option Value
  fn : Str → Option (Addr × FuncData)
  more : List (Addr × Obj)
  nb : Nat
structure Pg.In (G : Pg) (h : Heap) : Prop where
  g : h.Ns mainGlobals G.mg
  b : h.Ns builtinsNs G.mb
  st : h.Ns cStatics G.mc
  fn : ∀ x a fd, G.fn x = some (a, fd) → G.mg x = some (.ref a) ∧ (∃ o, h.get? a = some o ∧ o.data = .func fd) ∧ h.CodeRec fd.code fd.qualname
  lim : G.mc "sys.recursionlimit" = none
  booked : G.mc sharingNotToldKey = none
  builtins : ∀ x : Str, x ≠ "__name__" → G.mb x = bootBuiltins x
  big : 4 ≤ G.nb
  lo : Lo.lo ≤ G.nb
  more : ∀ p ∈ G.more, p.1 < G.nb ∧ ∃ sl, h.get? p.1 = some { p.2 with slots := keepS p.1 p.2 sl }
theorem Pg.In.ext {G : Pg} {h h' : Heap} (x : G.In h) (e : Ext h h') : G.In h' where
  g := ns_ext x.g e
  b := ns_ext x.b e
  st := ns_ext x.st e
  fn := fun n a fd hf => by
    refine x0a3 (x.fn n a fd hf) fun h1 t_0 h3 => ?_; refine x1a2 t_0 fun o ho hd => ?_; (try clear t_0)
    refine x1a1 (e.2 a o ho) fun sl ho' => ?_
    exact ⟨h1, ⟨_, ho', hd⟩, codeRec_ext h3 e⟩
  lim := x.lim
  booked := x.booked
  builtins := x.builtins
  big := x.big
  lo := x.lo
  more := fun p hp => x0a2 (x.more p hp) fun hlt t_0 => x1a1 t_0 fun sl h1 => x1a1 (e.2 _ _ h1) fun sl' h2 => ⟨hlt, sl', keepS_tr h2⟩
theorem Pg.In.noLimit {G : Pg} {h : Heap} (x : G.In h) : h.NoLimit := ⟨_, x.st, x.lim⟩
omit [Lo] in
structure Cell where
  own : Option Addr
  val : AV
omit [Lo] in
noncomputable abbrev Sto := List (Str × Cell)
omit [Lo] in
noncomputable def Sto.get (σ : Sto) (x : Str) : Option Cell := List.lookup x σ
omit [Lo] in
noncomputable abbrev Sto.upd (σ : Sto) (x : Str) (v : AV) : Sto := (x, ⟨none, v⟩) :: σ
omit [Lo] in
noncomputable abbrev Sto.updO (σ : Sto) (x : Str) (a : Addr) (v : AV) : Sto := (x, ⟨some a, v⟩) :: σ
omit [Lo] in
noncomputable def Sto.owned (σ : Sto) (a : Addr) : Prop := ∃ x v, σ.get x = some ⟨some a, v⟩
theorem Sto.get_cons (σ : Sto) (x y : Str) (c : Cell) : Sto.get ((y, c) :: σ) x = if x = y then some c else σ.get x := by
  unfold Sto.get
  rw [List.lookup_cons]
  by_cases h : x = y
  · subst h; simp
  · rw [if_neg h, beq_false_of_ne h]
omit [Lo] in
set_option genInjectivity false in
structure Cx where
  G : Pg
  prog : Program
  w : World
  A : Around
  env : Env
  T0 : Tx
  s0 : Shared
  B0 : Addr → Prop
  fr : List Env
  k : Nat
  quiet : Bool
  inner : Bool
omit [Lo] in
noncomputable abbrev Cx.M (X : Cx) : Model := model X.prog X.w
omit [Lo] in
structure AOk (A : Around) (fr : List Env) (k : Nat) : Prop where
  depth : A.depth + k ≤ 900
  units : A.units + 20 * k ≤ 5000
  frames : A.frames = some fr
structure Cx.Ok (X : Cx) : Prop where
  a : AOk X.A X.fr X.k
  hh : X.quiet = true → X.A.handled = none
  kind : X.env.scope.kind = .function
  glob : X.env.globals = mainGlobals
  bu : X.env.builtins = builtinsNs
  pg : X.G.In X.s0.heap
  nb : X.G.nb ≤ X.s0.heap.objs.size
  hB : ∀ a, X.B0 a → X.G.nb ≤ a ∧ a < X.s0.heap.objs.size
  locals : X.s0.heap.objs.size ≤ X.env.locals
  cl : ∀ x a, X.env.cells.lookup x = some a → X.G.nb ≤ a
noncomputable def FrAt (h : Heap) (L : Addr) : Prop := ∃ o, h.get? L = some o ∧ o.cls = .type "frame" ∧ Lo.lo ≤ L ∧ ∃ es ep, o.data = .dict es ep
noncomputable def FrOk (h : Heap) : List Env → Prop
  | [] => True
  | env :: rest => env.scope.kind ≠ .module ∧ (∃ L, env.frame = some L ∧ FrAt h L) ∧ FrOk h rest
theorem FrOk.of {h h' : Heap} (k : ∀ b, FrAt h b → FrAt h' b) : ∀ {l : List Env}, FrOk h l → FrOk h' l
  | [], _ => trivial
  | _ :: _, ⟨h1, ⟨L, h2, h3⟩, h5⟩ => ⟨h1, ⟨L, h2, k L h3⟩, FrOk.of k h5⟩
theorem FrAt.ext {h h' : Heap} (e : Ext h h') {b : Addr} (x : FrAt h b) : FrAt h' b := x1a3 x fun o h1 h2 h3 => let ⟨_, h4⟩ := e.2 b o h1; ⟨_, h4, h2, h3⟩
theorem FrOk.ext {h h' : Heap} (e : Ext h h') {l : List Env} (x : FrOk h l) : FrOk h' l := x.of fun b => FrAt.ext e
omit [Lo] in
noncomputable def Cx.ban (X : Cx) (σ : Sto) (a : Addr) : Prop := X.B0 a ∨ a = X.env.locals ∨ (∃ x, X.env.cells.lookup x = some a) ∨ σ.owned a
omit [Lo] in
noncomputable def VarAt (env : Env) (h : Heap) (m : Str → Option Value) (x : Str) (v : Value) : Prop :=
  match env.kindOf x with
  | some .local => m x = some v
  | some .cell => ∃ a, env.cells.lookup x = some a ∧ h.IsCell a (some v)
  | some .free => ∃ a, env.cells.lookup x = some a ∧ h.IsCell a (some v)
  | _ => x = "__classdict__"
omit [Lo] in
noncomputable def CellRep (W : World) (B : Addr → Prop) (T : Tx) (n : Nat) (h : Heap) (v : Value) (c : Cell) : Prop :=
  match c.own with
  | none => Rep W B T n h v c.val
  | some a => v = .ref a ∧ OwnRep W B T n h a c.val
structure StB (B : Addr → Prop) (X : Cx) (σ : Sto) (T : Tx) (s : Shared) : Prop where
  ok : X.Ok
  le : Le X.T0 X.s0 T s
  pos : 0 < s.toks
  fro : FrOk s.heap X.fr
  vars : ∃ m, s.heap.Ns X.env.locals m ∧ ∀ x c, σ.get x = some c → ∃ v, VarAt X.env s.heap m x v ∧ CellRep X.w B T s.toks s.heap v c
  cells : ∀ x a, X.env.cells.lookup x = some a → (X.inner = false → X.env.kindOf x = some .cell → X.s0.heap.objs.size ≤ a) ∧ a ≠ X.env.locals ∧ ∃ v, s.heap.IsCell a v
  apart : ∀ x y a, X.env.cells.lookup x = some a → X.env.cells.lookup y = some a → x = y
  fresh : ∀ a, σ.owned a → X.s0.heap.objs.size ≤ a ∧ a ≠ X.env.locals ∧ ∀ x, X.env.cells.lookup x ≠ some a
  one : ∀ x y a v v', σ.get x = some ⟨some a, v⟩ → σ.get y = some ⟨some a, v'⟩ → x = y
noncomputable abbrev St (X : Cx) (σ : Sto) (T : Tx) (s : Shared) : Prop := StB (X.ban σ) X σ T s
theorem StB.pg {B : Addr → Prop} {X : Cx} {σ : Sto} {T : Tx} {s : Shared} (S : StB B X σ T s) : X.G.In s.heap := S.ok.pg.ext S.le.ext
theorem VarAt.to {env : Env} {h h' : Heap} {m m' : Str → Option Value} {x : Str} {v : Value} (r : VarAt env h m x v) (k : ∀ a, env.cells.lookup x = some a → h.IsCell a (some v) → h'.IsCell a (some v)) (hm : env.kindOf x = some .local → m x = some v → m' x = some v) : VarAt env h' m' x v := by
  unfold VarAt at *
  split at r
  · rename_i q; exact hm q r
  · exact r.elim fun a c => ⟨a, c.1, k a c.1 c.2⟩
  · exact r.elim fun a c => ⟨a, c.1, k a c.1 c.2⟩
  · exact r
theorem VarAt.turned {env : Env} {h h' : Heap} {m : Str → Option Value} {x : Str} {v : Value} {a : Addr} (r : VarAt env h m x v) (hs : Heap.SameBut a h h') (k : ∀ b, env.cells.lookup x = some b → b ≠ a) : VarAt env h' m x v :=
  r.to (fun b c1 c2 => c2.sameBut hs (k b c1)) fun _ h => h
theorem get_inv {σ : Sto} {x y : Str} {c d : Cell} (e : Sto.get ((y, c) :: σ) x = some d) : (x = y ∧ c = d) ∨ (x ≠ y ∧ σ.get x = some d) := by
  rw [Sto.get_cons] at e
  split at e
  · rename_i q; exact .inl ⟨q, Option.some.inj e⟩
  · rename_i q; exact .inr ⟨q, e⟩
theorem cell_own {a : Addr} {b : Addr} {x y : AV} (e : (⟨some a, x⟩ : Cell) = ⟨some b, y⟩) : a = b := Option.some.inj (congrArg Cell.own e)
theorem OwnRep.noFrame {B : Addr → Prop} {T : Tx} {n : Nat} {h : Heap} {a : Addr} {x : AV} (r : OwnRep W B T n h a x) {o : Obj} (e : h.get? a = some o) (hc : o.cls = .type "frame") : False := by
  have key : ∀ o2 : Obj, h.get? a = some o2 → o2.cls ≠ .type "frame" → False := fun o2 g q => q (Option.some.inj (g.symm.trans e) ▸ hc)
  cases r with
  | list hl => exact hl.elim fun o2 g => key o2 g.1 (by rw [g.2.1]; decide)
  | dict hl => exact hl.1.elim fun o2 g => key o2 g.1 (by rw [g.2.1]; decide)
  | barr b hl => exact hl.elim fun o2 g => key o2 g.1 (by rw [g.2.1]; decide)
  | hid hl => exact hl.elim fun o2 g => key o2 g.1 (by rw [g.2.1]; decide)
theorem VarAt.ext {env : Env} {h h' : Heap} {m : Str → Option Value} {x : Str} {v : Value} (r : VarAt env h m x v) (e : Ext h h') : VarAt env h' m x v := by
  unfold VarAt at *
  split at r
  · exact r
  · refine x1a2 r fun a h1 h2 => ?_; (try clear r); exact ⟨a, h1, isCell_ext h2 e⟩
  · refine x1a2 r fun a h1 h2 => ?_; (try clear r); exact ⟨a, h1, isCell_ext h2 e⟩
  · exact r
theorem CellRep.mono {B B' : Addr → Prop} {T T' : Tx} {n n' : Nat} {h h' : Heap} {v : Value} {c : Cell} (r : CellRep W B T n h v c)
    (hn : n ≤ n') (ht : ∀ t, t < n → T' t = T t) (he : Ext h h') (hB : ∀ a, B' a → B a ∨ h.get? a = none) : CellRep W B' T' n' h' v c := by
  obtain ⟨o, x⟩ := c
  cases o with
  | none => exact Rep.mono r hn ht he hB
  | some a => exact ⟨r.1, r.2.mono hn ht he hB⟩
theorem CellRep.but {B : Addr → Prop} {T : Tx} {n : Nat} {h h' : Heap} {v : Value} {c : Cell} (r : CellRep W B T n h v c)
    (he : ∀ b o, ¬ B b → h.get? b = some o → h'.get? b = some o) (ha : ∀ a o, c.own = some a → h.get? a = some o → h'.get? a = some o) : CellRep W B T n h' v c := by
  obtain ⟨o, x⟩ := c
  cases o with
  | none => exact Rep.but r he
  | some a => exact ⟨r.1, r.2.but he fun o => ha a o rfl⟩
theorem CellRep.toks {B : Addr → Prop} {T : Tx} {n n' : Nat} {h : Heap} {v : Value} {c : Cell} (r : CellRep W B T n h v c) (hn : n ≤ n') : CellRep W B T n' h v c :=
  r.mono hn (fun _ _ => rfl) (.refl _) fun _ q => .inl q
theorem CellRep.sub {B B' : Addr → Prop} {T : Tx} {n : Nat} {h : Heap} {v : Value} {c : Cell} (r : CellRep W B T n h v c) (hB : ∀ a, B' a → B a) : CellRep W B' T n h v c :=
  r.mono (Nat.le_refl _) (fun _ _ => rfl) (.refl _) fun a q => .inl (hB a q)
theorem StB.le_ban {B B' : Addr → Prop} {X : Cx} {σ : Sto} {T T' : Tx} {s s' : Shared} (S : StB B X σ T s) (l : Le T s T' s') (hB : ∀ a, B' a → B a ∨ s.heap.get? a = none) : StB B' X σ T' s' where
  ok := S.ok
  le := S.le.trans l
  pos := Nat.lt_of_lt_of_le S.pos l.toks
  fro := S.fro.ext l.ext
  vars := by
    refine x1a2 (S.vars) fun m hn hv => ?_
    refine ⟨m, ns_ext hn l.ext, fun x c hc => ?_⟩
    refine x1a2 (hv x c hc) fun v h1 h2 => ?_
    exact ⟨v, h1.ext l.ext, h2.mono l.toks l.tx l.ext hB⟩
  cells := fun x a hx => x0a3 (S.cells x a hx) fun h1 h2 t_0 => x1a1 t_0 fun v h3 => ⟨h1, h2, v, isCell_ext h3 l.ext⟩
  apart := S.apart
  fresh := S.fresh
  one := S.one
theorem StB.le_mono {B : Addr → Prop} {X : Cx} {σ : Sto} {T T' : Tx} {s s' : Shared} (S : StB B X σ T s) (l : Le T s T' s') : StB B X σ T' s' := S.le_ban l fun _ q => .inl q
theorem StB.anti {B B' : Addr → Prop} {X : Cx} {σ : Sto} {T : Tx} {s : Shared} (S : StB B X σ T s) (hB : ∀ a, B' a → B a) : StB B' X σ T s := S.le_ban (.refl _ _) fun a q => .inl (hB a q)
omit [Lo] in
noncomputable def Sto.Sub (σ' σ : Sto) : Prop := ∀ x c, σ'.get x = some c → σ.get x = some c
theorem Sto.Sub.owned {σ' σ : Sto} (h : Sto.Sub σ' σ) {a : Addr} (o : σ'.owned a) : σ.owned a := x2a1 o fun x v e => ⟨x, v, h x _ e⟩
theorem Cx.ban_sub {X : Cx} {σ' σ : Sto} (h : Sto.Sub σ' σ) {a : Addr} (b : X.ban σ' a) : X.ban σ a := by
  rcases b with b | b | b | b
  · exact .inl b
  · exact .inr (.inl b)
  · exact .inr (.inr (.inl b))
  · exact .inr (.inr (.inr (h.owned b)))
theorem StB.sub {X : Cx} {σ σ' : Sto} {T : Tx} {s : Shared} (S : St X σ T s) (h : Sto.Sub σ' σ) : St X σ' T s where
  ok := S.ok
  le := S.le
  pos := S.pos
  fro := S.fro
  vars := by
    refine x1a2 (S.vars) fun m hn hv => ?_
    refine ⟨m, hn, fun x c hc => ?_⟩
    refine x1a2 (hv x c (h x c hc)) fun v h1 h2 => ?_
    exact ⟨v, h1, h2.sub fun a => Cx.ban_sub h⟩
  cells := S.cells
  apart := S.apart
  fresh := fun a o => S.fresh a (h.owned o)
  one := fun x y a v v' h1 h2 => S.one x y a v v' (h _ _ h1) (h _ _ h2)
omit [Lo] in
noncomputable def Sto.subB : Sto → Sto → Prop
  | [], _ => True
  | (x, c) :: r, σ => σ.get x = some c ∧ Sto.subB r σ
theorem Sto.sub_of : ∀ {σ' σ : Sto}, Sto.subB σ' σ → Sto.Sub σ' σ
  | [], _, _, x, c, e => by simp [Sto.get] at e
  | (y, d) :: r, σ, ⟨h1, h2⟩, x, c, e => by
    rw [Sto.get_cons] at e
    split at e
    · rename_i q; subst q; (have e := Option.some.inj e; subst e); exact h1
    · exact Sto.sub_of h2 x c e
structure LeB (B : Addr → Prop) (T : Tx) (s : Shared) (T' : Tx) (s' : Shared) : Prop where
  size : s.heap.objs.size ≤ s'.heap.objs.size
  ext : ∀ b o, ¬ B b → s.heap.get? b = some o → ∃ sl, s'.heap.get? b = some { o with slots := keepS b o sl }
  toks : s.toks ≤ s'.toks
  tx : ∀ t, t < s.toks → T' t = T t
  gens : s'.gens = s.gens
  os : s'.os = s.os
theorem Le.leB {T T' : Tx} {s s' : Shared} (l : Le T s T' s') (B : Addr → Prop) : LeB B T s T' s' := ⟨l.ext.1, fun b o _ e => l.ext.2 b o e, l.toks, l.tx, l.gens, l.os⟩
theorem LeB.refl (B : Addr → Prop) (T : Tx) (s : Shared) : LeB B T s T s := (Le.refl T s).leB B
theorem LeB.trans {B B' : Addr → Prop} {T₁ T₂ T₃ : Tx} {s₁ s₂ s₃ : Shared} (x : LeB B T₁ s₁ T₂ s₂) (y : LeB B' T₂ s₂ T₃ s₃) (hB : ∀ b, b < s₁.heap.objs.size → B' b → B b) : LeB B T₁ s₁ T₃ s₃ :=
  ⟨Nat.le_trans x.size y.size, fun b o hb e => let ⟨_, e₁⟩ := x.ext b o hb e; x1a1 (y.ext b _ (fun q => hb (hB b (Heap.lt_size e) q)) e₁) fun sl e₂ => ⟨sl, keepS_tr e₂⟩,
   Nat.le_trans x.toks y.toks, fun t ht => (y.tx t (Nat.lt_of_lt_of_le ht x.toks)).trans (x.tx t ht), y.gens.trans x.gens, y.os.trans x.os⟩
theorem Rep.leB {B B' : Addr → Prop} {T T' : Tx} {s s' : Shared} {v : Value} {x : AV} (r : Rep W B T s.toks s.heap v x) (l : LeB B' T s T' s') (hB : ∀ b, B' b → B b) : Rep W B T' s'.toks s'.heap v x := by
  induction r with
  | none => exact .none
  | bool b => exact .bool b
  | int i t => exact .int i t
  | str x => exact .str (x.le l.toks l.tx)
  | bytes b t => exact .bytes b t
  | txt x t => exact .txt x t
  | tup hb hl hs _ ih => refine x1a3 hl fun o ho hc t_0 => ?_; (try clear hl); refine x1a1 t_0 fun m hd => ?_; (try clear t_0); refine x1a1 (l.ext _ o (fun q => hb (hB _ q)) ho) fun sl ho' => ?_; exact .tup hb ⟨_, ho', hc, m, hd⟩ hs ih
  | list hb hl hs _ ih => refine x1a5 hl fun o ho hc hn hsl t_0 => ?_; (try clear hl); refine x1a1 t_0 fun m hd => ?_; (try clear t_0); refine x1a1 (l.ext _ o (fun q => hb (hB _ q)) ho) fun sl ho' => ?_; exact .list hb ⟨_, ho', hc, hn, (keepS_ne (by rw [hc]; decide)).trans hsl, m, hd⟩ hs ih
  | dict hb hl hs hk _ ih => refine x0a2 hl fun t_0 ky => ?_; (try clear hl); refine x1a5 t_0 fun o ho hc hn hsl t_1 => ?_; (try clear t_0); refine x1a1 t_1 fun m hd => ?_; (try clear t_1); refine x1a1 (l.ext _ o (fun q => hb (hB _ q)) ho) fun sl ho' => ?_; exact .dict hb ⟨⟨_, ho', hc, hn, (keepS_ne (by rw [hc]; decide)).trans hsl, m, hd⟩, ky⟩ hs (fun i e x h1 h2 => (hk i e x h1 h2).le l.toks l.tx) ih
  | exc hb ho hc hdi hd hf => refine x1a1 (l.ext _ _ (fun q => hb (hB _ q)) ho) fun sl ho' => ?_; exact .exc hb ho' hc hdi hd ⟨hf.size, hf.start, hf.stop, x1a2 hf.reason fun v h1 h2 => ⟨v, h1, h2.le l.toks l.tx⟩⟩
theorem LeB.turn {B : Addr → Prop} {T : Tx} {s : Shared} {h' : Heap} {k : Nat} {a : Addr} (hs : Heap.SameBut a s.heap h') (ha : B a) (hk : s.toks ≤ k) : LeB B T s T { s with heap := h', toks := k } :=
  ⟨Nat.le_of_eq hs.1.symm, fun b o hb e => ⟨o.slots, keepS_re ((hs.2 b (fun q => hb (q ▸ ha))).trans e)⟩, hk, fun _ _ => rfl, rfl, rfl⟩
section
variable {B : Addr → Prop} {X : Cx} {σ : Sto} {T : Tx} {s : Shared}
theorem StB.le_turn (S : StB B X σ T s) {h' : Heap} {k : Nat} {a : Addr} (ha : X.s0.heap.objs.size ≤ a) (hs : Heap.SameBut a s.heap h') (hk : s.toks ≤ k) :
    Le X.T0 X.s0 T { s with heap := h', toks := k } := by
  refine ⟨⟨hs.1 ▸ S.le.ext.1, fun b o e => ?_⟩, Nat.le_trans S.le.toks hk, S.le.tx, S.le.gens, S.le.os⟩
  refine x1a1 (S.le.ext.2 b o e) fun sl e' => ?_
  exact ⟨sl, (hs.2 b (Nat.ne_of_lt (Nat.lt_of_lt_of_le (Heap.lt_size e) ha))).trans e'⟩
theorem StB.fro_turn (S : StB B X σ T s) {h' : Heap} {a : Addr} (hs : Heap.SameBut a s.heap h') (ho : FrAt s.heap a → FrAt h' a) : FrOk h' X.fr :=
  S.fro.of fun b x => by
    by_cases q : b = a
    · subst q; exact ho x
    · refine x1a2 x fun o h1 r => ?_; (try clear x); exact ⟨o, (hs.2 b q).trans h1, r⟩
theorem Cx.ban_upd {x : Str} {v : AV} {a : Addr} (b : X.ban (σ.upd x v) a) : X.ban σ a := by
  rcases b with b | b | b | ⟨y, w, e⟩
  · exact .inl b
  · exact .inr (.inl b)
  · exact .inr (.inr (.inl b))
  · rw [Sto.get_cons] at e
    split at e
    · cases Option.some.inj e
    · exact .inr (.inr (.inr ⟨y, w, e⟩))
theorem Cx.ban_updO {x : Str} {c : Addr} {v : AV} {a : Addr} (b : X.ban (σ.updO x c v) a) : X.ban σ a ∨ a = c := by
  rcases b with b | b | b | ⟨y, w, e⟩
  · exact .inl (.inl b)
  · exact .inl (.inr (.inl b))
  · exact .inl (.inr (.inr (.inl b)))
  · rw [Sto.get_cons] at e
    split at e
    · cases Option.some.inj e; exact .inr rfl
    · exact .inl (.inr (.inr (.inr ⟨y, w, e⟩)))
theorem StB.own_there (S : StB B X σ T s) {a : Addr} (o : σ.owned a) : ∃ ob, s.heap.get? a = some ob := by
  refine x2a1 o fun x v e => ?_; (try clear o)
  refine x1a2 (S.vars) fun m hn hv => ?_
  refine x1a2 (hv x _ e) fun w h1 h2 => ?_
  exact h2.2.there
theorem StB.ban_lt (S : StB B X σ T s) {a : Addr} (b : X.ban σ a) : a < s.heap.objs.size := by
  rcases b with b | b | ⟨x, b⟩ | b
  · exact Nat.lt_of_lt_of_le (S.ok.hB a b).2 S.le.ext.1
  · refine x1a2 (S.vars) fun m hn _ => ?_; exact b ▸ hn.lt
  · refine x0a3 (S.cells x a b) fun _ _ t_0 => ?_; refine x1a1 t_0 fun v hc => ?_; (try clear t_0); exact hc.lt
  · refine x1a1 (S.own_there b) fun o ho => ?_; exact Heap.lt_size ho
theorem StB.ban_ge (S : StB B X σ T s) {a : Addr} (b : X.ban σ a) : X.G.nb ≤ a := by
  rcases b with b | b | ⟨x, b⟩ | b
  · exact (S.ok.hB a b).1
  · exact b ▸ Nat.le_trans S.ok.nb S.ok.locals
  · exact S.ok.cl x a b
  · exact Nat.le_trans S.ok.nb (S.fresh a b).1
omit [Lo] in
structure NewCell (X : Cx) (σ : Sto) (B : Addr → Prop) (x : Str) (c : Cell) : Prop where
  old : ∀ b, X.ban σ b → B b
  fresh : ∀ a, c.own = some a → X.s0.heap.objs.size ≤ a ∧ a ≠ X.env.locals ∧ ∀ y, X.env.cells.lookup y ≠ some a
  one : ∀ a y v', c.own = some a → σ.get y ≠ some ⟨some a, v'⟩
theorem NewCell.plain (x : Str) (av : AV) : NewCell X σ (X.ban σ) x ⟨none, av⟩ :=
  ⟨fun _ b => b, fun _ h => (nomatch h), fun _ _ _ h => (nomatch h)⟩
theorem StB.store_local (S : StB B X σ T s) {x : Str} {v : Value} {c : Cell} (hk : X.env.kindOf x = some .local) (N : NewCell X σ B x c)
    (r : CellRep X.w B T s.toks s.heap v c) {Q : Unit → Shared → Prop} {E : Value → Shared → Prop}
    (hQ : ∀ s', StB B X ((x, c) :: σ) T s' → LeB (X.ban σ) T s T s' → Q () s') : wpAny X.M X.A (storeName X.env x v) Q E s := by
  refine x1a2 (S.vars) fun m hn hv => ?_
  refine x3a2 (id hn) fun oL _ _ hoL _ => ?_
  refine wpAny_storeName_cls hk hn ⟨oL, hoL, rfl⟩ (fun h' hn' hs hcls => hQ _ ?_ (LeB.turn hs (.inr (.inl rfl)) (Nat.le_succ _))) (by rw [S.ok.kind]; rfl)
  have hbut : ∀ b o, ¬ B b → s.heap.get? b = some o → h'.get? b = some o := fun b o hb e =>
    (hs.2 b fun q => hb (N.old _ (.inr (.inl q)))).trans e
  refine x3a3 (id hn') fun o' es ep ho' hd' _ => ?_
  exact {
    ok := S.ok
    le := S.le_turn S.ok.locals hs (Nat.le_succ _)
    pos := Nat.succ_pos _
    fro := S.fro_turn hs fun ⟨o, f1, f2, f3, _⟩ => by
      rw [hoL] at f1; (have f1 := Option.some.inj f1; subst f1)
      refine x1a2 hcls fun o2 g1 g2 => ?_; (try clear hcls)
      rw [ho'] at g1; (have g1 := Option.some.inj g1; subst g1)
      exact ⟨o', ho', g2.trans f2, f3, es, ep, hd'⟩
    vars := by
      refine ⟨_, hn', fun y cl e => (get_inv e).elim (fun q => ?_) fun q => ?_⟩
      · have q1 := q.1
        have q2 := q.2
        subst q1; subst q2
        refine ⟨v, ?_, (r.but hbut fun a o ha ho => (hs.2 a (N.fresh a ha).2.1).trans ho).toks (Nat.le_succ _)⟩
        unfold VarAt; rw [hk]; simp
      · refine (hv y cl q.2).elim fun w z => ⟨w, z.1.to (fun a c1 c2 => c2.sameBut hs (S.cells y a c1).2.1) fun _ h => by rw [if_neg q.1]; exact h, (z.2.but hbut fun a o ha ho => (hs.2 a ?_).trans ho).toks (Nat.le_succ _)⟩
        obtain ⟨c0, c1⟩ := cl
        cases ha
        exact (S.fresh a ⟨y, _, q.2⟩).2.1
    cells := fun y a hy => x0a3 (S.cells y a hy) fun h1 h2 t_0 => x1a1 t_0 fun w h3 => ⟨h1, h2, w, h3.sameBut hs h2⟩
    apart := S.apart
    fresh := fun a t_0 => x2a1 t_0 fun y w e => by
      rw [Sto.get_cons] at e
      split at e
      · (have e := Option.some.inj e; subst e); exact N.fresh a rfl
      · exact S.fresh a ⟨y, w, e⟩
    one := fun y z a w w' h1 h2 => by
      rw [Sto.get_cons] at h1 h2
      split at h1
      · rename_i q1; (have h1 := Option.some.inj h1; subst h1)
        split at h2
        · rename_i q2; exact q1.trans q2.symm
        · exact absurd h2 (N.one a z w' rfl)
      · split at h2
        · rename_i q2; (have h2 := Option.some.inj h2; subst h2); exact absurd h1 (N.one a y w rfl)
        · exact S.one y z a w w' h1 h2 }
theorem StB.store_cell (S : StB B X σ T s) {x : Str} {v : Value} {cl : Cell} {c : Addr} (hin : X.inner = false) (hk : X.env.kindOf x = some .cell) (hc : X.env.cells.lookup x = some c)
    (N : NewCell X σ B x cl) (r : CellRep X.w B T s.toks s.heap v cl) {Q : Unit → Shared → Prop} {E : Value → Shared → Prop}
    (hQ : ∀ s', StB B X ((x, cl) :: σ) T s' → LeB (X.ban σ) T s T s' → Q () s') : wpAny X.M X.A (storeName X.env x v) Q E s := by
  refine x1a2 (S.vars) fun m hn hv => ?_
  refine x0a3 (S.cells x c hc) fun hlo hcl t_0 => ?_; refine x1a1 t_0 fun v0 hcell => ?_; (try clear t_0)
  refine wpAny_storeName_cell S.ok.kind hk hc hcell (fun h' hcell' hs => hQ _ ?_ (LeB.turn (k := s.toks) hs (.inr (.inr (.inl ⟨x, hc⟩))) (Nat.le_refl _)))
  have hbut : ∀ b o, ¬ B b → s.heap.get? b = some o → h'.get? b = some o := fun b o hb e =>
    (hs.2 b fun q => hb (N.old _ (.inr (.inr (.inl ⟨x, q ▸ hc⟩))))).trans e
  refine x1a2 (id hcell') fun o' ho' hd' => ?_
  exact {
    ok := S.ok
    le := S.le_turn (hlo hin hk) hs (Nat.le_refl _)
    pos := S.pos
    fro := S.fro_turn hs fun ⟨o, f1, _, _, _, _, f2⟩ => by
      refine x1a2 hcell fun o2 g1 g2 => ?_; (try clear hcell)
      rw [f1] at g1; (have g1 := Option.some.inj g1; subst g1)
      rw [f2] at g2; cases g2
    vars := by
      refine ⟨m, hn.sameBut hs (Ne.symm hcl), fun y d e => (get_inv e).elim (fun q => ?_) fun q => ?_⟩
      · have q1 := q.1
        have q2 := q.2
        subst q1; subst q2
        refine ⟨v, ?_, r.but hbut fun a o ha ho => (hs.2 a fun z => (N.fresh a ha).2.2 y (z ▸ hc)).trans ho⟩
        unfold VarAt; rw [hk]; exact ⟨c, hc, hcell'⟩
      · refine (hv y d q.2).elim fun w z => ⟨w, z.1.turned hs fun a c1 z => q.1 (S.apart y x a c1 (z ▸ hc)), z.2.but hbut fun a o ha ho => (hs.2 a ?_).trans ho⟩
        obtain ⟨c0, c1⟩ := d
        cases ha
        exact fun zz => (S.fresh a ⟨y, _, q.2⟩).2.2 x (zz ▸ hc)
    cells := fun y a hy => by
      refine x0a3 (S.cells y a hy) fun h1 h2 t_0 => ?_; refine x1a1 t_0 fun w h3 => ?_; (try clear t_0)
      by_cases q : a = c
      · subst q; exact ⟨h1, h2, _, hcell'⟩
      · exact ⟨h1, h2, w, h3.sameBut hs q⟩
    apart := S.apart
    fresh := fun a z => z.elim fun y z => z.elim fun w e => (get_inv e).elim (fun q => N.fresh a (congrArg Cell.own q.2)) fun q => S.fresh a ⟨y, w, q.2⟩
    one := fun y z a w w' h1 h2 => (get_inv h1).elim (fun q1 => (get_inv h2).elim (fun q2 => q1.1.trans q2.1.symm) fun q2 => absurd q2.2 (N.one a z w' (congrArg Cell.own q1.2)))
      fun q1 => (get_inv h2).elim (fun q2 => absurd q1.2 (N.one a y w (congrArg Cell.own q2.2))) fun q2 => S.one y z a w w' q1.2 q2.2 }
omit [Lo] in
noncomputable def storable (X : Cx) (x : Str) : Prop := X.env.kindOf x = some .local ∨ (X.inner = false ∧ X.env.kindOf x = some .cell ∧ ∃ c, X.env.cells.lookup x = some c)
theorem StB.storeC (S : StB B X σ T s) {x : Str} {v : Value} {c : Cell} (hk : storable X x) (N : NewCell X σ B x c)
    (r : CellRep X.w B T s.toks s.heap v c) {Q : Unit → Shared → Prop} {E : Value → Shared → Prop}
    (hQ : ∀ s', StB B X ((x, c) :: σ) T s' → LeB (X.ban σ) T s T s' → Q () s') : wpAny X.M X.A (storeName X.env x v) Q E s := by
  rcases hk with hk | ⟨hin, hk, c, hc⟩
  · exact S.store_local hk N r hQ
  · exact S.store_cell hin hk hc N r hQ
theorem StB.store (S : St X σ T s) {x : Str} {v : Value} {av : AV} (hk : storable X x)
    (r : Rep X.w (X.ban σ) T s.toks s.heap v av) {Q : Unit → Shared → Prop} {E : Value → Shared → Prop}
    (hQ : ∀ s', St X (σ.upd x av) T s' → LeB (X.ban σ) T s T s' → Q () s') : wpAny X.M X.A (storeName X.env x v) Q E s :=
  S.storeC hk (.plain x av) r fun s' S' l => hQ s' (S'.anti fun _ b => Cx.ban_upd b) l
theorem StB.store_own (S : St X σ T s) {T' : Tx} {s' : Shared} (l : Le T s T' s') {x : Str} {a : Addr} {av : AV} (ha : s.heap.objs.size ≤ a) (hk : storable X x)
    (r : OwnRep X.w (fun b => X.ban σ b ∨ b = a) T' s'.toks s'.heap a av) {Q : Unit → Shared → Prop} {E : Value → Shared → Prop}
    (hQ : ∀ s'', St X (σ.updO x a av) T' s'' → LeB (X.ban σ) T' s' T' s'' → Q () s'') : wpAny X.M X.A (storeName X.env x (.ref a)) Q E s' := by
  have hno : ∀ b, X.ban σ b → b ≠ a := fun b hb q => by
    subst q; exact Nat.lt_irrefl _ (Nat.lt_of_lt_of_le (StB.ban_lt S hb) ha)
  have hnone : s.heap.get? a = none := Heap.get?_none_of_le ha
  have S' : StB (fun b => X.ban σ b ∨ b = a) X σ T' s' := S.le_ban l fun b q => q.imp id fun (e : b = a) => e ▸ hnone
  refine S'.storeC (c := ⟨some a, av⟩) hk ⟨fun b q => .inl q, fun b e => ?_, fun b y v' e h => ?_⟩ ⟨rfl, r⟩ fun s'' S'' l => hQ s'' (S''.anti fun _ b => Cx.ban_updO b) l
  · (have e := Option.some.inj e; subst e)
    exact ⟨Nat.le_trans S.le.ext.1 ha, fun q => hno _ (.inr (.inl q)) rfl, fun y q => hno _ (.inr (.inr (.inl ⟨y, q⟩))) rfl⟩
  · (have e := Option.some.inj e; subst e)
    exact hno _ (.inr (.inr (.inr ⟨y, v', h⟩))) rfl
theorem StB.freeze (S : St X σ T s) {x : Str} {a : Addr} {av : AV} (hx : σ.get x = some ⟨some a, av⟩) (hb : av.Open) : St X (σ.upd x av) T s where
  ok := S.ok
  le := S.le
  pos := S.pos
  fro := S.fro
  vars := by
    have hno : ¬ X.ban (σ.upd x av) a := by
      have hf := S.fresh a ⟨x, av, hx⟩
      rintro (b | b | ⟨y, b⟩ | ⟨y, w, e⟩)
      · exact Nat.lt_irrefl _ (Nat.lt_of_lt_of_le (S.ok.hB a b).2 hf.1)
      · exact hf.2.1 b
      · exact hf.2.2 y b
      · exact (get_inv e).elim (fun q => nomatch congrArg Cell.own q.2) fun q => q.1 (S.one y x a _ _ q.2 hx)
    refine x1a2 (S.vars) fun m hn hv => ?_
    refine ⟨m, hn, fun y c e => ?_⟩
    refine (get_inv e).elim (fun q => ?_) fun q => ?_
    · have q1 := q.1
      have q2 := q.2
      subst q1; subst q2
      refine x1a3 (hv y _ hx) fun w h1 e_0 h2 => ?_; subst e_0
      refine ⟨_, h1, ?_⟩
      show Rep _ _ _ _ _ (.ref a) av
      cases h2 with
      | list hl hs hi => exact .list hno hl hs fun i v x e1 e2 => (hi i v x e1 e2).sub fun _ => Cx.ban_upd
      | dict hl hs hk hi => exact .dict hno hl hs hk fun i v x e1 e2 => (hi i v x e1 e2).sub fun _ => Cx.ban_upd
      | barr b _ => exact absurd rfl (hb.1 _)
      | hid _ => exact absurd rfl hb.2
    · exact (hv y c q.2).elim fun w z => ⟨w, z.1, z.2.sub fun _ => Cx.ban_upd⟩
  cells := S.cells
  apart := S.apart
  fresh := fun a t_0 => x2a1 t_0 fun y w e => (get_inv e).elim (fun q => nomatch congrArg Cell.own q.2) fun q => S.fresh a ⟨y, w, q.2⟩
  one := fun y z a w w' h1 h2 => (get_inv h1).elim (fun q => nomatch congrArg Cell.own q.2) fun q => (get_inv h2).elim (fun q => nomatch congrArg Cell.own q.2) fun q' => S.one y z a w w' q.2 q'.2
theorem StB.turn (S : St X σ T s) {x : Str} {a : Addr} {av av' : AV} (hx : σ.get x = some ⟨some a, av⟩) {h' : Heap} (hs : Heap.SameBut a s.heap h')
    (r : OwnRep X.w (X.ban σ) T s.toks h' a av') : St X (σ.updO x a av') T { s with heap := h' } := by
  have hf := S.fresh a ⟨x, av, hx⟩
  refine x1a2 (S.vars) fun m hn hv => ?_
  have howned : ∀ b, (σ.updO x a av').owned b ↔ σ.owned b := fun b =>
    ⟨fun z => z.elim fun y z => z.elim fun w e => (get_inv e).elim (fun q => ⟨x, av, cell_own q.2 ▸ hx⟩) fun q => ⟨y, w, q.2⟩,
     fun z => z.elim fun y z => z.elim fun w e => (Decidable.em (y = x)).elim (fun q => ⟨x, av', (Sto.get_cons ..).trans ((if_pos rfl).trans (congrArg (fun b => some (⟨some b, av'⟩ : Cell)) (cell_own (Option.some.inj (hx.symm.trans (q ▸ e))))))⟩) fun q => ⟨y, w, (Sto.get_cons ..).trans ((if_neg q).trans e)⟩⟩
  have hban : X.ban (σ.updO x a av') = X.ban σ := by
    funext b
    exact propext ⟨fun z => z.imp id fun z => z.imp id fun z => z.imp id (howned b).mp, fun z => z.imp id fun z => z.imp id fun z => z.imp id (howned b).mpr⟩
  have hbut : ∀ b o, ¬ X.ban σ b → s.heap.get? b = some o → h'.get? b = some o := fun b o hb e =>
    (hs.2 b fun q => hb (.inr (.inr (.inr ⟨x, av, q ▸ hx⟩)))).trans e
  have hva : ∀ y v, VarAt X.env s.heap m y v → VarAt X.env h' m y v := fun y v z => z.turned hs fun b c1 z => hf.2.2 y (z ▸ c1)
  exact {
    ok := S.ok
    le := S.le_turn hf.1 hs (Nat.le_refl _)
    pos := S.pos
    fro := S.fro_turn hs fun ⟨o, f1, f2, f3, _⟩ => (hv x _ hx).elim fun v0 z => (z.2.2.noFrame f1 f2).elim
    vars := by
      rw [hban]
      refine ⟨m, hn.sameBut hs (Ne.symm hf.2.1), fun y cl e => (get_inv e).elim (fun q => ?_) fun q => ?_⟩
      · have q1 := q.1
        have q2 := q.2
        subst q1; subst q2
        exact (hv y _ hx).elim fun w z => ⟨w, hva y w z.1, z.2.1, r⟩
      · refine (hv y cl q.2).elim fun w z => ⟨w, hva y w z.1, z.2.but hbut fun b o hb ho => (hs.2 b fun z => q.1 ?_).trans ho⟩
        subst z
        obtain ⟨c0, c1⟩ := cl
        cases hb
        exact S.one y x b _ _ q.2 hx
    cells := fun y b hy => by
      refine x0a3 (S.cells y b hy) fun h1 h2 t_0 => ?_; refine x1a1 t_0 fun w h3 => ?_; (try clear t_0)
      exact ⟨h1, h2, w, h3.sameBut hs fun z => hf.2.2 y (z ▸ hy)⟩
    apart := S.apart
    fresh := fun b o => S.fresh b ((howned b).mp o)
    one := fun y z b w w' h1 h2 => (get_inv h1).elim (fun q1 => (get_inv h2).elim (fun q2 => q1.1.trans q2.1.symm) fun q2 => q1.1.trans (S.one x z b _ _ (cell_own q1.2 ▸ hx) q2.2))
      fun q1 => (get_inv h2).elim (fun q2 => (S.one y x b _ _ q1.2 (cell_own q2.2 ▸ hx)).trans q2.1.symm) fun q2 => S.one y z b w w' q1.2 q2.2 }
end
end Mine
namespace Mine
open PySem PySem.W PyProof.Rows
variable [Lo]
variable {W : World}
omit [Lo] in
noncomputable abbrev noE : Value → Shared → Prop := fun _ _ => False
noncomputable abbrev PV (w : World) (B : Addr → Prop) (T : Tx) (s : Shared) (x : AV) (v : Value) (s' : Shared) : Prop := ∃ T', Le T s T' s' ∧ Rep w B T' s'.toks s'.heap v x
noncomputable abbrev PB (T : Tx) (s : Shared) (b c : Bool) (s' : Shared) : Prop := c = b ∧ ∃ T', Le T s T' s'
noncomputable def Yl (X : Cx) (B : Addr → Prop) (T : Tx) (s : Shared) (t : Sem Value) (x : AV) : Prop :=
  wpAny X.M X.A t (PV X.w B T s x) noE s
theorem Yl.then {X : Cx} {B : Addr → Prop} {T : Tx} {s : Shared} {t : Sem Value} {x : AV} (h : Yl X B T s t x) {Q : Value → Shared → Prop} {E : Value → Shared → Prop}
    (k : ∀ v T' s', Le T s T' s' → Rep X.w B T' s'.toks s'.heap v x → Q v s') : wpAny X.M X.A t Q E s :=
  wpAny_mono h (fun v s' t_0 => x1a2 t_0 fun T' l r => k v T' s' l r) fun _ _ x => x.elim
theorem Yl.back {X : Cx} {B : Addr → Prop} {T T₁ : Tx} {s s₁ : Shared} {t : Sem Value} {x : AV} (l : Le T s T₁ s₁) (h : Yl X B T₁ s₁ t x) :
    wpAny X.M X.A t (fun v s' => ∃ T', Le T s T' s' ∧ Rep X.w B T' s'.toks s'.heap v x) (fun _ _ => False) s₁ :=
  h.then fun _ T' _ l' r => ⟨T', l.trans l', r⟩
theorem Yl.backq {X : Cx} {B : Addr → Prop} {T T₁ : Tx} {s s₁ : Shared} {t : Sem Value} {x : AV} (l : Le T s T₁ s₁) (h : Yl X B T₁ s₁ t x) :
    wq X.M X.A t (fun v s' => ∃ T', Le T s T' s' ∧ Rep X.w B T' s'.toks s'.heap v x) (fun _ _ => False) s₁ := wq_of (Yl.back l h)
theorem Yl.thenq {X : Cx} {B : Addr → Prop} {T : Tx} {s : Shared} {t : Sem Value} {x : AV} (h : Yl X B T s t x) {Q : Value → Shared → Prop} {E : Value → Shared → Prop}
    (k : ∀ v T' s', Le T s T' s' → Rep X.w B T' s'.toks s'.heap v x → Q v s') : wq X.M X.A t Q E s := wq_of (h.then k)
noncomputable def Yq (X : Cx) (B : Addr → Prop) (T : Tx) (s : Shared) (t : Sem Value) (x : AV) : Prop :=
  wq X.M X.A t (PV X.w B T s x) noE s
theorem Yq.then {X : Cx} {B : Addr → Prop} {T : Tx} {s : Shared} {t : Sem Value} {x : AV} (h : Yq X B T s t x) {Q : Value → Shared → Prop} {E : Value → Shared → Prop}
    (k : ∀ v T' s', Le T s T' s' → Rep X.w B T' s'.toks s'.heap v x → Q v s') : wq X.M X.A t Q E s :=
  wq_mono h (fun v s' t_0 => x1a2 t_0 fun T' l r => k v T' s' l r) fun _ _ x => x.elim
theorem Yq.back {X : Cx} {B : Addr → Prop} {T T₁ : Tx} {s s₁ : Shared} {t : Sem Value} {x : AV} (l : Le T s T₁ s₁) (h : Yq X B T₁ s₁ t x) :
    wq X.M X.A t (fun v s' => ∃ T', Le T s T' s' ∧ Rep X.w B T' s'.toks s'.heap v x) (fun _ _ => False) s₁ :=
  h.then fun _ T' _ l' r => ⟨T', l.trans l', r⟩
noncomputable def Ev (X : Cx) (e : Expr) (σ : Sto) (x : AV) : Prop := ∀ T s, St X σ T s → Yq X (X.ban σ) T s (eval e X.env) x
theorem Ev.then {X : Cx} {e : Expr} {σ : Sto} {x : AV} (h : Ev X e σ x) {T : Tx} {s : Shared} (S : St X σ T s) {Q : Value → Shared → Prop} {E : Value → Shared → Prop}
    (k : ∀ v T' s', Le T s T' s' → St X σ T' s' → Rep X.w (X.ban σ) T' s'.toks s'.heap v x → Q v s') : wq X.M X.A (eval e X.env) Q E s :=
  (h T s S).then fun v T' s' l r => k v T' s' l (S.le_mono l) r
noncomputable def Te (X : Cx) (e : Expr) (σ : Sto) (b : Bool) : Prop := ∀ T s, St X σ T s →
  wq X.M X.A (isTrue e X.env (eval e X.env)) (PB T s b) noE s
theorem Te.then {X : Cx} {e : Expr} {σ : Sto} {b : Bool} (h : Te X e σ b) {T : Tx} {s : Shared} (S : St X σ T s) {Q : Bool → Shared → Prop} {E : Value → Shared → Prop}
    (k : ∀ T' s', Le T s T' s' → St X σ T' s' → Q b s') : wq X.M X.A (isTrue e X.env (eval e X.env)) Q E s :=
  wq_mono (h T s S) (fun _ s' t_0 => x0a2 t_0 fun e t_1 => x1a1 t_1 fun T' l => e ▸ k T' s' l (S.le_mono l)) fun _ _ x => x.elim
noncomputable def Tru (x : AV) (b : Bool) : Prop := ∀ (X : Cx) (B : Addr → Prop) (T : Tx) (s : Shared) (v : Value), X.G.In s.heap → 0 < s.toks → Rep X.w B T s.toks s.heap v x →
  wpAny X.M X.A (truthy v) (PB T s b) noE s
theorem Tru.then {x : AV} {b : Bool} (h : Tru x b) {X : Cx} {B : Addr → Prop} {σ : Sto} {T : Tx} {s : Shared} {v : Value} (S : StB B X σ T s) {B' : Addr → Prop} (r : Rep X.w B' T s.toks s.heap v x)
    {Q : Bool → Shared → Prop} {E : Value → Shared → Prop} (k : ∀ T' s', Le T s T' s' → Q b s') : wq X.M X.A (truthy v) Q E s :=
  wq_mono (wq_of (h X B' T s v S.pg S.pos r)) (fun _ s' ⟨e, T', l⟩ => e ▸ k T' s' l) fun _ _ x => x.elim
theorem tru_bool (b : Bool) : Tru (.bool b) b := fun X B T s v _ _ r => by
  cases r using Rep.cBool; exact wpAny_truthy_bool ⟨rfl, T, .refl _ _⟩
theorem tru_int (i : Int) : Tru (.int i) (i != 0) := fun X B T s v _ _ r => by
  cases r using Rep.cInt; exact P.truthy_int ⟨rfl, T, .refl _ _⟩
section
variable {X : Cx} {σ : Sto}
theorem Te.value {e : Expr} {x : AV} {b : Bool} (h : Ev X e σ x) (ht : Tru x b)
    (he : autoParam (isTrue e X.env (eval e X.env) = (do let v ← eval e X.env; standAt e.pos; holding [v] (truthy v))) byRfl) : Te X e σ b := fun T s S => by
  refine wq_isTrue_value ?_ he
  refine h.then S fun v T' s' l S' r => ht.then S' r fun T'' s'' l' => ⟨rfl, T'', l.trans l'⟩
theorem Te.not {e : Expr} {pos : Pos} {b : Bool} (h : Te X e σ b) : Te X (.UnaryOp .Not e pos) σ (!b) := fun T s S => by
  refine wq_isTrue_Not ?_
  exact h.then S fun T' s' l _ => ⟨rfl, T', l⟩
noncomputable def BinG (op : Operator) (a b c : AV) : Prop := ∀ (X : Cx) (B : Addr → Prop) (T : Tx) (s : Shared) (u v : Value), X.G.In s.heap → 0 < s.toks → (∀ b, B b → b < s.heap.objs.size) →
  Rep X.w B T s.toks s.heap u a → Rep X.w B T s.toks s.heap v b → Yl X B T s (binaryOp op u v) c
noncomputable def InpG (op : Operator) (a b c : AV) : Prop := ∀ (X : Cx) (B : Addr → Prop) (T : Tx) (s : Shared) (u v : Value), X.G.In s.heap → 0 < s.toks →
  Rep X.w B T s.toks s.heap u a → Rep X.w B T s.toks s.heap v b → Yl X B T s (inplaceOp op u v) c
noncomputable def CmpG (op : CmpOp) (a b : AV) (c : Bool) : Prop := ∀ (X : Cx) (B : Addr → Prop) (T : Tx) (s : Shared) (u v : Value), X.Ok → X.G.In s.heap → 0 < s.toks →
  Rep X.w B T s.toks s.heap u a → Rep X.w B T s.toks s.heap v b → Yl X B T s (compareOp op u v) (.bool c)
theorem Ev.binop {l r : Expr} {op : Operator} {pos : Pos} {a b c : AV} (h1 : Ev X l σ a) (h2 : Ev X r σ b) (h : BinG op a b c) : Ev X (.BinOp l op r pos) σ c := fun T s S => by
  refine wq_BinOp (h1.then S fun u T₁ s₁ l₁ S₁ r₁ => h2.then S₁ fun v T₂ s₂ l₂ S₂ r₂ => ?_)
  exact Yl.backq (l₁.trans l₂) (h X _ T₂ s₂ u v S₂.pg S₂.pos (fun b q => S₂.ban_lt q) (r₁.le l₂) r₂)
theorem Ev.cmp {l r : Expr} {op : CmpOp} {pos : Pos} {a b : AV} {c : Bool} (h1 : Ev X l σ a) (h2 : Ev X r σ b) (h : CmpG op a b c) (hm : autoParam (behindInMarks op r = false) byRfl) :
    Ev X (.Compare l [op] [r] pos) σ (.bool c) := fun T s S => by
  refine wq_Compare1 (h1.then S fun u T₁ s₁ l₁ S₁ r₁ => h2.then S₁ fun v T₂ s₂ l₂ S₂ r₂ => ?_) hm
  exact Yl.backq (l₁.trans l₂) (h X _ T₂ s₂ u v S₂.ok S₂.pg S₂.pos (r₁.le l₂) r₂)
theorem Te.cmp {l r : Expr} {op : CmpOp} {pos : Pos} {a b : AV} {c : Bool} (h1 : Ev X l σ a) (h2 : Ev X r σ b) (h : CmpG op a b c) (hm : autoParam (behindInMarks op r = false) byRfl) :
    Te X (.Compare l [op] [r] pos) σ c := fun T s S => by
  refine wq_isTrue_Compare1 (h1.then S fun u T₁ s₁ l₁ S₁ r₁ => h2.then S₁ fun v T₂ s₂ l₂ S₂ r₂ => ?_) hm
  refine (h X _ T₂ s₂ u v S₂.ok S₂.pg S₂.pos (r₁.le l₂) r₂).thenq fun w T₃ s₃ l₃ r₃ => ?_
  exact (tru_bool c).then (S₂.le_mono l₃) r₃ fun T₄ s₄ l₄ => ⟨rfl, T₄, (l₁.trans l₂).trans (l₃.trans l₄)⟩
theorem Te.chain {l r₁ r₂ : Expr} {op₁ op₂ : CmpOp} {pos : Pos} {a b c : AV} {p q : Bool} (h1 : Ev X l σ a) (h2 : Ev X r₁ σ b) (h3 : Ev X r₂ σ c)
    (g1 : CmpG op₁ a b p) (g2 : CmpG op₂ b c q) (hm : autoParam (lastMarks [op₁, op₂] [r₁, r₂] = false) byRfl) : Te X (.Compare l [op₁, op₂] [r₁, r₂] pos) σ (p && q) := fun T s S => by
  refine wq_isTrue_chain (h1.then S fun u T₁ s₁ l₁ S₁ k₁ => ?_) hm
  unfold testChain
  refine wq_bind (wq_holding (h2.then S₁ fun v T₂ s₂ l₂ S₂ k₂ => wq_bind (wq_standAt (wq_bind (wq_holding ?_)))))
  refine (g1 X _ T₂ s₂ u v S₂.ok S₂.pg S₂.pos (k₁.le l₂) k₂).thenq fun w T₃ s₃ l₃ k₃ => ?_
  cases k₃
  refine wq_bind (wq_release ?_)
  refine wq_bind (wq_holding (wq_of <| wpAny_truthy_bool ?_))
  cases p with
  | false => exact wq_pure ⟨rfl, T₃, l₁.trans (l₂.trans l₃)⟩
  | true =>
    have S₃ := S₂.le_mono l₃
    simp only [if_true, Bool.true_and]
    unfold testChain
    refine wq_bind (wq_holding (h3.then S₃ fun z T₄ s₄ l₄ S₄ k₄ => wq_bind (wq_standAt ?_)))
    refine wq_bind (wq_operate ((g2 X _ T₄ s₄ v z S₄.ok S₄.pg S₄.pos ((k₂.le l₃).le l₄) k₄).thenq fun y T₅ s₅ l₅ k₅ => wq_holding ?_))
    cases k₅
    exact wq_of <| wpAny_truthy_bool ⟨rfl, T₅, (l₁.trans l₂).trans (l₃.trans (l₄.trans l₅))⟩
theorem Te.and {es : List Expr} {pos : Pos} {b : Bool} (h : ∀ T s, St X σ T s → wq X.M X.A (allTrue .And es X.env) (PB T s b) noE s) :
    Te X (.BoolOp .And es pos) σ b := fun T s S => wq_isTrue_BoolOp (h T s S)
noncomputable def Ands (X : Cx) (es : List Expr) (σ : Sto) (b : Bool) : Prop := ∀ T s, St X σ T s → wq X.M X.A (allTrue .And es X.env) (PB T s b) noE s
theorem Ands.nil : Ands X [] σ true := fun T s _ => wq_allTrue_nil ⟨rfl, T, .refl _ _⟩
theorem Ands.cons {e : Expr} {es : List Expr} {a b : Bool} (h1 : Te X e σ a) (h2 : a = true → Ands X es σ b) : Ands X (e :: es) σ (a && b) := fun T s S => by
  refine wq_allTrue_And (h1.then S fun T' s' l S' => ?_)
  cases a with
  | false => exact ⟨rfl, T', l⟩
  | true => exact wq_mono (h2 rfl T' s' S') (fun _ _ ⟨e, T'', l'⟩ => ⟨e, T'', l.trans l'⟩) fun _ _ x => x
noncomputable def Ors (X : Cx) (es : List Expr) (σ : Sto) (b : Bool) : Prop := ∀ T s, St X σ T s → wq X.M X.A (allTrue .Or es X.env) (PB T s b) noE s
theorem Ors.nil : Ors X [] σ false := fun T s _ => wq_allTrue_nil ⟨rfl, T, .refl _ _⟩
theorem Ors.cons {e : Expr} {es : List Expr} {a b : Bool} (h1 : Te X e σ a) (h2 : a = false → Ors X es σ b) : Ors X (e :: es) σ (a || b) := fun T s S => by
  refine wq_allTrue_Or (h1.then S fun T' s' l S' => ?_)
  cases a with
  | true => exact ⟨rfl, T', l⟩
  | false => exact wq_mono (h2 rfl T' s' S') (fun _ _ ⟨e, T'', l'⟩ => ⟨e, T'', l.trans l'⟩) fun _ _ x => x
theorem Te.or {es : List Expr} {pos : Pos} {b : Bool} (h : Ors X es σ b) : Te X (.BoolOp .Or es pos) σ b := fun T s S => wq_isTrue_BoolOp (h T s S)
theorem Ev.and_one {e : Expr} {pos : Pos} {x : AV} (h : Ev X e σ x) : Ev X (.BoolOp .And [e] pos) σ x := fun T s S => wq_BoolOp_one (h T s S)
theorem Ev.or_one {e : Expr} {pos : Pos} {x : AV} (h : Ev X e σ x) : Ev X (.BoolOp .Or [e] pos) σ x := fun T s S => wq_BoolOp_one (h T s S)
theorem Ev.and_cons {e₁ e₂ : Expr} {es : List Expr} {pos : Pos} {a b : Bool} (h1 : Ev X e₁ σ (.bool a)) (h2 : a = true → Ev X (.BoolOp .And (e₂ :: es) pos) σ (.bool b)) :
    Ev X (.BoolOp .And (e₁ :: e₂ :: es) pos) σ (.bool (a && b)) := fun T s S => by
  refine wq_BoolOp_and (h1.then S fun v T' s' l S' r => ?_)
  cases r using Rep.cBool
  refine wq_of <| wpAny_truthy_bool ?_
  cases a with
  | false => exact ⟨T', l, .bool _⟩
  | true => exact Yq.back l (h2 rfl T' s' S')
theorem Ev.or_cons {e₁ e₂ : Expr} {es : List Expr} {pos : Pos} {a b : Bool} (h1 : Ev X e₁ σ (.bool a)) (h2 : a = false → Ev X (.BoolOp .Or (e₂ :: es) pos) σ (.bool b)) :
    Ev X (.BoolOp .Or (e₁ :: e₂ :: es) pos) σ (.bool (a || b)) := fun T s S => by
  refine wq_BoolOp_or (h1.then S fun v T' s' l S' r => ?_)
  cases r using Rep.cBool
  refine wq_of <| wpAny_truthy_bool ?_
  cases a with
  | true => exact ⟨T', l, .bool _⟩
  | false => exact Yq.back l (h2 rfl T' s' S')
theorem Ev.not {e : Expr} {pos : Pos} {x : AV} {b : Bool} (h : Ev X e σ x) (ht : Tru x b) : Ev X (.UnaryOp .Not e pos) σ (.bool (!b)) := fun T s S => by
  refine wq_UnaryOp (h.then S fun v T' s' l S' r => wq_of (not_value (wpAny_mono (ht X _ T' s' v S'.pg S'.pos r) (fun c s'' ⟨hc, T'', l'⟩ => ?_) fun _ _ x => x)))
  subst hc
  exact ⟨T'', l.trans l', .bool _⟩
theorem Ev.neg {e : Expr} {pos : Pos} {i : Int} (h : Ev X e σ (.int i)) : Ev X (.UnaryOp .USub e pos) σ (.int (-i)) := fun T s S => by
  refine wq_UnaryOp (h.then S fun v T' s' l S' r => ?_)
  cases r using Rep.cInt
  exact wq_of <| P.neg_int ⟨T', l.trans (.tok (Nat.le_succ _)), .int _ _⟩
theorem Ev.ifexp {t e₁ e₂ : Expr} {pos : Pos} {b : Bool} {x : AV} (h : Te X t σ b) (h1 : b = true → Ev X e₁ σ x) (h2 : b = false → Ev X e₂ σ x) : Ev X (.IfExp t e₁ e₂ pos) σ x := fun T s S => by
  refine wq_IfExp (h.then S fun T' s' l S' => ?_)
  cases b with
  | true => exact Yq.back l (h1 rfl T' s' S')
  | false => exact Yq.back l (h2 rfl T' s' S')
theorem Ev.cint {i : Int} {k : Nat} {pos : Pos} : Ev X (.Constant (.int i) k pos) σ (.int i) := fun T s S =>
  wq_of <| wpAny_Constant_int ⟨T, .tok (Nat.le_succ _), .int _ _⟩
theorem Ev.cbool {b : Bool} {k : Nat} {pos : Pos} : Ev X (.Constant (.bool b) k pos) σ (.bool b) := fun T s S =>
  wq_of <| wpAny_Constant_bool ⟨T, .refl _ _, .bool _⟩
theorem Ev.cnone {k : Nat} {pos : Pos} : Ev X (.Constant .none k pos) σ .none := fun T s S =>
  wq_of <| wpAny_Constant_none ⟨T, .refl _ _, .none⟩
theorem strAt_new {T : Tx} {s : Shared} {x : Str} (h0 : 0 < s.toks) : StrAt (T.set s.toks x.cps.toList) (s.toks + 1) (.str x s.toks) x.cps.toList :=
  ⟨x, s.toks, rfl, rfl, by simp [Tx.set], h0, Nat.lt_succ_self _⟩
theorem rep_new {T : Tx} {s : Shared} {x : Str} {B : Addr → Prop} {l : List Nat} (h0 : 0 < s.toks) (hl : x.cps.toList = l) :
    ∃ T', Le T s T' { s with toks := s.toks + 1 } ∧ Rep W B T' (s.toks + 1) s.heap (.str x s.toks) (.str l) :=
  ⟨T.set s.toks x.cps.toList, .set (Nat.le_succ _), .str (hl ▸ strAt_new h0)⟩
theorem Ev.cstr {x : Str} {k : Nat} {pos : Pos} {l : List Nat} (hl : x.cps.toList = l) : Ev X (.Constant (.str x) k pos) σ (.str l) := fun T s S =>
  wq_of <| wpAny_Constant_str (rep_new S.pos hl)
theorem Ev.cbytes {b : List UInt8} {k : Nat} {pos : Pos} {l : List Nat} (hl : b.map UInt8.toNat = l) : Ev X (.Constant (.bytes b) k pos) σ (.bytes l) := fun T s S => by
  subst hl
  show wq X.M X.A (mkTextBytes b.toArray) _ _ s
  exact wq_of <| wpAny_mkTextBytes ⟨T, .tok (Nat.le_succ _), by have := Rep.bytes (W := X.w) (B := X.ban σ) (T := T) (n := s.toks + 1) (h := s.heap) b.toArray s.toks; simpa [bnats] using this⟩
theorem StB.load (S : St X σ T s) {x : Str} {c : Cell} (hx : σ.get x = some c) {Q : Value → Shared → Prop} {E : Value → Shared → Prop}
    (hQ : ∀ v, CellRep X.w (X.ban σ) T s.toks s.heap v c → Q v s) (hcl : autoParam ((x == ("__classdict__" : Str)) = false) byDec) : wpAny X.M X.A (loadName X.env x) Q E s := by
  refine x1a2 (S.vars) fun m hn hv => ?_
  refine x1a2 (hv x c hx) fun v h1 h2 => ?_
  unfold VarAt at h1
  split at h1
  · exact wpAny_loadName_local S.ok.kind (by assumption) hn h1 (hQ v h2)
  · refine x1a2 h1 fun a c1 c2 => ?_; (try clear h1)
    exact wpAny_loadName_cell S.ok.kind (by assumption) c1 c2 (hQ v h2)
  · refine x1a2 h1 fun a c1 c2 => ?_; (try clear h1)
    exact wpAny_loadName_free S.ok.kind (by assumption) c1 c2 (hQ v h2) hcl
  · rw [h1] at hcl; exact absurd hcl (by decide)
theorem Ev.name {x : Str} {pos : Pos} {v : AV} (hx : σ.get x = some ⟨none, v⟩) (hd : autoParam ((x == ("__debug__" : Str)) = false) byDec)
    (hcl : autoParam ((x == ("__classdict__" : Str)) = false) byDec) : Ev X (.Name x pos) σ v := fun T s S =>
  wq_Name (wq_of (S.load hx (fun w r => ⟨T, .refl _ _, r⟩) hcl)) hd
theorem Ev.global {x : Str} {pos : Pos} {v : Value} {y : AV} (hk : X.env.kindOf x = some .globalImplicit) (hg : X.G.mg x = some v) (hr : ∀ B T n h, Rep X.w B T n h v y)
    (hd : autoParam ((x == ("__debug__" : Str)) = false) byDec) : Ev X (.Name x pos) σ y := fun T s S =>
  wq_of <| Calls.Name_function_global S.ok.kind hk (Calls.loadGlobal_global (mg := X.G.mg) (by rw [S.ok.glob]; exact S.pg.g) hg ⟨T, .refl _ _, hr _ _ _ _⟩) hd
theorem StB.load_builtin (S : St X σ T s) {x : Str} {pos : Pos} {v : Value} (hk : X.env.kindOf x = some .globalImplicit) (hg : X.G.mg x = none) (hb : bootBuiltins x = some v)
    {Q : Value → Shared → Prop} {E : Value → Shared → Prop} (hQ : Q v s) (hn : autoParam (x ≠ "__name__") byDec) (hd : autoParam ((x == ("__debug__" : Str)) = false) byDec) :
    wq X.M X.A (eval (.Name x pos) X.env) Q E s :=
  wq_of <| Calls.Name_function_global S.ok.kind hk (Calls.loadGlobal_builtin (mg := X.G.mg) (mb := X.G.mb) (by rw [S.ok.glob]; exact S.pg.g) hg (by rw [S.ok.bu]; exact S.pg.b) ((S.pg.builtins x hn).trans hb) hQ) hd
theorem StB.load_fn (S : St X σ T s) {x : Str} {pos : Pos} {a : Addr} {fd : FuncData} (hk : X.env.kindOf x = some .globalImplicit) (hf : X.G.fn x = some (a, fd))
    {Q : Value → Shared → Prop} {E : Value → Shared → Prop} (hQ : Q (.ref a) s) (hd : autoParam ((x == ("__debug__" : Str)) = false) byDec) :
    wq X.M X.A (eval (.Name x pos) X.env) Q E s :=
  wq_of <| Calls.Name_function_global S.ok.kind hk (Calls.loadGlobal_global (mg := X.G.mg) (by rw [S.ok.glob]; exact S.pg.g) (S.pg.fn x a fd hf).1 hQ) hd
omit [Lo] in
inductive RepL (W : World) (B : Addr → Prop) (T : Tx) (n : Nat) (h : Heap) : List Value → List AV → Prop where
  | nil : RepL W B T n h [] []
  | cons {v : Value} {x : AV} {vs : List Value} {xs : List AV} : Rep W B T n h v x → RepL W B T n h vs xs → RepL W B T n h (v :: vs) (x :: xs)
theorem RepL.cCons {B : Addr → Prop} {T : Tx} {n : Nat} {h : Heap} {x : AV} {xs : List AV} {motive : (vs : List Value) → RepL W B T n h vs (x :: xs) → Prop} (cons : ∀ {v : Value} {vs : List Value} (h1 : Rep W B T n h v x) (h2 : RepL W B T n h vs xs), motive (v :: vs) (.cons h1 h2)) {vs : List Value} (r : RepL W B T n h vs (x :: xs)) : motive vs r := by
  cases r with
  | cons h1 h2 => exact cons h1 h2
theorem RepL.cNil {B : Addr → Prop} {T : Tx} {n : Nat} {h : Heap} {motive : (vs : List Value) → RepL W B T n h vs [] → Prop} (nil : motive [] .nil) {vs : List Value} (r : RepL W B T n h vs []) : motive vs r := by
  cases r; exact nil
theorem RepL.le {B : Addr → Prop} {T T' : Tx} {s s' : Shared} {vs : List Value} {xs : List AV} (r : RepL W B T s.toks s.heap vs xs) (l : Le T s T' s') : RepL W B T' s'.toks s'.heap vs xs := by
  induction r with
  | nil => exact .nil
  | cons h _ ih => exact .cons (h.le l) ih
theorem RepL.length {B : Addr → Prop} {T : Tx} {n : Nat} {h : Heap} {vs : List Value} {xs : List AV} (r : RepL W B T n h vs xs) : vs.length = xs.length := by
  induction r with
  | nil => rfl
  | cons _ _ ih => simp [ih]
theorem RepL.at {B : Addr → Prop} {T : Tx} {n : Nat} {h : Heap} {vs : List Value} {xs : List AV} (r : RepL W B T n h vs xs) :
    ∀ (i : Nat) (v : Value) (x : AV), vs[i]? = some v → xs[i]? = some x → Rep W B T n h v x := by
  induction r with
  | nil => intro i v x h; simp at h
  | cons h _ ih =>
    intro i v x h1 h2
    cases i with
    | zero => simp at h1 h2; subst h1 h2; exact h
    | succ i => simp at h1 h2; exact ih i v x h1 h2
theorem RepL.of {B : Addr → Prop} {T : Tx} {n : Nat} {h : Heap} : ∀ {vs : List Value} {xs : List AV}, vs.length = xs.length →
    (∀ (i : Nat) (v : Value) (x : AV), vs[i]? = some v → xs[i]? = some x → Rep W B T n h v x) → RepL W B T n h vs xs
  | [], [], _, _ => .nil
  | v :: vs, x :: xs, hl, hi => .cons (hi 0 v x rfl rfl) (RepL.of (by simpa using hl) fun i v x h1 h2 => hi (i + 1) v x (by simpa using h1) (by simpa using h2))
  | [], _ :: _, hl, _ => by simp at hl
  | _ :: _, [], hl, _ => by simp at hl
theorem RepL.mono {B B' : Addr → Prop} {T T' : Tx} {n n' : Nat} {h h' : Heap} {vs : List Value} {xs : List AV} (r : RepL W B T n h vs xs)
    (hn : n ≤ n') (ht : ∀ t, t < n → T' t = T t) (he : Ext h h') (hB : ∀ a, B' a → B a ∨ h.get? a = Option.none) : RepL W B' T' n' h' vs xs := by
  induction r with
  | nil => exact .nil
  | cons h _ ih => exact .cons (h.mono hn ht he hB) ih
noncomputable abbrev PL (w : World) (B : Addr → Prop) (T : Tx) (s : Shared) (xs : List AV) (vs : List Value) (s' : Shared) : Prop := ∃ T', Le T s T' s' ∧ RepL w B T' s'.toks s'.heap vs xs
noncomputable abbrev PN (X : Cx) (σ : Sto) (T : Tx) (s : Shared) (x : AV) (v : Value) (s' : Shared) : Prop := ∃ T' a, v = .ref a ∧ Le T s T' s' ∧ s.heap.objs.size ≤ a ∧ OwnRep X.w (fun b => X.ban σ b ∨ b = a) T' s'.toks s'.heap a x
noncomputable def EvL (X : Cx) (es : List Expr) (σ : Sto) (xs : List AV) : Prop := ∀ T s, St X σ T s → ∀ pos,
  wq X.M X.A (spliced (backTo pos (starEach es X.env))) (PL X.w (X.ban σ) T s xs) noE s
theorem EvL.nil : EvL X [] σ [] := fun T s S pos => wq_args_nil ⟨T, .refl _ _, .nil⟩
theorem EvL.cons {e : Expr} {es : List Expr} {x : AV} {xs : List AV} (h1 : Ev X e σ x) (h2 : EvL X es σ xs)
    (he : autoParam (starEach (e :: es) X.env = (false, eval e X.env) :: starEach es X.env) byRfl) : EvL X (e :: es) σ (x :: xs) := fun T s S pos => by
  refine wq_args_cons (h1.then S fun v T' s' l S' r => ?_) he
  refine wq_mono (h2 T' s' S' pos) (fun vs s'' t_0 => x1a2 t_0 fun T'' l' r' => ?_) fun _ _ x => x
  exact ⟨T'', l.trans l', .cons (r.le l') r'⟩
theorem EvL.then {es : List Expr} {xs : List AV} (h : EvL X es σ xs) {T : Tx} {s : Shared} (S : St X σ T s) {pos : Pos} {Q : List Value → Shared → Prop} {E : Value → Shared → Prop}
    (k : ∀ vs T' s', Le T s T' s' → St X σ T' s' → RepL X.w (X.ban σ) T' s'.toks s'.heap vs xs → Q vs s') : wq X.M X.A (spliced (backTo pos (starEach es X.env))) Q E s :=
  wq_mono (h T s S pos) (fun vs s' t_0 => x1a2 t_0 fun T' l r => k vs T' s' l (S.le_mono l) r) fun _ _ x => x.elim
theorem le_push {T : Tx} {s : Shared} (o : Obj) : Le T s T { s with heap := s.heap.push o } := Le.mk' ((Ext.refl _).push o) (Nat.le_refl _)
theorem Ev.tuple {es : List Expr} {k : Nat} {pos : Pos} {xs : List AV} (h : EvL X es σ xs) (hl : autoParam (xs.length ≤ 16777216) byDec) : Ev X (.Tuple es k pos) σ (.tup xs) := fun T s S => by
  refine wq_Tuple (h.then S fun vs T' s' l S' r => ⟨by rw [r.length, sizeLine_eq]; exact hl, ?_⟩)
  refine ⟨T', l.trans (le_push _), .tup ?_ ⟨_, Heap.get?_push_size _ rfl, rfl, _, rfl⟩ (by simpa using r.length) ?_⟩
  · intro b; exact Nat.lt_irrefl _ (S'.ban_lt b)
  · have r' := r.le (le_push (T := T') (s := s') { cls := .type "tuple", data := .seq vs.toArray })
    intro i v x h1 h2; exact r'.at i v x (by simpa using h1) h2
noncomputable def EvN (X : Cx) (e : Expr) (σ : Sto) (x : AV) : Prop := ∀ T s, St X σ T s →
  wq X.M X.A (eval e X.env) (PN X σ T s x) noE s
theorem OwnRep.rep {B B' : Addr → Prop} {T : Tx} {n : Nat} {h : Heap} {a : Addr} {x : AV} (r : OwnRep W B T n h a x) (ha : ¬ B' a) (hB : ∀ b, B' b → B b) (hb : x.Open) : Rep W B' T n h (.ref a) x := by
  cases r with
  | list hl hs hi => exact .list ha hl hs fun i v x h1 h2 => (hi i v x h1 h2).sub hB
  | dict hl hs hk hi => exact .dict ha hl hs hk fun i v x h1 h2 => (hi i v x h1 h2).sub hB
  | barr b _ => exact absurd rfl (hb.1 _)
  | hid _ => exact absurd rfl hb.2
theorem EvN.ev {e : Expr} {x : AV} (h : EvN X e σ x) (hb : x.Open) : Ev X e σ x := fun T s S =>
  wq_mono (h T s S) (fun v s' t_0 => x2a4 t_0 fun T' a e l ha r => ⟨T', l, e ▸ r.rep (fun b => Nat.lt_irrefl _ (Nat.lt_of_lt_of_le (S.ban_lt b) ha)) (fun _ q => .inl q) hb⟩) fun _ _ x => x
theorem EvN.list {es : List Expr} {pos : Pos} {xs : List AV} (h : EvL X es σ xs) (hl : autoParam (xs.length ≤ 16777216) byDec) : EvN X (.List es pos) σ (.list xs) := fun T s S => by
  refine wq_List (h.then S fun vs T' s' l S' r => ⟨by rw [r.length, sizeLine_eq]; exact hl, ?_⟩)
  refine ⟨T', _, rfl, l.trans (le_push _), l.ext.1, .list ⟨_, Heap.get?_push_size _ rfl, rfl, rfl, rfl, _, rfl⟩ (by simpa using r.length) ?_⟩
  have r' := r.mono (B' := fun b => X.ban σ b ∨ b = s'.heap.objs.size) (Nat.le_refl _) (fun _ _ => rfl) ((Ext.refl _).push { cls := .type "list", data := .seq vs.toArray })
    (fun a q => q.imp id fun (e : a = _) => e ▸ Heap.get?_none_of_le (Nat.le_refl _))
  intro i v x h1 h2; exact r'.at i v x (by simpa using h1) h2
theorem Ev.list {es : List Expr} {pos : Pos} {xs : List AV} (h : EvL X es σ xs) (hl : autoParam (xs.length ≤ 16777216) byDec) : Ev X (.List es pos) σ (.list xs) :=
  (EvN.list h hl).ev ⟨fun _ q => (nomatch q), fun q => (nomatch q)⟩
end
end Mine
namespace Mine
open PySem PySem.W PyProof.Rows
variable [Lo]
variable {W : World}
omit [Lo] in
inductive XV where
  | index
  | ude (shallow : Bool) (start stop : Int) (reason : List Nat)
omit [Lo] in
noncomputable def XV.cls : XV → String
  | .index => "IndexError"
  | .ude .. => "UnicodeDecodeError"
omit [Lo] in
noncomputable def Chain0 (lo : Addr) (h : Heap) (v : Value) : Prop := v = .none ∨ ∃ b o ws, v = .ref b ∧ lo ≤ b ∧ h.get? b = some o ∧ o.cls ≠ .type "traceback" ∧ o.data = .fields ws ∧ ws[2]? = some .none
omit [Lo] in
noncomputable def XFields (lo : Addr) (h : Heap) (T : Tx) (n : Nat) (vs : Array Value) : XV → Prop
  | .index => vs[2]? = some .none
  | .ude d i j r => vs.size = 11 ∧ (∃ t, vs[8]? = some (.int i t)) ∧ (∃ t, vs[9]? = some (.int j t)) ∧ (∃ v, vs[10]? = some v ∧ StrAt T n v r) ∧ (d = true → ∃ c, vs[2]? = some c ∧ Chain0 lo h c)
omit [Lo] in
noncomputable def TbOk (lo : Addr) (h : Heap) (a : Addr) (vs : Array Value) : Prop :=
  vs[1]? = some .none ∨ ∃ t ot ts, vs[1]? = some (.ref t) ∧ lo ≤ t ∧ t ≠ a ∧ h.get? t = some ot ∧ ot.cls = .type "traceback" ∧ ot.data = .fields ts ∧ 3 < ts.size
omit [Lo] in
structure ExcAt (lo : Addr) (tr : Bool) (T : Tx) (n : Nat) (h : Heap) (a : Addr) (x : XV) : Prop where
  ge : lo ≤ a
  at_ : ∃ o vs, h.get? a = some o ∧ o.cls = .type x.cls ∧ o.dict = none ∧ o.data = .fields vs ∧ 6 ≤ vs.size ∧ XFields lo h T n vs x ∧ TbOk lo h a vs ∧ (tr = true → vs[1]? ≠ some .none)
structure Shift (lo : Addr) (h h' : Heap) : Prop where
  size : h.objs.size ≤ h'.objs.size
  low : ∀ b o, b < lo → h.get? b = some o → ∃ sl, h'.get? b = some { o with slots := keepS b o sl }
  data : ∀ b o, h.get? b = some o → (∀ vs, o.data ≠ .fields vs) → ∃ sl, h'.get? b = some { o with slots := keepS b o sl }
  exc : ∀ b o vs, h.get? b = some o → o.cls = .type "UnicodeDecodeError" → o.data = .fields vs → ∃ o' vs', h'.get? b = some o' ∧ o'.cls = o.cls ∧ o'.dict = o.dict ∧ o'.data = .fields vs' ∧ vs'.size = vs.size ∧ ∀ i, 5 ≤ i → vs'[i]? = vs[i]?
theorem Shift.refl (lo : Addr) (h : Heap) : Shift lo h h := ⟨Nat.le_refl _, fun _ o _ e => ⟨o.slots, keepS_re e⟩, fun _ o e _ => ⟨o.slots, keepS_re e⟩, fun b o vs e _ hd => ⟨o, vs, e, rfl, rfl, hd, rfl, fun _ _ => rfl⟩⟩
theorem Shift.trans {lo : Addr} {h₁ h₂ h₃ : Heap} (x : Shift lo h₁ h₂) (y : Shift lo h₂ h₃) : Shift lo h₁ h₃ :=
  ⟨Nat.le_trans x.size y.size, fun b o hb e => let ⟨_, e₁⟩ := x.low b o hb e; x1a1 (y.low b _ hb e₁) fun sl e₂ => ⟨sl, keepS_tr e₂⟩,
   fun b o e hd => let ⟨_, e₁⟩ := x.data b o e hd; x1a1 (y.data b _ e₁ hd) fun sl e₂ => ⟨sl, keepS_tr e₂⟩,
   fun b o vs e hc hd => x2a6 (x.exc b o vs e hc hd) fun o₁ vs₁ a1 a2 a3 a4 a5 a6 => x2a6 (y.exc b o₁ vs₁ a1 (a2.trans hc) a4) fun o₂ vs₂ b1 b2 b3 b4 b5 b6 => ⟨o₂, vs₂, b1, b2.trans a2, b3.trans a3, b4, b5.trans a5, fun i hi => (b6 i hi).trans (a6 i hi)⟩⟩
theorem Rep.shift {lo : Addr} {B : Addr → Prop} {T : Tx} {n : Nat} {h h' : Heap} {v : Value} {x : AV} (r : Rep W B T n h v x) (e : Shift lo h h') : Rep W B T n h' v x := by
  induction r with
  | none => exact .none
  | bool b => exact .bool b
  | int i t => exact .int i t
  | str s => exact .str s
  | bytes b t => exact .bytes b t
  | txt x t => exact .txt x t
  | tup hb hl hs _ ih => refine x1a3 hl fun o ho hc t_0 => ?_; (try clear hl); refine x1a1 t_0 fun m hd => ?_; (try clear t_0); refine x1a1 (e.data _ o ho (fun vs q => by rw [hd] at q; cases q)) fun sl ho' => ?_; exact .tup hb ⟨_, ho', hc, m, hd⟩ hs ih
  | list hb hl hs _ ih => refine x1a5 hl fun o ho hc hn hsl t_0 => ?_; (try clear hl); refine x1a1 t_0 fun m hd => ?_; (try clear t_0); refine x1a1 (e.data _ o ho (fun vs q => by rw [hd] at q; cases q)) fun sl ho' => ?_; exact .list hb ⟨_, ho', hc, hn, (keepS_ne (by rw [hc]; decide)).trans hsl, m, hd⟩ hs ih
  | dict hb hl hs hk _ ih => refine x0a2 hl fun t_0 ky => ?_; (try clear hl); refine x1a5 t_0 fun o ho hc hn hsl t_1 => ?_; (try clear t_0); refine x1a1 t_1 fun m hd => ?_; (try clear t_1); refine x1a1 (e.data _ o ho (fun vs q => by rw [hd] at q; cases q)) fun sl ho' => ?_; exact .dict hb ⟨⟨_, ho', hc, hn, (keepS_ne (by rw [hc]; decide)).trans hsl, m, hd⟩, ky⟩ hs hk ih
  | exc hb ho hc hdi hd hf =>
    refine x2a6 (e.exc _ _ _ ho hc hd) fun o' vs' a1 a2 a3 a4 a5 a6 => ?_
    exact .exc hb a1 (a2.trans hc) (a3.trans hdi) a4 ⟨a5.trans hf.size, x1a1 hf.start fun t h => ⟨t, (a6 8 (by decide)).trans h⟩, x1a1 hf.stop fun t h => ⟨t, (a6 9 (by decide)).trans h⟩, x1a2 hf.reason fun v h1 h2 => ⟨v, (a6 10 (by decide)).trans h1, h2⟩⟩
theorem OwnRep.shift {lo : Addr} {B : Addr → Prop} {T : Tx} {n : Nat} {h h' : Heap} {a : Addr} {x : AV} (r : OwnRep W B T n h a x) (e : Shift lo h h') : OwnRep W B T n h' a x := by
  cases r with
  | list hl hs hi => refine x1a5 hl fun o ho hc hn hsl t_0 => ?_; (try clear hl); refine x1a1 t_0 fun m hd => ?_; (try clear t_0); refine x1a1 (e.data _ o ho (fun vs q => by rw [hd] at q; cases q)) fun sl ho' => ?_; exact .list ⟨_, ho', hc, hn, (keepS_ne (by rw [hc]; decide)).trans hsl, m, hd⟩ hs fun i v x h1 h2 => (hi i v x h1 h2).shift e
  | dict hl hs hk hi => refine x0a2 hl fun t_0 ky => ?_; (try clear hl); refine x1a5 t_0 fun o ho hc hn hsl t_1 => ?_; (try clear t_0); refine x1a1 t_1 fun m hd => ?_; (try clear t_1); refine x1a1 (e.data _ o ho (fun vs q => by rw [hd] at q; cases q)) fun sl ho' => ?_; exact .dict ⟨⟨_, ho', hc, hn, (keepS_ne (by rw [hc]; decide)).trans hsl, m, hd⟩, ky⟩ hs hk fun i v x h1 h2 => (hi i v x h1 h2).shift e
  | barr b hb => refine x1a4 hb fun o ho hc m hd => ?_; (try clear hb); refine x1a1 (e.data _ o ho (fun vs q => by rw [hd] at q; cases q)) fun sl ho' => ?_; exact .barr b ⟨_, ho', hc, m, hd⟩
  | hid hb => refine x1a4 hb fun o ho hc hn t_0 => ?_; (try clear hb); refine x2a2 t_0 fun x y hd hs => ?_; (try clear t_0); refine x1a1 (e.data _ o ho (fun vs q => by rw [hd] at q; cases q)) fun sl ho' => ?_; exact .hid ⟨_, ho', hc, hn, x, y, hd, (keepS_ne (by rw [hc]; decide)).trans hs⟩
theorem StB.shift {lo : Addr} {B : Addr → Prop} {X : Cx} {σ : Sto} {T : Tx} {s : Shared} (S : StB B X σ T s) {h' : Heap} (e : Shift lo s.heap h') (hlo : X.s0.heap.objs.size ≤ lo) : StB B X σ T { s with heap := h' } where
  ok := S.ok
  le := by
    refine ⟨⟨Nat.le_trans S.le.ext.1 e.size, fun b o hb => ?_⟩, S.le.toks, S.le.tx, S.le.gens, S.le.os⟩
    refine x1a1 (S.le.ext.2 b o hb) fun sl h1 => ?_
    refine x1a1 (e.low b _ (Nat.lt_of_lt_of_le (Heap.lt_size hb) hlo) h1) fun sl' h2 => ?_
    exact ⟨sl', keepS_tr h2⟩
  pos := S.pos
  fro := S.fro.of fun b t_0 => x1a4 t_0 fun o hb hc hL t_1 => x2a1 t_1 fun es ep hd => let ⟨_, h1⟩ := e.data b o hb (fun vs q => by rw [hd] at q; cases q); ⟨_, h1, hc, hL, es, ep, hd⟩
  vars := by
    refine x1a2 (S.vars) fun m t_0 hv => ?_; refine x3a4 t_0 fun o es ep ho hd hk hm => ?_; (try clear t_0)
    refine x1a1 (e.data _ o ho (fun vs q => by rw [hd] at q; cases q)) fun sl ho' => ?_
    refine ⟨m, ⟨_, es, ep, ho', hd, hk, hm⟩, fun x c hc => ?_⟩
    refine x1a2 (hv x c hc) fun v h1 h2 => ?_
    refine ⟨v, ?_, ?_⟩
    · unfold VarAt at *
      split at h1
      · exact h1
      · refine x1a2 h1 fun a c1 t_0 => ?_; (try clear h1); refine x1a2 t_0 fun o c2 c3 => ?_; (try clear t_0)
        refine x1a1 (e.data _ o c2 (fun vs q => by rw [c3] at q; cases q)) fun sl c2' => ?_
        exact ⟨a, c1, _, c2', c3⟩
      · refine x1a2 h1 fun a c1 t_0 => ?_; (try clear h1); refine x1a2 t_0 fun o c2 c3 => ?_; (try clear t_0)
        refine x1a1 (e.data _ o c2 (fun vs q => by rw [c3] at q; cases q)) fun sl c2' => ?_
        exact ⟨a, c1, _, c2', c3⟩
      · exact h1
    · obtain ⟨w, y⟩ := c
      cases w with
      | none => exact Rep.shift h2 e
      | some a => exact ⟨h2.1, h2.2.shift e⟩
  cells := fun x a hx => by
    refine x0a3 (S.cells x a hx) fun h1 h2 t_0 => ?_; refine x2a2 t_0 fun v o c2 c3 => ?_; (try clear t_0)
    refine x1a1 (e.data _ o c2 (fun vs q => by rw [c3] at q; cases q)) fun sl c2' => ?_
    exact ⟨h1, h2, v, _, c2', c3⟩
  apart := S.apart
  fresh := S.fresh
  one := S.one
theorem frOk_fun {h : Heap} : ∀ {l : List Env}, FrOk h l → h.FunFrames {} l
  | [], _ => trivial
  | _ :: _, ⟨h1, ⟨L, h2, o, h3, _, _, es, ep, h4⟩, h5⟩ => ⟨h1, ⟨L, o, h2, by simp [Heap.get?], h3, fun vs q => by rw [h4] at q; cases q⟩, frOk_fun h5⟩
theorem frOk_mem {h : Heap} {b : Addr} : ∀ {l : List Env}, FrOk h l → b ∈ l.filterMap (·.frame) → FrAt h b
  | [], _, hm => by simp at hm
  | env :: l, ⟨h1, ⟨L, h2, h3⟩, h5⟩, hm => by
    rw [List.filterMap_cons, h2] at hm
    rcases List.mem_cons.mp hm with e | hm
    · exact e ▸ h3
    · exact frOk_mem h5 hm
theorem Chain0.of {lo lo' : Addr} {h h' : Heap} {v : Value} (c : Chain0 lo h v) (hl : lo' ≤ lo) (k : ∀ b o ws, h.get? b = some o → o.cls ≠ .type "traceback" → o.data = .fields ws → ws[2]? = some .none →
    ∃ o' ws', h'.get? b = some o' ∧ o'.cls ≠ .type "traceback" ∧ o'.data = .fields ws' ∧ ws'[2]? = some .none) : Chain0 lo' h' v := by
  rcases c with c | ⟨b, o, ws, h1, h0, h2, h3, h4, h5⟩
  · exact .inl c
  · refine x2a4 (k b o ws h2 h3 h4 h5) fun o' ws' c1 c2 c3 c4 => ?_
    exact .inr ⟨b, o', ws', h1, Nat.le_trans hl h0, c1, c2, c3, c4⟩
theorem XFields.of {lo lo' : Addr} {h h' : Heap} {T : Tx} {n : Nat} {vs vs' : Array Value} {x : XV} (f : XFields lo h T n vs x) (hl : lo' ≤ lo) (hs : vs'.size = vs.size) (hv : ∀ i, i ≠ 1 → vs'[i]? = vs[i]?)
    (k : ∀ b o ws, h.get? b = some o → o.cls ≠ .type "traceback" → o.data = .fields ws → ws[2]? = some .none →
      ∃ o' ws', h'.get? b = some o' ∧ o'.cls ≠ .type "traceback" ∧ o'.data = .fields ws' ∧ ws'[2]? = some .none) : XFields lo' h' T n vs' x := by
  cases x with
  | index => exact (hv 2 (by decide)).trans f
  | ude d i j r =>
    refine x0a5 f fun f1 t_0 t_1 t_2 f6 => ?_; (try clear f); refine x1a1 t_0 fun t f2 => ?_; (try clear t_0); refine x1a1 t_1 fun u f3 => ?_; (try clear t_1); refine x1a2 t_2 fun v f4 f5 => ?_; (try clear t_2)
    refine ⟨hs.trans f1, ⟨t, (hv 8 (by decide)).trans f2⟩, ⟨u, (hv 9 (by decide)).trans f3⟩, ⟨v, (hv 10 (by decide)).trans f4, f5⟩, fun hd => ?_⟩
    refine x1a2 (f6 hd) fun c f7 f8 => ?_
    exact ⟨c, (hv 2 (by decide)).trans f7, f8.of hl k⟩
section
variable {M : Model} {A : Around} {E : Value → Shared → Prop} {s : Shared} {lo : Addr} {tr : Bool} {T : Tx} {n : Nat} {a : Addr} {x : XV}
theorem wpAny_entryX {env : Env} {outer : List Env} {L : Addr} {o : Obj} {vs : Array Value} {head : Value} {hadNext : Bool} {Q : Unit → Shared → Prop}
    (hfr : A.frames = some (env :: outer)) (hl : FrOk s.heap (env :: outer)) (hf : env.frame = some L) (hlo : lo ≤ s.heap.objs.size) (ge : lo ≤ a)
    (ho : s.heap.get? a = some o) (hc : o.cls = .type x.cls) (hdi : o.dict = none) (hd : o.data = .fields vs) (hsz : 6 ≤ vs.size) (hx : XFields lo s.heap T n vs x)
    (h : ∀ h', Shift lo s.heap h' → ExcAt lo true T n h' a x → Q () { s with heap := h' }) :
    wpAny M A (do let f ← frameOf env; let pl ← entryPlaceOf L hadNext; let b ← EntryCells.newEntry head f .none (rawInt L) .none pl; setField (.ref a) 1 b) Q E s := by
  have hna : a ∉ (env :: outer).filterMap (·.frame) := fun hm => by
    refine x0a2 ((frOk_fun hl).mem hm) fun _ t_0 => ?_; refine x1a2 t_0 fun o' ho' hnf => ?_; (try clear t_0)
    rw [ho] at ho'; injection ho' with ho'; subst ho'; exact hnf vs hd
  refine wpAny_bind (wpAny_frameOf_fun hfr (frOk_fun hl) hf fun h₁ hs₁ => ?_)
  refine wpAny_bind (wpAny_entryPlaceOf fun pl hpl => ?_)
  unfold EntryCells.newEntry newFields
  refine wpAny_bind (wpAny_newObj_type ?_ (hpl.sizeOk5 _ _ _ _ _))
  have he₁ : h₁.get? a = some o := (hs₁.2.1 a hna).trans ho
  generalize hts : ([head, .ref L, .none, rawInt L, .none] ++ (if pl.isEmpty then List.replicate 6 Value.none else pl)).toArray = ts
  have hts3 : 3 < ts.size := by subst hts; simp
  have he₂ := Heap.get?_push_of_some (h := h₁) { cls := .type "traceback", dict := none, data := .fields ts } he₁
  refine wpAny_setField he₂ hd (by lia) ?_
  have hTa : h₁.objs.size ≠ a := Nat.ne_of_gt (Heap.lt_size he₁)
  have hd₃ := Obj.data_mapFields hd (·.setIfInBounds 1 (Value.ref h₁.objs.size))
  have he₃ := Heap.get?_update_self (Obj.mapFields (·.setIfInBounds 1 (Value.ref h₁.objs.size))) he₂ (Obj.isFreed_of_fields hd₃)
  have keep : ∀ b o', b ≠ a → s.heap.get? b = some o' → ∃ sl, ((h₁.push { cls := .type "traceback", dict := none, data := .fields ts }).update a (Obj.mapFields (·.setIfInBounds 1 (Value.ref h₁.objs.size)))).get? b = some { o' with slots := keepS b o' sl } := fun b o' hb hb' => by
    by_cases hm : b ∈ (env :: outer).filterMap (·.frame)
    · refine x1a1 (hs₁.2.2 b o' hb') fun sl e => ?_
      refine x1a4 (frOk_mem hl hm) fun o2 f1 f2 f3 _ => ?_
      rw [hb'] at f1; (have f1 := Option.some.inj f1; subst f1)
      refine ⟨sl, (Heap.get?_update_other _ _ (Ne.symm hb)).trans (Heap.get?_push_of_some _ ?_)⟩
      rw [e]; unfold keepS; rw [if_pos ⟨f2, f3⟩]
    · exact ⟨o'.slots, keepS_re ((Heap.get?_update_other _ _ (Ne.symm hb)).trans (Heap.get?_push_of_some _ ((hs₁.2.1 b hm).trans hb')))⟩
  have hexc : ∀ b o' ws, s.heap.get? b = some o' → o'.cls = .type "UnicodeDecodeError" → o'.data = .fields ws → ∃ o2 vs', ((h₁.push { cls := .type "traceback", dict := none, data := .fields ts }).update a (Obj.mapFields (·.setIfInBounds 1 (Value.ref h₁.objs.size)))).get? b = some o2 ∧ o2.cls = o'.cls ∧ o2.dict = o'.dict ∧ o2.data = .fields vs' ∧ vs'.size = ws.size ∧ ∀ i, 5 ≤ i → vs'[i]? = ws[i]? := fun b o' ws e hcl hdw => by
    by_cases q : b = a
    · subst q
      rw [ho] at e; (have e := Option.some.inj e; subst e)
      rw [hd] at hdw; cases hdw
      refine ⟨_, _, he₃, by rw [Obj.cls_mapFields], ?_, hd₃, by simp, fun i hi => by rw [Array.getElem?_setIfInBounds]; rw [if_neg (by (clear hts3 hsz; lia))]⟩
      obtain ⟨c0, d0, dt0, sl0⟩ := o; dsimp only at hd; subst hd; rfl
    · refine x1a1 (keep b o' q e) fun sl e' => ?_
      exact ⟨_, ws, e', rfl, rfl, hdw, rfl, fun _ _ => rfl⟩
  refine h _ ⟨?_, fun b o' hb hb' => keep b o' (Nat.ne_of_lt (Nat.lt_of_lt_of_le hb ge)) hb', fun b o' hb' hdn => keep b o' (fun q => by subst q; rw [ho] at hb'; (have hb' := Option.some.inj hb'; subst hb'); exact hdn vs hd) hb', hexc⟩ ⟨ge, _, _, he₃, ?_, ?_, hd₃, ?_, ?_, ?_, ?_⟩
  · rw [Heap.size_after_update, Heap.size_push, hs₁.1]; (clear hts3 hsz; lia)
  · rw [Obj.cls_mapFields]; exact hc
  · obtain ⟨c0, d0, dt0, sl0⟩ := o; dsimp only at hd hdi; subst hd; exact hdi
  · simpa using hsz
  · refine hx.of (Nat.le_refl _) (by simp) (fun i hi => by rw [Array.getElem?_setIfInBounds]; rw [if_neg (Ne.symm hi)]) fun b o' ws hb hcl hdw hw => ?_
    by_cases q : b = a
    · subst q
      rw [ho] at hb; (have hb := Option.some.inj hb; subst hb)
      rw [hd] at hdw; cases hdw
      exact ⟨_, _, he₃, by rw [Obj.cls_mapFields]; exact hcl, hd₃, by rw [Array.getElem?_setIfInBounds, if_neg (by decide)]; exact hw⟩
    · refine x1a1 (keep b o' q hb) fun sl e => ?_
      exact ⟨_, ws, e, hcl, hdw, hw⟩
  · refine .inr ⟨h₁.objs.size, _, ts, ?_, by rw [hs₁.1]; exact hlo, hTa, (Heap.get?_update_other _ _ (Ne.symm hTa)).trans (Heap.get?_push_size _ rfl), rfl, rfl, hts3⟩
    rw [Array.getElem?_setIfInBounds, if_pos rfl, if_pos (by lia)]
  · intro _
    rw [Array.getElem?_setIfInBounds, if_pos rfl, if_pos (by lia)]
    simp
theorem wpAny_setFlightX {f : Option Addr} {Q : Unit → Shared → Prop} (hx : ExcAt lo tr T n s.heap a x)
    (h : ∀ h', Shift lo s.heap h' → ExcAt lo tr T n h' a x → Q () { s with heap := h' }) : wpAny M A (setFlight (.ref a) f) Q E s := by
  obtain ⟨ge, o, vs, ho, hc, hdi, hd, hsz, hfs, htb, htr⟩ := hx
  unfold setFlight
  rcases htb with h1 | ⟨t, ot, ts, h1, hlt, hta, hot, htc, htd, h3⟩
  · refine wpAny_bind (wpAny_field ho hd h1 ?_)
    rw [if_neg (by decide)]
    exact wpAny_pure (h _ (.refl _ _) ⟨ge, o, vs, ho, hc, hdi, hd, hsz, hfs, .inl h1, htr⟩)
  · refine wpAny_bind (wpAny_field ho hd h1 ?_)
    rw [if_pos (show (Value.ref t != Value.none) = true from by simp)]
    refine wpAny_setField hot htd h3 ?_
    have other : ∀ b, b ≠ t → (s.heap.update t (Obj.mapFields (·.setIfInBounds 3 (f.elim .none fun f => rawInt f)))).get? b = s.heap.get? b := fun b hb => Heap.get?_update_other _ _ (Ne.symm hb)
    have hd₃ := Obj.data_mapFields htd (·.setIfInBounds 3 (f.elim .none fun f => rawInt f))
    have hself := Heap.get?_update_self (Obj.mapFields (·.setIfInBounds 3 (f.elim .none fun f => rawInt f))) hot (Obj.isFreed_of_fields hd₃)
    refine h _ ⟨by simp, fun b o' hb e => ⟨o'.slots, keepS_re ((other b (Nat.ne_of_lt (Nat.lt_of_lt_of_le hb hlt))).trans e)⟩, fun b o' e hdn => ⟨o'.slots, keepS_re ((other b (fun q => by subst q; rw [hot] at e; (have e := Option.some.inj e; subst e); exact hdn ts htd)).trans e)⟩, fun b o' ws e hcl hdw => ⟨o', ws, (other b (fun q => by subst q; rw [hot] at e; (have e := Option.some.inj e; subst e); rw [htc] at hcl; simp at hcl)).trans e, rfl, rfl, hdw, rfl, fun _ _ => rfl⟩⟩
      ⟨ge, o, vs, (other a (Ne.symm hta)).trans ho, hc, hdi, hd, hsz, hfs.of (Nat.le_refl _) rfl (fun _ _ => rfl) fun b o' ws hb hcl hdw hw => ?_, ?_, htr⟩
    · exact ⟨o', ws, (other b (fun q => by subst q; rw [hot] at hb; (have hb := Option.some.inj hb; subst hb); exact hcl htc)).trans hb, hcl, hdw, hw⟩
    · exact .inr ⟨t, _, _, h1, hlt, hta, hself, by rw [Obj.cls_mapFields]; exact htc, hd₃, by simpa using h3⟩
theorem wpAny_noteX {env : Env} {outer : List Env} {L : Addr} {Q : Unit → Shared → Prop}
    (hfr : A.frames = some (env :: outer)) (hl : FrOk s.heap (env :: outer)) (hf : env.frame = some L) (hlo : lo ≤ s.heap.objs.size) (hx : ExcAt lo tr T n s.heap a x)
    (h : ∀ h', Shift lo s.heap h' → ExcAt lo true T n h' a x → Q () { s with heap := h' }) : wpAny M A (noteFrame (.ref a) env) Q E s := by
  obtain ⟨ge, o, vs, ho, hc, hdi, hd, hsz, hfs, htb, htr⟩ := hx
  unfold noteFrame
  simp only [hf]
  rcases htb with h1 | ⟨t, ot, ts, h1, hlt, hta, hot, htc, htd, h3⟩
  · refine wpAny_bind (wpAny_field ho hd h1 ?_)
    rw [if_neg (by decide)]
    exact wpAny_entryX hfr hl hf hlo ge ho hc hdi hd hsz hfs h
  · refine wpAny_bind (wpAny_field ho hd h1 ?_)
    rw [if_pos (show (Value.ref t != Value.none) = true from by simp)]
    obtain ⟨z, hz⟩ : ∃ z, ts[3]? = some z := ⟨ts[3], by rw [Array.getElem?_eq_getElem h3]⟩
    refine wpAny_bind (wpAny_field hot htd hz ?_)
    by_cases q : (z == rawInt L) = true
    · rw [if_pos q]
      exact wpAny_pure (h _ (.refl _ _) ⟨ge, o, vs, ho, hc, hdi, hd, hsz, hfs, .inr ⟨t, ot, ts, h1, hlt, hta, hot, htc, htd, h3⟩, fun _ => by rw [h1]; simp⟩)
    · rw [if_neg q]
      refine wpAny_bind (wpAny_setField hot htd h3 ?_)
      have other : ∀ b, b ≠ t → (s.heap.update t (Obj.mapFields (·.setIfInBounds 3 Value.none))).get? b = s.heap.get? b := fun b hb => Heap.get?_update_other _ _ (Ne.symm hb)
      have sh : Shift lo s.heap (s.heap.update t (Obj.mapFields (·.setIfInBounds 3 Value.none))) :=
        ⟨by simp, fun b o' hb e => ⟨o'.slots, keepS_re ((other b (Nat.ne_of_lt (Nat.lt_of_lt_of_le hb hlt))).trans e)⟩, fun b o' e hdn => ⟨o'.slots, keepS_re ((other b (fun q => by subst q; rw [hot] at e; (have e := Option.some.inj e; subst e); exact hdn ts htd)).trans e)⟩, fun b o' ws e hcl hdw => ⟨o', ws, (other b (fun q => by subst q; rw [hot] at e; (have e := Option.some.inj e; subst e); rw [htc] at hcl; simp at hcl)).trans e, rfl, rfl, hdw, rfl, fun _ _ => rfl⟩⟩
      refine wpAny_entryX (s := { s with heap := s.heap.update t (Obj.mapFields (·.setIfInBounds 3 Value.none)) }) hfr (hl.of fun b t_0 => x1a3 t_0 fun o' e fc fd => ?_) hf (by simpa using hlo) ge ((other a (Ne.symm hta)).trans ho) hc hdi hd hsz
        (hfs.of (Nat.le_refl _) rfl (fun _ _ => rfl) fun b o' ws hb hcl hdw hw => ⟨o', ws, (other b (fun q => by subst q; rw [hot] at hb; (have hb := Option.some.inj hb; subst hb); exact hcl htc)).trans hb, hcl, hdw, hw⟩)
        fun h' sh' hx' => h h' (sh.trans sh') hx'
      exact ⟨o', (other b (fun q => by subst q; rw [hot] at e; (have e := Option.some.inj e; subst e); refine x0a2 fd fun _ t_0 => ?_; (try clear fd); refine x2a1 t_0 fun es ep fd => ?_; (try clear t_0); rw [htd] at fd; cases fd)).trans e, fc, fd⟩
theorem wpAny_leavingX {env : Env} {outer : List Env} {L : Addr} {Q : Unit → Shared → Prop}
    (hfr : A.frames = some (env :: outer)) (hl : FrOk s.heap (env :: outer)) (hf : env.frame = some L) (hlo : lo ≤ s.heap.objs.size) (hx : ExcAt lo tr T n s.heap a x)
    (h : ∀ h', Shift lo s.heap h' → ExcAt lo true T n h' a x → Q () { s with heap := h' }) : wpAny M A (leaving env (.ref a)) Q E s := by
  unfold leaving
  refine wpAny_bind (wpAny_noteX hfr hl hf hlo hx fun h₁ sh₁ hx₁ => ?_)
  exact wpAny_setFlightX hx₁ fun h₂ sh₂ hx₂ => h h₂ (sh₁.trans sh₂) hx₂
theorem cameBackX {env : Env} (hx : ExcAt lo true T n s.heap a x) (h : ∀ h', Shift lo s.heap h' → ExcAt lo true T n h' a x → E (.ref a) { s with heap := h' }) : cameBackBy M A env E (.ref a) s := by
  unfold cameBackBy
  obtain ⟨o, vs, ho, hc, hdi, hd, hsz, hfs, htb, htr⟩ := hx.at_
  obtain ⟨z, hz⟩ : ∃ z, vs[1]? = some z := ⟨vs[1]'(by lia), by rw [Array.getElem?_eq_getElem (by lia)]⟩
  refine wpAny_bind (wpAny_field ho hd hz ?_)
  have hzn : (z == Value.none) = false := by
    have := htr rfl
    rw [hz] at this
    exact beq_false_of_ne fun q => this (by rw [q])
  rw [if_neg (by rw [hzn]; decide)]
  exact wpAny_setFlightX hx h
end
end Mine
namespace Mine
open PySem PySem.W PyProof.Rows
variable [Lo]
variable {W : World}
omit [Lo] in
inductive Out where
  | next
  | brk
  | cont
  | ret (v : AV)
  | exc (x : XV)
omit [Lo] in
noncomputable def Cx.Top (X : Cx) : Prop := (∃ outer, X.fr = X.env :: outer) ∧ X.env.frame = some X.env.locals
omit [Lo] in
noncomputable def FlowIs (X : Cx) (T : Tx) (s : Shared) (f : Flow) : Out → Prop
  | .next => f = .next
  | .brk => f = .brk
  | .cont => f = .cont
  | .ret v => ∃ w, f = .ret w ∧ Rep X.w X.B0 T s.toks s.heap w v
  | .exc _ => False
structure Nx (X : Cx) (σ : Sto) (T : Tx) (s : Shared) (σ' : Sto) (T' : Tx) (s' : Shared) : Prop where
  st : St X σ' T' s'
  le : LeB (X.ban σ) T s T' s'
  ban : ∀ b, b < s.heap.objs.size → X.ban σ' b → X.ban σ b
theorem Nx.refl {X : Cx} {σ : Sto} {T : Tx} {s : Shared} (S : St X σ T s) : Nx X σ T s σ T s := ⟨S, .refl _ _ _, fun _ _ q => q⟩
theorem Nx.of_le {X : Cx} {σ : Sto} {T T' : Tx} {s s' : Shared} (S : St X σ T s) (l : Le T s T' s') : Nx X σ T s σ T' s' := ⟨S.le_mono l, l.leB _, fun _ _ q => q⟩
theorem Nx.trans {X : Cx} {σ σ₁ σ₂ : Sto} {T T₁ T₂ : Tx} {s s₁ s₂ : Shared} (x : Nx X σ T s σ₁ T₁ s₁) (y : Nx X σ₁ T₁ s₁ σ₂ T₂ s₂) : Nx X σ T s σ₂ T₂ s₂ :=
  ⟨y.st, x.le.trans y.le x.ban, fun b hb q => x.ban b hb (y.ban b (Nat.lt_of_lt_of_le hb x.le.size) q)⟩
theorem Nx.sub {X : Cx} {σ σ₁ σ₂ : Sto} {T T₁ : Tx} {s s₁ : Shared} (x : Nx X σ T s σ₁ T₁ s₁) (h : Sto.Sub σ₂ σ₁) : Nx X σ T s σ₂ T₁ s₁ :=
  ⟨x.st.sub h, x.le, fun b hb q => x.ban b hb (Cx.ban_sub h q)⟩
omit [Lo] in
noncomputable abbrev Post := Out → Sto → Prop
noncomputable abbrev PF (X : Cx) (σ : Sto) (T : Tx) (s : Shared) (Q : Post) (f : Flow) (s' : Shared) : Prop := ∃ T' o σ', Nx X σ T s σ' T' s' ∧ FlowIs X T' s' f o ∧ Q o σ'
noncomputable abbrev PX (X : Cx) (σ : Sto) (T : Tx) (s : Shared) (Q : Post) (e : Value) (s' : Shared) : Prop := ∃ T' x σ' a, e = .ref a ∧ Nx X σ T s σ' T' s' ∧ ExcAt s.heap.objs.size false T' s'.toks s'.heap a x ∧ Q (.exc x) σ'
noncomputable def ExT (X : Cx) (t : Sem Flow) (σ : Sto) (Q : Post) : Prop := ∀ T s, St X σ T s →
  wq X.M X.A t (PF X σ T s Q) (PX X σ T s Q) s
noncomputable abbrev Ex (X : Cx) (ss : List Stmt) (σ : Sto) (Q : Post) : Prop := ExT X (execs ss X.env) σ Q
noncomputable abbrev Ex1 (X : Cx) (st : Stmt) (σ : Sto) (Q : Post) : Prop := ExT X (exec st X.env) σ Q
noncomputable def Seq (X : Cx) (rest : List Stmt) (Q : Post) : Post := fun o σ => match o with
  | .next => Ex X rest σ Q
  | o => Q o σ
theorem ExcAt.weak {lo lo' : Addr} {tr : Bool} {T : Tx} {n : Nat} {h : Heap} {a : Addr} {x : XV} (e : ExcAt lo tr T n h a x) (hl : lo' ≤ lo) : ExcAt lo' false T n h a x := by
  obtain ⟨ge, o, vs, ho, hc, hdi, hd, hsz, hfs, htb, htr⟩ := e
  refine ⟨Nat.le_trans hl ge, o, vs, ho, hc, hdi, hd, hsz, hfs.of hl rfl (fun _ _ => rfl) (fun b o ws h1 h2 h3 h4 => ⟨o, ws, h1, h2, h3, h4⟩), ?_, fun q => nomatch q⟩
  rcases htb with h1 | ⟨t, ot, ts, h1, hlt, r⟩
  · exact .inl h1
  · exact .inr ⟨t, ot, ts, h1, Nat.le_trans hl hlt, r⟩
section
variable {X : Cx} {σ : Sto} {Q : Post}
theorem ExT.mono {t : Sem Flow} {Q' : Post} (h : ExT X t σ Q) (k : ∀ o σ', Q o σ' → Q' o σ') : ExT X t σ Q' := fun T s S =>
  wq_mono (h T s S) (fun f s' t_0 => x3a3 t_0 fun T' o σ' n f' q => ⟨T', o, σ', n, f', k _ _ q⟩) fun e s' t_0 => x4a4 t_0 fun T' x σ' a he n ea q => ⟨T', x, σ', a, he, n, ea, k _ _ q⟩
theorem ExT.after {t : Sem Flow} {σ₁ : Sto} {T T₁ : Tx} {s s₁ : Shared} (n : Nx X σ T s σ₁ T₁ s₁) (h : ExT X t σ₁ Q) :
    wq X.M X.A t (fun f s' => ∃ T' o σ', Nx X σ T s σ' T' s' ∧ FlowIs X T' s' f o ∧ Q o σ')
      (PX X σ T s Q) s₁ :=
  wq_mono (h T₁ s₁ n.st) (fun f s' t_0 => x3a3 t_0 fun T' o σ' n' f' q => ⟨T', o, σ', n.trans n', f', q⟩)
    fun e s' t_0 => x4a4 t_0 fun T' x σ' a he n' ea q => ⟨T', x, σ', a, he, n.trans n', ea.weak n.le.size, q⟩
theorem Ex.nil (q : Q .next σ) : Ex X [] σ Q := fun T s S => wq_execs_nil ⟨T, .next, σ, .refl S, rfl, q⟩
theorem Ex.cons {st : Stmt} {rest : List Stmt} (h : Ex1 X st σ (Seq X rest Q)) : Ex X (st :: rest) σ Q := fun T s S => by
  refine wq_execs_cons (wq_mono (h T s S) (fun f s' t_0 => x3a3 t_0 fun T' o σ' n f' q => ?_) fun e s' t_0 => x4a4 t_0 fun T' x σ' a he n ea q => ⟨T', x, σ', a, he, n, ea, q⟩)
  cases o with
  | next => obtain rfl : f = .next := f'; exact ExT.after n q
  | brk => obtain rfl : f = .brk := f'; exact ⟨T', .brk, σ', n, rfl, q⟩
  | cont => obtain rfl : f = .cont := f'; exact ⟨T', .cont, σ', n, rfl, q⟩
  | ret v => refine x1a2 f' fun w e_0 r => ?_; (try clear f'); subst e_0; exact ⟨T', .ret v, σ', n, ⟨w, rfl, r⟩, q⟩
  | exc x => exact f'.elim
theorem ExT.sub {t : Sem Flow} {σ' : Sto} (h : Sto.Sub σ' σ) (k : ExT X t σ' Q) : ExT X t σ Q := fun T s S => ExT.after (Nx.sub (.refl S) h) k
theorem ExT.freeze {t : Sem Flow} {x : Str} {a : Addr} {av : AV} (hx : σ.get x = some ⟨some a, av⟩) (k : ExT X t (σ.upd x av) Q) (hb : autoParam (av.Open) byOpen) : ExT X t σ Q := fun T s S =>
  ExT.after ⟨S.freeze hx hb, .refl _ _ _, fun b _ q => Cx.ban_upd q⟩ k
noncomputable abbrev PVX (w : World) (B : Addr → Prop) (T : Tx) (s : Shared) (r : Except XV AV) (v : Value) (s' : Shared) : Prop := ∃ T' av, r = .ok av ∧ Le T s T' s' ∧ Rep w B T' s'.toks s'.heap v av
noncomputable abbrev PEX (T : Tx) (s : Shared) (r : Except XV AV) (e : Value) (s' : Shared) : Prop := ∃ T' x a, r = .error x ∧ e = .ref a ∧ Le T s T' s' ∧ ExcAt s.heap.objs.size false T' s'.toks s'.heap a x
noncomputable def EvX (X : Cx) (e : Expr) (σ : Sto) (r : Except XV AV) : Prop := ∀ T s, St X σ T s →
  wq X.M X.A (eval e X.env) (PVX X.w (X.ban σ) T s r) (PEX T s r) s
theorem Ev.x {e : Expr} {v : AV} (h : Ev X e σ v) : EvX X e σ (.ok v) := fun T s S => h.then S fun w T' s' l S' r => ⟨T', v, rfl, l, r⟩
theorem EvX.ev {e : Expr} {v : AV} (h : EvX X e σ (.ok v)) : Ev X e σ v := fun T s S =>
  wq_mono (h T s S) (fun w s' t_0 => x2a3 t_0 fun T' av q l r => by cases q; exact ⟨T', l, r⟩) fun _ _ ⟨_, _, _, q, _⟩ => nomatch q
theorem FlowIs.ret {T : Tx} {s : Shared} {v : AV} {w : Value} (S : St X σ T s) (r : Rep X.w (X.ban σ) T s.toks s.heap w v) : FlowIs X T s (.ret w) (.ret v) := ⟨w, rfl, r.sub fun _ b => .inl b⟩
theorem Ex.retX {e : Expr} {pos : Pos} {rest : List Stmt} {r : Except XV AV} (h : EvX X e σ r) (q : match r with | .ok v => Q (.ret v) σ | .error x => Q (.exc x) σ) : Ex X (.Return (some e) pos :: rest) σ Q :=
  .cons fun T s S => by
    refine wq_Return (wq_mono (h T s S) (fun v s' t_0 => x2a3 t_0 fun T' av e l r => ?_) fun v s' t_0 => x3a4 t_0 fun T' x a e ha l ea => ?_)
    · subst e; exact ⟨T', .ret av, σ, .of_le S l, .ret (S.le_mono l) r, q⟩
    · subst e; exact ⟨T', x, σ, a, ha, .of_le S l, ea, q⟩
theorem Ex.ret {e : Expr} {pos : Pos} {rest : List Stmt} {v : AV} (h : Ev X e σ v) (q : Q (.ret v) σ) : Ex X (.Return (some e) pos :: rest) σ Q := .retX h.x q
theorem Ex.assignX {x : Str} {p pos : Pos} {e : Expr} {rest : List Stmt} {r : Except XV AV} (h : EvX X e σ r) (hk : storable X x)
    (k : match r with | .ok v => Ex X rest (σ.upd x v) Q | .error z => Q (.exc z) σ)
    (hs : autoParam (swapsWith e (some (.Name x p)) pos.line X.env = pure false) byRfl) : Ex X (.Assign [.Name x p] e pos :: rest) σ Q :=
  .cons fun T s S => by
    refine wq_Assign_Name (wq_mono (h T s S) (fun v s' t_0 => x2a3 t_0 fun T' av e l r => ?_) fun v s' t_0 => x3a4 t_0 fun T' z a e ha l ea => ?_) hs
    · subst e
      refine wq_of <| StB.store (S.le_mono l) hk r fun s'' S'' lb => ⟨T', .next, _, ⟨S'', (l.leB _).trans lb fun _ _ q => q, fun b _ q => Cx.ban_upd q⟩, rfl, k⟩
    · subst e; exact ⟨T', z, σ, a, ha, .of_le S l, ea, k⟩
theorem Ex.assign {x : Str} {p pos : Pos} {e : Expr} {rest : List Stmt} {v : AV} (h : Ev X e σ v) (hk : storable X x) (k : Ex X rest (σ.upd x v) Q)
    (hs : autoParam (swapsWith e (some (.Name x p)) pos.line X.env = pure false) byRfl) : Ex X (.Assign [.Name x p] e pos :: rest) σ Q := .assignX h.x hk k hs
theorem Ex.assign_own {x : Str} {p pos : Pos} {e : Expr} {rest : List Stmt} {v : AV} (h : EvN X e σ v) (hk : storable X x) (k : ∀ a, Ex X rest (σ.updO x a v) Q)
    (hs : autoParam (swapsWith e (some (.Name x p)) pos.line X.env = pure false) byRfl) : Ex X (.Assign [.Name x p] e pos :: rest) σ Q :=
  .cons fun T s S => by
    refine wq_Assign_Name (wq_mono (h T s S) (fun w s' t_0 => x2a4 t_0 fun T' a e l ha r => ?_) fun _ _ x => x.elim) hs
    subst e
    refine wq_of <| StB.store_own S l ha hk r fun s'' S'' lb => ⟨T', .next, _, ⟨S'', (l.leB _).trans lb fun _ _ q => q, fun b hb q => ?_⟩, rfl, k a⟩
    rcases Cx.ban_updO q with q | q
    · exact q
    · exact absurd (q ▸ hb) (Nat.not_lt.mpr ha)
theorem Ex.aug {x : Str} {p pos : Pos} {op : Operator} {e : Expr} {rest : List Stmt} {u v w : AV} (hx : σ.get x = some ⟨none, u⟩) (h : Ev X e σ v) (hg : InpG op u v w) (hk : storable X x)
    (k : Ex X rest (σ.upd x w) Q) (hcl : autoParam ((x == ("__classdict__" : Str)) = false) byDec) : Ex X (.AugAssign (.Name x p) op e pos :: rest) σ Q :=
  .cons fun T s S => by
    refine wq_AugAssign_Name (wq_of <| S.load hx (fun a ra => ?_) hcl)
    refine h.then S fun b T₁ s₁ l₁ S₁ rb => ?_
    refine (hg X _ T₁ s₁ a b S₁.pg S₁.pos (Rep.le ra l₁) rb).thenq fun c T₂ s₂ l₂ rc => ?_
    refine wq_of <| StB.store (S₁.le_mono l₂) hk rc fun s₃ S₃ lb => ⟨T₂, .next, _, ⟨S₃, ((l₁.trans l₂).leB _).trans lb fun _ _ q => q, fun b _ q => Cx.ban_upd q⟩, rfl, k⟩
theorem Ex.ite {t : Expr} {body orelse rest : List Stmt} {pos : Pos} {b : Bool} (h : Te X t σ b) (h1 : b = true → Ex X body σ (Seq X rest Q)) (h2 : b = false → Ex X orelse σ (Seq X rest Q)) :
    Ex X (.If t body orelse pos :: rest) σ Q := .cons fun T s S => by
  refine wq_If (h.then S fun T' s' l S' => ?_)
  cases b with
  | true => exact ExT.after (.of_le S l) (h1 rfl)
  | false => exact ExT.after (.of_le S l) (h2 rfl)
noncomputable def Turn (X : Cx) (rest : List Stmt) (Q : Post) (I : Sto → Prop) : Post := fun o σ => match o with
  | .next => I σ
  | .cont => I σ
  | .brk => Ex X rest σ Q
  | o => Q o σ
theorem Nx.shift {σ₁ : Sto} {T T₁ : Tx} {s s₁ : Shared} (n : Nx X σ T s σ₁ T₁ s₁) (hs : X.s0.heap.objs.size ≤ s.heap.objs.size) {h' : Heap} (sh : Shift s.heap.objs.size s₁.heap h') : Nx X σ T s σ₁ T₁ { s₁ with heap := h' } :=
  ⟨n.st.shift sh hs, ⟨Nat.le_trans n.le.size sh.size, fun b o hb e => let ⟨_, e₁⟩ := n.le.ext b o hb e; x1a1 (sh.low b _ (Heap.lt_size e) e₁) fun sl e₂ => ⟨sl, keepS_tr e₂⟩, n.le.toks, n.le.tx, n.le.gens, n.le.os⟩, n.ban⟩
theorem notedX {σ₁ : Sto} {T T₁ : Tx} {s s₁ : Shared} {a : Addr} {x : XV} {tr : Bool} {A : Around} {E : Value → Shared → Prop} (ht : X.Top) (hA : A.frames = X.A.frames) (hs : X.s0.heap.objs.size ≤ s.heap.objs.size) (n : Nx X σ T s σ₁ T₁ s₁)
    (ea : ExcAt s.heap.objs.size tr T₁ s₁.toks s₁.heap a x) (h : ∀ s', Nx X σ T s σ₁ T₁ s' → ExcAt s.heap.objs.size true T₁ s'.toks s'.heap a x → E (.ref a) s') : notedBy X.M A X.env E (.ref a) s₁ := by
  refine x0a2 ht fun t_0 hf => ?_; (try clear ht); refine x1a1 t_0 fun outer hfr => ?_; (try clear t_0)
  unfold notedBy
  have hfro := n.st.fro
  rw [hfr] at hfro
  exact wpAny_noteX (hA.trans (hfr ▸ n.st.ok.a.frames)) hfro hf n.le.size ea fun h' sh ea' => h _ (n.shift hs sh) ea'
theorem cameX {σ₁ : Sto} {T T₁ : Tx} {s s₁ : Shared} {a : Addr} {x : XV} {A : Around} {env : Env} {E : Value → Shared → Prop} (hs : X.s0.heap.objs.size ≤ s.heap.objs.size) (n : Nx X σ T s σ₁ T₁ s₁)
    (ea : ExcAt s.heap.objs.size true T₁ s₁.toks s₁.heap a x) (h : ∀ s', Nx X σ T s σ₁ T₁ s' → ExcAt s.heap.objs.size true T₁ s'.toks s'.heap a x → E (.ref a) s') : cameBackBy X.M A env E (.ref a) s₁ :=
  cameBackX ea fun h' sh ea' => h _ (n.shift hs sh) ea'
theorem Ex.while {test : Expr} {body orelse rest : List Stmt} {pos : Pos} (ht : X.Top) (I : Nat → Sto → Prop)
    (turn : ∀ n σ, I n σ → ∃ b, Te X test σ b ∧ (b = true → Ex X body σ (Turn X rest Q fun σ' => ∃ m, m < n ∧ I m σ')) ∧ (b = false → Ex X orelse σ (Seq X rest Q)))
    (n : Nat) (h0 : I n σ) : Ex X (.While test body orelse pos :: rest) σ Q := .cons fun T s S => by
  have hs := S.le.ext.1
  refine wq_While ?_
  let J : Nat → Shared → Prop := fun n s₁ => ∃ T₁ σ₁, Nx X σ T s σ₁ T₁ s₁ ∧ I n σ₁
  refine cq_whileLoop J (fun n s₁ t_0 => x2a2 t_0 fun T₁ σ₁ nx hI => ?_) n ⟨T, σ, .refl S, h0⟩
  refine x1a3 (turn n σ₁ hI) fun b hb h1 h2 => ?_
  have onx : ∀ (s₂ : Shared) (e : Value), PX X σ T s Q e s₂ →
      notedBy X.M X.A X.env (fun e s' => cameBackBy X.M X.A X.env (PX X σ T s Q) e s') e s₂ := by
    rintro s₂ e ⟨T', x, σ', a, rfl, n', ea, q⟩
    exact notedX ht rfl hs n' ea fun s₃ n₃ ea₃ => cameX hs n₃ ea₃ fun s₄ n₄ ea₄ => ⟨T', x, σ', a, rfl, n₄, ea₄.weak (Nat.le_refl _), q⟩
  refine hb.then nx.st fun T₂ s₂ l₂ S₂ => ?_
  have nx₂ := nx.trans (.of_le nx.st l₂)
  cases b with
  | true =>
    refine wq_mono (ExT.after nx₂ (h1 rfl)) (fun f s₃ t_0 => x3a3 t_0 fun T₃ o σ₃ n₃ f₃ q₃ => ?_) fun e s₃ h₃ => onx s₃ e h₃
    cases o with
    | next => obtain rfl : f = .next := f₃; refine x1a2 q₃ fun m hm hI' => ?_; (try clear q₃); exact ⟨m, hm, T₃, σ₃, n₃, hI'⟩
    | cont => obtain rfl : f = .cont := f₃; refine x1a2 q₃ fun m hm hI' => ?_; (try clear q₃); exact ⟨m, hm, T₃, σ₃, n₃, hI'⟩
    | brk => obtain rfl : f = .brk := f₃; exact ⟨T₃, .next, σ₃, n₃, rfl, q₃⟩
    | ret v => refine x1a2 f₃ fun w e_0 r => ?_; (try clear f₃); subst e_0; exact ⟨T₃, .ret v, σ₃, n₃, ⟨w, rfl, r⟩, q₃⟩
    | exc x => exact f₃.elim
  | false => exact wq_mono (ExT.after nx₂ (h2 rfl)) (fun f s₃ h₃ => h₃) fun e s₃ h₃ => onx s₃ e h₃
structure Mv (lo : Addr) (T : Tx) (s : Shared) (T' : Tx) (s' : Shared) : Prop where
  sh : Shift lo s.heap s'.heap
  toks : s.toks ≤ s'.toks
  tx : ∀ t, t < s.toks → T' t = T t
  gens : s'.gens = s.gens
  os : s'.os = s.os
theorem Mv.le_of {lo : Addr} {T T' : Tx} {s s' : Shared} (m : Mv lo T s T' s') : Le T { s with heap := s'.heap } T' s' :=
  ⟨.refl _, m.toks, m.tx, m.gens, m.os⟩
theorem StB.mv {lo : Addr} {B : Addr → Prop} {T T' : Tx} {s s' : Shared} (S : StB B X σ T s) (m : Mv lo T s T' s') (hlo : X.s0.heap.objs.size ≤ lo) : StB B X σ T' s' :=
  (S.shift m.sh hlo).le_mono m.le_of
theorem Nx.mv {σ₁ : Sto} {T T₁ T₂ : Tx} {s s₁ s₂ : Shared} {lo : Addr} (n : Nx X σ T s σ₁ T₁ s₁) (m : Mv lo T₁ s₁ T₂ s₂) (hlo : s.heap.objs.size ≤ lo) (hs : X.s0.heap.objs.size ≤ s.heap.objs.size) : Nx X σ T s σ₁ T₂ s₂ :=
  ⟨n.st.mv m (Nat.le_trans hs hlo), ⟨Nat.le_trans n.le.size m.sh.size, fun b o hb e => let ⟨_, e₁⟩ := n.le.ext b o hb e; x1a1 (m.sh.low b _ (Nat.lt_of_lt_of_le (Heap.lt_size e) hlo) e₁) fun sl e₂ => ⟨sl, keepS_tr e₂⟩,
    Nat.le_trans n.le.toks m.toks, fun t ht => (m.tx t (Nat.lt_of_lt_of_le ht n.le.toks)).trans (n.le.tx t ht), m.gens.trans n.le.gens, m.os.trans n.le.os⟩, n.ban⟩
theorem LeB.mv {B : Addr → Prop} {T T₁ T₂ : Tx} {s s₁ s₂ : Shared} {lo : Addr} (n : LeB B T s T₁ s₁) (m : Mv lo T₁ s₁ T₂ s₂) (hlo : s.heap.objs.size ≤ lo) : LeB B T s T₂ s₂ :=
  ⟨Nat.le_trans n.size m.sh.size, fun b o hb e => let ⟨_, e₁⟩ := n.ext b o hb e; x1a1 (m.sh.low b _ (Nat.lt_of_lt_of_le (Heap.lt_size e) hlo) e₁) fun sl e₂ => ⟨sl, keepS_tr e₂⟩,
    Nat.le_trans n.toks m.toks, fun t ht => (m.tx t (Nat.lt_of_lt_of_le ht n.toks)).trans (n.tx t ht), m.gens.trans n.gens, m.os.trans n.os⟩
structure Itr (X : Cx) (B : Addr → Prop) (target : Expr) (it : Value) (xs : List AV) (T1 : Tx) (s1 : Shared) (I : Addr → Prop) (J : Nat → Heap → Prop) : Prop where
  own : ∀ b, I b → s1.heap.objs.size ≤ b
  same : ∀ k h h', J k h → (∀ b o, I b → h.get? b = some o → ∃ sl, h'.get? b = some { o with slots := keepS b o sl }) → J k h'
  there : ∀ k h, J k h → ∀ b, I b → b < h.objs.size
  next : ∀ k (x : AV) T s (B' : Addr → Prop), xs[k]? = some x → J k s.heap → LeB B T1 s1 T s → (∀ b, B' b → b < s1.heap.objs.size → B b) → (∀ b, B' b → b < s.heap.objs.size ∧ ¬ I b) → X.G.In s.heap → 0 < s.toks →
    wpAny X.M X.A (pyNext it) (fun r s₁ => ∃ v, r = some v ∧ wpAny X.M X.A (letOwnedTupleGo target it v) (fun _ s' => ∃ T', Mv s1.heap.objs.size T s T' s' ∧ Rep X.w B' T' s'.toks s'.heap v x ∧ J (k + 1) s'.heap) (fun _ _ => False) s₁) (fun _ _ => False) s
  stop : ∀ T s, J xs.length s.heap → LeB B T1 s1 T s → X.G.In s.heap → 0 < s.toks →
    wpAny X.M X.A (pyNext it) (fun r s' => r = none ∧ ∃ T', Mv s1.heap.objs.size T s T' s') (fun _ _ => False) s
  self : ∀ k (s : Shared) (Q : Value → Shared → Prop) (E : Value → Shared → Prop), J k s.heap → Q it s → wpAny X.M X.A (pyIter it) Q E s
noncomputable def EvI (X : Cx) (iter : Expr) (target : Expr) (σ : Sto) (xs : List AV) : Prop := ∀ T s, St X σ T s →
  wq X.M X.A (eval iter X.env) (fun x s₁ => wq X.M X.A (pyIter x) (fun it s₂ => ∃ T₀ s₀ T₂ I J, Le T s T₀ s₀ ∧ Le T₀ s₀ T₂ s₂ ∧ Itr X (X.ban σ) target it xs T₀ s₀ I J ∧ J 0 s₂.heap) (fun _ _ => False) s₁) (fun _ _ => False) s
noncomputable def Binds (X : Cx) (target : Expr) (v : AV) (σ σ' : Sto) : Prop := ∀ T s w, St X σ T s → Rep X.w (X.ban σ) T s.toks s.heap w v →
  wq X.M X.A (assign target X.env w) (fun _ s' => ∃ T', Nx X σ T s σ' T' s') (fun _ _ => False) s
theorem Ex.for {target iter : Expr} {body orelse rest : List Stmt} {pos : Pos} {xs : List AV} (ht : X.Top) (h : EvI X iter target σ xs) (I : Nat → Sto → Prop) (h0 : I 0 σ)
    (turn : ∀ k x σ', xs[k]? = some x → I k σ' → ∃ σ'', Binds X target x σ' σ'' ∧ Ex X body σ'' (Turn X rest Q (I (k + 1))))
    (fin : ∀ σ', I xs.length σ' → Ex X orelse σ' (Seq X rest Q)) (hf : autoParam (∀ x, foldedSetIterable iter X.env x = pure x) byI1) : Ex X (.For target iter body orelse pos :: rest) σ Q := .cons fun T s S => by
  have hs := S.le.ext.1
  refine wq_For (wq_mono (h T s S) (fun v s' h₁ => ?_) fun _ _ x => x.elim) hf
  refine wq_mono h₁ (fun it s₂ t_0 => x5a4 t_0 fun T₁ s₁ T₂ Io J l₁ l₂ itr j0 => ?_) fun _ _ x => x.elim
  have S₁ := S.le_mono l₁
  let K : Nat → Shared → Prop := fun n s' => ∃ T' σ' k, n = xs.length - k ∧ k ≤ xs.length ∧ Nx X σ T s σ' T' s' ∧ LeB (X.ban σ) T₁ s₁ T' s' ∧ (∀ b, b < s₁.heap.objs.size → X.ban σ' b → X.ban σ b) ∧ (∀ b, Io b → ¬ X.ban σ' b) ∧ J k s'.heap ∧ I k σ'
  have onx : ∀ (s₂ : Shared) (e : Value), PX X σ T s Q e s₂ →
      notedBy X.M X.A X.env (fun e s' => cameBackBy X.M X.A X.env (PX X σ T s Q) e s') e s₂ := by
    rintro s₂ e ⟨T', x, σ', a, rfl, n', ea, q⟩
    exact notedX ht rfl hs n' ea fun s₃ n₃ ea₃ => cameX hs n₃ ea₃ fun s₄ n₄ ea₄ => ⟨T', x, σ', a, rfl, n₄, ea₄.weak (Nat.le_refl _), q⟩
  refine cq_forLoop K (fun n s' t_0 => x3a8 t_0 fun T' σ' k hn hk nx lb hb hIo hj hI => ?_) xs.length
    ⟨T₂, σ, 0, rfl, Nat.zero_le _, (Nx.of_le S l₁).trans (.of_le S₁ l₂), l₂.leB _, fun _ _ q => q, fun b hb q => Nat.lt_irrefl _ (Nat.lt_of_lt_of_le (S₁.ban_lt q) (itr.own b hb)), j0, h0⟩
  by_cases hkx : k < xs.length
  · have hx : xs[k]? = some xs[k] := List.getElem?_eq_getElem hkx
    refine wq_mono (wq_of <| itr.next k xs[k] T' s' (X.ban σ') hx hj lb (fun b q hlt => hb b hlt q) (fun b q => ⟨nx.st.ban_lt q, fun i => hIo b i q⟩) nx.st.pg nx.st.pos) (fun r s₃ t_0 => x1a2 t_0 fun v hr h₃ => ?_) fun _ _ x => x.elim
    subst hr
    refine wq_mono (wq_of h₃) (fun _ s₄ t_0 => x1a3 t_0 fun T₄ mv rep hj' => ?_) fun _ _ x => x.elim
    have nx₄ := nx.mv mv l₁.ext.1 hs
    have lb₄ := lb.mv mv (Nat.le_refl _)
    refine x1a2 (turn k xs[k] σ' hx hI) fun σ'' hbd hbody => ?_
    refine wq_mono (hbd T₄ s₄ v nx₄.st rep) (fun _ s₅ t_0 => x1a1 t_0 fun T₅ nx₅ => ?_) fun _ _ x => x.elim
    refine wq_mono (hbody T₅ s₅ nx₅.st) (fun f s₆ t_0 => x3a3 t_0 fun T₆ o σ₆ n₆ f₆ q₆ => ?_) fun e s₆ t_0 => x4a4 t_0 fun T₆ x σ₆ a he n₆ ea q => onx s₆ e ⟨T₆, x, σ₆, a, he, nx₄.trans (nx₅.trans n₆), ea.weak (nx₄.trans nx₅).le.size, q⟩
    have n46 := nx₅.trans n₆
    have n06 := nx₄.trans n46
    have again : I (k + 1) σ₆ → ∃ m, m < n ∧ K m s₆ := fun hI' => by
      refine ⟨xs.length - (k + 1), hn ▸ Nat.sub_lt_sub_left hkx (Nat.lt_succ_self k), T₆, σ₆, k + 1, rfl, hkx, n06, lb₄.trans n46.le hb, fun b hlt q => hb b hlt (n46.ban b (Nat.lt_of_lt_of_le hlt lb₄.size) q), fun b i q => hIo b i (n46.ban b (itr.there _ _ hj' b i) q), ?_, hI'⟩
      exact itr.same _ _ _ hj' fun b o i e => n46.le.ext b o (hIo b i) e
    cases o with
    | next => obtain rfl : f = .next := f₆; exact again q₆
    | cont => obtain rfl : f = .cont := f₆; exact again q₆
    | brk => obtain rfl : f = .brk := f₆; exact ⟨T₆, .next, σ₆, n06, rfl, q₆⟩
    | ret v => refine x1a2 f₆ fun w e_0 r => ?_; (try clear f₆); subst e_0; exact ⟨T₆, .ret v, σ₆, n06, ⟨w, rfl, r⟩, q₆⟩
    | exc x => exact f₆.elim
  · obtain rfl : k = xs.length := Nat.le_antisymm hk (Nat.not_lt.mp hkx)
    refine wq_mono (wq_of <| itr.stop T' s' hj lb nx.st.pg nx.st.pos) (fun r s₃ t_0 => x0a2 t_0 fun hr t_1 => x1a1 t_1 fun T₃ mv => ?_) fun _ _ x => x.elim
    subst hr
    have nx₃ := nx.mv mv l₁.ext.1 hs
    exact wq_mono (ExT.after nx₃ (fin σ' hI)) (fun f s₄ h₄ => h₄) fun e s₄ h₄ => onx s₄ e h₄
theorem Binds.name {x : Str} {p : Pos} {v : AV} (hk : storable X x) : Binds X (.Name x p) v σ (σ.upd x v) := fun T s w S r => by
  show wq X.M X.A (do standAt p; bindName X.env x w) _ _ s
  refine wq_bind (wq_standAt (wq_bindName ?_))
  exact wq_of <| StB.store S hk r fun s' S' lb => ⟨T, S', lb, fun b _ q => Cx.ban_upd q⟩
end
end Mine
namespace Mine
open PySem PySem.W PyProof.Rows
variable [Lo]
variable {W : World}
theorem AOk.mono {A : Around} {fr : List Env} {k j : Nat} (a : AOk A fr k) (h : j ≤ k) : AOk A fr j := ⟨by have := a.depth; lia, by have := a.units; lia, a.frames⟩
section
variable {prog : Program} {w : World} {A : Around} {s : Shared} {R : Result → Shared → Prop}
theorem cq_func {body : List Stmt} {env : Env}
    (h : wq (model prog w) (A.deeper env) (execs body env) (fun f s' => R (.ok (.ret (match f with | .ret v => v | _ => .none))) s')
      (fun e s' => wpAny (model prog w) (A.deeper env) (leaving env e) (fun _ s'' => R (.error e) s'') (fun e' s'' => R (.error e') s'') s') s) : cq (model prog w) A (.func body env) R s := by
  refine cq_of_tree trivial ?_
  show wq _ (A.deeper env) (do point; match ← (execs body env).onRaise (leaving env) with | .ret v => ret v | _ => ret .none) _ _ s
  refine wq_bind (wq_point (wq_bind (wq_onRaise (wq_mono h (fun f s' h' => ?_) fun _ _ h' => wq_of h'))))
  cases f <;> exact wq_pure h'
theorem cq_call_fn {a : Addr} {args : Args} {o : Obj} {fd : FuncData} {body : List Stmt} (hroom : A.depth < recursionLimit) (ho : s.heap.get? a = some o)
    (hd' : o.data = .func fd) (hco : fd.scope.isCoroutine = false) (hgen : fd.scope.isGenerator = false) (hbody : fd.body = .stmts body) (hcd : s.heap.CodeRec fd.code fd.qualname)
    (h : wpAny (model prog w) A.in1 (bindArgs fd args) (fun binds s₁ =>
      wpAny (model prog w) A.in1 (newFunctionEnv fd.scope fd.globals fd.closure binds (fd.qualname ++ ".<locals>.") (some a) fd.code none fd.builtins)
        (fun env s₂ => s₂.heap.NoLimit ∧ cq (model prog w) A (.func body env) R s₂) (fun e s' => R (.error e) s') s₁) (fun e s' => R (.error e) s') s) :
    cq (model prog w) A (.call (.ref a) args) R s := by
  refine cq_of_tree trivial ?_
  show wq _ A.in1 (callAny (.ref a) args) _ _ s
  unfold callAny
  refine wq_bind (wq_of (wpAny_load ho ?_))
  refine x4a4 hcd fun c oc vs tq hc hoc hdc hq => ?_; (try clear hcd)
  simp only [hd', callFunction, hco, hgen, hbody, hc]
  rw [hc] at h
  refine wq_bind (m := field (.ref c) 1) (wq_of (wpAny_field hoc hdc hq (wq_bind (wq_pure ?_))))
  exact wq_bind (wq_mono (wq_of h) (fun binds s₁ h₁ => wq_bind (wq_mono (wq_of h₁) (fun env s₂ h₂ => wq_bind (wq_of (wpAny_enterFrame h₂.1 hroom
    (wq_pure (And.intro rfl h₂.2))))) fun _ _ h' => h')) fun _ _ h' => h')
end
section
variable {M : Model} {A : Around} {E : Value → Shared → Prop} {s s₀ : Shared} {env : Env} {m cm : Str → Option Value}
theorem bindParams1 {c : Value} (f : Str × Value → PUnit → Sem (ForInStep PUnit)) (hf : ∀ n v u, f (n, v) u = (do storeName env n v; pure (.yield ⟨⟩))) (hk : env.scope.kind = .function) {n : Str} {v : Value} {r : List (Str × Value)} (hl : env.kindOf n = some .local)
    (m cm : Str → Option Value) (s : Shared) (Q : PUnit → Shared → Prop) (x : InCallC s₀ env.locals m env.cells cm s) (y : ClsAt s.heap env.locals c)
    (hr : ∀ x ∈ r, env.kindOf x.1 = some .local ∨ (env.kindOf x.1 = some .cell ∧ (env.cells.lookup x.1).isSome = true))
    (h : ∀ s', InCallC s₀ env.locals (bindL env.kindOf ((n, v) :: r) m) env.cells (bindC env.kindOf ((n, v) :: r) cm) s' → ClsAt s'.heap env.locals c → 0 < s'.toks → Q ⟨⟩ s') : wpAny M A (forIn ((n, v) :: r) ⟨⟩ f) Q E s := by
  rw [List.forIn_cons, hf]
  refine wpAny_bind (wpAny_bind (wpAny_storeName_cls hl x.toInCall.ns y (fun h' hn' hs' hy => wpAny_pure (wpAny_grow (bindParams' f hf hk r _ cm _ _ ⟨⟨?_, hn', fun b o e => ?_, x.toInCall.fresh⟩, fun k c hc => ?_, x.apart, x.above⟩ hy hr fun s'' x'' y'' htk hsz => h s'' ?_ y'' (Nat.lt_of_lt_of_le (Nat.succ_pos _) htk)))) (by rw [hk]; rfl)))
  · refine x2a1 (x.toInCall.same) fun h₁ tk e_0 => ?_; subst e_0
    exact ⟨h', _, rfl⟩
  · exact hs'.extBut b o (Nat.ne_of_lt (Nat.lt_of_lt_of_le (Heap.lt_size e) x.toInCall.fresh)) (x.toInCall.keep b o e)
  · exact (x.cell k c hc).sameBut hs' (Nat.ne_of_gt (x.above k c (mem_of_lookup hc)))
  · unfold bindL bindC; rw [if_pos hl, if_pos hl]; exact x''
theorem newFunctionEnv_cls1 {scope : Scope} {globals : Addr} {n : Str} {v : Value} {r : List (Str × Value)} {qual : Str} {func : Option Addr} {code : Value} {builtins : Addr} {Q : Env → Shared → Prop}
    (hk : scope.kind = .function)
    (hl : scope.names.lookup n = some .local) (hkind : ∀ x ∈ r, scope.names.lookup x.1 = some .local ∨ (scope.names.lookup x.1 = some .cell ∧ ((cellsFrom (s.heap.objs.size + 1) scope.names []).lookup x.1).isSome = true))
    (hQ : ∀ env, env = newEnv scope s.heap.objs.size globals (cellsFrom (s.heap.objs.size + 1) scope.names []) qual func code none builtins →
      ∀ s', InCallC s env.locals (bindL env.kindOf ((n, v) :: r) fun _ => none) env.cells (bindC env.kindOf ((n, v) :: r) fun _ => none) s' → ClsAt s'.heap env.locals (.type "frame") → 0 < s'.toks → Q env s') :
    wpAny M A (newFunctionEnv scope globals [] ((n, v) :: r) qual func code none builtins) Q E s := by
  simp only [newFunctionEnv, Option.isSome_none, Bool.false_eq_true, if_false]
  refine wpAny_bind (wpAny_alloc ?_)
  refine wpAny_bind (wpAny_layCells _ (fun name kind cells => by cases hkc : kind == NameKind.cell <;> simp [hkc]) _ _ _ _ ?_)
  have ok := cellsFrom_ok scope.names (s.heap.push { cls := .type "frame", data := .dict #[] }) (s.heap.objs.size + 1) [] ⟨fun _ _ hm => (nomatch hm), List.Pairwise.nil⟩ (by rw [Heap.size_push]; exact Nat.le_refl _)
  rw [Heap.size_push] at ok
  rw [show ({ s with heap := s.heap.push { cls := .type "frame", data := .dict #[] } } : Shared).heap.objs.size = s.heap.objs.size + 1 from Heap.size_push ..]
  refine wpAny_bind (bindParams1 (s₀ := s) (env := newEnv scope s.heap.objs.size globals (cellsFrom (s.heap.objs.size + 1) scope.names []) qual func code none builtins)
    _ (fun _ _ _ => rfl) hk hl (fun _ => none) (fun _ => none) _ _
    ⟨⟨⟨_, _, rfl⟩, (Heap.Ns.new s.heap (.type "frame")).keeps (pushCells_keeps _ _), fun b o e => pushCells_keeps _ _ b o (Heap.get?_push_of_some _ e), Nat.le_refl _⟩,
      fun n c hc => (ok.empty n c (mem_of_lookup hc)).1, ok.apart, fun n c hm => (ok.empty n c hm).2⟩
    (ClsAt.keeps ⟨_, Heap.get?_push_size _ rfl, rfl⟩ (pushCells_keeps _ _)) hkind fun s' x y hp => wpAny_pure (hQ _ rfl s' x y hp))
theorem newFunctionEnv_cls2 {scope : Scope} {globals : Addr} {binds : List (Str × Value)} {qual : Str} {func : Option Addr} {code : Value} {builtins : Addr} {Q : Env → Shared → Prop}
    (h0 : ∃ n v r, binds = (n, v) :: r ∧ scope.names.lookup n = some .local) (hk : scope.kind = .function)
    (hkind : ∀ x ∈ binds, scope.names.lookup x.1 = some .local ∨ (scope.names.lookup x.1 = some .cell ∧ ((cellsFrom (s.heap.objs.size + 1) scope.names []).lookup x.1).isSome = true))
    (hQ : ∀ env, env = newEnv scope s.heap.objs.size globals (cellsFrom (s.heap.objs.size + 1) scope.names []) qual func code none builtins →
      ∀ s', InCallC s env.locals (bindL env.kindOf binds fun _ => none) env.cells (bindC env.kindOf binds fun _ => none) s' → ClsAt s'.heap env.locals (.type "frame") → 0 < s'.toks → Q env s') :
    wpAny M A (newFunctionEnv scope globals [] binds qual func code none builtins) Q E s := by
  refine x3a2 h0 fun n v r e_0 hl => ?_; (try clear h0); subst e_0
  exact newFunctionEnv_cls1 hk hl (fun x hx => hkind x (List.mem_cons_of_mem _ hx)) hQ
theorem newFunctionEnv_cls3 {scope : Scope} {globals : Addr} {binds : List (Str × Value)} {qual : Str} {func : Option Addr} {code : Value} {builtins : Addr} {Q : Env → Shared → Prop}
    (hor : 0 < s.toks ∨ ∃ n v r, binds = (n, v) :: r ∧ scope.names.lookup n = some .local) (hk : scope.kind = .function)
    (hkind : ∀ x ∈ binds, scope.names.lookup x.1 = some .local ∨ (scope.names.lookup x.1 = some .cell ∧ ((cellsFrom (s.heap.objs.size + 1) scope.names []).lookup x.1).isSome = true))
    (hQ : ∀ env, env = newEnv scope s.heap.objs.size globals (cellsFrom (s.heap.objs.size + 1) scope.names []) qual func code none builtins →
      ∀ s', InCallC s env.locals (bindL env.kindOf binds fun _ => none) env.cells (bindC env.kindOf binds fun _ => none) s' → ClsAt s'.heap env.locals (.type "frame") → 0 < s'.toks → Q env s') :
    wpAny M A (newFunctionEnv scope globals [] binds qual func code none builtins) Q E s := by
  rcases hor with hp | h0
  · exact wpAny_grow (newFunctionEnv_cls hk hkind fun env he s₁ ic icl htk _ => hQ env he s₁ ic icl (Nat.lt_of_lt_of_le hp htk))
  · exact newFunctionEnv_cls2 h0 hk hkind hQ
end
omit [Lo] in
theorem len1 {α : Type} {l : List α} (h : l.length = 1) : ∃ a, l = [a] := List.length_eq_one_iff.mp h
omit [Lo] in
theorem len2 {α : Type} {l : List α} (h : l.length = 2) : ∃ a b, l = [a, b] := by
  cases l with
  | nil => cases h
  | cons a l => obtain ⟨b, rfl⟩ := len1 (Nat.succ.inj h); exact ⟨a, b, rfl⟩
omit [Lo] in
theorem len3 {α : Type} {l : List α} (h : l.length = 3) : ∃ a b c, l = [a, b, c] := by
  cases l with
  | nil => cases h
  | cons a l => refine x2a1 (len2 (Nat.succ.inj h)) fun b c e_0 => ?_; subst e_0; exact ⟨a, b, c, rfl⟩
omit [Lo] in
theorem len4 {α : Type} {l : List α} (h : l.length = 4) : ∃ a b c d, l = [a, b, c, d] := by
  cases l with
  | nil => cases h
  | cons a l => refine x3a1 (len3 (Nat.succ.inj h)) fun b c d e_0 => ?_; subst e_0; exact ⟨a, b, c, d, rfl⟩
noncomputable def FSpec (prog : Program) (w : World) (G : Pg) (k : Nat) (f : Str) (args : List AV) (r : Except XV AV) : Prop :=
  ∀ (A : Around) (fr : List Env) (T : Tx) (s : Shared) (B : Addr → Prop) (vals : List Value) (a : Addr) (fd : FuncData), G.fn f = some (a, fd) → AOk A fr k → A.handled = none → G.In s.heap → FrOk s.heap fr → 0 < s.toks →
    (∀ b, B b → G.nb ≤ b ∧ b < s.heap.objs.size) → G.nb ≤ s.heap.objs.size → RepL w B T s.toks s.heap vals args →
    cq (model prog w) A (.call (.ref a) ⟨vals, []⟩) (fun res s' => match res with
      | .ok (.ret v) => ∃ T' av, r = .ok av ∧ Le T s T' s' ∧ Rep w B T' s'.toks s'.heap v av
      | .ok _ => False
      | .error e => ∃ T' x a, r = .error x ∧ e = .ref a ∧ Le T s T' s' ∧ ExcAt s.heap.objs.size true T' s'.toks s'.heap a x) s
noncomputable def FSpecP (pz : Bool) (prog : Program) (w : World) (G : Pg) (k : Nat) (f : Str) (args : List AV) (r : Except XV AV) : Prop :=
  ∀ (A : Around) (fr : List Env) (T : Tx) (s : Shared) (B : Addr → Prop) (vals : List Value) (a : Addr) (fd : FuncData), G.fn f = some (a, fd) → AOk A fr k → A.handled = none → G.In s.heap → FrOk s.heap fr → (pz = true → 0 < s.toks) →
    (∀ b, B b → G.nb ≤ b ∧ b < s.heap.objs.size) → G.nb ≤ s.heap.objs.size → RepL w B T s.toks s.heap vals args →
    cq (model prog w) A (.call (.ref a) ⟨vals, []⟩) (fun res s' => match res with
      | .ok (.ret v) => ∃ T' av, r = .ok av ∧ Le T s T' s' ∧ Rep w B T' s'.toks s'.heap v av
      | .ok _ => False
      | .error e => ∃ T' x a, r = .error x ∧ e = .ref a ∧ Le T s T' s' ∧ ExcAt s.heap.objs.size true T' s'.toks s'.heap a x) s
noncomputable def FSpec0 (prog : Program) (w : World) (G : Pg) (k : Nat) (f : Str) (args : List AV) (r : Except XV AV) : Prop :=
  ∀ (A : Around) (fr : List Env) (T : Tx) (s : Shared) (B : Addr → Prop) (vals : List Value) (a : Addr) (fd : FuncData), G.fn f = some (a, fd) → AOk A fr k → A.handled = none → G.In s.heap → FrOk s.heap fr →
    (∀ b, B b → G.nb ≤ b ∧ b < s.heap.objs.size) → G.nb ≤ s.heap.objs.size → RepL w B T s.toks s.heap vals args →
    cq (model prog w) A (.call (.ref a) ⟨vals, []⟩) (fun res s' => match res with
      | .ok (.ret v) => ∃ T' av, r = .ok av ∧ Le T s T' s' ∧ Rep w B T' s'.toks s'.heap v av
      | .ok _ => False
      | .error e => ∃ T' x a, r = .error x ∧ e = .ref a ∧ Le T s T' s' ∧ ExcAt s.heap.objs.size true T' s'.toks s'.heap a x) s
omit [Lo] in
noncomputable def fcx (G : Pg) (prog : Program) (w : World) (A : Around) (fd : FuncData) (L a : Addr) (T : Tx) (s : Shared) (B : Addr → Prop) (fr : List Env) (k : Nat) : Cx :=
  { G, prog, w, A := A.deeper (callEnvC fd L a), env := callEnvC fd L a, T0 := T, s0 := s, B0 := B, fr := callEnvC fd L a :: fr, k, quiet := true, inner := false }
theorem fcx_top {G prog w A fd L a T s B fr k} : (fcx G prog w A fd L a T s B fr k).Top := ⟨⟨fr, rfl⟩, rfl⟩
omit [Lo] in
noncomputable def Sto.of : List Str → List AV → Sto
  | p :: ps, a :: as => (p, ⟨none, a⟩) :: Sto.of ps as
  | _, _ => []
omit [Lo] in
noncomputable def Ends (o : Out) (r : Except XV AV) : Prop := match o with
  | .ret v => r = .ok v
  | .next => r = .ok .none
  | .exc x => r = .error x
  | _ => False
theorem bindL_skip {kindOf : Str → Option NameKind} : ∀ (binds : List (Str × Value)) (m : Str → Option Value) (x : Str), (∀ p ∈ binds, p.1 ≠ x) → bindL kindOf binds m x = m x
  | [], _, _, _ => rfl
  | (n, v) :: r, m, x, h => by
    unfold bindL
    rw [bindL_skip r _ x fun p hp => h p (List.mem_cons_of_mem _ hp)]
    split
    · show (if x = n then some v else m x) = m x
      rw [if_neg (Ne.symm (h (n, v) List.mem_cons_self))]
    · rfl
theorem bindC_skip {kindOf : Str → Option NameKind} : ∀ (binds : List (Str × Value)) (m : Str → Option Value) (x : Str), (∀ p ∈ binds, p.1 ≠ x) → bindC kindOf binds m x = m x
  | [], _, _, _ => rfl
  | (n, v) :: r, m, x, h => by
    unfold bindC
    rw [bindC_skip r _ x fun p hp => h p (List.mem_cons_of_mem _ hp)]
    split
    · rfl
    · show (if x = n then some v else m x) = m x
      rw [if_neg (Ne.symm (h (n, v) List.mem_cons_self))]
theorem bindL_at {kindOf : Str → Option NameKind} {x : Str} {v : Value} (hk : kindOf x = some .local) : ∀ (binds : List (Str × Value)) (m : Str → Option Value), (binds.map (·.1)).Nodup → (x, v) ∈ binds → bindL kindOf binds m x = some v
  | (n, u) :: r, m, hn, hm => by
    rw [List.map_cons, List.nodup_cons] at hn
    unfold bindL
    rcases List.mem_cons.mp hm with e | hm
    · cases e
      rw [bindL_skip r _ x fun p hp q => hn.1 (q ▸ List.mem_map.mpr ⟨p, hp, rfl⟩), if_pos hk]
      exact if_pos rfl
    · exact bindL_at hk r _ hn.2 hm
theorem bindC_at {kindOf : Str → Option NameKind} {x : Str} {v : Value} (hk : kindOf x ≠ some .local) : ∀ (binds : List (Str × Value)) (m : Str → Option Value), (binds.map (·.1)).Nodup → (x, v) ∈ binds → bindC kindOf binds m x = some v
  | (n, u) :: r, m, hn, hm => by
    rw [List.map_cons, List.nodup_cons] at hn
    unfold bindC
    rcases List.mem_cons.mp hm with e | hm
    · cases e
      rw [bindC_skip r _ x fun p hp q => hn.1 (q ▸ List.mem_map.mpr ⟨p, hp, rfl⟩), if_neg hk]
      exact if_pos rfl
    · exact bindC_at hk r _ hn.2 hm
theorem Sto.of_get {B : Addr → Prop} {T : Tx} {n : Nat} {h : Heap} : ∀ {ps : List Str} {vals : List Value} {args : List AV}, RepL W B T n h vals args → ps.length = args.length → ∀ x c, (Sto.of ps args).get x = some c →
    ∃ v av, (x, v) ∈ ps.zip vals ∧ c = ⟨none, av⟩ ∧ Rep W B T n h v av
  | [], _, _, _, _, x, c, e => by unfold Sto.of at e; exact nomatch e
  | p :: ps, v :: vals, a :: args, .cons r rs, hl, x, c, e => by
    unfold Sto.of at e
    rw [Sto.get_cons] at e
    split at e
    · rename_i q; subst q; (have e := Option.some.inj e; subst e); exact ⟨v, a, List.mem_cons_self, rfl, r⟩
    · refine x2a2 (Sto.of_get rs (by simpa using hl) x c e) fun w av h1 h2 => ?_
      exact ⟨w, av, List.mem_cons_of_mem _ h1, h2⟩
  | _ :: _, [], [], .nil, hl, _, _, _ => by simp at hl
section
variable {prog : Program} {w : World} {G : Pg}
noncomputable def BindOk (G : Pg) (prog : Program) (w : World) (fd : FuncData) (ps : List Str) (n : Nat) (dflt : List AV) : Prop :=
  ∀ (A : Around) (E : Value → Shared → Prop) (s : Shared) (vals : List Value), G.In s.heap → vals.length = n →
    wpAny (model prog w) A (bindArgs fd ⟨vals, []⟩) (fun b s' => s' = s ∧ ∃ ds, b = ps.zip (vals ++ ds) ∧ ∀ B T n, (∀ b, B b → G.nb ≤ b) → RepL w B T n s.heap ds dflt) E s
theorem BindOk.plain {fd : FuncData} {ps : List Str} {n : Nat} (h : ∀ vals : List Value, vals.length = n → bindArgs fd ⟨vals, []⟩ = pure (ps.zip vals)) : BindOk G prog w fd ps n [] := fun A E s vals _ hl => by
  rw [h vals hl]
  exact wpAny_pure ⟨rfl, [], by simp, fun _ _ _ _ => .nil⟩
theorem RepL.append {B : Addr → Prop} {T : Tx} {n : Nat} {h : Heap} {vs ws : List Value} {xs ys : List AV} (r : RepL W B T n h vs xs) (q : RepL W B T n h ws ys) : RepL W B T n h (vs ++ ws) (xs ++ ys) := by
  induction r with
  | nil => exact q
  | cons h _ ih => exact .cons h ih
theorem cells_acc {x : Str} : ∀ (names : List (Str × NameKind)) (n : Addr) (acc : List (Str × Addr)), (acc.lookup x).isSome = true → ((cellsFrom n names acc).lookup x).isSome = true
  | [], n, acc, h => h
  | (name, kind) :: r, n, acc, h => by
    unfold cellsFrom
    split
    · refine cells_acc r _ _ ?_
      rw [List.lookup_cons]
      split
      · rfl
      · exact h
    · exact cells_acc r _ _ h
theorem cells_some {x : Str} : ∀ (names : List (Str × NameKind)) (n : Addr) (acc : List (Str × Addr)), names.lookup x = some .cell → ((cellsFrom n names acc).lookup x).isSome = true
  | [], n, acc, h => by simp at h
  | (name, kind) :: r, n, acc, h => by
    unfold cellsFrom
    rw [List.lookup_cons] at h
    by_cases hx : x = name
    · subst hx
      simp at h; subst h
      rw [if_pos (by rfl)]
      exact cells_acc r _ _ (by simp)
    · rw [beq_false_of_ne hx] at h
      split
      · exact cells_some r _ _ h
      · exact cells_some r _ _ h
omit [Lo] in
noncomputable def paramsOk (names : List (Str × NameKind)) (ps : List Str) : Bool := ps.all fun x => match names.lookup x with
  | some .local => true
  | some .cell => true
  | _ => false
theorem paramsOk_at {names : List (Str × NameKind)} {ps : List Str} (h : paramsOk names ps = true) : ∀ x ∈ ps, names.lookup x = some .local ∨ (names.lookup x = some .cell ∧ ∀ n, ((cellsFrom n names []).lookup x).isSome = true) := by
  intro x hx
  have := List.all_eq_true.mp h x hx
  split at this
  · exact .inl (by assumption)
  · exact .inr ⟨by assumption, fun n => cells_some names n [] (by assumption)⟩
  · exact ft this
theorem FSpecP.of {pz : Bool} {k : Nat} {f : Str} {args dflt : List AV} {r : Except XV AV} {a : Addr} {fd : FuncData} {body : List Stmt} {ps : List Str}
    (hfn : G.fn f = some (a, fd)) (hbody : fd.body = .stmts body) (hb : BindOk G prog w fd ps args.length dflt)
    (h : ∀ A L T s B fr, Ex (fcx G prog w A fd L a T s B fr k) body (Sto.of ps (args ++ dflt)) (fun o _ => Ends o r))
    (hfst : pz = true ∨ ∃ p ps', ps = p :: ps' ∧ fd.scope.names.lookup p = some .local) (hps : ps.length = args.length + dflt.length) (hnd : ps.Nodup)
    (hkind' : paramsOk fd.scope.names ps = true )
    (hclo : fd.closure = [] ) (hgl : fd.globals = mainGlobals ) (hbu : fd.builtins = builtinsNs )
    (hco : fd.scope.isCoroutine = false ) (hgen : fd.scope.isGenerator = false ) (hk : fd.scope.kind = .function ) : FSpecP pz prog w G (k + 1) f args r := by
  have hkind := paramsOk_at hkind'
  intro A fr T s B vals a' fd' hfn' hA hh hG hfr hpz hB hnb rep
  rw [hfn] at hfn'; cases Option.some.inj hfn'
  refine x0a3 (hG.fn f a fd hfn) fun e_0 t_1 hcd => ?_; clear e_0; refine x1a2 t_1 fun o ho hdat => ?_; (try clear t_1)
  refine cq_call_fn (by have := hA.depth; show A.depth < 1000; (clear hnb hps; lia)) ho hdat hco hgen hbody hcd ?_
  refine wpAny_mono (E := fun _ _ => False) (hb A.in1 (fun _ _ => False) s vals hG rep.length) (fun binds s' t_0 => x0a2 t_0 fun hs' t_1 => x1a2 t_1 fun ds hbinds hds => ?_) fun _ _ x => x.elim
  subst hs' hbinds
  rw [hclo]
  have rep' : RepL w B T s'.toks s'.heap (vals ++ ds) (args ++ dflt) := rep.append (hds B T s'.toks fun b q => (hB b q).1)
  have hlen : ps.length = (vals ++ ds).length := by rw [rep'.length, hps, List.length_append]
  have hzip : (ps.zip (vals ++ ds)).map (·.1) = ps := List.map_fst_zip (by (clear hnb hps; lia))
  have hmem : ∀ x ∈ ps.zip (vals ++ ds), x.1 ∈ ps := fun x hx => by rw [← hzip]; exact List.mem_map_of_mem hx
  have h0 : 0 < s'.toks ∨ ∃ n v r, ps.zip (vals ++ ds) = (n, v) :: r ∧ fd.scope.names.lookup n = some .local := by
    refine hfst.imp hpz fun t_0 => x2a2 t_0 fun p ps' e hp => ?_
    subst e
    cases hv : vals ++ ds with
    | nil => rw [hv] at hlen; simp at hlen
    | cons v vs => exact ⟨p, v, _, rfl, hp⟩
  refine wpAny_grow (newFunctionEnv_cls3 h0 hk (fun x hx => (hkind x.1 (hmem x hx)).imp id fun q => ⟨q.1, q.2 _⟩) fun env he s₁ ic icl hpos htk hsz => ?_)
  have ic' : InCallC s' (callEnvC fd s'.heap.objs.size a).locals (bindL (callEnvC fd s'.heap.objs.size a).kindOf (ps.zip (vals ++ ds)) fun x => none) (callEnvC fd s'.heap.objs.size a).cells
      (bindC (callEnvC fd s'.heap.objs.size a).kindOf (ps.zip (vals ++ ds)) fun x => none) s₁ := by subst he; exact ic
  clear ic
  have he' : env = callEnvC fd s'.heap.objs.size a := he
  clear he; subst he'
  have icl : ClsAt s₁.heap s'.heap.objs.size (.type "frame") := icl
  refine ⟨hG.noLimit.keeps ic'.toInCall.keep, cq_func ?_⟩
  generalize hX : fcx G prog w A fd s'.heap.objs.size a T s' B fr k = X
  have hXenv : X.env = callEnvC fd s'.heap.objs.size a := by rw [← hX]; rfl
  have hXA : X.A = A.deeper (callEnvC fd s'.heap.objs.size a) := by rw [← hX]; rfl
  have hXM : X.M = model prog w := by rw [← hX]; rfl
  have hXs : X.s0 = s' := by rw [← hX]; rfl
  have hXG : X.G = G := by rw [← hX]; rfl
  have hXB : X.B0 = B := by rw [← hX]; rfl
  have hXT : X.T0 = T := by rw [← hX]; rfl
  have hXf : X.fr = callEnvC fd s'.heap.objs.size a :: fr := by rw [← hX]; rfl
  have hXk : X.k = k := by rw [← hX]; rfl
  have hXw : X.w = w := by rw [← hX]; rfl
  have hL : (callEnvC fd s'.heap.objs.size a).locals = s'.heap.objs.size := rfl
  have le₁ : Le T s' T s₁ := by
    refine x2a1 (ic'.toInCall.same) fun h' tk e => ?_
    exact ⟨⟨hsz, fun b o e => ⟨o.slots, keepS_re (ic'.toInCall.keep b o e)⟩⟩, htk, fun _ _ => rfl, by rw [e], by rw [e]⟩
  have hcells : ∀ x c, (callEnvC fd s'.heap.objs.size a).cells.lookup x = some c → s'.heap.objs.size < c := fun x c e => ic'.above x c (mem_of_lookup e)
  have hkd : ∀ x, (callEnvC fd s'.heap.objs.size a).kindOf x = fd.scope.names.lookup x := fun x => rfl
  have S : St X (Sto.of ps (args ++ dflt)) T s₁ := {
    ok := {
      a := by rw [hXA, hXf, hXk]; exact ⟨by show A.depth + 1 + k ≤ 900; have := hA.depth; (clear hXk hsz htk hpos hlen hnb hps; lia), by show A.units + 3 + 20 * k ≤ 5000; have := hA.units; (clear hXk hsz htk hpos hlen hnb hps; lia), by show A.frames.map _ = _; rw [hA.frames]; rfl⟩
      hh := fun _ => by rw [hXA]; exact hh
      kind := by rw [hXenv]; exact hk
      glob := by rw [hXenv]; exact hgl
      bu := by rw [hXenv]; exact hbu
      pg := by rw [hXs, hXG]; exact hG
      nb := by rw [hXs, hXG]; exact hnb
      hB := by rw [hXs, hXG, hXB]; exact hB
      locals := by rw [hXs, hXenv]; exact Nat.le_refl _
      cl := fun x c e => by rw [hXenv] at e; rw [hXG]; exact Nat.le_trans hnb (Nat.le_of_lt (hcells x c e)) }
    le := by rw [hXs, hXT]; exact le₁
    pos := hpos
    fro := by
      rw [hXf]
      refine x3a3 (ic'.toInCall.ns) fun o es ep hL' hd' _ => ?_
      exact ⟨by show fd.scope.kind ≠ .module; rw [hk]; decide, ⟨s'.heap.objs.size, rfl, o, hL', by refine x1a2 icl fun o2 g1 g2 => ?_; (try clear icl); rw [show s₁.heap.get? s'.heap.objs.size = some o from hL'] at g1; (have g1 := Option.some.inj g1; subst g1); exact g2, Nat.le_trans hG.lo hnb, es, ep, hd'⟩, hfr.ext le₁.ext⟩
    vars := by
      rw [hXenv]
      refine ⟨_, ic'.toInCall.ns, fun x c e => ?_⟩
      refine x2a3 (Sto.of_get rep' (by rw [List.length_append]; exact hps) x c e) fun v av hm e_0 rv => ?_; subst e_0
      refine ⟨v, ?_, ?_⟩
      · have hx := hkind x (hmem _ hm)
        rcases hx with hx | ⟨hx, hx'⟩
        · have hx2 : (callEnvC fd s'.heap.objs.size a).kindOf x = some .local := hx
          unfold VarAt; rw [hx2]
          exact bindL_at hx2 _ _ (by rw [hzip]; exact hnd) hm
        · have hx2 : (callEnvC fd s'.heap.objs.size a).kindOf x = some .cell := hx
          unfold VarAt; rw [hx2]
          refine x1a1 (Option.isSome_iff_exists.mp (hx' (s'.heap.objs.size + 1))) fun c hc => ?_
          refine ⟨c, hc, ?_⟩
          have := ic'.cell x c hc
          rwa [bindC_at (v := v) (by rw [hx2]; decide) _ _ (by rw [hzip]; exact hnd) hm] at this
      · rw [hXw]
        refine Rep.mono rv htk (fun _ _ => rfl) le₁.ext fun b q => ?_
        rcases q with q | q | ⟨y, q⟩ | ⟨y, z, q⟩
        · rw [hXB] at q; exact .inl q
        · rw [hXenv, hL] at q; exact .inr (q ▸ Heap.get?_none_of_le (Nat.le_refl _))
        · rw [hXenv] at q; exact .inr (Heap.get?_none_of_le (Nat.le_of_lt (hcells y b q)))
        · refine x2a3 (Sto.of_get rep' (by rw [List.length_append]; exact hps) y _ q) fun _ _ _ h2 _ => ?_
          cases h2
    cells := fun x c e => by
      rw [hXenv] at e
      rw [hXenv, hXs]
      exact ⟨fun _ _ => Nat.le_of_lt (hcells x c e), Nat.ne_of_gt (hcells x c e), _, ic'.cell x c e⟩
    apart := fun x y c e1 e2 => by
      rw [hXenv] at e1 e2
      exact name_of_addr ic'.apart (mem_of_lookup e1) (mem_of_lookup e2)
    fresh := fun b t_0 => x2a1 t_0 fun y z q => by
      refine x2a3 (Sto.of_get rep' (by rw [List.length_append]; exact hps) y _ q) fun _ _ _ h2 _ => ?_
      cases h2
    one := fun x y b u v q _ => by
      refine x2a3 (Sto.of_get rep' (by rw [List.length_append]; exact hps) x _ q) fun _ _ _ h2 _ => ?_
      cases h2 }
  have hEx := h A s'.heap.objs.size T s' B fr
  rw [hX] at hEx
  have hEx' := hEx T s₁ S
  rw [hXM, hXA, hXenv] at hEx'
  refine wq_mono hEx' (fun fl s₂ t_0 => x3a3 t_0 fun T₂ o σ₂ n hfl he => ?_) fun e s₂ t_0 => x4a4 t_0 fun T₂ x σ₂ b hb n ea he => ?_
  · have le₂ : Le T s' T₂ s₂ := by have := n.st.le; rwa [hXs, hXT] at this
    cases o with
    | next => obtain rfl : fl = .next := hfl; exact ⟨T₂, _, he, le₂, .none⟩
    | brk => exact he.elim
    | cont => exact he.elim
    | ret v => refine x1a2 hfl fun u e_0 ru => ?_; (try clear hfl); subst e_0; rw [hXB, hXw] at ru; exact ⟨T₂, v, he, le₂, ru⟩
    | exc x => exact hfl.elim
  · subst hb
    have hfro := n.st.fro
    rw [hXf] at hfro
    have hsz₂ : s'.heap.objs.size ≤ s₂.heap.objs.size := Nat.le_trans hsz n.le.size
    refine wpAny_leavingX (lo := s'.heap.objs.size) (L := s'.heap.objs.size) (by show A.frames.map _ = _; rw [hA.frames]; rfl) hfro rfl hsz₂ (ea.weak hsz) fun h' sh ea' => ?_
    refine ⟨T₂, x, b, he, rfl, ?_, ea'⟩
    have := (n.st.shift sh (by rw [hXs]; exact Nat.le_refl _)).le
    rwa [hXs, hXT] at this
theorem FSpec.of {k : Nat} {f : Str} {args dflt : List AV} {r : Except XV AV} {a : Addr} {fd : FuncData} {body : List Stmt} {ps : List Str}
    (hfn : G.fn f = some (a, fd)) (hbody : fd.body = .stmts body) (hb : BindOk G prog w fd ps args.length dflt)
    (h : ∀ A L T s B fr, Ex (fcx G prog w A fd L a T s B fr k) body (Sto.of ps (args ++ dflt)) (fun o _ => Ends o r))
    (hps : autoParam (ps.length = args.length + dflt.length) byRfl) (hnd : autoParam (ps.Nodup) byDec)
    (hkind' : autoParam (paramsOk fd.scope.names ps = true) byRfl)
    (hclo : autoParam (fd.closure = []) byRfl) (hgl : autoParam (fd.globals = mainGlobals) byRfl) (hbu : autoParam (fd.builtins = builtinsNs) byRfl)
    (hco : autoParam (fd.scope.isCoroutine = false) byRfl) (hgen : autoParam (fd.scope.isGenerator = false) byRfl) (hk : autoParam (fd.scope.kind = .function) byRfl) : FSpec prog w G (k + 1) f args r := fun A fr T s B vals a' fd' c1 c2 c3 c4 c5 c6 => FSpecP.of (pz := true) hfn hbody hb h (.inl rfl) hps hnd hkind' hclo hgl hbu hco hgen hk A fr T s B vals a' fd' c1 c2 c3 c4 c5 fun _ => c6
theorem FSpec0.of {k : Nat} {f : Str} {args dflt : List AV} {r : Except XV AV} {a : Addr} {fd : FuncData} {body : List Stmt} {ps : List Str}
    (hfn : G.fn f = some (a, fd)) (hbody : fd.body = .stmts body) (hb : BindOk G prog w fd ps args.length dflt)
    (h : ∀ A L T s B fr, Ex (fcx G prog w A fd L a T s B fr k) body (Sto.of ps (args ++ dflt)) (fun o _ => Ends o r))
    (hfst : autoParam (∃ p ps', ps = p :: ps' ∧ fd.scope.names.lookup p = some .local) byEx) (hps : autoParam (ps.length = args.length + dflt.length) byRfl) (hnd : autoParam (ps.Nodup) byDec)
    (hkind' : autoParam (paramsOk fd.scope.names ps = true) byRfl)
    (hclo : autoParam (fd.closure = []) byRfl) (hgl : autoParam (fd.globals = mainGlobals) byRfl) (hbu : autoParam (fd.builtins = builtinsNs) byRfl)
    (hco : autoParam (fd.scope.isCoroutine = false) byRfl) (hgen : autoParam (fd.scope.isGenerator = false) byRfl) (hk : autoParam (fd.scope.kind = .function) byRfl) : FSpec0 prog w G (k + 1) f args r := fun A fr T s B vals a' fd' c1 c2 c3 c4 c5 => FSpecP.of (pz := false) hfn hbody hb h (.inr hfst) hps hnd hkind' hclo hgl hbu hco hgen hk A fr T s B vals a' fd' c1 c2 c3 c4 c5 nofun
end
section
variable {M : Model} {A : Around} {E : Value → Shared → Prop} {s : Shared}
theorem wq_callWith_fn {pos : Pos} {a : Addr} {first : List Value} {args : List (Bool × Sem Value)} {Q : Value → Shared → Prop}
    (h : wq M A (evalArgs (.ref a) true args []) (fun x s₁ => (∃ o fd, s₁.heap.get? a = some o ∧ o.data = .func fd) ∧ wq M A (call (.ref a) (first ++ x.pos) x.kw) Q E s₁) E s) :
    wq M A (callWith pos (.ref a) first args []) Q E s := by
  unfold callWith
  refine wq_bind (wq_holding (wq_mono h (fun x s₁ h₁ => wq_bind (wq_standAt ?_)) fun _ _ x => x))
  obtain ⟨⟨o, fd, ho, hd⟩, h₁⟩ := h₁
  have tail : ∀ {t : Sem Value}, wq M A t Q E s₁ → wq M A (t >>= fun r => holding [r] point >>= fun _ => pure r) Q E s₁ :=
    fun ht => wq_bind (wq_mono ht (fun r s₂ hr => wq_bind (wq_holding (wq_point (wq_pure hr)))) fun _ _ x => x)
  have hk : ∀ {Q' : Keeper → Shared → Prop}, Q' .frame s₁ → wq M A (keeperOf (.ref a)) Q' E s₁ := fun q => by
    unfold keeperOf
    refine wq_bind (wq_of (wpAny_load ho ?_))
    rw [hd]; exact wq_pure q
  refine wq_bind (hk ?_)
  cases hs : args.any (·.1)
  · simp only [List.any_nil, Bool.or_false]
    split
    · exact tail h₁
    · exact tail (by unfold callMarked; exact wq_keep h₁)
  · simp only [List.any_nil, Bool.or_false]
    exact tail (by unfold callMarked; exact wq_keep h₁)
theorem wq_evalArgs {f : Value} {x : Sem Value} {rest : List (Bool × Sem Value)} {Q : Args → Shared → Prop}
    (h : wq M A (spliced ((false, x) :: rest)) (fun vs s' => Q ⟨vs, []⟩ s') E s) : wq M A (evalArgs f true ((false, x) :: rest) []) Q E s := by
  unfold evalArgs
  simp only
  refine wq_bind (wq_mono h (fun vs s' h' => ?_) fun _ _ x => x)
  refine wq_bind (wq_pure (wq_holding ?_))
  exact wq_bind (wq_pure (wq_bind (wq_pure (wq_pure h'))))
theorem wq_Call {env : Env} {func : Expr} {args : List Expr} {pos : Pos} {Q : Value → Shared → Prop}
    (h : wq M A (eval func env) (fun f s₁ => wq M A (callWith pos f [] (backTo pos (starEach args env)) []) Q E s₁) E s)
    (he : autoParam (eval (.Call func args [] pos) env = (do callWith pos (← eval func env) [] (backTo pos (starEach args env)) (backToKw pos (keywordEach [] env)))) byRfl) :
    wq M A (eval (.Call func args [] pos) env) Q E s := by
  rw [he]; exact wq_bind h
end
section
variable {X : Cx} {σ : Sto}
theorem EvX.call {f : Str} {p pos : Pos} {e : Expr} {es : List Expr} {xs : List AV} {r : Except XV AV} {k : Nat} (hf : FSpec X.prog X.w X.G k f xs r) (h : EvL X (e :: es) σ xs) (hkind : X.env.kindOf f = some .globalImplicit)
    (hq : X.quiet = true) (hk : k ≤ X.k) {a : Addr} {fd : FuncData} (hfn : X.G.fn f = some (a, fd)) (hd : autoParam ((f == ("__debug__" : Str)) = false) byDec)
    (he : autoParam (starEach (e :: es) X.env = (false, eval e X.env) :: starEach es X.env) byRfl)
    (hc : autoParam (eval (.Call (.Name f p) (e :: es) [] pos) X.env = (do callWith pos (← eval (.Name f p) X.env) [] (backTo pos (starEach (e :: es) X.env)) (backToKw pos (keywordEach [] X.env)))) byRfl) :
    EvX X (.Call (.Name f p) (e :: es) [] pos) σ r := fun T s S => by
  refine wq_Call (S.load_fn hkind hfn ?_ hd) hc
  have h' := h
  unfold EvL at h'
  rw [he] at h' ⊢
  refine wq_callWith_fn (a := a) (wq_evalArgs (wq_mono (h' T s S pos) (fun vs s' t_0 => x1a2 t_0 fun T' l rl => ?_) fun _ _ x => x.elim))
  have S' := S.le_mono l
  refine x0a3 (S'.pg.fn f a fd hfn) fun _ t_0 _ => ?_; refine x1a2 t_0 fun o ho hdat => ?_; (try clear t_0)
  refine ⟨⟨o, fd, ho, hdat⟩, wq_call ?_⟩
  refine cq_mono (hf X.A X.fr T' s' (X.ban σ) vs a fd hfn (S'.ok.a.mono hk) (S'.ok.hh hq) S'.pg S'.fro S'.pos (fun b q => ⟨S'.ban_ge q, S'.ban_lt q⟩) (Nat.le_trans S'.ok.nb S'.le.ext.1) rl) fun res s'' hr => ?_
  cases res with
  | ok fl => cases fl with
    | ret v => exact x2a3 hr fun T'' av e l' r' => ⟨T'', av, e, l.trans l', r'⟩
    | _ => exact hr.elim
  | error e => exact x3a4 hr fun T'' x b e1 e2 l' ea => ⟨T'', x, b, e1, e2, l.trans l', ea.weak l.ext.1⟩
end
end Mine
namespace Mine
open PySem PySem.W PyProof.Rows
variable [Lo]
variable {W : World}
section
variable {X : Cx} {B : Addr → Prop} {T : Tx} {s : Shared}
theorem yl_int {k : Nat} {i : Int} {t : Tok} (hk : s.toks ≤ k) : ∃ T', Le T s T' { s with toks := k } ∧ Rep W B T' k s.heap (.int i t) (.int i) := ⟨T, .tok hk, .int _ _⟩
theorem yl_bool {b : Bool} : ∃ T', Le T s T' s ∧ Rep W B T' s.toks s.heap (.bool b) (.bool b) := ⟨T, .refl _ _, .bool _⟩
theorem yl_boolk {k : Nat} {b : Bool} (hk : s.toks ≤ k) : ∃ T', Le T s T' { s with toks := k } ∧ Rep W B T' k s.heap (.bool b) (.bool b) := ⟨T, .tok hk, .bool _⟩
theorem post_str {x : Str} {l : List Nat} (h0 : 0 < s.toks) (hx : x.cps.toList = l) (hs : l.length ≤ 16777216) :
    Made.post (.str x) (fun v s' => ∃ T', Le T s T' s' ∧ Rep W B T' s'.toks s'.heap v (.str l)) s :=
  ⟨by rw [sizeLine_eq]; subst hx; simpa [Str.length] using hs, rep_new h0 hx⟩
theorem post_val {v : Value} {x : AV} (r : Rep W B T s.toks s.heap v x) : Made.post (.val v) (fun v s' => ∃ T', Le T s T' s' ∧ Rep W B T' s'.toks s'.heap v x) s := ⟨T, .refl _ _, r⟩
end
theorem rep_str_inv {B : Addr → Prop} {T : Tx} {n : Nat} {h : Heap} {v : Value} {l : List Nat} (r : Rep W B T n h v (.str l)) : ∃ x t, v = .str x t ∧ x.cps.toList = l ∧ T t = l ∧ 0 < t ∧ t < n := by
  cases r with
  | str s => refine x2a5 (s.is) fun x t h1 h2 h3 h4 h5 => ?_; exact ⟨x, t, h1, h2, h3, h4, h5⟩
theorem str_of {x : Str} {l : List Nat} (h : x.cps.toList = l) : x = ⟨l.toArray⟩ := by
  subst h; cases x; simp
theorem bin_add_int {a b : Int} : BinG .Add (.int a) (.int b) (.int (a + b)) := fun X B T s u v _ _ _ r₁ r₂ => by
  cases r₁ using Rep.cInt; cases r₂ using Rep.cInt; exact P.add_int (yl_int (Nat.le_succ _))
theorem bin_sub_int {a b : Int} : BinG .Sub (.int a) (.int b) (.int (a - b)) := fun X B T s u v _ _ _ r₁ r₂ => by
  cases r₁ using Rep.cInt; cases r₂ using Rep.cInt; exact P.sub_int (yl_int (Nat.le_succ _))
theorem intMulOk_left {a b : Int} (h : a.natAbs < 2 ^ 60) : IntMulOk a b := IntMulOk.of_left (by
  unfold Builtin.Int.intBits
  split
  · (clear h; lia)
  · rename_i hz
    have := (Nat.log2_lt (n := a.natAbs) (k := 60) (by simpa using hz)).mpr h
    lia)
theorem intMulOk_right {a b : Int} (h : b.natAbs < 2 ^ 60) : IntMulOk a b := IntMulOk.of_right (by
  unfold Builtin.Int.intBits
  split
  · (clear h; lia)
  · rename_i hz
    have := (Nat.log2_lt (n := b.natAbs) (k := 60) (by simpa using hz)).mpr h
    lia)
theorem bin_mul_intL {a b : Int} (h : a.natAbs < 2 ^ 60) : BinG .Mult (.int a) (.int b) (.int (a * b)) := fun X B T s u v _ _ _ r₁ r₂ => by
  cases r₁ using Rep.cInt; cases r₂ using Rep.cInt; exact P.mul_int (yl_int (Nat.le_succ _)) (intMulOk_left h)
theorem bin_mul_intR {a b : Int} (h : b.natAbs < 2 ^ 60) : BinG .Mult (.int a) (.int b) (.int (a * b)) := fun X B T s u v _ _ _ r₁ r₂ => by
  cases r₁ using Rep.cInt; cases r₂ using Rep.cInt; exact P.mul_int (yl_int (Nat.le_succ _)) (intMulOk_right h)
theorem bin_div_int {a b : Int} (h : 0 < b) (hs : b < 1073741824) : BinG .FloorDiv (.int a) (.int b) (.int (a / b)) := fun X B T s u v _ _ _ r₁ r₂ => by
  cases r₁ using Rep.cInt; cases r₂ using Rep.cInt
  rw [← Int.fdiv_eq_ediv_of_nonneg a (Int.le_of_lt h)]
  exact floordiv_int (by omega) (yl_int (Nat.le_succ _)) (.inl (PyProof.noPylong_small (by omega)))
theorem bin_mod_int {a b : Int} (h : 0 < b) : BinG .Mod (.int a) (.int b) (.int (a % b)) := fun X B T s u v _ _ _ r₁ r₂ => by
  cases r₁ using Rep.cInt; cases r₂ using Rep.cInt
  rw [← Int.fmod_eq_emod_of_nonneg a (Int.le_of_lt h)]
  exact mod_int' (by lia) (yl_int (Nat.le_succ _))
theorem inp_add_int {a b : Int} : InpG .Add (.int a) (.int b) (.int (a + b)) := fun X B T s u v _ _ r₁ r₂ => by
  cases r₁ using Rep.cInt; cases r₂ using Rep.cInt; exact P.iadd_int (yl_int (Nat.le_succ _))
theorem inp_div_int {a b : Int} (h : 0 < b) (hs : b < 1073741824) : InpG .FloorDiv (.int a) (.int b) (.int (a / b)) := fun X B T s u v _ _ r₁ r₂ => by
  cases r₁ using Rep.cInt; cases r₂ using Rep.cInt
  rw [← Int.fdiv_eq_ediv_of_nonneg a (Int.le_of_lt h)]
  exact ifloordiv_int (by (clear hs; lia)) (yl_int (Nat.le_succ _)) (.inl (PyProof.noPylong_small (by omega)))
theorem bin_add_str {a b : List Nat} (h : a.length + b.length ≤ 16777216) : BinG .Add (.str a) (.str b) (.str (a ++ b)) := fun X B T s u v _ h0 _ r₁ r₂ => by
  refine x2a3 (rep_str_inv r₁) fun x t e_0 hx ht => ?_; subst e_0
  refine x2a3 (rep_str_inv r₂) fun y q e_0 hy hq => ?_; subst e_0
  refine P.add_str ?_
  split
  · rename_i hz
    have : a = [] := by subst hx; simpa [Str.length] using hz
    subst this; exact post_val r₂
  · split
    · rename_i hz
      have : b = [] := by subst hy; simpa [Str.length] using hz
      subst this; rw [List.append_nil]; exact post_val r₁
    · exact post_str h0 (by subst hx hy; rw [Str.cps_append]; simp) (by rw [List.length_append]; exact h)
theorem inp_add_str {a b : List Nat} (h : a.length + b.length ≤ 16777216) : InpG .Add (.str a) (.str b) (.str (a ++ b)) := fun X B T s u v _ h0 r₁ r₂ => by
  refine x2a3 (rep_str_inv r₁) fun x t e_0 hx ht => ?_; subst e_0
  refine x2a3 (rep_str_inv r₂) fun y q e_0 hy hq => ?_; subst e_0
  refine P.iadd_str ?_
  split
  · rename_i hz
    have : a = [] := by subst hx; simpa [Str.length] using hz
    subst this; exact post_val r₂
  · split
    · rename_i hz
      have : b = [] := by subst hy; simpa [Str.length] using hz
      subst this; rw [List.append_nil]; exact post_val r₁
    · exact post_str h0 (by subst hx hy; rw [Str.cps_append]; simp) (by rw [List.length_append]; exact h)
theorem cmp_lt_int {a b : Int} : CmpG .Lt (.int a) (.int b) (decide (a < b)) := fun X B T s u v _ _ _ r₁ r₂ => by cases r₁ using Rep.cInt; cases r₂ using Rep.cInt; exact P.lt_int yl_bool
theorem cmp_le_int {a b : Int} : CmpG .LtE (.int a) (.int b) (decide (a ≤ b)) := fun X B T s u v _ _ _ r₁ r₂ => by cases r₁ using Rep.cInt; cases r₂ using Rep.cInt; exact P.le_int yl_bool
theorem cmp_gt_int {a b : Int} : CmpG .Gt (.int a) (.int b) (decide (a > b)) := fun X B T s u v _ _ _ r₁ r₂ => by cases r₁ using Rep.cInt; cases r₂ using Rep.cInt; exact P.gt_int yl_bool
theorem cmp_eq_int {a b : Int} : CmpG .Eq (.int a) (.int b) (a == b) := fun X B T s u v _ _ _ r₁ r₂ => by cases r₁ using Rep.cInt; cases r₂ using Rep.cInt; exact P.eq_int yl_bool
theorem cmp_eq_str {a b : List Nat} : CmpG .Eq (.str a) (.str b) (a == b) := fun X B T s u v _ _ _ r₁ r₂ => by
  refine x2a3 (rep_str_inv r₁) fun x t e_0 hx ht => ?_; subst e_0
  refine x2a3 (rep_str_inv r₂) fun y q e_0 hy hq => ?_; subst e_0
  subst hx hy
  exact P.eq_str yl_bool
theorem cmp_ne_str {a b : List Nat} : CmpG .NotEq (.str a) (.str b) (a != b) := fun X B T s u v _ _ _ r₁ r₂ => by
  refine x2a3 (rep_str_inv r₁) fun x t e_0 hx ht => ?_; subst e_0
  refine x2a3 (rep_str_inv r₂) fun y q e_0 hy hq => ?_; subst e_0
  subst hx hy
  exact P.ne_str yl_bool
omit [Lo] in
noncomputable def AV.isNone : AV → Bool
  | .none => true
  | _ => false
theorem rep_isNone {B : Addr → Prop} {T : Tx} {n : Nat} {h : Heap} {v : Value} {x : AV} (r : Rep W B T n h v x) : (v == Value.none) = x.isNone := by
  cases r <;> first | rfl | (rename_i s; refine x2a2 (s.is) fun x t e_0 _ => ?_; subst e_0; rfl)
theorem cmp_is_none {a : AV} : CmpG .Is a .none a.isNone := fun X B T s u v _ _ _ r₁ r₂ => by
  cases r₂ using Rep.cNone
  refine is_none ?_
  rw [rep_isNone r₁]; exact yl_bool
end Mine
namespace Mine
open PySem PySem.W PyProof.Rows
variable [Lo]
variable {W : World}
section
variable {M : Model} {A : Around} {E : Value → Shared → Prop} {s : Shared}
theorem wq_callWith_plain {pos : Pos} {f : Value} {first : List Value} {args : List (Bool × Sem Value)} {Q : Value → Shared → Prop} (hf : ∀ a, f ≠ .ref a) (hplain : args.any (·.1) = false)
    (h : wq M A (evalArgs f true args []) (fun a s₁ => wq M A (call f (first ++ a.pos) a.kw) Q E s₁) E s) : wq M A (callWith pos f first args []) Q E s := by
  unfold callWith
  refine wq_bind (wq_holding (wq_mono h (fun a s₁ h₁ => wq_bind (wq_standAt ?_)) fun _ _ x => x))
  have hk : keeperOf f = pure .machine := by
    unfold keeperOf
    cases f <;> first | rfl | exact absurd rfl (hf _)
  rw [hk]
  refine wq_bind (wq_pure ?_)
  simp only [hplain, List.any_nil, Bool.or_false]
  exact wq_bind (wq_mono h₁ (fun r s₂ hr => wq_bind (wq_holding (wq_point (wq_pure hr)))) fun _ _ x => x)
theorem wq_evalArgs_none {f : Value} {Q : Args → Shared → Prop} (h : Q ⟨[], []⟩ s) : wq M A (evalArgs f true [] []) Q E s := wq_of (PySem.evalArgs_none h)
end
section
variable {prog : Program} {w : World} {A : Around} {E : Value → Shared → Prop} {s : Shared} {env : Env}
theorem wq_Call_method {o : Expr} {name : Str} {apos pos : Pos} {args : List Expr} {T id : String} {Q : Value → Shared → Prop}
    (pa : PlainAttrs T) (slot : Slot T name id) (hty : typeOf (.builtin id) = pure (.type "method_descriptor"))
    (h : wq (model prog w) A (eval o env) (fun ov s₁ => s₁.TypeIs ov T ∧ (∀ a, ov = .ref a → ∃ ob, s₁.heap.get? a = some ob ∧ ob.dict = none) ∧
      wq (model prog w) A (callWith pos (.builtin id) [ov] (backTo pos (starEach args env)) []) Q E s₁) E s)
    (hbase : autoParam (attributeBase o name env (eval o env) = eval o env) byRfl)
    (hfew : autoParam (methodCallForm (args.length + ([] : List Keyword).length) (backTo pos (starEach args env)) (backToKw pos (keywordEach [] env)) = true) byRfl)
    (hline : autoParam ((apos.endLine == pos.line) = true) byRfl) :
    wq (model prog w) A (eval (.Call (.Attribute o name apos) args [] pos) env) Q E s := by
  show wq (model prog w) A (do
    let ov ← attributeBase o name env (eval o env)
    standAt apos.atName
    methodCall o name apos pos env ov (args.length + ([] : List Keyword).length) (backTo pos (starEach args env)) (backToKw pos (keywordEach [] env))) Q E s
  rw [hbase]
  refine wq_bind (wq_mono h (fun ov s₁ t_0 => x0a3 t_0 fun hT hd hc => wq_bind (wq_standAt ?_)) fun _ _ x => x)
  have hpos : methodCallPos true o env apos pos = pure pos := by unfold methodCallPos; simp [hline]
  unfold methodCall
  rw [hfew]
  refine wq_bind (wq_holding (wq_of (getMethod_builtin hT pa slot hty hd ?_)))
  rw [hpos]
  exact wq_bind (wq_pure hc)
end
noncomputable def CallG (f : Value) (args : List AV) (r : AV) : Prop := ∀ (X : Cx) (B : Addr → Prop) (T : Tx) (s : Shared) (vals : List Value), X.Ok → X.quiet = true → (∀ b, B b → b < s.heap.objs.size) → X.G.In s.heap → 0 < s.toks →
  RepL X.w B T s.toks s.heap vals args → Yl X B T s (call f vals) r
omit [Lo] in
noncomputable def AV.ty : AV → String
  | .none => "NoneType"
  | .bool _ => "bool"
  | .int _ => "int"
  | .str _ => "str"
  | .txt _ => "str"
  | .bytes _ => "bytes"
  | .tup _ => "tuple"
  | .list _ => "list"
  | .dict _ => "dict"
  | .barr _ => "bytearray"
  | .hid => "tuple"
  | .exc .. => "UnicodeDecodeError"
theorem Rep.typeIs {B : Addr → Prop} {T : Tx} {n : Nat} {s : Shared} {v : Value} {x : AV} (r : Rep W B T n s.heap v x) : s.TypeIs v x.ty := by
  cases r with
  | none => rfl
  | bool => rfl
  | int => rfl
  | str x => refine x2a2 (x.is) fun y t e_0 _ => ?_; subst e_0; rfl
  | txt => rfl
  | bytes => rfl
  | tup _ h => refine x1a3 h fun o ho hc _ => ?_; (try clear h); exact ⟨o, ho, hc⟩
  | list _ h => refine x1a3 h fun o ho hc _ => ?_; (try clear h); exact ⟨o, ho, hc⟩
  | dict _ h => refine x0a2 h fun t_0 _ => ?_; (try clear h); refine x1a3 t_0 fun o ho hc _ => ?_; (try clear t_0); exact ⟨o, ho, hc⟩
  | exc _ ho hc => exact ⟨_, ho, hc⟩
theorem Rep.noDict {B : Addr → Prop} {T : Tx} {n : Nat} {h : Heap} {v : Value} {x : AV} (r : Rep W B T n h v x) (hx : ∀ l, x ≠ .tup l) : ∀ a, v = .ref a → ∃ ob, h.get? a = some ob ∧ ob.dict = Option.none := by
  intro a e
  cases r with
  | none => cases e
  | bool => cases e
  | int => cases e
  | str x => refine x2a2 (x.is) fun y t e_0 _ => ?_; subst e_0; cases e
  | txt => cases e
  | bytes => cases e
  | tup _ h => exact absurd rfl (hx _)
  | list _ h => cases e; refine x1a4 h fun o ho hc hd _ => ?_; (try clear h); exact ⟨o, ho, hd⟩
  | dict _ h => cases e; refine x0a2 h fun t_0 _ => ?_; (try clear h); refine x1a4 t_0 fun o ho hc hd _ => ?_; (try clear t_0); exact ⟨o, ho, hd⟩
  | exc _ ho hc hdi => cases e; exact ⟨_, ho, hdi⟩
theorem OwnRep.typeIs {B : Addr → Prop} {T : Tx} {n : Nat} {s : Shared} {a : Addr} {x : AV} (r : OwnRep W B T n s.heap a x) : s.TypeIs (.ref a) x.ty := by
  cases r with
  | list h => refine x1a3 h fun o ho hc _ => ?_; (try clear h); exact ⟨o, ho, hc⟩
  | dict h => refine x0a2 h fun t_0 _ => ?_; (try clear h); refine x1a3 t_0 fun o ho hc _ => ?_; (try clear t_0); exact ⟨o, ho, hc⟩
  | barr b h => refine x1a3 h fun o ho hc _ => ?_; (try clear h); exact ⟨o, ho, hc⟩
  | hid h => refine x1a3 h fun o ho hc _ => ?_; (try clear h); exact ⟨o, ho, hc⟩
theorem OwnRep.noDict {B : Addr → Prop} {T : Tx} {n : Nat} {h : Heap} {a : Addr} {x : AV} (r : OwnRep W B T n h a x) : ∃ ob, h.get? a = some ob ∧ ob.dict = Option.none := by
  cases r with
  | list h => refine x1a4 h fun o ho hc hd _ => ?_; (try clear h); exact ⟨o, ho, hd⟩
  | dict h => refine x0a2 h fun t_0 _ => ?_; (try clear h); refine x1a4 t_0 fun o ho hc hd _ => ?_; (try clear t_0); exact ⟨o, ho, hd⟩
  | barr b h => refine x1a4 h fun o ho hc hd _ => ?_; (try clear h); exact ⟨o, ho, hd⟩
  | hid h => refine x1a4 h fun o ho hc hd _ => ?_; (try clear h); exact ⟨o, ho, hd⟩
omit [Lo] in
structure Meth (T : String) (name : Str) (id : String) : Prop where
  pa : PlainAttrs T
  slot : Slot T name id
  ty : typeOf (.builtin id) = pure (.type "method_descriptor")
section
variable {X : Cx} {σ : Sto}
theorem Ev.callB {f : Str} {p pos : Pos} {e : Expr} {es : List Expr} {xs : List AV} {r : AV} {fv : Value} (h : EvL X (e :: es) σ xs) (hc : CallG fv xs r) (hq : X.quiet = true)
    (hkind : X.env.kindOf f = some .globalImplicit) (hg : X.G.mg f = none) (hb : bootBuiltins f = some fv) (hfv : ∀ a, fv ≠ .ref a)
    (hn : autoParam (f ≠ "__name__") byDec) (hd : autoParam ((f == ("__debug__" : Str)) = false) byDec)
    (he : autoParam (starEach (e :: es) X.env = (false, eval e X.env) :: starEach es X.env) byRfl) (hst : autoParam ((backTo pos (starEach (e :: es) X.env)).any (·.1) = false) byRfl)
    (hcall : autoParam (eval (.Call (.Name f p) (e :: es) [] pos) X.env = (do callWith pos (← eval (.Name f p) X.env) [] (backTo pos (starEach (e :: es) X.env)) (backToKw pos (keywordEach [] X.env)))) byRfl) :
    Ev X (.Call (.Name f p) (e :: es) [] pos) σ r := fun T s S => by
  refine wq_Call (S.load_builtin hkind hg hb ?_ hn hd) hcall
  refine wq_callWith_plain hfv hst ?_
  have h' := h
  unfold EvL at h'
  rw [he] at h' ⊢
  refine wq_evalArgs (wq_mono (h' T s S pos) (fun vs s' t_0 => x1a2 t_0 fun T' l rl => ?_) fun _ _ x => x.elim)
  have S' := S.le_mono l
  exact Yl.backq l (hc X _ T' s' vs S'.ok hq (fun b q => S'.ban_lt q) S'.pg S'.pos rl)
theorem Ev.meth0 {o : Expr} {name : Str} {apos pos : Pos} {id : String} {x r : AV} (m : Meth x.ty name id) (h : Ev X o σ x) (hc : CallG (.builtin id) [x] r) (hq : X.quiet = true) (hx : autoParam (∀ l, x ≠ .tup l) byNo)
    (hbase : autoParam (attributeBase o name X.env (eval o X.env) = eval o X.env) byRfl)
    (hfew : autoParam (methodCallForm (([] : List Expr).length + ([] : List Keyword).length) (backTo pos (starEach [] X.env)) (backToKw pos (keywordEach [] X.env)) = true) byRfl)
    (hline : autoParam ((apos.endLine == pos.line) = true) byRfl) : Ev X (.Call (.Attribute o name apos) [] [] pos) σ r := fun T s S => by
  refine wq_Call_method m.pa m.slot m.ty (h.then S fun v T' s' l S' rv => ⟨rv.typeIs, rv.noDict hx, ?_⟩) hbase hfew hline
  refine wq_callWith_plain (fun _ => by simp) rfl (wq_evalArgs_none ?_)
  exact Yl.backq l (hc X _ T' s' [v] S'.ok hq (fun b q => S'.ban_lt q) S'.pg S'.pos (.cons rv .nil))
theorem Ev.meth {o e : Expr} {es : List Expr} {name : Str} {apos pos : Pos} {id : String} {x r : AV} {xs : List AV} (m : Meth x.ty name id) (h : Ev X o σ x) (ha : EvL X (e :: es) σ xs) (hc : CallG (.builtin id) (x :: xs) r) (hq : X.quiet = true)
    (hx : autoParam (∀ l, x ≠ .tup l) byNo) (hbase : autoParam (attributeBase o name X.env (eval o X.env) = eval o X.env) byRfl)
    (hfew : autoParam (methodCallForm ((e :: es).length + ([] : List Keyword).length) (backTo pos (starEach (e :: es) X.env)) (backToKw pos (keywordEach [] X.env)) = true) byRfl)
    (hline : autoParam ((apos.endLine == pos.line) = true) byRfl)
    (he : autoParam (starEach (e :: es) X.env = (false, eval e X.env) :: starEach es X.env) byRfl) (hst : autoParam ((backTo pos (starEach (e :: es) X.env)).any (·.1) = false) byRfl) :
    Ev X (.Call (.Attribute o name apos) (e :: es) [] pos) σ r := fun T s S => by
  refine wq_Call_method m.pa m.slot m.ty (h.then S fun v T' s' l S' rv => ⟨rv.typeIs, rv.noDict hx, ?_⟩) hbase hfew hline
  refine wq_callWith_plain (fun _ => by simp) hst ?_
  have h' := ha
  unfold EvL at h'
  rw [he] at h' ⊢
  refine wq_evalArgs (wq_mono (h' T' s' S' pos) (fun vs s'' t_0 => x1a2 t_0 fun T'' l' rl => ?_) fun _ _ x => x.elim)
  have S'' := S'.le_mono l'
  exact Yl.backq (l.trans l') (hc X _ T'' s'' (v :: vs) S''.ok hq (fun b q => S''.ban_lt q) S''.pg S''.pos (.cons (rv.le l') rl))
noncomputable abbrev PM (X : Cx) (B : Addr → Prop) (T : Tx) (s : Shared) (a : Addr) (av' : AV) (s' : Shared) : Prop := ∃ T' s₁ h', Le T s T' s₁ ∧ Heap.SameBut a s₁.heap h' ∧ s' = { s₁ with heap := h' } ∧ OwnRep X.w B T' s₁.toks h' a av'
noncomputable def MutG (id : String) (av : AV) (args : List AV) (av' : AV) : Prop := ∀ (X : Cx) (B : Addr → Prop) (T : Tx) (s : Shared) (a : Addr) (vals : List Value), X.Ok → X.quiet = true → B a → (∀ b, B b → b < s.heap.objs.size) → X.G.In s.heap → 0 < s.toks →
  OwnRep X.w B T s.toks s.heap a av → RepL X.w B T s.toks s.heap vals args →
  wq X.M X.A (call (.builtin id) (.ref a :: vals)) (fun _ => PM X B T s a av') noE s
theorem StB.load_own {T : Tx} {s : Shared} (S : St X σ T s) {x : Str} {a : Addr} {av : AV} (hx : σ.get x = some ⟨some a, av⟩) {p : Pos} {Q : Value → Shared → Prop} {E : Value → Shared → Prop}
    (hQ : OwnRep X.w (X.ban σ) T s.toks s.heap a av → Q (.ref a) s) (hd : autoParam ((x == ("__debug__" : Str)) = false) byDec) (hcl : autoParam ((x == ("__classdict__" : Str)) = false) byDec) : wq X.M X.A (eval (.Name x p) X.env) Q E s :=
  wq_Name (wq_of (S.load hx (fun w r => by obtain ⟨rfl, r⟩ := r; exact hQ r) hcl)) hd
theorem Ex.mut {Q : Post} {x : Str} {a : Addr} {av av' : AV} {name : Str} {id : String} {e : Expr} {es : List Expr} {xs : List AV} {p apos pos pos' : Pos} {rest : List Stmt} (hx : σ.get x = some ⟨some a, av⟩) (m : Meth av.ty name id)
    (ha : EvL X (e :: es) σ xs) (hm : MutG id av xs av') (hq : X.quiet = true) (k : Ex X rest (σ.updO x a av') Q) (hd : autoParam ((x == ("__debug__" : Str)) = false) byDec) (hcl : autoParam ((x == ("__classdict__" : Str)) = false) byDec)
    (hi : autoParam (interactive X.env = false) byRfl) (hs : autoParam (swapsWith (.Call (.Attribute (.Name x p) name apos) (e :: es) [] pos) none pos'.line X.env = pure false) byRfl)
    (hbase : autoParam (attributeBase (.Name x p) name X.env (eval (.Name x p) X.env) = eval (.Name x p) X.env) byRfl)
    (hfew : autoParam (methodCallForm ((e :: es).length + ([] : List Keyword).length) (backTo pos (starEach (e :: es) X.env)) (backToKw pos (keywordEach [] X.env)) = true) byRfl)
    (hline : autoParam ((apos.endLine == pos.line) = true) byRfl)
    (he : autoParam (starEach (e :: es) X.env = (false, eval e X.env) :: starEach es X.env) byRfl) (hst : autoParam ((backTo pos (starEach (e :: es) X.env)).any (·.1) = false) byRfl) :
    Ex X (.Expr (.Call (.Attribute (.Name x p) name apos) (e :: es) [] pos) pos' :: rest) σ Q := .cons fun T s S => by
  show wq X.M X.A (do
    standAt pos'
    if interactive X.env then printExpr (eval (.Call (.Attribute (.Name x p) name apos) (e :: es) [] pos) X.env)
    else if ← swapsWith (.Call (.Attribute (.Name x p) name apos) (e :: es) [] pos) none pos'.line X.env then do evalThenUse (.Call (.Attribute (.Name x p) name apos) (e :: es) [] pos) X.env fun _ => point; pure .next
    else do dropValue (.Call (.Attribute (.Name x p) name apos) (e :: es) [] pos) pos' (← eval (.Call (.Attribute (.Name x p) name apos) (e :: es) [] pos) X.env)) _ _ s
  refine wq_bind (wq_standAt ?_)
  rw [hi, if_neg (by decide), hs]
  refine wq_bind (wq_pure ?_)
  rw [if_neg (by decide)]
  refine wq_bind ?_
  refine wq_Call_method m.pa m.slot m.ty (S.load_own hx (fun r => ⟨r.typeIs, fun b q => by cases q; exact r.noDict, ?_⟩) hd hcl) hbase hfew hline
  refine wq_callWith_plain (fun _ => by simp) hst ?_
  have h' := ha
  unfold EvL at h'
  rw [he] at h' ⊢
  refine wq_evalArgs (wq_mono (h' T s S pos) (fun vs s' t_0 => x1a2 t_0 fun T' l rl => ?_) fun _ _ x => x.elim)
  have S' := S.le_mono l
  refine wq_mono (hm X (X.ban σ) T' s' a vs S'.ok hq (.inr (.inr (.inr ⟨x, av, hx⟩))) (fun b q => S'.ban_lt q) S'.pg S'.pos (r.mono l.toks l.tx l.ext fun _ q => .inl q) rl) (fun v s'' t_0 => x3a4 t_0 fun T'' s₁ h₁ l' hsb e r' => ?_) fun _ _ x => x.elim
  subst e
  have S₁ := S'.le_mono l'
  refine wq_of (wpAny_dropValue ?_)
  refine ⟨T'', .next, _, ⟨S₁.turn hx hsb r', ((l.trans l').leB _).trans (LeB.turn (k := s₁.toks) hsb (.inr (.inr (.inr ⟨x, av, hx⟩))) (Nat.le_refl _)) fun _ _ q => q, fun b hb q => ?_⟩, rfl, k⟩
  rcases Cx.ban_updO q with q | q
  · exact q
  · exact q ▸ .inr (.inr (.inr ⟨x, av, hx⟩))
end
end Mine
namespace Mine
open PySem PySem.W PyProof.Rows
variable [Lo]
variable {W : World}
omit [Lo] in
noncomputable def noBan : Addr → Prop := fun _ => False
omit [Lo] in
noncomputable def AV.atom : AV → Bool
  | .tup _ => false
  | .list _ => false
  | .dict _ => false
  | .barr _ => false
  | .hid => false
  | .exc .. => false
  | _ => true
theorem Rep.reban {B B' : Addr → Prop} {T : Tx} {n : Nat} {h : Heap} {v : Value} {x : AV} (r : Rep W B T n h v x) (hx : x.atom = true) : Rep W B' T n h v x := by
  cases r with
  | none => exact .none
  | bool b => exact .bool b
  | int i t => exact .int i t
  | str s => exact .str s
  | bytes b t => exact .bytes b t
  | txt x t => exact .txt x t
  | tup => exact ft hx
  | list => exact ft hx
  | dict => exact ft hx
  | exc => exact ft hx
theorem Rep.unban {B : Addr → Prop} {T : Tx} {n : Nat} {h : Heap} {v : Value} {x : AV} (r : Rep W B T n h v x) : Rep W noBan T n h v x := r.sub fun _ q => q.elim
theorem OwnRep.unban {B : Addr → Prop} {T : Tx} {n : Nat} {h : Heap} {a : Addr} {x : AV} (r : OwnRep W B T n h a x) (hb : x.Open) : Rep W noBan T n h (.ref a) x :=
  r.rep (fun q => q) (fun _ q => q.elim) hb
noncomputable def EvO (X : Cx) (e : Expr) (σ : Sto) (x : AV) : Prop := ∀ T s, St X σ T s → Yq X noBan T s (eval e X.env) x
theorem EvO.then {X : Cx} {e : Expr} {σ : Sto} {x : AV} (h : EvO X e σ x) {T : Tx} {s : Shared} (S : St X σ T s) {Q : Value → Shared → Prop} {E : Value → Shared → Prop}
    (k : ∀ v T' s', Le T s T' s' → St X σ T' s' → Rep X.w noBan T' s'.toks s'.heap v x → Q v s') : wq X.M X.A (eval e X.env) Q E s :=
  (h T s S).then fun v T' s' l r => k v T' s' l (S.le_mono l) r
theorem Ev.o {X : Cx} {e : Expr} {σ : Sto} {x : AV} (h : Ev X e σ x) : EvO X e σ x := fun T s S => h.then S fun v T' s' l S' r => ⟨T', l, r.unban⟩
theorem EvO.own {X : Cx} {σ : Sto} {x : Str} {a : Addr} {av : AV} {p : Pos} (hx : σ.get x = some ⟨some a, av⟩) (hb : autoParam (av.Open) byOpen) (hd : autoParam ((x == ("__debug__" : Str)) = false) byDec) (hcl : autoParam ((x == ("__classdict__" : Str)) = false) byDec) :
    EvO X (.Name x p) σ av := fun T s S => S.load_own hx (fun r => ⟨T, .refl _ _, r.unban hb⟩) hd hcl
omit [Lo] in
inductive RepD (W : World) (B : Addr → Prop) (T : Tx) (n : Nat) (h : Heap) : List (Str × Value) → List (List Nat × AV) → Prop where
  | nil : RepD W B T n h [] []
  | cons {k : Str} {v : Value} {x : AV} {kvs : List (Str × Value)} {l : List (List Nat × AV)} : Rep W B T n h v x → RepD W B T n h kvs l → RepD W B T n h ((k, v) :: kvs) ((k.cps.toList, x) :: l)
theorem RepD.length {B : Addr → Prop} {T : Tx} {n : Nat} {h : Heap} {kvs : List (Str × Value)} {l : List (List Nat × AV)} (r : RepD W B T n h kvs l) : kvs.length = l.length := by
  induction r with
  | nil => rfl
  | cons _ _ ih => simp [ih]
theorem strAt_strOf {T : Tx} {n : Nat} {v : Value} {l : List Nat} (x : StrAt T n v l) : (strOf v).cps.toList = l := by
  refine x2a3 (x.is) fun s t e_0 h _ => ?_; subst e_0; exact h
theorem RepD.of {B : Addr → Prop} {T : Tx} {n : Nat} {h : Heap} : ∀ {es : List DictEntry} {l : List (List Nat × AV)}, es.length = l.length →
    (∀ (i : Nat) (e : DictEntry) (x : List Nat × AV), es[i]? = some e → l[i]? = some x → StrAt T n e.key x.1) →
    (∀ (i : Nat) (e : DictEntry) (x : List Nat × AV), es[i]? = some e → l[i]? = some x → Rep W B T n h e.val x.2) → RepD W B T n h (es.map fun e => (strOf e.key, e.val)) l
  | [], [], _, _, _ => .nil
  | e :: es, x :: l, hl, hk, hv => by
    have h1 := strAt_strOf (hk 0 e x rfl rfl)
    have h2 := hv 0 e x rfl rfl
    have ih := RepD.of (es := es) (l := l) (by simpa using hl) (fun i e x h1 h2 => hk (i + 1) e x (by simpa using h1) (by simpa using h2)) fun i e x h1 h2 => hv (i + 1) e x (by simpa using h1) (by simpa using h2)
    obtain ⟨k, y⟩ := x
    dsimp only at h1 h2
    subst h1
    exact .cons h2 ih
  | [], _ :: _, hl, _, _ => by simp at hl
  | _ :: _, [], hl, _, _ => by simp at hl
theorem pairs_of {prog : Program} {es : List DictEntry} (hk : ∀ e ∈ es, ∃ x t, e.key = .str x t ∧ e.hash = hashStr W x) : Pairs (strKind prog W) es (es.map fun e => (strOf e.key, e.val)) := by
  induction es with
  | nil => exact .nil
  | cons e es ih =>
    refine x2a2 (hk e List.mem_cons_self) fun x t h1 h2 => ?_
    exact .cons (by show Value.isStrOf _ _ = true; simp [h1, strOf, Value.isStrOf]) rfl (ih fun e he => hk e (List.mem_cons_of_mem _ he))
theorem IsDictAt.dictOf {h : Heap} {a : Addr} {es : Array DictEntry} (x : IsDictAt W h a es) (prog : Program) : h.DictOf (strKind prog W) a (es.toList.map fun e => (strOf e.key, e.val)) := by
  refine x0a4 x fun t_0 hm hk hn => ?_; (try clear x); refine x1a5 t_0 fun o ho hc hd hs t_1 => ?_; (try clear t_0); refine x1a1 t_1 fun ep hdat => ?_; (try clear t_1)
  refine ⟨o, es, ep, ho, ⟨hc, hd, hs⟩, hdat, fun e he => ?_, pairs_of fun e he => hk e (Array.mem_toList_iff.mp he), by rw [List.map_map]; exact hn⟩
  refine x2a2 (hk e he) fun x t h1 h2 => ?_
  exact ⟨x, by show Value.isStrOf _ _ = true; simp [h1, Value.isStrOf], h2⟩
theorem Rep.dictOf {B : Addr → Prop} {T : Tx} {n : Nat} {h : Heap} {v : Value} {l : List (List Nat × AV)} (r : Rep W B T n h v (.dict l)) (prog : Program) :
    ∃ a kvs, v = .ref a ∧ ¬ B a ∧ (a == sysModules) = false ∧ h.DictOf (strKind prog W) a kvs ∧ RepD W B T n h kvs l := by
  cases r with
  | dict hb hl hs hk hv =>
    exact ⟨_, _, rfl, hb, hl.2.1, hl.dictOf prog, RepD.of (by simpa using hs) (fun i e x h1 h2 => hk i e x (by simpa using h1) h2) fun i e x h1 h2 => hv i e x (by simpa using h1) h2⟩
theorem cps_inj {x y : Str} (h : x.cps.toList = y.cps.toList) : x = y := by rw [str_of h, ← str_of (rfl : y.cps.toList = y.cps.toList)]
theorem RepD.look {B : Addr → Prop} {T : Tx} {n : Nat} {h : Heap} {kvs : List (Str × Value)} {l : List (List Nat × AV)} (r : RepD W B T n h kvs l) (k : Str) :
    (∀ x, l.lookup k.cps.toList = some x → ∃ v, valueAt kvs k = some v ∧ Rep W B T n h v x) ∧ (l.lookup k.cps.toList = none → valueAt kvs k = none) := by
  induction r with
  | nil => exact ⟨fun x e => by simp at e, fun _ => rfl⟩
  | @cons k' v x kvs l hv _ ih =>
    unfold valueAt at *
    rw [List.lookup_cons, List.find?_cons]
    by_cases hk : k' = k
    · subst hk; simp; exact hv
    · have : (k.cps.toList == k'.cps.toList) = false := by
        rw [beq_eq_false_iff_ne]; exact fun e => hk (cps_inj e).symm
      rw [this]
      simp only [hk, decide_false]
      exact ih
noncomputable def GetG (o i r : AV) : Prop := ∀ (X : Cx) (B : Addr → Prop) (T : Tx) (s : Shared) (u v : Value), X.Ok → X.G.In s.heap → 0 < s.toks →
  Rep X.w B T s.toks s.heap u o → Rep X.w B T s.toks s.heap v i → Yl X B T s (getItem u v) r
omit [Lo] in
noncomputable def AV.sub : AV → Bool
  | .str _ => true
  | .bytes _ => true
  | .tup _ => true
  | .list _ => true
  | .dict _ => true
  | _ => false
theorem look_get : ∀ {o : AV}, o.sub = true → ∃ id, typeLookup (.type o.ty) "__getitem__" = pure (some (.builtin id))
  | .str _, _ => ⟨_, F.slot_str_getitem.lookup⟩
  | .bytes _, _ => ⟨_, FB.slot_bytes_getitem.lookup⟩
  | .tup _, _ => ⟨_, F.slot_tuple_getitem.lookup⟩
  | .list _, _ => ⟨_, F.slot_list_getitem.lookup⟩
  | .dict _, _ => ⟨_, F.slot_dict_getitem.lookup⟩
theorem wq_Subscript {X : Cx} {E : Value → Shared → Prop} {s : Shared} {value slice : Expr} {pos : Pos} {Q : Value → Shared → Prop}
    (h : wq X.M X.A (eval value X.env) (fun o s₁ => wq X.M X.A (eval slice X.env) (fun i s₂ => (∃ T id, s₂.TypeIs o T ∧ typeLookup (.type T) "__getitem__" = pure (some (.builtin id))) ∧ wq X.M X.A (getItem o i) Q E s₂) E s₁) E s)
    (hs : ∀ o i, ∃ vs, subscripted slice false o i = operate vs (getItem o i)) : wq X.M X.A (eval (.Subscript value slice pos) X.env) Q E s := by
  rw [eval_Subscript]
  refine wq_bind (wq_mono h (fun o s₁ h₁ => wq_bind (wq_holding (wq_mono h₁ (fun i s₂ ⟨⟨T, id, hT, hl⟩, h₂⟩ => wq_bind (wq_standAt ?_)) fun _ _ x => x))) fun _ _ x => x)
  refine wq_bind (wq_of (wpAny_mono (?_ : wpAny X.M X.A (getitemInPython o) (fun b s' => b = false ∧ s' = s₂) (fun _ _ => False) s₂) (fun b s' t_0 => x0a2 t_0 fun e1 e2 => ?_) fun _ _ x => x.elim))
  · rw [getitemInPython_of_ne hT.not_modules]
    exact wpAny_bind (wpAny_specialOf hT hl (wpAny_pure ⟨rfl, rfl⟩))
  · subst e1 e2
    obtain ⟨vs, hv⟩ := hs o i
    rw [hv]
    exact wq_bind (wq_operate (wq_mono h₂ (fun r s₃ h₃ => wq_bind (wq_of (wpAny_letTemporaryGo (wq_pure h₃)))) fun _ _ x => x))
section
variable {X : Cx} {σ : Sto}
theorem Ev.index {e ie : Expr} {pos : Pos} {o i r : AV} (h1 : Ev X e σ o) (h2 : Ev X ie σ i) (h : GetG o i r) (hl : autoParam (o.sub = true) byRfl)
    (hs : autoParam (∀ o i, subscripted ie false o i = operate [o, i] (getItem o i)) byI2) : Ev X (.Subscript e ie pos) σ r := fun T s S => by
  refine wq_Subscript (h1.then S fun u T₁ s₁ l₁ S₁ r₁ => h2.then S₁ fun v T₂ s₂ l₂ S₂ r₂ => ⟨?_, ?_⟩) fun o i => ⟨_, hs o i⟩
  · obtain ⟨id, hid⟩ := look_get hl
    exact ⟨_, id, (r₁.le l₂).typeIs, hid⟩
  · exact Yl.backq (l₁.trans l₂) (h X _ T₂ s₂ u v S₂.ok S₂.pg S₂.pos (r₁.le l₂) r₂)
theorem Ev.indexO {e ie : Expr} {pos : Pos} {o i r : AV} (h1 : EvO X e σ o) (h2 : Ev X ie σ i) (h : GetG o i r) (ha : autoParam (r.atom = true) byRfl) (hl : autoParam (o.sub = true) byRfl)
    (hs : autoParam (∀ o i, subscripted ie false o i = operate [o, i] (getItem o i)) byI2) : Ev X (.Subscript e ie pos) σ r := fun T s S => by
  refine wq_Subscript (h1.then S fun u T₁ s₁ l₁ S₁ r₁ => h2.then S₁ fun v T₂ s₂ l₂ S₂ r₂ => ⟨?_, ?_⟩) fun o i => ⟨_, hs o i⟩
  · refine x1a1 (look_get hl) fun id hid => ?_
    exact ⟨_, id, (r₁.le l₂).typeIs, hid⟩
  · refine (h X noBan T₂ s₂ u v S₂.ok S₂.pg S₂.pos (r₁.le l₂) r₂.unban).thenq fun w T₃ s₃ l₃ r₃ => ⟨T₃, (l₁.trans l₂).trans l₃, r₃.reban ha⟩
noncomputable def EvP (X : Cx) (e : Option Expr) (σ : Sto) (i : Option Int) : Prop := ∀ T s, St X σ T s →
  wq X.M X.A (evalPart e X.env) (fun v s' => IsPart v i ∧ ∃ T', Le T s T' s') (fun _ _ => False) s
theorem EvP.none : EvP X Option.none σ Option.none := fun T s S => wq_pure ⟨.none, T, .refl _ _⟩
theorem EvP.some {e : Expr} {i : Int} (h : Ev X e σ (.int i)) : EvP X (Option.some e) σ (Option.some i) := fun T s S => by
  rw [evalPart_some]
  exact h.then S fun v T' s' l S' r => by cases r using Rep.cInt; exact ⟨.int _ _, T', l⟩
noncomputable def SliceG (lo hi : Option Int) (o r : AV) : Prop := ∀ (X : Cx) (B : Addr → Prop) (T : Tx) (s : Shared) (u vl vu : Value) (a : Addr), IsPart vl lo → IsPart vu hi → X.Ok → X.G.In s.heap → 0 < s.toks → (∀ b, B b → b < s.heap.objs.size) →
  s.heap.IsSliceOf a vl vu .none → Rep X.w B T s.toks s.heap u o → Yl X B T s (getItem u (.ref a)) r
theorem Ev.slice {e : Expr} {lo hi : Option Expr} {p pos : Pos} {a b : Option Int} {o r : AV} (h1 : Ev X e σ o) (hlo : EvP X lo σ a) (hhi : EvP X hi σ b) (h : SliceG a b o r) (hl : autoParam (o.sub = true) byRfl) :
    Ev X (.Subscript e (.Slice lo hi none p) pos) σ r := fun T s S => by
  refine wq_Subscript (h1.then S fun u T₁ s₁ l₁ S₁ r₁ => ?_) fun o i => ⟨_, rfl⟩
  rw [arm_eval_Slice]
  refine wq_bind (wq_mono (hlo T₁ s₁ S₁) (fun vl s₂ t_0 => x0a2 t_0 fun pl t_1 => x1a1 t_1 fun T₂ l₂ => wq_bind (wq_holding (wq_mono (hhi T₂ s₂ (S₁.le_mono l₂)) (fun vu s₃ t_0 => x0a2 t_0 fun pu t_1 => x1a1 t_1 fun T₃ l₃ => wq_bind (wq_holding (wq_pure ?_))) fun _ _ x => x.elim))) fun _ _ x => x.elim)
  refine wq_of (wpAny_newObj_type ?_)
  have l₄ := l₁.trans (l₂.trans (l₃.trans (le_push (T := T₃) (s := s₃) { cls := .type "slice", data := .fields #[vl, vu, .none] })))
  have r₄ := r₁.le (l₂.trans (l₃.trans (le_push (T := T₃) (s := s₃) { cls := .type "slice", data := .fields #[vl, vu, .none] })))
  have S₄ := S.le_mono l₄
  refine ⟨?_, ?_⟩
  · obtain ⟨id, hid⟩ := look_get hl
    exact ⟨_, id, r₄.typeIs, hid⟩
  · exact Yl.backq l₄ (h X _ T₃ _ u vl vu _ pl pu S₄.ok S₄.pg S₄.pos (fun b q => S₄.ban_lt q) (Heap.IsSliceOf.new _ _ _ _) r₄)
end
theorem fit63 {n : Nat} (h : n ≤ 1099511627776) : (n : Int) < 2 ^ 63 := by lia
theorem get_str {l : List Nat} {i : Int} (h0 : 0 ≤ i) (h1 : i < l.length) (hs : l.length ≤ 1099511627776) : GetG (.str l) (.int i) (.str [l.getD i.toNat 0]) := fun X B T s u v _ _ h0' r₁ r₂ => by
  refine x2a3 (rep_str_inv r₁) fun x t e_0 hx _ => ?_; subst e_0
  cases r₂ using Rep.cInt
  have hlen : x.length = l.length := by subst hx; simp [Str.length]
  have hi : i.toNat < l.length := by (clear hlen h0' hs; lia)
  have hat : (seqIndex? i x.length).bind (x.cps[·]?) = some (l.getD i.toNat 0) := by
    refine StrLaws.at_nonneg h0 ?_
    rw [← Array.getElem?_toList, hx, List.getD_eq_getElem?_getD, List.getElem?_eq_getElem hi]; rfl
  refine getItem_gives (typeIs_str _ _ _) (by decide) F.slot_str_getitem F.entry_str_getitem (F.args_str_getitem_2 _ _) (gives_str_getitem x i _ _ _ (by simp; (clear hi hlen h0'; lia)) hat) ?_
  exact post_str h0' (by simp) (by simp)
theorem get_bytes {l : List Nat} {i : Int} (h0 : 0 ≤ i) (h1 : i < l.length) (hs : l.length ≤ 1099511627776) : GetG (.bytes l) (.int i) (.int (l.getD i.toNat 0)) := fun X B T s u v _ _ h0' r₁ r₂ => by
  cases r₁ using Rep.cBytes; cases r₂ using Rep.cInt
  rename_i b t t'
  have hlen : b.toList.length = (bnats b).length := by simp [bnats]
  have e : (((b.toList.getD i.toNat 0).toNat : Nat) : Int) = ((bnats b).getD i.toNat 0 : Nat) := by
    have hi : i.toNat < b.toList.length := by (clear hs h0'; lia)
    simp [bnats, List.getElem?_eq_getElem (show i.toNat < b.size by simpa using hi)]
  have := getItem_bytes (prog := X.prog) (w := X.w) (A := X.A) (E := fun _ _ => False) (s := s) (t := t) (u := t') (l := b.toList) (i := i) (Q := fun v s' => ∃ T', Le T s T' s' ∧ Rep X.w B T' s'.toks s'.heap v (.int ((bnats b).getD i.toNat 0)))
    (by (clear e h0' h0; lia)) h0 (by (clear e h0'; lia)) (by rw [e]; exact yl_int (Nat.le_succ _))
  rw [show b = b.toList.toArray by simp]; exact this
theorem get_list {l : List AV} {i : Int} {x : AV} (h0 : 0 ≤ i) (hx : l[i.toNat]? = some x) (hs : l.length ≤ 1099511627776) : GetG (.list l) (.int i) x := fun X B T s u v _ _ h0' r₁ r₂ => by
  cases r₂ using Rep.cInt
  cases r₁ using Rep.cList with
  | @list a items _ hb hl hsz hi =>
    have hlt : i.toNat < l.length := by
      rcases Nat.lt_or_ge i.toNat l.length with h | h
      · exact h
      · rw [List.getElem?_eq_none h] at hx; exact ns hx
    have hv : items[i.toNat]? = some items[i.toNat] := Array.getElem?_eq_getElem (by omega)
    exact wpAny_getItem_list hl.is h0 (by have := fit63 hs; omega) hv ⟨T, .refl _ _, hi _ _ _ hv hx⟩
theorem get_dict {l : List (List Nat × AV)} {k : List Nat} {x : AV} (hx : l.lookup k = some x) : GetG (.dict l) (.str k) x := fun X B T s u v _ _ h0' r₁ r₂ => by
  refine x2a3 (rep_str_inv r₂) fun y t e_0 hy _ => ?_; subst e_0
  refine x2a5 (r₁.dictOf X.prog) fun a kvs e_0 hb hm hd hr => ?_; subst e_0
  subst hy
  refine x1a2 ((hr.look y).1 x hx) fun z hz rz => ?_
  exact wpAny_getItem_of (k := y) (show Value.isStrOf y (.str y t) = true by simp [Value.isStrOf]) hd.mapOf hz ⟨T, .tok (Nat.le_succ _), rz.le (.tok (Nat.le_succ _))⟩
omit [Lo] in
noncomputable def cutL {α : Type} (lo hi : Option Int) (l : List α) : List α := (l.drop (lo.elim 0 (clipAt l.length))).take (hi.elim l.length (clipAt l.length) - lo.elim 0 (clipAt l.length))
theorem cutL_length_le {α : Type} (lo hi : Option Int) (l : List α) : (cutL lo hi l).length ≤ l.length := by
  unfold cutL; rw [List.length_take, List.length_drop]; exact Nat.le_trans (Nat.min_le_right _ _) (Nat.sub_le _ _)
theorem cutL_full {α : Type} {lo hi : Option Int} {l : List α} (h : (cutL lo hi l).length = l.length) : cutL lo hi l = l := by
  unfold cutL at *
  rw [List.length_take, List.length_drop] at h
  generalize lo.elim 0 (clipAt l.length) = a at *
  generalize hi.elim l.length (clipAt l.length) = b at *
  by_cases hl : l.length = 0
  · rw [List.length_eq_zero_iff.mp hl]; simp
  · have ha : a = 0 := (Nat.eq_zero_or_pos a).resolve_right fun q => absurd (Nat.sub_lt (Nat.pos_of_ne_zero hl) q) (Nat.not_lt.mpr (Nat.le_trans (Nat.le_of_eq h.symm) (Nat.min_le_right _ _)))
    subst ha
    rw [List.drop_zero, List.take_of_length_le (Nat.le_trans (Nat.le_of_eq h.symm) (Nat.min_le_left _ _))]
theorem cutL_map {α β : Type} (f : α → β) (lo hi : Option Int) (l : List α) : cutL lo hi (l.map f) = (cutL lo hi l).map f := by
  unfold cutL; rw [List.length_map, List.map_take, List.map_drop]
theorem strSlice_eq (lo hi : Option Int) (n : Nat) : Builtin.Str.strSliceIndices lo hi 1 n = sliceRange (lo.elim 0 (clipAt n) : Nat) (hi.elim n (clipAt n) : Nat) 1 := by
  cases lo <;> cases hi <;> simp [Builtin.Str.strSliceIndices, clipAt_cast]
theorem picked_cut (x : Str) (lo hi : Option Int) : (Builtin.Str.strSliceIndices lo hi 1 x.length).filterMap (x.cps[·]?) = cutL lo hi x.cps.toList := by
  rw [strSlice_eq, sliceRange_one, pick_run]
  unfold cutL
  simp [Str.length]
theorem slice_len {α : Type} (xs : Array α) : ∀ l : List Nat, (∀ i ∈ l, i < xs.size) → (l.filterMap (xs[·]?)).length = l.length
  | [], _ => rfl
  | i :: l, h => by
    have hi : xs[i]? = some (xs[i]'(h i List.mem_cons_self)) := Array.getElem?_eq_getElem _
    rw [List.filterMap_cons, hi]
    simp [slice_len xs l fun j hj => h j (List.mem_cons_of_mem _ hj)]
theorem clipAt_le (n : Nat) (i : Int) : clipAt n i ≤ n := by
  have := clipAt_cast n i
  exact Int.ofNat_le.mp (this ▸ Int.max_le.mpr ⟨Int.natCast_nonneg n, Int.min_le_right _ _⟩)
theorem slice_in (lo hi : Option Int) (n : Nat) : ∀ i ∈ Builtin.Str.strSliceIndices lo hi 1 n, i < n := by
  rw [strSlice_eq, sliceRange_one]
  intro i hin
  refine x1a2 (List.mem_map.mp hin) fun k hk e_0 => ?_; subst e_0
  rw [List.mem_range] at hk
  have : hi.elim n (clipAt n) ≤ n := by cases hi <;> simp [clipAt_le]
  omega
theorem part_shape {v : Value} {p : Option Int} (h : IsPart v p) : ∃ q : Option (Int × Tok), v = partValue q ∧ q.map (·.1) = p := by
  cases h with
  | none => exact ⟨none, rfl, rfl⟩
  | int i t => exact ⟨some (i, t), rfl, rfl⟩
theorem slice_str {l : List Nat} {lo hi : Option Int} (hs : l.length ≤ 16777216) : SliceG lo hi (.str l) (.str (cutL lo hi l)) := fun X B T s u vl vu a pl pu _ _ h0 _ hsl r => by
  refine x2a3 (rep_str_inv r) fun x t e_0 hx _ => ?_; subst e_0
  refine x1a2 (part_shape pl) fun ql e_0 e_1 => ?_; subst e_0; subst e_1
  refine x1a2 (part_shape pu) fun qu e_0 e_1 => ?_; subst e_0; subst e_1
  refine wpAny_getItem_str_slice (l := ql) (u := qu) (st := none) hsl (by rfl) ?_
  have hpick : slicePicked x ql qu none = Builtin.Str.strSliceIndices (ql.map (·.1)) (qu.map (·.1)) 1 x.length := rfl
  have hxl : x.length = x.cps.toList.length := by simp [Str.length]
  have hlen := slice_len x.cps (Builtin.Str.strSliceIndices (ql.map (·.1)) (qu.map (·.1)) 1 x.length) (slice_in _ _ x.length)
  rw [picked_cut] at hlen
  unfold sliceMade
  rw [hpick]
  split
  · rename_i hq
    simp only [Bool.and_eq_true, beq_iff_eq] at hq
    have : cutL (ql.map (·.1)) (qu.map (·.1)) l = l := by
      subst hx
      exact cutL_full (by rw [hlen, hq.2, hxl])
    rw [this]
    exact post_val r
  · rw [picked_cut]
    exact post_str h0 (by subst hx; rfl) (Nat.le_trans (cutL_length_le _ _ _) hs)
theorem slice_bytes {l : List Nat} {lo hi : Option Int} (hs : l.length ≤ 16777216) : SliceG lo hi (.bytes l) (.bytes (cutL lo hi l)) := fun X B T s u vl vu a pl pu _ _ h0 _ hsl r => by
  cases r using Rep.cBytes
  rename_i b t
  have hb : bnats (KBy.picked b lo hi) = cutL lo hi (bnats b) := by
    rw [KBc.picked_eq]; unfold bnats; rw [cutL_map]; unfold cutL; simp
  refine wpAny_grow (getItem_meets (typeIs_bytes _ _ _) (by decide) FB.slot_bytes_getitem FB.entry_bytes_getitem (FB.args_bytes_getitem_2 _ _) (KBc.meets_slice2 b _ a pl pu) ⟨hsl, ?_, fun t' k htk _ => ?_⟩)
  · rw [sizeLine_eq]
    exact Nat.le_trans (KBc.size_picked_le b lo hi) (by simpa [bnats] using hs)
  · exact ⟨T, .tok htk, hb ▸ .bytes _ _⟩
theorem slicePick_cut (items : Array Value) (lo hi : Option Int) : slicePick items lo hi none = (cutL lo hi items.toList).toArray := by
  rw [slicePick_plain]; unfold cutL; simp
theorem cutL_get {α : Type} (lo hi : Option Int) (l : List α) (i : Nat) : (cutL lo hi l)[i]? = if i < hi.elim l.length (clipAt l.length) - lo.elim 0 (clipAt l.length) then l[lo.elim 0 (clipAt l.length) + i]? else none := by
  unfold cutL
  rw [List.getElem?_take]
  split
  · rw [List.getElem?_drop]
  · rfl
theorem slice_list {l : List AV} {lo hi : Option Int} (hs : l.length ≤ 16777216) : SliceG lo hi (.list l) (.list (cutL lo hi l)) := fun X B T s u vl vu a pl pu _ _ h0 hB hsl r => by
  cases r using Rep.cList with
  | @list b items _ hb hl hsz hit =>
    have h := hl
    refine wpAny_getItem_list_slice hl.is hsl pl pu .none (by simp) ?_ (by rw [sizeLine_eq]; (clear h0; lia))
    rw [slicePick_cut]
    have hlen : items.toList.length = l.length := by simpa using hsz
    refine ⟨T, le_push _, .list (fun q => Nat.lt_irrefl _ (hB _ q)) ⟨_, Heap.get?_push_size _ rfl, rfl, rfl, rfl, _, rfl⟩ ?_ fun i v x h1 h2 => ?_⟩
    · simp only [List.size_toArray]
      unfold cutL
      simp [hlen, hsz]
    · have h1' : (cutL lo hi items.toList)[i]? = some v := by simpa using h1
      rw [cutL_get, hlen] at h1'
      rw [cutL_get] at h2
      split at h1'
      · rename_i q
        rw [if_pos q] at h2
        exact (hit _ v x (by simpa using h1') h2).le (le_push _)
      · exact ns h1'
theorem call_len_str' {l : List Nat} (hs : l.length ≤ 1099511627776) : CallG (.builtin "len") [.str l] (.int l.length) := fun X B T s vals _ _ _ _ h0 r => by
  cases r using RepL.cCons with
  | cons r₁ r₂ =>
    cases r₂ using RepL.cNil
    refine x2a3 (rep_str_inv r₁) fun x t e_0 hx _ => ?_; subst e_0
    have hlen : x.length = l.length := by subst hx; simp [Str.length]
    rw [← hlen]
    exact call_len_gives (typeIs_str _ _ _) F.slot_str_len F.entry_str_len (F.args_str_len_1 _) (gives_str_len x t) (by (clear hlen h0 hs; lia)) (by (clear h0; lia)) (yl_int (by (clear hlen hs; lia)))
theorem call_len_bytes' {l : List Nat} (hs : l.length ≤ 1099511627776) : CallG (.builtin "len") [.bytes l] (.int l.length) := fun X B T s vals _ _ _ _ h0 r => by
  cases r using RepL.cCons with
  | cons r₁ r₂ =>
    cases r₂ using RepL.cNil; cases r₁ using Rep.cBytes
    rename_i b t
    have hlen : b.size = (bnats b).length := by simp [bnats]
    rw [← hlen] at hs ⊢
    exact len_bytes hs (yl_int (by (clear hlen hs; lia)))
theorem call_len_list' {l : List AV} (hs : l.length ≤ 1099511627776) : CallG (.builtin "len") [.list l] (.int l.length) := fun X B T s vals _ _ _ _ h0 r => by
  cases r using RepL.cCons with
  | cons r₁ r₂ =>
    cases r₂ using RepL.cNil
    cases r₁ using Rep.cList with
    | list hb hl hsz hi =>
      rw [← hsz] at hs ⊢
      exact Calls.call_len_list hl.is (fit63 hs) (yl_int (by (clear hsz hs; lia)))
theorem call_chr' {i : Int} (h0 : 0 ≤ i) (h1 : i ≤ 1114111) : CallG (.builtin "chr") [.int i] (.str [i.toNat]) := fun X B T s vals _ _ _ _ hp r => by
  cases r using RepL.cCons with
  | cons r₁ r₂ =>
    cases r₂ using RepL.cNil; cases r₁ using Rep.cInt
    exact P.chr_of_int (by simp; (clear hp; lia)) (rep_new hp (by simp))
theorem call_ord' {c : Nat} : CallG (.builtin "ord") [.str [c]] (.int c) := fun X B T s vals _ _ _ _ hp r => by
  cases r using RepL.cCons with
  | cons r₁ r₂ =>
    cases r₂ using RepL.cNil
    refine x2a3 (rep_str_inv r₁) fun x t e_0 hx _ => ?_; subst e_0
    rw [str_of hx]
    exact P.ord_of_char (yl_int (Nat.le_succ _))
theorem call_divmod' {a b : Int} (hb : 0 < b) (hs : b < 1073741824) : CallG (.builtin "divmod") [.int a, .int b] (.tup [.int (a / b), .int (a % b)]) := fun X B T s vals _ _ hB _ hp r => by
  cases r using RepL.cCons with
  | cons r₁ r₂ =>
    cases r₂ using RepL.cCons with
    | cons r₂ r₃ =>
      cases r₃ using RepL.cNil; cases r₁ using Rep.cInt; cases r₂ using Rep.cInt
      refine divmod_int (by (clear hp hs; lia)) ?_ (.inl (PyProof.noPylong_small (by omega)))
      rw [Int.fdiv_eq_ediv_of_nonneg a (Int.le_of_lt hb), Int.fmod_eq_emod_of_nonneg a (Int.le_of_lt hb)]
      refine ⟨T, (Le.mk' ((Ext.refl _).push _) (by lia)), .tup (fun q => Nat.lt_irrefl _ (hB _ q)) ⟨_, Heap.get?_push_size _ rfl, rfl, _, rfl⟩ rfl fun i v x h1 h2 => ?_⟩
      match i with
      | 0 => simp at h1 h2; subst h1 h2; exact .int _ _
      | 1 => simp at h1 h2; subst h1 h2; exact .int _ _
      | i + 2 => simp at h2
theorem call_min' {a b : Int} : CallG (.builtin "min") [.int a, .int b] (.int (min a b)) := fun X B T s vals ok hq hB _ hp r => by
  cases r using RepL.cCons with
  | cons r₁ r₂ =>
    cases r₂ using RepL.cCons with
    | cons r₂ r₃ =>
      cases r₃ using RepL.cNil; cases r₁ using Rep.cInt; cases r₂ using Rep.cInt
      refine wpAny_grow (min_two_ints (ok.hh hq) fun h' tk hk htk hsz => ⟨T, .mk' (.keeps hsz hk) htk, ?_⟩)
      split
      · rw [show min a b = b by (clear hsz htk hp; lia)]; exact .int _ _
      · rw [show min a b = a by (clear hsz htk hp; lia)]; exact .int _ _
theorem call_max' {a b : Int} : CallG (.builtin "max") [.int a, .int b] (.int (max a b)) := fun X B T s vals ok hq hB _ hp r => by
  cases r using RepL.cCons with
  | cons r₁ r₂ =>
    cases r₂ using RepL.cCons with
    | cons r₂ r₃ =>
      cases r₃ using RepL.cNil; cases r₁ using Rep.cInt; cases r₂ using Rep.cInt
      refine wpAny_grow (max_two_ints (ok.hh hq) fun h' tk hk htk hsz => ⟨T, .mk' (.keeps hsz hk) htk, ?_⟩)
      split
      · rw [show max a b = b by (clear hsz htk hp; lia)]; exact .int _ _
      · rw [show max a b = a by (clear hsz htk hp; lia)]; exact .int _ _
theorem tru_list {l : List AV} (hs : l.length ≤ 1099511627776) : Tru (.list l) (!l.isEmpty) := fun X B T s v _ _ r => by
  cases r using Rep.cList with
  | list hb hl hsz hi =>
    refine wpAny_truthy_list hl.is (by rw [hsz]; exact fit63 hs) ⟨?_, T, .tok (by (clear hsz hs; lia))⟩
    unfold Array.isEmpty; rw [hsz]; cases l <;> simp
theorem tru_dict {l : List (List Nat × AV)} (hs : l.length ≤ 1099511627776) : Tru (.dict l) (!l.isEmpty) := fun X B T s v _ _ r => by
  refine x2a5 (r.dictOf X.prog) fun a kvs e_0 hb hm hd hr => ?_; subst e_0
  have hlen := hr.length
  refine wpAny_truthy_dict hm hd (by rw [hlen]; exact fit63 hs) ⟨?_, T, .tok (by (clear hlen hs; lia))⟩
  cases l <;> cases kvs <;> simp at hlen ⊢
theorem in_dict {l : List (List Nat × AV)} {k : List Nat} : CmpG .In (.str k) (.dict l) (l.lookup k).isSome := fun X B T s u v _ _ h0 r₁ r₂ => by
  refine x2a3 (rep_str_inv r₁) fun y t e_0 hy _ => ?_; subst e_0
  refine x2a5 (r₂.dictOf X.prog) fun a kvs e_0 hb hm hd hr => ?_; subst e_0
  subst hy
  refine wpAny_in_of (k := y) (show Value.isStrOf y (.str y t) = true by simp [Value.isStrOf]) hm hd.mapOf ?_
  have : (valueAt kvs y).isSome = (l.lookup y.cps.toList).isSome := by
    have := hr.look y
    cases hq : l.lookup y.cps.toList with
    | none => rw [this.2 hq]; rfl
    | some x => refine x1a2 (this.1 x hq) fun v hv _ => ?_; rw [hv]; rfl
  rw [this]
  exact yl_boolk (Nat.le_succ _)
omit [Lo] in
noncomputable def AV.strs (l : List (List Nat)) : List AV := l.map .str
theorem strsAre_of {B : Addr → Prop} {T : Tx} {n : Nat} {h : Heap} : ∀ {l : List (List Nat)} {vs : List Value}, vs.length = l.length →
    (∀ (i : Nat) (v : Value) (x : AV), vs[i]? = some v → (AV.strs l)[i]? = some x → Rep W B T n h v x) → StrsAre vs (l.map fun x => ⟨x.toArray⟩)
  | [], [], _, _ => .nil
  | x :: l, v :: vs, hl, hi => by
    refine x2a3 (rep_str_inv (hi 0 v (.str x) rfl rfl)) fun y t e_0 hy _ => ?_; subst e_0
    have := str_of hy
    subst this
    exact .cons _ _ (strsAre_of (by simpa using hl) fun i v x h1 h2 => hi (i + 1) v x (by simpa using h1) (by simpa [AV.strs] using h2))
  | [], _ :: _, hl, _ => by simp at hl
  | _ :: _, [], hl, _ => by simp at hl
theorem any_eq_contains (l : List (List Nat)) (k : List Nat) : (l.map fun x => (⟨x.toArray⟩ : Str)).any (· == ⟨k.toArray⟩) = l.contains k := by
  induction l with
  | nil => rfl
  | cons x l ih =>
    rw [List.map_cons, List.any_cons, ih, List.contains_cons]
    congr 1
    rw [Bool.eq_iff_iff, beq_iff_eq, beq_iff_eq]
    constructor
    · intro h; have := congrArg (fun y : Str => y.cps.toList) h; simpa using this.symm
    · intro h; subst h; rfl
theorem notin_list_strs' {l : List (List Nat)} {k : List Nat} : CmpG .NotIn (.str k) (.list (AV.strs l)) (!l.contains k) := fun X B T s u v _ _ h0 r₁ r₂ => by
  refine x2a3 (rep_str_inv r₁) fun y t e_0 hy _ => ?_; subst e_0
  cases r₂ using Rep.cList with
  | @list a items _ hb hl hsz hi =>
    have hS := strsAre_of (l := l) (vs := items.toList) (by simpa [AV.strs] using hsz) fun i v x h1 h2 => hi i v x (by simpa using h1) h2
    refine notin_list_strs (by simpa using hl.is) hS ?_
    rw [str_of hy, any_eq_contains]
    exact yl_bool
section
variable {X : Cx} {σ : Sto}
theorem Te.cmpO {l r : Expr} {op : CmpOp} {pos : Pos} {a b : AV} {c : Bool} (h1 : EvO X l σ a) (h2 : EvO X r σ b) (h : CmpG op a b c) (hm : autoParam (behindInMarks op r = false) byRfl) :
    Te X (.Compare l [op] [r] pos) σ c := fun T s S => by
  refine wq_isTrue_Compare1 (h1.then S fun u T₁ s₁ l₁ S₁ r₁ => h2.then S₁ fun v T₂ s₂ l₂ S₂ r₂ => ?_) hm
  refine (h X _ T₂ s₂ u v S₂.ok S₂.pg S₂.pos (r₁.le l₂) r₂).thenq fun w T₃ s₃ l₃ r₃ => ?_
  exact (tru_bool c).then (S₂.le_mono l₃) r₃ fun T₄ s₄ l₄ => ⟨rfl, T₄, (l₁.trans l₂).trans (l₃.trans l₄)⟩
noncomputable def EvLO (X : Cx) (es : List Expr) (σ : Sto) (xs : List AV) : Prop := ∀ T s, St X σ T s → ∀ pos,
  wq X.M X.A (spliced (backTo pos (starEach es X.env))) (PL X.w noBan T s xs) noE s
theorem EvLO.nil : EvLO X [] σ [] := fun T s S pos => wq_args_nil ⟨T, .refl _ _, .nil⟩
theorem EvLO.cons {e : Expr} {es : List Expr} {x : AV} {xs : List AV} (h1 : EvO X e σ x) (h2 : EvLO X es σ xs)
    (he : autoParam (starEach (e :: es) X.env = (false, eval e X.env) :: starEach es X.env) byRfl) : EvLO X (e :: es) σ (x :: xs) := fun T s S pos => by
  refine wq_args_cons (h1.then S fun v T' s' l S' r => ?_) he
  refine wq_mono (h2 T' s' S' pos) (fun vs s'' t_0 => x1a2 t_0 fun T'' l' r' => ?_) fun _ _ x => x
  exact ⟨T'', l.trans l', .cons (r.le l') r'⟩
theorem Ev.callO {f : Str} {p pos : Pos} {e : Expr} {es : List Expr} {xs : List AV} {r : AV} {fv : Value} (h : EvLO X (e :: es) σ xs) (hc : CallG fv xs r) (hr : r.atom = true) (hq : X.quiet = true)
    (hkind : X.env.kindOf f = some .globalImplicit) (hg : X.G.mg f = none) (hb : bootBuiltins f = some fv) (hfv : ∀ a, fv ≠ .ref a)
    (hn : autoParam (f ≠ "__name__") byDec) (hd : autoParam ((f == ("__debug__" : Str)) = false) byDec)
    (he : autoParam (starEach (e :: es) X.env = (false, eval e X.env) :: starEach es X.env) byRfl) (hst : autoParam ((backTo pos (starEach (e :: es) X.env)).any (·.1) = false) byRfl)
    (hcall : autoParam (eval (.Call (.Name f p) (e :: es) [] pos) X.env = (do callWith pos (← eval (.Name f p) X.env) [] (backTo pos (starEach (e :: es) X.env)) (backToKw pos (keywordEach [] X.env)))) byRfl) :
    Ev X (.Call (.Name f p) (e :: es) [] pos) σ r := fun T s S => by
  refine wq_Call (S.load_builtin hkind hg hb ?_ hn hd) hcall
  refine wq_callWith_plain hfv hst ?_
  have h' := h
  unfold EvLO at h'
  rw [he] at h' ⊢
  refine wq_evalArgs (wq_mono (h' T s S pos) (fun vs s' t_0 => x1a2 t_0 fun T' l rl => ?_) fun _ _ x => x.elim)
  have S' := S.le_mono l
  exact (hc X _ T' s' vs S'.ok hq (fun b q => q.elim) S'.pg S'.pos rl).thenq fun v T₂ s₂ l₂ r₂ => ⟨T₂, l.trans l₂, r₂.reban hr⟩
theorem Ev.methO {o e : Expr} {es : List Expr} {name : Str} {apos pos : Pos} {id : String} {x r : AV} {xs : List AV} (m : Meth x.ty name id) (h : Ev X o σ x) (ha : EvLO X (e :: es) σ xs) (hc : CallG (.builtin id) (x :: xs) r) (hr : r.atom = true) (hq : X.quiet = true)
    (hx : autoParam (∀ l, x ≠ .tup l) byNo) (hbase : autoParam (attributeBase o name X.env (eval o X.env) = eval o X.env) byRfl)
    (hfew : autoParam (methodCallForm ((e :: es).length + ([] : List Keyword).length) (backTo pos (starEach (e :: es) X.env)) (backToKw pos (keywordEach [] X.env)) = true) byRfl)
    (hline : autoParam ((apos.endLine == pos.line) = true) byRfl)
    (he : autoParam (starEach (e :: es) X.env = (false, eval e X.env) :: starEach es X.env) byRfl) (hst : autoParam ((backTo pos (starEach (e :: es) X.env)).any (·.1) = false) byRfl) :
    Ev X (.Call (.Attribute o name apos) (e :: es) [] pos) σ r := fun T s S => by
  refine wq_Call_method m.pa m.slot m.ty (h.then S fun v T' s' l S' rv => ⟨rv.typeIs, rv.noDict hx, ?_⟩) hbase hfew hline
  refine wq_callWith_plain (fun _ => by simp) hst ?_
  have h' := ha
  unfold EvLO at h'
  rw [he] at h' ⊢
  refine wq_evalArgs (wq_mono (h' T' s' S' pos) (fun vs s'' t_0 => x1a2 t_0 fun T'' l' rl => ?_) fun _ _ x => x.elim)
  have S'' := S'.le_mono l'
  exact (hc X _ T'' s'' (v :: vs) S''.ok hq (fun b q => q.elim) S''.pg S''.pos (.cons (rv.le l').unban rl)).thenq fun v T₂ s₂ l₂ r₂ => ⟨T₂, (l.trans l').trans l₂, r₂.reban hr⟩
end
end Mine
namespace Mine
open PySem PySem.W PyProof.Rows
variable [Lo]
variable {W : World}
namespace FA
set_option maxRecDepth 100000
theorem plain_ba : PlainAttrs "bytearray" :=
  ⟨⟨"bytearray.__getattribute__", by rw [typeLookup_type, builtinLookup_eq_fast]; kernel_rfl, by decide +kernel⟩, by rw [typeLookup_type, builtinLookup_eq_fast]; kernel_rfl⟩
theorem owner_ba : Manifest.owners.lookup (String.ofList ['y', 'a', 'r', 'r', 'a', 'e', 't', 'y', 'b'].reverse) = some Manifest.sig_bytearray := by kernel_rfl
theorem slot_init : Slot "bytearray" "__init__" "bytearray.__init__" :=
  .of (owner := "bytearray") (n := "__init__") (by rw [typeLookup_type, builtinLookup_eq_fast]; kernel_rfl) (by decide +kernel) (by decide +kernel) (by decide +kernel)
    (by first | exact .inl (by decide +kernel) | exact .inr (by decide +kernel)) (by rw [isSubtype_type]; kernel_rfl)
theorem entry_init : entryFor table "bytearray.__init__" = some Builtin.«bytearray.__init__» := entryFor_of_tree (by kernel_rfl)
theorem args_init (a : Value) : argsOk "bytearray.__init__" ⟨[a], []⟩ := by
  unfold argsOk; rw [signature?_of (id := "bytearray.__init__") (n := ['_', '_', 't', 'i', 'n', 'i', '_', '_']) (o := ['y', 'a', 'r', 'r', 'a', 'e', 't', 'y', 'b']) (by kernel_rfl) owner_ba]; kernel_rfl
theorem slot_append : Slot "bytearray" "append" "bytearray.append" :=
  .of (owner := "bytearray") (n := "append") (by rw [typeLookup_type, builtinLookup_eq_fast]; kernel_rfl) (by decide +kernel) (by decide +kernel) (by decide +kernel)
    (by first | exact .inl (by decide +kernel) | exact .inr (by decide +kernel)) (by rw [isSubtype_type]; kernel_rfl)
theorem type_append : typeOf (.builtin "bytearray.append") = pure (.type "method_descriptor") := by show builtinType _ = _; rw [builtinType_eq_fast]; kernel_rfl
theorem entry_append : entryFor table "bytearray.append" = some Builtin.«bytearray.append» := entryFor_of_tree (by kernel_rfl)
theorem args_append (a b : Value) : argsOk "bytearray.append" ⟨[a, b], []⟩ := by
  unfold argsOk; rw [signature?_of (id := "bytearray.append") (n := ['d', 'n', 'e', 'p', 'p', 'a']) (o := ['y', 'a', 'r', 'r', 'a', 'e', 't', 'y', 'b']) (by kernel_rfl) owner_ba]; kernel_rfl
theorem slot_extend : Slot "bytearray" "extend" "bytearray.extend" :=
  .of (owner := "bytearray") (n := "extend") (by rw [typeLookup_type, builtinLookup_eq_fast]; kernel_rfl) (by decide +kernel) (by decide +kernel) (by decide +kernel)
    (by first | exact .inl (by decide +kernel) | exact .inr (by decide +kernel)) (by rw [isSubtype_type]; kernel_rfl)
theorem type_extend : typeOf (.builtin "bytearray.extend") = pure (.type "method_descriptor") := by show builtinType _ = _; rw [builtinType_eq_fast]; kernel_rfl
theorem entry_extend : entryFor table "bytearray.extend" = some Builtin.«bytearray.extend» := entryFor_of_tree (by kernel_rfl)
theorem args_extend (a b : Value) : argsOk "bytearray.extend" ⟨[a, b], []⟩ := by
  unfold argsOk; rw [signature?_of (id := "bytearray.extend") (n := ['d', 'n', 'e', 't', 'x', 'e']) (o := ['y', 'a', 'r', 'r', 'a', 'e', 't', 'y', 'b']) (by kernel_rfl) owner_ba]; kernel_rfl
theorem mro_ba : mroOf (.type "bytearray") = pure [.type "bytearray", .type "object"] := by rw [mroOf_type]; kernel_rfl
theorem lookup_new : typeLookup (.type "bytearray") "__new__" = pure (some (.builtin "bytearray.__new__")) := by rw [typeLookup_type, builtinLookup_eq_fast]; kernel_rfl
theorem called_ba : TypeCalled "bytearray" "bytearray.__new__" "bytearray.__init__" :=
  ⟨by decide +kernel, by decide +kernel, ⟨_, _, mro_ba⟩, madeBy_type mro_ba lookup_new (by decide +kernel), by decide +kernel, by rw [isSubtype_type]; kernel_rfl, slot_init⟩
theorem typeCall0 : checkTypeCall "bytearray" ⟨[], []⟩ = pure () := by kernel_rfl
theorem newCall0 : checkBuiltinCall "bytearray.__new__" ⟨[.type "bytearray"], []⟩ = pure () := by kernel_rfl
theorem entry_new : entryFor table "bytearray.__new__" = some Builtin.«list.__new__» := entryFor_alias (id' := "list.__new__") (by kernel_rfl) rfl (by decide +kernel) (by kernel_rfl)
theorem plain_new : plainId "bytearray.__new__" = true := by decide +kernel
theorem look_release : typeLookup (.type "bytearray") "__release_buffer__" = pure (some (.builtin "bytearray.__release_buffer__")) := by rw [typeLookup_type, builtinLookup_eq_fast]; kernel_rfl
theorem look_buffer : typeLookup (.type "bytearray") "__buffer__" = pure (some (.builtin "bytearray.__buffer__")) := by rw [typeLookup_type, builtinLookup_eq_fast]; kernel_rfl
theorem no_bytes : typeLookup (.type "bytearray") "__bytes__" = pure none := by rw [typeLookup_type, builtinLookup_eq_fast]; kernel_rfl
theorem no_idx : typeLookup (.type "bytearray") "__index__" = pure none := by rw [typeLookup_type, builtinLookup_eq_fast]; kernel_rfl
theorem sub_self : isSubtype (.type "bytearray") (.type "bytearray") = pure true := by rw [isSubtype_type]; kernel_rfl
theorem meth_append : Meth "bytearray" "append" "bytearray.append" := ⟨plain_ba, slot_append, type_append⟩
theorem meth_extend : Meth "bytearray" "extend" "bytearray.extend" := ⟨plain_ba, slot_extend, type_extend⟩
end FA
set_option maxRecDepth 1000000 in
set_option maxHeartbeats 4000000 in
theorem owner_new : ("bytearray.__new__".splitOn ".__new__").headD "" = "bytearray" := by simp +decide [String.splitOn, String.splitOnAux]
section
variable {prog : Program} {w : World} {A : Around} {E : Value → Shared → Prop} {s : Shared} {R : Result → Shared → Prop}
theorem cq_builtin {id : String} {args : Args} {b : Builtin} (hok : okCode (.builtin id args)) (hb : entryFor table id = some b)
    (h : wq (model prog w) (A.under (.builtin id args)) (b args)
      (fun fin s' => match fin with | .done f => R (.ok f) s' | .again c' => c'.quiet = true ∧ cq (model prog w) A c' R s') (fun e s' => R (.error e) s') s) :
    cq (model prog w) A (.builtin id args) R s := by
  refine cq_of_tree hok ?_
  show wq _ _ (match entryFor table id with | some b => b args | none => unsupported ((withoutEnding? id "#data").getD id)) _ _ s
  rw [hb]; exact h
theorem cq_call_builtin {id : String} {args : Args} {b : Builtin} (hq : plainId id = true) (hok : okCode (.builtin id args)) (hb : entryFor table id = some b)
    (h : wpAny (model prog w) A.in1 (checkBuiltinCall id args) (fun _ s₁ => wq (model prog w) A.in1 (b args)
      (fun fin s' => match fin with | .done f => R (.ok f) s' | .again c' => c'.quiet = true ∧ cq (model prog w) A c' R s') (fun e s' => R (.error e) s') s₁)
      (fun e s' => R (.error e) s') s) : cq (model prog w) A (.call (.builtin id) args) R s := by
  refine cq_of_tree trivial ?_
  show wq _ A.in1 (do checkBuiltinCall id args; again (.builtin id args)) _ _ s
  refine wq_bind (wq_mono (wq_of h) (fun _ s₁ h₁ => wq_pure (And.intro (plainId_quiet hq args) (cq_builtin hok hb ?_))) fun _ _ h' => h')
  rw [Around.under_plainId hq args]; exact h₁
omit [Lo] in
noncomputable def heldBy (v : Value) (x : Code × Pos) : Bool := match x with
  | (.builtin "bytearray.__contains__" ⟨x :: _, _⟩, _) | (.builtin "bytearray.__mod__" ⟨x :: _, _⟩, _)
  | (.builtin "bytearray.__rmod__" ⟨_ :: x :: _, _⟩, _) | (.builtin "_struct.pack_into.held" ⟨x :: _, _⟩, _) => Builtin.Bytes.sameRef x v
  | (.builtin "bytearray.find.held" ⟨_ :: _ :: held, _⟩, _) => held.any (Builtin.Bytes.sameRef v)
  | (.builtin id ⟨x :: _, _⟩, _) => Builtin.Bytes.sameRef x v && Builtin.Bytes.decodersThatHold.contains id
  | _ => false
omit [Lo] in
theorem not_held (v : Value) (c : Code) (p : Pos) (hk : okCode c) : heldBy v (c, p) = false := by
  cases c with
  | builtin id args =>
    obtain ⟨pos, kw⟩ := args
    have ne : ∀ n, holders.contains n = true → id ≠ n := fun n hn e => by
      have h2 := hk.2
      rw [e, hn] at h2
      exact tf h2
    unfold heldBy heldBy.match_1
    show dite (id = "bytearray.__contains__") _ _ = false
    refine (dif_neg (ne "bytearray.__contains__" rfl)).trans ?_
    refine (dif_neg (ne "bytearray.__mod__" rfl)).trans ?_
    refine (dif_neg (ne "bytearray.__rmod__" rfl)).trans ?_
    refine (dif_neg (ne "_struct.pack_into.held" rfl)).trans ?_
    refine (dif_neg (ne "bytearray.find.held" rfl)).trans ?_
    cases pos with
    | nil => rfl
    | cons x xs =>
      show (Builtin.Bytes.sameRef x v && Builtin.Bytes.decodersThatHold.contains id) = false
      rw [hk.1, Bool.and_false]
  | _ => rfl
theorem wq_exported {M : Model} {v : Value} {Q : Bool → Shared → Prop} (h : Q false s) : wq M A (Builtin.Bytes.exported v) Q E s := fun Γ p hΓ hc => by
  unfold Builtin.Bytes.exported
  show Sem.wp M Γ (Sem.bind stack _) _ _ p s
  unfold stack
  rw [Sem.wp_bind, Sem.wp_stack]
  show Q (List.any _ (heldBy v)) s
  rw [List.any_eq_false.mpr]
  · exact h
  · rintro ⟨c, q⟩ hm
    rw [Bool.not_eq_true]
    rcases List.mem_cons.mp hm with e | hm
    · cases e; exact not_held _ _ _ hc.1
    · exact not_held _ _ _ (hc.2 _ hm)
theorem wq_checkResize {M : Model} {a : Addr} {o : Obj} {b : Array UInt8} {Q : Unit → Shared → Prop} (ho : s.heap.get? a = some o) (hd : o.data = .bytearray b 0) (h : Q () s) : wq M A (Builtin.Bytes.checkResize (.ref a)) Q E s := by
  unfold Builtin.Bytes.checkResize
  refine wq_bind ?_
  unfold orM
  refine wq_bind (wq_exported ?_)
  refine wq_bind ?_
  unfold Builtin.Bytes.exportsOf
  refine wq_bind (wq_of (wpAny_load ho ?_))
  rw [hd]
  exact wq_pure (wq_pure (wq_pure h))
theorem isBarr_load {a : Addr} {b : Array UInt8} (x : IsBarr s.heap a b) : ∃ o, s.heap.get? a = some o ∧ o.data = .bytearray b 0 := let ⟨o, h, _, _, d⟩ := x; ⟨o, h, d⟩
theorem wpAny_write {M : Model} {a : Addr} {b : Array UInt8} {f : Array UInt8 → Array UInt8} {Q : Unit → Shared → Prop} (x : IsBarr s.heap a b) (hsz : (f b).size ≤ 16777216)
    (h : ∀ h', IsBarr h' a (f b) → Heap.SameBut a s.heap h' → Q () { s with heap := h' }) : wpAny M A (Builtin.Bytes.write (.ref a) f) Q E s := by
  refine x1a4 x fun o ho hc hdi hd => ?_; (try clear x)
  obtain ⟨c, d, dt, sl⟩ := o
  dsimp only at hc hdi hd
  subst hc hdi hd
  show wpAny M A (updateBytearray a f) Q E s
  unfold updateBytearray
  refine wpAny_bind (wpAny_load ho ?_)
  have hu : (s.heap.update a (Obj.mapBytearray f)).get? a = some (Obj.mapBytearray f ⟨.type "bytearray", none, .bytearray b 0, sl⟩) := Heap.get?_update_self _ ho (by rfl)
  refine wpAny_bind (wpAny_update ho ?_)
  refine wpAny_lookBehind hu ?_ (h _ ⟨_, hu, rfl, rfl, rfl⟩ (Heap.SameBut.update ..))
  show (if (f b).size > sizeLine then some "bytearray:memory" else none) = none
  rw [if_neg]
  rw [sizeLine_eq]; lia
theorem asIndex_int {i : Int} {t : Tok} : asIndex (.int i t) = pure i := rfl
theorem byteValue_int {i : Int} {t : Tok} (h0 : 0 ≤ i) (h1 : i < 256) : Builtin.Bytes.byteValue (.int i t) = pure i.toNat.toUInt8 := by
  unfold Builtin.Bytes.byteValue
  rw [asIndex_int]
  have : ¬ (decide (i < 0) || decide (i ≥ 256)) = true := by simp; lia
  simp only [pure_bind, this, if_false]
  rfl
theorem bnats_push {b : Array UInt8} {c : UInt8} : bnats (b.push c) = bnats b ++ [c.toNat] := by simp [bnats]
theorem bnats_append {b c : Array UInt8} : bnats (b ++ c) = bnats b ++ bnats c := by simp [bnats]
theorem bnats_size {b : Array UInt8} : (bnats b).length = b.size := by simp [bnats]
theorem okCode_append (args : Args) : okCode (.builtin "bytearray.append" args) := ⟨by decide, by decide⟩
theorem okCode_extend (args : Args) : okCode (.builtin "bytearray.extend" args) := ⟨by decide, by decide⟩
theorem mut_ba_append {l : List Nat} {c : Int} (h0 : 0 ≤ c) (h1 : c < 256) (hsz : l.length < 16777216) : MutG "bytearray.append" (.barr l) [.int c] (.barr (l ++ [c.toNat])) := fun X B T s a vals ok hq hB hBl hG hp r rl => by
  cases rl using RepL.cCons with
  | cons r₁ r₂ =>
    cases r₂ using RepL.cNil; cases r₁ using Rep.cInt
    rename_i t
    cases r using OwnRep.cBarr with
    | barr b hb =>
      refine wq_call (cq_call_builtin FA.slot_append.plain (okCode_append _) FA.entry_append (FA.slot_append.check _ _ _ _ _ _ _ _ (by refine x1a3 hb fun o ho hc _ => ?_; (try clear hb); exact ⟨o, ho, hc⟩) (FA.args_append _ _) ?_))
      unfold Builtin.«bytearray.append»
      refine wq_bind (wq_of (wpAny_of_eq (a := (.ref a, .int c t)) rfl ?_))
      dsimp only
      rw [byteValue_int h0 h1]
      refine wq_bind (wq_pure ?_)
      refine x1a2 (isBarr_load hb) fun o ho hd => ?_
      refine wq_bind (wq_checkResize ho hd ?_)
      rw [bnats_size] at hsz
      refine wq_bind (wq_of (wpAny_write hb (by simp; (clear hp; lia)) fun h' hb' hs => ?_))
      refine wq_pure ⟨T, s, h', .refl _ _, hs, rfl, ?_⟩
      have hc : (c.toNat.toUInt8).toNat = c.toNat := by
        have : c.toNat < 256 := by (clear hsz hp h0; lia)
        simp [Nat.toUInt8, UInt8.toNat_ofNat, Nat.mod_eq_of_lt this]
      have := OwnRep.barr (W := X.w) (B := B) (T := T) (n := s.toks) (h := h') (a := a) _ hb'
      rwa [bnats_push, hc] at this
theorem code_ba_new {Q₁ : Value → Shared → Prop} (h : Q₁ (.ref s.heap.objs.size) { s with heap := s.heap.push { cls := .type "bytearray", data := .bytearray #[] } }) :
    codeAny (model prog w) A (.call (.builtin "bytearray.__new__") ⟨[.type "bytearray"], []⟩) (wants Q₁ E) s := by
  refine codeAny_of_tree ?_
  show wpAny _ A.in1 (do checkBuiltinCall "bytearray.__new__" ⟨[.type "bytearray"], []⟩; again (.builtin "bytearray.__new__" ⟨[.type "bytearray"], []⟩)) _ _ s
  refine wpAny_bind (wpAny_of_eq FA.newCall0 (wpAny_pure ⟨plainId_quiet FA.plain_new _, codeAny_builtin_stack FA.entry_new rfl fun p st => ?_⟩))
  rw [Around.under_plainId FA.plain_new _]
  have hsub := FA.sub_self
  have hown := owner_new
  obtain ⟨hp, g, d, tk, os⟩ := s
  simp only [hown]
  wp_walk
  exact h
theorem wq_if_false {α : Type} {M : Model} {c : Bool} {a b : Sem α} {Q : α → Shared → Prop} (hc : c = false) (h : wq M A b Q E s) : wq M A (if c = true then a else b) Q E s := by
  subst hc; exact h
theorem wq_if_true {α : Type} {M : Model} {c : Bool} {a b : Sem α} {Q : α → Shared → Prop} (hc : c = true) (h : wq M A a Q E s) : wq M A (if c = true then a else b) Q E s := by
  subst hc; exact h
theorem ba_own_release {a : Addr} {o : Obj} (ho : s.heap.get? a = some o) (hc : o.cls = .type "bytearray") {M : Model} {Q : Bool → Shared → Prop} (h : Q false s) : wpAny M A (Builtin.Bytes.ownRelease (.ref a)) Q E s := by
  have key : ∀ x : String, x = "bytearray" → ∀ Q : Bool → Shared → Prop, Q true s → wpAny M A (isInstance (.ref a) (.type x)) Q E s := fun x hx Q hq => by
    subst hx
    exact wpAny_isInstance (T := "bytearray") ⟨o, ho, hc⟩ FA.sub_self hq
  unfold Builtin.Bytes.ownRelease Builtin.Bytes.slotIsOwn
  refine wpAny_bind (wpAny_bind (wpAny_specialOf (T := "bytearray") ⟨o, ho, hc⟩ FA.look_release ?_))
  dsimp only
  split
  · rename_i hx; exact absurd hx (by decide +kernel)
  · exact key _ (by decide +kernel) _ (wpAny_pure h)
theorem ba_own_buffer {a : Addr} {o : Obj} (ho : s.heap.get? a = some o) (hc : o.cls = .type "bytearray") {M : Model} {Q : Bool → Shared → Prop} (h : Q true s) : wpAny M A (Builtin.Bytes.slotIsOwn (.ref a) "__buffer__") Q E s := by
  have key : ∀ x : String, x = "bytearray" → ∀ Q : Bool → Shared → Prop, Q true s → wpAny M A (isInstance (.ref a) (.type x)) Q E s := fun x hx Q hq => by
    subst hx
    exact wpAny_isInstance (T := "bytearray") ⟨o, ho, hc⟩ FA.sub_self hq
  unfold Builtin.Bytes.slotIsOwn
  refine wpAny_bind (wpAny_specialOf (T := "bytearray") ⟨o, ho, hc⟩ FA.look_buffer ?_)
  dsimp only
  split
  · rename_i hx; exact absurd hx (by decide +kernel)
  · exact key _ (by decide +kernel) _ h
theorem okCode_init (args : Args) : okCode (.builtin "bytearray.__init__" args) := ⟨by decide, by decide⟩
theorem okCode_type_call (args : Args) : okCode (.builtin "type.__call__" args) := ⟨by decide, by decide⟩
theorem ba_init {a : Addr} {R : Result → Shared → Prop} (hb : IsBarr s.heap a #[]) (h : ∀ h', IsBarr h' a #[] → Heap.SameBut a s.heap h' → R (.ok (.ret .none)) { s with heap := h' }) :
    cq (model prog w) A (.call (.builtin "bytearray.__init__") ⟨[.ref a], []⟩) R s := by
  refine x1a4 (id hb) fun o ho hc hdi hd => ?_
  refine cq_call_builtin FA.slot_init.plain (okCode_init _) FA.entry_init (FA.slot_init.check _ _ _ _ _ _ _ _ ⟨o, ho, hc⟩ (FA.args_init _) ?_)
  unfold Builtin.«bytearray.__init__»
  refine wq_bind (wq_of (ba_own_release ho hc ?_))
  refine wq_if_false rfl ?_
  refine wq_bind (wq_of (wpAny_of_eq (a := [none, none, none]) (by kernel_rfl) ?_))
  refine wq_bind (wq_of (wpAny_of_eq (a := ()) rfl ?_))
  refine wq_bind (wq_of (wpAny_of_eq (a := ()) rfl ?_))
  refine wq_bind ?_
  unfold orM
  refine wq_bind (wq_exported ?_)
  refine wq_bind ?_
  unfold Builtin.Bytes.exportsOf
  refine wq_bind (wq_of (wpAny_load ho ?_))
  rw [hd]
  refine wq_pure (wq_pure ?_)
  refine wq_if_false rfl ?_
  refine wq_bind (wq_of (wpAny_write hb (by simp) fun h' hb' hs => ?_))
  exact wq_bind (wq_pure (wq_pure (h h' hb' hs)))
theorem wq_type_call {T : String} {args : List Value} {Q : Value → Shared → Prop} {newId initId : String} (ft : TypeCalled T newId initId)
    (hct : checkTypeCall T ⟨args, []⟩ = pure ())
    (hnew : codeAny (model prog w) A.in1 (.call (.builtin newId) ⟨.type T :: args, []⟩) (wants (fun obj s₁ => s₁.TypeIs obj T ∧ cq (model prog w) A.in1 (.call (.builtin initId) ⟨obj :: args, []⟩) (wants (fun r s₂ => r = .none ∧ Q obj s₂) E) s₁) E) s) :
    wq (model prog w) A (call (.type T) args) Q E s := by
  refine x2a1 (ft.mro) fun c tl hmro => ?_
  have hmade := ft.made
  have hsub := ft.sub
  refine wq_call (cq_of_tree trivial ?_)
  show wq _ _ (callAny (.type T) _) _ _ _
  refine wq_pure ⟨Code.quiet_builtin _ (by decide +kernel), cq_builtin (okCode_type_call _) F.entry_type_call ?_⟩
  rw [Around.under_plain (weight_type_call_type T args []) rfl]
  unfold Builtin.«type.__call__»
  dsimp only
  refine wq_if_false ft.notType ?_
  refine wq_if_false ft.canCreate ?_
  refine wq_bind (wq_of (wpAny_of_eq hct ?_))
  refine wq_bind (wq_of (wpAny_of_eq hmro ?_))
  refine wq_if_false rfl ?_
  refine wq_bind (wq_of (wpAny_of_eq hmade ?_))
  refine wq_bind (wq_pure ?_)
  refine wq_bind (wq_holding (wq_call (cq_mono (cq_of hnew) fun r s₁ hr => ?_)))
  match r, hr with
  | .error e, hr => exact hr
  | .ok (.ret obj), ⟨hT, hc⟩ =>
    refine wq_bind (wq_of (wpAny_isInstance hT hsub ?_))
    refine wq_if_false rfl ?_
    refine wq_bind (wq_holding ?_)
    simp only [callSpecial?]
    refine wq_bind (wq_of (wpAny_specialOf hT ft.init.lookup ?_))
    simp only [ft.init.bind]
    refine wq_holding (wq_bind (wq_pure (wq_bind (wq_call (cq_mono hc fun r₂ s₂ hr₂ => ?_)))))
    match r₂, hr₂ with
    | .error e, hr₂ => exact hr₂
    | .ok (.ret r), ⟨hr₃, hq⟩ =>
      subst hr₃
      exact wq_pure (wq_if_false rfl (wq_pure hq))
theorem take_bytes {id : String} {b : Array UInt8} {t : Tok} : Builtin.Bytes.takeBufferQuiet? id (.bytes b t) 0 = pure (some (b, none)) := by
  unfold Builtin.Bytes.takeBufferQuiet? Builtin.Bytes.takeBuffer?
  rw [KBy.special_eq KBy.look_buffer, KBy.own_buffer]
  have : Builtin.Bytes.buffer? id (.bytes b t) ((0 : Int) == Builtin.Bytes.fullReadOnly) = pure (some b) := KBy.buffer_eq
  rw [pure_bind, this]
  rfl
theorem mut_ba_extend {l m : List Nat} (hsz : l.length + m.length ≤ 16777216) : MutG "bytearray.extend" (.barr l) [.bytes m] (.barr (l ++ m)) := fun X B T s a vals ok hq hB hBl hG hp r rl => by
  cases rl using RepL.cCons with
  | cons r₁ r₂ =>
    cases r₂ using RepL.cNil; cases r₁ using Rep.cBytes
    rename_i c t
    cases r using OwnRep.cBarr with
    | barr b hb =>
      refine wq_call (cq_call_builtin FA.slot_extend.plain (okCode_extend _) FA.entry_extend (FA.slot_extend.check _ _ _ _ _ _ _ _ (by refine x1a3 hb fun o ho hc _ => ?_; (try clear hb); exact ⟨o, ho, hc⟩) (FA.args_extend _ _) ?_))
      unfold Builtin.«bytearray.extend»
      refine wq_bind (wq_of (wpAny_of_eq (a := (.ref a, .bytes c t)) rfl ?_))
      dsimp only
      refine wq_bind (wq_of (wpAny_of_eq (KBy.special_eq KBy.look_buffer) ?_))
      refine wq_if_true rfl ?_
      refine wq_bind (wq_rule ?_)
      refine x1a2 (isBarr_load hb) fun o ho hd => ?_
      have hpay : wpAny X.M (X.A.in1) (Builtin.Bytes.payload (.ref a)) (fun b' s' => b' = b ∧ s' = s) (fun _ _ => False) s := by
        unfold Builtin.Bytes.payload Builtin.Bytes.payload?
        refine wpAny_bind (wpAny_bind (wpAny_load ho ?_))
        rw [hd]
        exact wpAny_pure (wpAny_pure ⟨rfl, rfl⟩)
      refine wq_bind (wq_mono (wq_of hpay) (fun b' s' t_0 => x0a2 t_0 fun e1 e2 => ?_) fun _ _ x => x.elim)
      subst e1 e2
      refine wq_bind (wq_of (wpAny_of_eq take_bytes ?_))
      refine wq_if_true rfl ?_
      rw [bnats_size, bnats_size] at hsz
      have fin : wq X.M X.A.in1 (do Builtin.Bytes.write (.ref a) (· ++ c); ret .none) (fun fin s'' => match fin with
          | .done f => (match f with | .ret v => (∃ T' s₁ h', Le T s' T' s₁ ∧ Heap.SameBut a s₁.heap h' ∧ s'' = { s₁ with heap := h' } ∧ OwnRep X.w B T' s₁.toks h' a (.barr (bnats b' ++ bnats c))) | _ => False) | .again _ => False) (fun _ _ => False) s' := by
        refine wq_bind (wq_of (wpAny_write hb (by simp; omega) fun h' hb' hs => ?_))
        refine wq_pure ⟨T, s', h', .refl _ _, hs, rfl, ?_⟩
        have := OwnRep.barr (W := X.w) (B := B) (T := T) (n := s'.toks) (h := h') (a := a) _ hb'
        rwa [bnats_append] at this
      have fin2 : wq X.M X.A.in1 (if (!c.isEmpty) = true then (do Builtin.Bytes.checkResize (.ref a); Builtin.Bytes.write (.ref a) (· ++ c); ret .none) else (do Builtin.Bytes.write (.ref a) (· ++ c); ret .none)) (fun fin s'' => match fin with
          | .done f => (match f with | .ret v => (∃ T' s₁ h', Le T s' T' s₁ ∧ Heap.SameBut a s₁.heap h' ∧ s'' = { s₁ with heap := h' } ∧ OwnRep X.w B T' s₁.toks h' a (.barr (bnats b' ++ bnats c))) | _ => False) | .again _ => False) (fun _ _ => False) s' := by
        cases c.isEmpty with
        | true => exact wq_if_false rfl fin
        | false => exact wq_if_true rfl (wq_bind (wq_checkResize ho hd fin))
      refine wq_mono fin2 (fun f s'' h => ?_) fun _ _ x => x.elim
      cases f with
      | done f => cases f <;> first | exact h | exact h.elim
      | again c => exact h.elim
theorem ba_new_bytes {a : Addr} {b : Array UInt8} {Q : Value → Shared → Prop} (hb : IsBarr s.heap a b) (hz : b.size ≤ 16777216)
    (hQ : Q (.bytes b s.toks) { s with toks := s.toks + 1 }) :
    codeAny (model prog w) A (.call (.builtin "bytes.__new__") ⟨[.type "bytes", .ref a], []⟩) (wants Q E) s := by
  refine codeAny_of_tree ?_
  show wpAny _ A.in1 (do checkBuiltinCall "bytes.__new__" ⟨[.type "bytes", .ref a], []⟩; again (.builtin "bytes.__new__" ⟨[.type "bytes", .ref a], []⟩)) _ _ s
  refine wpAny_bind (wpAny_of_eq (F.bm_newCall _) (wpAny_pure ⟨plainId_quiet F.bm_plain _, codeAny_builtin F.bm_entry ?_⟩))
  rw [Around.under_plainId F.bm_plain _]
  refine x1a4 (id hb) fun o ho hc hdi hd => ?_
  have hT : s.TypeIs (.ref a) "bytearray" := ⟨o, ho, hc⟩
  unfold Builtin.«bytes.__new__»
  refine wpAny_bind (wpAny_of_eq (a := true) rfl ?_)
  refine bm_if_false rfl ?_
  refine wpAny_bind (wpAny_of_eq F.bm_sub ?_)
  refine bm_if_false rfl ?_
  refine wpAny_bind (wpAny_of_eq (F.bm_bind _) ?_)
  refine wpAny_bind (wpAny_of_eq (a := ()) rfl ?_)
  refine wpAny_bind (wpAny_of_eq (a := ()) rfl ?_)
  refine bm_if_false rfl ?_
  refine wpAny_bind (wpAny_specialOf hT FA.no_bytes ?_)
  refine wpAny_bind (wpAny_bind ?_)
  show wpAny _ _ (load a >>= _) _ _ _
  refine wpAny_bind (wpAny_load ho ?_)
  rw [hd]
  refine wpAny_pure (wpAny_pure ?_)
  refine bm_if_false rfl ?_
  refine wpAny_bind (wpAny_specialOf hT FA.no_idx ?_)
  refine bm_if_true rfl ?_
  first
    | show wpAny _ _ (Builtin.Bytes.buffer? "bytes.__new__" (.ref a) true >>= _) _ _ _
    | (refine wpAny_bind ?_; show wpAny _ _ (Builtin.Bytes.buffer? "bytes.__new__" (.ref a) true >>= _) _ _ _)
  refine wpAny_bind ?_
  unfold Builtin.Bytes.buffer?
  refine wpAny_bind (wpAny_specialOf hT FA.look_buffer ?_)
  refine wpAny_bind (ba_own_buffer ho hc ?_)
  refine bm_if_false rfl ?_
  refine wpAny_bind (wpAny_specialOf hT FA.look_buffer ?_)
  show wpAny _ _ (Builtin.Bytes.ownRelease (.ref a) >>= _) _ _ _
  refine wpAny_bind (ba_own_release ho hc ?_)
  refine bm_if_false rfl ?_
  refine wpAny_bind ?_
  unfold Builtin.Bytes.payload Builtin.Bytes.payload?
  refine wpAny_bind (wpAny_bind (wpAny_load ho ?_))
  rw [hd]
  refine wpAny_pure (wpAny_pure ?_)
  refine wpAny_pure ?_
  dsimp only
  refine wpAny_bind (wpAny_rule ?_)
  refine wpAny_bind (wpAny_mkBytes ?_ (by rw [sizeLine_eq]; exact hz))
  show wpAny _ _ (if (Value.type "bytes" == Value.type "bytes") = true then _ else _) _ _ _
  refine bm_if_true (by decide) ?_
  first
    | exact wpAny_pure hQ
    | exact wpAny_bind (wpAny_pure (wpAny_pure hQ))
theorem call_bytes_ba {a : Addr} {b : Array UInt8} {Q : Value → Shared → Prop} (hb : IsBarr s.heap a b) (hz : b.size ≤ 16777216)
    (hQ : Q (.bytes b s.toks) { s with toks := s.toks + 1 }) : wpAny (model prog w) A (call (.type "bytes") [.ref a]) Q E s := by
  refine callType_codes (Q₁ := fun obj s₁ => s₁.TypeIs obj "bytes" ∧ Q obj s₁) F.bm_called (F.bm_typeCall _) F.entry_object_init
    (ba_new_bytes hb hz ⟨PySem.W.typeIs_bytes _ _ _, hQ⟩) fun obj s₁ h₁ => ?_
  exact ⟨h₁.1, F.args_object_init_2 obj _, object_init_meets F.bm_called.init.lookup F.bm_called.made (by decide) prog w A.in1 _ s₁ ⟨h₁.1, rfl, h₁.2⟩⟩
end
section
variable {X : Cx} {σ : Sto}
theorem EvN.bytearray {p pos : Pos} (hkind : X.env.kindOf "bytearray" = some .globalImplicit) (hg : X.G.mg "bytearray" = none)
    (hcall : autoParam (eval (.Call (.Name "bytearray" p) [] [] pos) X.env = (do callWith pos (← eval (.Name "bytearray" p) X.env) [] (backTo pos (starEach [] X.env)) (backToKw pos (keywordEach [] X.env)))) byRfl) :
    EvN X (.Call (.Name "bytearray" p) [] [] pos) σ (.barr []) := fun T s S => by
  refine wq_Call (S.load_builtin hkind hg (v := .type "bytearray") (by decide +kernel) ?_) hcall
  refine wq_callWith_plain (fun _ => by simp) rfl (wq_evalArgs_none ?_)
  refine wq_type_call FA.called_ba FA.typeCall0 (code_ba_new ⟨⟨_, Heap.get?_push_size _ rfl, rfl⟩, ba_init ⟨_, Heap.get?_push_size _ rfl, rfl, rfl, rfl⟩ fun h' hb hs => ⟨rfl, ?_⟩⟩)
  refine ⟨T, _, rfl, ?_, Nat.le_refl _, OwnRep.barr _ hb⟩
  refine Le.mk' ⟨?_, fun b o e => ⟨o.slots, keepS_re ((hs.2 b (Nat.ne_of_lt (Heap.lt_size e))).trans (Heap.get?_push_of_some _ e))⟩⟩ (Nat.le_refl _)
  have := hs.1
  rw [Heap.size_push] at this
  lia
theorem Ev.bytesOf {x : Str} {a : Addr} {l : List Nat} {p p' pos : Pos} (hx : σ.get x = some ⟨some a, .barr l⟩) (hs : l.length ≤ 16777216) (hkind : X.env.kindOf "bytes" = some .globalImplicit) (hg : X.G.mg "bytes" = none)
    (hd : autoParam ((x == ("__debug__" : Str)) = false) byDec) (hcl : autoParam ((x == ("__classdict__" : Str)) = false) byDec)
    (he : autoParam (starEach [.Name x p'] X.env = [(false, eval (.Name x p') X.env)]) byRfl)
    (hcall : autoParam (eval (.Call (.Name "bytes" p) [.Name x p'] [] pos) X.env = (do callWith pos (← eval (.Name "bytes" p) X.env) [] (backTo pos (starEach [.Name x p'] X.env)) (backToKw pos (keywordEach [] X.env)))) byRfl) :
    Ev X (.Call (.Name "bytes" p) [.Name x p'] [] pos) σ (.bytes l) := fun T s S => by
  refine wq_Call (S.load_builtin hkind hg (v := .type "bytes") (by decide +kernel) ?_) hcall
  refine wq_callWith_plain (fun _ => by simp) (by rw [he]; rfl) ?_
  rw [he]
  refine wq_evalArgs (wq_spliced_cons (S.load_own hx (fun r => ?_) hd hcl))
  refine wq_spliced_nil ?_
  cases r using OwnRep.cBarr with
  | barr b hb =>
    rw [bnats_size] at hs
    exact wq_of (call_bytes_ba hb hs ⟨T, .tok (Nat.le_succ _), .bytes _ _⟩)
omit [Lo] in
noncomputable def AV.ints (l : List Int) : List AV := l.map .int
theorem intsAre_of {B : Addr → Prop} {T : Tx} {n : Nat} {h : Heap} : ∀ {l : List Int} {vs : List Value}, vs.length = l.length →
    (∀ (i : Nat) (v : Value) (x : AV), vs[i]? = some v → (AV.ints l)[i]? = some x → Rep W B T n h v x) → IntsAre vs l
  | [], [], _, _ => .nil
  | x :: l, v :: vs, hl, hi => by
    have := hi 0 v (.int x) rfl rfl
    cases this
    exact .cons _ _ (intsAre_of (by simpa using hl) fun i v x h1 h2 => hi (i + 1) v x (by simpa using h1) (by simpa [AV.ints] using h2))
  | [], _ :: _, hl, _ => by simp at hl
  | _ :: _, [], hl, _ => by simp at hl
theorem bnats_byteArr {l : List Int} (h : ∀ n ∈ l, 0 ≤ n ∧ n < 256) : bnats (byteArr l) = l.map Int.toNat := by
  unfold bnats byteArr
  simp only [List.map_map]
  refine List.map_congr_left fun n hn => ?_
  have := h n hn
  have h2 : n.toNat < 256 := by lia
  simp [Nat.toUInt8, Nat.mod_eq_of_lt h2]
theorem call_bytes_list {l : List Int} (h : ∀ n ∈ l, 0 ≤ n ∧ n < 256) (hs : l.length ≤ 16777216) : CallG (.type "bytes") [.list (AV.ints l)] (.bytes (l.map Int.toNat)) := fun X B T s vals ok hq hB hG hp r => by
  cases r using RepL.cCons with
  | cons r₁ r₂ =>
    cases r₂ using RepL.cNil
    cases r₁ using Rep.cList with
    | @list a items _ hb hl hsz hi =>
      have hI := intsAre_of (l := l) (vs := items.toList) (by simpa [AV.ints] using hsz) fun i v x h1 h2 => hi i v x (by simpa using h1) h2
      refine wpAny_grow (call_bytes_ints (vs := items.toList) (by simpa using hl.is) hI h (by rw [sizeLine_eq]; simp [hsz, AV.ints]; exact hs) (ok.hh hq) fun h' t k hk htk hsz' => ?_)
      refine ⟨T, .mk' (.keeps hsz' hk) htk, ?_⟩
      rw [← bnats_byteArr h]
      exact .bytes _ _
end
end Mine
namespace Mine
open PySem PySem.W PyProof.Rows
variable [Lo]
variable {W : World}
theorem Rep.leB' {B B' : Addr → Prop} {T T' : Tx} {s s' : Shared} {v : Value} {x : AV} (r : Rep W B T s.toks s.heap v x) (l : LeB B T s T' s') (hB : ∀ b, B' b → b < s.heap.objs.size → B b) : Rep W B' T' s'.toks s'.heap v x := by
  induction r with
  | none => exact .none
  | bool b => exact .bool b
  | int i t => exact .int i t
  | str x => exact .str (x.le l.toks l.tx)
  | bytes b t => exact .bytes b t
  | txt x t => exact .txt x t
  | tup hb hl hs _ ih => refine x1a3 hl fun o ho hc t_0 => ?_; (try clear hl); refine x1a1 t_0 fun m hd => ?_; (try clear t_0); refine x1a1 (l.ext _ o hb ho) fun sl ho' => ?_; exact .tup (fun q => hb (hB _ q (Heap.lt_size ho))) ⟨_, ho', hc, m, hd⟩ hs ih
  | list hb hl hs _ ih => refine x1a5 hl fun o ho hc hn hsl t_0 => ?_; (try clear hl); refine x1a1 t_0 fun m hd => ?_; (try clear t_0); refine x1a1 (l.ext _ o hb ho) fun sl ho' => ?_; exact .list (fun q => hb (hB _ q (Heap.lt_size ho))) ⟨_, ho', hc, hn, (keepS_ne (by rw [hc]; decide)).trans hsl, m, hd⟩ hs ih
  | dict hb hl hs hk _ ih => refine x0a2 hl fun t_0 ky => ?_; (try clear hl); refine x1a5 t_0 fun o ho hc hn hsl t_1 => ?_; (try clear t_0); refine x1a1 t_1 fun m hd => ?_; (try clear t_1); refine x1a1 (l.ext _ o hb ho) fun sl ho' => ?_; exact .dict (fun q => hb (hB _ q (Heap.lt_size ho))) ⟨⟨_, ho', hc, hn, (keepS_ne (by rw [hc]; decide)).trans hsl, m, hd⟩, ky⟩ hs (fun i e x h1 h2 => (hk i e x h1 h2).le l.toks l.tx) ih
  | exc hb ho hc hdi hd hf => refine x1a1 (l.ext _ _ hb ho) fun sl ho' => ?_; exact .exc (fun q => hb (hB _ q (Heap.lt_size ho))) ho' hc hdi hd ⟨hf.size, hf.start, hf.stop, x1a2 hf.reason fun v h1 h2 => ⟨v, h1, h2.le l.toks l.tx⟩⟩
theorem isLst_leB {B : Addr → Prop} {T T' : Tx} {s s' : Shared} {a : Addr} {items : Array Value} (hl : IsLst s.heap a items) (hb : ¬ B a) (l : LeB B T s T' s') : IsLst s'.heap a items := by
  refine x1a5 hl fun o ho hc hn hsl t_0 => ?_; (try clear hl); refine x1a1 t_0 fun m hd => ?_; (try clear t_0); refine x1a1 (l.ext _ o hb ho) fun sl ho' => ?_
  exact ⟨_, ho', hc, hn, (keepS_ne (by rw [hc]; decide)).trans hsl, m, hd⟩
theorem Shift.sameBut {lo it : Addr} {h h' : Heap} {o : Obj} {vs : Array Value} (hs : Heap.SameBut it h h') (hlo : lo ≤ it) (ho : h.get? it = some o) (hd : o.data = .fields vs) (hc : o.cls ≠ .type "UnicodeDecodeError") : Shift lo h h' :=
  ⟨Nat.le_of_eq hs.1.symm, fun b ob hb e => ⟨ob.slots, keepS_re ((hs.2 b (Nat.ne_of_lt (Nat.lt_of_lt_of_le hb hlo))).trans e)⟩,
   fun b ob e hn => ⟨ob.slots, keepS_re ((hs.2 b (fun q => by subst q; rw [ho] at e; (have e := Option.some.inj e; subst e); exact hn _ hd)).trans e)⟩,
   fun b ob ws e hcl hdw => ⟨ob, ws, (hs.2 b (fun q => by subst q; rw [ho] at e; (have e := Option.some.inj e; subst e); exact hc hcl)).trans e, rfl, rfl, hdw, rfl, fun _ _ => rfl⟩⟩
theorem Shift.but {lo : Addr} {h h' : Heap} {P : Addr → Prop} (hs : h.objs.size ≤ h'.objs.size) (hP : ∀ b, P b → lo ≤ b) (hf : ∀ b o, P b → h.get? b = some o → (∃ vs, o.data = .fields vs) ∧ o.cls ≠ .type "UnicodeDecodeError")
    (hk : ∀ b o, ¬ P b → h.get? b = some o → h'.get? b = some o) : Shift lo h h' :=
  ⟨hs, fun b ob hb e => ⟨ob.slots, keepS_re (hk b ob (fun q => Nat.lt_irrefl _ (Nat.lt_of_lt_of_le hb (hP b q))) e)⟩,
   fun b ob e hn => ⟨ob.slots, keepS_re (hk b ob (fun q => let ⟨⟨vs, hv⟩, _⟩ := hf b ob q e; hn vs hv) e)⟩,
   fun b ob ws e hcl hdw => ⟨ob, ws, hk b ob (fun q => (hf b ob q e).2 hcl) e, rfl, rfl, hdw, rfl, fun _ _ => rfl⟩⟩
omit [Lo] in
noncomputable def ownedTuples : List String := ["enumerate", "zip", "dict_itemiterator", "dict_reverseitemiterator", "odict_iterator", "itertools.zip_longest", "itertools.pairwise"]
theorem letGo_skip {M : Model} {A : Around} {E : Value → Shared → Prop} {s : Shared} {target : Expr} {it : Addr} {v : Value} {o : Obj} {n : String} {Q : Unit → Shared → Prop}
    (ho : s.heap.get? it = some o) (hc : o.cls = .type n) (hn : ownedTuples.contains n = false) (h : Q () s) : wpAny M A (letOwnedTupleGo target (.ref it) v) Q E s := by
  unfold letOwnedTupleGo
  have main : wpAny M A (match ((Value.ref it, v) : Value × Value) with
    | (.ref r, .ref a) => do
      let o ← load r
      match o.cls, o.data with
      | .type n, .fields vs => if ownedTuples.contains n && vs[0]? == some (rawInt a) then do rule "for.unpacks-the-owned-tuple"; updateField r 0 .none else pure ()
      | _, _ => pure ()
    | _ => pure ()) Q E s := by
    cases v with
    | ref a =>
      refine wpAny_bind (wpAny_load ho ?_)
      rw [hc]
      split
      · rename_i heq _; cases heq; rw [hn, Bool.false_and]; exact wpAny_pure h
      · exact wpAny_pure h
    | _ => exact wpAny_pure h
  cases target <;> first | exact main | exact wpAny_pure h
section
variable {X : Cx} {σ : Sto}
theorem rep_new' {T : Tx} {s : Shared} {x : Str} {B : Addr → Prop} {l : List Nat} {h : Heap} (h0 : 0 < s.toks) (hl : x.cps.toList = l) : Rep W B (T.set s.toks x.cps.toList) (s.toks + 1) h (.str x s.toks) (.str l) :=
  .str (hl ▸ strAt_new h0)
theorem Itr.list {B : Addr → Prop} {target : Expr} {a : Addr} {xs : List AV} {T1 : Tx} {s1 : Shared} {items : Array Value} (hh : X.A.handled = none) (hb : ¬ B a) (hl : IsLst s1.heap a items) (hsz : items.size = xs.length)
    (hi : ∀ (i : Nat) (v : Value) (x : AV), items[i]? = some v → xs[i]? = some x → Rep X.w B T1 s1.toks s1.heap v x) {it : Addr} (hit : s1.heap.objs.size ≤ it) :
    Itr X B target (.ref it) xs T1 s1 (fun b => b = it) (fun k h => h.IsListIter it a k) where
  self := fun k s Q E j q => wpAny_pyIter_listiter j q
  own := fun b q => q ▸ hit
  same := fun k h h' ⟨o, ho, hc, hd⟩ k' => by
    refine x1a1 (k' it o rfl ho) fun sl h1 => ?_
    exact ⟨_, h1, hc, hd⟩
  there := fun k h ⟨o, ho, _⟩ b q => q ▸ Heap.lt_size ho
  next := fun k x T s B' hx hj lb hB hI hG hp => by
    have hl' := isLst_leB hl hb lb
    have hk : k < xs.length := by
      rcases Nat.lt_or_ge k xs.length with h | h
      · exact h
      · rw [List.getElem?_eq_none h] at hx; exact ns hx
    have hv : items[k]? = some items[k] := Array.getElem?_eq_getElem (by omega)
    refine x1a3 (id hj) fun o ho hc hd => ?_
    refine wpAny_pyNext_list_item hj hl'.is hv fun h' hit' hs => ⟨_, rfl, ?_⟩
    refine x1a3 (id hit') fun o' ho' hc' hd' => ?_
    refine letGo_skip ho' hc' (by decide) ⟨T, ⟨.sameBut hs hit ho hd (by rw [hc]; simp), Nat.le_refl _, fun _ _ => rfl, rfl, rfl⟩, ?_, hit'⟩
    exact ((hi k _ x hv hx).leB' lb hB).shift (.sameBut hs hit ho hd (by rw [hc]; simp))
  stop := fun T s hj lb hG hp => by
    refine x1a3 (id hj) fun o ho hc hd => ?_
    refine wpAny_grow (wpAny_pyNext_list_end hh hj (isLst_leB hl hb lb).is (by simp [hsz]) fun h' he _ hsz => ⟨rfl, T, ⟨.but hsz (P := fun b => b = it) (fun b q => q ▸ hit) (fun b o' q e => by subst q; rw [ho] at e; (have e := Option.some.inj e; subst e); exact ⟨⟨_, hd⟩, by rw [hc]; simp⟩) fun b o' q e => he b o' q e, Nat.le_refl _, fun _ _ => rfl, rfl, rfl⟩⟩)
theorem EvI.list {iter target : Expr} {xs : List AV} (h : Ev X iter σ (.list xs)) (hq : X.quiet = true) : EvI X iter target σ xs := fun T s S => by
  refine h.then S fun v T₁ s₁ l₁ S₁ r => ?_
  cases r using Rep.cList with
  | @list a items _ hb hl hsz hi =>
    refine wq_of (wpAny_pyIter_list hl.is ?_)
    exact ⟨T₁, s₁, T₁, _, _, l₁, le_push _, Itr.list (S₁.ok.hh hq) hb hl hsz hi (Nat.le_refl _), ⟨_, Heap.get?_push_size _ rfl, rfl, rfl⟩⟩
theorem Itr.bytes {B : Addr → Prop} {target : Expr} {b : Array UInt8} {t : Tok} {T1 : Tx} {s1 : Shared} (hh : X.A.handled = none) {it : Addr} (hit : s1.heap.objs.size ≤ it) :
    Itr X B target (.ref it) ((bnats b).map fun (n : Nat) => AV.int n) T1 s1 (fun b => b = it) (fun k h => KBw.IsBytesIter h it b t k) where
  self := fun k s Q E j q => KBw.pyIter_self j q
  own := fun b q => q ▸ hit
  same := fun k h h' t_0 k' => x1a3 t_0 fun o ho hc hd => by
    refine x1a1 (k' it o rfl ho) fun sl h1 => ?_
    exact ⟨_, h1, hc, hd⟩
  there := fun k h ⟨o, ho, _⟩ b q => q ▸ Heap.lt_size ho
  next := fun k x T s B' hx hj lb hB hI hG hp => by
    have hk : k < b.size := by
      rcases Nat.lt_or_ge k b.size with h | h
      · exact h
      · rw [List.getElem?_eq_none (by simpa [bnats] using h)] at hx; exact ns hx
    have hv : b[k]? = some b[k] := Array.getElem?_eq_getElem hk
    have hx' : x = .int (b[k].toNat : Nat) := by
      simp only [bnats, List.getElem?_map, Array.getElem?_toList, hv, Option.map_some, Option.some.injEq] at hx
      exact hx.symm
    subst hx'
    refine x1a3 (id hj) fun o ho hc hd => ?_
    refine KBw.next_item hj hv fun h' hit' hs => ⟨_, rfl, ?_⟩
    refine x1a3 (id hit') fun o' ho' hc' hd' => ?_
    exact letGo_skip ho' hc' (by decide) ⟨T, ⟨.sameBut hs hit ho hd (by rw [hc]; simp), Nat.le_succ _, fun _ _ => rfl, rfl, rfl⟩, .int _ _, hit'⟩
  stop := fun T s hj lb hG hp => by
    refine x1a3 (id hj) fun o ho hc hd => ?_
    have : ((bnats b).map fun (n : Nat) => AV.int n).length = b.size := by simp [bnats]
    rw [this] at hj
    refine wpAny_grow (KBw.next_end hh hj (by simp) fun h' he _ hsz => ⟨rfl, T, ⟨.but hsz (P := fun b => b = it) (fun b q => q ▸ hit) (fun b o' q e => by subst q; rw [ho] at e; (have e := Option.some.inj e; subst e); exact ⟨⟨_, hd⟩, by rw [hc]; simp⟩) fun b o' q e => he b o' q e, Nat.le_refl _, fun _ _ => rfl, rfl, rfl⟩⟩)
theorem EvI.bytes {iter target : Expr} {l : List Nat} (h : Ev X iter σ (.bytes l)) (hq : X.quiet = true) : EvI X iter target σ (l.map fun (n : Nat) => AV.int n) := fun T s S => by
  refine h.then S fun v T₁ s₁ l₁ S₁ r => ?_
  cases r using Rep.cBytes with
  | bytes b t =>
    refine wq_of (KBw.pyIter_bytes ?_)
    exact ⟨T₁, s₁, T₁, _, _, l₁, le_push _, Itr.bytes (S₁.ok.hh hq) (Nat.le_refl _), ⟨_, Heap.get?_push_size _ rfl, rfl, rfl⟩⟩
theorem strIter_cases (x : Str) : strIterType x = "str_ascii_iterator" ∨ strIterType x = "str_iterator" := by
  unfold strIterType; split
  · exact .inl rfl
  · exact .inr rfl
theorem Itr.str {B : Addr → Prop} {target : Expr} {x : Str} {t : Tok} {T1 : Tx} {s1 : Shared} (hh : X.A.handled = none) {it : Addr} (hit : s1.heap.objs.size ≤ it) :
    Itr X B target (.ref it) (x.cps.toList.map fun n => .str [n]) T1 s1 (fun b => b = it) (fun k h => h.IsStrIter it (strIterType x) x t k) where
  self := fun k s Q E j q => by
    rcases strIter_cases x with c | c
    · rw [c] at j; exact wpAny_pyIter_striter_ascii j q
    · rw [c] at j; exact wpAny_pyIter_striter_wide j q
  own := fun b q => q ▸ hit
  same := fun k h h' t_0 k' => x1a3 t_0 fun o ho hc hd => by
    refine x1a1 (k' it o rfl ho) fun sl h1 => ?_
    exact ⟨_, h1, hc, hd⟩
  there := fun k h ⟨o, ho, _⟩ b q => q ▸ Heap.lt_size ho
  next := fun k y T s B' hx hj lb hB hI hG hp => by
    have hk : k < x.cps.size := by
      rcases Nat.lt_or_ge k x.cps.size with h | h
      · exact h
      · rw [List.getElem?_eq_none (by simpa using h)] at hx; exact ns hx
    have hv : x.cps[k]? = some x.cps[k] := Array.getElem?_eq_getElem hk
    have hy : y = .str [x.cps[k]] := by
      simp only [List.getElem?_map, Array.getElem?_toList, hv, Option.map_some, Option.some.injEq] at hx
      exact hx.symm
    subst hy
    refine x1a3 (id hj) fun o ho hc hd => ?_
    have fin : ∀ h', h'.IsStrIter it (strIterType x) x t (k + 1) → Heap.SameBut it s.heap h' → ∃ v, some (Value.str ⟨#[x.cps[k]]⟩ s.toks) = some v ∧ wpAny X.M X.A (letOwnedTupleGo target (.ref it) v)
        (fun _ s' => ∃ T', Mv s1.heap.objs.size T s T' s' ∧ Rep X.w B' T' s'.toks s'.heap v (.str [x.cps[k]]) ∧ s'.heap.IsStrIter it (strIterType x) x t (k + 1)) (fun _ _ => False) { s with heap := h', toks := s.toks + 1 } := fun h' hit' hs => by
      refine x1a3 (id hit') fun o' ho' hc' hd' => ?_
      refine ⟨_, rfl, letGo_skip ho' hc' (by rcases strIter_cases x with e | e <;> rw [e] <;> decide) ⟨_, ⟨.sameBut hs hit ho hd (by rw [hc]; rcases strIter_cases x with e | e <;> rw [e] <;> simp), Nat.le_succ _, (Le.set (l := _) (Nat.le_succ _)).tx, rfl, rfl⟩, rep_new' hp rfl, hit'⟩⟩
    rcases strIter_cases x with e | e
    · rw [e] at hj fin ⊢; exact wpAny_pyNext_ascii_item hj hv fin
    · rw [e] at hj fin ⊢; exact wpAny_pyNext_wide_item hj hv fin
  stop := fun T s hj lb hG hp => by
    refine x1a3 (id hj) fun o ho hc hd => ?_
    have hlen : (x.cps.toList.map fun n => AV.str [n]).length = x.cps.size := by simp
    rw [hlen] at hj
    have fin : ∀ h', Heap.ExtBut it s.heap h' → s.toks ≤ s.toks → s.heap.objs.size ≤ h'.objs.size → (none : Option Value) = none ∧ ∃ T', Mv s1.heap.objs.size T s T' { s with heap := h' } := fun h' he _ hsz =>
      ⟨rfl, T, ⟨.but hsz (P := fun b => b = it) (fun b q => q ▸ hit) (fun b o' q e => by subst q; rw [ho] at e; (have e := Option.some.inj e; subst e); exact ⟨⟨_, hd⟩, by rw [hc]; rcases strIter_cases x with e | e <;> rw [e] <;> simp⟩) fun b o' q e => he b o' q e, Nat.le_refl _, fun _ _ => rfl, rfl, rfl⟩⟩
    rcases strIter_cases x with e | e <;> rw [e] at hj
    · exact wpAny_grow (wpAny_pyNext_ascii_end hh hj (by simp) fin)
    · exact wpAny_grow (wpAny_pyNext_wide_end hh hj (by simp) fin)
theorem EvI.str {iter target : Expr} {l : List Nat} (h : Ev X iter σ (.str l)) (hq : X.quiet = true) : EvI X iter target σ (l.map fun n => .str [n]) := fun T s S => by
  refine h.then S fun v T₁ s₁ l₁ S₁ r => ?_
  refine x2a3 (rep_str_inv r) fun x t e_0 hx _ => ?_; subst e_0
  subst hx
  refine wq_of (wpAny_pyIter_strU ?_)
  exact ⟨T₁, s₁, T₁, _, _, l₁, le_push _, Itr.str (S₁.ok.hh hq) (Nat.le_refl _), ⟨_, Heap.get?_push_size _ rfl, rfl, rfl⟩⟩
end
section
variable {prog : Program} {w : World} {A : Around} {E : Value → Shared → Prop} {s : Shared}
theorem next_key {it d : Addr} {i ep : Nat} {od : Obj} {es : Array DictEntry} {Q : Option Value → Shared → Prop} (hit : s.heap.IsKeyIter it d i es.size ep)
    (hod : s.heap.get? d = some od) (hdd : od.data = .dict es ep) (hlt : i < es.size)
    (hQ : ∀ h', h'.IsKeyIter it d (i + 1) es.size ep → Heap.SameBut it s.heap h' → Q (some es[i].key) { s with heap := h' }) :
    wpAny (model prog w) A (pyNext (.ref it)) Q E s := by
  refine x1a3 (id hit) fun o ho hc hd => ?_
  unfold pyNext
  refine wpAny_bind (wpAny_attempt (wpAny_callSpecial?_slot (name := Str.ofString "__next__") hit.typeIs F.slot_dict_keyiterator_next
    (wpAny_call_entry F.slot_dict_keyiterator_next hit.typeIs F.entry_dict_keyiterator_next ?_ (F.args_dict_keyiterator_next_1 _))))
  refine wpAny_bind (wpAny_pure (wpAny_bind (wpAny_bind ?_)))
  first | refine wpAny_bind (wpAny_typeNameOfWhole_keyiter hit.typeIs (wpAny_pure ?_)) | refine wpAny_bind (wpAny_typeNameOf_keyiter hit.typeIs (wpAny_pure ?_))
  refine wpAny_bind (wpAny_fieldsOf ho hd ?_)
  rw [show Builtin.Dict_items.ownsTuple "dict_keyiterator" = false by decide]
  show wpAny _ _ (if (Value.ref d == Value.none) = true then _ else _) _ _ s
  rw [if_neg (show ¬ ((Value.ref d == Value.none) = true) from Bool.false_ne_true)]
  refine wpAny_bind (wpAny_pure (wpAny_bind (wpAny_dictEntries hod hdd ?_)))
  rw [if_neg (by simp)]
  refine wpAny_bind (wpAny_pure (wpAny_bind (wpAny_dictEpoch hod hdd ?_)))
  rw [if_neg (by simp)]
  refine wpAny_pure ?_
  dsimp only
  rw [if_neg (show ¬ ((i : Int) < 0) from by omega), Int.toNat_natCast, Array.getElem?_eq_getElem hlt]
  refine wpAny_bind ?_
  first | refine wpAny_bind (wpAny_typeNameOfWhole_keyiter hit.typeIs (wpAny_pure ?_)) | refine wpAny_bind (wpAny_typeNameOf_keyiter hit.typeIs (wpAny_pure ?_))
  refine wpAny_bind (wpAny_isOneOf_keyiter hit.typeIs ?_)
  show wpAny _ _ (setField (.ref it) 1 (rawInt ((i : Int) + 1)) >>= _) _ _ s
  refine wpAny_bind (wpAny_setField ho hd (by simp) ?_)
  have hit' : (s.heap.update it (Obj.mapFields (·.setIfInBounds 1 (rawInt ((i : Int) + 1))))).IsKeyIter it d (i + 1) es.size ep :=
    ⟨_, Heap.get?_update_self _ ho (Obj.isFreed_of_fields (Obj.data_mapFields hd _)), (Obj.cls_mapFields ..).trans hc, by rw [Obj.data_mapFields hd]; simp [rawInt]⟩
  refine wpAny_bind (wpAny_holding ?_)
  refine wpAny_bind (wpAny_isOneOf_keyiter (s := { s with heap := s.heap.update it (Obj.mapFields (·.setIfInBounds 1 (rawInt ((i : Int) + 1)))) }) hit'.typeIs ?_)
  show wpAny _ _ (pure es[i].key) _ _ _
  exact wpAny_pure (wpAny_pure ⟨_, rfl, wpAny_pure (hQ _ hit' (Heap.SameBut.update ..))⟩)
theorem next_pair {it d : Addr} {i ep : Nat} {od : Obj} {es : Array DictEntry} {ok ov : Value} {Q : Option Value → Shared → Prop} (hit : IsItemIter s.heap it d i es.size ep ok ov)
    (hod : s.heap.get? d = some od) (hdd : od.data = .dict es ep) (hlt : i < es.size)
    (hQ : ∀ h', IsItemIterOut h' it d (i + 1) es.size ep es[i].key es[i].val s.heap.objs.size →
      h'.get? s.heap.objs.size = some { cls := .type "tuple", data := .seq #[es[i].key, es[i].val] } → h'.objs.size = s.heap.objs.size + 1 →
      (∀ b o, b ≠ it → s.heap.get? b = some o → h'.get? b = some o) → Q (some (.ref s.heap.objs.size)) { s with heap := h' }) :
    wpAny (model prog w) A (pyNext (.ref it)) Q E s := by
  obtain ⟨hp, g, dr, tk, os⟩ := s
  have hT : Shared.TypeIs ⟨hp, g, dr, tk, os⟩ (.ref it) "dict_itemiterator" := ⟨_, hit, rfl⟩
  unfold pyNext
  refine wpAny_bind (wpAny_attempt (wpAny_callSpecial?_slot (name := Str.ofString "__next__") hT F.slot_dict_itemiterator_next
    (wpAny_call_entry F.slot_dict_itemiterator_next hT F.entry_dict_itemiterator_next ?_ (F.args_dict_itemiterator_next_1 _))))
  refine wpAny_bind (wpAny_pure (wpAny_bind (wpAny_bind ?_)))
  first | refine wpAny_bind (wpAny_typeNameOfWhole_itemiter hT (wpAny_pure ?_)) | refine wpAny_bind (wpAny_typeNameOf_itemiter hT (wpAny_pure ?_))
  refine wpAny_bind (wpAny_fieldsOf hit rfl ?_)
  rw [show Builtin.Dict_items.ownsTuple "dict_itemiterator" = true by decide]
  show wpAny _ _ (if (Value.ref d == Value.none) = true then _ else _) _ _ _
  rw [if_neg (show ¬ ((Value.ref d == Value.none) = true) from Bool.false_ne_true)]
  refine wpAny_bind (wpAny_pure (wpAny_bind (wpAny_dictEntries hod hdd ?_)))
  rw [if_neg (by simp)]
  refine wpAny_bind (wpAny_pure (wpAny_bind (wpAny_dictEpoch hod hdd ?_)))
  rw [if_neg (by simp)]
  refine wpAny_pure ?_
  dsimp only
  rw [if_neg (show ¬ ((i : Int) < 0) from by lia), Int.toNat_natCast, Array.getElem?_eq_getElem hlt]
  refine wpAny_bind ?_
  first | refine wpAny_bind (wpAny_typeNameOfWhole_itemiter hT (wpAny_pure ?_)) | refine wpAny_bind (wpAny_typeNameOf_itemiter hT (wpAny_pure ?_))
  refine wpAny_bind (wpAny_isOneOf_itemiter hT ?_)
  show wpAny _ _ (setField (.ref it) 3 (rawInt ((i : Int) + 1)) >>= _) _ _ ⟨hp, g, dr, tk, os⟩
  refine wpAny_bind (wpAny_setField_rec hit (by simp) fun h₁ he₁ hs₁ => ?_)
  replace hs₁ : Heap.SameBut it hp h₁ := hs₁
  replace he₁ : IsItemIter h₁ it d (i + 1) es.size ep ok ov := by
    have e : ((i + 1 : Nat) : Int) = (i : Int) + 1 := by lia
    unfold IsItemIter; rw [e]; simpa [rawInt] using he₁
  have hT₁ : Shared.TypeIs ⟨h₁, g, dr, tk, os⟩ (.ref it) "dict_itemiterator" := ⟨_, he₁, rfl⟩
  refine wpAny_bind (wpAny_holding (wpAny_bind (wpAny_isOneOf_itemiter hT₁ (wpAny_bind (wpAny_isOneOf_itemiter hT₁ ?_)))))
  show wpAny _ _ (Builtin.Dict_items.pairFromOwner (.ref it) 6 es[i].key es[i].val) _ _ ⟨h₁, g, dr, tk, os⟩
  unfold Builtin.Dict_items.pairFromOwner
  refine wpAny_bind (wpAny_newTuple ?_)
  have he₂ : IsItemIter (h₁.push { cls := .type "tuple", data := .seq #[es[i].key, es[i].val] }) it d (i + 1) es.size ep ok ov := Heap.get?_push_of_some _ he₁
  generalize hh₂ : h₁.push { cls := .type "tuple", data := .seq #[es[i].key, es[i].val] } = h₂ at he₂
  have hz₁ : h₁.objs.size = hp.objs.size := hs₁.1
  have hil : it < hp.objs.size := Heap.lt_size hit
  have ht₂ : h₂.get? hp.objs.size = some { cls := .type "tuple", data := .seq #[es[i].key, es[i].val] } := by rw [← hh₂, ← hz₁]; exact Heap.get?_push_size _ rfl
  have hz₂ : h₂.objs.size = hp.objs.size + 1 := by rw [← hh₂, Heap.size_push, hz₁]
  have hk₂ : ∀ b o, b ≠ it → hp.get? b = some o → h₂.get? b = some o := fun b o hb e => by rw [← hh₂]; exact Heap.get?_push_of_some _ (hs₁.extBut b o hb e)
  show wpAny _ _ (Builtin.Dict_items.ownedTupleIsFree (.ref it) >>= _) _ _ ⟨h₂, g, dr, tk, os⟩
  rw [hz₁]
  clear hh₂ he₁ hs₁ hT₁ hz₁ h₁
  refine wpAny_bind ?_
  unfold Builtin.Dict_items.ownedTupleIsFree
  refine wpAny_bind (wpAny_field he₂ rfl (x := .none) rfl (wpAny_pure ?_))
  simp only [if_true]
  refine wpAny_bind (wpAny_field he₂ rfl (x := ok) rfl (wpAny_bind (wpAny_field he₂ rfl (x := ov) rfl ?_)))
  refine wpAny_bind (wpAny_setField_rec he₂ (by simp) fun h₃ he₃ hs₃ => ?_)
  replace hs₃ : Heap.SameBut it h₂ h₃ := hs₃
  replace he₃ : IsItemIter h₃ it d (i + 1) es.size ep es[i].key ov := he₃
  refine wpAny_bind (wpAny_setField_rec he₃ (by simp) fun h₄ he₄ hs₄ => ?_)
  replace hs₄ : Heap.SameBut it h₃ h₄ := hs₄
  replace he₄ : IsItemIter h₄ it d (i + 1) es.size ep es[i].key es[i].val := he₄
  refine wpAny_bind (wpAny_setField_rec he₄ (by simp) fun h₅ he₅ hs₅ => ?_)
  replace hs₅ : Heap.SameBut it h₄ h₅ := hs₅
  replace he₅ : IsItemIterOut h₅ it d (i + 1) es.size ep es[i].key es[i].val hp.objs.size := he₅
  refine wpAny_bind (wpAny_setField_rec he₅ (by simp) fun h₆ he₆ hs₆ => ?_)
  replace hs₆ : Heap.SameBut it h₅ h₆ := hs₆
  replace he₆ : IsItemIterOut h₆ it d (i + 1) es.size ep es[i].key es[i].val hp.objs.size := he₆
  refine wpAny_bind (wpAny_letGo (wpAny_pure (wpAny_pure ⟨_, rfl, wpAny_pure (hQ h₆ he₆ ?_ ?_ ?_)⟩)))
  · exact hs₆.extBut _ _ (Nat.ne_of_gt hil) (hs₅.extBut _ _ (Nat.ne_of_gt hil) (hs₄.extBut _ _ (Nat.ne_of_gt hil) (hs₃.extBut _ _ (Nat.ne_of_gt hil) ht₂)))
  · show h₆.objs.size = hp.objs.size + 1
    rw [hs₆.1, hs₅.1, hs₄.1, hs₃.1, hz₂]
  · exact fun b o hb e => hs₆.extBut b o hb (hs₅.extBut b o hb (hs₄.extBut b o hb (hs₃.extBut b o hb (hk₂ b o hb e))))
end
theorem keepS_rec {h : Heap} {b : Addr} {o : Obj} {sl : Array (Option Value)} (e : h.get? b = some { o with slots := keepS b o sl }) (hne : o.cls ≠ .type "frame") : h.get? b = some o := by rw [e, keepS_ne hne]
theorem isDict_leB {B : Addr → Prop} {T T' : Tx} {s s' : Shared} {a : Addr} {od : Obj} {es : Array DictEntry} {ep : Nat} (ho : s.heap.get? a = some od) (hc : od.cls = .type "dict") (hd : od.dict = none) (hs : od.slots = #[]) (hdat : od.data = .dict es ep) (hb : ¬ B a) (l : LeB B T s T' s') :
    ∃ o', s'.heap.get? a = some o' ∧ o'.cls = .type "dict" ∧ o'.dict = none ∧ o'.slots = #[] ∧ o'.data = .dict es ep := by
  refine x1a1 (l.ext _ od hb ho) fun sl ho' => ?_
  exact ⟨_, ho', hc, hd, (keepS_ne (by rw [hc]; decide)).trans hs, hdat⟩
theorem dictAt_of {h : Heap} {a : Addr} {o : Obj} {es : Array DictEntry} {ep : Nat} (prog : Program) (ho : h.get? a = some o) (hc : o.cls = .type "dict") (hd : o.dict = none) (hs : o.slots = #[]) (hdat : o.data = .dict es ep) (ky : KeysOk W es) :
    h.DictAt (strKind prog W) a (es.toList.map fun e => (strOf e.key, e.val)) ep :=
  ⟨o, es, ho, ⟨hc, hd, hs⟩, hdat, fun e he => by
    refine x2a2 (ky.1 e he) fun x t h1 h2 => ?_
    exact ⟨x, by show Value.isStrOf _ _ = true; simp [h1, Value.isStrOf], h2⟩, pairs_of fun e he => ky.1 e (Array.mem_toList_iff.mp he), by rw [List.map_map]; exact ky.2⟩
section
variable {X : Cx} {σ : Sto}
theorem Itr.keys {B : Addr → Prop} {target : Expr} {d : Addr} {l : List (List Nat × AV)} {T1 : Tx} {s1 : Shared} {od : Obj} {es : Array DictEntry} {ep : Nat} (hh : X.A.handled = none) (hb : ¬ B d)
    (ho : s1.heap.get? d = some od) (hc : od.cls = .type "dict") (hd : od.dict = none) (hs : od.slots = #[]) (hdat : od.data = .dict es ep) (ky : KeysOk X.w es) (hsz : es.size = l.length)
    (hk : ∀ (i : Nat) (e : DictEntry) (x : List Nat × AV), es[i]? = some e → l[i]? = some x → StrAt T1 s1.toks e.key x.1) {it : Addr} (hit : s1.heap.objs.size ≤ it) :
    Itr X B target (.ref it) (l.map fun p => .str p.1) T1 s1 (fun b => b = it) (fun k h => h.IsKeyIter it d k es.size ep) where
  self := fun k s Q E j q => wpAny_pyIter_keyiter j q
  own := fun b q => q ▸ hit
  same := fun k h h' t_0 k' => x1a3 t_0 fun o ho hc hd => by
    refine x1a1 (k' it o rfl ho) fun sl h1 => ?_
    exact ⟨_, h1, hc, hd⟩
  there := fun k h ⟨o, ho, _⟩ b q => q ▸ Heap.lt_size ho
  next := fun k x T s B' hx hj lb hB hI hG hp => by
    refine x1a5 (isDict_leB ho hc hd hs hdat hb lb) fun o' ho' _ _ _ hd' => ?_
    rw [List.getElem?_map] at hx
    refine x1a2 (Option.map_eq_some_iff.mp hx) fun p hp' e_0 => ?_; subst e_0
    have hlt : k < l.length := by
      rcases Nat.lt_or_ge k l.length with h | h
      · exact h
      · rw [List.getElem?_eq_none h] at hp'; exact ns hp'
    refine x1a3 (id hj) fun o hoi hci hdi => ?_
    refine next_key hj ho' hd' (by (clear hp hit; lia)) fun h' hit' hs' => ⟨_, rfl, ?_⟩
    refine x1a3 (id hit') fun o2 ho2 hc2 hd2 => ?_
    refine letGo_skip ho2 hc2 (by decide) ⟨T, ⟨.sameBut hs' hit hoi hdi (by rw [hci]; simp), Nat.le_refl _, fun _ _ => rfl, rfl, rfl⟩, .str ?_, hit'⟩
    exact (hk k _ p (Array.getElem?_eq_getElem (by (clear hp hit; lia))) hp').le lb.toks lb.tx
  stop := fun T s hj lb hG hp => by
    refine x1a5 (isDict_leB ho hc hd hs hdat hb lb) fun o' ho' hc' hd' hs' hdat' => ?_
    refine x1a3 (id hj) fun o hoi hci hdi => ?_
    have hm := dictAt_of X.prog ho' hc' hd' hs' hdat' ky
    have hlen : (l.map fun p => AV.str p.1).length = es.size := by simp [hsz]
    have hlen2 : (es.toList.map fun e => (strOf e.key, e.val)).length = es.size := by simp
    rw [hlen] at hj
    rw [← hlen2] at hj
    refine wpAny_grow (wpAny_pyNext_dict_end hh hj hm (by simp) fun h' he _ hsz' => ⟨rfl, T, ⟨.but hsz' (P := fun b => b = it) (fun b q => q ▸ hit) (fun b o' q e => by subst q; rw [hoi] at e; (have e := Option.some.inj e; subst e); exact ⟨⟨_, hdi⟩, by rw [hci]; simp⟩) fun b o' q e => he b o' q e, Nat.le_refl _, fun _ _ => rfl, rfl, rfl⟩⟩)
theorem EvI.keys {iter target : Expr} {l : List (List Nat × AV)} (h : Ev X iter σ (.dict l)) (hq : X.quiet = true) : EvI X iter target σ (l.map fun p => .str p.1) := fun T s S => by
  refine h.then S fun v T₁ s₁ l₁ S₁ r => ?_
  cases r using Rep.cDict with
  | @dict a es _ hb hl hsz hk hi =>
    refine x0a3 hl fun t_0 hm ky => ?_; (try clear hl); refine x1a5 t_0 fun od ho hc hd hs t_1 => ?_; (try clear t_0); refine x1a1 t_1 fun ep hdat => ?_; (try clear t_1)
    have hlen2 : (es.toList.map fun e => (strOf e.key, e.val)).length = es.size := by simp
    refine wq_of (wpAny_pyIter_dict hm (dictAt_of X.prog ho hc hd hs hdat ky) ?_)
    rw [hlen2]
    exact ⟨T₁, s₁, T₁, _, _, l₁, le_push _, Itr.keys (S₁.ok.hh hq) hb ho hc hd hs hdat ky hsz hk (Nat.le_refl _), ⟨_, Heap.get?_push_size _ rfl, rfl, rfl⟩⟩
theorem Itr.pairs {B : Addr → Prop} {elts : List Expr} {kx : Nat} {px : Pos} {d : Addr} {l : List (List Nat × AV)} {T1 : Tx} {s1 : Shared} {od : Obj} {es : Array DictEntry} {ep : Nat} (hh : X.A.handled = none) (hb : ¬ B d)
    (ho : s1.heap.get? d = some od) (hc : od.cls = .type "dict") (hd : od.dict = none) (hs : od.slots = #[]) (hdat : od.data = .dict es ep) (ky : KeysOk X.w es) (hsz : es.size = l.length)
    (hk : ∀ (i : Nat) (e : DictEntry) (x : List Nat × AV), es[i]? = some e → l[i]? = some x → StrAt T1 s1.toks e.key x.1)
    (hv : ∀ (i : Nat) (e : DictEntry) (x : List Nat × AV), es[i]? = some e → l[i]? = some x → Rep X.w B T1 s1.toks s1.heap e.val x.2) {it : Addr} (hit : s1.heap.objs.size ≤ it) :
    Itr X B (.Tuple elts kx px) (.ref it) (l.map fun p => .tup [.str p.1, p.2]) T1 s1 (fun b => b = it) (fun k h => ∃ ok ov, IsItemIter h it d k es.size ep ok ov) where
  self := fun k s Q E j q => by obtain ⟨ok, ov, j⟩ := j; exact kcp_self j q
  own := fun b q => q ▸ hit
  same := fun k h h' t_0 k' => x2a1 t_0 fun ok ov ho => by
    obtain ⟨sl, h1⟩ := k' it _ rfl ho
    exact ⟨ok, ov, keepS_rec h1 (by simp)⟩
  there := fun k h t_0 b q => x2a1 t_0 fun ok ov ho => q ▸ Heap.lt_size ho
  next := fun k x T s B' hx hj lb hB hI hG hp => by
    obtain ⟨o', ho', _, _, _, hd'⟩ := isDict_leB ho hc hd hs hdat hb lb
    rw [List.getElem?_map] at hx
    obtain ⟨p, hp', rfl⟩ := Option.map_eq_some_iff.mp hx
    have hlt : k < l.length := by
      rcases Nat.lt_or_ge k l.length with h | h
      · exact h
      · rw [List.getElem?_eq_none h] at hp'; exact ns hp'
    obtain ⟨ok, ov, hj⟩ := hj
    have hes : es[k]? = some es[k] := Array.getElem?_eq_getElem (by omega)
    refine next_pair hj ho' hd' (by omega) fun h₁ ho₁ ht₁ hsz₁ hk₁ => ⟨_, rfl, ?_⟩
    refine wpAny_letOwnedTupleGo_items ho₁ fun h₂ ho₂ hs₂ => ?_
    have hil : it < s.heap.objs.size := Heap.lt_size hj
    have hsh : Shift s1.heap.objs.size s.heap h₂ := by
      refine .but (P := fun b => b = it) ?_ (fun b q => q ▸ hit) (fun b o' q e => by subst q; rw [hj] at e; (have e := Option.some.inj e; subst e); exact ⟨⟨_, rfl⟩, by simp⟩) fun b o' q e => (hs₂.2 b q).trans (hk₁ b o' q e)
      rw [show h₂.objs.size = h₁.objs.size from hs₂.1, hsz₁]; omega
    refine ⟨T, ⟨hsh, Nat.le_refl _, fun _ _ => rfl, rfl, rfl⟩, .tup (fun q => Nat.lt_irrefl _ (hI _ q).1) ⟨_, (hs₂.2 _ (Nat.ne_of_gt hil)).trans ht₁, rfl, _, rfl⟩ rfl fun i v y h1 h2 => ?_, _, _, ho₂⟩
    · match i with
      | 0 =>
        simp at h1 h2; subst h1 h2
        exact .str ((hk k _ p hes hp').le lb.toks lb.tx)
      | 1 =>
        simp at h1 h2; subst h1 h2
        exact ((hv k _ p hes hp').leB' lb hB).shift hsh
      | i + 2 => simp at h2
  stop := fun T s hj lb hG hp => by
    obtain ⟨o', ho', hc', hd', hs', hdat'⟩ := isDict_leB ho hc hd hs hdat hb lb
    obtain ⟨ok, ov, hj⟩ := hj
    have hm := dictAt_of X.prog ho' hc' hd' hs' hdat' ky
    have hlen : (l.map fun p => AV.tup [.str p.1, p.2]).length = es.size := by simp [hsz]
    have hlen2 : (es.toList.map fun e => (strOf e.key, e.val)).length = es.size := by simp
    rw [hlen] at hj
    have hj2 : IsItemIter s.heap it d es.size (es.toList.map fun e => (strOf e.key, e.val)).length ep ok ov := by rw [hlen2]; exact hj
    refine wpAny_grow (wpAny_pyNext_items_end hh hj2 hm (by simp) fun h' he _ hsz' => ⟨rfl, T, ⟨.but hsz' (P := fun b => b = it) (fun b q => q ▸ hit) (fun b o' q e => by subst q; rw [hj] at e; (have e := Option.some.inj e; subst e); exact ⟨⟨_, rfl⟩, by simp⟩) fun b o' q e => he b o' q e, Nat.le_refl _, fun _ _ => rfl, rfl, rfl⟩⟩)
theorem EvI.items {o : Expr} {apos pos : Pos} {elts : List Expr} {kx : Nat} {px : Pos} {l : List (List Nat × AV)} (h : Ev X o σ (.dict l)) (hq : X.quiet = true)
    (hbase : autoParam (attributeBase o "items" X.env (eval o X.env) = eval o X.env) byRfl)
    (hfew : autoParam (methodCallForm (([] : List Expr).length + ([] : List Keyword).length) (backTo pos (starEach [] X.env)) (backToKw pos (keywordEach [] X.env)) = true) byRfl)
    (hline : autoParam ((apos.endLine == pos.line) = true) byRfl) :
    EvI X (.Call (.Attribute o "items" apos) [] [] pos) (.Tuple elts kx px) σ (l.map fun p => .tup [.str p.1, p.2]) := fun T s S => by
  refine wq_Call_method F.plainAttrs_dict F.slot_dict_items F.type_dict_items (h.then S fun v T' s' l' S' r => ⟨r.typeIs, r.noDict (fun _ q => nomatch q), ?_⟩) hbase hfew hline
  refine wq_callWith_plain (fun _ => by simp) rfl (wq_evalArgs_none ?_)
  cases r using Rep.cDict with
  | @dict a es _ hb hl hsz hk hi =>
    refine x0a3 hl fun t_0 hm ky => ?_; (try clear hl); refine x1a5 t_0 fun od ho hc hd hs t_1 => ?_; (try clear t_0); refine x1a1 t_1 fun ep hdat => ?_; (try clear t_1)
    have hlen2 : (es.toList.map fun e => (strOf e.key, e.val)).length = es.size := by simp
    have hat := dictAt_of X.prog ho hc hd hs hdat ky
    refine wq_of (call_meetsIn F.slot_dict_items hat.dictOf.typeIs F.entry_dict_items (F.args_dict_items_1 _) (meets_dict_items (strKind X.prog X.w) a hm) ⟨⟨_, hat.dictOf⟩, ?_⟩)
    refine wq_of (wpAny_pyIter_items (d := a) ⟨_, Heap.get?_push_size _ rfl, rfl, rfl⟩ (hat.push _) ?_)
    rw [hlen2]
    have hsz1 : (s'.heap.push { cls := .type "dict_items", data := .fields #[.ref a] }).objs.size = s'.heap.objs.size + 1 := Heap.size_push ..
    exact ⟨T', s', T', _, _, l', .mk' (((Ext.refl _).push _).push _) (Nat.le_refl _), Itr.pairs (S'.ok.hh hq) hb ho hc hd hs hdat ky hsz hk hi (by rw [hsz1]; (clear hsz1 hlen2 hsz; lia)), .none, .none, Heap.get?_push_size _ rfl⟩
theorem Itr.range {B : Addr → Prop} {target : Expr} {a c : Int} {cnt : Nat} {T1 : Tx} {s1 : Shared} (hh : X.A.handled = none) {it : Addr} (hit : s1.heap.objs.size ≤ it) :
    Itr X B target (.ref it) ((List.range cnt).map fun (i : Nat) => AV.int (a + i * c)) T1 s1 (fun b => b = it) (fun k h => IsRangeIter h it (a + k * c) ((cnt : Int) - k) c) where
  self := fun k s Q E j q => wpAny_pyIter_rangeiter j q
  own := fun b q => q ▸ hit
  same := fun k h h' ho k' => by
    refine x1a1 (k' it _ rfl ho) fun sl h1 => ?_
    exact keepS_rec h1 (by simp)
  there := fun k h ho b q => q ▸ Heap.lt_size ho
  next := fun k x T s B' hx hj lb hB hI hG hp => by
    rw [List.getElem?_map] at hx
    refine x1a2 (Option.map_eq_some_iff.mp hx) fun p hp' e_0 => ?_; subst e_0
    have hlt : k < cnt := by
      rcases Nat.lt_or_ge k cnt with h | h
      · exact h
      · rw [List.getElem?_eq_none (by simpa using h)] at hp'; exact ns hp'
    have hpk : p = k := by rw [List.getElem?_range hlt] at hp'; exact (Option.some.inj hp').symm
    subst hpk
    refine wpAny_pyNext_range_item hj (by (clear hp hit; lia)) fun h' hit' hs => ⟨_, rfl, ?_⟩
    have hit'' : IsRangeIter h' it (a + (p + 1 : Nat) * c) ((cnt : Int) - (p + 1 : Nat)) c := by
      have e1 : a + (p + 1 : Nat) * c = a + p * c + c := by rw [Int.natCast_add, Int.add_mul]; (clear hlt hp hit; lia)
      have e2 : (cnt : Int) - (p + 1 : Nat) = (cnt : Int) - p - 1 := by (clear e1 hp hit; lia)
      rw [e1, e2]; exact hit'
    exact letGo_skip hit' rfl (by decide) ⟨T, ⟨.sameBut hs hit hj rfl (by simp), Nat.le_succ _, fun _ _ => rfl, rfl, rfl⟩, .int _ _, hit''⟩
  stop := fun T s hj lb hG hp => by
    have hlen : ((List.range cnt).map fun (i : Nat) => AV.int (a + i * c)).length = cnt := by simp
    rw [hlen] at hj
    exact wpAny_grow (wpAny_pyNext_range_end hh hj (by (clear hlen hp hit; lia)) fun h' he _ hsz => ⟨rfl, T, ⟨.but hsz (P := fun b => b = it) (fun b q => q ▸ hit) (fun b o' q e => by subst q; rw [hj] at e; (have e := Option.some.inj e; subst e); exact ⟨⟨_, rfl⟩, by simp⟩) fun b o' q e => he b o' q e, Nat.le_refl _, fun _ _ => rfl, rfl, rfl⟩⟩)
theorem range_iter {target : Expr} {T T' : Tx} {s s' : Shared} (S' : St X σ T' s') (hq : X.quiet = true) (l : Le T s T' s') {a b c : Int} {t u v : Tok} {k cnt : Nat} (hk : s'.toks ≤ k) (hsm : Builtin.Range.small a b c = true) (hn : Builtin.Range.rangeSize a b c = cnt) :
    wq X.M X.A (pyIter (.ref s'.heap.objs.size)) (fun it s₂ => ∃ T₀ s₀ T₂ I J, Le T s T₀ s₀ ∧ Le T₀ s₀ T₂ s₂ ∧ Itr X (X.ban σ) target it ((List.range cnt).map fun (i : Nat) => AV.int (a + i * c)) T₀ s₀ I J ∧ J 0 s₂.heap) (fun _ _ => False)
      { s' with heap := s'.heap.push { cls := .type "range", data := .fields #[.int a t, .int b u, .int c v] }, toks := k } := by
  refine wq_of (wpAny_pyIter_range (IsRange.new _ _ _ _ _ _ _) hsm ?_)
  have hsz : (s'.heap.push { cls := .type "range", data := .fields #[.int a t, .int b u, .int c v] }).objs.size = s'.heap.objs.size + 1 := Heap.size_push ..
  refine ⟨T', s', T', _, _, l, .mk' (((Ext.refl _).push _).push _) hk, Itr.range (S'.ok.hh hq) (it := s'.heap.objs.size + 1) (Nat.le_succ _) |> fun h => hsz ▸ h, ?_⟩
  have := Heap.get?_push_size (s'.heap.push { cls := .type "range", data := .fields #[.int a t, .int b u, .int c v] }) (o := { cls := .type "range_iterator", data := .fields #[rawInt a, rawInt (Builtin.Range.rangeSize a b c), rawInt c] }) rfl
  rw [hn] at this
  show Heap.get? _ _ = _
  rw [hn]
  refine this.trans ?_
  simp
theorem EvI.range1 {p pos : Pos} {e target : Expr} {n : Int} (h : Ev X e σ (.int n)) (hq : X.quiet = true) (h0 : 0 ≤ n) (hs : n ≤ 1099511627776) (hkind : X.env.kindOf "range" = some .globalImplicit) (hg : X.G.mg "range" = none)
    (he : autoParam (starEach [e] X.env = [(false, eval e X.env)]) byRfl) (hst : autoParam ((backTo pos (starEach [e] X.env)).any (·.1) = false) byRfl)
    (hcall : autoParam (eval (.Call (.Name "range" p) [e] [] pos) X.env = (do callWith pos (← eval (.Name "range" p) X.env) [] (backTo pos (starEach [e] X.env)) (backToKw pos (keywordEach [] X.env)))) byRfl) :
    EvI X (.Call (.Name "range" p) [e] [] pos) target σ ((List.range n.toNat).map fun (i : Nat) => AV.int i) := fun T s S => by
  refine wq_Call (S.load_builtin hkind hg (v := .type "range") (by decide +kernel) ?_) hcall
  refine wq_callWith_plain (fun _ => by simp) hst ?_
  have hargs := EvL.cons h EvL.nil he
  unfold EvL at hargs
  rw [he] at hargs ⊢
  refine wq_evalArgs (wq_mono (hargs T s S pos) (fun vs s' t_0 => x1a2 t_0 fun T' l rl => ?_) fun _ _ x => x.elim)
  have S' := S.le_mono l
  cases rl using RepL.cCons with
  | cons r₁ r₂ =>
    cases r₂ using RepL.cNil; cases r₁ using Rep.cInt
    refine wq_of (call_range_1 ?_)
    have := range_iter (target := target) (a := 0) (b := n) (c := 1) (t := s'.toks) (u := ‹Tok›) (v := s'.toks + 1) (k := s'.toks + 1 + 1) (cnt := n.toNat) S' hq l (by lia) (small_one (by lia) (by lia) (by (clear hs; lia)) (by (clear h0; lia))) (by rw [rangeSize_one]; split <;> omega)
    simp only [Int.zero_add, Int.mul_one] at this
    exact this
theorem EvI.down {p pos : Pos} {e₁ e₂ e₃ target : Expr} {n : Int} (h1 : Ev X e₁ σ (.int n)) (h2 : Ev X e₂ σ (.int (-1))) (h3 : Ev X e₃ σ (.int (-1))) (hq : X.quiet = true) (h0 : 0 ≤ n) (hs : n ≤ 536870912) (hkind : X.env.kindOf "range" = some .globalImplicit) (hg : X.G.mg "range" = none)
    (he : autoParam (starEach [e₁, e₂, e₃] X.env = (false, eval e₁ X.env) :: starEach [e₂, e₃] X.env) byRfl) (he2 : autoParam (starEach [e₂, e₃] X.env = (false, eval e₂ X.env) :: starEach [e₃] X.env) byRfl) (he3 : autoParam (starEach [e₃] X.env = [(false, eval e₃ X.env)]) byRfl) (hst : autoParam ((backTo pos (starEach [e₁, e₂, e₃] X.env)).any (·.1) = false) byRfl)
    (hcall : autoParam (eval (.Call (.Name "range" p) [e₁, e₂, e₃] [] pos) X.env = (do callWith pos (← eval (.Name "range" p) X.env) [] (backTo pos (starEach [e₁, e₂, e₃] X.env)) (backToKw pos (keywordEach [] X.env)))) byRfl) :
    EvI X (.Call (.Name "range" p) [e₁, e₂, e₃] [] pos) target σ ((List.range (n.toNat + 1)).map fun (i : Nat) => AV.int (n - i)) := fun T s S => by
  refine wq_Call (S.load_builtin hkind hg (v := .type "range") (by decide +kernel) ?_) hcall
  refine wq_callWith_plain (fun _ => by simp) hst ?_
  have hargs := EvL.cons h1 (EvL.cons h2 (EvL.cons h3 EvL.nil he3) he2) he
  unfold EvL at hargs
  rw [he] at hargs ⊢
  refine wq_evalArgs (wq_mono (hargs T s S pos) (fun vs s' ⟨T', l, rl⟩ => ?_) fun _ _ x => x.elim)
  have S' := S.le_mono l
  cases rl using RepL.cCons with
  | cons r₁ r₂ =>
    cases r₂ using RepL.cCons with
    | cons r₂ r₃ =>
      cases r₃ using RepL.cCons with
      | cons r₃ r₄ =>
        cases r₄ using RepL.cNil; cases r₁ using Rep.cInt; cases r₂ using Rep.cInt; cases r₃ using Rep.cInt
        rename_i t1 t2 t3 _
        refine wq_of (call_range_3 (by decide) ?_ (.inl (PyProof.noPylong_small (by lia))))
        have hn : Builtin.Range.rangeSize n (-1) (-1) = (n.toNat + 1 : Nat) := by
          unfold Builtin.Range.rangeSize
          simp only [show ¬ ((-1 : Int) > 0) by decide, if_false]
          have e : (n - -1 - 1) / (- -1) = n := by simp
          rw [e]
          split <;> omega
        have := range_iter (target := target) (a := n) (b := -1) (c := -1) (t := t1) (u := t2) (v := t3) (k := s'.toks) (cnt := n.toNat + 1) S' hq l (Nat.le_refl _) (by
          unfold Builtin.Range.small; rw [hn]
          simp only [Builtin.Range.rangeFitsLong]
          simp
          omega) hn
        simp only [Int.mul_neg, Int.mul_one, ← Int.sub_eq_add_neg] at this
        exact this
theorem Itr.enum {B : Addr → Prop} {elts : List Expr} {kx : Nat} {px : Pos} {a : Addr} {xs : List AV} {T1 : Tx} {s1 : Shared} {items : Array Value} (hh : X.A.handled = none) (hb : ¬ B a) (hl : IsLst s1.heap a items) (hsz : items.size = xs.length)
    (hi : ∀ (i : Nat) (v : Value) (x : AV), items[i]? = some v → xs[i]? = some x → Rep X.w B T1 s1.toks s1.heap v x) {e it : Addr} (hit : s1.heap.objs.size ≤ it) (he : s1.heap.objs.size ≤ e) (hei : e ≠ it) :
    Itr X B (.Tuple elts kx px) (.ref e) ((List.range xs.length).zipWith (fun (i : Nat) x => AV.tup [.int i, x]) xs) T1 s1 (fun b => b = e ∨ b = it) (fun k h => (∃ old, IsEnum h e it k old) ∧ h.IsListIter it a k) where
  self := fun k s Q E j q => by refine x0a2 j fun t_0 _ => ?_; (try clear j); refine x1a1 t_0 fun old j => ?_; (try clear t_0); exact wpAny_pyIter_enum j q
  own := fun b q => by rcases q with rfl | rfl <;> assumption
  same := fun k h h' ⟨⟨old, ho⟩, o, h1, hc, hd⟩ k' => by
    refine x1a1 (k' e _ (.inl rfl) ho) fun sl h2 => ?_
    refine x1a1 (k' it _ (.inr rfl) h1) fun sl' h3 => ?_
    exact ⟨⟨old, keepS_rec h2 (by simp)⟩, _, h3, hc, hd⟩
  there := fun k h ⟨⟨old, ho⟩, o, h1, _⟩ b q => by rcases q with rfl | rfl; exact Heap.lt_size ho; exact Heap.lt_size h1
  next := fun k x T s B' hx hj lb hB hI hG hp => by
    have hl' := isLst_leB hl hb lb
    refine x0a2 hj fun t_0 hji => ?_; (try clear hj); refine x1a1 t_0 fun old hje => ?_; (try clear t_0)
    have hk : k < xs.length := by
      rcases Nat.lt_or_ge k xs.length with h | h
      · exact h
      · rw [List.getElem?_eq_none (by simpa using h)] at hx; exact ns hx
    have hv : items[k]? = some items[k] := Array.getElem?_eq_getElem (by omega)
    have hx' : xs[k]? = some xs[k] := List.getElem?_eq_getElem hk
    have hxe : x = .tup [.int k, xs[k]] := by
      rw [List.getElem?_zipWith, List.getElem?_range hk, hx'] at hx
      exact (Option.some.inj hx).symm
    subst hxe
    refine x1a3 (id hji) fun o ho hc hd => ?_
    refine wpAny_pyNext_enum_item hje hji hl'.is hv hei fun h₁ ho₁ hi₁ ht₁ hsz₁ hk₁ => ⟨_, rfl, ?_⟩
    refine wpAny_letOwnedTupleGo_enum ho₁ fun h₂ ho₂ hs₂ => ?_
    have hel : e < s.heap.objs.size := Heap.lt_size hje
    have hsh : Shift s1.heap.objs.size s.heap h₂ := by
      refine .but (P := fun b => b = e ∨ b = it) ?_ (fun b q => by rcases q with rfl | rfl <;> assumption) (fun b o' q e' => ?_) fun b o' q e' => (hs₂.2 b (fun q' => q (.inl q'))).trans (hk₁ b o' (fun q' => q (.inl q')) (fun q' => q (.inr q')) e')
      · rw [show h₂.objs.size = h₁.objs.size from hs₂.1, hsz₁]; omega
      · rcases q with rfl | rfl
        · rw [hje] at e'; (have e' := Option.some.inj e'; subst e'); exact ⟨⟨_, rfl⟩, by simp⟩
        · rw [ho] at e'; (have e' := Option.some.inj e'; subst e'); exact ⟨⟨_, hd⟩, by rw [hc]; simp⟩
    refine ⟨T, ⟨hsh, Nat.le_succ _, fun _ _ => rfl, rfl, rfl⟩, .tup (fun q => Nat.lt_irrefl _ (hI _ q).1) ⟨_, (hs₂.2 _ (Nat.ne_of_gt hel)).trans ht₁, rfl, _, rfl⟩ rfl fun i v y h1 h2 => ?_, ⟨_, ho₂⟩, hi₁.extBut hs₂.extBut (Ne.symm hei)⟩
    match i with
    | 0 => simp at h1 h2; subst h1 h2; exact .int _ _
    | 1 =>
      simp at h1 h2; subst h1 h2
      exact (((hi k _ _ hv hx').leB' lb hB).shift hsh).mono (Nat.le_succ _) (fun _ _ => rfl) (.refl _) fun _ q => .inl q
    | i + 2 => simp at h2
  stop := fun T s hj lb hG hp => by
    have hlen : ((List.range xs.length).zipWith (fun (i : Nat) x => AV.tup [.int i, x]) xs).length = xs.length := by simp
    rw [hlen] at hj
    refine x0a2 hj fun t_0 hji => ?_; (try clear hj); refine x1a1 t_0 fun old hje => ?_; (try clear t_0)
    refine x1a3 (id hji) fun o ho hc hd => ?_
    exact wpAny_grow (wpAny_pyNext_enum_end hh hje hji (isLst_leB hl hb lb).is (by simp [hsz]) fun h' he' _ hsz' => ⟨rfl, T, ⟨.but hsz' (P := fun b => b = it) (fun b q => q ▸ hit) (fun b o' q e => by subst q; rw [ho] at e; (have e := Option.some.inj e; subst e); exact ⟨⟨_, hd⟩, by rw [hc]; simp⟩) fun b o' q e => he' b o' q e, Nat.le_refl _, fun _ _ => rfl, rfl, rfl⟩⟩)
theorem EvI.enum {p pos : Pos} {e : Expr} {elts : List Expr} {kx : Nat} {px : Pos} {xs : List AV} (h : Ev X e σ (.list xs)) (hq : X.quiet = true) (hkind : X.env.kindOf "enumerate" = some .globalImplicit) (hg : X.G.mg "enumerate" = none)
    (he : autoParam (starEach [e] X.env = [(false, eval e X.env)]) byRfl) (hst : autoParam ((backTo pos (starEach [e] X.env)).any (·.1) = false) byRfl)
    (hcall : autoParam (eval (.Call (.Name "enumerate" p) [e] [] pos) X.env = (do callWith pos (← eval (.Name "enumerate" p) X.env) [] (backTo pos (starEach [e] X.env)) (backToKw pos (keywordEach [] X.env)))) byRfl) :
    EvI X (.Call (.Name "enumerate" p) [e] [] pos) (.Tuple elts kx px) σ ((List.range xs.length).zipWith (fun (i : Nat) x => AV.tup [.int i, x]) xs) := fun T s S => by
  refine wq_Call (S.load_builtin hkind hg (v := .type "enumerate") (by decide +kernel) ?_) hcall
  refine wq_callWith_plain (fun _ => by simp) hst ?_
  have hargs := EvL.cons h EvL.nil he
  unfold EvL at hargs
  rw [he] at hargs ⊢
  refine wq_evalArgs (wq_mono (hargs T s S pos) (fun vs s' t_0 => x1a2 t_0 fun T' l rl => ?_) fun _ _ x => x.elim)
  have S' := S.le_mono l
  cases rl using RepL.cCons with
  | cons r₁ r₂ =>
    cases r₂ using RepL.cNil
    cases r₁ using Rep.cList with
    | @list a items _ hb hl hsz hi =>
      obtain ⟨n, hrec⟩ := hl.rec
      refine wq_of (call_enumerate_1 hrec fun h' he' hi' hsz' hk' => ?_)
      refine wq_of (wpAny_pyIter_enum he' ?_)
      exact ⟨T', s', T', _, _, l, .mk' (.keeps (by (clear hsz; lia)) hk') (Nat.le_refl _), Itr.enum (S'.ok.hh hq) hb hl hsz hi (Nat.le_refl _) (Nat.le_succ _) (Nat.succ_ne_self _), ⟨_, he'⟩, hi'⟩
end
end Mine
namespace Mine
open PySem PySem.W PyProof.Rows
variable [Lo]
variable {W : World}
omit [Lo] in
noncomputable def Sto.updL : Sto → List Str → List AV → Sto
  | σ, x :: xs, v :: vs => (σ.upd x v).updL xs vs
  | σ, _, _ => σ
omit [Lo] in
inductive NamesT (X : Cx) : List Expr → List Str → Prop where
  | nil : NamesT X [] []
  | cons {x : Str} {p : Pos} {es : List Expr} {xs : List Str} : storable X x → NamesT X es xs → NamesT X (.Name x p :: es) (x :: xs)
omit [Lo] in
inductive StorL (X : Cx) : List Str → Prop where
  | nil : StorL X []
  | cons {x : Str} {xs : List Str} : storable X x → StorL X xs → StorL X (x :: xs)
section
variable {X : Cx} {σ : Sto}
theorem NamesT.len {es : List Expr} {xs : List Str} (h : NamesT X es xs) : (assignEach es X.env).length = xs.length ∧ (assignEach es X.env).findIdx? (·.1) = none := by
  induction h with
  | nil => exact ⟨rfl, rfl⟩
  | cons hk h ih =>
    refine ⟨congrArg Nat.succ ih.1, ?_⟩
    show List.findIdx? _ ((false, _) :: assignEach _ X.env) = none
    rw [List.findIdx?_cons]
    simp [ih.2]
theorem stores {xs : List Str} : ∀ {fs : List (Value → Sem Unit)} {vs : List AV} {ws : List Value} {σ : Sto} {T : Tx} {s : Shared}, StorL X xs → fs.length = xs.length → xs.length = vs.length →
    (∀ (i : Nat) (f : Value → Sem Unit) (x : Str), fs[i]? = some f → xs[i]? = some x → ∀ w (Q : Unit → Shared → Prop) (E : Value → Shared → Prop) s, wpAny X.M X.A (storeName X.env x w) Q E s → wpAny X.M X.A (f w) Q E s) →
    St X σ T s → RepL X.w (X.ban σ) T s.toks s.heap ws vs →
    wpAny X.M X.A (assignInOrder fs ws) (fun _ s' => ∃ T', Nx X σ T s (σ.updL xs vs) T' s') (fun _ _ => False) s := by
  induction xs with
  | nil =>
    intro fs vs ws σ T s _ hf hv _ S _
    cases fs with
    | nil => exact wpAny_pure ⟨T, .refl S⟩
    | cons => simp at hf
  | cons x xs ih =>
    intro fs vs ws σ T s hs hf hv hfx S r
    cases hs with
    | cons hk hs =>
      cases r with
      | nil => simp at hv
      | cons r₁ r₂ =>
        rename_i w v ws vs
        cases fs with
        | nil => simp at hf
        | cons f fs =>
          show wpAny X.M X.A (do holding ws (f w); assignInOrder fs ws) _ _ s
          refine wpAny_bind (wpAny_holding (hfx 0 f x rfl rfl w _ _ _ (StB.store S hk r₁ fun s' S' lb => ?_)))
          have r₂' : RepL X.w (X.ban (σ.upd x v)) T s'.toks s'.heap ws vs := by
            clear ih hv hf hfx
            induction r₂ with
            | nil => exact .nil
            | cons h _ ih => exact .cons ((h.leB lb fun _ q => q).sub fun _ q => Cx.ban_upd q) ih
          refine wpAny_mono (ih hs (by simpa using hf) (by simpa using hv) (fun i f x h1 h2 => hfx (i + 1) f x (by simpa using h1) (by simpa using h2)) S' r₂') (fun _ s'' t_0 => x1a1 t_0 fun T'' n => ⟨T'', ?_⟩) fun _ _ x => x
          exact Nx.trans ⟨S', lb, fun b _ q => Cx.ban_upd q⟩ n
theorem NamesT.stor {es : List Expr} {xs : List Str} (h : NamesT X es xs) : StorL X xs := by
  induction h with
  | nil => exact .nil
  | cons hk _ ih => exact .cons hk ih
theorem NamesT.fs {es : List Expr} {xs : List Str} (h : NamesT X es xs) : ∀ (i : Nat) (f : Value → Sem Unit) (x : Str), ((assignEach es X.env).map (·.2))[i]? = some f → xs[i]? = some x →
    ∀ w (Q : Unit → Shared → Prop) (E : Value → Shared → Prop) s, wpAny X.M X.A (storeName X.env x w) Q E s → wpAny X.M X.A (f w) Q E s := by
  induction h with
  | nil => intro i f x h; exact ns (α := Value → Sem Unit) h
  | @cons y p es xs hk _ ih =>
    intro i f x h1 h2 w Q E s hw
    cases i with
    | zero =>
      have e1 : assign (.Name y p) X.env = f := by
        have h1' : some (assign (.Name y p) X.env) = some f := h1
        exact Option.some.inj h1'
      simp at h2; subst h2
      rw [← e1]
      exact assign_Name hw
    | succ i => exact ih i f x h1 (by simpa using h2) w Q E s hw
theorem unpackT {T : Tx} {s : Shared} {w : Value} {vs : List AV} {n : Nat} (S : St X σ T s) (hq : X.quiet = true) (r : Rep X.w (X.ban σ) T s.toks s.heap w (.tup vs)) (hn : n = vs.length) {Q : List Value → Shared → Prop} {E : Value → Shared → Prop}
    (h : ∀ ws s', Le T s T s' → St X σ T s' → RepL X.w (X.ban σ) T s'.toks s'.heap ws vs → Q ws s') : wpAny X.M X.A (unpackItems w n none) Q E s := by
  cases r using Rep.cTup with
  | @tup a items _ hb hl hsz hi =>
    subst hn
    rw [← hsz]
    refine wpAny_grow (wpAny_unpackItems_tuple (S.ok.hh hq) hl fun h' he htk hsz' => ?_)
    have l : Le T s T { s with heap := h' } := .mk' (.keeps hsz' fun b o e => he b o (Nat.ne_of_lt (Heap.lt_size e)) e) (Nat.le_refl _)
    exact h _ _ l (S.le_mono l) (RepL.le (RepL.of (by simpa using hsz) fun i v x h1 h2 => hi i v x (by simpa using h1) h2) l)
theorem Binds.tuple {es : List Expr} {k : Nat} {pos : Pos} {xs : List Str} {vs : List AV} (h : NamesT X es xs) (hq : X.quiet = true) (hl : autoParam (xs.length = vs.length) byRfl) : Binds X (.Tuple es k pos) (.tup vs) σ (σ.updL xs vs) := fun T s w S r => by
  show wq X.M X.A (do standAt pos; unpack w (assignEach es X.env)) _ _ s
  refine wq_bind (wq_standAt (wq_of ?_))
  unfold unpack
  rw [h.len.1, h.len.2]
  refine wpAny_bind (wpAny_holding (unpackT S hq r hl fun ws s' l S' r' => ?_))
  refine wpAny_mono (stores h.stor (by simpa using h.len.1) hl h.fs S' r') (fun _ s'' t_0 => x1a1 t_0 fun T'' n => ⟨T'', (Nx.of_le S l).trans n⟩) fun _ _ x => x
theorem Ex.assignTX {Q : Post} {es : List Expr} {k : Nat} {tpos pos : Pos} {e : Expr} {rest : List Stmt} {xs : List Str} {vs : List AV} {r : Except XV AV} (h : EvX X e σ r) (hn : NamesT X es xs) (hq : X.quiet = true)
    (k' : match r with | .ok v => v = .tup vs ∧ xs.length = vs.length ∧ Ex X rest (σ.updL xs vs) Q | .error z => Q (.exc z) σ)
    (hs : autoParam (swapsWithSole [.Tuple es k tpos] e pos.line X.env = pure false) byRfl)
    (hw : autoParam (swappedStores [.Tuple es k tpos] e X.env = pure none) byRfl) : Ex X (.Assign [.Tuple es k tpos] e pos :: rest) σ Q :=
  .cons fun T s S => by
    rw [exec_Assign]
    refine wq_bind (wq_standAt ?_)
    rw [hs]
    refine wq_bind (wq_pure ?_)
    rw [if_neg (by decide)]
    refine wq_bind (wq_mono (h T s S) (fun v s' t_0 => x2a3 t_0 fun T' av e l rv => ?_) fun v s' t_0 => x3a4 t_0 fun T' z a e ha l ea => ?_)
    · subst e
      refine x0a3 k' fun hv hl kk => ?_; (try clear k')
      subst hv
      rw [hw]
      refine wq_bind (wq_pure ?_)
      show wq X.M X.A (do assignAll v [PySem.assign (.Tuple es k tpos) X.env]; pure Flow.next) _ _ s'
      refine wq_bind (wq_mono (Binds.tuple hn hq hl T' s' v (S.le_mono l) rv) (fun _ s'' t_0 => x1a1 t_0 fun T'' n => wq_pure ?_) fun _ _ x => x.elim)
      exact ⟨T'', .next, _, (Nx.of_le S l).trans n, rfl, kk⟩
    · subst e; exact ⟨T', z, σ, a, ha, .of_le S l, ea, k'⟩
theorem Ex.assignT {Q : Post} {es : List Expr} {k : Nat} {tpos pos : Pos} {e : Expr} {rest : List Stmt} {xs : List Str} {vs : List AV} (h : Ev X e σ (.tup vs)) (hn : NamesT X es xs) (hq : X.quiet = true) (k' : Ex X rest (σ.updL xs vs) Q) (hl : autoParam (xs.length = vs.length) byRfl)
    (hs : autoParam (swapsWithSole [.Tuple es k tpos] e pos.line X.env = pure false) byRfl)
    (hw : autoParam (swappedStores [.Tuple es k tpos] e X.env = pure none) byRfl) : Ex X (.Assign [.Tuple es k tpos] e pos :: rest) σ Q := .assignTX h.x hn hq ⟨rfl, hl, k'⟩ hs hw
theorem Ex.assignS {Q : Post} {es : List Expr} {k : Nat} {tpos pos : Pos} {e : Expr} {rest : List Stmt} {xs : List Str} {vs : List AV} (h : Ev X e σ (.tup vs)) (hn : StorL X xs.reverse) (hq : X.quiet = true) (k' : Ex X rest (σ.updL xs.reverse vs.reverse) Q) (hl : autoParam (xs.length = vs.length) byRfl)
    (hs : autoParam (swapsWithSole [.Tuple es k tpos] e pos.line X.env = pure false) byRfl)
    (hw : autoParam (swappedStores [.Tuple es k tpos] e X.env = pure (some xs)) byRfl) : Ex X (.Assign [.Tuple es k tpos] e pos :: rest) σ Q :=
  .cons fun T s S => by
    rw [exec_Assign]
    refine wq_bind (wq_standAt ?_)
    rw [hs]
    refine wq_bind (wq_pure ?_)
    rw [if_neg (by decide)]
    refine wq_bind (h.then S fun v T' s' l S' rv => ?_)
    rw [hw]
    refine wq_bind (wq_pure ?_)
    show wq X.M X.A (do rule "assign.swapped-stores"; let items ← unpackItems v xs.length none; assignInOrder (xs.reverse.map fun n => bindName X.env n) items.reverse; pure Flow.next) _ _ s'
    refine wq_bind (wq_rule (wq_bind (wq_of (unpackT S' hq rv hl fun ws s'' l' S'' r' => ?_))))
    have rr : RepL X.w (X.ban σ) T' s''.toks s''.heap ws.reverse vs.reverse := by
      clear hw hs k' hn h hl rv
      induction r' with
      | nil => exact .nil
      | cons h _ ih =>
        rw [List.reverse_cons, List.reverse_cons]
        exact RepL.append ih (.cons h .nil)
    refine wq_bind (wq_mono (wq_of (stores hn (by simp) (by simpa using hl) (fun i f x h1 h2 w Q E s hw => ?_) S'' rr)) (fun _ s₃ t_0 => x1a1 t_0 fun T₃ n => wq_pure ⟨T₃, .next, _, (Nx.of_le S (l.trans l')).trans n, rfl, k'⟩) fun _ _ x => x.elim)
    rw [List.getElem?_map, h2] at h1
    (have h1 := Option.some.inj h1; subst h1)
    exact wpAny_bindName hw
end
end Mine
namespace Mine
open PySem PySem.W PyProof.Rows
variable [Lo]
variable {W : World}
theorem IsLst.update {h : Heap} {a : Addr} {items : Array Value} (x : IsLst h a items) (f : Array Value → Array Value) : IsLst (h.update a (Obj.mapSeq f)) a (f items) := by
  refine x1a1 (x.rec) fun n hn => ?_
  exact ⟨_, IsL.update (n := n) hn f, rfl, rfl, rfl, _, rfl⟩
theorem RepL.but {B : Addr → Prop} {T : Tx} {n : Nat} {h h' : Heap} {vs : List Value} {xs : List AV} (r : RepL W B T n h vs xs) (he : ∀ b o, ¬ B b → h.get? b = some o → h'.get? b = some o) : RepL W B T n h' vs xs := by
  induction r with
  | nil => exact .nil
  | cons h _ ih => exact .cons (h.but he) ih
theorem RepL.take {B : Addr → Prop} {T : Tx} {n : Nat} {h : Heap} {vs : List Value} {xs : List AV} (r : RepL W B T n h vs xs) (k : Nat) : RepL W B T n h (vs.take k) (xs.take k) := by
  induction r generalizing k with
  | nil => simp; exact .nil
  | cons h _ ih =>
    cases k with
    | zero => exact .nil
    | succ k => exact .cons h (ih k)
theorem RepL.drop {B : Addr → Prop} {T : Tx} {n : Nat} {h : Heap} {vs : List Value} {xs : List AV} (r : RepL W B T n h vs xs) (k : Nat) : RepL W B T n h (vs.drop k) (xs.drop k) := by
  induction r generalizing k with
  | nil => simp; exact .nil
  | cons h t ih =>
    cases k with
    | zero => exact .cons h t
    | succ k => exact ih k
theorem OwnRep.lst {B : Addr → Prop} {T : Tx} {n : Nat} {h : Heap} {a : Addr} {l : List AV} (r : OwnRep W B T n h a (.list l)) : ∃ items : Array Value, IsLst h a items ∧ RepL W B T n h items.toList l := by
  cases r with
  | @list items _ hl hs hi => exact ⟨items, hl, RepL.of (by simpa using hs) fun i v x h1 h2 => hi i v x (by simpa using h1) h2⟩
theorem OwnRep.ofLst {B : Addr → Prop} {T : Tx} {n : Nat} {h : Heap} {a : Addr} {l : List AV} {items : Array Value} (hl : IsLst h a items) (r : RepL W B T n h items.toList l) : OwnRep W B T n h a (.list l) :=
  .list hl (by simpa using r.length) fun i v x h1 h2 => r.at i v x (by simpa using h1) h2
theorem rep_turn {X : Cx} {B : Addr → Prop} {T : Tx} {s : Shared} {a : Addr} {l : List AV} {f : Array Value → Array Value} {items : Array Value} (hB : B a) (hl : IsLst s.heap a items) (r : RepL X.w B T s.toks s.heap (f items).toList l) :
    ∃ T' s₁ h', Le T s T' s₁ ∧ Heap.SameBut a s₁.heap h' ∧ ({ s with heap := s.heap.update a (Obj.mapSeq f) } : Shared) = { s₁ with heap := h' } ∧ OwnRep X.w B T' s₁.toks h' a (.list l) :=
  ⟨T, s, _, .refl _ _, Heap.SameBut.update .., rfl, .ofLst (hl.update f) (r.but fun b o hb e => (Heap.get?_update_other _ _ (by intro q; subst q; exact hb hB)).trans e)⟩
theorem meth_append : Meth "list" "append" "list.append" := ⟨F.plainAttrs_list, F.slot_list_append, F.type_list_append⟩
theorem meth_insert : Meth "list" "insert" "list.insert" := ⟨F.plainAttrs_list, F.slot_list_insert, F.type_list_insert⟩
theorem meth_extend : Meth "list" "extend" "list.extend" := ⟨F.plainAttrs_list, F.slot_list_extend, F.type_list_extend⟩
theorem mut_append {l : List AV} {x : AV} (hsz : l.length ≤ 16777216) : MutG "list.append" (.list l) [x] (.list (l ++ [x])) := fun X B T s a vals ok hq hB hBl hG hp r rl => by
  cases rl using RepL.cCons with
  | cons r₁ r₂ =>
    cases r₂ using RepL.cNil
    rename_i v
    refine x1a2 (r.lst) fun items hl ri => ?_
    refine x1a1 (hl.rec) fun n hrec => ?_
    have hlen : items.size = l.length := by simpa using ri.length
    refine wq_of (call_meets F.slot_list_append ⟨_, hrec, rfl⟩ F.entry_list_append (F.args_list_append_2 _ _) (list_append a items n v (by rw [sizeLine_eq]; (clear hp; lia))) ⟨hrec, ?_⟩)
    refine rep_turn (f := fun xs => xs.push v) hB hl ?_
    simpa using RepL.append ri (.cons r₁ .nil)
omit [Lo] in
noncomputable def insAt {α : Type} (k : Nat) (x : α) (l : List α) : List α := l.take k ++ x :: l.drop k
theorem mut_insert {l : List AV} {i : Int} {x : AV} (h0 : 0 ≤ i) (h1 : i ≤ l.length) (hsz : l.length ≤ 16777216) : MutG "list.insert" (.list l) [.int i, x] (.list (insAt i.toNat x l)) := fun X B T s a vals ok hq hB hBl hG hp r rl => by
  cases rl using RepL.cCons with
  | cons r₀ r₁ =>
    cases r₁ using RepL.cCons with
    | cons r₁ r₂ =>
      cases r₂ using RepL.cNil; cases r₀
      rename_i v t
      refine x1a2 (r.lst) fun items hl ri => ?_
      refine x1a1 (hl.rec) fun n hrec => ?_
      have hlen : items.size = l.length := by simpa using ri.length
      refine wq_of (call_meets F.slot_list_insert ⟨_, hrec, rfl⟩ F.entry_list_insert (F.args_list_insert_3 _ _ _) (AutoSeq1.list_insert_list_int_val_1 a items n i t v (by rw [fitsIndex_of h0 (by (clear hlen hp; lia))]; decide) (by rw [sizeLine_eq]; (clear hp h0; lia))) ⟨hrec, ?_⟩)
      refine rep_turn hB hl ?_
      have hk : ¬ i < 0 := by (clear hlen hp hsz h1; lia)
      have hm : min i.toNat items.size = i.toNat := by (clear hp hsz; lia)
      simp only [hk, if_false, hm]
      have : ((items.extract 0 i.toNat).push v ++ items.extract i.toNat).toList = insAt i.toNat v items.toList := by
        unfold insAt
        simp only [Array.toList_append, Array.toList_push, Array.toList_extract, List.extract_eq_take_drop]
        simp
        exact List.take_of_length_le (by simp)
      rw [this]
      exact RepL.append (ri.take _) (.cons r₁ (ri.drop _))
noncomputable def SetG (av k x av' : AV) : Prop := ∀ (X : Cx) (B : Addr → Prop) (T : Tx) (s : Shared) (a : Addr) (kv v : Value), X.Ok → B a → (∀ b, B b → b < s.heap.objs.size) → X.G.In s.heap → 0 < s.toks →
  OwnRep X.w B T s.toks s.heap a av → Rep X.w B T s.toks s.heap kv k → Rep X.w B T s.toks s.heap v x →
  wpAny X.M X.A (setItem (.ref a) kv v) (fun _ => PM X B T s a av') noE s
theorem Ex.setitem {X : Cx} {σ : Sto} {Q : Post} {x : Str} {a : Addr} {av av' k y : AV} {p p' pos : Pos} {ie e : Expr} {rest : List Stmt} (hx : σ.get x = some ⟨some a, av⟩) (hk : Ev X ie σ k) (hv : Ev X e σ y) (hm : SetG av k y av') (kk : Ex X rest (σ.updO x a av') Q)
    (hd : autoParam ((x == ("__debug__" : Str)) = false) byDec) (hcl : autoParam ((x == ("__classdict__" : Str)) = false) byDec)
    (hsl : autoParam (∀ v ov iv, (match ie with | .Slice _ _ none _ => [iv, v, ov] | _ => [v, ov, iv]) = ([v, ov, iv] : List Value)) byI3)
    (hs : autoParam (swapsWith e (some (.Subscript (.Name x p) ie p')) pos.line X.env = pure false) byRfl) :
    Ex X (.Assign [.Subscript (.Name x p) ie p'] e pos :: rest) σ Q := .cons fun T s S => by
  rw [exec_Assign_Subscript _ _ _ _ _ hs]
  refine wq_bind (wq_standAt (wq_bind (hv.then S fun v T₁ s₁ l₁ S₁ rv => wq_bind ?_)))
  rw [assign_Subscript]
  refine wq_bind (wq_holding (S₁.load_own hx (fun r => ?_) hd hcl))
  refine wq_bind (wq_holding (hk.then S₁ fun kv T₂ s₂ l₂ S₂ rk => wq_bind (wq_standAt (wq_bind (wq_holding ?_)))))
  have hban : X.ban σ a := .inr (.inr (.inr ⟨x, av, hx⟩))
  refine wq_mono (wq_of (hm X (X.ban σ) T₂ s₂ a kv v S₂.ok hban (fun b q => S₂.ban_lt q) S₂.pg S₂.pos (r.mono l₂.toks l₂.tx l₂.ext fun _ q => .inl q) rk (rv.le l₂))) (fun _ s'' t_0 => x3a4 t_0 fun T₃ s₃ h₃ l₃ hsb e₃ r₃ => ?_) fun _ _ x => x.elim
  subst e₃
  have S₃ := S₂.le_mono l₃
  refine wq_release (wq_pure ?_)
  refine ⟨T₃, .next, _, ⟨S₃.turn hx hsb r₃, ((l₁.trans (l₂.trans l₃)).leB _).trans (LeB.turn (k := s₃.toks) hsb hban (Nat.le_refl _)) fun _ _ q => q, fun b hb q => ?_⟩, rfl, kk⟩
  rcases Cx.ban_updO q with q | q
  · exact q
  · exact q ▸ hban
omit [Lo] in
inductive RepE (W : World) (B : Addr → Prop) (T : Tx) (n : Nat) (h : Heap) : List DictEntry → List (List Nat × AV) → Prop where
  | nil : RepE W B T n h [] []
  | cons {e : DictEntry} {p : List Nat × AV} {es : List DictEntry} {l : List (List Nat × AV)} : StrAt T n e.key p.1 → Rep W B T n h e.val p.2 → RepE W B T n h es l → RepE W B T n h (e :: es) (p :: l)
theorem RepE.length {B : Addr → Prop} {T : Tx} {n : Nat} {h : Heap} {es : List DictEntry} {l : List (List Nat × AV)} (r : RepE W B T n h es l) : es.length = l.length := by
  induction r with
  | nil => rfl
  | cons _ _ _ ih => simp [ih]
theorem RepE.of {B : Addr → Prop} {T : Tx} {n : Nat} {h : Heap} : ∀ {es : List DictEntry} {l : List (List Nat × AV)}, es.length = l.length →
    (∀ (i : Nat) (e : DictEntry) (x : List Nat × AV), es[i]? = some e → l[i]? = some x → StrAt T n e.key x.1) →
    (∀ (i : Nat) (e : DictEntry) (x : List Nat × AV), es[i]? = some e → l[i]? = some x → Rep W B T n h e.val x.2) → RepE W B T n h es l
  | [], [], _, _, _ => .nil
  | e :: es, x :: l, hl, hk, hv => .cons (hk 0 e x rfl rfl) (hv 0 e x rfl rfl) (RepE.of (by simpa using hl) (fun i e x h1 h2 => hk (i + 1) e x (by simpa using h1) (by simpa using h2)) fun i e x h1 h2 => hv (i + 1) e x (by simpa using h1) (by simpa using h2))
  | [], _ :: _, hl, _, _ => by simp at hl
  | _ :: _, [], hl, _, _ => by simp at hl
theorem RepE.key {B : Addr → Prop} {T : Tx} {n : Nat} {h : Heap} {es : List DictEntry} {l : List (List Nat × AV)} (r : RepE W B T n h es l) : ∀ (i : Nat) (e : DictEntry) (x : List Nat × AV), es[i]? = some e → l[i]? = some x → StrAt T n e.key x.1 := by
  induction r with
  | nil => intro i e x h; simp at h
  | cons hk hv _ ih =>
    intro i e x h1 h2
    cases i with
    | zero => simp at h1 h2; subst h1 h2; exact hk
    | succ i => exact ih i e x (by simpa using h1) (by simpa using h2)
theorem RepE.val {B : Addr → Prop} {T : Tx} {n : Nat} {h : Heap} {es : List DictEntry} {l : List (List Nat × AV)} (r : RepE W B T n h es l) : ∀ (i : Nat) (e : DictEntry) (x : List Nat × AV), es[i]? = some e → l[i]? = some x → Rep W B T n h e.val x.2 := by
  induction r with
  | nil => intro i e x h; simp at h
  | cons hk hv _ ih =>
    intro i e x h1 h2
    cases i with
    | zero => simp at h1 h2; subst h1 h2; exact hv
    | succ i => exact ih i e x (by simpa using h1) (by simpa using h2)
theorem RepE.mono {B B' : Addr → Prop} {T T' : Tx} {n n' : Nat} {h h' : Heap} {es : List DictEntry} {l : List (List Nat × AV)} (r : RepE W B T n h es l)
    (hn : n ≤ n') (ht : ∀ t, t < n → T' t = T t) (he : ∀ v x, Rep W B T n h v x → Rep W B' T' n' h' v x) : RepE W B' T' n' h' es l := by
  induction r with
  | nil => exact .nil
  | cons h1 h2 _ ih => exact .cons (h1.le hn ht) (he _ _ h2) ih
theorem OwnRep.dct {B : Addr → Prop} {T : Tx} {n : Nat} {h : Heap} {a : Addr} {l : List (List Nat × AV)} (r : OwnRep W B T n h a (.dict l)) : ∃ es : Array DictEntry, IsDictAt W h a es ∧ RepE W B T n h es.toList l := by
  cases r with
  | @dict es _ hl hs hk hi => exact ⟨es, hl, RepE.of (by simpa using hs) (fun i e x h1 h2 => hk i e x (by simpa using h1) h2) fun i e x h1 h2 => hi i e x (by simpa using h1) h2⟩
theorem OwnRep.ofDct {B : Addr → Prop} {T : Tx} {n : Nat} {h : Heap} {a : Addr} {l : List (List Nat × AV)} {es : Array DictEntry} (hl : IsDictAt W h a es) (r : RepE W B T n h es.toList l) : OwnRep W B T n h a (.dict l) :=
  .dict hl (by simpa using r.length) (fun i e x h1 h2 => r.key i e x (by simpa using h1) h2) fun i e x h1 h2 => r.val i e x (by simpa using h1) h2
end Mine
namespace Mine
open PySem PySem.W PyProof.Rows
variable [Lo]
variable {W : World}
omit [Lo] in
noncomputable def putL : List (List Nat × AV) → List Nat → AV → List (List Nat × AV)
  | [], k, x => [(k, x)]
  | p :: l, k, x => if p.1 = k then (k, x) :: l else p :: putL l k x
omit [Lo] in
noncomputable def putE (W : World) (x : Str) (key v : Value) : List DictEntry → List DictEntry
  | [] => [⟨hashStr W x, key, v⟩]
  | e :: es => if Value.isStrOf x e.key = true then { e with val := v } :: es else e :: putE W x key v es
theorem putE_none {x : Str} {key v : Value} : ∀ {es : List DictEntry}, (es.findIdx? fun e => Value.isStrOf x e.key) = none → putE W x key v es = es ++ [⟨hashStr W x, key, v⟩]
  | [], _ => rfl
  | e :: es, h => by
    rw [List.findIdx?_cons] at h
    unfold putE
    cases he : Value.isStrOf x e.key with
    | true => rw [he] at h; simp at h
    | false =>
      rw [he] at h
      simp only [Bool.false_eq_true, if_false, Option.map_eq_none_iff] at h ⊢
      rw [putE_none h]; rfl
theorem putE_some {x : Str} {key v : Value} : ∀ {es : List DictEntry} {i : Nat}, (es.findIdx? fun e => Value.isStrOf x e.key) = some i → putE W x key v es = es.modify i fun e => { e with val := v }
  | [], i, h => by simp at h
  | e :: es, i, h => by
    rw [List.findIdx?_cons] at h
    unfold putE
    cases he : Value.isStrOf x e.key with
    | true =>
      rw [he] at h
      simp only [if_true, Option.some.injEq] at h ⊢
      subst h; rfl
    | false =>
      rw [he] at h
      simp only [Bool.false_eq_true, if_false, Option.map_eq_some_iff] at h ⊢
      refine x1a2 h fun j hj e_0 => ?_; (try clear h); subst e_0
      rw [putE_some hj]; rfl
theorem putE_keys {x : Str} {t : Tok} {v : Value} : ∀ {es : List DictEntry}, (∀ e ∈ es, ∃ x t, e.key = .str x t ∧ e.hash = hashStr W x) →
    (∀ e ∈ putE W x (.str x t) v es, ∃ x t, e.key = .str x t ∧ e.hash = hashStr W x) ∧
    ((putE W x (.str x t) v es).map fun e => strOf e.key) = (es.map fun e => strOf e.key) ∨ (∀ e ∈ putE W x (.str x t) v es, ∃ x t, e.key = .str x t ∧ e.hash = hashStr W x) ∧
    ((putE W x (.str x t) v es).map fun e => strOf e.key) = (es.map fun e => strOf e.key) ++ [x] ∧ x ∉ (es.map fun e => strOf e.key)
  | [], _ => .inr ⟨fun e he => by
      obtain rfl : e = ⟨hashStr W x, .str x t, v⟩ := by simpa [putE] using he
      exact ⟨x, t, rfl, rfl⟩, rfl, by simp⟩
  | e :: es, h => by
    refine x2a2 (h e List.mem_cons_self) fun y u hy hh => ?_
    have ih := putE_keys (x := x) (t := t) (v := v) (es := es) fun e he => h e (List.mem_cons_of_mem _ he)
    unfold putE
    by_cases he : Value.isStrOf x e.key = true
    · rw [if_pos he]
      refine .inl ⟨fun e' he' => ?_, rfl⟩
      rcases List.mem_cons.mp he' with rfl | he'
      · exact ⟨y, u, hy, hh⟩
      · exact h e' (List.mem_cons_of_mem _ he')
    · rw [if_neg he]
      have hxy : x ≠ y := by
        intro q; subst q; rw [hy] at he; simp [Value.isStrOf] at he
      have hs : strOf e.key = y := by rw [hy]; rfl
      rcases ih with ⟨h1, h2⟩ | ⟨h1, h2, h3⟩
      · refine .inl ⟨fun e' he' => ?_, by rw [List.map_cons, List.map_cons, h2]⟩
        rcases List.mem_cons.mp he' with rfl | he'
        · exact ⟨y, u, hy, hh⟩
        · exact h1 e' he'
      · refine .inr ⟨fun e' he' => ?_, by rw [List.map_cons, List.map_cons, h2]; rfl, ?_⟩
        · rcases List.mem_cons.mp he' with rfl | he'
          · exact ⟨y, u, hy, hh⟩
          · exact h1 e' he'
        · rw [List.map_cons, List.mem_cons, hs]
          exact fun q => q.elim hxy h3
theorem keysOk_put {x : Str} {t : Tok} {v : Value} {es es' : Array DictEntry} (k : KeysOk W es) (h : es'.toList = putE W x (.str x t) v es.toList) : KeysOk W es' := by
  have h1 : ∀ e ∈ es.toList, ∃ x t, e.key = .str x t ∧ e.hash = hashStr W x := fun e he => k.1 e (Array.mem_toList_iff.mp he)
  unfold KeysOk
  rw [h]
  rcases putE_keys (x := x) (t := t) (v := v) h1 with ⟨h2, h3⟩ | ⟨h2, h3, h4⟩
  · exact ⟨fun e he => h2 e (h ▸ Array.mem_toList_iff.mpr he), by rw [h3]; exact k.2⟩
  · refine ⟨fun e he => h2 e (h ▸ Array.mem_toList_iff.mpr he), ?_⟩
    rw [h3, List.nodup_append]
    refine ⟨k.2, by simp, fun a ha b hb => ?_⟩
    simp at hb; subst hb
    exact fun q => h4 (q ▸ ha)
theorem repE_put {B : Addr → Prop} {T : Tx} {n : Nat} {h : Heap} {es : List DictEntry} {l : List (List Nat × AV)} (r : RepE W B T n h es l) {x : Str} {t : Tok} {v : Value} {y : AV} (hk : StrAt T n (.str x t) x.cps.toList) (hv : Rep W B T n h v y) :
    RepE W B T n h (putE W x (.str x t) v es) (putL l x.cps.toList y) := by
  induction r with
  | nil => exact .cons hk hv .nil
  | @cons e p es l h1 h2 h3 ih =>
    unfold putE putL
    refine x2a3 (h1.is) fun s u he hs ht => ?_
    by_cases q : s = x
    · subst q
      have h5 : p.1 = s.cps.toList := hs.symm
      rw [if_pos (by rw [he]; simp [Value.isStrOf]), if_pos h5]
      exact .cons (h5 ▸ h1) hv h3
    · have hne : ¬ p.1 = x.cps.toList := fun e => q (cps_inj (hs.trans e))
      rw [if_neg (by rw [he]; simpa [Value.isStrOf] using q), if_neg hne]
      exact .cons h1 h2 ih
section
variable {prog : Program} {w : World} {A : Around} {E : Value → Shared → Prop} {s : Shared}
theorem dictSetHashed_e {d : Addr} {x : Str} {t : Tok} {v : Value} {es : Array DictEntry} {Q : Unit → Shared → Prop} (hl : IsDictAt w s.heap d es) (hsz : es.size ≤ 16777216)
    (hQ : ∀ h' es', IsDictAt w h' d es' → es'.toList = putE w x (.str x t) v es.toList → Heap.SameBut d s.heap h' → Q () { s with heap := h' }) :
    wpAny (model prog w) A (dictSetHashed d (.str x t) (hashStr w x) v) Q E s := by
  refine x0a3 hl fun t_0 hm ky => ?_; (try clear hl); refine x1a5 t_0 fun o ho hc hdi hs t_1 => ?_; (try clear t_0); refine x1a1 t_1 fun ep hdat => ?_; (try clear t_1)
  have hk : KeysOf (strKind prog w) es := fun e he => by
    refine x2a2 (ky.1 e he) fun x t h1 h2 => ?_
    exact ⟨x, by show Value.isStrOf _ _ = true; simp [h1, Value.isStrOf], h2⟩
  have hkey : (strKind prog w).is x (.str x t) = true := by show Value.isStrOf x (.str x t) = true; simp [Value.isStrOf]
  have hex : o.ExactDict := ⟨hc, hdi, hs⟩
  unfold dictSetHashed
  try with_reducible refine wpAny_holding ?_
  refine wpAny_bind (wpAny_dictFind_of (knd := strKind prog w) hkey ho hdat hk ?_)
  have hl0 : (es.findIdx? fun e => (strKind prog w).is x e.key) = es.toList.findIdx? fun e => Value.isStrOf x e.key := by obtain ⟨l⟩ := es; simp; rfl
  cases hi : es.findIdx? fun e => (strKind prog w).is x e.key with
  | some i =>
    rw [hl0] at hi
    have h1 : (es.modify i fun e => { e with val := v }).toList = putE w x (.str x t) v es.toList := by rw [putE_some hi]; simp
    refine wpAny_bind (wpAny_rule (wpAny_bind (wpAny_updateDict ho hdat (wpAny_point (hQ _ (es.modify i fun e => { e with val := v }) ⟨⟨_, Heap.get?_update_self _ ho (Obj.isFreed_of_dict (Obj.data_mapDict hdat _)), ?_, ?_, ?_, ep, Obj.data_mapDict hdat _⟩, hm, keysOk_put ky h1⟩ h1 (Heap.SameBut.update ..))))))
    · exact (hex.mapDict _).1
    · exact (hex.mapDict _).2.1
    · exact (hex.mapDict _).2.2
  | none =>
    rw [hl0] at hi
    have h1 : (es.push ⟨hashStr w x, .str x t, v⟩).toList = putE w x (.str x t) v es.toList := by rw [putE_none hi]; simp
    refine wpAny_bind (wpAny_rule (wpAny_updateDictKeys (hz := by rw [sizeLine_eq]; exact hsz) ho hdat (hQ _ (es.push ⟨hashStr w x, .str x t, v⟩) ⟨⟨_, Heap.get?_update_self _ ho (Obj.isFreed_of_dict (Obj.data_mapDictKeys hdat _)), ?_, ?_, ?_, ep + 1, Obj.data_mapDictKeys hdat _⟩, hm, keysOk_put ky h1⟩ h1 (Heap.SameBut.update ..))))
    · exact (hex.mapDictKeys _).1
    · exact (hex.mapDictKeys _).2.1
    · exact (hex.mapDictKeys _).2.2
theorem dictSet_e {d : Addr} {x : Str} {t : Tok} {v : Value} {es : Array DictEntry} {Q : Unit → Shared → Prop} (hl : IsDictAt w s.heap d es) (hsz : es.size ≤ 16777216)
    (hQ : ∀ h' es', IsDictAt w h' d es' → es'.toList = putE w x (.str x t) v es.toList → Heap.SameBut d s.heap h' → Q () { s with heap := h', toks := s.toks + 1 }) :
    wpAny (model prog w) A (dictSet d (.str x t) v) Q E s := by
  unfold dictSet
  try with_reducible refine wpAny_holding ?_
  refine wpAny_bind (wpAny_pyHash_str ?_)
  exact dictSetHashed_e (s := { s with toks := s.toks + 1 }) hl hsz hQ
theorem setItem_dct {d : Addr} {x : Str} {t : Tok} {v : Value} {es : Array DictEntry} {Q : Unit → Shared → Prop} (hl : IsDictAt w s.heap d es) (hsz : es.size ≤ 16777216)
    (hQ : ∀ h' es', IsDictAt w h' d es' → es'.toList = putE w x (.str x t) v es.toList → Heap.SameBut d s.heap h' → Q () { s with heap := h', toks := s.toks + 1 }) :
    wpAny (model prog w) A (setItem (.ref d) (.str x t) v) Q E s := by
  have hT : s.TypeIs (.ref d) "dict" := by refine x0a2 hl fun t_0 _ => ?_; (try clear hl); refine x1a3 t_0 fun o ho hc _ => ?_; (try clear t_0); exact ⟨o, ho, hc⟩
  unfold setItem
  try with_reducible refine wpAny_holding ?_
  refine wpAny_bind (wpAny_sequenceKey hT (by decide) ?_)
  refine wpAny_bind (wpAny_callSpecial?_slot (name := Str.ofString "__setitem__") hT slot_dict_setitem
    (wpAny_call_entry slot_dict_setitem hT entry_dict_setitem ?_ (args_dict_setitem _ _ _)))
  show wpAny _ _ (Builtin.Dict.notOrdered "__setitem__" ⟨[.ref d, .str x t, v], []⟩ >>= _) _ _ s
  refine wpAny_bind (wpAny_notOrdered_dict hT ?_)
  show wpAny _ _ (dictSet d (.str x t) v >>= _) _ _ s
  exact wpAny_bind (dictSet_e hl hsz fun h' es' h1 h2 h3 => wpAny_pure ⟨.none, rfl, wpAny_pure (hQ h' es' h1 h2 h3)⟩)
end
theorem putL_length (l : List (List Nat × AV)) (k : List Nat) (x : AV) : (putL l k x).length ≤ l.length + 1 := by
  induction l with
  | nil => simp [putL]
  | cons p l ih => unfold putL; split <;> simp; omega
theorem set_dict {l : List (List Nat × AV)} {k : List Nat} {x : AV} (hsz : l.length ≤ 16777216) : SetG (.dict l) (.str k) x (.dict (putL l k x)) := fun X B T s a kv v ok hB hBl hG hp r rk rv => by
  refine x2a5 (rep_str_inv rk) fun y t e_0 hy h2 h3 h4 => ?_; subst e_0
  refine x1a2 (r.dct) fun es hl re => ?_
  subst hy
  refine setItem_dct hl (by have := re.length; simp at this; (clear hp; lia)) fun h' es' hl' he hs => ?_
  refine ⟨T, { s with toks := s.toks + 1 }, h', .tok (Nat.le_succ _), hs, rfl, .ofDct hl' ?_⟩
  rw [he]
  refine (repE_put re ⟨y, t, rfl, rfl, h2, h3, h4⟩ rv).mono (Nat.le_succ _) (fun _ _ => rfl) fun w z h => ?_
  exact (h.but fun b o hb e => (hs.2 b (fun q => hb (q ▸ hB))).trans e).mono (Nat.le_succ _) (fun _ _ => rfl) (.refl _) fun _ q => .inl q
end Mine
namespace Mine
open PySem PySem.W PyProof.Rows
variable [Lo]
variable {W : World}
omit [Lo] in
inductive RepP (W : World) (T : Tx) (n : Nat) (h : Heap) : List (Value × Value) → List (List Nat × AV) → Prop where
  | nil : RepP W T n h [] []
  | cons {k v : Value} {p : List Nat × AV} {vs : List (Value × Value)} {l : List (List Nat × AV)} : StrAt T n k p.1 → Rep W noBan T n h v p.2 → p.2.atom = true → RepP W T n h vs l → RepP W T n h ((k, v) :: vs) (p :: l)
section
variable {X : Cx} {σ : Sto}
noncomputable def EvK (X : Cx) (ps : List (Sem Value × Sem Value)) (σ : Sto) (l : List (List Nat × AV)) : Prop := ∀ T s, St X σ T s →
  wq X.M X.A (evalPairs ps) (fun vs s' => ∃ T', Le T s T' s' ∧ RepP X.w T' s'.toks s'.heap vs l) (fun _ _ => False) s
theorem EvK.nil : EvK X [] σ [] := fun T s S => wq_pure ⟨T, .refl _ _, .nil⟩
theorem EvK.cons {k v : Expr} {pos : Pos} {ps : List (Sem Value × Sem Value)} {a : List Nat} {x : AV} {l : List (List Nat × AV)} (h1 : Ev X k σ (.str a)) (h2 : Ev X v σ x) (h3 : EvK X ps σ l) (hx : autoParam (x.atom = true) byRfl) :
    EvK X ((eval k X.env, do let x ← eval v X.env; standAt pos; pure x) :: ps) σ ((a, x) :: l) := fun T s S => by
  rw [evalPairs]
  refine wq_bind (h1.then S fun kv T₁ s₁ l₁ S₁ r₁ => wq_bind (wq_holding (wq_bind (h2.then S₁ fun v T₂ s₂ l₂ S₂ r₂ => wq_bind (wq_standAt (wq_pure ?_))))))
  refine wq_bind (wq_holding (wq_mono (h3 T₂ s₂ S₂) (fun vs s₃ t_0 => x1a2 t_0 fun T₃ l₃ r₃ => wq_pure ?_) fun _ _ x => x))
  refine x2a2 (rep_str_inv r₁) fun y t e_0 hy => ?_; subst e_0
  exact ⟨T₃, l₁.trans (l₂.trans l₃), .cons (StrAt.le ⟨y, t, rfl, hy⟩ (l₂.trans l₃).toks (l₂.trans l₃).tx) (r₂.unban.le l₃) hx r₃⟩
theorem storeAll_e {prog : Program} {w : World} {A : Around} {E : Value → Shared → Prop} {d : Addr} {B : Addr → Prop} (hB : B d) : ∀ (vs : List (Value × Value)) (l acc : List (List Nat × AV)) (es : Array DictEntry) (T : Tx) (s : Shared) (Q : PUnit → Shared → Prop),
    RepP w T s.toks s.heap vs l → IsDictAt w s.heap d es → RepE w B T s.toks s.heap es.toList acc → acc.length + l.length ≤ 16777216 →
    (∀ h' k es', IsDictAt w h' d es' → RepE w B T k h' es'.toList (l.foldl (fun a p => putL a p.1 p.2) acc) → Heap.SameBut d s.heap h' → s.toks ≤ k → Q PUnit.unit { s with heap := h', toks := k }) →
    wpAny (model prog w) A (forIn vs PUnit.unit fun (x : Value × Value) (_ : PUnit) => (do dictSet d x.1 x.2; pure (ForInStep.yield PUnit.unit) : Sem (ForInStep PUnit))) Q E s
  | [] => fun l acc es T s Q r hm re _ hQ => by
    cases r
    rw [List.forIn_nil]
    exact wpAny_pure (hQ s.heap s.toks es hm re (Heap.SameBut.refl _ _) (Nat.le_refl _))
  | kv :: vs => fun l acc es T s Q r hm re hsz hQ => by
    cases r with
    | @cons k v p _ l hk hv hx r =>
    obtain ⟨a, x⟩ := p
    refine x2a5 (hk.is) fun y t e_0 hy h2 h3 h4 => ?_; subst e_0
    dsimp only at hy; subst hy
    rw [List.length_cons] at hsz
    rw [List.forIn_cons]
    refine wpAny_bind (wpAny_bind (dictSet_e hm (by have := re.length; simp at this; lia) fun h' es' hm' he hs => wpAny_pure ?_))
    have lift : ∀ v z, Rep w B T s.toks s.heap v z → Rep w B T (s.toks + 1) h' v z := fun v z h =>
      (h.but fun b o hb e => (hs.2 b (fun q => hb (q ▸ hB))).trans e).mono (Nat.le_succ _) (fun _ _ => rfl) (.refl _) fun _ q => .inl q
    refine storeAll_e hB vs l (putL acc y.cps.toList x) es' T { s with heap := h', toks := s.toks + 1 } Q ?_ hm' ?_ (by have := putL_length acc y.cps.toList x; lia) fun h2 k2 es2 a1 a2 a3 a4 => hQ h2 k2 es2 a1 a2 (hs.trans a3) (Nat.le_of_succ_le a4)
    · clear hQ hm re hm' he
      induction r with
      | nil => exact .nil
      | cons h1 h2 h3 _ ih =>
        refine .cons (h1.le (Nat.le_succ _) fun _ _ => rfl) ?_ h3 (ih (by simp at hsz; lia))
        have : Rep w B T s.toks s.heap _ _ := h2.reban h3
        exact (lift _ _ this).unban
    · rw [he]
      exact (repE_put re ⟨y, t, rfl, rfl, h2, h3, h4⟩ (hv.reban hx)).mono (Nat.le_succ _) (fun _ _ => rfl) lift
theorem isDictAt_new {h : Heap} {a : Addr} (hn : h.get? a = some { cls := .type "dict", data := .dict #[] }) (ha : 4 ≤ a) : IsDictAt W h a #[] :=
  ⟨⟨_, hn, rfl, rfl, rfl, 0, rfl⟩, by rw [beq_eq_false_iff_ne]; exact Nat.ne_of_gt (Nat.lt_of_lt_of_le (by decide : (1:Nat) < 4) ha), fun e he => by simp at he, by simp⟩
theorem StB.big {B : Addr → Prop} {T : Tx} {s : Shared} (S : StB B X σ T s) : 4 ≤ s.heap.objs.size := Nat.le_trans S.pg.big (Nat.le_trans S.ok.nb S.le.ext.1)
theorem EvN.dict0 {pos : Pos} : EvN X (.Dict [] [] pos) σ (.dict []) := fun T s S =>
  wq_of (wpAny_Dict_empty ⟨T, _, rfl, le_push _, Nat.le_refl _, .ofDct (isDictAt_new (Heap.get?_push_size _ rfl) S.big) .nil⟩)
theorem EvN.dict {keys : List (Option Expr)} {values : List Expr} {pos : Pos} {ps : List (Sem Value × Sem Value)} {l : List (List Nat × AV)} (h : EvK X ps σ l)
    (hshape : (evalEachOpt keys X.env).zip ((evalEach values X.env).map fun v => do let x ← v; standAt pos; pure x) = ps.map fun p => (some p.1, p.2)) (h0 : ps ≠ []) (hlen : ps.length ≤ 15) (hl : l.length ≤ 15) :
    EvN X (.Dict keys values pos) σ (.dict (l.foldl (fun a p => putL a p.1 p.2) [])) := fun T s S => by
  rw [arm_eval_Dict, hshape, dictDisplay_pairs ps h0 (by (clear hl; lia))]
  refine wq_bind (wq_standAt (wq_bind ?_))
  unfold subDict
  have S₁ := S.le_mono (le_push (T := T) (s := s) { cls := .type "dict", data := .dict #[] })
  have hd : (s.heap.push { cls := .type "dict", data := .dict #[] }).get? s.heap.objs.size = some { cls := .type "dict", data := .dict #[] } := Heap.get?_push_size _ rfl
  refine wq_bind (wq_of (wpAny_alloc (wq_bind (wq_holding ?_))))
  rw [if_pos hlen]
  refine wq_bind (wq_mono (h T _ S₁) (fun vs s₁ t_0 => x1a2 t_0 fun T₁ l₁ r₁ => ?_) fun _ _ x => x)
  have hd₁ : IsDictAt X.w s₁.heap s.heap.objs.size #[] := isDict_ext (isDictAt_new hd S.big) l₁.ext
  refine wq_holding (wq_bind (wq_of (storeAll_e (B := fun b => X.ban σ b ∨ b = s.heap.objs.size) (.inr rfl) vs l [] #[] T₁ s₁ _ r₁ hd₁ .nil (by simp; (clear hlen; lia)) fun h' k es' a1 a2 a3 a4 => ?_)))
  refine wq_pure (wq_pure (wq_pure ?_))
  refine ⟨T₁, s.heap.objs.size, rfl, ?_, Nat.le_refl _, .ofDct a1 a2⟩
  have l0 := (le_push (T := T) (s := s) { cls := .type "dict", data := .dict #[] }).trans l₁
  refine ⟨⟨Nat.le_trans l0.ext.1 (Nat.le_of_eq a3.1.symm), fun b o e => ?_⟩, Nat.le_trans l0.toks a4, l0.tx, l0.gens, l0.os⟩
  refine x1a1 (l0.ext.2 b o e) fun sl e' => ?_
  exact ⟨sl, (a3.2 b (Nat.ne_of_lt (Heap.lt_size e))).trans e'⟩
end
end Mine
namespace Mine
open PySem PySem.W PyProof.Rows
variable [Lo]
variable {W : World}
theorem strVals_of {B : Addr → Prop} {T : Tx} {n : Nat} {h : Heap} : ∀ {l : List (List Nat)} {vs : List Value}, vs.length = l.length →
    (∀ (i : Nat) (v : Value) (x : AV), vs[i]? = some v → (AV.strs l)[i]? = some x → Rep W B T n h v x) → ∃ q : List (Str × Tok), vs = strValues q ∧ q.map (·.1) = l.map fun x => ⟨x.toArray⟩
  | [], [], _, _ => ⟨[], rfl, rfl⟩
  | x :: l, v :: vs, hl, hi => by
    refine x2a3 (rep_str_inv (hi 0 v (.str x) rfl rfl)) fun y t e_0 hy _ => ?_; subst e_0
    refine x1a2 (strVals_of (l := l) (vs := vs) (by simpa using hl) fun i v x h1 h2 => hi (i + 1) v x (by simpa using h1) (by simpa [AV.strs] using h2)) fun q h1 h2 => ?_
    exact ⟨(y, t) :: q, by rw [h1]; rfl, by rw [List.map_cons, h2, List.map_cons, str_of hy]⟩
  | [], _ :: _, hl, _ => by simp at hl
  | _ :: _, [], hl, _ => by simp at hl
theorem join_flat : ∀ l : List (List Nat), (Str.join ⟨#[]⟩ (l.map fun x => ⟨x.toArray⟩)).cps.toList = l.flatten
  | [] => rfl
  | [x] => by simp [Str.join]
  | x :: y :: r => by
    have ih := join_flat (y :: r)
    show ((⟨x.toArray⟩ : Str) ++ ⟨#[]⟩ ++ Str.join ⟨#[]⟩ ((y :: r).map fun x => ⟨x.toArray⟩)).cps.toList = _
    rw [Str.cps_append, Array.toList_append, ih, Str.cps_append]
    simp
theorem call_join {l : List (List Nat)} (hs : l.flatten.length ≤ 16777216) : CallG (.builtin "str.join") [.str [], .list (AV.strs l)] (.str l.flatten) := fun X B T s vals ok hq hB hG hp r => by
  cases r using RepL.cCons with
  | cons r₁ r₂ =>
    cases r₂ using RepL.cCons with
    | cons r₂ r₃ =>
      cases r₃ using RepL.cNil
      refine x2a3 (rep_str_inv r₁) fun y t e_0 hy _ => ?_; subst e_0
      have := str_of hy
      subst this
      cases r₂ using Rep.cList with
      | @list a items _ hb hl hsz hi =>
        refine x1a2 (strVals_of (l := l) (vs := items.toList) (by simpa [AV.strs] using hsz) fun i v x h1 h2 => hi i v x (by simpa using h1) h2) fun q h1 h2 => ?_
        have hfit : Builtin.Str.tooLong ((q.map (·.1)).toArray.foldl (fun a p => a + p.length + (⟨#[]⟩ : Str).length) 0) = false := by
          rw [h2, StrLaws.joinTotal]
          unfold Builtin.Str.tooLong
          rw [sizeLine_eq, decide_eq_false]
          have : ((l.map fun x => (⟨x.toArray⟩ : Str)).map (·.length)).sum = l.flatten.length := by
            rw [List.map_map, List.length_flatten]
            congr 1
          rw [this]
          have : (⟨#[]⟩ : Str).length = 0 := rfl
          rw [this]; (clear hsz hp; lia)
        refine call_meets F.slot_str_join (typeIs_str _ _ _) F.entry_str_join (F.args_str_join_2 _ _) (meets_str_join_list _ t a q hfit) ⟨by rw [← h1]; simpa using hl.is, ?_⟩
        have hval : (Builtin.Str.glued ⟨#[]⟩ (q.map (·.1))).cps.toList = l.flatten := by
          rw [StrLaws.glued_eq_join, h2]; exact join_flat l
        match q, h1, h2, hval with
        | [], h1, h2, hval => exact post_str hp hval hs
        | [p], h1, h2, hval =>
          show ∃ T', Le T s T' s ∧ Rep X.w B T' s.toks s.heap (.str p.1 p.2) (.str l.flatten)
          have hi0 : items.toList[0]? = some (.str p.1 p.2) := by rw [h1]; rfl
          match l, h2, hi, hval with
          | [x], h2, hi, hval =>
            have := hi 0 _ (.str x) (by simpa using hi0) rfl
            exact ⟨T, .refl _ _, by simpa using this⟩
          | [], h2, hi, hval => simp at h2
          | _ :: _ :: _, h2, hi, hval => simp at h2
        | p :: p' :: q, h1, h2, hval => exact post_str hp hval hs
omit [Lo] in
noncomputable def findFrom (x y : List Nat) (i : Int) : Int := Txt.find3 ⟨x.toArray⟩ ⟨y.toArray⟩ i
theorem call_find3 {x y : List Nat} {i : Int} : CallG (.builtin "str.find") [.str x, .str y, .int i] (.int (findFrom x y i)) := fun X B T s vals ok hq hB hG hp r => by
  cases r using RepL.cCons with
  | cons r₁ r₂ =>
    cases r₂ using RepL.cCons with
    | cons r₂ r₃ =>
      cases r₃ using RepL.cCons with
      | cons r₃ r₄ =>
        cases r₄ using RepL.cNil; cases r₃ using Rep.cInt
        refine x2a3 (rep_str_inv r₁) fun a t e_0 ha _ => ?_; subst e_0
        refine x2a3 (rep_str_inv r₂) fun b u e_0 hb _ => ?_; subst e_0
        rw [str_of ha, str_of hb]
        exact SC.find3 (yl_int (Nat.le_succ _))
omit [Lo] in
noncomputable def findIn (x y : List Nat) : Int := Txt.find ⟨x.toArray⟩ ⟨y.toArray⟩
theorem call_find {x y : List Nat} : CallG (.builtin "str.find") [.str x, .str y] (.int (findIn x y)) := fun X B T s vals ok hq hB hG hp r => by
  cases r using RepL.cCons with
  | cons r₁ r₂ =>
    cases r₂ using RepL.cCons with
    | cons r₂ r₃ =>
      cases r₃ using RepL.cNil
      refine x2a3 (rep_str_inv r₁) fun a t e_0 ha _ => ?_; subst e_0
      refine x2a3 (rep_str_inv r₂) fun b u e_0 hb _ => ?_; subst e_0
      rw [str_of ha, str_of hb]
      exact call_gives F.slot_str_find (typeIs_str _ _ _) F.entry_str_find (F.args_str_find_2 _ _) (gives_str_find _ _ _ _) (yl_int (Nat.le_succ _))
omit [Lo] in
noncomputable def repl (x y z : List Nat) : List Nat := (Txt.replace ⟨x.toArray⟩ ⟨y.toArray⟩ ⟨z.toArray⟩).cps.toList
theorem call_replace {x y z : List Nat} (hyz : y ≠ z) (hs : x.length + (x.length + 1) * z.length ≤ 16777216) : CallG (.builtin "str.replace") [.str x, .str y, .str z] (.str (repl x y z)) := fun X B T s vals ok hq hB hG hp r => by
  cases r using RepL.cCons with
  | cons r₁ r₂ =>
    cases r₂ using RepL.cCons with
    | cons r₂ r₃ =>
      cases r₃ using RepL.cCons with
      | cons r₃ r₄ =>
        cases r₄ using RepL.cNil
        refine x2a4 (rep_str_inv r₁) fun a t e_0 ha hta _ => ?_; subst e_0
        refine x2a5 (rep_str_inv r₂) fun b u e_0 hb htb hu0 _ => ?_; subst e_0
        refine x2a5 (rep_str_inv r₃) fun c v e_0 hc htc hv0 _ => ?_; subst e_0
        have ea := str_of ha
        have eb := str_of hb
        have ec := str_of hc
        have huv : u ≠ v := fun q => hyz (by rw [← htb, ← htc, q])
        have hbc : (b == c) = false := by
          rw [beq_eq_false_iff_ne]; intro q; exact hyz (by rw [← hb, ← hc, q])
        have hal : a.length = x.length := by subst ha; simp [Str.length]
        have hcl : c.length = z.length := by subst hc; simp [Str.length]
        have hl : Builtin.Str.tooLong (a.length + (Builtin.Str.occurrences a b 0 a.length (a.length + 1)).length * c.length) = false := by
          have h1 := StrLaws.occ_length_le a b 0 a.length (a.length + 1)
          have h2 : (Builtin.Str.occurrences a b 0 a.length (a.length + 1)).length * c.length ≤ (a.length + 1) * c.length := Nat.mul_le_mul_right _ h1
          rw [hal, hcl] at h2
          unfold Builtin.Str.tooLong
          rw [sizeLine_eq]
          rw [hal, hcl]
          exact decide_eq_false (Nat.not_lt.mpr (Nat.le_trans (Nat.add_le_add_left h2 _) hs))
        refine call_gives F.slot_str_replace (typeIs_str _ _ _) F.entry_str_replace (F.args_str_replace_3 _ _ _)
          (gives_str_replace a b c t u v fun _ => ⟨by simp [Nat.ne_of_gt hu0, Nat.ne_of_gt hv0], by simp [huv], hbc, hl⟩) ?_
        have hval : repl x y z = (Txt.replace a b c).cps.toList := by rw [ea, eb, ec]; rfl
        have hb2 : a.length + (a.length + 1) * c.length ≤ 16777216 := by rw [hal, hcl]; exact hs
        unfold Txt.replace at hval
        cases hcs : ((Builtin.Str.occurrences a b 0 a.length (a.length + 1)).isEmpty || (b.length == 0 && c.length == 0))
        · rw [hcs] at hval
          simp only [Bool.false_eq_true, if_false] at hval ⊢
          have hf := fits_replaced b hb2
          rw [sizeLine_eq] at hf
          refine post_str hp hval.symm ?_
          rw [hval]
          simpa [Str.length] using hf
        · rw [hcs] at hval
          simp only [if_true] at hval ⊢
          rw [hval, ha]
          exact ⟨T, .refl _ _, r₁⟩
end Mine
namespace Mine
open PySem PySem.W PyProof.Rows
variable [Lo]
variable {W : World}
namespace FC
set_option maxRecDepth 100000
theorem slot_upper : Slot "bytes" "upper" "bytes.upper" :=
  .of (owner := "bytes") (n := "upper") (by rw [typeLookup_type, builtinLookup_eq_fast]; kernel_rfl) (by decide +kernel) (by decide +kernel) (by decide +kernel)
    (by first | exact .inl (by decide +kernel) | exact .inr (by decide +kernel)) (by rw [isSubtype_type]; kernel_rfl)
theorem type_upper : typeOf (.builtin "bytes.upper") = pure (.type "method_descriptor") := by show builtinType _ = _; rw [builtinType_eq_fast]; kernel_rfl
theorem entry_upper : entryFor table "bytes.upper" = some Builtin.«bytes.upper» := entryFor_of_tree (by kernel_rfl)
theorem args_upper (a : Value) : argsOk "bytes.upper" ⟨[a], []⟩ := by
  unfold argsOk; rw [signature?_of (id := "bytes.upper") (n := ['r', 'e', 'p', 'p', 'u']) (o := ['s', 'e', 't', 'y', 'b']) (by kernel_rfl) FB.owner_bytes]; kernel_rfl
theorem slot_rfind : Slot "bytes" "rfind" "bytes.rfind" :=
  .of (owner := "bytes") (n := "rfind") (by rw [typeLookup_type, builtinLookup_eq_fast]; kernel_rfl) (by decide +kernel) (by decide +kernel) (by decide +kernel)
    (by first | exact .inl (by decide +kernel) | exact .inr (by decide +kernel)) (by rw [isSubtype_type]; kernel_rfl)
theorem type_rfind : typeOf (.builtin "bytes.rfind") = pure (.type "method_descriptor") := by show builtinType _ = _; rw [builtinType_eq_fast]; kernel_rfl
theorem entry_rfind : entryFor table "bytes.rfind" = some Builtin.«bytes.rfind» := entryFor_of_tree (by kernel_rfl)
theorem args_rfind (a b : Value) : argsOk "bytes.rfind" ⟨[a, b], []⟩ := by
  unfold argsOk; rw [signature?_of (id := "bytes.rfind") (n := ['d', 'n', 'i', 'f', 'r']) (o := ['s', 'e', 't', 'y', 'b']) (by kernel_rfl) FB.owner_bytes]; kernel_rfl
theorem meth_upper : Meth "bytes" "upper" "bytes.upper" := ⟨FB.plainAttrs_bytes, slot_upper, type_upper⟩
theorem meth_rfind : Meth "bytes" "rfind" "bytes.rfind" := ⟨FB.plainAttrs_bytes, slot_rfind, type_rfind⟩
theorem meth_encode : Meth "str" "encode" "str.encode" := ⟨F.plainAttrs_str, F.slot_str_encode, F.type_str_encode⟩
theorem meth_join : Meth "str" "join" "str.join" := ⟨F.plainAttrs_str, F.slot_str_join, F.type_str_join⟩
theorem meth_find : Meth "str" "find" "str.find" := ⟨F.plainAttrs_str, F.slot_str_find, F.type_str_find⟩
theorem meth_replace : Meth "str" "replace" "str.replace" := ⟨F.plainAttrs_str, F.slot_str_replace, F.type_str_replace⟩
end FC
omit [Lo] in
noncomputable def upL (l : List Nat) : List Nat := l.map fun n => if 97 ≤ n ∧ n ≤ 122 then n - 32 else n
theorem upper_nat (c : UInt8) : (Builtin.Bytes.toUpper c).toNat = if 97 ≤ c.toNat ∧ c.toNat ≤ 122 then c.toNat - 32 else c.toNat := by
  unfold Builtin.Bytes.toUpper Builtin.Bytes.isLower
  by_cases h : 97 ≤ c.toNat ∧ c.toNat ≤ 122
  · have h1 : (decide (97 ≤ c) && decide (c ≤ 122)) = true := by
      simp only [UInt8.le_iff_toNat_le, Bool.and_eq_true, decide_eq_true_eq]; exact h
    rw [if_pos h1, if_pos h]
    refine UInt8.toNat_sub_of_le _ _ ?_
    rw [UInt8.le_iff_toNat_le]
    show 32 ≤ c.toNat
    lia
  · have h1 : ¬ (decide (97 ≤ c) && decide (c ≤ 122)) = true := by
      simp only [UInt8.le_iff_toNat_le, Bool.and_eq_true, decide_eq_true_eq]; exact h
    rw [if_neg h1, if_neg h]
theorem call_upper {l : List Nat} (hs : l.length ≤ 16777216) : CallG (.builtin "bytes.upper") [.bytes l] (.bytes (upL l)) := fun X B T s vals ok hq hB hG hp r => by
  cases r using RepL.cCons with
  | cons r₁ r₂ =>
    cases r₂ using RepL.cNil; cases r₁ using Rep.cBytes
    rename_i b t
    have hval : bnats (b.toList.map Builtin.Bytes.toUpper).toArray = upL (bnats b) := by
      unfold bnats upL
      simp only [List.map_map]
      exact List.map_congr_left fun c _ => upper_nat c
    refine call_gives FC.slot_upper (PySem.W.typeIs_bytes _ _ _) FC.entry_upper (FC.args_upper _) (m := .bytes (b.toList.map Builtin.Bytes.toUpper).toArray) (.of_wp fun M A E s Q hq => ?_) ?_
    · show wpAny M A (do ret (← mkBytes (b.toList.map Builtin.Bytes.toUpper).toArray)) _ E s
      exact wpAny_bind (wpAny_mkBytes (wpAny_pure ⟨_, rfl, hq.2⟩) hq.1)
    · rw [← hval]
      refine ⟨?_, T, .tok (Nat.le_succ _), .bytes _ _⟩
      rw [sizeLine_eq]
      simpa [bnats] using hs
omit [Lo] in
noncomputable def lastOf (l : List Nat) (c : Nat) : Int := match (List.range l.length).reverse.find? fun i => l[i]? == some c with
  | some i => i
  | none => -1
theorem extract_one (b : Array UInt8) (c : UInt8) (i : Nat) (hi : i < b.size) : (b.extract i (i + (#[c] : Array UInt8).size) == #[c]) = (b[i]? == some c) := by
  have : b.extract i (i + (#[c] : Array UInt8).size) = #[b[i]] := by
    apply Array.ext'
    simp only [Array.toList_extract, List.extract_eq_take_drop]
    have : i + (#[c] : Array UInt8).size - i = 1 := by simp
    rw [this, List.drop_eq_getElem_cons (by simpa using hi)]
    simp
  rw [this, Array.getElem?_eq_getElem hi]
  rw [Bool.eq_iff_iff, beq_iff_eq, beq_iff_eq]
  constructor
  · intro h; simpa using h
  · intro h; simpa using h
theorem find_congr {α : Type} {f g : α → Bool} : ∀ {l : List α}, (∀ i ∈ l, f i = g i) → l.find? f = l.find? g
  | [], _ => rfl
  | a :: l, h => by
    rw [List.find?_cons, List.find?_cons, h a List.mem_cons_self, find_congr fun i hi => h i (List.mem_cons_of_mem _ hi)]
theorem rep_bytes_inv {B : Addr → Prop} {T : Tx} {n : Nat} {h : Heap} {v : Value} {l : List Nat} (r : Rep W B T n h v (.bytes l)) : ∃ b t, v = .bytes b t ∧ bnats b = l := by
  generalize hy : AV.bytes l = y at r
  cases r with
  | bytes b t => cases hy; exact ⟨b, t, rfl, rfl⟩
  | _ => cases hy
theorem rfind_last (b : Array UInt8) (c : UInt8) (h1 : ¬ ((b.size : Int) - 0 < 1)) : (match Builtin.Bytes.rfind? b #[c] 0 b.size with | some i => (i : Int) | none => -1) = lastOf (bnats b) c.toNat := by
  unfold Builtin.Bytes.rfind? lastOf
  have e : b.size + 1 - (0 + (#[c] : Array UInt8).size) = (bnats b).length := by simp [bnats]
  rw [e]
  have e2 : (List.range (bnats b).length).map (· + 0) = List.range (bnats b).length := by simp
  rw [e2]
  have key : ((List.range (bnats b).length).reverse.find? fun i => b.extract i (i + (#[c] : Array UInt8).size) == #[c]) = (List.range (bnats b).length).reverse.find? fun i => (bnats b)[i]? == some c.toNat := by
    refine find_congr fun i hi => ?_
    have hi' : i < b.size := by
      rw [List.mem_reverse, List.mem_range] at hi
      simpa [bnats] using hi
    rw [extract_one b c i hi', Array.getElem?_eq_getElem hi']
    have : (bnats b)[i]? = some b[i].toNat := by simp [bnats, Array.getElem?_eq_getElem hi']
    rw [this, Bool.eq_iff_iff, beq_iff_eq, beq_iff_eq]
    constructor
    · intro h; (have h := Option.some.inj h; subst h); rfl
    · intro h
      have := Option.some.inj h
      rw [UInt8.toNat_inj.mp this]
  rw [key]
theorem wpAny_ret_mkInt' {M : Model} {A : Around} {E : Value → Shared → Prop} {s : Shared} {Q : Value → Shared → Prop} {i : Int} (hq : (Made.int i).post Q s) : wpAny M A (retInt i) (fun fin s' => ∃ v, fin = .done (.ret v) ∧ Q v s') E s := by
  unfold retInt
  exact wpAny_bind (wpAny_mkInt (wpAny_pure ⟨_, rfl, hq⟩))
theorem call_rfind {l : List Nat} {c : UInt8} : CallG (.builtin "bytes.rfind") [.bytes l, .bytes [c.toNat]] (.int (lastOf l c.toNat)) := fun X B T s vals ok hq hB hG hp r => by
  cases r using RepL.cCons with
  | cons r₁ r₂ =>
    cases r₂ using RepL.cCons with
    | cons r₂ r₃ =>
      cases r₃ using RepL.cNil
      refine x2a2 (rep_bytes_inv r₁) fun b t e_0 hb => ?_; subst e_0
      refine x2a2 (rep_bytes_inv r₂) fun d u e_0 hd => ?_; subst e_0
      have hd' : d = #[c] := by
        apply Array.ext'
        have : d.toList.map UInt8.toNat = [c].map UInt8.toNat := hd
        simpa using (List.map_inj_right fun x y h => UInt8.toNat_inj.mp h).mp this
      subst hd' hb
      refine call_gives FC.slot_rfind (PySem.W.typeIs_bytes _ _ _) FC.entry_rfind (FC.args_rfind _ _) (m := .int (lastOf (bnats b) c.toNat)) (.of_wp fun M A E s Q hq => ?_) (yl_int (Nat.le_succ _))
      unfold Builtin.«bytes.rfind» Builtin.Bytes.searchM Builtin.Bytes.searchArgs
      refine wpAny_bind (wpAny_bind (wpAny_of_eq (a := (.bytes b t, [.bytes #[c] u])) (by rfl) ?_))
      refine wpAny_bind (wpAny_of_eq (a := none) rfl (wpAny_bind (wpAny_of_eq (a := none) rfl ?_)))
      refine wpAny_bind (wpAny_of_eq (show Builtin.Bytes.buffer? _ (.bytes #[c] u) = pure (some #[c]) from KBy.buffer_eq) ?_)
      refine wpAny_bind (wpAny_pure (wpAny_bind (wpAny_of_eq (a := b) rfl ?_)))
      have hw : Builtin.Bytes.window b.size none none = ((0 : Int), (b.size : Int)) := by
        unfold Builtin.Bytes.window
        simp only [Option.getD_none]
        have h2 : ¬ ((b.size : Int) < 0) := by (clear hp; lia)
        simp [h2]
      rw [hw]
      refine wpAny_pure ?_
      have h1 : (#[c] : Array UInt8).size = 1 := rfl
      simp only [h1, Int.sub_zero]
      by_cases hs : (b.size : Int) < ((1 : Nat) : Int)
      · rw [if_pos hs]
        have h0 : b = #[] := by
          have : b.size = 0 := by (clear h1 hp; lia)
          exact Array.eq_empty_of_size_eq_zero this
        have e : lastOf (bnats b) c.toNat = -1 := by subst h0; rfl
        rw [e] at hq
        show wpAny M A (do rule _; retInt (-1)) _ E s
        exact wpAny_bind (wpAny_rule (wpAny_ret_mkInt' hq))
      · rw [if_neg hs]
        have e := rfind_last b c (by simp; (clear h1 hp; lia))
        show wpAny M A (match Builtin.Bytes.rfind? b #[c] (0 : Int).toNat (b.size : Int).toNat with | some i => retInt i | none => _) _ E s
        have e1 : (0 : Int).toNat = 0 := rfl
        have e2 : (b.size : Int).toNat = b.size := Int.toNat_natCast _
        rw [e1, e2]
        rw [← e] at hq
        cases hr : Builtin.Bytes.rfind? b #[c] 0 b.size with
        | some i => rw [hr] at hq; exact wpAny_ret_mkInt' hq
        | none => rw [hr] at hq; exact wpAny_bind (wpAny_rule (wpAny_ret_mkInt' hq))
end Mine
namespace Mine
open PySem PySem.W PyProof.Rows
variable [Lo]
variable {W : World}
open Builtin._codecs in
theorem encodeRoad_ascii (id : String) (self : Value) (x : Str) (errors : Option Str) : encodeRoad id self x (Str.ofString "ascii") errors = (do mkBytes (← encodeNarrow id asciiCodec errors self x)) := by
  first | rfl | (unfold encodeRoad; rfl) | (unfold encodeRoad; simp only []; rfl) | decide
omit [Lo] in
noncomputable def bytesOf (x : Str) : Array UInt8 := x.cps.map (·.toUInt8)
theorem loop_two {α : Type} {n : Nat} {s0 s1 : α} {f : Nat → α → Sem (ForInStep α)} (h0 : ∀ a, 0 < n → f a s0 = pure (.yield s1)) (h1 : ∀ a, f a s1 = pure (.done s1)) (h2 : n = 0 → s0 = s1) :
    forIn (List.range' 0 n) s0 f = pure s1 := by
  match n, h0, h2 with
  | 0, _, h2 => simp [h2]
  | 1, h0, _ => simp [List.range', h0 _ (Nat.succ_pos _)]
  | n + 2, h0, _ =>
    rw [List.range'_succ, List.range'_succ, List.forIn_cons, h0 _ (Nat.succ_pos _), pure_bind]
    show forIn ((0 + 1) :: List.range' (0 + 1 + 1) n) s1 f = pure s1
    rw [List.forIn_cons, h1]
    rfl
theorem foldl_ascii (l : List Nat) (acc : Array UInt8) : l.foldl (fun acc y => acc ++ (Builtin._codecs.asciiCodec.bytesOf y).toArray) acc = acc ++ (l.map (·.toUInt8)).toArray := by
  induction l generalizing acc with
  | nil => simp
  | cons c l ih =>
    rw [List.foldl_cons, ih]
    have : (Builtin._codecs.asciiCodec.bytesOf c) = [c.toUInt8] := rfl
    rw [this]
    simp
open Builtin._codecs in
theorem narrow_ascii (id : String) (self : Value) (x : Str) (hx : ∀ c ∈ x.cps, c < 128) (hs : x.cps.size ≤ 16777216) : encodeNarrow id asciiCodec none self x = pure (bytesOf x) := by
  unfold encodeNarrow
  simp only [Std.Legacy.Range.forIn_eq_forIn_range', Std.Legacy.Range.size, Nat.sub_zero, Nat.add_sub_cancel, Nat.div_one]
  rw [loop_two (s1 := (x.length, bytesOf x, ({} : Faults)))]
  · rfl
  · intro a hn
    have h1 : ¬ ((#[] : Array UInt8).size > sizeLine) := by simp
    have hsz : x.cps.size = x.length := rfl
    have h2 : x.cps[0]? = some (x.cps[0]'(by rw [hsz]; exact hn)) := Array.getElem?_eq_getElem _
    have hb : ∀ c ∈ x.cps, asciiCodec.bad c = false := fun c hc => decide_eq_false (Nat.not_le.mpr (hx c hc))
    have h3 : (!asciiCodec.bad (x.cps[0]'(by rw [hsz]; exact hn))) = true := by rw [hb _ (Array.getElem_mem _)]; rfl
    have h4 : Array.findIdx? asciiCodec.bad x.cps = none := by
      rw [Array.findIdx?_eq_none_iff]; exact hb
    rw [if_neg h1]
    simp only [h2, h3, if_true]
    have h5 : x.cps.extract 0 = x.cps := by simp
    simp only [Array.extract_size, h5, h4, Option.getD_none, Nat.zero_add]
    have h6 : Array.foldl (fun acc y => acc ++ (asciiCodec.bytesOf y).toArray) #[] x.cps = bytesOf x := by
      rw [← Array.foldl_toList, foldl_ascii]
      unfold bytesOf
      apply Array.ext'
      simp
    rw [h6]
    rfl
  · intro a
    have h1 : ¬ ((bytesOf x).size > sizeLine) := by
      rw [sizeLine_eq]; simp [bytesOf]; exact hs
    have h2 : x.cps[x.length]? = none := by simp [Str.length]
    rw [if_neg h1]
    simp only [h2]
  · intro h
    have : x.cps = #[] := Array.eq_empty_of_size_eq_zero h
    unfold bytesOf
    rw [this, h]; simp
theorem bytesOf_nats {x : Str} {l : List Nat} (hx : x.cps.toList = l) (h : ∀ c ∈ l, c < 128) : bnats (bytesOf x) = l := by
  subst hx
  unfold bnats bytesOf
  rw [Array.toList_map, List.map_map]
  have : ∀ l : List Nat, (∀ c ∈ l, c < 128) → l.map (UInt8.toNat ∘ fun x => x.toUInt8) = l := by
    intro l hl
    induction l with
    | nil => rfl
    | cons c l ih =>
      rw [List.map_cons, ih fun c hc => hl c (List.mem_cons_of_mem _ hc)]
      have := hl c List.mem_cons_self
      simp [Nat.toUInt8, Nat.mod_eq_of_lt (show c < 256 by lia)]
  exact this _ h
theorem call_encode {l : List Nat} (h : ∀ c ∈ l, c < 128) (hs : l.length ≤ 16777216) : CallG (.builtin "str.encode") [.str l, .str [97, 115, 99, 105, 105]] (.bytes l) := fun X B T s vals ok hq hB hG hp r => by
  cases r using RepL.cCons with
  | cons r₁ r₂ =>
    cases r₂ using RepL.cCons with
    | cons r₂ r₃ =>
      cases r₃ using RepL.cNil
      refine x2a3 (rep_str_inv r₁) fun x t e_0 hx _ => ?_; subst e_0
      refine x2a3 (rep_str_inv r₂) fun y u e_0 hy _ => ?_; subst e_0
      have hy' : y = Str.ofString "ascii" := cps_inj hy
      subst hy'
      refine call_gives F.slot_str_encode (typeIs_str _ _ _) F.entry_str_encode (F.args_str_encode_2 _ _) (m := .bytes (bytesOf x)) (.of_wp fun M A E s Q hq => ?_) ?_
      · unfold Builtin.«str.encode»
        refine wpAny_bind (wpAny_of_eq (a := (.str x t, x, [.str (Str.ofString "ascii") u])) rfl ?_)
        refine wpAny_bind (wpAny_of_eq (a := [some (.str (Str.ofString "ascii") u), none]) (by kernel_rfl) ?_)
        refine wpAny_bind (wpAny_of_eq (a := some (Str.ofString "ascii")) (by kernel_rfl) ?_)
        refine wpAny_bind (wpAny_of_eq (a := none) rfl ?_)
        rw [show (some (Str.ofString "ascii")).getD (Str.ofString "utf-8") = Str.ofString "ascii" from rfl, encodeRoad_ascii, narrow_ascii _ _ _ (fun c hc => h c (hx ▸ Array.mem_toList_iff.mpr hc)) (by subst hx; simpa using hs)]
        refine wpAny_bind (wpAny_bind (wpAny_pure (wpAny_mkBytes (wpAny_pure ⟨_, rfl, hq.2⟩) hq.1)))
      · have hb := bytesOf_nats hx h
        rw [← hb]
        refine ⟨?_, T, .tok (Nat.le_succ _), .bytes _ _⟩
        rw [sizeLine_eq, ← bnats_size, hb]
        exact hs
end Mine
namespace Mine
open PySem PySem.W PyProof.Rows
variable [Lo]
variable {W : World}
namespace FU
set_option maxRecDepth 100000
theorem notType : (Value.type "UnicodeDecodeError" == Value.type "type") = false := by decide +kernel
theorem canNew : (((Manifest.find? "UnicodeDecodeError").bind (·.mro.findSome? fun (t : String) => (Manifest.find? t).bind fun b => if b.noNew then some true else if b.attrs.any (·.1 == "__new__") then some false else none)).getD false) = false := by decide +kernel
theorem typeCall (rest : List Value) : checkTypeCall "UnicodeDecodeError" ⟨rest, []⟩ = pure () := by kernel_rfl
theorem mroFast : (fastBuiltinMro "UnicodeDecodeError").map (·.isEmpty) = some false := by kernel_rfl
theorem mro : ∃ l, mroOf (.type "UnicodeDecodeError") = pure l ∧ l.isEmpty = false := by
  have h := mroFast
  rw [mroOf_type]
  cases hm : fastBuiltinMro "UnicodeDecodeError" with
  | none => rw [hm] at h; cases h
  | some l => rw [hm] at h; exact ⟨l, rfl, by simpa using h⟩
theorem madeBy : Bind.madeBy (.type "UnicodeDecodeError") = pure (some "UnicodeDecodeError.__new__") := by kernel_rfl
theorem newCheck (rest : List Value) : checkBuiltinCall "UnicodeDecodeError.__new__" ⟨.type "UnicodeDecodeError" :: rest, []⟩ = pure () := by kernel_rfl
theorem newEntry : entryFor table "UnicodeDecodeError.__new__" = some Builtin.«BaseException.__new__» := entryFor_alias (id' := "BaseException.__new__") (by kernel_rfl) (by first | rfl | (unfold String.splitOn; simp +decide [String.splitOnAux])) (by decide +kernel) (by kernel_rfl)
theorem newPlain : plainId "UnicodeDecodeError.__new__" = true := by decide +kernel
theorem newEnds : ("UnicodeDecodeError.__new__" : String).endsWith ".__new__" = true := by decide +kernel
theorem subOwner : isSubtype (.type "UnicodeDecodeError") (.type (("UnicodeDecodeError.__new__" : String).dropRight 8)) = pure true := by rw [isSubtype_type]; kernel_rfl
theorem madeHere : Bind.madeHere "BaseException.__new__" (.type "UnicodeDecodeError") = pure () := by kernel_rfl
theorem notAttr : isSubtype (.type "UnicodeDecodeError") (.type "AttributeError") = pure false := by rw [isSubtype_type]; kernel_rfl
theorem notName : isSubtype (.type "UnicodeDecodeError") (.type "NameError") = pure false := by rw [isSubtype_type]; kernel_rfl
theorem self : isSubtype (.type "UnicodeDecodeError") (.type "UnicodeDecodeError") = pure true := by rw [isSubtype_type]; kernel_rfl
theorem base : isSubtype (.type "UnicodeDecodeError") (.type "BaseException") = pure true := by rw [isSubtype_type]; kernel_rfl
theorem owner : Manifest.owners.lookup (String.ofList ['r', 'o', 'r', 'r', 'E', 'e', 'd', 'o', 'c', 'e', 'D', 'e', 'd', 'o', 'c', 'i', 'n', 'U'].reverse) = some Manifest.sig_UnicodeDecodeError := by kernel_rfl
theorem slot_init : Slot "UnicodeDecodeError" "__init__" "UnicodeDecodeError.__init__" :=
  .of (owner := "UnicodeDecodeError") (n := "__init__") (by rw [typeLookup_type, builtinLookup_eq_fast]; kernel_rfl) (by decide +kernel) (by decide +kernel) (by decide +kernel)
    (by first | exact .inl (by decide +kernel) | exact .inr (by decide +kernel)) (by rw [isSubtype_type]; kernel_rfl)
theorem entry_init : entryFor table "UnicodeDecodeError.__init__" = some Builtin.«UnicodeDecodeError.__init__» := entryFor_of_tree (by kernel_rfl)
theorem args_init (a b c d e f : Value) : argsOk "UnicodeDecodeError.__init__" ⟨[a, b, c, d, e, f], []⟩ := by
  unfold argsOk; rw [signature?_of (id := "UnicodeDecodeError.__init__") (n := ['_', '_', 't', 'i', 'n', 'i', '_', '_']) (o := ['r', 'o', 'r', 'r', 'E', 'e', 'd', 'o', 'c', 'e', 'D', 'e', 'd', 'o', 'c', 'i', 'n', 'U']) (by kernel_rfl) owner]; kernel_rfl
end FU
theorem new_ude {prog : Program} {w : World} {A : Around} {E : Value → Shared → Prop} {s : Shared} {rest : List Value} {Q : Value → Shared → Prop}
    (h : Q (.ref (s.heap.push { cls := .type "tuple", data := .seq rest.toArray }).objs.size) { s with heap := (s.heap.push { cls := .type "tuple", data := .seq rest.toArray }).push { cls := .type "UnicodeDecodeError", data := .fields #[.ref s.heap.objs.size, .none, .none, .none, .bool false, .none] } }) (hrest : rest.length ≤ sizeLine) :
    wpAny (model prog w) A (call (.builtin "UnicodeDecodeError.__new__") (.type "UnicodeDecodeError" :: rest)) Q E s := by
  refine PyProof.Rows.call_builtin_at FU.newPlain FU.newEntry (FU.newCheck rest) ?_
  unfold Builtin.«BaseException.__new__»
  refine PyProof.Rows.wpAt_bind (PyProof.Rows.wpAt_owner rfl FU.newEnds (PyProof.Rows.wpAt_of_any ?_))
  dsimp only
  refine wpAny_bind (m := isType _) (wpAny_of_eq (a := true) rfl ?_)
  simp only [Bool.not_true, Bool.false_eq_true, if_false]
  refine wpAny_bind (wpAny_of_eq FU.subOwner ?_)
  simp only [Bool.not_true, Bool.false_eq_true, if_false]
  refine wpAny_bind (wpAny_of_eq FU.madeHere ?_)
  refine wpAny_bind (wpAny_of_eq (a := 0) ?own ?_)
  case own =>
    show (do
      if ← isSubtype (.type "UnicodeDecodeError") (.type "AttributeError") then return 2
      if ← isSubtype (.type "UnicodeDecodeError") (.type "NameError") then return 1
      return 0 : Sem Nat) = pure 0
    simp only [FU.notAttr, FU.notName, pure_bind, Bool.false_eq_true, if_false]
  unfold newTuple
  refine wpAny_bind (wpAny_newObj_type (wpAny_bind (wpAny_newObj_type (wpAny_pure ⟨_, rfl, ?_⟩) (by size_fits))) (by show rest.toArray.size ≤ sizeLine; rw [List.size_toArray]; exact hrest))
  first
    | exact h
    | simpa using h
open Builtin.UnicodeEncodeError in
omit [Lo] in
noncomputable def mArr (m : Members) : Array Value := #[m.encoding, m.object, rawInt m.start, rawInt m.stop, m.reason]
omit [Lo] in
noncomputable def IsX (h : Heap) (e : Addr) (vs : Array Value) : Prop := ∃ o, h.get? e = some o ∧ o.cls = .type "UnicodeDecodeError" ∧ o.dict = none ∧ o.data = .fields vs
section
variable {M : Model} {A : Around} {E : Value → Shared → Prop} {s : Shared} {e : Addr} {vs : Array Value}
open Builtin.UnicodeEncodeError
theorem isX_update (x : IsX s.heap e vs) (f : Array Value → Array Value) : IsX (s.heap.update e (Obj.mapFields f)) e (f vs) := by
  refine x1a4 x fun o ho hc hd hdat => ?_; (try clear x)
  refine ⟨_, Heap.get?_update_self _ ho (Obj.isFreed_of_fields (Obj.data_mapFields hdat _)), by rw [Obj.cls_mapFields]; exact hc, ?_, Obj.data_mapFields hdat _⟩
  obtain ⟨c0, d0, dt0, sl0⟩ := o; dsimp only at hdat hd; subst hdat; exact hd
theorem setM {m : Members} {Q : Unit → Shared → Prop} (x : IsX s.heap e vs) (h6 : 6 ≤ vs.size) (h : ∀ h', IsX h' e (vs.extract 0 6 ++ mArr m) → Heap.SameBut e s.heap h' → Q () { s with heap := h' }) : wpAny M A (setMembers (.ref e) m) Q E s := by
  have hx := isX_update x fun vs => vs.extract 0 6 ++ mArr m
  refine x1a4 x fun o ho hc hd hdat => ?_; (try clear x)
  unfold setMembers
  exact wpAny_updateFields ho hdat (h _ hx (Heap.SameBut.update ..)) (by simp [mArr, sizeLine_eq]; lia)
theorem getM {m : Members} {b : Array Value} {Q : Members → Shared → Prop} (x : IsX s.heap e (b ++ mArr m)) (hb : b.size = 6) (h : Q m s) : wpAny M A (members (.ref e)) Q E s := by
  refine x1a4 x fun o ho hc hd hdat => ?_; (try clear x)
  unfold members
  refine wpAny_bind (wpAny_fieldsOf ho hdat ?_)
  have : ((b ++ mArr m).extract 6).toList = (mArr m).toList := by
    rw [← hb]; simp
  rw [this]
  exact wpAny_pure h
theorem setM0 {m : Members} {Q : Unit → Shared → Prop} (x : IsX s.heap e vs) (h6 : vs.size = 6) (h : ∀ h', IsX h' e (vs ++ mArr m) → Heap.SameBut e s.heap h' → Q () { s with heap := h' }) : wpAny M A (setMembers (.ref e) m) Q E s :=
  setM x (by omega) fun h' x' hs => h h' (by have : vs.extract 0 6 = vs := by rw [← h6]; simp
                                             rwa [this] at x') hs
theorem setM1 {m m' : Members} {b : Array Value} {Q : Unit → Shared → Prop} (x : IsX s.heap e (b ++ mArr m')) (hb : b.size = 6) (h : ∀ h', IsX h' e (b ++ mArr m) → Heap.SameBut e s.heap h' → Q () { s with heap := h' }) : wpAny M A (setMembers (.ref e) m) Q E s :=
  setM x (by simp [hb]) fun h' x' hs => h h' (by have : (b ++ mArr m').extract 0 6 = b := by rw [← hb]; simp
                                                 rwa [this] at x') hs
theorem setF {i : Nat} {v : Value} {Q : Unit → Shared → Prop} (x : IsX s.heap e vs) (hi : i < vs.size) (h : ∀ h', IsX h' e (vs.setIfInBounds i v) → Heap.SameBut e s.heap h' → Q () { s with heap := h' }) : wpAny M A (setField (.ref e) i v) Q E s := by
  have hx := isX_update x fun vs => vs.setIfInBounds i v
  refine x1a4 x fun o ho hc hd hdat => ?_; (try clear x)
  exact wpAny_setField ho hdat hi (h _ hx (Heap.SameBut.update ..))
theorem getM0 {Q : Members → Shared → Prop} (x : IsX s.heap e vs) (hb : vs.size = 6) (h : Q {} s) : wpAny M A (members (.ref e)) Q E s := by
  refine x1a4 x fun o ho hc hd hdat => ?_; (try clear x)
  unfold members
  refine wpAny_bind (wpAny_fieldsOf ho hdat ?_)
  have : (vs.extract 6).toList = [] := by simp [hb]
  rw [this]
  exact wpAny_pure h
end
section
variable {prog : Program} {w : World} {A : Around} {E : Value → Shared → Prop} {s : Shared}
open Builtin.UnicodeEncodeError
omit [Lo] in
noncomputable def udeVs (tup : Value) (enc obj : Value) (i j : Int) (rea : Value) : Array Value := #[tup, .none, .none, .none, .bool false, .none, enc, obj, rawInt i, rawInt j, rea]
theorem init_ude {e t0 : Addr} {en re : Str} {te tr ti tj tb : Tok} {b : Array UInt8} {i j : Int} {Q : Value → Shared → Prop} (x : IsX s.heap e #[.ref t0, .none, .none, .none, .bool false, .none])
    (hi : -(2 ^ 63 : Int) ≤ i ∧ i < 2 ^ 63) (hj : -(2 ^ 63 : Int) ≤ j ∧ j < 2 ^ 63)
    (h : ∀ h', IsX h' e (udeVs (.ref s.heap.objs.size) (.str en te) (.bytes b tb) i j (.str re tr)) → s.heap.objs.size ≤ h'.objs.size → (∀ c o, c ≠ e → s.heap.get? c = some o → h'.get? c = some o) → Q .none { s with heap := h' }) :
    wpAny (model prog w) A (call (.builtin "UnicodeDecodeError.__init__") [.ref e, .str en te, .bytes b tb, .int i ti, .int j tj, .str re tr]) Q E s := by
  refine x1a4 (id x) fun o ho hc hd hdat => ?_
  refine wpAny_call (codeAny_call_builtin FU.slot_init.plain FU.entry_init (FU.slot_init.check _ _ _ _ _ _ _ _ ⟨o, ho, hc⟩ (FU.args_init _ _ _ _ _ _) ?_))
  unfold Builtin.«UnicodeDecodeError.__init__» beginInit
  refine wpAny_bind (wpAny_bind ?_)
  refine wpAny_field ho hdat rfl ?_
  unfold newTuple
  refine wpAny_bind (wpAny_newObj_type ?_ (by size_fits))
  have x1 : IsX (s.heap.push { cls := .type "tuple", data := .seq [Value.str en te, .bytes b tb, .int i ti, .int j tj, .str re tr].toArray }) e #[.ref t0, .none, .none, .none, .bool false, .none] :=
    ⟨o, Heap.get?_push_of_some _ ho, hc, hd, hdat⟩
  refine wpAny_bind (setF x1 (by simp) fun h2 x2 s2 => wpAny_bind (wpAny_letGo ?_))
  refine bm_if_true rfl ?_
  refine wpAny_bind (getM0 x2 rfl ?_)
  refine wpAny_bind (setM0 x2 rfl fun h3 x3 s3 => wpAny_bind (wpAny_letGo ?_))
  refine wpAny_bind (getM x3 rfl ?_)
  refine wpAny_bind (setM1 x3 rfl fun h4 x4 s4 => wpAny_bind (wpAny_letGo ?_))
  refine wpAny_bind (getM x4 rfl ?_)
  refine wpAny_bind (setM1 x4 rfl fun h5 x5 s5 => wpAny_bind (wpAny_letGo ?_))
  refine bm_if_false rfl ?_
  refine wpAny_pure ?_
  refine wpAny_bind (wpAny_of_eq (a := ()) rfl ?_)
  have hsi : ∀ (k : Int) (t : Tok), -(2 ^ 63 : Int) ≤ k ∧ k < 2 ^ 63 → sizeArgument "UnicodeDecodeError.__init__" (.int k t) = pure k := fun k t hk => by
    unfold sizeArgument
    rw [asIndex_int]
    have : ¬ (decide (k < -(2 ^ 63 : Int)) || decide (k ≥ 2 ^ 63)) = true := by simp; omega
    simp only [pure_bind, this]
    rfl
  unfold initRange
  refine wpAny_bind (wpAny_bind (wpAny_of_eq (hsi i ti hi) ?_))
  refine wpAny_bind (getM x5 rfl ?_)
  refine wpAny_bind (setM1 x5 rfl fun h6 x6 s6 => ?_)
  refine wpAny_bind (wpAny_of_eq (hsi j tj hj) ?_)
  refine wpAny_bind (getM x6 rfl ?_)
  refine setM1 x6 rfl fun h7 x7 s7 => ?_
  refine wpAny_bind (wpAny_of_eq (a := ()) rfl ?_)
  refine wpAny_bind (wpAny_of_eq (a := some b) rfl ?_)
  refine bm_if_true rfl ?_
  refine wpAny_bind (wpAny_pure ?_)
  refine bm_if_true rfl ?_
  refine wpAny_bind (wpAny_pure ?_)
  refine bm_if_false rfl ?_
  refine wpAny_bind (getM x7 rfl ?_)
  refine wpAny_bind (setM1 x7 rfl fun h8 x8 s8 => ?_)
  refine wpAny_pure (h h8 ?_ ?_ ?_)
  · exact x8
  · have e8 := s8.1; have e7 := s7.1; have e6 := s6.1; have e5 := s5.1; have e4 := s4.1; have e3 := s3.1; have e2 := s2.1
    dsimp only at e2 e3 e4 e5 e6 e7 e8
    rw [Heap.size_push] at e2
    omega
  · intro c o' hc ho'
    rw [s8.2 c hc]; show h7.get? c = _
    rw [s7.2 c hc]; show h6.get? c = _
    rw [s6.2 c hc]; show h5.get? c = _
    rw [s5.2 c hc]; show h4.get? c = _
    rw [s4.2 c hc]; show h3.get? c = _
    rw [s3.2 c hc]; show h2.get? c = _
    rw [s2.2 c hc]
    exact Heap.get?_push_of_some _ ho'
set_option maxRecDepth 100000 in
theorem call_ude {en re : Str} {te tr ti tj tb : Tok} {b : Array UInt8} {i j : Int} {Q : Value → Shared → Prop}
    (hi : -(2 ^ 63 : Int) ≤ i ∧ i < 2 ^ 63) (hj : -(2 ^ 63 : Int) ≤ j ∧ j < 2 ^ 63)
    (h : ∀ h' e t0, IsX h' e (udeVs t0 (.str en te) (.bytes b tb) i j (.str re tr)) → s.heap.objs.size ≤ e → s.heap.objs.size ≤ h'.objs.size → (∀ c o, s.heap.get? c = some o → h'.get? c = some o) → Q (.ref e) { s with heap := h' }) :
    wpAny (model prog w) A (call (.type "UnicodeDecodeError") [.str en te, .bytes b tb, .int i ti, .int j tj, .str re tr]) Q E s := by
  refine wpAny_call (codeAny_of_tree ?_)
  show wpAny _ _ (callAny (.type "UnicodeDecodeError") ⟨_, []⟩) _ _ s
  simp only [callAny]
  refine wpAny_pure ⟨Code.quiet_builtin _ (by decide +kernel), codeAny_builtin entry_type_call ?_⟩
  rw [Around.under_plain (weight_type_call "UnicodeDecodeError" _ _) (by first | rfl | kernel_rfl | decide +kernel)]
  unfold Builtin.«type.__call__»
  dsimp only
  rw [if_neg (by rw [FU.notType]; exact Bool.false_ne_true), if_neg (by rw [FU.canNew]; exact Bool.false_ne_true)]
  refine x1a2 (FU.mro) fun l hl hle => ?_
  refine wpAny_bind (wpAny_of_eq (FU.typeCall _) (wpAny_bind (wpAny_of_eq hl ?_)))
  rw [if_neg (by rw [hle]; exact Bool.false_ne_true)]
  refine wpAny_bind (wpAny_of_eq FU.madeBy ?_)
  dsimp only
  refine wpAny_bind (wpAny_pure (wpAny_bind (wpAny_holding (new_ude ?_ (by size_fits)))))
  refine wpAny_bind (wpAny_isInstance (T := "UnicodeDecodeError") ⟨_, Heap.get?_push_size _ rfl, rfl⟩ FU.self ?_)
  simp only [Bool.not_true, Bool.false_eq_true, if_false]
  refine wpAny_bind (wpAny_holding (wpAny_callSpecial?_slot (name := Str.ofString "__init__") (T := "UnicodeDecodeError") ⟨_, Heap.get?_push_size _ rfl, rfl⟩ FU.slot_init
    (init_ude (t0 := s.heap.objs.size) ⟨_, Heap.get?_push_size _ rfl, rfl, rfl, rfl⟩ hi hj fun h' x hs hk => ?_)))
  dsimp only
  rw [if_neg (by simp)]
  refine wpAny_pure (h h' _ _ x (by simp) (by have := hs; dsimp only at this; simp at this; (clear hs hj hi; lia)) fun c o hc => ?_)
  exact hk c o (Nat.ne_of_lt (Nat.lt_of_lt_of_le (Heap.lt_size hc) (by simp))) (Heap.get?_push_of_some _ (Heap.get?_push_of_some _ hc))
end
end Mine
namespace Mine
open PySem PySem.W PyProof.Rows
variable [Lo]
variable {W : World}
section
variable {M : Model} {A : Around} {E : Value → Shared → Prop} {s : Shared} {env : Env}
theorem wq_tryStmt {body orelse : Sem Flow} {h₀ : ExceptHandler} {hs : List ExceptHandler} {Q : Flow → Shared → Prop}
    (h : wq M A body (fun f s₁ => match f with | .next => wq M A orelse Q E s₁ | f => Q f s₁)
      (fun e s₁ => wpAny M A (noteFrame e env) (fun _ s₂ => wpAny M A (setFlight e none) (fun _ s₃ => wq M A (handleBy e env (h₀ :: hs)) Q E s₃) E s₂) E s₁) s) :
    wq M A (tryStmt false body (h₀ :: hs) orelse [] env) Q E s := by
  unfold tryStmt
  rw [if_pos (show (([] : List Stmt).isEmpty) = true from rfl)]
  refine wq_bind (wq_attempt (wq_mono h (fun f s₁ h₁ => ?_) fun e s₁ h₁ => ?_))
  · cases f <;> first | exact h₁ | exact wq_pure h₁
  · exact wq_bind (wq_mono (wq_of h₁) (fun _ _ h₂ => wq_bind (wq_mono (wq_of h₂) (fun _ _ h₃ => h₃) fun _ _ x => x)) fun _ _ x => x)
theorem wq_handleBy_cons {e : Value} {t : Expr} {name : Option Str} {body : List Stmt} {pos : Pos} {rest : List ExceptHandler} {Q : Flow → Shared → Prop}
    (h : cq M (A.mark (some e)) (.handlers e [.ExceptHandler (some t) none [] pos] env) (fun r s₁ => match r with
      | .ok .brk => cq M (A.mark (some e)) (.handlers e [.ExceptHandler none name body pos] env) (fun r s₂ => match r with
          | .ok f => (match name with
            | none => Q f s₂
            | some n => wq M A (do bindName env n .none; unbindBehindTheSuite env n pos) (fun _ s₃ => Q f s₃) E s₂)
          | .error x => cameBackBy M A env E x s₂) s₁
      | .ok _ => False
      | .error x => cameBackBy M A env E x s₁) s) (hnb : e ≠ byPass) :
    wq M A (handleBy e env (.ExceptHandler (some t) name body pos :: rest)) Q E s := by
  rw [handleBy]
  have hnb' : (some e : Option Value) ≠ some byPass := fun x => hnb (Option.some.inj x)
  refine wq_bind (wq_holding (wq_runOwn (cq_mono h (fun r s₁ h₁ => ?_)) hnb'))
  cases r with
  | error x => exact h₁
  | ok f =>
    cases f with
    | brk =>
      refine wq_bind (wq_pure ?_)
      simp only [Bool.not_true, Bool.false_eq_true, if_false]
      refine wq_bind (wq_holding (wq_runOwn (cq_mono h₁ (fun r s₂ h₂ => ?_)) hnb'))
      cases r with
      | error x => exact h₂
      | ok f =>
        cases name with
        | none => exact wq_pure h₂
        | some n => exact wq_bind (wq_holding (wq_mono h₂ (fun _ s₃ h₃ => wq_pure h₃) fun _ _ x => x))
    | _ => exact h₁.elim
end
section
variable {prog : Program} {w : World} {A : Around} {s : Shared} {env : Env} {R : Result → Shared → Prop} {E : Value → Shared → Prop}
theorem cq_handlers_test {e : Value} {t : Expr} {pos : Pos}
    (h : wq (model prog w) A (eval t env) (fun c s₁ => wpAny (model prog w) A (excMatches e c) (fun b s₂ => R (.ok (if b then .brk else .next)) s₂) (notedBy (model prog w) A env fun x s₂ => R (.error x) s₂) s₁)
      (notedBy (model prog w) A env fun x s₁ => R (.error x) s₁) s) :
    cq (model prog w) A (.handlers e [.ExceptHandler (some t) none [] pos] env) R s := by
  refine cq_of_tree trivial ?_
  rw [under_self rfl rfl]
  show wq _ A (do return Fin.done (← (handleWith e env [.ExceptHandler (some t) none [] pos]).onRaise (fun x => do noteFrame x env; theTreesLotGoes x))) _ _ s
  refine wq_bind (wq_noted ?_)
  unfold handleWith
  refine wq_bind (wq_standAt (wq_bind (wq_mono h (fun c s₁ h₁ => wq_bind (wq_standAt (wq_bind (wq_mono (wq_of h₁) (fun b s₂ h₂ => wq_pure (wq_pure ?_)) fun _ _ x => x)))) fun _ _ x => x)))
  exact h₂
theorem cq_handlers_suite {e : Value} {b₀ : Stmt} {body : List Stmt} {pos : Pos}
    (h : wpAny (model prog w) A (setFlight e none) (fun _ s₁ => wq (model prog w) A (execs (b₀ :: body) env) (fun f s₂ => R (.ok f) s₂) (notedBy (model prog w) A env fun x s₂ => R (.error x) s₂) s₁) (notedBy (model prog w) A env fun x s₁ => R (.error x) s₁) s) :
    cq (model prog w) A (.handlers e [.ExceptHandler none none (b₀ :: body) pos] env) R s := by
  refine cq_of_tree trivial ?_
  rw [under_self rfl rfl]
  show wq _ A (do return Fin.done (← (handleWith e env [.ExceptHandler none none (b₀ :: body) pos]).onRaise (fun x => do noteFrame x env; theTreesLotGoes x))) _ _ s
  refine wq_bind (wq_noted ?_)
  unfold handleWith
  exact wq_bind (wq_standAt (wq_bind (wq_mono (wq_of h) (fun _ s₁ h₁ => wq_mono h₁ (fun f s₂ h₂ => wq_pure h₂) fun _ _ x => x) fun _ _ x => x)))
theorem cq_handlers_suite_as {e : Value} {n : Str} {b₀ : Stmt} {body : List Stmt} {pos : Pos}
    (h : wpAny (model prog w) A (setFlight e none) (fun _ s₁ => wq (model prog w) A (storeName env n e) (fun _ s₂ =>
        wq (model prog w) A (execs (b₀ :: body) env) (fun f s₃ => R (.ok f) s₃)
          (fun x s₃ => wpAny (model prog w) A (noteFrame x env) (fun _ s₃' =>
            wq (model prog w) A (do bindName env n .none; unbindBehindTheSuite env n pos)
              (fun _ s₄ => wpAny (model prog w) A (passOn "try.except-as" x env : Sem Flow) (fun _ _ => False) (notedBy (model prog w) A env fun x s' => R (.error x) s') s₄)
              (fun y s₄ => False) s₃') (notedBy (model prog w) A env fun x s' => R (.error x) s') s₃) s₂)
        (notedBy (model prog w) A env fun x s' => R (.error x) s') s₁) (notedBy (model prog w) A env fun x s' => R (.error x) s') s) :
    cq (model prog w) A (.handlers e [.ExceptHandler none (some n) (b₀ :: body) pos] env) R s := by
  refine cq_of_tree trivial ?_
  rw [under_self rfl rfl]
  show wq _ A (do return Fin.done (← (handleWith e env [.ExceptHandler none (some n) (b₀ :: body) pos]).onRaise (fun x => do noteFrame x env; theTreesLotGoes x))) _ _ s
  refine wq_bind (wq_noted ?_)
  unfold handleWith
  refine wq_bind (wq_standAt (wq_bind (wq_mono (wq_of h) (fun _ s₁ h₁ => ?_) fun _ _ x => x)))
  refine wq_bind (wq_bindName (wq_mono h₁ (fun _ s₂ h₂ => ?_) fun _ _ x => x))
  refine wq_bind (wq_attempt (wq_mono h₂ (fun f s₃ h₃ => wq_pure (wq_pure h₃)) fun x s₃ h₃ => ?_))
  refine wq_bind (wq_mono (wq_of h₃) (fun _ s₃' h₄ => ?_) fun _ _ y => y)
  refine wq_bind (wq_holding (wq_onRaise (wq_mono h₄ (fun _ s₄ h₅ => ?_) fun _ _ y => y.elim)))
  exact wq_mono (wq_of h₅) (fun _ _ hf => hf.elim) fun _ _ y => y
theorem wq_Try {body : List Stmt} {h₀ : ExceptHandler} {hs : List ExceptHandler} {pos : Pos} {Q : Flow → Shared → Prop}
    (h : wq (model prog w) A (execs body env) (fun f s₁ => Q f s₁)
      (fun e s₁ => wpAny (model prog w) A (noteFrame e env) (fun _ s₂ => wpAny (model prog w) A (setFlight e none) (fun _ s₃ => wq (model prog w) A (handleBy e env (h₀ :: hs)) Q E s₃) E s₂) E s₁) s) :
    wq (model prog w) A (exec (.Try body (h₀ :: hs) [] [] pos) env) Q E s := by
  rw [arm_exec_Try]
  refine wq_bind (wq_standAt (wq_tryStmt (wq_mono h (fun f s₁ h₁ => ?_) fun _ _ x => x)))
  cases f <;> first | exact wq_execs_nil h₁ | exact h₁
end
end Mine
namespace Mine
open PySem PySem.W PyProof.Rows
variable [Lo]
variable {W : World}
section
variable {X : Cx} {σ : Sto} {T : Tx} {s : Shared}
theorem StB.not_ban_rec (S : St X σ T s) {b : Addr} {o : Obj} {vs : Array Value} (hb : X.s0.heap.objs.size ≤ b) (ho : s.heap.get? b = some o) (hd : o.data = .fields vs) : ¬ X.ban σ b := by
  rintro (q | q | ⟨x, q⟩ | ⟨x, v, q⟩)
  · exact absurd (S.ok.hB b q).2 (Nat.not_lt.mpr hb)
  · obtain ⟨m, ⟨o', es, ep, ho', hd', _⟩, _⟩ := S.vars
    rw [← q, ho] at ho'; (have ho' := Option.some.inj ho'; subst ho')
    rw [hd] at hd'; cases hd'
  · obtain ⟨_, _, v, o', ho', hd'⟩ := S.cells x b q
    rw [ho] at ho'; (have ho' := Option.some.inj ho'; subst ho')
    rw [hd] at hd'; cases hd'
  · obtain ⟨m, _, hv⟩ := S.vars
    obtain ⟨w, _, h2⟩ := hv x _ q
    obtain ⟨_, h2⟩ := h2
    cases h2 with
    | list hl _ _ => obtain ⟨o', ho', _, _, _, _, hd'⟩ := hl; rw [ho] at ho'; (have ho' := Option.some.inj ho'; subst ho'); rw [hd] at hd'; cases hd'
    | dict hl _ _ _ => obtain ⟨⟨o', ho', _, _, _, _, hd'⟩, _⟩ := hl; rw [ho] at ho'; (have ho' := Option.some.inj ho'; subst ho'); rw [hd] at hd'; cases hd'
    | barr b hl => obtain ⟨o', ho', _, _, hd'⟩ := hl; rw [ho] at ho'; (have ho' := Option.some.inj ho'; subst ho'); rw [hd] at hd'; cases hd'
    | hid hl => obtain ⟨o', ho', _, _, _, _, hd', _⟩ := hl; rw [ho] at ho'; (have ho' := Option.some.inj ho'; subst ho'); rw [hd] at hd'; cases hd'
theorem ExcAt.leB {lo : Addr} {tr : Bool} {T' : Tx} {s' : Shared} {a : Addr} {x : XV} (e : ExcAt lo tr T s.toks s.heap a x) (S : St X σ T s) (hlo : X.s0.heap.objs.size ≤ lo) (l : LeB (X.ban σ) T s T' s') : ExcAt lo tr T' s'.toks s'.heap a x := by
  obtain ⟨ge, o, vs, ho, hc, hdi, hd, hsz, hfs, htb, htr⟩ := e
  refine x1a1 (l.ext a o (S.not_ban_rec (Nat.le_trans hlo ge) ho hd) ho) fun sl ho' => ?_
  refine ⟨ge, _, vs, ho', hc, hdi, hd, hsz, ?_, ?_, htr⟩
  · cases x with
    | index => exact hfs
    | ude d i j r =>
      refine x0a5 hfs fun f1 f2 f3 t_0 f6 => ?_; (try clear hfs); refine x1a2 t_0 fun v f4 f5 => ?_; (try clear t_0)
      refine ⟨f1, f2, f3, ⟨v, f4, f5.le l.toks l.tx⟩, fun hd => ?_⟩
      refine x1a2 (f6 hd) fun c g1 g2 => ?_
      refine ⟨c, g1, ?_⟩
      rcases g2 with g2 | ⟨b, ob, ws, h1, h0, h2, h3, h4, h5⟩
      · exact .inl g2
      · refine x1a1 (l.ext b ob (S.not_ban_rec (Nat.le_trans hlo h0) h2 h4) h2) fun sl h2' => ?_
        exact .inr ⟨b, _, ws, h1, h0, h2', h3, h4, h5⟩
  · rcases htb with h1 | ⟨t, ot, ts, h1, hlt, hta, hot, htc, htd, h3⟩
    · exact .inl h1
    · refine x1a1 (l.ext t ot (S.not_ban_rec (Nat.le_trans hlo hlt) hot htd) hot) fun sl hot' => ?_
      exact .inr ⟨t, _, ts, h1, hlt, hta, hot', htc, htd, h3⟩
end
omit [Lo] in
noncomputable def Cx.under (X : Cx) (a : Addr) : Cx := { X with A := X.A.mark (some (.ref a)), quiet := false }
section
variable {X : Cx} {σ σ' : Sto} {T T' : Tx} {s s' : Shared} {a : Addr} {B : Addr → Prop}
theorem Cx.Ok.under (h : X.Ok) : (X.under a).Ok := ⟨⟨h.a.depth, h.a.units, h.a.frames⟩, (fun q => nomatch q), h.kind, h.glob, h.bu, h.pg, h.nb, h.hB, h.locals, h.cl⟩
theorem StB.under (S : StB B X σ T s) : StB B (X.under a) σ T s := ⟨S.ok.under, S.le, S.pos, S.fro, S.vars, S.cells, S.apart, S.fresh, S.one⟩
theorem StB.out (S : StB B (X.under a) σ T s) (ok : X.Ok) : StB B X σ T s := ⟨ok, S.le, S.pos, S.fro, S.vars, S.cells, S.apart, S.fresh, S.one⟩
theorem Nx.out (n : Nx (X.under a) σ T s σ' T' s') (ok : X.Ok) : Nx X σ T s σ' T' s' := ⟨StB.out n.st ok, n.le, n.ban⟩
end
noncomputable def ExH (X : Cx) (x : XV) (t : Sem Flow) (σ : Sto) (Q : Post) : Prop := ∀ a lo T s, St (X.under a) σ T s → X.s0.heap.objs.size ≤ lo → lo ≤ s.heap.objs.size → ExcAt lo true T s.toks s.heap a x →
  wq X.M (X.under a).A t (fun f s' => ∃ T' o σ', Nx (X.under a) σ T s σ' T' s' ∧ FlowIs X T' s' f o ∧ Q o σ')
    (fun e s' => ∃ T' x' σ' a', e = .ref a' ∧ Nx (X.under a) σ T s σ' T' s' ∧ ExcAt lo false T' s'.toks s'.heap a' x' ∧ Q (.exc x') σ') s
section
variable {X : Cx} {σ : Sto} {Q : Post} {x : XV}
theorem ExH.of {t : Sem Flow} (h : ∀ a, ExT (X.under a) t σ Q) : ExH X x t σ Q := fun a lo T s S _ hl _ =>
  wq_mono (h a T s S) (fun _ _ q => q) fun e s' t_0 => x4a4 t_0 fun T' x σ' a he n ea q => ⟨T', x, σ', a, he, n, ea.weak hl, q⟩
theorem ExH.nil (q : Q .next σ) : ExH X x (execs [] X.env) σ Q := .of fun a => Ex.nil (X := X.under a) q
noncomputable def SeqH (X : Cx) (x : XV) (rest : List Stmt) (Q : Post) : Post := fun o σ => match o with
  | .next => ExH X x (execs rest X.env) σ Q
  | o => Q o σ
theorem ExH.cons {st : Stmt} {rest : List Stmt} (h : ExH X x (exec st X.env) σ (SeqH X x rest Q)) : ExH X x (execs (st :: rest) X.env) σ Q := fun a lo T s S hs hl ea => by
  refine wq_execs_cons (wq_mono (h a lo T s S hs hl ea) (fun f s' t_0 => x3a3 t_0 fun T' o σ' n f' q => ?_) fun e s' t_0 => x4a4 t_0 fun T' x σ' a he n ea q => ⟨T', x, σ', a, he, n, ea, q⟩)
  cases o with
  | next =>
    obtain rfl : f = .next := f'
    refine wq_mono (q a lo T' s' n.st hs (Nat.le_trans hl n.le.size) (ea.leB S hs n.le)) (fun f s'' t_0 => x3a3 t_0 fun T₂ o σ₂ n₂ f₂ q₂ => ⟨T₂, o, σ₂, n.trans n₂, f₂, q₂⟩)
      fun e s'' t_0 => x4a4 t_0 fun T₂ x σ₂ a he n₂ ea q₂ => ⟨T₂, x, σ₂, a, he, n.trans n₂, ea, q₂⟩
  | brk => obtain rfl : f = .brk := f'; exact ⟨T', .brk, σ', n, rfl, q⟩
  | cont => obtain rfl : f = .cont := f'; exact ⟨T', .cont, σ', n, rfl, q⟩
  | ret v => refine x1a2 f' fun w e_0 r => ?_; (try clear f'); subst e_0; exact ⟨T', .ret v, σ', n, ⟨w, rfl, r⟩, q⟩
  | exc x => exact f'.elim
theorem ExH.seq {st : Stmt} {rest : List Stmt} (h : ∀ a, Ex1 (X.under a) st σ (SeqH X x rest Q)) : ExH X x (execs (st :: rest) X.env) σ Q := .cons (.of h)
theorem ExH.if {test : Expr} {body orelse rest : List Stmt} {pos : Pos} {b : Bool} (ht : ∀ a, Te (X.under a) test σ b)
    (k : if b then ExH X x (execs body X.env) σ (SeqH X x rest Q) else ExH X x (execs orelse X.env) σ (SeqH X x rest Q)) : ExH X x (execs (.If test body orelse pos :: rest) X.env) σ Q :=
  .cons fun a lo T s S hs hl ea => by
    refine wq_If ((ht a).then S fun T₁ s₁ l₁ S₁ => ?_)
    have n := Nx.of_le S l₁
    cases b with
    | true =>
      exact wq_mono (k a lo T₁ s₁ S₁ hs (Nat.le_trans hl l₁.ext.1) (ea.leB S hs n.le)) (fun f s'' t_0 => x3a3 t_0 fun T₂ o σ₂ n₂ f₂ q₂ => ⟨T₂, o, σ₂, n.trans n₂, f₂, q₂⟩)
        fun e s'' t_0 => x4a4 t_0 fun T₂ x σ₂ a he n₂ ea q₂ => ⟨T₂, x, σ₂, a, he, n.trans n₂, ea, q₂⟩
    | false =>
      exact wq_mono (k a lo T₁ s₁ S₁ hs (Nat.le_trans hl l₁.ext.1) (ea.leB S hs n.le)) (fun f s'' t_0 => x3a3 t_0 fun T₂ o σ₂ n₂ f₂ q₂ => ⟨T₂, o, σ₂, n.trans n₂, f₂, q₂⟩)
        fun e s'' t_0 => x4a4 t_0 fun T₂ x σ₂ a he n₂ ea q₂ => ⟨T₂, x, σ₂, a, he, n.trans n₂, ea, q₂⟩
end
end Mine
namespace Mine
open PySem PySem.W PyProof.Rows
variable [Lo]
variable {W : World}
omit [Lo] in
structure ClauseOk (C : String) : Prop where
  exc : isSubtype (.type C) (.type "BaseException") = pure true
  notTup : isSubtype (.type ((Manifest.find? C).elim "type" fun x => x.metatype)) (.type "tuple") = pure false
  self : isSubtype (.type C) (.type C) = pure true
  boot : bootBuiltins (C : Str) = some (.type C)
  name : (C : Str) ≠ "__name__"
  dbg : ((C : Str) == ("__debug__" : Str)) = false
theorem clause_index : ClauseOk "IndexError" := ⟨by rw [isSubtype_type]; kernel_rfl, by rw [isSubtype_type]; kernel_rfl, by rw [isSubtype_type]; kernel_rfl, by kernel_rfl, by decide +kernel, by decide +kernel⟩
theorem clause_ude : ClauseOk "UnicodeDecodeError" := ⟨by rw [isSubtype_type]; kernel_rfl, by rw [isSubtype_type]; kernel_rfl, by rw [isSubtype_type]; kernel_rfl, by kernel_rfl, by decide +kernel, by decide +kernel⟩
theorem ExcAt.typeIs {lo : Addr} {tr : Bool} {T : Tx} {n : Nat} {s : Shared} {a : Addr} {x : XV} (e : ExcAt lo tr T n s.heap a x) : s.TypeIs (.ref a) x.cls := by
  obtain ⟨ge, o, vs, ho, hc, _⟩ := e
  exact ⟨o, ho, hc⟩
section
variable {X : Cx} {σ : Sto} {Q : Post}
noncomputable def TryP (X : Cx) (C : String) (suite : List Stmt) (P : Post) : Post := fun o σ => match o with
  | .exc x => x.cls = C ∧ ExH X x (execs suite X.env) σ P
  | o => P o σ
theorem Ex.tryX {C : String} {c : Str} {body suite rest : List Stmt} {b₀ : Stmt} {np hp pos : Pos} (hC : ClauseOk C) (hcn : c = (C : Str)) (ht : X.Top) (hkind : X.env.kindOf c = some .globalImplicit) (hg : X.G.mg c = none)
    (h : Ex X body σ (TryP X C (b₀ :: suite) (Seq X rest Q))) : Ex X (.Try body [.ExceptHandler (some (.Name c np)) none (b₀ :: suite) hp] [] [] pos :: rest) σ Q := .cons fun T s S => by
  subst hcn
  have hs := S.le.ext.1
  refine wq_Try (wq_mono (h T s S) (fun f s₁ t_0 => x3a3 t_0 fun T₁ o σ₁ n₁ f₁ q₁ => ?_) fun e s₁ t_0 => x4a5 t_0 fun T₁ x σ₁ a he n₁ ea hx hH => ?_)
  · cases o with
    | exc x => exact f₁.elim
    | _ => exact ⟨T₁, _, σ₁, n₁, f₁, q₁⟩
  · subst he
    obtain ⟨⟨outer, hfr⟩, hf⟩ := id ht
    have hfro := n₁.st.fro
    rw [hfr] at hfro
    refine wpAny_noteX (hfr ▸ n₁.st.ok.a.frames) hfro hf n₁.le.size ea fun h₂ sh₂ ea₂ => ?_
    have n₂ := n₁.shift hs sh₂
    refine wpAny_setFlightX ea₂ fun h₃ sh₃ ea₃ => ?_
    have n₃ := n₂.shift hs sh₃
    have onx : ∀ (s₅ : Shared) (e : Value), (∃ T' x σ' a', e = .ref a' ∧ Nx X σ T s σ' T' s₅ ∧ ExcAt s.heap.objs.size false T' s₅.toks s₅.heap a' x ∧ Seq X rest Q (.exc x) σ') →
        notedBy X.M (X.under a).A X.env (fun e s' => cameBackBy X.M X.A X.env (fun e s' => ∃ T' x σ' a', e = .ref a' ∧ Nx X σ T s σ' T' s' ∧ ExcAt s.heap.objs.size false T' s'.toks s'.heap a' x ∧ Seq X rest Q (.exc x) σ') e s') e s₅ := by
      rintro s₅ e ⟨T', x, σ', a', rfl, n', ea, q⟩
      exact notedX ht rfl hs n' ea fun s₃ n₃ ea₃ => cameX hs n₃ ea₃ fun s₄ n₄ ea₄ => ⟨T', x, σ', a', rfl, n₄, ea₄.weak (Nat.le_refl _), q⟩
    refine wq_handleBy_cons ?_ (by intro q; cases q)
    refine cq_handlers_test ?_
    refine StB.load_builtin (X := X.under a) (StB.under n₃.st) hkind hg hC.boot ?_ hC.name hC.dbg
    refine wpAny_excMatches_type (hx ▸ ea₃.typeIs) hC.exc hC.notTup hC.self ?_
    refine cq_handlers_suite ?_
    refine wpAny_setFlightX ea₃ fun h₄ sh₄ ea₄ => ?_
    have n₄ := n₃.shift hs sh₄
    refine wq_mono (hH a s.heap.objs.size T₁ _ (StB.under n₄.st) hs n₄.le.size ea₄) (fun f s₅ t_0 => x3a3 t_0 fun T₅ o σ₅ n₅ f₅ q₅ => ?_) fun e s₅ t_0 => x4a4 t_0 fun T₅ x σ₅ a' he n₅ ea₅ q₅ => ?_
    · exact ⟨T₅, o, σ₅, n₄.trans (n₅.out S.ok), f₅, q₅⟩
    · exact onx s₅ e ⟨T₅, x, σ₅, a', he, n₄.trans (n₅.out S.ok), ea₅, q₅⟩
end
end Mine
namespace Mine
open PySem PySem.W PyProof.Rows
variable [Lo]
variable {W : World}
theorem cls_dropName (name : Str) (o : Obj) : (Obj.dropName name o).cls = o.cls := by
  rw [Obj.dropName_eq]
  obtain ⟨c, d, dt, sl⟩ := o
  cases dt <;> simp only [Obj.dropNameByArray]
  split <;> rfl
theorem data_dropName (name : Str) (o : Obj) (es : Array DictEntry) (ep : Nat) (hd : o.data = .dict es ep) (hk : ∀ e ∈ es, ∃ n t, e.key = .str n t) :
    ∃ es' ep', (Obj.dropName name o).data = .dict es' ep' ∧ ∀ e ∈ es', e ∈ es := by
  rw [Obj.dropName_eq]
  obtain ⟨c, d, dt, sl⟩ := o
  dsimp only at hd
  subst hd
  simp only [Obj.dropNameByArray]
  split
  · rename_i i hi
    exact ⟨_, _, rfl, fun e he => by
      obtain ⟨l⟩ := es
      simp only [List.eraseIdxIfInBounds_toArray, List.mem_toArray] at he ⊢
      exact List.mem_of_mem_eraseIdx he⟩
  · exact ⟨_, _, rfl, fun e he => he⟩
section
variable {M : Model} {A : Around} {E : Value → Shared → Prop} {s : Shared} {env : Env} {m : Str → Option Value}
theorem wpAny_nsDel_cls {a : Addr} {name : Str} {v c : Value} {Q : Bool → Shared → Prop} (hn : s.heap.Ns a m) (hm : m name = some v) (hc : ClsAt s.heap a c)
    (hQ : ∀ h' m', h'.Ns a m' → Heap.SameBut a s.heap h' → ClsAt h' a c → Q true { s with heap := h' }) : wpAny M A (nsDel a name) Q E s := by
  refine x3a4 (id hn) fun o es ep ho hd hk hm' => ?_
  have hany : es.any (·.key.isStr name) = true := by
    have := (hm' name).trans hm
    simp only [nsFind, findBy, Option.map_eq_some_iff] at this
    refine x1a2 this fun e he _ => ?_; (try clear this)
    have h1 := Array.find?_some he
    have h2 := Array.mem_of_find?_eq_some he
    rw [Array.any_eq_true']
    exact ⟨e, h2, h1⟩
  have hhas : nsHas name o = pure true := by
    rw [nsHas_eq]; unfold nsHasByArray; rw [hd]
    show (if (es.any fun x => x.key.isStr name) = true then _ else _) = _
    rw [if_pos hany]
  unfold nsDel
  refine wpAny_bind (wpAny_loadPart ho ?_)
  rw [hhas]
  refine wpAny_bind (wpAny_pure ?_)
  refine wpAny_bind (wpAny_updatePart ho (wpAny_pure ?_))
  refine x2a2 (data_dropName name o es ep hd hk) fun es' ep' hd' hsub => ?_
  have hfr : (Obj.dropName name o).isFreed = false := by revert hd'; generalize Obj.dropName name o = o'; intro hd'; obtain ⟨c0, d0, dt0, sl0⟩ := o'; dsimp only at hd'; subst hd'; rfl
  have hget := Heap.get?_update_self (Obj.dropName name) ho hfr
  refine hQ _ _ ⟨_, es', ep', hget, hd', fun e he => hk e (hsub e he), fun _ => rfl⟩ (Heap.SameBut.update ..) ⟨_, hget, ?_⟩
  refine x1a2 hc fun o2 ho2 hc2 => ?_; (try clear hc)
  rw [ho] at ho2; (have ho2 := Option.some.inj ho2; subst ho2)
  exact (cls_dropName _ _).trans hc2
theorem wpAny_nameGoes_cls {n : Str} {pos : Pos} {c : Value} {Q : Unit → Shared → Prop} (hl : env.kindOf n = some .local) (hn : s.heap.Ns env.locals m) (hc : ClsAt s.heap env.locals c)
    (hp : (env.scope.kind == .class || (env.scope.kind == .module && env.locals != env.globals)) = false)
    (h : ∀ h' m', h'.Ns env.locals m' → Heap.SameBut env.locals s.heap h' → ClsAt h' env.locals c → Q () { s with heap := h', toks := s.toks + 1 }) :
    wpAny M A (do bindName env n .none; unbindBehindTheSuite env n pos) Q E s := by
  refine wpAny_bind (wpAny_bindName (wpAny_storeName_cls hl hn hc (fun h₁ hn₁ hs₁ hc₁ => ?_) hp))
  unfold unbindBehindTheSuite
  refine wpAny_onRaise ?_
  unfold unbindName
  refine wpAny_bind (wpAny_point (wpAny_bind ?_))
  unfold deleteName
  simp only [hl, hp]
  rw [if_neg (by decide)]
  refine wpAny_bind (wpAny_nsDel_cls (v := .none) hn₁ (if_pos rfl) hc₁ fun h₂ m₂ hn₂ hs₂ hc₂ => ?_)
  simp only [if_true, Option.isSome_some, Bool.not_true, Bool.false_eq_true, if_false]
  exact wpAny_pure (wpAny_point (h h₂ m₂ hn₂ (hs₁.trans hs₂) hc₂))
end
section
variable {X : Cx} {σ : Sto} {T : Tx} {s : Shared}
theorem StB.goes (S : St X σ T s) {n : Str} {pos : Pos} (hl : X.env.kindOf n = some .local) {Q : Unit → Shared → Prop} {E : Value → Shared → Prop} (h : ∀ s', Nx X σ T s [] T s' → Q () s') :
    wpAny X.M X.A (do bindName X.env n .none; unbindBehindTheSuite X.env n pos) Q E s := by
  refine x1a2 (S.vars) fun m hn hv => ?_
  refine x3a2 (id hn) fun oL _ _ hoL _ => ?_
  refine wpAny_nameGoes_cls hl hn ⟨oL, hoL, rfl⟩ (by rw [S.ok.kind]; rfl) fun h' m' hn' hs hcls => h _ ⟨?_, LeB.turn hs (.inr (.inl rfl)) (Nat.le_succ _), ?_⟩
  · refine x3a3 (id hn') fun o' es ep ho' hd' _ => ?_
    exact {
      ok := S.ok
      le := S.le_turn S.ok.locals hs (Nat.le_succ _)
      pos := Nat.succ_pos _
      fro := S.fro_turn hs fun ⟨o, f1, f2, f3, _⟩ => by
        rw [hoL] at f1; (have f1 := Option.some.inj f1; subst f1)
        refine x1a2 hcls fun o2 g1 g2 => ?_; (try clear hcls)
        rw [ho'] at g1; (have g1 := Option.some.inj g1; subst g1)
        exact ⟨o', ho', g2.trans f2, f3, es, ep, hd'⟩
      vars := ⟨m', hn', fun x c hc => nomatch hc⟩
      cells := fun y a hy => x0a3 (S.cells y a hy) fun h1 h2 t_0 => x1a1 t_0 fun w h3 => ⟨h1, h2, w, h3.sameBut hs h2⟩
      apart := S.apart
      fresh := fun a t_0 => x2a1 t_0 fun y w e => nomatch e
      one := fun y z a w w' h1 h2 => nomatch h1 }
  · rintro b hb (q | q | q | ⟨y, w, e⟩)
    · exact .inl q
    · exact .inr (.inl q)
    · exact .inr (.inr (.inl q))
    · exact nomatch e
omit [Lo] in
noncomputable def XV.av : XV → AV
  | .ude _ i j r => .exc i j r
  | .index => .none
theorem ExcAt.rep {lo : Addr} {tr : Bool} {B : Addr → Prop} {a : Addr} {d : Bool} {i j : Int} {r : List Nat} (e : ExcAt lo tr T s.toks s.heap a (.ude d i j r)) (hb : ¬ B a) : Rep W B T s.toks s.heap (.ref a) (.exc i j r) := by
  obtain ⟨ge, o, vs, ho, hc, hdi, hd, hsz, ⟨f1, f2, f3, f4, _⟩, _⟩ := e
  exact .exc hb ho hc hdi hd ⟨f1, f2, f3, f4⟩
theorem StB.not_ban_exc (S : St X σ T s) {lo : Addr} {tr : Bool} {a : Addr} {x : XV} (hlo : X.s0.heap.objs.size ≤ lo) (e : ExcAt lo tr T s.toks s.heap a x) : ¬ X.ban σ a := by
  obtain ⟨ge, o, vs, ho, hc, hdi, hd, _⟩ := e
  exact S.not_ban_rec (Nat.le_trans hlo ge) ho hd
end
end Mine
namespace Mine
open PySem PySem.W PyProof.Rows
variable [Lo]
variable {W : World}
theorem Rep.frame {B : Addr → Prop} {T T' : Tx} {s s' : Shared} {v : Value} {x : AV} {L : Addr} {oL : Obj} (r : Rep W B T s.toks s.heap v x) (hL : s.heap.get? L = some oL) (hc : oL.cls = .type "frame")
    (l : LeB (fun b => b = L) T s T' s') : Rep W B T' s'.toks s'.heap v x := by
  have ne : ∀ {a o}, s.heap.get? a = some o → o.cls ≠ .type "frame" → ¬ a = L := fun h1 h2 q => by subst q; rw [hL] at h1; (have h1 := Option.some.inj h1; subst h1); exact h2 hc
  induction r with
  | none => exact .none
  | bool b => exact .bool b
  | int i t => exact .int i t
  | str x => exact .str (x.le l.toks l.tx)
  | bytes b t => exact .bytes b t
  | txt x t => exact .txt x t
  | tup hb hl hs _ ih => refine x1a3 hl fun o ho hc t_0 => ?_; (try clear hl); refine x1a1 t_0 fun m hd => ?_; (try clear t_0); refine x1a1 (l.ext _ o (ne ho (by rw [hc]; decide)) ho) fun sl ho' => ?_; exact .tup hb ⟨_, ho', hc, m, hd⟩ hs ih
  | list hb hl hs _ ih => refine x1a5 hl fun o ho hc hn hsl t_0 => ?_; (try clear hl); refine x1a1 t_0 fun m hd => ?_; (try clear t_0); refine x1a1 (l.ext _ o (ne ho (by rw [hc]; decide)) ho) fun sl ho' => ?_; exact .list hb ⟨_, ho', hc, hn, (keepS_ne (by rw [hc]; decide)).trans hsl, m, hd⟩ hs ih
  | dict hb hl hs hk _ ih =>
    refine x0a2 hl fun t_0 ky => ?_; (try clear hl); refine x1a5 t_0 fun o ho hc hn hsl t_1 => ?_; (try clear t_0); refine x1a1 t_1 fun m hd => ?_; (try clear t_1); refine x1a1 (l.ext _ o (ne ho (by rw [hc]; decide)) ho) fun sl ho' => ?_
    exact .dict hb ⟨⟨_, ho', hc, hn, (keepS_ne (by rw [hc]; decide)).trans hsl, m, hd⟩, ky⟩ hs (fun i e x h1 h2 => (hk i e x h1 h2).le l.toks l.tx) ih
  | exc hb ho hc hdi hd hf =>
    refine x1a1 (l.ext _ _ (ne ho (by rw [hc]; decide)) ho) fun sl ho' => ?_
    exact .exc hb ho' hc hdi hd ⟨hf.size, hf.start, hf.stop, x1a2 hf.reason fun v h1 h2 => ⟨v, h1, h2.le l.toks l.tx⟩⟩
section
variable {M : Model} {A : Around} {E : Value → Shared → Prop} {s : Shared} {env : Env} {lo : Addr} {T : Tx} {n : Nat} {a : Addr} {x : XV}
theorem wpAny_passOnX {α : Type} {what : String} {Q : α → Shared → Prop} (hx : ExcAt lo true T n s.heap a x) (h : ∀ h', Shift lo s.heap h' → ExcAt lo true T n h' a x → E (.ref a) { s with heap := h' }) : wpAny M A (PySem.passOn what (.ref a) env : Sem α) Q E s := by
  unfold PySem.passOn
  obtain ⟨o, vs, ho, hc, hdi, hd, hsz, hfs, htb, htr⟩ := hx.at_
  obtain ⟨z, hz⟩ : ∃ z, vs[1]? = some z := ⟨vs[1]'(by lia), by rw [Array.getElem?_eq_getElem (by lia)]⟩
  refine wpAny_bind (wpAny_field ho hd hz ?_)
  have hzn : (z == Value.none) = false := by
    have := htr rfl
    rw [hz] at this
    exact beq_false_of_ne fun q => this (by rw [q])
  rw [if_neg (by rw [hzn]; decide)]
  exact wpAny_bind (wpAny_setFlightX hx fun h' sh hx' => wpAny_throw (h h' sh hx'))
end
section
variable {X : Cx} {σ : Sto} {Q : Post}
noncomputable def TryAsP (X : Cx) (C : String) (n : Str) (suite : List Stmt) (P : Post) : Post := fun o σ => match o with
  | .exc x => x.cls = C ∧ (∃ d i j r, x = .ude d i j r) ∧ ExH X x (execs suite X.env) (σ.upd n x.av) (fun o _ => P o [])
  | o => P o σ
theorem StB.goesF {σ : Sto} {T : Tx} {s : Shared} (S : St X σ T s) {n : Str} {pos : Pos} {f : Flow} {o : Out} (hf : FlowIs X T s f o) (hl : X.env.kindOf n = some .local) (hfr : FrAt s.heap X.env.locals) {Q : Unit → Shared → Prop} {E : Value → Shared → Prop}
    (h : ∀ s', Nx X σ T s [] T s' → FlowIs X T s' f o → Q () s') :
    wpAny X.M X.A (do bindName X.env n .none; unbindBehindTheSuite X.env n pos) Q E s := by
  refine x1a3 hfr fun oL hoL hoc _ => ?_; (try clear hfr)
  refine x1a2 (S.vars) fun m hn hv => ?_
  refine wpAny_nameGoes_cls hl hn ⟨oL, hoL, rfl⟩ (by rw [S.ok.kind]; rfl) fun h' m' hn' hs hcls => h _ ⟨?_, LeB.turn hs (.inr (.inl rfl)) (Nat.le_succ _), ?_⟩ ?_
  · refine x3a3 (id hn') fun o' es ep ho' hd' _ => ?_
    exact {
      ok := S.ok
      le := S.le_turn S.ok.locals hs (Nat.le_succ _)
      pos := Nat.succ_pos _
      fro := S.fro_turn hs fun ⟨o, f1, f2, f3, _⟩ => by
        rw [hoL] at f1; (have f1 := Option.some.inj f1; subst f1)
        refine x1a2 hcls fun o2 g1 g2 => ?_; (try clear hcls)
        rw [ho'] at g1; (have g1 := Option.some.inj g1; subst g1)
        exact ⟨o', ho', g2.trans f2, f3, es, ep, hd'⟩
      vars := ⟨m', hn', fun x c hc => nomatch hc⟩
      cells := fun y a hy => x0a3 (S.cells y a hy) fun h1 h2 t_0 => x1a1 t_0 fun w h3 => ⟨h1, h2, w, h3.sameBut hs h2⟩
      apart := S.apart
      fresh := fun a t_0 => x2a1 t_0 fun y w e => nomatch e
      one := fun y z a w w' h1 h2 => nomatch h1 }
  · rintro b hb (q | q | q | ⟨y, w, e⟩)
    · exact .inl q
    · exact .inr (.inl q)
    · exact .inr (.inr (.inl q))
    · exact nomatch e
  · cases o with
    | ret v => refine x1a2 hf fun w e_0 r => ?_; (try clear hf); subst e_0; exact ⟨w, rfl, Rep.frame (s' := { s with heap := h', toks := s.toks + 1 }) r hoL hoc (LeB.turn hs rfl (Nat.le_succ _))⟩
    | _ => exact hf
theorem Ex.tryAs {C : String} {c n : Str} {body suite rest : List Stmt} {b₀ : Stmt} {np hp pos : Pos} (hC : ClauseOk C) (hcn : c = (C : Str)) (ht : X.Top) (hkind : X.env.kindOf c = some .globalImplicit) (hg : X.G.mg c = none)
    (hn : X.env.kindOf n = some .local) (hst : storable X n)
    (h : Ex X body σ (TryAsP X C n (b₀ :: suite) (Seq X rest Q))) : Ex X (.Try body [.ExceptHandler (some (.Name c np)) (some n) (b₀ :: suite) hp] [] [] pos :: rest) σ Q := .cons fun T s S => by
  subst hcn
  have hs := S.le.ext.1
  refine wq_Try (wq_mono (h T s S) (fun f s₁ t_0 => x3a3 t_0 fun T₁ o σ₁ n₁ f₁ q₁ => ?_) fun e s₁ t_0 => x4a6 t_0 fun T₁ x σ₁ a he n₁ ea hx t_1 hH => x4a1 t_1 fun d i j r hude => ?_)
  · cases o with
    | exc x => exact f₁.elim
    | _ => exact ⟨T₁, _, σ₁, n₁, f₁, q₁⟩
  · subst he
    obtain ⟨⟨outer, hfr⟩, hf⟩ := id ht
    have hfro := n₁.st.fro
    rw [hfr] at hfro
    have frl : ∀ {σ' T' s'}, St X σ' T' s' → FrAt s'.heap X.env.locals := fun S' => by
      have := S'.fro
      rw [hfr] at this
      obtain ⟨_, ⟨L, h1, h2⟩, _⟩ := this
      rw [hf] at h1; (have h1 := Option.some.inj h1; subst h1); exact h2
    refine wpAny_noteX (hfr ▸ n₁.st.ok.a.frames) hfro hf n₁.le.size ea fun h₂ sh₂ ea₂ => ?_
    have n₂ := n₁.shift hs sh₂
    refine wpAny_setFlightX ea₂ fun h₃ sh₃ ea₃ => ?_
    have n₃ := n₂.shift hs sh₃
    have onx : ∀ (s₅ : Shared) (a' : Addr) (x : XV) (T' : Tx) (σ' : Sto), Nx X σ T s σ' T' s₅ → ExcAt s.heap.objs.size false T' s₅.toks s₅.heap a' x → Seq X rest Q (.exc x) σ' →
        notedBy X.M (X.under a).A X.env (fun e s' => cameBackBy X.M X.A X.env (fun e s' => ∃ T' x σ' a', e = .ref a' ∧ Nx X σ T s σ' T' s' ∧ ExcAt s.heap.objs.size false T' s'.toks s'.heap a' x ∧ Seq X rest Q (.exc x) σ') e s') (.ref a') s₅ := by
      intro s₅ a' x T' σ' n' ea q
      exact notedX ht rfl hs n' ea fun s₃ n₃ ea₃ => cameX hs n₃ ea₃ fun s₄ n₄ ea₄ => ⟨T', x, σ', a', rfl, n₄, ea₄.weak (Nat.le_refl _), q⟩
    refine wq_handleBy_cons ?_ (by intro q; cases q)
    refine cq_handlers_test ?_
    refine StB.load_builtin (X := X.under a) (StB.under n₃.st) hkind hg hC.boot ?_ hC.name hC.dbg
    refine wpAny_excMatches_type (hx ▸ ea₃.typeIs) hC.exc hC.notTup hC.self ?_
    refine cq_handlers_suite_as ?_
    refine wpAny_setFlightX ea₃ fun h₄ sh₄ ea₄ => ?_
    have n₄ := n₃.shift hs sh₄
    subst hude
    refine wq_of (StB.store (X := X.under a) (StB.under n₄.st) hst (ea₄.rep (n₄.st.not_ban_exc hs ea₄)) fun s₅ S₅ lb₅ => ?_)
    have n₅ : Nx X σ T s (σ₁.upd n (.exc i j r)) T₁ s₅ := n₄.trans ⟨StB.out S₅ S.ok, lb₅, fun b _ q => Cx.ban_upd q⟩
    have ea₅ := ea₄.leB n₄.st hs lb₅
    refine wq_mono (hH a s.heap.objs.size T₁ s₅ S₅ hs n₅.le.size ea₅) (fun f s₆ t_0 => x3a3 t_0 fun T₆ o σ₆ n₆ f₆ q₆ => ?_) fun e s₆ t_0 => x4a4 t_0 fun T₆ x σ₆ a' he n₆ ea₆ q₆ => ?_
    · have n₆' := n₅.trans (n₆.out S.ok)
      exact wq_of (n₆'.st.goesF f₆ hn (frl n₆'.st) fun s₇ n₇ f₇ => ⟨T₆, o, [], n₆'.trans n₇, f₇, q₆⟩)
    · subst he
      have n₆' := n₅.trans (n₆.out S.ok)
      have ea₆' := ea₆
      have hfro₆ := n₆'.st.fro
      rw [hfr] at hfro₆
      refine wpAny_noteX (A := (X.under a).A) (hfr ▸ n₆'.st.ok.a.frames) hfro₆ hf n₆'.le.size ea₆' fun h₇ sh₇ ea₇ => ?_
      have n₇ := n₆'.shift hs sh₇
      refine wq_of (StB.goes (X := X.under a) (StB.under n₇.st) hn fun s₈ n₈ => ?_)
      have ea₈ := ea₇.leB n₇.st hs n₈.le
      have n₈' := n₇.trans (n₈.out S.ok)
      refine wpAny_passOnX ea₈ fun h₉ sh₉ ea₉ => ?_
      exact onx _ a' x T₆ [] (n₈'.shift hs sh₉) (ea₉.weak (Nat.le_refl _)) q₆
end
end Mine
namespace Mine
open PySem PySem.W PyProof.Rows
variable [Lo]
variable {W : World}
section
variable {M : Model} {A : Around} {E : Value → Shared → Prop} {s : Shared} {env : Env}
omit [Lo] in
noncomputable def compEnd (M : Model) (A : Around) (E : Value → Shared → Prop) (use : Option (Value → Sem Unit)) (Q : Value → Shared → Prop) (acc : Value) (C : Addr) (s' : Shared) : Prop :=
  match use with
  | none => ∃ m, s'.heap.Ns C m ∧ ∀ h', Heap.SameBut C s'.heap h' → Q acc { s' with heap := h' }
  | some u => wq M A (u acc) (fun _ s'' => ∃ m, s''.heap.Ns C m ∧ ∀ h', Heap.SameBut C s''.heap h' → Q .none { s'' with heap := h' }) E s'
theorem wq_standIf {α : Type} {c : Prop} [Decidable c] {pos : Pos} {k : PUnit → Sem α} {Q : α → Shared → Prop} (h : wq M A (k ()) Q E s) :
    wq M A (if c then (standAt pos >>= k) else k ()) Q E s := by
  split
  · exact wq_bind (wq_standAt h)
  · exact h
theorem wq_comprehension {e : Expr} {scope : Scope} {pos : Pos} {newAcc first : Sem Value} {g : Comprehension} {gs : List Comprehension} {cl : List (Str × Addr)} {use : Option (Value → Sem Unit)}
    {Q : Value → Shared → Prop}
    (hcl : clausesOf e = g :: gs) (hs : ∀ x, foldedSetIterable g.iter env x = pure x) (hclos : closureFor scope env = pure cl)
    (hkind : scope.kind = .function) (hnames : ∀ x ∈ scope.names, x.2 = .local → scope.names.lookup x.1 = some .local)
    (h : wq M A first (fun x s₁ => wq M A (pyIter x) (fun it s₂ => wq M A newAcc (fun acc s₃ =>
      wq M A (newFunctionEnv scope env.globals cl [] env.qual none .none (some env)) (fun cenv s₄ =>
        cq M A (.compStart e 0 it acc { cenv with scope := relabel scope env }) (fun r s' => (∃ f, r = .ok f) ∧ compEnd M A E use Q acc cenv.locals s') s₄) E s₃) E s₂) E s₁) E s) :
    wq M A (comprehension e scope env pos newAcc false first use) Q E s := by
  unfold comprehension
  rw [hclos, hcl]
  refine wq_bind (wq_mono h (fun x s₁ h₁ => wq_bind (wq_standAt (wq_bind (wq_eq (hs x) (wq_pure (wq_bind (wq_holding (wq_mono h₁ (fun it s₂ h₂ =>
    wq_standIf (wq_bind (wq_mono h₂ (fun acc s₃ h₃ => wq_bind (wq_pure (wq_bind (wq_mono h₃ (fun cenv s₄ h₄ => ?_) fun _ _ h' => h')))) fun _ _ h' => h')))
      fun _ _ h' => h')))))))) fun _ _ h' => h')
  dsimp only
  have hv : ∀ x ∈ (scope.names.filter fun x => (x.2 == .local || x.2 == .cell) && x.1 != (".0" : Str)).reverse, x.2 = .local →
      Env.kindOf { cenv with scope := relabel scope env } x.1 = some .local := fun x hx hl => lookup_relabel_local (hnames x (List.mem_filter.mp (List.mem_reverse.mp hx)).1 hl)
  have hv' : ∀ x ∈ (scope.names.filter fun x => (x.2 == .local || x.2 == .cell) && x.1 != (".0" : Str)).reverse.drop 1 ++ (scope.names.filter fun x => (x.2 == .local || x.2 == .cell) && x.1 != (".0" : Str)).reverse.take 1,
      x.2 = .local → Env.kindOf { cenv with scope := relabel scope env } x.1 = some .local := fun x hx hl =>
    (List.mem_append.mp hx).elim (fun h1 => hv x (List.mem_of_mem_drop h1) hl) fun h1 => hv x (List.mem_of_mem_take h1) hl
  have go : ∀ (vs : List (Str × NameKind)) (cellsOf : List (Str × NameKind) → List Value) (s : Shared) (m : Str → Option Value) (Q : Unit → Shared → Prop), (∀ x ∈ vs, x.2 = .local → Env.kindOf { cenv with scope := relabel scope env } x.1 = some .local) → s.heap.Ns cenv.locals m →
      (∀ h', Heap.SameBut cenv.locals s.heap h' → Q () { s with heap := h' }) → wq M A (comprehension.letGo { cenv with scope := relabel scope env } cellsOf vs) Q E s := fun vs cellsOf s m Q h1 h2 h3 =>
    wq_of (wpAny_comp_letGo (cenv := { cenv with scope := relabel scope env }) hkind vs s m h1 h2 fun h' _ _ hs' => h3 h' hs')
  refine wq_holding (wq_bind (wq_attempt (wq_holding (wq_run (cq_mono h₄ fun r s' hr => ?_)))))
  obtain ⟨⟨f, rfl⟩, hr⟩ := hr
  unfold compEnd at hr
  cases use with
  | none =>
    obtain ⟨m, hn, hr⟩ := hr
    exact wq_bind (wq_holding (go _ _ s' m _ hv hn fun h' hs' => wq_pure (hr h' hs')))
  | some u =>
    refine wq_bind (wq_rule (wq_bind (wq_holding (wq_mono hr (fun _ s'' hr' => ?_) fun _ _ h' => h'))))
    obtain ⟨m, hn, hr'⟩ := hr'
    exact wq_bind (go _ _ s'' m _ hv' hn fun h' hs' => wq_pure (hr' h' hs'))
end
section
variable {prog : Program} {w : World} {A : Around} {R : Result → Shared → Prop} {s : Shared}
omit [Lo] in
noncomputable abbrev compTests' (ifs : List Expr) (env : Env) : Sem Bool :=
  forIn ifs true fun c r => if r = true then do let ok ← isTrue c env (eval c env); pure (ForInStep.yield ok) else pure (ForInStep.yield r)
omit [Lo] in
noncomputable def TurnIs (e target iter : Expr) (ifs : List Expr) (it acc : Value) (env : Env) (emit : Sem Unit) : Prop :=
  compTurn e 0 it acc env = (do
      standAt iter.pos
      match ← pyNext it with
      | none => pure (.done .next)
      | some v =>
        letOwnedTupleGo target it v
        assign target env v
        let mut ok := true
        for c in ifs do
          if ok then ok ← isTrue c env (eval c env)
        if ok then emit
        again (.compLoop e 0 it acc env))
theorem turnIs_list (elt target iter : Expr) (ifs : List Expr) (scope : Scope) (pos : Pos) (it acc : Value) (env : Env) :
    TurnIs (.ListComp elt [⟨target, iter, ifs, 0⟩] scope pos) target iter ifs it acc env (do let _ ← call (.builtin "list.append") [acc, ← eval elt env]) := compTurn_list ..
theorem turnIs_dict (kx vx target iter : Expr) (ifs : List Expr) (scope : Scope) (pos : Pos) (it : Value) (D : Addr) (env : Env) :
    TurnIs (.DictComp kx vx [⟨target, iter, ifs, 0⟩] scope pos) target iter ifs it (.ref D) env (do
            let kv ← eval kx env
            let vv ← holding [kv] (eval vx env)
            standAt { kx.pos with endLine := vx.pos.endLine, endCol := vx.pos.endCol }
            holding [kv, vv] (dictSet D kv vv)) := compTurn_dict ..
theorem cq_compLoop {e target iter : Expr} {ifs : List Expr} {it acc : Value} {env : Env} {emit : Sem Unit} (ht : TurnIs e target iter ifs it acc env emit) (I : Nat → Shared → Prop)
    (turn : ∀ n s, I n s → wq (model prog w) A (pyNext it) (fun r s₁ => match r with
      | none => R (.ok .next) s₁
      | some v => wq (model prog w) A (letOwnedTupleGo target it v) (fun _ s₁' => wq (model prog w) A (assign target env v) (fun _ s₂ =>
          wq (model prog w) A (compTests' ifs env) (fun ok s₃ =>
            if ok = true then wq (model prog w) A emit (fun _ s₅ => ∃ m, m < n ∧ I m s₅) (fun _ _ => False) s₃
            else ∃ m, m < n ∧ I m s₃) (fun _ _ => False) s₂) (fun _ _ => False) s₁') (fun _ _ => False) s₁) (fun _ _ => False) s)
    (n : Nat) (h : I n s) (hu : A.under (.compLoop e 0 it acc env) = A)
    (hden : (model prog w).den (.compLoop e 0 it acc env) = ((compTurn e 0 it acc env).onRaise (fun x => do noteFrame x env; theTreesLotGoes x))) :
    cq (model prog w) A (.compLoop e 0 it acc env) R s := by
  refine cq_loop trivial rfl I (fun n s hI => ?_) n h
  rw [hu, hden]
  refine wq_noted ?_
  rw [ht]
  refine wq_bind (wq_standAt (wq_bind (wq_mono (turn n s hI) (fun r s₁ h₁ => ?_) fun _ _ h' => h'.elim)))
  cases r with
  | none => exact wq_pure h₁
  | some v =>
    refine wq_bind (wq_mono h₁ (fun _ s₁' h₁ => ?_) fun _ _ h' => h'.elim)
    refine wq_bind (wq_mono h₁ (fun _ s₂ h₂ => wq_bind (wq_mono h₂ (fun ok s₃ h₃ => ?_) fun _ _ h' => h'.elim)) fun _ _ h' => h'.elim)
    cases ok with
    | false => exact wq_pure (.inl ⟨rfl, h₃⟩)
    | true => exact wq_bind (wq_mono h₃ (fun _ s₅ h₅ => wq_pure (.inl ⟨rfl, h₅⟩)) fun _ _ h' => h'.elim)
theorem wq_notedAt {α : Type} {M : Model} {A : Around} {env : Env} {m : Sem α} {pos : Pos} {Q : α → Shared → Prop} {E : Value → Shared → Prop} {s : Shared} (h : wq M A m Q (fun _ _ => False) s) :
    wq M A (m.onRaise fun x => do noteFrame x env; standAt pos) Q E s :=
  wq_onRaise (wq_mono h (fun _ _ q => q) fun _ _ hx => hx.elim)
theorem cq_compStart {e target iter : Expr} {ifs : List Expr} {it acc : Value} {env : Env} (hcl : clausesOf e = [⟨target, iter, ifs, 0⟩])
    (hden : (model prog w).den (.compStart e 0 it acc env) = ((compStart e 0 it acc env).onRaise (fun x => do noteFrame x env; standAt theWindowsPlace)))
    (h0 : cq (model prog w) A (.compLoop e 0 it acc env) R s)
    (hself : ∀ (Q : Value → Shared → Prop) (E : Value → Shared → Prop), Q it s → wpAny (model prog w) A (pyIter it) Q E s) (hu : A.under (.compStart e 0 it acc env) = A) :
    cq (model prog w) A (.compStart e 0 it acc env) R s := by
  refine cq_of_tree trivial ?_
  rw [hu, hden]
  refine wq_notedAt ?_
  unfold compStart
  rw [hcl]
  show wq _ A (ask >>= _) _ _ s
  refine wq_bind (wq_of (wpAny_askSetting ?_))
  show wq _ _ (if _ then _ else _) _ _ _
  split
  · exact wq_bind (wq_pure (wq_pure (And.intro rfl h0)))
  · refine wq_bind (wq_rule ?_)
    show wq _ _ (standAt iter.pos >>= _) _ _ s
    exact wq_bind (wq_standAt (wq_bind (wq_of (hself _ _ (wq_pure (And.intro rfl h0))))))
end
end Mine
namespace Mine
open PySem PySem.W PyProof.Rows
variable [Lo]
variable {W : World}
omit [Lo] in
noncomputable abbrev accS (D : Addr) (v : AV) : Sto := [("__classdict__", ⟨some D, v⟩)]
omit [Lo] in
noncomputable def clGo (cells : List (Str × Addr)) : List (Str × NameKind) → List (Str × Addr) → List (Str × Addr)
  | [], acc => acc
  | (n, k) :: r, acc => clGo cells r (if k == .free then match cells.lookup n with | some a => (n, a) :: acc | none => acc else acc)
omit [Lo] in
noncomputable def clOf (scope : Scope) (cells : List (Str × Addr)) : List (Str × Addr) := clGo cells scope.names []
omit [Lo] in
noncomputable def freeOk (names : List (Str × NameKind)) (cells : List (Str × Addr)) : Bool := names.all fun x => x.2 != .free || (cells.lookup x.1).isSome
theorem closure_go {env : Env} (f : Str × NameKind → List (Str × Addr) → Sem (ForInStep (List (Str × Addr))))
    (hf : ∀ n k c, f (n, k) c = if (k == NameKind.free) = true then (do let a ← cellOf env n; pure (.yield ((n, a) :: c))) else pure (.yield c)) :
    ∀ (names : List (Str × NameKind)) (acc : List (Str × Addr)), freeOk names env.cells = true → forIn names acc f = (pure (clGo env.cells names acc) : Sem _)
  | [], acc, _ => rfl
  | (n, k) :: r, acc, h => by
    obtain ⟨h1, h2⟩ := Bool.and_eq_true_iff.mp (show ((k != .free || (env.cells.lookup n).isSome) && freeOk r env.cells) = true from h)
    rw [List.forIn_cons, hf]
    by_cases hk : (k == NameKind.free) = true
    · have hk' : k = .free := by simpa using hk
      have hs : (env.cells.lookup n).isSome = true := by simpa [hk'] using h1
      obtain ⟨a, ha⟩ := Option.isSome_iff_exists.mp hs
      rw [if_pos hk]
      unfold clGo
      rw [if_pos hk]
      simp only [cellOf, ha]
      exact closure_go f hf r ((n, a) :: acc) h2
    · rw [if_neg hk]
      unfold clGo
      rw [if_neg hk]
      exact closure_go f hf r acc h2
theorem closure_of {scope : Scope} {env : Env} (h : freeOk scope.names env.cells = true) : closureFor scope env = pure (clOf scope env.cells) := by
  simp only [closureFor]
  rw [closure_go _ (fun n k c => by cases hk : k == NameKind.free <;> simp [hk]) scope.names [] h]
  rfl
theorem clGo_lookup {cells : List (Str × Addr)} : ∀ (names : List (Str × NameKind)) (acc : List (Str × Addr)), (∀ x a, acc.lookup x = some a → cells.lookup x = some a) →
    ∀ x a, (clGo cells names acc).lookup x = some a → cells.lookup x = some a
  | [], acc, h, x, a, e => h x a e
  | (n, k) :: r, acc, h, x, a, e => by
    refine clGo_lookup r _ ?_ x a e
    intro y b hb
    split at hb
    · split at hb
      · rename_i c hc
        rw [List.lookup_cons] at hb
        split at hb
        · rename_i q; (have hb := Option.some.inj hb; subst hb); rw [beq_iff_eq.mp q]; exact hc
        · exact h y b hb
      · exact h y b hb
    · exact h y b hb
theorem clOf_lookup {scope : Scope} {cells : List (Str × Addr)} {x : Str} {a : Addr} (h : (clOf scope cells).lookup x = some a) : cells.lookup x = some a :=
  clGo_lookup scope.names [] (fun _ _ e => by simp at e) x a h
theorem clGo_acc {cells : List (Str × Addr)} {x : Str} : ∀ (names : List (Str × NameKind)) (acc : List (Str × Addr)), (acc.lookup x).isSome = true → ((clGo cells names acc).lookup x).isSome = true
  | [], acc, h => h
  | (n, k) :: r, acc, h => by
    refine clGo_acc r _ ?_
    split
    · split
      · rw [List.lookup_cons]; split <;> simp_all
      · exact h
    · exact h
theorem clGo_some {cells : List (Str × Addr)} {x : Str} {a : Addr} (hx : cells.lookup x = some a) : ∀ (names : List (Str × NameKind)) (acc : List (Str × Addr)), names.lookup x = some .free → ((clGo cells names acc).lookup x).isSome = true
  | [], acc, h => by simp at h
  | (n, k) :: r, acc, h => by
    rw [List.lookup_cons] at h
    unfold clGo
    split at h
    · rename_i q; (have h := Option.some.inj h; subst h)
      rw [if_pos (by rfl), ← beq_iff_eq.mp q, hx]
      exact clGo_acc r _ (by simp [List.lookup_cons])
    · exact clGo_some hx r _ h
theorem clOf_some {scope : Scope} {cells : List (Str × Addr)} {x : Str} {a : Addr} (hx : cells.lookup x = some a) (h : scope.names.lookup x = some .free) : (clOf scope cells).lookup x = some a := by
  refine x1a1 (Option.isSome_iff_exists.mp (clGo_some hx scope.names [] h)) fun b hb => ?_
  have := clOf_lookup hb
  rw [hx] at this; (have this := Option.some.inj this; subst this); exact hb
omit [Lo] in
noncomputable def Cx.comp (X : Cx) (scope : Scope) (C : Addr) (T : Tx) (s : Shared) (B : Addr → Prop) : Cx :=
  { X with env := compEnvC scope (clOf scope X.env.cells) C X.env, T0 := T, s0 := s, B0 := B, inner := true }
omit [Lo] in
inductive SeenL (X : Cx) (σ : Sto) (scope : Scope) : Sto → Prop where
  | nil : SeenL X σ scope []
  | cons {x : Str} {v : AV} {σc : Sto} : σ.get x = some ⟨none, v⟩ → X.env.kindOf x = some .cell → scope.names.lookup x = some .free → (relabel scope X.env).names.lookup x = some .cell → SeenL X σ scope σc → SeenL X σ scope ((x, ⟨none, v⟩) :: σc)
theorem SeenL.get {X : Cx} {σ : Sto} {scope : Scope} {σc : Sto} (h : SeenL X σ scope σc) {x : Str} {c : Cell} : σc.get x = some c →
    c.own = none ∧ σ.get x = some c ∧ X.env.kindOf x = some .cell ∧ scope.names.lookup x = some .free ∧ (relabel scope X.env).names.lookup x = some .cell := by
  induction h with
  | nil => intro e; exact absurd e (by simp [Sto.get])
  | @cons y v σc h1 h2 h3 h4 _ ih =>
    intro e
    rw [Sto.get_cons] at e
    split at e
    · rename_i q; subst q; (have e := Option.some.inj e; subst e); exact ⟨rfl, h1, h2, h3, h4⟩
    · exact ih e
theorem get_append (σ τ : Sto) (x : Str) : Sto.get (σ ++ τ) x = (Sto.get σ x).or (Sto.get τ x) := by
  induction σ with
  | nil => simp [Sto.get]
  | cons p σ ih =>
    obtain ⟨y, c⟩ := p
    rw [List.cons_append, Sto.get_cons, Sto.get_cons, ih]
    split <;> simp
noncomputable def TeL (X : Cx) (ifs : List Expr) (σ : Sto) (b : Bool) : Prop := ∀ T s, St X σ T s →
  wq X.M X.A (compTests' ifs X.env) (PB T s b) noE s
theorem TeL.nil {X : Cx} {σ : Sto} : TeL X [] σ true := fun T s S => wq_pure ⟨rfl, T, .refl _ _⟩
theorem TeL.one {X : Cx} {σ : Sto} {c : Expr} {b : Bool} (h : Te X c σ b) : TeL X [c] σ b := fun T s S => by
  unfold compTests'
  simp only [List.forIn_cons, List.forIn_nil, if_true]
  exact wq_bind (wq_bind (wq_mono (h T s S) (fun b s' hb => wq_pure (wq_pure hb)) fun _ _ x => x))
noncomputable def EmitOk (X : Cx) (t : Sem Unit) (σ : Sto) (D : Addr) (av' : AV) : Prop := ∀ T s, St X σ T s →
  wq X.M X.A t (fun _ s' => ∃ T', Nx X σ T s (σ.updO "__classdict__" D av') T' s') (fun _ _ => False) s
noncomputable def CTurn (X : Cx) (target : Expr) (ifs : List Expr) (t : Sem Unit) (σc : Sto) (D : Addr) (x av av' : AV) : Prop :=
  ∃ σ₁, Binds X target x (σc ++ accS D av) σ₁ ∧ ∃ b, TeL X ifs σ₁ b ∧
    (b = false → av' = av ∧ Sto.Sub (σc ++ accS D av) σ₁) ∧
    (b = true → EmitOk X t σ₁ D av' ∧ Sto.Sub (σc ++ accS D av') (σ₁.updO "__classdict__" D av'))
section
variable {X : Cx} {σ : Sto} {T : Tx} {s : Shared}
theorem comp_ban {scope : Scope} {σc : Sto} {C D : Addr} {T₁ : Tx} {s₁ : Shared} {av : AV} (seen : SeenL X σ scope σc) {b : Addr}
    (h : (X.comp scope C T₁ s₁ (X.ban σ)).ban (σc ++ accS D av) b) : X.ban σ b ∨ b = C ∨ b = D := by
  rcases h with h | h | ⟨x, h⟩ | ⟨x, v, h⟩
  · exact .inl h
  · exact .inr (.inl h)
  · exact .inl (.inr (.inr (.inl ⟨x, clOf_lookup h⟩)))
  · rw [get_append] at h
    cases e : σc.get x with
    | none =>
      rw [e, Option.none_or, Sto.get_cons] at h
      split at h
      · cases Option.some.inj h; exact .inr (.inr rfl)
      · exact absurd h (by simp [Sto.get])
    | some c =>
      rw [e] at h
      simp only [Option.some_or] at h
      (have h := Option.some.inj h; subst h)
      have := (seen.get e).1
      exact sn this
theorem StB.comp (S : St X σ T s) {scope : Scope} {σc : Sto} {C D : Addr} {T' : Tx} {s' : Shared} {av : AV} (seen : SeenL X σ scope σc) (l : Le T s T' s') (hkind : scope.kind = .function)
    (hacc : (relabel scope X.env).names.lookup ("__classdict__" : Str) = none) (hC : s.heap.objs.size ≤ C) (hD : s.heap.objs.size ≤ D) (hDC : D ≠ C) {m : Str → Option Value} (hn : s'.heap.Ns C m)
    (r : OwnRep X.w ((X.comp scope C T s (X.ban σ)).ban (σc ++ accS D av)) T' s'.toks s'.heap D av) : St (X.comp scope C T s (X.ban σ)) (σc ++ accS D av) T' s' := by
  have nob : ∀ b, X.ban σ b → b ≠ C ∧ b ≠ D := fun b hb => ⟨fun q => Nat.lt_irrefl _ (Nat.lt_of_lt_of_le (S.ban_lt hb) (q ▸ hC)), fun q => Nat.lt_irrefl _ (Nat.lt_of_lt_of_le (S.ban_lt hb) (q ▸ hD))⟩
  have S' := S.le_mono l
  have own : ∀ a, Sto.owned (σc ++ accS D av) a → a = D := fun a t_0 => x2a1 t_0 fun x v h => by
    rw [get_append] at h
    cases e : σc.get x with
    | none =>
      rw [e, Option.none_or, Sto.get_cons] at h
      split at h
      · cases h; rfl
      · exact absurd h (by simp [Sto.get])
    | some c =>
      rw [e] at h
      simp only [Option.some_or] at h
      cases h
      have := (seen.get e).1
      cases this
  exact {
    ok := {
      a := S.ok.a
      hh := S.ok.hh
      kind := hkind
      glob := S.ok.glob
      bu := S.ok.bu
      pg := S.pg
      nb := Nat.le_trans S.ok.nb S.le.ext.1
      hB := fun a q => ⟨S.ban_ge q, S.ban_lt q⟩
      locals := hC
      cl := fun x a q => S.ok.cl x a (clOf_lookup q) }
    le := l
    pos := S'.pos
    fro := S'.fro
    vars := by
      refine ⟨m, hn, fun x c e => ?_⟩
      rw [get_append] at e
      cases e1 : σc.get x with
      | none =>
        rw [e1, Option.none_or, Sto.get_cons] at e
        split at e
        · rename_i q; subst q; cases e
          refine ⟨.ref D, ?_, rfl, r⟩
          unfold VarAt
          rw [show (X.comp scope C T s (X.ban σ)).env.kindOf "__classdict__" = none from hacc]
        · exact absurd e (by simp [Sto.get])
      | some c' =>
        rw [e1] at e
        simp only [Option.some_or] at e
        cases e
        refine x0a5 (seen.get e1) fun h0 h1 h2 h3 h4 => ?_
        refine x1a2 (S.vars) fun m₀ hn₀ hv₀ => ?_
        refine x1a2 (hv₀ x c h1) fun v w1 w2 => ?_
        unfold VarAt at w1
        rw [h2] at w1
        refine x1a2 w1 fun a c1 c2 => ?_; (try clear w1)
        refine ⟨v, ?_, ?_⟩
        · unfold VarAt
          rw [show (X.comp scope C T s (X.ban σ)).env.kindOf x = some .cell from h4]
          exact ⟨a, clOf_some c1 h3, isCell_ext c2 l.ext⟩
        · refine w2.mono l.toks l.tx l.ext fun b q => ?_
          rcases comp_ban seen q with q | q | q
          · exact .inl q
          · exact .inr (Heap.get?_none_of_le (q ▸ hC))
          · exact .inr (Heap.get?_none_of_le (q ▸ hD))
    cells := fun x a q => by
      have q' := clOf_lookup q
      refine x0a3 (S'.cells x a q') fun h1 h2 t_0 => ?_; refine x1a1 t_0 fun v h3 => ?_; (try clear t_0)
      exact ⟨(fun h => by cases h), (nob a (.inr (.inr (.inl ⟨x, q'⟩)))).1, v, h3⟩
    apart := fun x y a h1 h2 => S.apart x y a (clOf_lookup h1) (clOf_lookup h2)
    fresh := fun a o => by
      obtain rfl := own a o
      exact ⟨hD, hDC, fun x q => (nob a (.inr (.inr (.inl ⟨x, clOf_lookup q⟩)))).2 rfl⟩
    one := fun x y a v v' h1 h2 => by
      have f : ∀ x v, Sto.get (σc ++ accS D av) x = some ⟨some a, v⟩ → x = "__classdict__" := fun x v h => by
        rw [get_append] at h
        cases e : σc.get x with
        | none =>
          rw [e, Option.none_or, Sto.get_cons] at h
          split at h
          · assumption
          · exact absurd h (by simp [Sto.get])
        | some c =>
          rw [e] at h
          simp only [Option.some_or] at h
          cases h
          have := (seen.get e).1
          cases this
      exact (f x v h1).trans (f y v' h2).symm }
end
omit [Lo] in
noncomputable def NewOk (X : Cx) (newAcc : Sem Value) (av : AV) : Prop := ∃ o : Obj, o.isFreed = false ∧ (∀ B T n (h : Heap) a, 4 ≤ a → h.get? a = some o → OwnRep X.w B T n h a av) ∧
  ∀ (s : Shared) (Q : Value → Shared → Prop) (E : Value → Shared → Prop), Q (.ref s.heap.objs.size) { s with heap := s.heap.push o } → wpAny X.M X.A newAcc Q E s
omit [Lo] in
structure CompShape (X : Cx) (e target iter : Expr) (ifs : List Expr) (scope : Scope) (emit : Addr → Env → Sem Unit) : Prop where
  cl : clausesOf e = [⟨target, iter, ifs, 0⟩]
  turn : ∀ it D env, TurnIs e target iter ifs it (.ref D) env (emit D env)
  u1 : ∀ it acc env, X.A.under (.compLoop e 0 it acc env) = X.A
  u2 : ∀ it acc env, X.A.under (.compStart e 0 it acc env) = X.A
  d1 : ∀ it acc env, X.M.den (.compLoop e 0 it acc env) = ((compTurn e 0 it acc env).onRaise (fun x => do noteFrame x env; theTreesLotGoes x))
  d2 : ∀ it acc env, X.M.den (.compStart e 0 it acc env) = ((compStart e 0 it acc env).onRaise (fun x => do noteFrame x env; standAt theWindowsPlace))
omit [Lo] in
structure ScopeOk (X : Cx) (scope : Scope) : Prop where
  free : freeOk scope.names X.env.cells = true
  kind : scope.kind = .function
  names : ∀ x ∈ scope.names, x.2 = .local → scope.names.lookup x.1 = some .local
  cell : ∀ x ∈ scope.names, x.2 ≠ .cell
  acc : (relabel scope X.env).names.lookup ("__classdict__" : Str) = none
structure ItrC (X : Cx) (B : Addr → Prop) (target : Expr) (it : Value) (xs : List AV) (T1 : Tx) (s1 : Shared) (I : Addr → Prop) (J : Nat → Heap → Prop) : Prop where
  own : ∀ b, I b → s1.heap.objs.size ≤ b
  same : ∀ k h h', J k h → (∀ b o, I b → h.get? b = some o → ∃ sl, h'.get? b = some { o with slots := keepS b o sl }) → J k h'
  there : ∀ k h, J k h → ∀ b, I b → b < h.objs.size
  next : ∀ k (x : AV) T s (B' : Addr → Prop), xs[k]? = some x → J k s.heap → Le T1 s1 T s → (∀ b, B' b → b < s1.heap.objs.size → B b) → (∀ b, B' b → b < s.heap.objs.size ∧ ¬ I b) → X.G.In s.heap → 0 < s.toks →
    wpAny X.M X.A (pyNext it) (fun r s₁ => ∃ v, r = some v ∧ wpAny X.M X.A (letOwnedTupleGo target it v) (fun _ s' => ∃ T', Mv s1.heap.objs.size T s T' s' ∧ Rep X.w B' T' s'.toks s'.heap v x ∧ J (k + 1) s'.heap) (fun _ _ => False) s₁) (fun _ _ => False) s
  stop : ∀ T s, J xs.length s.heap → Le T1 s1 T s → X.G.In s.heap → 0 < s.toks →
    wpAny X.M X.A (pyNext it) (fun r s' => r = none ∧ ∃ T', Mv s1.heap.objs.size T s T' s') (fun _ _ => False) s
  self : ∀ k (s : Shared) (Q : Value → Shared → Prop) (E : Value → Shared → Prop), J k s.heap → Q it s → wpAny X.M X.A (pyIter it) Q E s
noncomputable def EvIC (X : Cx) (iter : Expr) (target : Expr) (σ : Sto) (xs : List AV) : Prop := ∀ T s, St X σ T s →
  wq X.M X.A (eval iter X.env) (fun x s₁ => wq X.M X.A (pyIter x) (fun it s₂ => ∃ T₀ s₀ T₂ I J, Le T s T₀ s₀ ∧ Le T₀ s₀ T₂ s₂ ∧ ItrC X (X.ban σ) target it xs T₀ s₀ I J ∧ J 0 s₂.heap) (fun _ _ => False) s₁) (fun _ _ => False) s
theorem EvI.c {X : Cx} {σ : Sto} {iter target : Expr} {xs : List AV} (h : EvI X iter target σ xs) : EvIC X iter target σ xs := fun T s S =>
  wq_mono (h T s S) (fun _ _ h₁ => wq_mono h₁ (fun _ _ t_0 => x5a4 t_0 fun T₀ s₀ T₂ I J a b itr j => ⟨T₀, s₀, T₂, I, J, a, b,
    ⟨itr.own, itr.same, itr.there, fun k x T s B' h1 h2 h3 => itr.next k x T s B' h1 h2 (h3.leB _), fun T s h1 h2 => itr.stop T s h1 (h2.leB _), itr.self⟩, j⟩) fun _ _ x => x) fun _ _ x => x
section
variable {X : Cx} {σ : Sto} {T : Tx} {s : Shared}
theorem comp_core {e target iter : Expr} {ifs : List Expr} {scope : Scope} {pos : Pos} {emit : Addr → Env → Sem Unit} {newAcc : Sem Value} {use : Option (Value → Sem Unit)} {xs : List AV} {σc : Sto} {vals : Nat → AV}
    {Q : Value → Shared → Prop} {E : Value → Shared → Prop} (S : St X σ T s) (h : EvIC X iter target σ xs) (sh : CompShape X e target iter ifs scope emit) (so : ScopeOk X scope) (seen : SeenL X σ scope σc) (hnew : NewOk X newAcc (vals 0))
    (turn : ∀ C D T₁ s₁ k x, xs[k]? = some x → CTurn (X.comp scope C T₁ s₁ (X.ban σ)) target ifs (emit D (compEnvC scope (clOf scope X.env.cells) C X.env)) σc D x (vals k) (vals (k + 1)))
    (fin : ∀ C D T₁ s₁ T' s', Le T s T₁ s₁ → St X σ T₁ s₁ → s₁.heap.objs.size ≤ C → s₁.heap.objs.size ≤ D → D ≠ C → St (X.comp scope C T₁ s₁ (X.ban σ)) (σc ++ accS D (vals xs.length)) T' s' → compEnd X.M X.A E use Q (.ref D) C s')
    (hs : autoParam (∀ x, foldedSetIterable iter X.env x = pure x) byI1) :
    wq X.M X.A (comprehension e scope X.env pos newAcc false (eval iter X.env) use) Q E s := by
  refine wq_comprehension sh.cl hs (closure_of so.free) so.kind so.names ?_
  refine wq_mono (h T s S) (fun v s' h₁ => ?_) fun _ _ x => x.elim
  refine wq_mono h₁ (fun it s₂ t_0 => x5a4 t_0 fun T₁ s₁ T₂ Io J l₁ l₂ itr j0 => ?_) fun _ _ x => x.elim
  have S₁ := S.le_mono l₁
  have S₂ := S₁.le_mono l₂
  refine x1a3 hnew fun o hof hown hmake => ?_; (try clear hnew)
  refine wq_of (hmake s₂ _ _ ?_)
  refine wq_of (wpAny_newFunctionEnv so.cell (by intro y hy; simp at hy) (fun h₁ hns₁ hsb₁ => ?_) so.kind)
  have hCs : ({ s₂ with heap := s₂.heap.push o } : Shared).heap.objs.size = s₂.heap.objs.size + 1 := Heap.size_push ..
  revert hns₁ hsb₁
  generalize hC : ({ s₂ with heap := s₂.heap.push o } : Shared).heap.objs.size = C
  rw [hCs] at hC
  intro hns₁ hsb₁
  generalize hD : s₂.heap.objs.size = D at hC
  have hDC : D ≠ C := by (clear hD hCs; lia)
  have lt1 : ∀ b, b < s₂.heap.objs.size → b ≠ C ∧ b ≠ D := fun b hb => ⟨Nat.ne_of_lt (Nat.lt_trans hb (by rw [hD, ← hC]; exact Nat.lt_succ_self _)), Nat.ne_of_lt (hD ▸ hb)⟩
  have hold : ∀ b ob, s₂.heap.get? b = some ob → h₁.get? b = some ob := fun b ob eb => by
    exact hsb₁.extBut b ob (lt1 b (Heap.lt_size eb)).1 (Heap.get?_push_of_some _ (Heap.get?_push_of_some _ eb))
  have hgetD : h₁.get? D = some o := hsb₁.extBut _ _ hDC (Heap.get?_push_of_some _ (hD ▸ Heap.get?_push_size _ hof))
  have l₃ : Le T₂ s₂ T₂ ({ s₂ with heap := h₁, toks := s₂.toks + ([] : List (Str × Value)).length } : Shared) :=
    Le.mk' (Ext.keeps (by have h0 : (D : Nat) < h₁.objs.size := Heap.lt_size hgetD; rw [hD]; exact Nat.le_of_lt h0) hold) (Nat.le_add_right _ _)
  have l₁₃ := l₂.trans l₃
  have big : 4 ≤ D := hD ▸ S₂.big
  have hCs₁ : s₁.heap.objs.size ≤ C := by have := l₂.ext.1; (clear hCs; lia)
  have hDs₁ : s₁.heap.objs.size ≤ D := by have := l₂.ext.1; (clear hCs₁ hC hCs; lia)
  have nIo : ∀ b, Io b → ∀ av, ¬ (X.comp scope C T₁ s₁ (X.ban σ)).ban (σc ++ accS D av) b := fun b hb av q => by
    have h1 := itr.own b hb
    have h2 := itr.there _ _ j0 b hb
    rcases comp_ban seen q with q | q | q
    · exact Nat.lt_irrefl _ (Nat.lt_of_lt_of_le (S₁.ban_lt q) h1)
    · exact (lt1 b h2).1 q
    · exact (lt1 b h2).2 q
  have St0 := S₁.comp (C := C) (D := D) (av := vals 0) (T' := T₂) seen l₁₃ so.kind so.acc hCs₁ hDs₁ hDC hns₁ (hown _ _ _ _ _ big hgetD)
  have hold' : ∀ k, J k s₂.heap → J k h₁ := fun k hj => itr.same k _ _ hj fun b ob _ eb => ⟨_, keepS_re (hold b ob eb)⟩
  show cq X.M X.A (.compStart e 0 it (.ref D) (compEnvC scope (clOf scope X.env.cells) C X.env)) _ _
  refine cq_compStart sh.cl (sh.d2 _ _ _) ?_ (fun Q E q => itr.self 0 _ Q E (hold' 0 j0) q) (sh.u2 _ _ _)
  let K : Nat → Shared → Prop := fun n s' => ∃ T' k, n = xs.length - k ∧ k ≤ xs.length ∧ St (X.comp scope C T₁ s₁ (X.ban σ)) (σc ++ accS D (vals k)) T' s' ∧ J k s'.heap
  refine cq_compLoop (sh.turn it D _) K (fun n s' t_0 => x2a4 t_0 fun T' k hn hk S' hj => ?_) xs.length ⟨T₂, 0, rfl, Nat.zero_le _, St0, hold' 0 j0⟩ (sh.u1 _ _ _) (sh.d1 _ _ _)
  by_cases hkx : k < xs.length
  · have hx : xs[k]? = some xs[k] := List.getElem?_eq_getElem hkx
    refine wq_mono (wq_of <| itr.next k xs[k] T' s' ((X.comp scope C T₁ s₁ (X.ban σ)).ban (σc ++ accS D (vals k))) hx hj S'.le (fun b q hlt => ?_) (fun b q => ⟨S'.ban_lt q, fun i => nIo b i _ q⟩) S'.pg S'.pos) (fun r s₃ t_0 => x1a2 t_0 fun v hr h₃ => ?_) fun _ _ x => x.elim
    · rcases comp_ban seen q with q | q | q
      · exact q
      · exact absurd q (lt1 b (Nat.lt_of_lt_of_le hlt l₂.ext.1)).1
      · exact absurd q (lt1 b (Nat.lt_of_lt_of_le hlt l₂.ext.1)).2
    subst hr
    refine wq_mono (wq_of h₃) (fun _ s₄ t_0 => x1a3 t_0 fun T₄ mv rep hj' => ?_) fun _ _ x => x.elim
    have S₄ := S'.mv mv (Nat.le_refl _)
    refine x1a2 (turn C D T₁ s₁ k xs[k] hx) fun σ₁ hb t_0 => ?_; refine x1a3 t_0 fun b ht hf htr => ?_; (try clear t_0)
    refine wq_mono (hb T₄ s₄ v S₄ rep) (fun _ s₅ t_0 => x1a1 t_0 fun T₅ n₅ => ?_) fun _ _ x => x.elim
    refine wq_mono (ht T₅ s₅ n₅.st) (fun c s₆ t_0 => x0a2 t_0 fun hc t_1 => x1a1 t_1 fun T₆ l₆ => ?_) fun _ _ x => x.elim
    subst hc
    have n₆ := n₅.trans (.of_le n₅.st l₆)
    have jn : ∀ {σ' : Sto} {T'' : Tx} {s'' : Shared}, Nx (X.comp scope C T₁ s₁ (X.ban σ)) (σc ++ accS D (vals k)) T₄ s₄ σ' T'' s'' → J (k + 1) s''.heap := fun n =>
      itr.same _ _ _ hj' fun b ob i eb => n.le.ext b ob (nIo b i _) eb
    cases hc : c with
    | false =>
      subst hc
      refine x0a2 (hf rfl) fun hv hsub => ?_
      show ∃ m, m < n ∧ K m s₆
      exact ⟨xs.length - (k + 1), by (clear hDs₁ hCs₁ hC hD hCs; omega), T₆, k + 1, rfl, hkx, by rw [hv]; exact n₆.st.sub hsub, jn n₆⟩
    | true =>
      subst hc
      refine x0a2 (htr rfl) fun hem hsub => ?_
      refine wq_mono (hem T₆ s₆ n₆.st) (fun _ s₇ t_0 => x1a1 t_0 fun T₇ n₇ => ?_) fun _ _ x => x.elim
      exact ⟨xs.length - (k + 1), by (clear hDs₁ hCs₁ hC hD hCs; omega), T₇, k + 1, rfl, hkx, n₇.st.sub hsub, jn (n₆.trans n₇)⟩
  · obtain rfl : k = xs.length := by (clear hn t_0 hDs₁ hCs₁ big hC hD hCs; lia)
    refine wq_mono (wq_of <| itr.stop T' s' hj S'.le S'.pg S'.pos) (fun r s₃ t_0 => x0a2 t_0 fun hr t_1 => x1a1 t_1 fun T₃ mv => ?_) fun _ _ x => x.elim
    subst hr
    exact ⟨⟨_, rfl⟩, fin C D T₁ s₁ T₃ s₃ l₁ S₁ hCs₁ hDs₁ hDC (S'.mv mv (Nat.le_refl _))⟩
end
end Mine
namespace Mine
open PySem PySem.W PyProof.Rows
variable [Lo]
variable {W : World}
section
variable {B : Addr → Prop} {X : Cx} {σ : Sto} {T : Tx} {s : Shared}
theorem StB.ownAt (S : StB B X σ T s) {x : Str} {a : Addr} {av : AV} (hx : σ.get x = some ⟨some a, av⟩) : OwnRep X.w B T s.toks s.heap a av := by
  refine x1a2 (S.vars) fun m hn hv => ?_
  refine x1a3 (hv x _ hx) fun v _ _ r => ?_
  exact r
theorem StB.off (S : StB B X σ T s) {C : Addr} {h' : Heap} (hs : Heap.SameBut C s.heap h') (hB : B C) (hC : X.s0.heap.objs.size ≤ C) (hl : C ≠ X.env.locals) (hc : ∀ x, X.env.cells.lookup x ≠ some C) (ho : ¬ σ.owned C)
    (hfr : FrOk h' X.fr) : StB B X σ T { s with heap := h' } where
  ok := S.ok
  le := S.le_turn hC hs (Nat.le_refl _)
  pos := S.pos
  fro := hfr
  vars := by
    refine x1a2 (S.vars) fun m hn hv => ?_
    refine ⟨m, hn.sameBut hs (Ne.symm hl), fun y c e => ?_⟩
    refine x1a2 (hv y c e) fun v h1 h2 => ?_
    refine ⟨v, ?_, ?_⟩
    · unfold VarAt at *
      split at h1
      · exact h1
      · refine x1a2 h1 fun a c1 c2 => ?_; (try clear h1)
        exact ⟨a, c1, c2.sameBut hs fun z => hc y (z ▸ c1)⟩
      · refine x1a2 h1 fun a c1 c2 => ?_; (try clear h1)
        exact ⟨a, c1, c2.sameBut hs fun z => hc y (z ▸ c1)⟩
      · exact h1
    · refine h2.but (fun b o hb e => (hs.2 b fun q => hb (q ▸ hB)).trans e) fun a o ha e => (hs.2 a fun q => ho ?_).trans e
      obtain ⟨c0, c1⟩ := c
      cases ha
      exact ⟨y, c1, q ▸ ‹_›⟩
  cells := fun x a q => x0a3 (S.cells x a q) fun h1 h2 t_0 => x1a1 t_0 fun v h3 => ⟨h1, h2, v, h3.sameBut hs fun z => hc x (z ▸ q)⟩
  apart := S.apart
  fresh := S.fresh
  one := S.one
theorem frOk_both {h h₂ h' : Heap} : ∀ {l : List Env}, FrOk h l → FrOk h₂ l → (∀ b, FrAt h b → FrAt h₂ b → FrAt h' b) → FrOk h' l
  | [], _, _, _ => trivial
  | env :: r, ⟨a1, ⟨L, a2, a3⟩, a4⟩, ⟨_, ⟨L', b2, b3⟩, b4⟩, k => ⟨a1, ⟨L, a2, k L a3 (by rw [a2] at b2; (have b2 := Option.some.inj b2; subst b2); exact b3)⟩, frOk_both a4 b4 k⟩
theorem Nx.turned {x : Str} {a : Addr} {av av' : AV} {T' : Tx} {s' : Shared} {h' : Heap} (S : St X σ T s) (l : Le T s T' s') (hx : σ.get x = some ⟨some a, av⟩) (hs : Heap.SameBut a s'.heap h') (r : OwnRep X.w (X.ban σ) T' s'.toks h' a av') :
    Nx X σ T s (σ.updO x a av') T' { s' with heap := h' } := by
  have S' := S.le_mono l
  refine ⟨S'.turn hx hs r, (l.leB _).trans (LeB.turn (k := s'.toks) hs (.inr (.inr (.inr ⟨x, av, hx⟩))) (Nat.le_refl _)) fun _ _ q => q, fun b hb q => ?_⟩
  rcases Cx.ban_updO q with q | q
  · exact q
  · exact q ▸ .inr (.inr (.inr ⟨x, av, hx⟩))
end
section
variable {X : Cx} {σ : Sto}
omit [Lo] in
noncomputable abbrev emitL (elt : Expr) (D : Addr) (env : Env) : Sem Unit := do let _ ← call (.builtin "list.append") [.ref D, ← eval elt env]
omit [Lo] in
noncomputable abbrev emitD (kx vx : Expr) (D : Addr) (env : Env) : Sem Unit := do
  let kv ← eval kx env
  let vv ← holding [kv] (eval vx env)
  standAt { kx.pos with endLine := vx.pos.endLine, endCol := vx.pos.endCol }
  holding [kv, vv] (dictSet D kv vv)
theorem EmitOk.list {elt : Expr} {D : Addr} {l : List AV} {y : AV} (h : Ev X elt σ y) (hx : σ.get "__classdict__" = some ⟨some D, .list l⟩) (hq : X.quiet = true) (hsz : l.length ≤ 16777216) : EmitOk X (emitL elt D X.env) σ D (.list (l ++ [y])) := fun T s S => by
  refine wq_bind (h.then S fun v T' s' l' S' rv => wq_bind ?_)
  refine wq_mono (mut_append hsz X (X.ban σ) T' s' D [v] S'.ok hq (.inr (.inr (.inr ⟨_, _, hx⟩))) (fun b q => S'.ban_lt q) S'.pg S'.pos (S'.ownAt hx) (.cons rv .nil)) (fun _ s'' t_0 => x3a4 t_0 fun T'' s₁ h' l'' hs e r => ?_) fun _ _ x => x.elim
  subst e
  exact wq_pure ⟨T'', Nx.turned S (l'.trans l'') hx hs r⟩
theorem EmitOk.dict {kx vx : Expr} {D : Addr} {l : List (List Nat × AV)} {k : List Nat} {y : AV} (hk : Ev X kx σ (.str k)) (hv : Ev X vx σ y) (hx : σ.get "__classdict__" = some ⟨some D, .dict l⟩) (hsz : l.length ≤ 16777216) :
    EmitOk X (emitD kx vx D X.env) σ D (.dict (putL l k y)) := fun T s S => by
  refine wq_bind (hk.then S fun kv T₁ s₁ l₁ S₁ rk => wq_bind (wq_holding (hv.then S₁ fun vv T₂ s₂ l₂ S₂ rv => wq_bind (wq_standAt (wq_holding ?_)))))
  refine x2a5 (rep_str_inv (rk.le l₂)) fun z t e_0 hz h2 h3 h4 => ?_; subst e_0
  refine x1a2 ((S₂.ownAt hx).dct) fun es hl re => ?_
  subst hz
  refine wq_of (dictSet_e hl (by have := re.length; simp at this; lia) fun h' es' hl' he hs => ?_)
  refine ⟨T₂, Nx.turned (s' := { s₂ with toks := s₂.toks + 1 }) S ((l₁.trans l₂).trans (.tok (Nat.le_succ _))) hx hs (.ofDct hl' ?_)⟩
  rw [he]
  have hB : X.ban σ D := .inr (.inr (.inr ⟨_, _, hx⟩))
  refine (repE_put re ⟨z, t, rfl, rfl, h2, h3, h4⟩ rv).mono (Nat.le_succ _) (fun _ _ => rfl) fun w u h => ?_
  exact (h.but fun b o hb e => (hs.2 b (fun q => hb (q ▸ hB))).trans e).mono (Nat.le_succ _) (fun _ _ => rfl) (.refl _) fun _ q => .inl q
theorem compShape_list (elt target iter : Expr) (ifs : List Expr) (scope : Scope) (pos : Pos) : CompShape X (.ListComp elt [⟨target, iter, ifs, 0⟩] scope pos) target iter ifs scope (emitL elt) where
  cl := rfl
  turn := fun it D env => turnIs_list ..
  u1 := fun it acc env => under_self rfl rfl
  u2 := fun it acc env => under_self rfl rfl
  d1 := fun it acc env => rfl
  d2 := fun it acc env => rfl
theorem compShape_dict (kx vx target iter : Expr) (ifs : List Expr) (scope : Scope) (pos : Pos) : CompShape X (.DictComp kx vx [⟨target, iter, ifs, 0⟩] scope pos) target iter ifs scope (emitD kx vx) where
  cl := rfl
  turn := fun it D env => turnIs_dict ..
  u1 := fun it acc env => under_self rfl rfl
  u2 := fun it acc env => under_self rfl rfl
  d1 := fun it acc env => rfl
  d2 := fun it acc env => rfl
theorem newOk_list : NewOk X (newList []) (.list []) :=
  ⟨{ cls := .type "list", data := .seq #[] }, rfl, fun B T n h a _ e => .ofLst ⟨_, e, rfl, rfl, rfl, _, rfl⟩ .nil, fun s Q E q => wpAny_newObj_type q⟩
theorem newOk_dict : NewOk X newDict (.dict []) :=
  ⟨{ cls := .type "dict", data := .dict #[] }, rfl, fun B T n h a ha e => .ofDct (isDictAt_new e ha) .nil, fun s Q E q => wpAny_newObj_type q⟩
variable {e target iter : Expr} {ifs : List Expr} {scope : Scope} {cpos : Pos} {emit : Addr → Env → Sem Unit} {newAcc : Sem Value} {xs : List AV} {σc : Sto} {vals : Nat → AV}
theorem comp_own {C D : Addr} {T₁ T' : Tx} {s₁ s' : Shared} {av : AV} {h' : Heap} (S' : St (X.comp scope C T₁ s₁ (X.ban σ)) (σc ++ accS D av) T' s') (seen : SeenL X σ scope σc) (hacc : (relabel scope X.env).names.lookup ("__classdict__" : Str) = none) (hDC : D ≠ C)
    (hs : Heap.SameBut C s'.heap h') : OwnRep X.w (fun b => X.ban σ b ∨ b = D ∨ b = C) T' s'.toks h' D av := by
  have hx : Sto.get (σc ++ accS D av) "__classdict__" = some ⟨some D, av⟩ := by
    rw [get_append]
    cases e : σc.get "__classdict__" with
    | none => rw [Option.none_or, Sto.get_cons, if_pos rfl]
    | some c => have := (seen.get e).2.2.2.2; rw [hacc] at this; exact ns this
  have hB : (X.comp scope C T₁ s₁ (X.ban σ)).ban (σc ++ accS D av) C := .inr (.inl rfl)
  have r := (S'.ownAt hx).but (h' := h') (fun b o hb e => (hs.2 b fun q => hb (q ▸ hB)).trans e) fun o e => (hs.2 D hDC).trans e
  refine r.mono (Nat.le_refl _) (fun _ _ => rfl) (.refl _) fun b q => .inl ?_
  rcases q with q | q | q
  · exact .inl q
  · subst q; exact .inr (.inr (.inr ⟨_, _, hx⟩))
  · exact .inr (.inl q)
theorem EvN.comp (sh : CompShape X e target iter ifs scope emit) (hnew : NewOk X newAcc (vals 0)) (he : eval e X.env = comprehension e scope X.env cpos newAcc false (eval iter X.env) none)
    (h : EvIC X iter target σ xs) (so : ScopeOk X scope) (seen : SeenL X σ scope σc)
    (turn : ∀ C D T₁ s₁ k x, xs[k]? = some x → CTurn (X.comp scope C T₁ s₁ (X.ban σ)) target ifs (emit D (compEnvC scope (clOf scope X.env.cells) C X.env)) σc D x (vals k) (vals (k + 1)))
    (hs : autoParam (∀ x, foldedSetIterable iter X.env x = pure x) byI1) : EvN X e σ (vals xs.length) := fun T s S => by
  rw [he]
  refine comp_core S h sh so seen hnew turn (fun C D T₁ s₁ T' s' l₁ S₁ hC hD hDC S' => ?_) hs
  refine x1a2 (S'.vars) fun m hn _ => ?_
  refine ⟨m, hn, fun h' hsb => ?_⟩
  have hsz : s.heap.objs.size ≤ s₁.heap.objs.size := l₁.ext.1
  have lf : Le T₁ s₁ T' { s' with heap := h' } := by
    refine ⟨⟨Nat.le_trans S'.le.ext.1 (Nat.le_of_eq hsb.1.symm), fun b o eb => ?_⟩, S'.le.toks, S'.le.tx, S'.le.gens, S'.le.os⟩
    refine x1a1 (S'.le.ext.2 b o eb) fun sl e2 => ?_
    exact ⟨sl, (hsb.2 b (Nat.ne_of_lt (Nat.lt_of_lt_of_le (Heap.lt_size eb) hC))).trans e2⟩
  refine ⟨T', D, rfl, l₁.trans lf, Nat.le_trans hsz hD, (comp_own S' seen so.acc hDC hsb).mono (Nat.le_refl _) (fun _ _ => rfl) (.refl _) fun b q => .inl (q.imp id .inl)⟩
theorem Ex.assign_comp {y : Str} {py spos : Pos} {rest : List Stmt} {Q : Post} (sh : CompShape X e target iter ifs scope emit) (hnew : NewOk X newAcc (vals 0))
    (he : ∀ use, evalThenUse e X.env use = (do let _ ← comprehension e scope X.env cpos newAcc false (eval iter X.env) (some use)))
    (hsw : swapsWith e (some (.Name y py)) spos.line X.env = pure true)
    (h : EvIC X iter target σ xs) (so : ScopeOk X scope) (seen : SeenL X σ scope σc)
    (turn : ∀ C D T₁ s₁ k x, xs[k]? = some x → CTurn (X.comp scope C T₁ s₁ (X.ban σ)) target ifs (emit D (compEnvC scope (clOf scope X.env.cells) C X.env)) σc D x (vals k) (vals (k + 1)))
    (hk : storable X y) (k : ∀ a, Ex X rest (σ.updO y a (vals xs.length)) Q)
    (hs : autoParam (∀ x, foldedSetIterable iter X.env x = pure x) byI1) : Ex X (.Assign [.Name y py] e spos :: rest) σ Q := .cons fun T s S => by
  rw [exec_Assign_Name_used _ _ _ _ hsw, he]
  refine wq_bind (wq_standAt (wq_bind (wq_bind ?_)))
  refine comp_core S h sh so seen hnew turn (fun C D T₁ s₁ T' s' l₁ S₁ hC hD hDC S' => ?_) hs
  have hsz : s.heap.objs.size ≤ s₁.heap.objs.size := l₁.ext.1
  have hs0 : X.s0.heap.objs.size ≤ s₁.heap.objs.size := S₁.le.ext.1
  have nob : ∀ b, X.ban σ b → b ≠ C ∧ b ≠ D := fun b hb => ⟨fun q => Nat.lt_irrefl _ (Nat.lt_of_lt_of_le (S₁.ban_lt hb) (q ▸ hC)), fun q => Nat.lt_irrefl _ (Nat.lt_of_lt_of_le (S₁.ban_lt hb) (q ▸ hD))⟩
  have r := comp_own S' seen so.acc hDC (Heap.SameBut.refl _ _)
  have Sx : StB (fun b => X.ban σ b ∨ b = D ∨ b = C) X σ T' s' := S₁.le_ban S'.le fun b q => by
    rcases q with q | q | q
    · exact .inl q
    · exact .inr (Heap.get?_none_of_le (q ▸ hD))
    · exact .inr (Heap.get?_none_of_le (q ▸ hC))
  refine x1a2 (S'.vars) fun m hn _ => ?_
  have hn : s'.heap.Ns C m := hn
  show wq X.M X.A (do standAt py; bindName X.env y (.ref D)) _ _ s'
  refine wq_bind (wq_standAt (wq_bindName (wq_of ?_)))
  refine Sx.storeC (c := ⟨some D, vals xs.length⟩) hk ⟨fun b q => .inl q, fun b e => ?_, fun b z v' e h => ?_⟩ ⟨rfl, r⟩ fun s'' S'' lb => ?_
  · (have e := Option.some.inj e; subst e)
    exact ⟨Nat.le_trans hs0 hD, fun q => (nob _ (.inr (.inl q))).2 rfl, fun z q => (nob _ (.inr (.inr (.inl ⟨z, q⟩)))).2 rfl⟩
  · (have e := Option.some.inj e; subst e)
    exact (nob _ (.inr (.inr (.inr ⟨z, v', h⟩)))).2 rfl
  · refine x3a4 (id hn) fun oC es ep e1 e2 e3 e4 => ?_
    refine x1a1 (lb.ext C oC (fun q => (nob C q).1 rfl) e1) fun sl e5 => ?_
    refine ⟨m, ⟨_, es, ep, e5, e2, e3, e4⟩, fun h' hsb => ?_⟩
    have lall : LeB (X.ban σ) T s T' { s'' with heap := h' } := by
      have l0 : LeB (X.ban σ) T s T' s'' := ((l₁.trans S'.le).leB _).trans lb fun _ _ q => q
      exact l0.trans (LeB.turn (B := fun b => b = C) (k := s''.toks) hsb rfl (Nat.le_refl _)) fun b hb q => absurd (q ▸ hb) (Nat.not_lt.mpr (Nat.le_trans hsz hC))
    have hfro : FrOk h' X.fr := by
      refine frOk_both S₁.fro S''.fro fun b f1 f2 => ?_
      have hb : b ≠ C := by
        refine x1a2 f1 fun o f _ => ?_; (try clear f1)
        exact Nat.ne_of_lt (Nat.lt_of_lt_of_le (Heap.lt_size f) hC)
      refine x1a2 f2 fun o g1 g2 => ?_; (try clear f2)
      exact ⟨o, (hsb.2 b hb).trans g1, g2⟩
    refine wq_pure (wq_pure ⟨T', .next, _, ⟨(S''.off hsb (.inr (.inr rfl)) (Nat.le_trans hs0 hC) (fun q => (nob C (.inr (.inl q))).1 rfl) (fun z q => (nob C (.inr (.inr (.inl ⟨z, q⟩)))).1 rfl) (fun o => ?_) hfro).anti fun b q => ?_, lall, fun b hb q => ?_⟩, rfl, k D⟩)
    · refine x2a1 o fun z v' e => ?_; (try clear o)
      rw [Sto.get_cons] at e
      split at e
      · cases Option.some.inj e; exact hDC rfl
      · exact (nob C (.inr (.inr (.inr ⟨z, v', e⟩)))).1 rfl
    · rcases Cx.ban_updO q with q | q
      · exact .inl q
      · exact .inr (.inl q)
    · rcases Cx.ban_updO q with q | q
      · exact q
      · exact absurd (q ▸ hb) (Nat.not_lt.mpr (Nat.le_trans hsz hD))
end
end Mine
namespace Mine
open PySem PySem.W PyProof.Rows
variable [Lo]
variable {W : World}
namespace FU
set_option maxRecDepth 100000
theorem slot_ga : Slot "UnicodeDecodeError" "__getattribute__" "BaseException.__getattribute__" :=
  .of (owner := "BaseException") (n := "__getattribute__") (by rw [typeLookup_type, builtinLookup_eq_fast]; kernel_rfl) (by decide +kernel) (by decide +kernel) (by decide +kernel)
    (by first | exact .inl (by decide +kernel) | exact .inr (by decide +kernel)) (by rw [isSubtype_type]; kernel_rfl)
theorem slot_mset : Slot "member_descriptor" "__set__" "member_descriptor.__set__" :=
  .of (owner := "member_descriptor") (n := "__set__") (by rw [typeLookup_type, builtinLookup_eq_fast]; kernel_rfl) (by decide +kernel) (by decide +kernel) (by decide +kernel)
    (by first | exact .inl (by decide +kernel) | exact .inr (by decide +kernel)) (by rw [isSubtype_type]; kernel_rfl)
theorem lk_start : typeLookup (.type "UnicodeDecodeError") "start" = pure (some (.builtin "UnicodeDecodeError.start")) := by rw [typeLookup_type, builtinLookup_eq_fast]; kernel_rfl
theorem ty_start : typeOf (.builtin "UnicodeDecodeError.start") = pure (.type "member_descriptor") := by kernel_rfl
theorem entry_start : entryFor table "UnicodeDecodeError.start" = some Builtin.«UnicodeDecodeError.start» := entryFor_of_tree (by kernel_rfl)
theorem own_start : (".".intercalate ("UnicodeDecodeError.start".cutAt '.').dropLast) = "UnicodeDecodeError" := by
  have e0 : "UnicodeDecodeError.start".cutAt '.' = ["UnicodeDecodeError", "start"] := by first | rfl | decide +kernel
  rw [e0]; decide +kernel
theorem lk_end : typeLookup (.type "UnicodeDecodeError") "end" = pure (some (.builtin "UnicodeDecodeError.end")) := by rw [typeLookup_type, builtinLookup_eq_fast]; kernel_rfl
theorem ty_end : typeOf (.builtin "UnicodeDecodeError.end") = pure (.type "member_descriptor") := by kernel_rfl
theorem entry_end : entryFor table "UnicodeDecodeError.end" = some Builtin.«UnicodeDecodeError.end» := entryFor_of_tree (by kernel_rfl)
theorem own_end : (".".intercalate ("UnicodeDecodeError.end".cutAt '.').dropLast) = "UnicodeDecodeError" := by
  have e0 : "UnicodeDecodeError.end".cutAt '.' = ["UnicodeDecodeError", "end"] := by first | rfl | decide +kernel
  rw [e0]; decide +kernel
theorem lk_reason : typeLookup (.type "UnicodeDecodeError") "reason" = pure (some (.builtin "UnicodeDecodeError.reason")) := by rw [typeLookup_type, builtinLookup_eq_fast]; kernel_rfl
theorem ty_reason : typeOf (.builtin "UnicodeDecodeError.reason") = pure (.type "member_descriptor") := by kernel_rfl
theorem entry_reason : entryFor table "UnicodeDecodeError.reason" = some Builtin.«UnicodeDecodeError.reason» := entryFor_of_tree (by kernel_rfl)
theorem own_reason : (".".intercalate ("UnicodeDecodeError.reason".cutAt '.').dropLast) = "UnicodeDecodeError" := by
  have e0 : "UnicodeDecodeError.reason".cutAt '.' = ["UnicodeDecodeError", "reason"] := by first | rfl | decide +kernel
  rw [e0]; decide +kernel
end FU
section
set_option maxRecDepth 100000
variable {prog : Program} {w : World} {A : Around} {E : Value → Shared → Prop} {h : Heap} {g : Array GenState} {d : Drawn} {t : Nat} {os : OsState} {a : Addr} {o : Obj} {vs : Array Value} {i j : Int} {r : List Nat} {T : Tx} {n : Nat}
open Builtin.UnicodeEncodeError
theorem members_exc {M : Model} {s : Shared} {Q : Members → Shared → Prop} (ho : s.heap.get? a = some o) (hd : o.data = .fields vs) (f : ExcF T n vs i j r)
    (h : ∀ enc obj rv, StrAt T n rv r → Q { encoding := enc, object := obj, start := i, stop := j, reason := rv } s) : wpAny M A (members (.ref a)) Q E s := by
  unfold members
  refine wpAny_bind (wpAny_fieldsOf ho hd ?_)
  obtain ⟨hs, ⟨ti, h8⟩, ⟨tj, h9⟩, ⟨rv, h10, hr⟩⟩ := f
  have hh := h vs[6] vs[7] rv hr
  have e : (vs.extract 6).toList = [vs[6], vs[7], vs[8], vs[9], vs[10]] := by
    apply List.ext_getElem
    · simp [hs]
    · intro k h1 h2
      simp at h2
      have h2 : k = 0 ∨ k = 1 ∨ k = 2 ∨ k = 3 ∨ k = 4 := by omega
      rcases h2 with rfl | rfl | rfl | rfl | rfl <;> simp
  have e8 : vs[8] = .int i ti := by rw [Array.getElem?_eq_getElem (by omega)] at h8; exact Option.some.inj h8
  have e9 : vs[9] = .int j tj := by rw [Array.getElem?_eq_getElem (by omega)] at h9; exact Option.some.inj h9
  have e10 : vs[10] = rv := by rw [Array.getElem?_eq_getElem (by omega)] at h10; exact Option.some.inj h10
  rw [e, e8, e9, e10]
  exact wpAny_pure hh
theorem start_get {R : Result → Shared → Prop} (hx : h.get? a = some o) (hc : o.cls = .type "UnicodeDecodeError") (hd : o.data = .fields vs) (f : ExcF T n vs i j r) (hq : R (.ok (.ret (.int i t))) ⟨h, g, d, t + 1, os⟩) :
    codeAny (model prog w) A (.call (.builtin "member_descriptor.__get__") ⟨[.builtin "UnicodeDecodeError.start", .ref a, .type "UnicodeDecodeError"], []⟩) R ⟨h, g, d, t, os⟩ := by
  have hT : (⟨h, g, d, t, os⟩ : Shared).TypeIs (.ref a) "UnicodeDecodeError" := ⟨_, hx, hc⟩
  have hT5 : (⟨h, g, d, t, os⟩ : Shared).TypeIs (.builtin "UnicodeDecodeError.start") "member_descriptor" := FU.ty_start
  have f8 : isSubtype (.type "UnicodeDecodeError") (.type (".".intercalate ("UnicodeDecodeError.start".cutAt '.').dropLast)) = pure true := by rw [FU.own_start]; exact FU.self
  refine codeAny_call_builtin KF.slot_mem.plain KF.entry_mem (KF.slot_mem.check _ _ _ _ _ _ _ _ hT5 (KF.args_mem _ _ _) ?_)
  unfold Builtin.«member_descriptor.__get__»
  repeat (any_goals (first | assumption | wp_step))
  refine ⟨Code.quiet_builtin _ (by decide +kernel), codeAny_builtin FU.entry_start ?_⟩
  unfold Builtin.«UnicodeDecodeError.start» sizeGet
  dsimp only
  refine wpAny_bind (members_exc hx hd f fun enc obj rv _ => ?_)
  repeat (any_goals (first | assumption | wp_step))
theorem start_entry {tk : Tok} {Q : Fin → Shared → Prop} (hx : h.get? a = some o) (hc : o.cls = .type "UnicodeDecodeError") (hd : o.data = .fields vs) (f : ExcF T n vs i j r) (hq : Q (.done (.ret (.int i t))) ⟨h, g, d, t + 1, os⟩) :
    wpAny (model prog w) A (Builtin.«object.__getattribute__» ⟨[.ref a, .str "start" tk], []⟩) Q E ⟨h, g, d, t, os⟩ := by
  have hT : (⟨h, g, d, t, os⟩ : Shared).TypeIs (.ref a) "UnicodeDecodeError" := ⟨_, hx, hc⟩
  have hT5 : (⟨h, g, d, t, os⟩ : Shared).TypeIs (.builtin "UnicodeDecodeError.start") "member_descriptor" := FU.ty_start
  have f4 := FU.lk_start
  have f5 := FU.ty_start
  have f6 := KF.slot_mem.lookup
  have f7 := FU.slot_mset.lookup
  repeat (any_goals (first | assumption | wp_step))
  refine start_get hx hc hd f ?_
  skip
  repeat (any_goals (first | assumption | wp_step))
theorem start_call {tk : Tok} {R : Result → Shared → Prop} (hx : h.get? a = some o) (hc : o.cls = .type "UnicodeDecodeError") (hd : o.data = .fields vs) (f : ExcF T n vs i j r) (hq : R (.ok (.ret (.int i t))) ⟨h, g, d, t + 1, os⟩) :
    codeAny (model prog w) A (.call (.builtin "BaseException.__getattribute__") ⟨[.ref a, .str "start" tk], []⟩) R ⟨h, g, d, t, os⟩ :=
  codeAny_call_builtin FU.slot_ga.plain F.entry_bexc_ga (FU.slot_ga.check _ _ _ _ _ _ _ _ (show (⟨h, g, d, t, os⟩ : Shared).TypeIs (.ref a) "UnicodeDecodeError" from ⟨_, hx, hc⟩) (F.args_bexc_ga _ _) (start_entry hx hc hd f hq))
theorem start_by {tk : Tok} {fill expr : Bool} {Q : Value → Shared → Prop} (hx : h.get? a = some o) (hc : o.cls = .type "UnicodeDecodeError") (hd : o.data = .fields vs) (f : ExcF T n vs i j r) (hq : Q (.int i t) ⟨h, g, d, t + 1, os⟩) :
    wpAny (model prog w) A (getAttrBy (.ref a) (.str "start" tk) fill expr) Q E ⟨h, g, d, t, os⟩ := by
  have hT : (⟨h, g, d, t, os⟩ : Shared).TypeIs (.ref a) "UnicodeDecodeError" := ⟨_, hx, hc⟩
  have f2 := FU.slot_ga.lookup
  have f3 := FU.slot_ga.bind (.ref a)
  have hx0 : (expr && onTheHeap (Value.builtin "BaseException.__getattribute__")) = false := by cases expr <;> rfl
  repeat (any_goals (first | assumption | wp_step))
  refine start_call hx hc hd f ?_
  skip
  repeat (any_goals (first | assumption | wp_step))
theorem start_attr {expr : Bool} {Q : Value → Shared → Prop} (hx : h.get? a = some o) (hc : o.cls = .type "UnicodeDecodeError") (hd : o.data = .fields vs) (f : ExcF T n vs i j r) (hq : Q (.int i (t + 1)) ⟨h, g, d, t + 1 + 1, os⟩) :
    wpAny (model prog w) A (getAttr (.ref a) "start" expr) Q E ⟨h, g, d, t, os⟩ := by
  unfold getAttr
  repeat (any_goals (first | assumption | with_reducible apply start_by hx hc hd f | wp_step))
theorem end_get {R : Result → Shared → Prop} (hx : h.get? a = some o) (hc : o.cls = .type "UnicodeDecodeError") (hd : o.data = .fields vs) (f : ExcF T n vs i j r) (hq : R (.ok (.ret (.int j t))) ⟨h, g, d, t + 1, os⟩) :
    codeAny (model prog w) A (.call (.builtin "member_descriptor.__get__") ⟨[.builtin "UnicodeDecodeError.end", .ref a, .type "UnicodeDecodeError"], []⟩) R ⟨h, g, d, t, os⟩ := by
  have hT : (⟨h, g, d, t, os⟩ : Shared).TypeIs (.ref a) "UnicodeDecodeError" := ⟨_, hx, hc⟩
  have hT5 : (⟨h, g, d, t, os⟩ : Shared).TypeIs (.builtin "UnicodeDecodeError.end") "member_descriptor" := FU.ty_end
  have f8 : isSubtype (.type "UnicodeDecodeError") (.type (".".intercalate ("UnicodeDecodeError.end".cutAt '.').dropLast)) = pure true := by rw [FU.own_end]; exact FU.self
  refine codeAny_call_builtin KF.slot_mem.plain KF.entry_mem (KF.slot_mem.check _ _ _ _ _ _ _ _ hT5 (KF.args_mem _ _ _) ?_)
  unfold Builtin.«member_descriptor.__get__»
  repeat (any_goals (first | assumption | wp_step))
  refine ⟨Code.quiet_builtin _ (by decide +kernel), codeAny_builtin FU.entry_end ?_⟩
  unfold Builtin.«UnicodeDecodeError.end» sizeGet
  dsimp only
  refine wpAny_bind (members_exc hx hd f fun enc obj rv _ => ?_)
  repeat (any_goals (first | assumption | wp_step))
theorem end_entry {tk : Tok} {Q : Fin → Shared → Prop} (hx : h.get? a = some o) (hc : o.cls = .type "UnicodeDecodeError") (hd : o.data = .fields vs) (f : ExcF T n vs i j r) (hq : Q (.done (.ret (.int j t))) ⟨h, g, d, t + 1, os⟩) :
    wpAny (model prog w) A (Builtin.«object.__getattribute__» ⟨[.ref a, .str "end" tk], []⟩) Q E ⟨h, g, d, t, os⟩ := by
  have hT : (⟨h, g, d, t, os⟩ : Shared).TypeIs (.ref a) "UnicodeDecodeError" := ⟨_, hx, hc⟩
  have hT5 : (⟨h, g, d, t, os⟩ : Shared).TypeIs (.builtin "UnicodeDecodeError.end") "member_descriptor" := FU.ty_end
  have f4 := FU.lk_end
  have f5 := FU.ty_end
  have f6 := KF.slot_mem.lookup
  have f7 := FU.slot_mset.lookup
  repeat (any_goals (first | assumption | wp_step))
  refine end_get hx hc hd f ?_
  skip
  repeat (any_goals (first | assumption | wp_step))
theorem end_call {tk : Tok} {R : Result → Shared → Prop} (hx : h.get? a = some o) (hc : o.cls = .type "UnicodeDecodeError") (hd : o.data = .fields vs) (f : ExcF T n vs i j r) (hq : R (.ok (.ret (.int j t))) ⟨h, g, d, t + 1, os⟩) :
    codeAny (model prog w) A (.call (.builtin "BaseException.__getattribute__") ⟨[.ref a, .str "end" tk], []⟩) R ⟨h, g, d, t, os⟩ :=
  codeAny_call_builtin FU.slot_ga.plain F.entry_bexc_ga (FU.slot_ga.check _ _ _ _ _ _ _ _ (show (⟨h, g, d, t, os⟩ : Shared).TypeIs (.ref a) "UnicodeDecodeError" from ⟨_, hx, hc⟩) (F.args_bexc_ga _ _) (end_entry hx hc hd f hq))
theorem end_by {tk : Tok} {fill expr : Bool} {Q : Value → Shared → Prop} (hx : h.get? a = some o) (hc : o.cls = .type "UnicodeDecodeError") (hd : o.data = .fields vs) (f : ExcF T n vs i j r) (hq : Q (.int j t) ⟨h, g, d, t + 1, os⟩) :
    wpAny (model prog w) A (getAttrBy (.ref a) (.str "end" tk) fill expr) Q E ⟨h, g, d, t, os⟩ := by
  have hT : (⟨h, g, d, t, os⟩ : Shared).TypeIs (.ref a) "UnicodeDecodeError" := ⟨_, hx, hc⟩
  have f2 := FU.slot_ga.lookup
  have f3 := FU.slot_ga.bind (.ref a)
  have hx0 : (expr && onTheHeap (Value.builtin "BaseException.__getattribute__")) = false := by cases expr <;> rfl
  repeat (any_goals (first | assumption | wp_step))
  refine end_call hx hc hd f ?_
  skip
  repeat (any_goals (first | assumption | wp_step))
theorem end_attr {expr : Bool} {Q : Value → Shared → Prop} (hx : h.get? a = some o) (hc : o.cls = .type "UnicodeDecodeError") (hd : o.data = .fields vs) (f : ExcF T n vs i j r) (hq : Q (.int j (t + 1)) ⟨h, g, d, t + 1 + 1, os⟩) :
    wpAny (model prog w) A (getAttr (.ref a) "end" expr) Q E ⟨h, g, d, t, os⟩ := by
  unfold getAttr
  repeat (any_goals (first | assumption | with_reducible apply end_by hx hc hd f | wp_step))
theorem reason_get {R : Result → Shared → Prop} (hx : h.get? a = some o) (hc : o.cls = .type "UnicodeDecodeError") (hd : o.data = .fields vs) (f : ExcF T n vs i j r) (hq : ∀ rv, StrAt T n rv r → R (.ok (.ret rv)) ⟨h, g, d, t, os⟩) :
    codeAny (model prog w) A (.call (.builtin "member_descriptor.__get__") ⟨[.builtin "UnicodeDecodeError.reason", .ref a, .type "UnicodeDecodeError"], []⟩) R ⟨h, g, d, t, os⟩ := by
  have hT : (⟨h, g, d, t, os⟩ : Shared).TypeIs (.ref a) "UnicodeDecodeError" := ⟨_, hx, hc⟩
  have hT5 : (⟨h, g, d, t, os⟩ : Shared).TypeIs (.builtin "UnicodeDecodeError.reason") "member_descriptor" := FU.ty_reason
  have f8 : isSubtype (.type "UnicodeDecodeError") (.type (".".intercalate ("UnicodeDecodeError.reason".cutAt '.').dropLast)) = pure true := by rw [FU.own_reason]; exact FU.self
  refine codeAny_call_builtin KF.slot_mem.plain KF.entry_mem (KF.slot_mem.check _ _ _ _ _ _ _ _ hT5 (KF.args_mem _ _ _) ?_)
  unfold Builtin.«member_descriptor.__get__»
  repeat (any_goals (first | assumption | wp_step))
  refine ⟨Code.quiet_builtin _ (by decide +kernel), codeAny_builtin FU.entry_reason ?_⟩
  unfold Builtin.«UnicodeDecodeError.reason» objectGet
  dsimp only
  refine wpAny_bind (members_exc hx hd f fun enc obj rv hr => ?_)
  refine x2a5 (id hr.is) fun x tt e_0 hx2 hx3 hx4 hx5 => ?_; subst e_0
  exact wpAny_pure (hq _ hr)
theorem reason_entry {tk : Tok} {Q : Fin → Shared → Prop} (hx : h.get? a = some o) (hc : o.cls = .type "UnicodeDecodeError") (hd : o.data = .fields vs) (f : ExcF T n vs i j r) (hq : ∀ rv, StrAt T n rv r → Q (.done (.ret rv)) ⟨h, g, d, t, os⟩) :
    wpAny (model prog w) A (Builtin.«object.__getattribute__» ⟨[.ref a, .str "reason" tk], []⟩) Q E ⟨h, g, d, t, os⟩ := by
  have hT : (⟨h, g, d, t, os⟩ : Shared).TypeIs (.ref a) "UnicodeDecodeError" := ⟨_, hx, hc⟩
  have hT5 : (⟨h, g, d, t, os⟩ : Shared).TypeIs (.builtin "UnicodeDecodeError.reason") "member_descriptor" := FU.ty_reason
  have f4 := FU.lk_reason
  have f5 := FU.ty_reason
  have f6 := KF.slot_mem.lookup
  have f7 := FU.slot_mset.lookup
  repeat (any_goals (first | assumption | wp_step))
  refine reason_get hx hc hd f (fun rv hrv => ?_)
  refine x2a2 (id hrv.is) fun x tt e_0 hzz => ?_; subst e_0; have hq := hq _ hrv
  repeat (any_goals (first | assumption | wp_step))
theorem reason_call {tk : Tok} {R : Result → Shared → Prop} (hx : h.get? a = some o) (hc : o.cls = .type "UnicodeDecodeError") (hd : o.data = .fields vs) (f : ExcF T n vs i j r) (hq : ∀ rv, StrAt T n rv r → R (.ok (.ret rv)) ⟨h, g, d, t, os⟩) :
    codeAny (model prog w) A (.call (.builtin "BaseException.__getattribute__") ⟨[.ref a, .str "reason" tk], []⟩) R ⟨h, g, d, t, os⟩ :=
  codeAny_call_builtin FU.slot_ga.plain F.entry_bexc_ga (FU.slot_ga.check _ _ _ _ _ _ _ _ (show (⟨h, g, d, t, os⟩ : Shared).TypeIs (.ref a) "UnicodeDecodeError" from ⟨_, hx, hc⟩) (F.args_bexc_ga _ _) (reason_entry hx hc hd f hq))
theorem reason_by {tk : Tok} {fill expr : Bool} {Q : Value → Shared → Prop} (hx : h.get? a = some o) (hc : o.cls = .type "UnicodeDecodeError") (hd : o.data = .fields vs) (f : ExcF T n vs i j r) (hq : ∀ rv, StrAt T n rv r → Q rv ⟨h, g, d, t, os⟩) :
    wpAny (model prog w) A (getAttrBy (.ref a) (.str "reason" tk) fill expr) Q E ⟨h, g, d, t, os⟩ := by
  have hT : (⟨h, g, d, t, os⟩ : Shared).TypeIs (.ref a) "UnicodeDecodeError" := ⟨_, hx, hc⟩
  have f2 := FU.slot_ga.lookup
  have f3 := FU.slot_ga.bind (.ref a)
  have hx0 : (expr && onTheHeap (Value.builtin "BaseException.__getattribute__")) = false := by cases expr <;> rfl
  repeat (any_goals (first | assumption | wp_step))
  refine reason_call hx hc hd f (fun rv hrv => ?_)
  refine x2a2 (id hrv.is) fun x tt e_0 hzz => ?_; subst e_0; have hq := hq _ hrv
  repeat (any_goals (first | assumption | wp_step))
theorem reason_attr {expr : Bool} {Q : Value → Shared → Prop} (hx : h.get? a = some o) (hc : o.cls = .type "UnicodeDecodeError") (hd : o.data = .fields vs) (f : ExcF T n vs i j r) (hq : ∀ rv, StrAt T n rv r → Q rv ⟨h, g, d, t + 1, os⟩) :
    wpAny (model prog w) A (getAttr (.ref a) "reason" expr) Q E ⟨h, g, d, t, os⟩ := by
  unfold getAttr
  repeat (any_goals (first | assumption | with_reducible apply reason_by hx hc hd f | wp_step))
end
end Mine
namespace Mine
open PySem PySem.W PyProof.Rows
variable [Lo]
variable {W : World}
namespace FU
set_option maxRecDepth 100000
theorem entry_unchain : entryFor table "proto.unchain" = some Builtin.«proto.unchain» := entryFor_of_tree (by kernel_rfl)
end FU
section
variable {prog : Program} {w : World} {A : Around} {E : Value → Shared → Prop} {s : Shared}
theorem unchain_ok {e h : Addr} {o : Obj} {ws : Array Value} {c : Value} {Q : Value → Shared → Prop} (ho : s.heap.get? h = some o) (hd : o.data = .fields ws) (h2 : ws[2]? = some c)
    (hc : c = .none ∨ ∃ b ob bs, c = .ref b ∧ b ≠ e ∧ b ≠ h ∧ s.heap.get? b = some ob ∧ ob.data = .fields bs ∧ bs[2]? = some .none) (hq : Q .none s) :
    wpAny (model prog w) A (runValue (.builtin "proto.unchain" ⟨[.ref e, .ref h, .ref h, .bool false], []⟩)) Q E s := by
  refine wpAny_runValue (codeAny_builtin FU.entry_unchain ?_)
  unfold Builtin.«proto.unchain»
  dsimp only
  refine wpAny_bind (wpAny_field ho hd h2 ?_)
  rcases hc with rfl | ⟨b, ob, bs, rfl, hbe, hbh, hob, hbd, hb2⟩
  · exact wpAny_pure hq
  · rw [if_neg (by simp), if_neg (by simpa using hbe), if_neg (by simpa using hbh)]
    refine wpAny_bind (wpAny_pure ?_)
    refine wpAny_pure ⟨Code.quiet_builtin _ (by decide +kernel), ?_⟩
    refine codeAny_builtin FU.entry_unchain ?_
    unfold Builtin.«proto.unchain»
    dsimp only
    refine wpAny_bind (wpAny_field hob hbd hb2 ?_)
    exact wpAny_pure hq
omit [Lo] in
noncomputable def BehindOk (h : Heap) (e hd : Addr) : Prop := ∃ o ws c, h.get? hd = some o ∧ o.data = .fields ws ∧ ws[2]? = some c ∧
  (c = .none ∨ ∃ b ob bs, c = .ref b ∧ b ≠ e ∧ b ≠ hd ∧ h.get? b = some ob ∧ ob.data = .fields bs ∧ bs[2]? = some .none)
theorem raiseNew_under {α : Type} {e hd : Addr} {vs : Array Value} {Q : α → Shared → Prop} (hh : A.handled = some (.ref hd)) (x : IsX s.heap e vs) (h2 : 2 < vs.size) (hne : hd ≠ e) (hb : BehindOk s.heap e hd)
    (h : ∀ h', IsX h' e (vs.setIfInBounds 2 (.ref hd)) → Heap.SameBut e s.heap h' → E (.ref e) { s with heap := h' }) : wpAny (model prog w) A (raiseNew (.ref e) : Sem α) Q E s := by
  refine x3a4 hb fun o ws c ho hd' hc hcc => ?_; (try clear hb)
  unfold raiseNew
  refine wpAny_bind (wpAny_handled ?_)
  rw [hh]
  dsimp only
  rw [if_pos (by simpa using hne)]
  refine wpAny_bind (wpAny_holding (unchain_ok ho hd' hc hcc ?_))
  refine x1a4 (id x) fun ox h1 h2' h3 h4 => ?_
  refine wpAny_bind (wpAny_setField h1 h4 h2 ?_)
  exact wpAny_throw (h _ (isX_update x _) (Heap.SameBut.update ..))
theorem excFrom_inst {e : Addr} {vs : Array Value} {msg : String} {Q : Value → Shared → Prop} (x : IsX s.heap e vs) (h : Q (.ref e) s) : wpAny (model prog w) A (excFromValue (.ref e) msg) Q E s := by
  refine x1a4 (id x) fun t_0 h1 h2 h3 h4 => ?_; obtain ⟨c, d, dt, sl⟩ := t_0
  dsimp only at h2 h3 h4
  subst h2 h3 h4
  obtain ⟨hp, g, d, tk, os⟩ := s
  have hsub := FU.base
  repeat (first | refine wpAny_loadPart h1 ?_ | wp_step)
  exact h
theorem FU.metaUde : (Value.type ((Manifest.find? "UnicodeDecodeError").elim "type" fun x => x.metatype) == Value.type "type") = true := by decide +kernel
theorem raiseTail {e hd : Addr} {vs : Array Value} {Q : Flow → Shared → Prop} (hh : A.handled = some (.ref hd)) (x : IsX s.heap e vs) (h2 : 2 < vs.size) (h1 : vs[1]? = some .none) (hne : hd ≠ e) (hb : BehindOk s.heap e hd)
    (h : ∀ h', IsX h' e (vs.setIfInBounds 2 (.ref hd)) → Heap.SameBut e s.heap h' → E (.ref e) { s with heap := h' }) :
    wpAny (model prog w) A (isType (.ref e) >>= fun b => if b = true then (holding [.ref e] (raisedFor (.ref e) (.ref e)) >>= fun e => setFlight e none >>= fun _ => raiseNew e) else (raisedInstance (.ref e) >>= fun e => setFlight e none >>= fun _ => raiseNew e)) Q E s := by
  refine x1a4 (id x) fun t_0 g1 g2 g3 g4 => ?_; obtain ⟨c, d, dt, sl⟩ := t_0
  dsimp only at g2 g3 g4
  subst g2 g3 g4
  have hmeta := FU.metaUde
  have step : wpAny (model prog w) A (do setFlight (.ref e) none; raiseNew (.ref e) : Sem Flow) Q E s := by
    unfold setFlight
    refine wpAny_bind (wpAny_bind (wpAny_field g1 rfl h1 ?_))
    rw [if_neg (by simp)]
    exact wpAny_pure (raiseNew_under hh x h2 hne hb h)
  obtain ⟨hp, g, dr, tk, os⟩ := s
  repeat (first | exact step | refine wpAny_loadPart g1 ?_ | wp_step)
theorem raiseStmt_ude {env : Env} {m : Sem Value} {hd : Addr} {Q : Flow → Shared → Prop} (hh : A.handled = some (.ref hd))
    (h : wq (model prog w) A m (fun v s₁ => ∃ e vs, v = .ref e ∧ IsX s₁.heap e vs ∧ 2 < vs.size ∧ vs[1]? = some .none ∧ hd ≠ e ∧ BehindOk s₁.heap e hd ∧
      ∀ h', IsX h' e (vs.setIfInBounds 2 (.ref hd)) → Heap.SameBut e s₁.heap h' → E (.ref e) { s₁ with heap := h' }) E s) : wq (model prog w) A (raiseStmt env (some m) none) Q E s := by
  unfold raiseStmt
  refine wq_bind (wq_mono h (fun v s₁ t_0 => x2a7 t_0 fun e vs hv x h2 h1 hne hb hE => ?_) fun _ _ q => q)
  subst hv
  refine wq_of ?_
  refine wpAny_bind (wpAny_pure (wpAny_bind (wpAny_holding (excFrom_inst x ?_))))
  exact raiseTail hh x h2 h1 hne hb hE
theorem BehindOk.sameBut {h h' : Heap} {e hd : Addr} (b : BehindOk h e hd) (hs : Heap.SameBut e h h') (hne : hd ≠ e) : BehindOk h' e hd := by
  refine x3a4 b fun o ws c ho hd' hc hcc => ?_; (try clear b)
  refine ⟨o, ws, c, (hs.2 hd hne).trans ho, hd', hc, ?_⟩
  rcases hcc with rfl | ⟨b, ob, bs, rfl, hbe, hbh, hob, hbd, hb2⟩
  · exact .inl rfl
  · exact .inr ⟨b, ob, bs, rfl, hbe, hbh, (hs.2 b hbe).trans hob, hbd, hb2⟩
theorem raiseStmt_from {env : Env} {m c : Sem Value} {hd : Addr} {Q : Flow → Shared → Prop} (hh : A.handled = some (.ref hd)) (hcn : ∀ (s : Shared) (Q : Value → Shared → Prop) (E : Value → Shared → Prop), Q .none s → wq (model prog w) A c Q E s)
    (h : wq (model prog w) A m (fun v s₁ => ∃ e vs, v = .ref e ∧ IsX s₁.heap e vs ∧ 4 < vs.size ∧ vs[1]? = some .none ∧ hd ≠ e ∧ BehindOk s₁.heap e hd ∧
      ∀ h', IsX h' e (((vs.setIfInBounds 3 .none).setIfInBounds 4 (.bool true)).setIfInBounds 2 (.ref hd)) → Heap.SameBut e s₁.heap h' → E (.ref e) { s₁ with heap := h' }) E s) : wq (model prog w) A (raiseStmt env (some m) (some c)) Q E s := by
  unfold raiseStmt
  refine wq_bind (wq_mono h (fun v s₁ t_0 => x2a7 t_0 fun e vs hv x h2 h1 hne hb hE => ?_) fun _ _ q => q)
  subst hv
  refine wq_bind (wq_holding (hcn _ _ _ (wq_bind (wq_pure ?_))))
  refine wq_bind (wq_holding (wq_of (excFrom_inst x ?_)))
  refine wq_of ?_
  dsimp only
  rw [if_pos (by rfl)]
  refine wpAny_bind (wpAny_pure ?_)
  refine wpAny_bind (setF x (by (clear t_0; lia)) fun h₂ x₂ s₂ => wpAny_bind (setF x₂ (by simp; (clear t_0; lia)) fun h₃ x₃ s₃ => ?_))
  refine raiseTail hh x₃ (by simp; (clear t_0; lia)) (by rw [Array.getElem?_setIfInBounds_ne (by (clear t_0 h2; lia)), Array.getElem?_setIfInBounds_ne (by (clear t_0 h2; lia))]; exact h1) hne ((hb.sameBut s₂ hne).sameBut s₃ hne) fun h' x' s' => hE h' x' ((s₂.trans s₃).trans s')
end
end Mine
namespace Mine
open PySem PySem.W PyProof.Rows
variable [Lo]
variable {W : World}
structure Fresh (W : World) (T : Tx) (s s' : Shared) (T' : Tx) (e : Addr) (vs : Array Value) (i j : Int) (re : List Nat) : Prop where
  le : Le T s T' s'
  new : s.heap.objs.size ≤ e
  is : IsX s'.heap e vs
  size : vs.size = 11
  tb : vs[1]? = some .none
  start : ∃ t, vs[8]? = some (.int i t)
  stop : ∃ t, vs[9]? = some (.int j t)
  reason : ∃ v, vs[10]? = some v ∧ StrAt T' s'.toks v re
section
variable {X : Cx} {σ : Sto}
theorem ude_call {c : Str} {np pos : Pos} {e : Expr} {es : List Expr} {en b re : List Nat} {i j : Int} (h : EvL X (e :: es) σ [.str en, .bytes b, .int i, .int j, .str re]) (hcn : c = ("UnicodeDecodeError" : Str))
    (hkind : X.env.kindOf c = some .globalImplicit) (hg : X.G.mg c = none) (hi : -(2 ^ 63 : Int) ≤ i ∧ i < 2 ^ 63) (hj : -(2 ^ 63 : Int) ≤ j ∧ j < 2 ^ 63)
    (he : autoParam (starEach (e :: es) X.env = (false, eval e X.env) :: starEach es X.env) byRfl) (hst : autoParam ((backTo pos (starEach (e :: es) X.env)).any (·.1) = false) byRfl)
    (hcall : autoParam (eval (.Call (.Name c np) (e :: es) [] pos) X.env = (do callWith pos (← eval (.Name c np) X.env) [] (backTo pos (starEach (e :: es) X.env)) (backToKw pos (keywordEach [] X.env)))) byRfl)
    {T : Tx} {s : Shared} (S : St X σ T s) : wq X.M X.A (eval (.Call (.Name c np) (e :: es) [] pos) X.env) (fun v s' => ∃ T' a vs, v = .ref a ∧ Fresh X.w T s s' T' a vs i j re) (fun _ _ => False) s := by
  subst hcn
  refine wq_Call (S.load_builtin hkind hg clause_ude.boot ?_ clause_ude.name clause_ude.dbg) hcall
  refine wq_callWith_plain (fun _ => by simp) hst ?_
  have h' := h
  unfold EvL at h'
  rw [he] at h' ⊢
  refine wq_evalArgs (wq_mono (h' T s S pos) (fun vs s' t_0 => x1a2 t_0 fun T' l rl => ?_) fun _ _ x => x.elim)
  have S' := S.le_mono l
  cases rl using RepL.cCons with
  | cons r₁ rl =>
  cases rl using RepL.cCons with
  | cons r₂ rl =>
  cases rl using RepL.cCons with
  | cons r₃ rl =>
  cases rl using RepL.cCons with
  | cons r₄ rl =>
  cases rl using RepL.cCons with
  | cons r₅ rl =>
  cases rl using RepL.cNil
  refine x2a2 (rep_str_inv r₁) fun x₁ t₁ e_0 _ => ?_; subst e_0
  refine x2a2 (rep_bytes_inv r₂) fun x₂ t₂ e_0 _ => ?_; subst e_0
  cases r₃ using Rep.cInt
  cases r₄ using Rep.cInt
  refine x2a5 (rep_str_inv r₅) fun x₅ t₅ e_0 h₅ k₁ k₂ k₃ => ?_; subst e_0
  refine wq_of (call_ude hi hj fun h' a t0 x hs hsz hk => ?_)
  refine ⟨T', a, _, rfl, ⟨l.trans (Le.mk' (k := s'.toks) (Ext.keeps hsz hk) (Nat.le_refl _)), Nat.le_trans l.ext.1 hs, x, rfl, rfl, ⟨_, rfl⟩, ⟨_, rfl⟩, ⟨_, rfl, ⟨_, _, rfl, h₅, k₁, k₂, k₃⟩⟩⟩⟩
end
omit [Lo] in
noncomputable def XV.short : XV → Bool
  | .index => true
  | .ude .. => false
omit [Lo] in
noncomputable def XV.flat : XV → Prop
  | .index => True
  | .ude d .. => d = true
theorem ExcAt.behind {lo : Addr} {tr : Bool} {T : Tx} {n : Nat} {h h' : Heap} {a e : Addr} {x : XV} (ea : ExcAt lo tr T n h a x) (hx : x.flat) (he : h.objs.size ≤ e) (hk : Ext h h') : BehindOk h' e a ∧ a ≠ e := by
  obtain ⟨ge, o, vs, ho, hc, hdi, hd, hsz, hf, htb, htr⟩ := ea
  have hae : a ≠ e := Nat.ne_of_lt (Nat.lt_of_lt_of_le (Heap.lt_size ho) he)
  refine x1a1 (hk.2 a o ho) fun sl ho' => ?_
  refine ⟨?_, hae⟩
  cases x with
  | index => exact ⟨_, vs, .none, ho', hd, hf, .inl rfl⟩
  | ude d i j r =>
    refine x0a5 hf fun _ _ _ _ h5 => ?_; (try clear hf)
    refine x1a2 (h5 hx) fun c hc2 hch => ?_
    refine ⟨_, vs, c, ho', hd, hc2, ?_⟩
    rcases hch with rfl | ⟨b, ob, ws, rfl, hb, hob, hcl, hdb, hw⟩
    · exact .inl rfl
    · refine x1a1 (hk.2 b ob hob) fun sl' hob' => ?_
      refine .inr ⟨b, _, ws, rfl, Nat.ne_of_lt (Nat.lt_of_lt_of_le (Heap.lt_size hob) he), fun q => ?_, hob', hdb, hw⟩
      subst q
      rw [ho] at hob; (have hob := Option.some.inj hob; subst hob)
      rw [hd] at hdb; cases hdb
      rw [hc2] at hw; cases Option.some.inj hw
section
variable {X : Cx} {σ : Sto} {Q : Post} {x : XV}
theorem raise_fin {a e lo : Addr} {T T' : Tx} {s s' : Shared} {vs vs' : Array Value} {i j : Int} {re : List Nat} {h' : Heap} (S : St (X.under a) σ T s) (hl : lo ≤ s.heap.objs.size) (ea : ExcAt lo true T s.toks s.heap a x) (fr : Fresh X.w T s s' T' e vs i j re)
    (x' : IsX h' e vs') (hs : Heap.SameBut e s'.heap h') (hv : vs'.size = vs.size) (hsame : ∀ k, k = 1 ∨ 5 ≤ k → vs'[k]? = vs[k]?) (h2 : vs'[2]? = some (.ref a)) (hne : a ≠ e) :
    Nx (X.under a) σ T s σ T' { s' with heap := h' } ∧ ExcAt lo false T' s'.toks h' e (.ude x.short i j re) := by
  have le' : Le T s T' { s' with heap := h' } := by
    refine ⟨⟨Nat.le_trans fr.le.ext.1 (Nat.le_of_eq hs.1.symm), fun b o eb => ?_⟩, fr.le.toks, fr.le.tx, fr.le.gens, fr.le.os⟩
    refine x1a1 (fr.le.ext.2 b o eb) fun sl e2 => ?_
    exact ⟨sl, (hs.2 b (Nat.ne_of_lt (Nat.lt_of_lt_of_le (Heap.lt_size eb) fr.new))).trans e2⟩
  refine ⟨.of_le S le', ?_⟩
  refine x1a4 x' fun o ho hc hdi hd => ?_; (try clear x')
  refine ⟨Nat.le_trans hl fr.new, o, vs', ho, hc, hdi, hd, by rw [hv, fr.size]; decide, ?_, .inl ((hsame 1 (.inl rfl)).trans fr.tb), fun q => by exact ft q⟩
  refine ⟨hv.trans fr.size, ?_, ?_, ?_, fun q => ⟨_, h2, ?_⟩⟩
  · refine x1a1 (fr.start) fun t h => ?_; exact ⟨t, (hsame 8 (.inr (by decide))).trans h⟩
  · refine x1a1 (fr.stop) fun t h => ?_; exact ⟨t, (hsame 9 (.inr (by decide))).trans h⟩
  · refine x1a2 (fr.reason) fun v h hr => ?_; exact ⟨v, (hsame 10 (.inr (by decide))).trans h, hr⟩
  · cases x with
    | index =>
      obtain ⟨ge, oa, ws, hoa, hca, _, hda, _, hf, _, _⟩ := ea
      refine x1a1 (le'.ext.2 a oa hoa) fun sl e2 => ?_
      exact .inr ⟨a, _, ws, rfl, ge, e2, by rw [hca]; decide, hda, hf⟩
    | ude d i j r => exact ft q
theorem ExH.raise {c : Str} {np pos rpos : Pos} {e : Expr} {rest : List Stmt} {es : List Expr} {en b re : List Nat} {i j : Int} (h : ∀ a, EvL (X.under a) (e :: es) σ [.str en, .bytes b, .int i, .int j, .str re]) (hcn : c = ("UnicodeDecodeError" : Str))
    (hkind : X.env.kindOf c = some .globalImplicit) (hg : X.G.mg c = none) (hi : -(2 ^ 63 : Int) ≤ i ∧ i < 2 ^ 63) (hj : -(2 ^ 63 : Int) ≤ j ∧ j < 2 ^ 63) (hx : x.flat) (q : Q (.exc (.ude x.short i j re)) σ)
    (he : autoParam (starEach (e :: es) X.env = (false, eval e X.env) :: starEach es X.env) byRfl) (hst : autoParam ((backTo pos (starEach (e :: es) X.env)).any (·.1) = false) byRfl)
    (hcall : autoParam (eval (.Call (.Name c np) (e :: es) [] pos) X.env = (do callWith pos (← eval (.Name c np) X.env) [] (backTo pos (starEach (e :: es) X.env)) (backToKw pos (keywordEach [] X.env)))) byRfl) :
    ExH X x (execs (.Raise (some (.Call (.Name c np) (e :: es) [] pos)) none rpos :: rest) X.env) σ Q := .cons fun a lo T s S hs hl ea => by
  show wq X.M (X.under a).A (do standAt rpos; raiseStmt X.env (some (do let v ← eval (.Call (.Name c np) (e :: es) [] pos) X.env; standAt rpos; pure v)) none) _ _ s
  refine wq_bind (wq_standAt (raiseStmt_ude (hd := a) rfl (wq_bind (wq_mono (ude_call (X := X.under a) (h a) hcn hkind hg hi hj he hst hcall S) (fun v s' t_0 => x3a2 t_0 fun T' e' vs hv fr => wq_bind (wq_standAt (wq_pure ?_))) fun _ _ x => x.elim))))
  refine x0a2 (ea.behind hx fr.new fr.le.ext) fun hb hne => ?_
  refine ⟨e', vs, hv, fr.is, by rw [fr.size]; decide, fr.tb, hne, hb, fun h' x' hsb => ?_⟩
  refine x0a2 (raise_fin S hl ea fr x' hsb (by simp) (fun k hk => by rw [Array.getElem?_setIfInBounds_ne (by (clear hl hs hi; omega))]) (by rw [Array.getElem?_setIfInBounds_self_of_lt (by rw [fr.size]; decide)]) hne) fun n ea' => ?_
  exact ⟨T', _, σ, e', rfl, n, ea', q⟩
theorem ExH.raise_from {c : Str} {np pos rpos cp : Pos} {k : Nat} {e : Expr} {rest : List Stmt} {es : List Expr} {en b re : List Nat} {i j : Int} (h : ∀ a, EvL (X.under a) (e :: es) σ [.str en, .bytes b, .int i, .int j, .str re]) (hcn : c = ("UnicodeDecodeError" : Str))
    (hkind : X.env.kindOf c = some .globalImplicit) (hg : X.G.mg c = none) (hi : -(2 ^ 63 : Int) ≤ i ∧ i < 2 ^ 63) (hj : -(2 ^ 63 : Int) ≤ j ∧ j < 2 ^ 63) (hx : x.flat) (q : Q (.exc (.ude x.short i j re)) σ)
    (he : autoParam (starEach (e :: es) X.env = (false, eval e X.env) :: starEach es X.env) byRfl) (hst : autoParam ((backTo pos (starEach (e :: es) X.env)).any (·.1) = false) byRfl)
    (hcall : autoParam (eval (.Call (.Name c np) (e :: es) [] pos) X.env = (do callWith pos (← eval (.Name c np) X.env) [] (backTo pos (starEach (e :: es) X.env)) (backToKw pos (keywordEach [] X.env)))) byRfl) :
    ExH X x (execs (.Raise (some (.Call (.Name c np) (e :: es) [] pos)) (some (.Constant .none k cp)) rpos :: rest) X.env) σ Q := .cons fun a lo T s S hs hl ea => by
  show wq X.M (X.under a).A (do standAt rpos; raiseStmt X.env (some (do let v ← eval (.Call (.Name c np) (e :: es) [] pos) X.env; standAt rpos; pure v)) (some (do let v ← eval (.Constant .none k cp) X.env; standAt rpos; pure v))) _ _ s
  refine wq_bind (wq_standAt (raiseStmt_from (hd := a) rfl (fun s Q E q => ?_) (wq_bind (wq_mono (ude_call (X := X.under a) (h a) hcn hkind hg hi hj he hst hcall S) (fun v s' t_0 => x3a2 t_0 fun T' e' vs hv fr => wq_bind (wq_standAt (wq_pure ?_))) fun _ _ x => x.elim))))
  · exact wq_bind (show wq X.M (X.under a).A (constValue X.env .none) _ _ s from wq_pure (wq_bind (wq_standAt (wq_pure q))))
  refine x0a2 (ea.behind hx fr.new fr.le.ext) fun hb hne => ?_
  refine ⟨e', vs, hv, fr.is, by rw [fr.size]; decide, fr.tb, hne, hb, fun h' x' hsb => ?_⟩
  refine x0a2 (raise_fin S hl ea fr x' hsb (by simp) (fun k hk => by rw [Array.getElem?_setIfInBounds_ne (by (clear hl hs hi; omega)), Array.getElem?_setIfInBounds_ne (by (clear hl hs hi; omega)), Array.getElem?_setIfInBounds_ne (by (clear hl hs hi; omega))]) (by rw [Array.getElem?_setIfInBounds_self_of_lt (by simp [fr.size])]) hne) fun n ea' => ?_
  exact ⟨T', _, σ, e', rfl, n, ea', q⟩
end
end Mine
namespace Mine
open PySem PySem.W PyProof.Rows
variable [Lo]
variable {W : World}
omit [Lo] in
noncomputable def excRec (cls : String) (t : Addr) : Obj := { cls := .type cls, data := .fields #[.ref t, .none, .none, .none, .bool false, .none] }
theorem raiseWords_rec {α : Type} {M : Model} {A : Around} {E : Value → Shared → Prop} {s : Shared} {cls msg : String} {Q : α → Shared → Prop} (hp : PlainExc cls) (hh : A.handled = none)
    (h : ∀ h' tk e t, s.toks ≤ tk → s.heap.objs.size ≤ e → s.heap.objs.size ≤ h'.objs.size → h'.get? e = some (excRec cls t) → (∀ b o, s.heap.get? b = some o → h'.get? b = some o) → E (.ref e) { s with heap := h', toks := tk }) :
    wpAny M A (raiseErrorWords cls msg : Sem α) Q E s := by
  unfold raiseErrorWords
  refine wpAny_bind (wpAny_mkText (wpAny_bind ?_))
  unfold newExc newTuple
  refine wpAny_bind (wpAny_newObj_type ?_)
  refine wpAny_bind (m := firstArgMember _ _) (wpAny_of_eq (a := Value.none) (by simp only [firstArgMember, hp.first]; rfl) ?_)
  rw [hp.own]
  refine wpAny_newObj_type (wpAny_raiseNew_none hh ?_)
  exact h _ _ _ _ (Nat.le_succ _) (by simp) (by simp; omega) (Heap.get?_push_size _ rfl) fun b o hb => Heap.get?_push_of_some _ (Heap.get?_push_of_some _ hb)
omit [Lo] in
noncomputable def raisesRec (cls : String) : PySem.Spec := fun A R s => A.handled = none ∧ ∀ h' tk e t, s.toks ≤ tk → s.heap.objs.size ≤ e → s.heap.objs.size ≤ h'.objs.size → h'.get? e = some (excRec cls t) →
  (∀ b o, s.heap.get? b = some o → h'.get? b = some o) → R (.error (.ref e)) { s with heap := h', toks := tk }
theorem seqIndex_out {i : Int} {n : Nat} (h0 : 0 ≤ i) (h : n ≤ i) : seqIndex? i n = none := by
  simp [seqIndex?]
  omega
open Builtin in
theorem meets_bytes_out (b : Array UInt8) (i : Int) (t u : Tok) (hr : Bytes.fitsIndex i = true) (h : seqIndex? i b.size = none) : Meets («bytes.__getitem__» ⟨[.bytes b t, .int i u], []⟩) (raisesRec "IndexError") := fun prog w A R s hs => by
  show wpAny _ A.in1 (Bytes.subscript? (.int i u) >>= fun r => _) _ _ s
  refine wpAny_bind ?_
  unfold Bytes.subscript?
  refine wpAny_bind (wpAny_specialOf (typeIs_int s i u) F.slot_int_index.lookup ?_)
  show wpAny _ A.in1 (if (!Bytes.fitsIndex i) = true then _ else pure (some i)) _ _ s
  rw [hr]
  refine wpAny_pure ?_
  show wpAny _ A.in1 (match (seqIndex? i b.size).bind (b[·]?) with | some x => retInt x.toNat | none => _) _ _ s
  rw [h]
  refine wpAny_bind (wpAny_rule ?_)
  exact wpAny_bind (raiseWords_rec (A := A.in1) (E := fun e s' => R (.error e) s') plainExc_IndexError hs.1 hs.2)
section
variable {X : Cx} {σ : Sto}
theorem EvX.bytes_out {e ie : Expr} {pos : Pos} {l : List Nat} {i : Int} (h1 : Ev X e σ (.bytes l)) (h2 : Ev X ie σ (.int i)) (h0 : (l.length : Int) ≤ i) (hi : i < 2 ^ 62) (hq : X.quiet = true)
    (hs : autoParam (∀ o i, subscripted ie false o i = operate [o, i] (getItem o i)) byI2) : EvX X (.Subscript e ie pos) σ (.error .index) := fun T s S => by
  refine wq_Subscript (h1.then S fun u T₁ s₁ l₁ S₁ r₁ => h2.then S₁ fun v T₂ s₂ l₂ S₂ r₂ => ⟨?_, ?_⟩) fun o i => ⟨_, hs o i⟩
  · refine x1a1 (look_get (o := .bytes l) rfl) fun id hid => ?_
    exact ⟨_, id, (r₁.le l₂).typeIs, hid⟩
  · refine x2a2 (rep_bytes_inv (r₁.le l₂)) fun b t e_0 hb => ?_; subst e_0
    cases r₂ using Rep.cInt
    have hz : b.size = l.length := by rw [← hb]; simp [bnats]
    refine wq_of (getItem_meets (typeIs_bytes _ _ _) (by decide) FB.slot_bytes_getitem FB.entry_bytes_getitem (FB.args_bytes_getitem_2 _ _) (meets_bytes_out b i _ _ ?_ (seqIndex_out (by (clear hz; lia)) (by lia))) ?_)
    · simp only [Builtin.Bytes.fitsIndex, Bool.and_eq_true, decide_eq_true_eq]; (clear hz; lia)
    · refine ⟨S₂.ok.hh hq, fun h' tk a tt hk hn hsz ha hold => ?_⟩
      have l₃ : Le T₂ s₂ T₂ { s₂ with heap := h', toks := tk } := Le.mk' (Ext.keeps hsz hold) hk
      have hl := (l₁.trans l₂).ext.1
      exact ⟨T₂, .index, a, rfl, rfl, (l₁.trans l₂).trans l₃, ⟨Nat.le_trans hl hn, _, _, ha, rfl, rfl, rfl, by simp, rfl, .inl rfl, fun q => by exact ft q⟩⟩
theorem wq_Attribute {x : Str} {p pos : Pos} {name : Str} {E : Value → Shared → Prop} {s : Shared} {Q : Value → Shared → Prop}
    (h : wq X.M X.A (eval (.Name x p) X.env) (fun o s₁ => wq X.M X.A (getAttr o name true) Q E s₁) E s)
    (hbase : autoParam (attributeBase (.Name x p) name X.env (eval (.Name x p) X.env) = eval (.Name x p) X.env) byRfl) : wq X.M X.A (eval (.Attribute (.Name x p) name pos) X.env) Q E s := by
  show wq X.M X.A (do
    let o ← attributeBase (.Name x p) name X.env (eval (.Name x p) X.env)
    standAt pos.atName
    let r ← holding [o] (getAttr o name true)
    letTemporaryGo (.Name x p) o r
    pure r) _ _ _
  rw [hbase]
  refine wq_bind (wq_mono h (fun o s₁ h₁ => wq_bind (wq_standAt (wq_bind (wq_holding (wq_mono h₁ (fun r s₂ h₂ => ?_) fun _ _ x => x))))) fun _ _ x => x)
  exact wq_bind (wq_pure (wq_pure h₂))
theorem Ev.start {x : Str} {p pos : Pos} {i j : Int} {r : List Nat} (h : Ev X (.Name x p) σ (.exc i j r))
    (hbase : autoParam (attributeBase (.Name x p) "start" X.env (eval (.Name x p) X.env) = eval (.Name x p) X.env) byRfl) : Ev X (.Attribute (.Name x p) "start" pos) σ (.int i) := fun T s S => by
  refine wq_Attribute (h.then S fun v T₁ s₁ l₁ S₁ r₁ => ?_) hbase
  cases r₁ using Rep.cExc with
  | exc hb ho hc hd hdat f => exact wq_of (start_attr ho hc hdat f ⟨T₁, l₁.trans (.tok (by show s₁.toks ≤ s₁.toks + 1 + 1; lia)), .int ..⟩)
theorem Ev.stop {x : Str} {p pos : Pos} {i j : Int} {r : List Nat} (h : Ev X (.Name x p) σ (.exc i j r))
    (hbase : autoParam (attributeBase (.Name x p) "end" X.env (eval (.Name x p) X.env) = eval (.Name x p) X.env) byRfl) : Ev X (.Attribute (.Name x p) "end" pos) σ (.int j) := fun T s S => by
  refine wq_Attribute (h.then S fun v T₁ s₁ l₁ S₁ r₁ => ?_) hbase
  cases r₁ using Rep.cExc with
  | exc hb ho hc hd hdat f => exact wq_of (end_attr ho hc hdat f ⟨T₁, l₁.trans (.tok (by show s₁.toks ≤ s₁.toks + 1 + 1; lia)), .int ..⟩)
theorem Ev.reason {x : Str} {p pos : Pos} {i j : Int} {r : List Nat} (h : Ev X (.Name x p) σ (.exc i j r))
    (hbase : autoParam (attributeBase (.Name x p) "reason" X.env (eval (.Name x p) X.env) = eval (.Name x p) X.env) byRfl) : Ev X (.Attribute (.Name x p) "reason" pos) σ (.str r) := fun T s S => by
  refine wq_Attribute (h.then S fun v T₁ s₁ l₁ S₁ r₁ => ?_) hbase
  cases r₁ using Rep.cExc with
  | exc hb ho hc hd hdat f => exact wq_of (reason_attr ho hc hdat f fun rv hr => ⟨T₁, l₁.trans (.tok (by show s₁.toks ≤ s₁.toks + 1; lia)), .str (hr.le (Nat.le_succ _) fun _ _ => rfl)⟩)
noncomputable def CallA (f : Value) (args : List AV) (r : AV) : Prop := ∀ (X : Cx) (B : Addr → Prop) (T : Tx) (s : Shared) (vals : List Value), X.Ok → (∀ b, B b → b < s.heap.objs.size) → X.G.In s.heap → 0 < s.toks →
  RepL X.w B T s.toks s.heap vals args → Yl X B T s (call f vals) r
theorem Ev.callA {f : Str} {p pos : Pos} {e : Expr} {es : List Expr} {xs : List AV} {r : AV} {fv : Value} (h : EvL X (e :: es) σ xs) (hc : CallA fv xs r)
    (hkind : X.env.kindOf f = some .globalImplicit) (hg : X.G.mg f = none) (hb : bootBuiltins f = some fv) (hfv : ∀ a, fv ≠ .ref a)
    (hn : autoParam (f ≠ "__name__") byDec) (hd : autoParam ((f == ("__debug__" : Str)) = false) byDec)
    (he : autoParam (starEach (e :: es) X.env = (false, eval e X.env) :: starEach es X.env) byRfl) (hst : autoParam ((backTo pos (starEach (e :: es) X.env)).any (·.1) = false) byRfl)
    (hcall : autoParam (eval (.Call (.Name f p) (e :: es) [] pos) X.env = (do callWith pos (← eval (.Name f p) X.env) [] (backTo pos (starEach (e :: es) X.env)) (backToKw pos (keywordEach [] X.env)))) byRfl) :
    Ev X (.Call (.Name f p) (e :: es) [] pos) σ r := fun T s S => by
  refine wq_Call (S.load_builtin hkind hg hb ?_ hn hd) hcall
  refine wq_callWith_plain hfv hst ?_
  have h' := h
  unfold EvL at h'
  rw [he] at h' ⊢
  refine wq_evalArgs (wq_mono (h' T s S pos) (fun vs s' t_0 => x1a2 t_0 fun T' l rl => ?_) fun _ _ x => x.elim)
  have S' := S.le_mono l
  exact Yl.backq l (hc X _ T' s' vs S'.ok (fun b q => S'.ban_lt q) S'.pg S'.pos rl)
theorem call_len_strA {l : List Nat} (hs : l.length ≤ 1099511627776) : CallA (.builtin "len") [.str l] (.int l.length) := fun X B T s vals _ _ _ h0 r => by
  cases r using RepL.cCons with
  | cons r₁ r₂ =>
    cases r₂ using RepL.cNil
    refine x2a3 (rep_str_inv r₁) fun x t e_0 hx _ => ?_; subst e_0
    have hlen : x.length = l.length := by subst hx; simp [Str.length]
    rw [← hlen]
    exact call_len_gives (typeIs_str _ _ _) F.slot_str_len F.entry_str_len (F.args_str_len_1 _) (gives_str_len x t) (by (clear hlen h0 hs; lia)) (by (clear h0; lia)) (yl_int (by (clear hlen hs; lia)))
end
end Mine
namespace Mine
open PySem PySem.W PyProof.Rows
variable [Lo]
variable {W : World}
structure IsT (x : AV) (T : String) (b : Bool) : Prop where
  run : ∀ (X : Cx) (B : Addr → Prop) (T' : Tx) (s : Shared) (v : Value), Rep X.w B T' s.toks s.heap v x → Yl X B T' s (call (.builtin "isinstance") [v, .type T]) (.bool b)
theorem meta_str : typeOf (.type "str") = pure (.type "type") := by kernel_rfl
theorem meta_bytes : typeOf (.type "bytes") = pure (.type "type") := by kernel_rfl
theorem meta_memv : typeOf (.type "memoryview") = pure (.type "type") := by kernel_rfl
theorem sub_bytes_str : isSubtype (.type "bytes") (.type "str") = pure false := by rw [isSubtype_type]; kernel_rfl
theorem sub_bytes_memv : isSubtype (.type "bytes") (.type "memoryview") = pure false := by rw [isSubtype_type]; kernel_rfl
theorem sub_bytes_bytes : isSubtype (.type "bytes") (.type "bytes") = pure true := by rw [isSubtype_type]; kernel_rfl
theorem isT_str_str {l : List Nat} : IsT (.str l) "str" true := ⟨fun X B T' s v r => by
  refine x2a2 (rep_str_inv r) fun x t e_0 _ => ?_; subst e_0
  exact IsiPair.str_str ⟨T', .refl _ _, .bool _⟩⟩
theorem isT_bytes_bytes {l : List Nat} : IsT (.bytes l) "bytes" true := ⟨fun X B T' s v r => by
  refine x2a2 (rep_bytes_inv r) fun x t e_0 _ => ?_; subst e_0
  exact call_isinstance_yes (Tx := "bytes") rfl meta_bytes sub_bytes_bytes ⟨T', .refl _ _, .bool _⟩⟩
theorem isT_bytes_no {l : List Nat} {T : String} (hne : (Value.type "bytes" == Value.type T) = false) (hty : typeOf (.type T) = pure (.type "type")) (hsub : isSubtype (.type "bytes") (.type T) = pure false) : IsT (.bytes l) T false := ⟨fun X B T' s v r => by
  refine x2a2 (rep_bytes_inv r) fun x t e_0 _ => ?_; subst e_0
  refine call_isinstance_of ?_
  exact isinstance_nested_false_bytes hne hty hsub ⟨T', .tok (Nat.le_succ _), .bool _⟩⟩
theorem isT_bytes_str {l : List Nat} : IsT (.bytes l) "str" false := isT_bytes_no (by decide +kernel) meta_str sub_bytes_str
theorem isT_bytes_memv {l : List Nat} : IsT (.bytes l) "memoryview" false := isT_bytes_no (by decide +kernel) meta_memv sub_bytes_memv
section
variable {X : Cx} {σ : Sto}
theorem Ev.isinstance {p pos tp : Pos} {e : Expr} {f tn : Str} {x : AV} {T : String} {b : Bool} (h : Ev X e σ x) (hT : IsT x T b) (hf : f = ("isinstance" : Str)) (htn : bootBuiltins tn = some (.type T))
    (hkind : X.env.kindOf f = some .globalImplicit) (hg : X.G.mg f = none) (hkind' : X.env.kindOf tn = some .globalImplicit) (hg' : X.G.mg tn = none) (hn' : autoParam (tn ≠ "__name__") byDec) (hd' : autoParam ((tn == ("__debug__" : Str)) = false) byDec)
    (he : autoParam (starEach [e, .Name tn tp] X.env = [(false, eval e X.env), (false, eval (.Name tn tp) X.env)]) byRfl)
    (hcall : autoParam (eval (.Call (.Name f p) [e, .Name tn tp] [] pos) X.env = (do callWith pos (← eval (.Name f p) X.env) [] (backTo pos (starEach [e, .Name tn tp] X.env)) (backToKw pos (keywordEach [] X.env)))) byRfl) :
    Ev X (.Call (.Name f p) [e, .Name tn tp] [] pos) σ (.bool b) := fun T₀ s S => by
  subst hf
  refine wq_Call (S.load_builtin (v := .builtin "isinstance") hkind hg (by rfl) ?_) hcall
  refine wq_callWith_plain (fun _ => by simp) (by rw [he]; rfl) ?_
  rw [he]
  refine wq_evalArgs (wq_spliced_cons (h.then S fun v T₁ s₁ l₁ S₁ r₁ => wq_spliced_cons (S₁.load_builtin hkind' hg' htn (wq_spliced_nil ?_) hn' hd')))
  exact Yl.backq l₁ (hT.run X _ _ _ v r₁)
end
omit [Lo] in
structure Py (n : Nat) (x : AV) (d : PyData) : Prop where
  reads : ∀ {W : World} {B : Addr → Prop} {T : Tx} {k : Nat} {h : Heap} {v : Value}, Rep W B T k h v x → ∃ as, Reads h v d as
  lay : d.canLay0 = true ∧ d.depth ≤ n
  eqv_self : PyData.eqv d d = true
omit [Lo] in
structure PyL (n : Nat) (l : List AV) (ds : List PyData) : Prop where
  reads : ∀ {W : World} {B : Addr → Prop} {T : Tx} {k : Nat} {h : Heap} {vs : List Value}, RepL W B T k h vs l → ∃ as, ReadsAll h vs ds as
  lay : PyData.canLayAll0 ds = true ∧ PyData.depthAll ds ≤ n
  eqv_self : PyData.eqvAll ds ds = true
theorem rep_txt_inv {B : Addr → Prop} {T : Tx} {n : Nat} {h : Heap} {v : Value} {l : List Nat} (r : Rep W B T n h v (.txt l)) : ∃ x t, v = .str x t ∧ x.cps.toList = l := by
  generalize hy : AV.txt l = y at r
  cases r with
  | txt x t => cases hy; exact ⟨x, t, rfl, rfl⟩
  | _ => cases hy
theorem Py.bool {n : Nat} (b : Bool) : Py n (.bool b) (.bool b) := ⟨fun r => by cases r using Rep.cBool; exact ⟨_, Reads.bool b⟩, by simp [PyData.canLay0, PyData.depth], by simp [PyData.eqv]⟩
theorem Py.str {n : Nat} {l : List Nat} (hl : ∀ c ∈ l, c < 0x110000) : Py n (.str l) (.str ⟨l.toArray⟩) := ⟨fun r => by
    refine x2a3 (rep_str_inv r) fun x t e_0 hx _ => ?_; subst e_0
    have : x = ⟨_⟩ := str_of hx
    subst this
    exact ⟨_, Reads.str _ t⟩, by simp [PyData.canLay0, PyData.depth, PyData.strOk]; exact hl, by simp [PyData.eqv]⟩
theorem Py.txt {n : Nat} {l : List Nat} (hl : ∀ c ∈ l, c < 0x110000) : Py n (.txt l) (.str ⟨l.toArray⟩) := ⟨fun r => by
    refine x2a2 (rep_txt_inv r) fun x t e_0 hx => ?_; subst e_0
    have : x = ⟨_⟩ := str_of hx
    subst this
    exact ⟨_, Reads.str _ t⟩, by simp [PyData.canLay0, PyData.depth, PyData.strOk]; exact hl, by simp [PyData.eqv]⟩
theorem Py.tup {n : Nat} {l : List AV} {ds : List PyData} (p : PyL n l ds) : Py (n + 1) (.tup l) (.tuple ds) := ⟨fun r => by
    cases r using Rep.cTup with
    | tup hb ht hs hi =>
      refine x1a1 (p.reads (RepL.of (by rw [Array.length_toList]; exact hs) fun i v x h1 h2 => hi i v x (by simpa using h1) h2)) fun as q => ?_
      refine x1a3 ht fun o ho hc t_0 => ?_; (try clear ht); refine x1a1 t_0 fun k hd => ?_; (try clear t_0)
      exact ⟨as, reads_tuple_at ho hc hd q⟩, by
    simp only [PyData.canLay0, PyData.depth, p.lay.1, true_and]
    exact Nat.succ_le_succ p.lay.2, by simp only [PyData.eqv]; exact p.eqv_self⟩
theorem Py.list {n : Nat} {l : List AV} {ds : List PyData} (p : PyL n l ds) : Py (n + 1) (.list l) (.list ds) := ⟨fun r => by
    cases r using Rep.cList with
    | list hb ht hs hi =>
      refine x1a1 (p.reads (RepL.of (by rw [Array.length_toList]; exact hs) fun i v x h1 h2 => hi i v x (by simpa using h1) h2)) fun as q => ?_
      refine x1a5 ht fun o ho hc _ _ t_0 => ?_; (try clear ht); refine x1a1 t_0 fun k hd => ?_; (try clear t_0)
      exact ⟨_, reads_list_at ho hc hd q⟩, by
    simp only [PyData.canLay0, PyData.depth, p.lay.1, true_and]
    exact Nat.succ_le_succ p.lay.2, by simp only [PyData.eqv]; exact p.eqv_self⟩
theorem PyL.nil {n : Nat} : PyL n [] [] := ⟨fun r => by cases r using RepL.cNil; exact ⟨_, ReadsAll.nil⟩, by simp [PyData.canLayAll0, PyData.depthAll], by simp [PyData.eqvAll]⟩
theorem PyL.cons {n : Nat} {x : AV} {d : PyData} {l : List AV} {ds : List PyData} (p : Py n x d) (q : PyL n l ds) : PyL n (x :: l) (d :: ds) := ⟨fun r => by
    cases r using RepL.cCons with
    | cons r₁ r₂ =>
      obtain ⟨as, a⟩ := p.reads r₁
      obtain ⟨bs, b⟩ := q.reads r₂
      exact ⟨_, ReadsAll.cons a b⟩, by
    simp only [PyData.canLayAll0, PyData.depthAll, p.lay.1, q.lay.1, Bool.and_self, true_and]
    have a1 := p.lay.2
    have a2 := q.lay.2
    lia, by simp only [PyData.eqvAll, p.eqv_self, q.eqv_self, Bool.and_self]⟩
theorem Py.shaped {n : Nat} {x : AV} {d : PyData} (p : Py n x d) (hn : n ≤ 64) : SeqAt.shaped d = true := by
  unfold SeqAt.shaped; rw [p.lay.1, Bool.true_and]; exact decide_eq_true (Nat.le_trans p.lay.2 hn)
theorem units_ok {X : Cx} (ok : X.Ok) : X.A.units + 64 < cLine := by
  have := ok.a.units
  show X.A.units + 64 < 9900
  lia
theorem cmp_eq_deep {n m : Nat} {x y : AV} {d e : PyData} (p : Py n x d) (q : Py m y e) (hn : autoParam (n ≤ 64) byDec) (hm : autoParam (m ≤ 64) byDec) : CmpG .Eq x y (PyData.eqv d e) := fun X B T s u v ok _ h0 r₁ r₂ => by
  refine x1a1 (p.reads r₁) fun as ra => ?_
  refine x1a1 (q.reads r₂) fun bs rb => ?_
  exact eq_dataH ra rb (p.shaped hn) (q.shaped hm) (units_ok ok) ⟨T, .refl _ _, .bool _⟩
theorem cmp_ne_deep {n m : Nat} {x y : AV} {d e : PyData} (p : Py n x d) (q : Py m y e) (hn : autoParam (n ≤ 64) byDec) (hm : autoParam (m ≤ 64) byDec) : CmpG .NotEq x y (!PyData.eqv d e) := fun X B T s u v ok _ h0 r₁ r₂ => by
  obtain ⟨as, ra⟩ := p.reads r₁
  obtain ⟨bs, rb⟩ := q.reads r₂
  exact ne_dataH ra rb (p.shaped hn) (q.shaped hm) (units_ok ok) ⟨T, .refl _ _, .bool _⟩
end Mine
namespace Mine
open PySem PySem.W PyProof.Rows
variable [Lo]
variable {W : World}
namespace FD
open Builtin
set_option maxRecDepth 100000
variable {b : Array UInt8} {c : UInt8} {cs : List UInt8} {t t1 t2 t3 : Tok}
theorem loop_all {α β : Type} {g : Nat → α} {f : β → α → Sem (ForInStep α)} : ∀ (l : List β) (i : Nat), (∀ x k, i ≤ k → k < i + l.length → f x (g k) = pure (.yield (g (k + 1)))) → forIn l (g i) f = pure (g (i + l.length))
  | [], i, _ => rfl
  | x :: l, i, h => by
    rw [List.forIn_cons, h x i (Nat.le_refl _) (by simp), pure_bind]
    show forIn l (g (i + 1)) f = _
    rw [loop_all l (i + 1) fun x k h1 h2 => h x k (by omega) (by simp only [List.length_cons]; omega)]
    simp only [List.length_cons]
    rw [show i + 1 + l.length = i + (l.length + 1) by omega]
theorem run_key (F : Nat → Nat × Array Nat × _codecs.Faults → Sem (ForInStep (Nat × Array Nat × _codecs.Faults)))
    (hF : ∀ x k, k < b.size → F x (k, (b.map (·.toNat)).extract 0 k, {}) = pure (.yield (k + 1, (b.map (·.toNat)).extract 0 (k + 1), {}))) :
    (forIn (List.range' 0 ([:b.size] : Std.Legacy.Range).size) ((0, #[], {}) : Nat × Array Nat × _codecs.Faults) F >>= fun s => pure (s.2.1, s.1)) = (pure (b.map (·.toNat), b.size) : Sem _) := by
  have hl : (List.range' 0 ([:b.size] : Std.Legacy.Range).size).length = b.size := by simp [Std.Legacy.Range.size]
  have := loop_all (g := fun k => (k, (b.map (·.toNat)).extract 0 k, ({} : _codecs.Faults))) (f := F) (List.range' 0 ([:b.size] : Std.Legacy.Range).size) 0 fun x k h1 h2 => hF x k (by omega)
  simp only [hl, Nat.zero_add] at this
  have e0 : Array.extract (Array.map (fun x : UInt8 => x.toNat) b) 0 0 = #[] := by simp
  have e1 : Array.extract (Array.map (fun x : UInt8 => x.toNat) b) 0 b.size = Array.map (fun x => x.toNat) b := by
    have : b.size = (Array.map (fun x : UInt8 => x.toNat) b).size := by simp
    rw [this, Array.extract_size]
  rw [e0, e1] at this
  rw [this]
  rfl
theorem run_ascii {id : String} {errors : Option Str} (hb : ∀ c ∈ b.toList, c.toNat < 128) (hs : b.size ≤ 16777216) :
    _codecs.runDecoder id _codecs.asciiDecoder errors true b 0 [] = pure (b.map (·.toNat), b.size) := by
  unfold _codecs.runDecoder
  simp only [Std.Legacy.Range.forIn_eq_forIn_range']
  refine run_key _ fun x k hk => ?_
  have hsz : (Array.extract (Array.map (fun x : UInt8 => x.toNat) b) 0 k).size = k := by simp; omega
  have hlt : (b.getD k 0).toNat < 128 := by
    rw [Array.getD_eq_getD_getElem?, Array.getElem?_eq_getElem hk]
    exact hb _ (by simp)
  have hf : _codecs.asciiDecoder.find true b k = _codecs.Found.text [(b.getD k 0).toNat] (k + 1) := by
    show (if (b.getD k 0).toNat < 128 then _ else _) = _
    rw [if_pos hlt]
    rfl
  simp only [hf]
  rw [if_neg (by rw [hsz, sizeLine_eq]; omega), if_neg (by omega)]
  have he : Array.extract (Array.map (fun x : UInt8 => x.toNat) b) 0 (k + 1) = Array.extract (Array.map (fun x : UInt8 => x.toNat) b) 0 k ++ [(b.getD k 0).toNat].toArray := by
    apply Array.ext'
    simp only [Array.toList_extract, Array.toList_append, Array.toList_map]
    simp only [List.extract_eq_take_drop, List.drop_zero, Nat.sub_zero]
    rw [List.take_add_one]
    congr 1
    simp [Array.getD_eq_getD_getElem?, hk]
  rw [he]
theorem road_strict {id : String} : _codecs.decodeRoad id b (PySem.Str.ofString "ascii") (some (PySem.Str.ofString "strict")) [] = (_codecs.runDecoder id _codecs.asciiDecoder (some (PySem.Str.ofString "strict")) true b 0 [] >>= fun r => mkStr ⟨r.1⟩) := by kernel_rfl
theorem road_ignore {id : String} : _codecs.decodeRoad id b (PySem.Str.ofString "ascii") (some (PySem.Str.ofString "ignore")) [] = (_codecs.runDecoder id _codecs.asciiDecoder (some (PySem.Str.ofString "ignore")) true b 0 [] >>= fun r => mkStr ⟨r.1⟩) := by kernel_rfl
theorem new_strict : «str.__new__» ⟨[.type "str", .bytes (c :: cs).toArray t, .str (PySem.Str.ofString "ascii") t1, .str (PySem.Str.ofString "strict") t2], []⟩ =
    (mkStr (PySem.Str.ofString "ascii") >>= fun e => mkStr (PySem.Str.ofString "strict") >>= fun d => rule "str.__new__.decode-bytes" >>= fun _ => call (.builtin "bytes.decode") [.bytes (c :: cs).toArray t] [(PySem.Str.ofString "encoding", e), (PySem.Str.ofString "errors", d)] >>= fun v => ret v) := by kernel_rfl
theorem new_ignore : «str.__new__» ⟨[.type "str", .bytes (c :: cs).toArray t, .str (PySem.Str.ofString "ascii") t1, .str (PySem.Str.ofString "ignore") t2], []⟩ =
    (mkStr (PySem.Str.ofString "ascii") >>= fun e => mkStr (PySem.Str.ofString "ignore") >>= fun d => rule "str.__new__.decode-bytes" >>= fun _ => call (.builtin "bytes.decode") [.bytes (c :: cs).toArray t] [(PySem.Str.ofString "encoding", e), (PySem.Str.ofString "errors", d)] >>= fun v => ret v) := by kernel_rfl
theorem dec_strict : «bytes.decode» ⟨[.bytes (c :: cs).toArray t], [(PySem.Str.ofString "encoding", .str (PySem.Str.ofString "ascii") t1), (PySem.Str.ofString "errors", .str (PySem.Str.ofString "strict") t2)]⟩ =
    (mkStr (PySem.Str.ofString "utf-8") >>= fun _ => mkStr (PySem.Str.ofString "ascii") >>= fun e => mkStr (PySem.Str.ofString "strict") >>= fun d => mkStr (PySem.Str.ofString "bytes.decode") >>= fun i =>
      call (.builtin "_codecs.decode.text") [.bytes (c :: cs).toArray t, e, d, i] >>= fun v => ret v) := by kernel_rfl
theorem meets_text_strict {d : PySem.Str} (hb : ∀ c ∈ b.toList, c.toNat < 128) (hs : b.size ≤ 16777216) :
    Meets («_codecs.decode.text» ⟨[.bytes b t, .str (PySem.Str.ofString "ascii") t1, .str (PySem.Str.ofString "strict") t2, .str d t3], []⟩) (fun _ R s => R (.ok (.ret (.str ⟨b.map (·.toNat)⟩ s.toks))) { s with toks := s.toks + 1 }) := by
  refine .of_wp fun prog w A R s h => ?_
  show wpAny _ _ (Bytes.bytesLike _ (.bytes b t) >>= fun r => _) _ _ s
  refine wpAny_bind (wpAny_of_eq KBd.like_eq ?_)
  refine wpAny_bind (wpAny_of_eq KBd.held_eq ?_)
  show wpAny _ _ (_codecs.decodeRoad _ b (PySem.Str.ofString "ascii") (some (PySem.Str.ofString "strict")) [] >>= fun v => _) _ _ s
  rw [road_strict, run_ascii hb hs]
  refine wpAny_bind (wpAny_bind (wpAny_pure ?_))
  exact wpAny_mkStr (wpAny_pure ⟨_, rfl, h⟩) (by show (b.map (·.toNat)).size ≤ sizeLine; rw [Array.size_map, sizeLine_eq]; exact hs)
theorem dec_ignore : «bytes.decode» ⟨[.bytes (c :: cs).toArray t], [(PySem.Str.ofString "encoding", .str (PySem.Str.ofString "ascii") t1), (PySem.Str.ofString "errors", .str (PySem.Str.ofString "ignore") t2)]⟩ =
    (mkStr (PySem.Str.ofString "utf-8") >>= fun _ => mkStr (PySem.Str.ofString "ascii") >>= fun e => mkStr (PySem.Str.ofString "ignore") >>= fun d => mkStr (PySem.Str.ofString "bytes.decode") >>= fun i =>
      call (.builtin "_codecs.decode.text") [.bytes (c :: cs).toArray t, e, d, i] >>= fun v => ret v) := by kernel_rfl
theorem meets_text_ignore {d : PySem.Str} (hb : ∀ c ∈ b.toList, c.toNat < 128) (hs : b.size ≤ 16777216) :
    Meets («_codecs.decode.text» ⟨[.bytes b t, .str (PySem.Str.ofString "ascii") t1, .str (PySem.Str.ofString "ignore") t2, .str d t3], []⟩) (fun _ R s => R (.ok (.ret (.str ⟨b.map (·.toNat)⟩ s.toks))) { s with toks := s.toks + 1 }) := by
  refine .of_wp fun prog w A R s h => ?_
  show wpAny _ _ (Bytes.bytesLike _ (.bytes b t) >>= fun r => _) _ _ s
  refine wpAny_bind (wpAny_of_eq KBd.like_eq ?_)
  refine wpAny_bind (wpAny_of_eq KBd.held_eq ?_)
  show wpAny _ _ (_codecs.decodeRoad _ b (PySem.Str.ofString "ascii") (some (PySem.Str.ofString "ignore")) [] >>= fun v => _) _ _ s
  rw [road_ignore, run_ascii hb hs]
  refine wpAny_bind (wpAny_bind (wpAny_pure ?_))
  exact wpAny_mkStr (wpAny_pure ⟨_, rfl, h⟩) (by show (b.map (·.toNat)).size ≤ sizeLine; rw [Array.size_map, sizeLine_eq]; exact hs)
theorem args_object_init_4 (a b c d : Value) : argsOk "object.__init__" ⟨[a, b, c, d], []⟩ := by
  unfold argsOk; rw [signature?_of (id := "object.__init__") (n := ['_', '_', 't', 'i', 'n', 'i', '_', '_']) (o := ['t', 'c', 'e', 'j', 'b', 'o']) (by kernel_rfl) PySem.F.owner_object]; kernel_rfl
theorem typeCall_str_3 (a b c : Value) : checkTypeCall "str" ⟨[a, b, c], []⟩ = pure () := by kernel_rfl
theorem newCall_str_3 (a b c : Value) : checkBuiltinCall "str.__new__" ⟨[.type "str", a, b, c], []⟩ = pure () := by kernel_rfl
theorem check_decode (b : Array UInt8) (t : Tok) (e d : Value) : checkBuiltinCall "bytes.decode" ⟨[.bytes b t], [(PySem.Str.ofString "encoding", e), (PySem.Str.ofString "errors", d)]⟩ = pure () := by kernel_rfl
end FD
section
variable {prog : Program} {w : World} {A : Around} {E : Value → Shared → Prop} {s : Shared}
open Builtin
theorem call_str_strict {c : UInt8} {cs : List UInt8} {t t1 t2 : Tok} {Q : Value → Shared → Prop} (hb : ∀ x ∈ c :: cs, x.toNat < 128) (hs : (c :: cs).length ≤ 16777216)
    (h : ∀ t' k, s.toks ≤ t' → t' < k → Q (.str ⟨(c :: cs).toArray.map (·.toNat)⟩ t') { s with toks := k }) :
    wpAny (model prog w) A (call (.type "str") [.bytes (c :: cs).toArray t, .str (PySem.Str.ofString "ascii") t1, .str (PySem.Str.ofString "strict") t2]) Q E s := by
  refine callType_codes (T := "str") (Bi := Builtin.«object.__init__») (Q₁ := fun r s₁ => ∃ y u, r = .str y u ∧ Q r s₁) PySem.F.called_str (FD.typeCall_str_3 _ _ _) PySem.F.entry_object_init ?_ ?_
  · refine codeAny_of_tree ?_
    show wpAny _ A.in1.in1 (do checkBuiltinCall "str.__new__" ⟨_, []⟩; again (.builtin "str.__new__" ⟨_, []⟩)) _ _ s
    refine wpAny_bind (wpAny_of_eq (FD.newCall_str_3 _ _ _) (wpAny_pure ⟨plainId_quiet (by decide +kernel) _, codeAny_builtin PySem.F.entry_str_new ?_⟩))
    rw [Around.under_plainId (by decide +kernel) _]
    rw [FD.new_strict]
    refine wpAny_bind (wpAny_mkStr (wpAny_bind (wpAny_mkStr (wpAny_bind (wpAny_rule (wpAny_bind ?_))) (by decide))) (by decide))
    refine wpAny_call (codeAny_of_tree ?_)
    show wpAny _ A.in1.in1.in1 (do checkBuiltinCall "bytes.decode" ⟨_, _⟩; again (.builtin "bytes.decode" ⟨_, _⟩)) _ _ _
    refine wpAny_bind (wpAny_of_eq (FD.check_decode _ _ _ _) (wpAny_pure ⟨plainId_quiet (by decide +kernel) _, codeAny_builtin FB.entry_bytes_decode ?_⟩))
    rw [Around.under_plainId (by decide +kernel) _]
    rw [FD.dec_strict]
    refine wpAny_bind (wpAny_mkStr (wpAny_bind (wpAny_mkStr (wpAny_bind (wpAny_mkStr (wpAny_bind (wpAny_mkStr (wpAny_bind ?_) (by decide))) (by decide))) (by decide))) (by decide))
    refine call_function_meets KBd.kind_text KBd.plain_text KBd.entry_text (KBd.args_text _ _ _ _) (FD.meets_text_strict (by simpa using hb) (by simpa using hs)) ?_
    refine wpAny_pure (wpAny_pure ⟨_, _, rfl, h _ _ ?_ ?_⟩)
    · dsimp only; (clear hs; lia)
    · dsimp only; (clear hs; lia)
  · rintro obj s₁ ⟨y, u, rfl, hq⟩
    exact ⟨typeIs_str _ _ _, FD.args_object_init_4 _ _ _ _, object_init_meets PySem.F.called_str.init.lookup PySem.F.called_str.made (by decide) prog w A.in1 _ s₁ ⟨typeIs_str _ _ _, rfl, hq⟩⟩
theorem call_str_ignore {c : UInt8} {cs : List UInt8} {t t1 t2 : Tok} {Q : Value → Shared → Prop} (hb : ∀ x ∈ c :: cs, x.toNat < 128) (hs : (c :: cs).length ≤ 16777216)
    (h : ∀ t' k, s.toks ≤ t' → t' < k → Q (.str ⟨(c :: cs).toArray.map (·.toNat)⟩ t') { s with toks := k }) :
    wpAny (model prog w) A (call (.type "str") [.bytes (c :: cs).toArray t, .str (PySem.Str.ofString "ascii") t1, .str (PySem.Str.ofString "ignore") t2]) Q E s := by
  refine callType_codes (T := "str") (Bi := Builtin.«object.__init__») (Q₁ := fun r s₁ => ∃ y u, r = .str y u ∧ Q r s₁) PySem.F.called_str (FD.typeCall_str_3 _ _ _) PySem.F.entry_object_init ?_ ?_
  · refine codeAny_of_tree ?_
    show wpAny _ A.in1.in1 (do checkBuiltinCall "str.__new__" ⟨_, []⟩; again (.builtin "str.__new__" ⟨_, []⟩)) _ _ s
    refine wpAny_bind (wpAny_of_eq (FD.newCall_str_3 _ _ _) (wpAny_pure ⟨plainId_quiet (by decide +kernel) _, codeAny_builtin PySem.F.entry_str_new ?_⟩))
    rw [Around.under_plainId (by decide +kernel) _]
    rw [FD.new_ignore]
    refine wpAny_bind (wpAny_mkStr (wpAny_bind (wpAny_mkStr (wpAny_bind (wpAny_rule (wpAny_bind ?_))) (by decide))) (by decide))
    refine wpAny_call (codeAny_of_tree ?_)
    show wpAny _ A.in1.in1.in1 (do checkBuiltinCall "bytes.decode" ⟨_, _⟩; again (.builtin "bytes.decode" ⟨_, _⟩)) _ _ _
    refine wpAny_bind (wpAny_of_eq (FD.check_decode _ _ _ _) (wpAny_pure ⟨plainId_quiet (by decide +kernel) _, codeAny_builtin FB.entry_bytes_decode ?_⟩))
    rw [Around.under_plainId (by decide +kernel) _]
    rw [FD.dec_ignore]
    refine wpAny_bind (wpAny_mkStr (wpAny_bind (wpAny_mkStr (wpAny_bind (wpAny_mkStr (wpAny_bind (wpAny_mkStr (wpAny_bind ?_) (by decide))) (by decide))) (by decide))) (by decide))
    refine call_function_meets KBd.kind_text KBd.plain_text KBd.entry_text (KBd.args_text _ _ _ _) (FD.meets_text_ignore (by simpa using hb) (by simpa using hs)) ?_
    refine wpAny_pure (wpAny_pure ⟨_, _, rfl, h _ _ ?_ ?_⟩)
    · dsimp only; (clear hs; lia)
    · dsimp only; (clear hs; lia)
  · rintro obj s₁ ⟨y, u, rfl, hq⟩
    exact ⟨typeIs_str _ _ _, FD.args_object_init_4 _ _ _ _, object_init_meets PySem.F.called_str.init.lookup PySem.F.called_str.made (by decide) prog w A.in1 _ s₁ ⟨typeIs_str _ _ _, rfl, hq⟩⟩
end
omit [Lo] in
noncomputable def strictL : List Nat := [115, 116, 114, 105, 99, 116]
omit [Lo] in
noncomputable def ignoreL : List Nat := [105, 103, 110, 111, 114, 101]
omit [Lo] in
noncomputable def asciiL : List Nat := [97, 115, 99, 105, 105]
theorem call_str_ascii {l er : List Nat} (hl : l ≠ []) (hb : ∀ c ∈ l, c < 128) (hs : l.length ≤ 16777216) (he : er = strictL ∨ er = ignoreL) : CallG (.type "str") [.bytes l, .str asciiL, .str er] (.str l) := fun X B T s vals _ _ _ _ h0 rl => by
  cases rl using RepL.cCons with
  | cons r₁ rl =>
  cases rl using RepL.cCons with
  | cons r₂ rl =>
  cases rl using RepL.cCons with
  | cons r₃ rl =>
  cases rl using RepL.cNil
  refine x2a2 (rep_bytes_inv r₁) fun b t e_0 e_1 => ?_; subst e_0; subst e_1
  refine x2a3 (rep_str_inv r₂) fun x t1 e_0 hx _ => ?_; subst e_0
  refine x2a3 (rep_str_inv r₃) fun y t2 e_0 hy _ => ?_; subst e_0
  have hx' : x = PySem.Str.ofString "ascii" := (str_of hx).trans (by decide)
  subst hx'
  obtain ⟨c, cs, hbl⟩ : ∃ c cs, b = (c :: cs).toArray := by
    obtain ⟨bl⟩ := b
    cases bl with
    | nil => exact absurd rfl hl
    | cons c cs => exact ⟨c, cs, rfl⟩
  subst hbl
  have hb' : ∀ x ∈ c :: cs, x.toNat < 128 := fun x hx => hb _ (by simp only [bnats]; exact List.mem_map_of_mem hx)
  have hs' : (c :: cs).length ≤ 16777216 := by simpa [bnats] using hs
  have fin : ∀ t' k, s.toks ≤ t' → t' < k → ∃ T', Le T s T' { s with toks := k } ∧ Rep X.w B T' k s.heap (.str ⟨(c :: cs).toArray.map (·.toNat)⟩ t') (.str (bnats (c :: cs).toArray)) := fun t' k h1 h2 => by
    have hl : ((⟨(c :: cs).toArray.map (·.toNat)⟩ : Str).cps).toList = bnats (c :: cs).toArray := by simp [bnats]
    refine ⟨fun u => if u = t' then bnats (c :: cs).toArray else T u, ⟨Ext.refl _, by show s.toks ≤ k; (clear hs' hs; lia), fun t ht => if_neg (Nat.ne_of_lt (Nat.lt_of_lt_of_le ht h1)), rfl, rfl⟩, .str ⟨⟨_, t', rfl, hl, if_pos rfl, Nat.lt_of_lt_of_le h0 h1, h2⟩⟩⟩
  rcases he with rfl | rfl
  · have hy' : y = PySem.Str.ofString "strict" := (str_of hy).trans (by decide)
    subst hy'
    exact call_str_strict hb' hs' fin
  · have hy' : y = PySem.Str.ofString "ignore" := (str_of hy).trans (by decide)
    subst hy'
    exact call_str_ignore hb' hs' fin
end Mine
namespace Mine
open PySem PySem.W PyProof.Rows
variable [Lo]
variable {W : World}
omit [Lo] in
noncomputable def putAllE (W : World) (src acc : List DictEntry) : List DictEntry := src.foldl (fun acc e => putE W (strOf e.key) e.key e.val acc) acc
omit [Lo] in
noncomputable def putAllL (src acc : List (List Nat × AV)) : List (List Nat × AV) := src.foldl (fun a p => putL a p.1 p.2) acc
theorem putE_length {W : World} {x : Str} {k v : Value} : ∀ es : List DictEntry, (putE W x k v es).length ≤ es.length + 1
  | [] => by simp [putE]
  | e :: es => by
    unfold putE
    split
    · simp
    · have := putE_length (W := W) (x := x) (k := k) (v := v) es
      simp only [List.length_cons]; lia
theorem putAllE_length {W : World} : ∀ (src acc : List DictEntry), (putAllE W src acc).length ≤ acc.length + src.length
  | [], acc => by simp [putAllE]
  | e :: src, acc => by
    have h1 := putAllE_length (W := W) src (putE W (strOf e.key) e.key e.val acc)
    have h2 := putE_length (W := W) (x := strOf e.key) (k := e.key) (v := e.val) acc
    simp only [List.length_cons]
    refine Nat.le_trans h1 ?_
    lia
section
variable {prog : Program} {w : World} {A : Around} {E : Value → Shared → Prop} {s : Shared}
theorem mergeDict_e {nm : String} {d o : Addr} {ed eo : Array DictEntry} {Q : Unit → Shared → Prop} (hdo : d ≠ o) (hld : IsDictAt w s.heap d ed) (hlo : IsDictAt w s.heap o eo) (hne : ed.isEmpty = false) (hsz : ed.size + eo.size ≤ 16777216)
    (hQ : ∀ h' es', IsDictAt w h' d es' → es'.toList = putAllE w eo.toList ed.toList → Heap.SameBut d s.heap h' → Q () { s with heap := h' }) : wpAny (model prog w) A (Builtin.Dict.mergeDict nm d o) Q E s := by
  refine x0a3 (id hld) fun t_0 hdS hkd => ?_; refine x1a5 t_0 fun od hod hcd hdid hsld t_1 => ?_; (try clear t_0); refine x1a1 t_1 fun epd hdd => ?_; (try clear t_1)
  refine x0a3 (id hlo) fun t_0 hoS hko => ?_; refine x1a5 t_0 fun oo hoo hco hdio hslo t_1 => ?_; (try clear t_0); refine x1a1 t_1 fun epo hdo' => ?_; (try clear t_1)
  unfold Builtin.Dict.mergeDict
  rw [if_neg (by simpa using hdo)]
  unfold Builtin.Dict.showsAll
  rw [if_neg (by rw [hoS]; exact Bool.false_ne_true)]
  refine wpAny_bind (wpAny_pure ?_)
  refine wpAny_bind (wpAny_dictEntries hoo hdo' ?_)
  have loop : wpAny (model prog w) A (do
      let epoch ← dictEpoch o
      let l ← dictEntries o
      forIn [:l.size] PUnit.unit fun i (_ : PUnit) => (do
          let l' ← dictEntries o
          match l'[i]? with
            | some e => do
              holding [e.key, e.val] (dictSetHashed d e.key e.hash e.val)
              let ep' ← dictEpoch o
              if (ep' != epoch) = true then do
                  (unsupported (toString nm ++ toString ":source-changed-during-callback") : Sem PUnit)
                  pure (ForInStep.yield PUnit.unit)
                else pure (ForInStep.yield PUnit.unit)
            | _ => do
              (unsupported "internal:dict-merge" : Sem PUnit)
              pure (ForInStep.yield PUnit.unit) : Sem (ForInStep PUnit))
      pure ()) Q E s := by
    refine wpAny_bind (wpAny_dictEpoch hoo hdo' ?_)
    refine wpAny_bind (wpAny_dictEntries hoo hdo' ?_)
    refine wpAny_bind ?_
    rw [Std.Legacy.Range.forIn_eq_forIn_range']
    simp only [Std.Legacy.Range.size, Nat.sub_zero, Nat.add_sub_cancel, Nat.div_one]
    refine wpAny_forIn_list _
      (fun rest _ s' => ∃ h' i es', s' = { s with heap := h' } ∧ rest = List.range' i (eo.size - i) ∧ i ≤ eo.size ∧ IsDictAt w h' d es' ∧ es'.toList = putAllE w (eo.toList.take i) ed.toList ∧ h'.get? o = some oo ∧ Heap.SameBut d s.heap h')
      _ ?_ ?_ _ _ ⟨s.heap, 0, ed, rfl, by simp, Nat.zero_le _, hld, by simp [putAllE], hoo, Heap.SameBut.refl _ _⟩
    · rintro x rest b s' ⟨h', i, es', rfl, hr, hi, hd', he', hoo', hs'⟩
      have hlt : i < eo.size := by
        rcases Nat.lt_or_ge i eo.size with h | h
        · exact h
        · rw [Nat.sub_eq_zero_of_le h] at hr; simp at hr
      obtain ⟨rfl, hrest⟩ : x = i ∧ rest = List.range' (i + 1) (eo.size - (i + 1)) := by
        have e : eo.size - i = (eo.size - (i + 1)) + 1 := by lia
        rw [e, List.range'_succ] at hr
        injection hr with h1 h2
        exact ⟨h1, h2⟩
      refine wpAny_bind (wpAny_dictEntries hoo' hdo' ?_)
      rw [Array.getElem?_eq_getElem hlt]
      refine x2a2 (hko.1 eo[x] (Array.getElem_mem hlt)) fun k t hkey hhash => ?_
      show wpAny _ _ (holding [eo[x].key, eo[x].val] (dictSetHashed d eo[x].key eo[x].hash eo[x].val) >>= _) _ _ _
      rw [hhash, hkey]
      have hmx : es'.size ≤ 16777216 := by
        have e1 := putAllE_length (W := w) (eo.toList.take x) ed.toList
        rw [← he'] at e1
        simp only [Array.length_toList, List.length_take] at e1
        (clear hhash; lia)
      refine wpAny_bind (wpAny_holding (dictSetHashed_e hd' hmx fun h'' es'' hd'' he'' hs'' => ?_))
      have hoo'' : h''.get? o = some oo := (hs''.2 o (Ne.symm hdo)).trans hoo'
      refine wpAny_bind (wpAny_dictEpoch hoo'' hdo' ?_)
      rw [if_neg (by simp)]
      refine wpAny_pure ⟨h'', x + 1, es'', rfl, hrest, hlt, hd'', ?_, hoo'', hs'.trans hs''⟩
      have e2 : eo.toList[x]? = some eo[x] := by simp [hlt]
      rw [he'', he', List.take_add_one, e2]
      unfold putAllE
      rw [List.foldl_append]
      simp only [Option.toList_some, List.foldl_cons, List.foldl_nil]
      rw [hkey]
      rfl
    · rintro b s' ⟨h', i, es', rfl, hr, hi, hd', he', hoo', hs'⟩
      have hin : i = eo.size := by
        rcases Nat.lt_or_ge i eo.size with h | h
        · have e : eo.size - i = (eo.size - (i + 1)) + 1 := by lia
          rw [e, List.range'_succ] at hr; exact nomatch hr
        · exact Nat.le_antisymm hi h
      refine wpAny_pure (hQ h' es' hd' ?_ hs')
      rw [he', hin, List.take_of_length_le (by simp)]
  dsimp only
  split
  · refine wpAny_bind (wpAny_dictEntries hod hdd ?_)
    rw [hne]
    exact loop
  · exact loop
theorem meth_update : Meth "dict" "update" "dict.update" := ⟨PySem.F.plainAttrs_dict, PySem.F.slot_dict_update, PySem.F.type_dict_update⟩
end
theorem repE_putAll {B : Addr → Prop} {T : Tx} {n : Nat} {h : Heap} : ∀ {src : List DictEntry} {m : List (List Nat × AV)} {acc : List DictEntry} {l : List (List Nat × AV)}, RepE W B T n h src m → RepE W B T n h acc l → RepE W B T n h (putAllE W src acc) (putAllL m l)
  | _, _, _, _, .nil, r => r
  | _, _, _, _, .cons (e := e) (p := p) hk hv rs, r => by
    obtain ⟨x, t, hkey, hx, h2, h3, h4⟩ := hk
    unfold putAllE putAllL
    rw [List.foldl_cons, List.foldl_cons]
    refine repE_putAll rs ?_
    have := repE_put (W := W) r (x := x) (t := t) (v := e.val) (y := p.2) ⟨x, t, rfl, rfl, by rw [hx]; exact h2, h3, h4⟩ hv
    rw [hkey, hx] at *
    exact this
theorem mut_update {l m : List (List Nat × AV)} (hl : l ≠ []) (hsz : l.length + m.length ≤ 16777216) : MutG "dict.update" (.dict l) [.dict m] (.dict (putAllL m l)) := fun X B T s a vals ok hq hB hBl hG hp r rl => by
  cases rl using RepL.cCons with
  | cons r₁ r₂ =>
    cases r₂ using RepL.cNil
    refine x1a2 (r.dct) fun ed hld re => ?_
    cases r₁ using Rep.cDict with
    | @dict o eo _ hbo hlo hso hko hvo =>
      have ro := RepE.of (B := B) (es := eo.toList) (l := m) (by rw [Array.length_toList]; exact hso) (fun i e x h1 h2 => hko i e x (by simpa using h1) h2) (fun i e x h1 h2 => hvo i e x (by simpa using h1) h2)
      have hao : a ≠ o := fun q => hbo (q ▸ hB)
      have hlen : ed.size = l.length := by simpa using re.length
      have hne : ed.isEmpty = false := by
        cases l with
        | nil => exact absurd rfl hl
        | cons p l => simp only [List.length_cons] at hlen; rw [Array.isEmpty_eq_false_iff]; intro q; rw [q] at hlen; simp at hlen
      have hT : s.TypeIs (.ref a) "dict" := by refine x0a2 hld fun t_0 _ => ?_; (try clear hld); refine x1a3 t_0 fun od hod hcd _ => ?_; (try clear t_0); exact ⟨od, hod, hcd⟩
      have hTo : s.TypeIs (.ref o) "dict" := by refine x0a2 hlo fun t_0 _ => ?_; (try clear hlo); refine x1a3 t_0 fun od hod hcd _ => ?_; (try clear t_0); exact ⟨od, hod, hcd⟩
      have hmeets : MeetsIn X.prog X.w (Builtin.«dict.update» ⟨[.ref a, .ref o], []⟩) (fun _ R s' => s' = s ∧ ∀ h' es', IsDictAt X.w h' a es' → es'.toList = putAllE X.w eo.toList ed.toList → Heap.SameBut a s.heap h' → R (.ok (.ret .none)) { s with heap := h' }) :=
        .of_wp fun A R s' t_0 => x0a2 t_0 fun hs' h => by
          subst hs'
          unfold Builtin.«dict.update»
          refine wpAny_bind ?_
          unfold Builtin.Dict.selfAndRest
          refine wpAny_bind (wpAny_notOrdered_dict hT ?_)
          show wpAny _ _ (pure (a, [Value.ref o])) _ _ s'
          refine wpAny_pure ?_
          show wpAny _ _ (Builtin.Dict.updateFrom "dict.update" a (.ref o) [] .none) _ _ s'
          unfold Builtin.Dict.updateFrom
          refine wpAny_bind (wpAny_typeOf hTo ?_)
          rw [if_neg (by decide)]
          refine wpAny_bind ?_
          unfold Builtin.Dict.merge
          refine wpAny_bind ?_
          unfold Builtin.Dict.readDirectly
          refine wpAny_bind (wpAny_isInstance hTo isSubtype_dict_dict ?_)
          simp only [Bool.not_true, Bool.false_eq_true, if_false]
          refine wpAny_bind (wpAny_specialOf hTo F.slot_dict_iter.lookup (wpAny_pure ?_))
          simp only [beq_self_eq_true, if_true]
          refine wpAny_bind (wpAny_pure ?_)
          refine mergeDict_e hao hld hlo hne (by (clear hp; lia)) fun h' es' hd' he' hs' => ?_
          show wpAny _ _ (Builtin.Dict.addKeywords a [] >>= _) _ _ _
          exact wpAny_bind (wpAny_pure (wpAny_pure ⟨.none, rfl, h h' es' hd' he' hs'⟩))
      refine wq_of (call_meetsIn F.slot_dict_update hT F.entry_dict_update (F.args_dict_update_2 _ _) hmeets ⟨rfl, fun h' es' hd' he' hs' => ?_⟩)
      refine ⟨T, s, h', .refl _ _, hs', rfl, .ofDct hd' ?_⟩
      rw [he']
      exact (repE_putAll ro re).mono (Nat.le_refl _) (fun _ _ => rfl) fun v x rv => rv.but fun b ob hb eb => (hs'.2 b fun q => hb (q ▸ hB)).trans eb
end Mine
namespace Mine
open PySem PySem.W PyProof.Rows
variable [Lo]
variable {W : World}
omit [Lo] in
noncomputable def AV.bools (l : List Bool) : List AV := l.map .bool
theorem boolsAre_of {B : Addr → Prop} {T : Tx} {n : Nat} {h : Heap} : ∀ {l : List Bool} {vs : List Value}, RepL W B T n h vs (AV.bools l) → LSm.BoolsAre vs l
  | [], _, .nil => .nil
  | b :: l, _, .cons r rl => by
    cases r using Rep.cBool
    exact .cons b (boolsAre_of rl)
theorem rep_lst {B : Addr → Prop} {T : Tx} {n : Nat} {h : Heap} {v : Value} {l : List AV} (r : Rep W B T n h v (.list l)) : ∃ a items, v = .ref a ∧ ¬ B a ∧ IsLst h a items ∧ RepL W B T n h items.toList l := by
  cases r using Rep.cList with
  | @list a items _ hb hl hs hi => exact ⟨a, items, rfl, hb, hl, .of (by rw [Array.length_toList]; exact hs) fun i v x h1 h2 => hi i v x (by simpa using h1) h2⟩
theorem le_keeps {T : Tx} {s : Shared} {h' : Heap} {k : Nat} (hk : s.toks ≤ k) (hs : s.heap.objs.size ≤ h'.objs.size) (h : ∀ b o, s.heap.get? b = some o → h'.get? b = some o) : Le T s T { s with heap := h', toks := k } :=
  Le.mk' (Ext.keeps hs h) hk
theorem call_all {l : List Bool} : CallG (.builtin "all") [.list (AV.bools l)] (.bool (l.all id)) := fun X B T s vals ok hq hB hG h0 rl => by
  cases rl using RepL.cCons with
  | cons r rl =>
  cases rl using RepL.cNil
  refine x2a4 (rep_lst r) fun a items e_0 hb hl ri => ?_; subst e_0
  have hba := boolsAre_of ri
  have hl' : s.heap.IsList a items.toList.toArray := by rw [Array.toArray_toList]; exact hl.is
  have hlt : a < s.heap.objs.size := by refine x1a2 hl' fun _ e _ => ?_; (try clear hl'); exact Heap.lt_size e
  refine wpAny_grow (call_all_walk (wpAny_pyIter_list hl' ?_))
  refine ⟨s.heap.objs.size, [s.heap.objs.size, a], [s.heap.objs.size], items.toList.toArray.size, _, _, fun i => (l[i]?).getD true, rfl, Walks.list (A := X.A.in1) (ok.hh hq) _ a (Nat.ne_of_lt hlt) items.toList.toArray,
    ⟨⟨_, Heap.get?_push_size _ rfl, rfl, rfl⟩, hl'.push _⟩, fun i v s' Q' E' hP hQ => ?_, fun h' tk hk h1 h2 => ?_⟩
  · refine x1a2 (hba.get i v (by simpa using hP)) fun b e e_0 => ?_; subst e_0
    simp only [e, Option.getD_some] at hQ
    exact wpAny_truthy_bool hQ
  · have e : ((List.range items.toList.toArray.size).all fun i => (l[i]?).getD true) = l.all id := by
      rw [List.size_toArray, hba.length]; exact LSm.range_all l
    rw [e]
    exact ⟨T, le_keeps h1 h2 (LSm.kept_iter hk), .bool _⟩
end Mine
namespace Mine
open PySem PySem.W PyProof.Rows
variable [Lo]
variable {W : World}
end Mine
namespace Mine
open PySem PySem.W PyProof.Rows
variable [Lo]
variable {W : World}
section
variable {X : Cx} {σ : Sto}
theorem repE_get {B : Addr → Prop} {T : Tx} {n : Nat} {h : Heap} {es : List DictEntry} {l : List (List Nat × AV)} (r : RepE W B T n h es l) {i : Nat} {e : DictEntry} (he : es[i]? = some e) : ∃ x, l[i]? = some x ∧ StrAt T n e.key x.1 ∧ Rep W B T n h e.val x.2 := by
  have hi : i < l.length := by rw [← r.length]; exact (List.getElem?_eq_some_iff.mp he).1
  exact ⟨l[i], List.getElem?_eq_getElem hi, r.key i e _ he (List.getElem?_eq_getElem hi), r.val i e _ he (List.getElem?_eq_getElem hi)⟩
theorem Ev.listItems {o : Expr} {p apos ipos pos : Pos} {l : List (List Nat × AV)} (h : Ev X o σ (.dict l)) (hq : X.quiet = true) (hsz : l.length ≤ 16777216) (hkind : X.env.kindOf "list" = some .globalImplicit) (hg : X.G.mg "list" = none)
    (hbase : autoParam (attributeBase o "items" X.env (eval o X.env) = eval o X.env) byRfl)
    (hfew : autoParam (methodCallForm (([] : List Expr).length + ([] : List Keyword).length) (backTo ipos (starEach [] X.env)) (backToKw ipos (keywordEach [] X.env)) = true) byRfl)
    (hline : autoParam ((apos.endLine == ipos.line) = true) byRfl)
    (he : autoParam (starEach [.Call (.Attribute o "items" apos) [] [] ipos] X.env = [(false, eval (.Call (.Attribute o "items" apos) [] [] ipos) X.env)]) byRfl)
    (hcall : autoParam (eval (.Call (.Name "list" p) [.Call (.Attribute o "items" apos) [] [] ipos] [] pos) X.env = (do callWith pos (← eval (.Name "list" p) X.env) [] (backTo pos (starEach [.Call (.Attribute o "items" apos) [] [] ipos] X.env)) (backToKw pos (keywordEach [] X.env)))) byRfl) :
    Ev X (.Call (.Name "list" p) [.Call (.Attribute o "items" apos) [] [] ipos] [] pos) σ (.list (l.map fun q => .tup [.txt q.1, q.2])) := fun T s S => by
  refine wq_Call (S.load_builtin hkind hg (v := .type "list") (by decide +kernel) ?_) hcall
  refine wq_callWith_plain (fun _ => by simp) (by rw [he]; rfl) ?_
  rw [he]
  refine wq_evalArgs (wq_spliced_cons ?_)
  refine wq_Call_method F.plainAttrs_dict F.slot_dict_items F.type_dict_items (h.then S fun v T' s' l' S' r => ⟨r.typeIs, r.noDict (fun _ q => nomatch q), ?_⟩) hbase hfew hline
  refine wq_callWith_plain (fun _ => by simp) rfl (wq_evalArgs_none ?_)
  cases r using Rep.cDict with
  | @dict a es _ hb hl hso hk hi =>
    have re := RepE.of (B := X.ban σ) (es := es.toList) (l := l) (by rw [Array.length_toList]; exact hso) (fun i e x h1 h2 => hk i e x (by simpa using h1) h2) (fun i e x h1 h2 => hi i e x (by simpa using h1) h2)
    refine x0a3 hl fun t_0 hm ky => ?_; (try clear hl); refine x1a5 t_0 fun od ho hc hd hs t_1 => ?_; (try clear t_0); refine x1a1 t_1 fun ep hdat => ?_; (try clear t_1)
    have hat := dictAt_of X.prog ho hc hd hs hdat ky
    refine wq_of (call_meetsIn F.slot_dict_items hat.dictOf.typeIs F.entry_dict_items (F.args_dict_items_1 _) (meets_dict_items (strKind X.prog X.w) a hm) ⟨⟨_, hat.dictOf⟩, ?_⟩)
    refine wq_spliced_nil ?_
    refine wq_of (wpAny_grow (kdx_call (knd := strKind X.prog X.w) (S'.ok.hh hq) (d := a) ⟨_, Heap.get?_push_size _ rfl, rfl, rfl⟩ (hat.push _) (by rw [sizeLine_eq]; simp; lia) fun h' tk acc c as hk' hS hl hG hacc t1 t2 => ?_))
    have l2 : Le T' s' T' { s' with heap := h', toks := tk } := by
      refine le_keeps t1 (Nat.le_trans (by rw [Heap.size_push]; exact Nat.le_succ _) t2) fun b ob e => hk' b ob (Heap.get?_push_of_some _ e)
    have hpush : (s'.heap.push { cls := .type "dict_items", data := .fields #[.ref a] }).objs.size = s'.heap.objs.size + 1 := Heap.size_push ..
    have hnb : ∀ b, s'.heap.objs.size ≤ b → ¬ X.ban σ b := fun b hb q => Nat.lt_irrefl _ (Nat.lt_of_lt_of_le (S'.ban_lt q) hb)
    refine ⟨T', l'.trans l2, .list (hnb _ (by rw [hpush]; exact Nat.le_succ _)) ⟨_, hS, rfl, rfl, rfl, c, rfl⟩ ?_ fun j v y h1 h2 => ?_⟩
    · have h3 : acc.size = as.length := by rw [← Array.length_toList, hacc, List.length_map]
      rw [h3, hl, List.length_map, List.length_map, Array.length_toList, hso]
    · have h1' : (as.map Value.ref)[j]? = some v := by rw [← hacc]; simpa using h1
      rw [List.getElem?_map] at h1'
      refine x1a2 (Option.map_eq_some_iff.mp h1') fun b hb' e_0 => ?_; subst e_0
      refine x3a3 (hG.pairs j b hb') fun key k x e1 e2 e3 => ?_
      rw [List.getElem?_map] at e1
      refine x1a2 (Option.map_eq_some_iff.mp e1) fun e he1 he2 => ?_
      refine x1a3 (repE_get re he1) fun q hq1 hq2 hq3 => ?_
      cases he2
      rw [List.getElem?_map, hq1] at h2
      (have h2 := Option.some.inj h2; subst h2)
      refine x1a1 (Value.isStrOf_shape e2) fun u e_0 => ?_; subst e_0
      have hbS : s'.heap.objs.size ≤ b := by
        have := hG.above b (List.mem_of_getElem? hb')
        rw [hpush] at this
        exact Nat.le_trans (Nat.le_succ _) (Nat.le_of_lt this)
      refine .tup (hnb b hbS) ⟨_, e3, rfl, _, rfl⟩ rfl fun i' v' y' g1 g2 => ?_
      match i', g1, g2 with
      | 0, g1, g2 =>
        simp at g1 g2
        subst g1 g2
        rw [← strAt_strOf hq2]
        exact .txt _ _
      | 1, g1, g2 =>
        simp at g1 g2
        subst g1 g2
        exact hq3.le l2
      | i' + 2, g1, g2 => simp at g1
noncomputable def EvLN (X : Cx) (es : List Expr) (σ : Sto) (xs : List AV) : Prop := ∀ T s, St X σ T s → ∀ pos,
  wq X.M X.A (spliced (backTo pos (starEach es X.env))) (fun vs s' => ∃ T', Le T s T' s' ∧ vs.length = xs.length ∧
    ∀ (i : Nat) (v : Value) (x : AV), vs[i]? = some v → xs[i]? = some x → ∃ a, v = .ref a ∧ s.heap.objs.size ≤ a ∧ OwnRep X.w (fun b => X.ban σ b ∨ b = a) T' s'.toks s'.heap a x) (fun _ _ => False) s
theorem EvLN.nil : EvLN X [] σ [] := fun T s S pos => wq_args_nil ⟨T, .refl _ _, rfl, fun i v x h _ => by simp at h⟩
theorem EvLN.cons {e : Expr} {es : List Expr} {x : AV} {xs : List AV} (h1 : EvN X e σ x) (h2 : EvLN X es σ xs)
    (he : autoParam (starEach (e :: es) X.env = (false, eval e X.env) :: starEach es X.env) byRfl) : EvLN X (e :: es) σ (x :: xs) := fun T s S pos => by
  refine wq_args_cons (wq_mono (h1 T s S) (fun v s' t_0 => x2a4 t_0 fun T' a hv l ha r => ?_) fun _ _ x => x) he
  refine wq_mono (h2 T' s' (S.le_mono l) pos) (fun vs s'' t_0 => x1a3 t_0 fun T'' l' hl k => ?_) fun _ _ x => x
  refine ⟨T'', l.trans l', by simp [hl], fun i w y g1 g2 => ?_⟩
  cases i with
  | zero =>
    simp at g1 g2
    subst g1 g2
    exact ⟨a, hv, ha, r.mono l'.toks l'.tx l'.ext fun b q => .inl q⟩
  | succ i =>
    refine x1a3 (k i w y (by simpa using g1) (by simpa using g2)) fun b e1 e2 e3 => ?_
    exact ⟨b, e1, Nat.le_trans l.ext.1 e2, e3⟩
theorem EvN.pick {es : List Expr} {lp pos : Pos} {ie : Expr} {xs : List AV} {i : Int} {x : AV} (h : EvLN X es σ xs) (h2 : Ev X ie σ (.int i)) (h0 : 0 ≤ i) (hx : xs[i.toNat]? = some x) (hs0 : xs.length ≤ 1000)
    (hs : autoParam (∀ o i, subscripted ie false o i = operate [o, i] (getItem o i)) byI2) : EvN X (.Subscript (.List es lp) ie pos) σ x := fun T s S => by
  refine wq_Subscript (wq_List (wq_mono (h T s S lp) (fun vs s₁ t_0 => x1a3 t_0 fun T₁ l₁ hl k => ⟨by rw [hl, sizeLine_eq]; exact Nat.le_trans hs0 (by decide), ?_⟩) fun _ _ x => x)) fun o i => ⟨_, hs o i⟩
  have S₁ := (S.le_mono l₁).le_mono (le_push (T := T₁) (s := s₁) { cls := .type "list", data := .seq vs.toArray })
  refine h2.then S₁ fun v T₂ s₂ l₂ S₂ r₂ => ?_
  have hli : IsLst s₂.heap s₁.heap.objs.size vs.toArray := isList_ext (a := s₁.heap.objs.size) ⟨_, Heap.get?_push_size _ rfl, rfl, rfl, rfl, _, rfl⟩ l₂.ext
  refine ⟨?_, ?_⟩
  · refine x1a3 hli fun o ho hc _ => ?_; (try clear hli)
    refine x1a1 (look_get (o := .list []) rfl) fun id hid => ?_
    exact ⟨_, id, ⟨o, ho, hc⟩, hid⟩
  · cases r₂ using Rep.cInt
    have hlt : i.toNat < xs.length := (List.getElem?_eq_some_iff.mp hx).1
    have hv : vs[i.toNat]? = some vs[i.toNat] := List.getElem?_eq_getElem (by rw [hl]; exact hlt)
    refine x1a3 (k i.toNat _ x hv hx) fun a e1 e2 e3 => ?_
    have lall := (le_push (T := T₁) (s := s₁) { cls := .type "list", data := .seq vs.toArray }).trans l₂
    refine wq_of (wpAny_getItem_list hli.is h0 (by omega) (x := vs[i.toNat]) (by simpa using hv) ?_)
    exact ⟨T₂, a, e1, l₁.trans lall, e2, e3.mono lall.toks lall.tx lall.ext fun b q => .inl q⟩
end
end Mine
namespace Mine
open PySem PySem.W PyProof.Rows
variable [Lo]
variable {W : World}
theorem isDictAt_leB {B : Addr → Prop} {T T' : Tx} {s s' : Shared} {a : Addr} {es : Array DictEntry} (x : IsDictAt W s.heap a es) (hb : ¬ B a) (l : LeB B T s T' s') : IsDictAt W s'.heap a es := by
  refine x0a3 x fun t_0 hm ky => ?_; (try clear x); refine x1a5 t_0 fun o ho hc hd hs t_1 => ?_; (try clear t_0); refine x1a1 t_1 fun ep hdat => ?_; (try clear t_1)
  refine x1a5 (isDict_leB ho hc hd hs hdat hb l) fun o' h1 h2 h3 h4 h5 => ?_
  exact ⟨⟨o', h1, h2, h3, h4, ep, h5⟩, hm, ky⟩
section
variable {X : Cx} {σ : Sto}
theorem wq_Assign_tuple {es : List Expr} {k : Nat} {tpos pos : Pos} {e : Expr} {s : Shared} {Q : Flow → Shared → Prop} {E : Value → Shared → Prop}
    (h : wq X.M X.A (eval e X.env) (fun v s' => wq X.M X.A (unpack v (assignEach es X.env)) (fun _ s'' => Q .next s'') E s') E s)
    (hs : swapsWithSole [.Tuple es k tpos] e pos.line X.env = pure false) (hw : swappedStores [.Tuple es k tpos] e X.env = pure none) : wq X.M X.A (exec (.Assign [.Tuple es k tpos] e pos) X.env) Q E s := by
  rw [exec_Assign]
  refine wq_bind (wq_standAt ?_)
  rw [hs]
  refine wq_bind (wq_pure ?_)
  rw [if_neg (by decide)]
  refine wq_bind (wq_mono h (fun v s' h₁ => ?_) fun _ _ x => x)
  rw [hw]
  refine wq_bind (wq_pure ?_)
  show wq X.M X.A (do assignAll v [PySem.assign (.Tuple es k tpos) X.env]; pure Flow.next) _ _ s'
  refine wq_bind ?_
  show wq X.M X.A (do standAt tpos; unpack v (assignEach es X.env)) _ _ s'
  exact wq_bind (wq_standAt (wq_mono h₁ (fun _ s'' q => wq_pure q) fun _ _ x => x))
theorem Ex.assign2D {Q : Post} {x y : Str} {px py tpos vpos pos q1 q2 : Pos} {k k' : Nat} {rest : List Stmt} (hx : storable X x) (hy : storable X y) (hxy : x ≠ y) (hq : X.quiet = true)
    (kk : ∀ a b, Ex X rest ((σ.updO x a (.dict [])).updO y b (.dict [])) Q)
    (hs : autoParam (swapsWithSole [.Tuple [.Name x px, .Name y py] k tpos] (.Tuple [.Dict [] [] q1, .Dict [] [] q2] k' vpos) pos.line X.env = pure false) byRfl)
    (hw : autoParam (swappedStores [.Tuple [.Name x px, .Name y py] k tpos] (.Tuple [.Dict [] [] q1, .Dict [] [] q2] k' vpos) X.env = pure none) byRfl) :
    Ex X (.Assign [.Tuple [.Name x px, .Name y py] k tpos] (.Tuple [.Dict [] [] q1, .Dict [] [] q2] k' vpos) pos :: rest) σ Q := by
  refine Ex.cons ?_
  intro T s S
  refine wq_Assign_tuple ?_ hs hw
  have e1 : EvN X (.Dict [] [] q1) σ (.dict []) := EvN.dict0
  have e2 : EvN X (.Dict [] [] q2) σ (.dict []) := EvN.dict0
  refine wq_Tuple (wq_args_cons (wq_mono (e1 T s S) (fun v1 s₀ t_0 => x2a4 t_0 fun T₀ a hv1 l₀ ha ra₀ => ?_) fun _ _ x => x.elim))
  refine wq_args_cons (wq_mono (e2 T₀ s₀ (S.le_mono l₀)) (fun v2 s₁ t_0 => x2a4 t_0 fun T₁ b hv2 l₀₁ hb₀ rb => ?_) fun _ _ x => x.elim)
  refine wq_args_nil ?_
  refine ⟨by rw [sizeLine_eq]; exact Nat.le_of_ble_eq_true rfl, ?_⟩
  subst hv1 hv2
  have l₁ := l₀.trans l₀₁
  have ra := ra₀.mono (B' := fun c => X.ban σ c ∨ c = a) l₀₁.toks l₀₁.tx l₀₁.ext fun b q => .inl q
  have hb : s.heap.objs.size ≤ b := Nat.le_trans l₀.ext.1 hb₀
  have hab : a ≠ b := by
    refine x1a1 (ra₀.there) fun o ho => ?_
    exact Nat.ne_of_lt (Nat.lt_of_lt_of_le (Heap.lt_size ho) hb₀)
  have l₂ := l₁.trans (le_push (T := T₁) (s := s₁) { cls := .type "tuple", data := .seq ([Value.ref a, .ref b] : List Value).toArray })
  have ht : (s₁.heap.push { cls := .type "tuple", data := .seq ([Value.ref a, .ref b] : List Value).toArray }).IsTuple s₁.heap.objs.size #[.ref a, .ref b] := ⟨_, Heap.get?_push_size _ rfl, rfl, _, rfl⟩
  have lp := le_push (T := T₁) (s := s₁) { cls := .type "tuple", data := .seq ([Value.ref a, .ref b] : List Value).toArray }
  refine wq_of ?_
  have hn : NamesT X [.Name x px, .Name y py] [x, y] := .cons hx (.cons hy .nil)
  unfold unpack
  rw [hn.len.1, hn.len.2, show [x, y].length = (#[Value.ref a, Value.ref b] : Array Value).size from rfl]
  refine wpAny_bind (wpAny_holding ?_)
  refine wpAny_grow ?_
  refine wpAny_unpackItems_tuple (S.ok.hh hq) ht fun h' he htk hsz' => ?_
  have l₃ : Le T₁ { s₁ with heap := s₁.heap.push { cls := .type "tuple", data := .seq ([Value.ref a, .ref b] : List Value).toArray } } T₁ { s₁ with heap := h' } :=
    .mk' (.keeps hsz' fun b o e => he b o (Nat.ne_of_lt (Heap.lt_size e)) e) (Nat.le_refl _)
  have lall := l₂.trans l₃
  have nob : ∀ c, X.ban σ c → c ≠ a ∧ c ≠ b := fun c hc => ⟨fun q => Nat.lt_irrefl _ (Nat.lt_of_lt_of_le (S.ban_lt hc) (q ▸ ha)), fun q => Nat.lt_irrefl _ (Nat.lt_of_lt_of_le (S.ban_lt hc) (q ▸ hb))⟩
  refine x1a2 (ra.dct) fun ea hda rea => ?_
  refine x1a2 (rb.dct) fun eb hdb reb => ?_
  have ea0 : ea = #[] := by have := rea.length; simp at this; exact this
  have eb0 : eb = #[] := by have := reb.length; simp at this; exact this
  subst ea0 eb0
  have lp3 := lp.trans l₃
  have hda' := isDict_ext hda lp3.ext
  have hdb' := isDict_ext hdb lp3.ext
  · have hs0 := S.le.ext.1
    have Sx : StB (fun c => X.ban σ c ∨ c = a ∨ c = b) X σ T₁ { s₁ with heap := h' } := S.le_ban lall fun c q => by
      rcases q with q | q | q
      · exact .inl q
      · exact .inr (Heap.get?_none_of_le (q ▸ ha))
      · exact .inr (Heap.get?_none_of_le (q ▸ hb))
    show wpAny X.M X.A (do holding [.ref b] (PySem.assign (.Name x px) X.env (.ref a)); assignInOrder [PySem.assign (.Name y py) X.env] [.ref b]) _ _ _
    refine wpAny_bind (wpAny_holding (assign_Name (Sx.storeC (c := ⟨some a, .dict []⟩) hx ⟨fun c q => .inl q, fun c e => ?_, fun c z v' e h => ?_⟩ ⟨rfl, .ofDct hda' .nil⟩ fun s₄ S₄ lb₄ => ?_)))
    · (have e := Option.some.inj e; subst e)
      exact ⟨Nat.le_trans hs0 ha, fun q => (nob _ (.inr (.inl q))).1 rfl, fun z q => (nob _ (.inr (.inr (.inl ⟨z, q⟩)))).1 rfl⟩
    · (have e := Option.some.inj e; subst e)
      exact (nob _ (.inr (.inr (.inr ⟨z, v', h⟩)))).1 rfl
    have hdb'' := isDictAt_leB hdb' (fun q => (nob b q).2 rfl) lb₄
    show wpAny X.M X.A (do holding [] (PySem.assign (.Name y py) X.env (.ref b)); assignInOrder [] []) _ _ _
    refine wpAny_bind (wpAny_holding (assign_Name (S₄.storeC (c := ⟨some b, .dict []⟩) hy ⟨fun c q => ?_, fun c e => ?_, fun c z v' e h => ?_⟩ ⟨rfl, .ofDct hdb'' .nil⟩ fun s₅ S₅ lb₅ => ?_)))
    · rcases Cx.ban_updO q with q | q
      · exact .inl q
      · exact .inr (.inl q)
    · (have e := Option.some.inj e; subst e)
      exact ⟨Nat.le_trans hs0 hb, fun q => (nob _ (.inr (.inl q))).2 rfl, fun z q => (nob _ (.inr (.inr (.inl ⟨z, q⟩)))).2 rfl⟩
    · (have e := Option.some.inj e; subst e)
      rw [Sto.get_cons] at h
      split at h
      · cases Option.some.inj h; exact hab rfl
      · exact (nob _ (.inr (.inr (.inr ⟨z, v', h⟩)))).2 rfl
    refine wpAny_pure (⟨T₁, .next, _, ⟨S₅.anti fun c q => ?_, ?_, fun c hc q => ?_⟩, rfl, kk a b⟩)
    · rcases Cx.ban_updO q with q | q
      · rcases Cx.ban_updO q with q | q
        · exact .inl q
        · exact .inr (.inl q)
      · exact .inr (.inr q)
    · refine ((lall.leB (X.ban σ)).trans lb₄ fun _ _ q => q).trans lb₅ fun c hc q => ?_
      rcases Cx.ban_updO q with q | q
      · exact q
      · exact absurd (q ▸ hc) (Nat.not_lt.mpr ha)
    · rcases Cx.ban_updO q with q | q
      · rcases Cx.ban_updO q with q | q
        · exact q
        · exact absurd (q ▸ hc) (Nat.not_lt.mpr ha)
      · exact absurd (q ▸ hc) (Nat.not_lt.mpr hb)
end
end Mine
namespace Mine
open PySem PySem.Calls PySem.W PyProof.Rows
variable [Lo]
omit [Lo] in
noncomputable def bodyOf : Stmt → List Stmt
  | .FunctionDef _ _ b _ _ _ _ _ _ _ => b
  | _ => []
omit [Lo] in
noncomputable def whileBody : Stmt → List Stmt
  | .While _ b _ _ => b
  | _ => []
omit [Lo] in
noncomputable def fdOf (st : Stmt) (pm cd doc dV kV : Value) : FuncData := match st with
  | .FunctionDef n a b _ _ _ sc _ _ _ => { docDef n a b sc pm cd doc with defaults := dV, kwdefaults := kV }
  | _ => default
omit [Lo] in
noncomputable def FnIs (G : Pg) (name : Str) (st : Stmt) (dV : Value := .none) : Prop := ∃ a pm cd doc, G.fn name = some (a, fdOf st pm cd doc dV .none)
theorem FSpec.ofR {prog : Program} {w : World} {G : Pg} {k : Nat} {f : Str} {args dflt : List AV} {r : Except XV AV} {a : Addr} {fd : FuncData} {body : List Stmt} {ps : List Str}
    (hfn : G.fn f = some (a, fd)) (hbody : fd.body = .stmts body) (hb : BindOk G prog w fd ps args.length dflt)
    (h : ∀ A L T s B fr (R : Post), (∀ o σ, Ends o r → R o σ) → Ex (fcx G prog w A fd L a T s B fr k) body (Sto.of ps (args ++ dflt)) R)
    (hps : autoParam (ps.length = args.length + dflt.length) byRfl) (hnd : autoParam (ps.Nodup) byDec)
    (hkind' : autoParam (paramsOk fd.scope.names ps = true) byRfl)
    (hclo : autoParam (fd.closure = []) byRfl) (hgl : autoParam (fd.globals = mainGlobals) byRfl) (hbu : autoParam (fd.builtins = builtinsNs) byRfl)
    (hco : autoParam (fd.scope.isCoroutine = false) byRfl) (hgen : autoParam (fd.scope.isGenerator = false) byRfl) (hk : autoParam (fd.scope.kind = .function) byRfl) : FSpec prog w G (k + 1) f args r :=
  FSpec.of hfn hbody hb (fun A L T s B fr => h A L T s B fr _ fun _ _ q => q) hps hnd hkind' hclo hgl hbu hco hgen hk
section
variable {X : Cx} {σ : Sto} {Q : Post}
theorem Te.sub {e : Expr} {σ' : Sto} {b : Bool} (h : Te X e σ' b) (hs : Sto.Sub σ' σ) : Te X e σ b := fun T s S => h T s (S.sub hs)
theorem Sto.Sub.cons {σ' σ : Sto} (h : Sto.Sub σ' σ) (x : Str) (c : Cell) : Sto.Sub ((x, c) :: σ') ((x, c) :: σ) := fun y d e => by
  rw [Sto.get_cons] at e ⊢
  by_cases q : y = x
  · rw [if_pos q] at e ⊢; exact e
  · rw [if_neg q] at e ⊢; exact h y d e
theorem Sto.Sub.updL {σ' σ : Sto} (h : Sto.Sub σ' σ) : ∀ (xs : List Str) (vs : List AV), Sto.Sub (σ'.updL xs vs) (σ.updL xs vs)
  | [], _ => by simpa [Sto.updL] using h
  | _ :: _, [] => by simpa [Sto.updL] using h
  | x :: xs, v :: vs => Sto.Sub.updL (h.cons x ⟨none, v⟩) xs vs
theorem Ex.whileC {P : Type} {test : Expr} {body orelse rest : List Stmt} {pos : Pos} (ht : X.Top) (C : P → Sto) (Inv : Nat → P → Prop)
    (turn : ∀ n p, Inv n p → ∃ b, Te X test (C p) b ∧ (b = true → Ex X body (C p) (Turn X rest Q fun σ' => ∃ p' m, Sto.Sub (C p') σ' ∧ m < n ∧ Inv m p')) ∧ (b = false → Ex X orelse (C p) (Seq X rest Q)))
    (n : Nat) (p : P) (h0 : Inv n p) (hs : Sto.subB (C p) σ) : Ex X (.While test body orelse pos :: rest) σ Q := by
  refine Ex.while ht (fun n σ => ∃ p, Inv n p ∧ Sto.Sub (C p) σ) (fun n σ t_0 => x1a2 t_0 fun p hi hs => ?_) n ⟨p, h0, Sto.sub_of hs⟩
  obtain ⟨b, t, h1, h2⟩ := turn n p hi
  refine ⟨b, t.sub hs, fun hb => ExT.sub hs (ExT.mono (h1 hb) fun o σ' q => ?_), fun hb => ExT.sub hs (h2 hb)⟩
  cases o with
  | next => obtain ⟨p', m, a, b, c⟩ := q; exact ⟨m, b, p', c, a⟩
  | cont => obtain ⟨p', m, a, b, c⟩ := q; exact ⟨m, b, p', c, a⟩
  | brk => exact q
  | ret v => exact q
  | exc x => exact q
theorem Ex.forN {P : Type} {x : Str} {tp : Pos} {iter : Expr} {body orelse rest : List Stmt} {pos : Pos} {xs : List AV} (ht : X.Top) (h : EvI X iter (.Name x tp) σ xs) (hk : storable X x) (C : P → Sto) (Inv : Nat → P → Prop)
    (turn : ∀ k v p, xs[k]? = some v → Inv k p → Ex X body ((C p).upd x v) (Turn X rest Q fun σ' => ∃ p', Sto.Sub (C p') σ' ∧ Inv (k + 1) p'))
    (fin : ∀ p, Inv xs.length p → Ex X orelse (C p) (Seq X rest Q)) (p : P) (h0 : Inv 0 p) (hs : Sto.subB (C p) σ)
    (hf : autoParam (∀ x, foldedSetIterable iter X.env x = pure x) byI1) : Ex X (.For (.Name x tp) iter body orelse pos :: rest) σ Q := by
  refine Ex.for ht h (fun k σ => ∃ p, Inv k p ∧ Sto.Sub (C p) σ) ⟨p, h0, Sto.sub_of hs⟩ (fun k v σ' hv t_0 => x1a2 t_0 fun p hi hs => ⟨_, Binds.name hk, ExT.sub (hs.cons x _) (ExT.mono (turn k v p hv hi) fun o σ' q => ?_)⟩)
    (fun σ' t_0 => x1a2 t_0 fun p hi hs => ExT.sub hs (fin p hi)) hf
  cases o with
  | next => obtain ⟨p', a, b⟩ := q; exact ⟨p', b, a⟩
  | cont => obtain ⟨p', a, b⟩ := q; exact ⟨p', b, a⟩
  | brk => exact q
  | ret v => exact q
  | exc x => exact q
theorem Ex.forT {P : Type} {es : List Expr} {ns : List Str} {tk : Nat} {tp : Pos} {iter : Expr} {body orelse rest : List Stmt} {pos : Pos} {xs : List AV} (ht : X.Top) (h : EvI X iter (.Tuple es tk tp) σ xs) (hn : NamesT X es ns) (hq : X.quiet = true) (C : P → Sto) (Inv : Nat → P → Prop)
    (turn : ∀ k v p, xs[k]? = some v → Inv k p → ∃ vs, v = .tup vs ∧ ns.length = vs.length ∧ Ex X body ((C p).updL ns vs) (Turn X rest Q fun σ' => ∃ p', Sto.Sub (C p') σ' ∧ Inv (k + 1) p'))
    (fin : ∀ p, Inv xs.length p → Ex X orelse (C p) (Seq X rest Q)) (p : P) (h0 : Inv 0 p) (hs : Sto.subB (C p) σ)
    (hf : autoParam (∀ x, foldedSetIterable iter X.env x = pure x) byI1) : Ex X (.For (.Tuple es tk tp) iter body orelse pos :: rest) σ Q := by
  refine Ex.for ht h (fun k σ => ∃ p, Inv k p ∧ Sto.Sub (C p) σ) ⟨p, h0, Sto.sub_of hs⟩ (fun k v σ' hv t_0 => x1a2 t_0 fun p hi hs => ?_)
    (fun σ' t_0 => x1a2 t_0 fun p hi hs => ExT.sub hs (fin p hi)) hf
  obtain ⟨vs, rfl, hl, hb⟩ := turn k v p hv hi
  refine ⟨_, Binds.tuple hn hq hl, ExT.sub (hs.updL ns vs) (ExT.mono hb fun o σ' q => ?_)⟩
  cases o with
  | next => obtain ⟨p', a, b⟩ := q; exact ⟨p', b, a⟩
  | cont => obtain ⟨p', a, b⟩ := q; exact ⟨p', b, a⟩
  | brk => exact q
  | ret v => exact q
  | exc x => exact q
theorem Ex.whileR {P : Type} {test : Expr} {body orelse rest : List Stmt} {pos : Pos} (ht : X.Top) (C : P → Sto) (Inv : Nat → P → Prop)
    (turn : ∀ n p, Inv n p → ∃ b, Te X test (C p) b ∧ (b = true → ∀ R : Post, (∀ p' m σ', Sto.subB (C p') σ' → m < n → Inv m p' → R .next σ') → (∀ o σ', Turn X rest Q (fun _ => False) o σ' → R o σ') → Ex X body (C p) R) ∧ (b = false → Ex X orelse (C p) (Seq X rest Q)))
    (n : Nat) (p : P) (h0 : Inv n p) (hs : Sto.subB (C p) σ) : Ex X (.While test body orelse pos :: rest) σ Q := by
  refine Ex.whileC ht C Inv (fun n p hi => ?_) n p h0 hs
  obtain ⟨b, t, h1, h2⟩ := turn n p hi
  refine ⟨b, t, fun hb => h1 hb _ (fun p' m σ' a b c => ⟨p', m, Sto.sub_of a, b, c⟩) fun o σ' q => ?_, h2⟩
  cases o with
  | next => exact q.elim
  | cont => exact q.elim
  | _ => exact q
theorem Ex.forNR {P : Type} {x : Str} {tp : Pos} {iter : Expr} {body orelse rest : List Stmt} {pos : Pos} {xs : List AV} (ht : X.Top) (h : EvI X iter (.Name x tp) σ xs) (hk : storable X x) (C : P → Sto) (Inv : Nat → P → Prop)
    (turn : ∀ k v p, xs[k]? = some v → Inv k p → ∀ R : Post, (∀ p' σ', Sto.subB (C p') σ' → Inv (k + 1) p' → R .next σ') → (∀ o σ', Turn X rest Q (fun _ => False) o σ' → R o σ') → Ex X body ((C p).upd x v) R)
    (fin : ∀ p, Inv xs.length p → Ex X orelse (C p) (Seq X rest Q)) (p : P) (h0 : Inv 0 p) (hs : Sto.subB (C p) σ)
    (hf : autoParam (∀ x, foldedSetIterable iter X.env x = pure x) byI1) : Ex X (.For (.Name x tp) iter body orelse pos :: rest) σ Q := by
  refine Ex.forN ht h hk C Inv (fun k v p hv hi => turn k v p hv hi _ (fun p' σ' a b => ⟨p', Sto.sub_of a, b⟩) fun o σ' q => ?_) fin p h0 hs hf
  cases o with
  | next => exact q.elim
  | cont => exact q.elim
  | _ => exact q
end
omit [Lo] in
noncomputable def thr (j bias : Int) : Int := if 36 * (j + 1) - bias < 1 then 1 else if 36 * (j + 1) - bias > 26 then 26 else 36 * (j + 1) - bias
omit [Lo] in
theorem thr_ge (j bias : Int) : 1 ≤ thr j bias := by unfold thr; split <;> (try split) <;> omega
omit [Lo] in
theorem thr_le (j bias : Int) : thr j bias ≤ 26 := by unfold thr; split <;> (try split) <;> omega
omit [Lo] in
noncomputable def tN (j : Nat) (bias : Int) : Nat := (thr j bias).toNat
omit [Lo] in
theorem tN_eq (j : Nat) (bias : Int) : (tN j bias : Int) = thr j bias := Int.toNat_of_nonneg (Int.le_trans (by decide) (thr_ge j bias))
omit [Lo] in
theorem tN_ge (j : Nat) (bias : Int) : 1 ≤ tN j bias := by have := tN_eq j bias; have := thr_ge j bias; lia
omit [Lo] in
theorem tN_le (j : Nat) (bias : Int) : tN j bias ≤ 26 := by have := tN_eq j bias; have := thr_le j bias; lia
omit [Lo] in
noncomputable def numl (bias : Int) (j N : Nat) : List Nat :=
  (measure fun p : Nat × Nat => p.2).wf.fix (fun p rec => if h : p.2 < tN p.1 bias then [p.2] else (tN p.1 bias + (p.2 - tN p.1 bias) % (36 - tN p.1 bias)) :: rec (p.1 + 1, (p.2 - tN p.1 bias) / (36 - tN p.1 bias))
    (Nat.lt_of_le_of_lt (Nat.div_le_self _ _) (Nat.sub_lt (Nat.lt_of_lt_of_le (tN_ge _ _) (Nat.not_lt.mp h)) (tN_ge _ _)))) (j, N)
omit [Lo] in
theorem numl_eq (bias : Int) (j N : Nat) : numl bias j N = if h : N < tN j bias then [N] else (tN j bias + (N - tN j bias) % (36 - tN j bias)) :: numl bias (j + 1) ((N - tN j bias) / (36 - tN j bias)) := WellFounded.fix_eq _ _ _
omit [Lo] in
noncomputable def adpLoop (d k : Nat) : Nat × Nat :=
  (measure fun p : Nat × Nat => p.1).wf.fix (fun p rec => if h : 455 < p.1 then rec (p.1 / 35, p.2 + 36) (Nat.div_lt_self (Nat.lt_trans (Nat.succ_pos _) h) (by decide)) else p) (d, k)
omit [Lo] in
theorem adpLoop_eq (d k : Nat) : adpLoop d k = if h : 455 < d then adpLoop (d / 35) (k + 36) else (d, k) := WellFounded.fix_eq _ _ _
omit [Lo] in
theorem adpLoop_pos {d k : Nat} (h : 455 < d) : adpLoop d k = adpLoop (d / 35) (k + 36) := (adpLoop_eq d k).trans (dif_pos h)
omit [Lo] in
theorem adpLoop_neg {d k : Nat} (h : ¬ 455 < d) : adpLoop d k = (d, k) := (adpLoop_eq d k).trans (dif_neg h)
omit [Lo] in
noncomputable def adp (delta : Nat) (first : Bool) (nc : Nat) : Nat :=
  let d := if first then delta / 700 else delta / 2
  let r := adpLoop (d + d / nc) 0
  r.2 + 36 * r.1 / (r.1 + 38)
omit [Lo] in
noncomputable def AV.nats (l : List Nat) : List AV := l.map fun (n : Nat) => .int n
noncomputable def gensGo (base : Nat) : Nat → Nat → List Nat → List Nat
  | _, _, [] => []
  | i, bias, d :: ds => numl bias 0 d ++ gensGo base (i + 1) (adp d (i == 0) (base + i + 1)) ds
omit [Lo] in
noncomputable def readN (bias : Int) : Nat → List Nat → Option (Nat × Nat)
  | _, [] => none
  | j, d :: fs => if d < tN j bias then some (1, d) else (readN bias (j + 1) fs).map fun r => (r.1 + 1, d + (36 - tN j bias) * r.2)
omit [Lo] in
noncomputable def udig (d : Nat) : Nat := if d < 26 then 65 + d else 22 + d
omit [Lo] in
noncomputable def incL : List Nat := ("incomplete punycode string" : Str).cps.toList
omit [Lo] in
noncomputable def decR (bias : Int) (fs : List Nat) (p : Nat) (er : List Nat) : Except XV AV := match readN bias 0 (fs.drop p) with
  | some (c, n) => .ok (.tup [.int ((p + c : Nat) : Int), .int (n : Nat)])
  | none => if er == strictL then .error (.ude true (fs.length : Nat) ((fs.length : Nat) + 1) incL) else .ok (.tup [.int ((fs.length : Nat) + 1), .none])
omit [Lo] in
theorem meas_lt {l p c : Nat} (h : p < l) (hc : 0 < c) : l - (p + c) < l - p := by omega
noncomputable def insGo (fs er : List Nat) (base : List Nat) (char at_ bias p : Nat) : Except XV AV :=
  (measure fun x : List Nat × Nat × Nat × Nat × Nat => fs.length - x.2.2.2.2).wf.fix (C := fun _ => Except XV AV) (fun x rec => if h : x.2.2.2.2 < fs.length then
      match readN x.2.2.2.1 0 (fs.drop x.2.2.2.2) with
      | none => if er == strictL then .error (.ude true (fs.length : Nat) ((fs.length : Nat) + 1) incL) else .ok (.str x.1)
      | some (c, n) =>
        if hc : 0 < c then
          rec (insAt ((x.2.2.1 + n) % (x.1.length + 1)) (x.2.1 + (x.2.2.1 + n) / (x.1.length + 1)) x.1, x.2.1 + (x.2.2.1 + n) / (x.1.length + 1), (x.2.2.1 + n) % (x.1.length + 1) + 1,
            adp n (x.2.2.2.2 == 0) (x.1.length + 1), x.2.2.2.2 + c) (meas_lt h hc)
        else .ok (.str x.1)
    else .ok (.str x.1)) (base, char, at_, bias, p)
omit [Lo] in
theorem insGo_eq (fs er : List Nat) (base : List Nat) (char at_ bias p : Nat) : insGo fs er base char at_ bias p = (if h : p < fs.length then
    match readN bias 0 (fs.drop p) with
    | none => if er == strictL then .error (.ude true (fs.length : Nat) ((fs.length : Nat) + 1) incL) else .ok (.str base)
    | some (c, n) =>
      if hc : 0 < c then
        insGo fs er (insAt ((at_ + n) % (base.length + 1)) (char + (at_ + n) / (base.length + 1)) base) (char + (at_ + n) / (base.length + 1)) ((at_ + n) % (base.length + 1) + 1)
          (adp n (p == 0) (base.length + 1)) (p + c)
      else .ok (.str base)
  else .ok (.str base)) := WellFounded.fix_eq _ _ _
omit [Lo] in
noncomputable def insOk (fs : List Nat) (len char at_ bias p : Nat) : Prop :=
  (measure fun x : Nat × Nat × Nat × Nat × Nat => fs.length - x.2.2.2.2).wf.fix (C := fun _ => Prop) (fun x rec => if h : x.2.2.2.2 < fs.length then
      match readN x.2.2.2.1 0 (fs.drop x.2.2.2.2) with
      | none => True
      | some (c, n) => x.2.1 + (x.2.2.1 + n) / (x.1 + 1) ≤ 1114111 ∧
        if hc : 0 < c then rec (x.1 + 1, x.2.1 + (x.2.2.1 + n) / (x.1 + 1), (x.2.2.1 + n) % (x.1 + 1) + 1, adp n (x.2.2.2.2 == 0) (x.1 + 1), x.2.2.2.2 + c) (meas_lt h hc) else True
    else True) (len, char, at_, bias, p)
omit [Lo] in
theorem insOk_eq (fs : List Nat) (len char at_ bias p : Nat) : insOk fs len char at_ bias p = (if h : p < fs.length then
    match readN bias 0 (fs.drop p) with
    | none => True
    | some (c, n) => char + (at_ + n) / (len + 1) ≤ 1114111 ∧
      if hc : 0 < c then insOk fs (len + 1) (char + (at_ + n) / (len + 1)) ((at_ + n) % (len + 1) + 1) (adp n (p == 0) (len + 1)) (p + c) else True
  else True) := WellFounded.fix_eq _ _ _
omit [Lo] in
theorem readN_le {bias : Int} : ∀ {fs : List Nat} {j c n : Nat}, readN bias j fs = some (c, n) → 0 < c ∧ c ≤ fs.length
  | [], _, _, _, h => by simp [readN] at h
  | d :: fs, j, c, n, h => by
    unfold readN at h
    split at h
    · simp at h; simp only [List.length_cons]; lia
    · obtain ⟨r, h1, h2⟩ := Option.map_eq_some_iff.mp h
      have := readN_le h1
      simp only [Prod.mk.injEq] at h2
      simp only [List.length_cons]
      lia
omit [Lo] in
theorem clipAt_nat {n i : Nat} (h : i ≤ n) : clipAt n (i : Int) = i := by
  unfold clipAt
  rw [if_neg (Int.not_lt.mpr (Int.natCast_nonneg i)), Int.min_eq_left (Int.ofNat_le.mpr h), Int.max_eq_right (Int.natCast_nonneg i)]; rfl
omit [Lo] in
theorem clipAt_big {n i : Nat} (h : n ≤ i) : clipAt n (i : Int) = n := by
  unfold clipAt
  rw [if_neg (Int.not_lt.mpr (Int.natCast_nonneg i)), Int.min_eq_right (Int.ofNat_le.mpr h), Int.max_eq_right (Int.natCast_nonneg n)]; rfl
omit [Lo] in
theorem cutL_take {α : Type} {l : List α} {i : Nat} (h : i ≤ l.length) : cutL none (some (i : Int)) l = l.take i := by
  unfold cutL; simp [clipAt_nat h]
omit [Lo] in
theorem cutL_drop {α : Type} {l : List α} {i : Nat} (h : i ≤ l.length) : cutL (some (i : Int)) none l = l.drop i := by
  unfold cutL; simp only [Option.elim_some, Option.elim_none, clipAt_nat h]; rw [List.take_of_length_le (by simp)]
omit [Lo] in
theorem boot_len : bootBuiltins "len" = some (.builtin "len") := by decide +kernel
omit [Lo] in
theorem boot_chr : bootBuiltins "chr" = some (.builtin "chr") := by decide +kernel
omit [Lo] in
theorem boot_ord : bootBuiltins "ord" = some (.builtin "ord") := by decide +kernel
omit [Lo] in
theorem boot_divmod : bootBuiltins "divmod" = some (.builtin "divmod") := by decide +kernel
omit [Lo] in
theorem boot_min : bootBuiltins "min" = some (.builtin "min") := by decide +kernel
omit [Lo] in
theorem boot_max : bootBuiltins "max" = some (.builtin "max") := by decide +kernel
omit [Lo] in
theorem boot_all : bootBuiltins "all" = some (.builtin "all") := by decide +kernel
omit [Lo] in
theorem boot_str : bootBuiltins "str" = some (.type "str") := by decide +kernel
omit [Lo] in
theorem boot_bytes : bootBuiltins "bytes" = some (.type "bytes") := by decide +kernel
omit [Lo] in
theorem enum_get {xs : List AV} {k : Nat} {v : AV} (h : ((List.range xs.length).zipWith (fun (i : Nat) x => AV.tup [.int i, x]) xs)[k]? = some v) : ∃ x, xs[k]? = some x ∧ v = .tup [.int (k : Nat), x] := by
  rw [List.getElem?_zipWith] at h
  cases h1 : (List.range xs.length)[k]? with
  | none => rw [h1] at h; simp at h
  | some i =>
    cases h2 : xs[k]? with
    | none => rw [h1, h2] at h; simp at h
    | some x =>
      rw [h1, h2] at h
      have hi : i = k := by
        have := List.getElem?_eq_some_iff.mp h1
        obtain ⟨hlt, e⟩ := this
        simp at e
        exact e.symm
      subst hi
      simp at h
      exact ⟨x, rfl, h.symm⟩
omit [Lo] in
theorem enum_len (xs : List AV) : ((List.range xs.length).zipWith (fun (i : Nat) x => AV.tup [.int i, x]) xs).length = xs.length := by simp
omit [Lo] in
theorem nats_get {ds : List Nat} {k : Nat} {x : AV} (h : (AV.nats ds)[k]? = some x) : ∃ d, ds[k]? = some d ∧ x = .int (d : Nat) := by
  unfold AV.nats at h
  rw [List.getElem?_map] at h
  obtain ⟨d, h1, h2⟩ := Option.map_eq_some_iff.mp h
  exact ⟨d, h1, h2.symm⟩
omit [Lo] in
theorem drop_of_get {α : Type} {l : List α} {k : Nat} {x : α} (h : l[k]? = some x) : l.drop k = x :: l.drop (k + 1) := by
  obtain ⟨hlt, e⟩ := List.getElem?_eq_some_iff.mp h
  rw [List.drop_eq_getElem_cons hlt, e]
omit [Lo] in
noncomputable def dig (d : Nat) : Nat := if d < 26 then 97 + d else 22 + d
omit [Lo] in
noncomputable def digitsL : List Nat := [97, 98, 99, 100, 101, 102, 103, 104, 105, 106, 107, 108, 109, 110, 111, 112, 113, 114, 115, 116, 117, 118, 119, 120, 121, 122, 48, 49, 50, 51, 52, 53, 54, 55, 56, 57]
omit [Lo] in
theorem digitsL_get {d : Nat} (h : d < 36) : digitsL.getD d 0 = dig d := by
  have : ∀ d : Fin 36, digitsL.getD d.1 0 = dig d.1 := by decide
  exact this ⟨d, h⟩
theorem Ev.to {X : Cx} {σ : Sto} {e : Expr} {v w : AV} (h : Ev X e σ v) (q : v = w) : Ev X e σ w := q ▸ h
theorem InpG.to {op : Operator} {a b v w : AV} (h : InpG op a b v) (q : v = w) : InpG op a b w := q ▸ h
theorem MutG.to {id : String} {a v w : AV} {xs : List AV} (h : MutG id a xs v) (q : v = w) : MutG id a xs w := q ▸ h
omit [Lo] in
theorem insAt_len1 {i x : Nat} {l : List Nat} (h : i ≤ l.length) : (insAt i x l).length = l.length + 1 := by unfold insAt; simp; omega
omit [Lo] in
theorem at_back (n : Nat) : (some (⟨none, .int (n : Nat)⟩ : Cell)) = some ⟨none, .int (((n + 1 : Nat) : Int) - 1)⟩ := congrArg (fun i : Int => some (⟨none, .int i⟩ : Cell)) (Int.add_sub_cancel (n : Int) 1).symm
omit [Lo] in
theorem p4 {α β γ δ : Type} {C : α × β × γ × δ → Prop} (x : α × β × γ × δ) (h : ∀ a b c d, C (a, b, c, d)) : C x := h x.1 x.2.1 x.2.2.1 x.2.2.2
omit [Lo] in
theorem p5 {α β γ δ ε : Type} {C : α × β × γ × δ × ε → Prop} (x : α × β × γ × δ × ε) (h : ∀ a b c d e, C (a, b, c, d, e)) : C x := h x.1 x.2.1 x.2.2.1 x.2.2.2.1 x.2.2.2.2
omit [Lo] in
theorem p3 {α β γ : Type} {C : α × β × γ → Prop} (x : α × β × γ) (h : ∀ a b c, C (a, b, c)) : C x := h x.1 x.2.1 x.2.2
end Mine
namespace Mine
open PySem PySem.Calls PySem.W PyProof.Rows
structure FnP (mg : Str → Option Value) (h : Heap) (x : Str) (p : Addr × FuncData) : Prop where
  g : mg x = some (.ref p.1)
  o : ∃ o, h.get? p.1 = some o ∧ o.data = .func p.2
  c : h.CodeRec p.2.code p.2.qualname
theorem FnP.uniq {mg : Str → Option Value} {h : Heap} {x : Str} {p q : Addr × FuncData} (a : FnP mg h x p) (b : FnP mg h x q) : p = q := by
  refine x1a2 (a.o) fun o h1 h2 => ?_
  refine x1a2 (b.o) fun o' h3 h4 => ?_
  have e : p.1 = q.1 := Value.ref.inj (Option.some.inj (a.g.symm.trans b.g))
  rw [e] at h1
  have e2 : o = o' := Option.some.inj (h1.symm.trans h3)
  rw [e2] at h2
  exact Prod.ext e (Data.func.inj (h2.symm.trans h4))
open Classical in
noncomputable def fnOf (mg : Str → Option Value) (h : Heap) (x : Str) : Option (Addr × FuncData) := if H : ∃ p, FnP mg h x p then some H.choose else none
theorem fnOf_of {mg : Str → Option Value} {h : Heap} {x : Str} {a : Addr} {o : Obj} {fd : FuncData} (h1 : mg x = some (.ref a)) (h2 : h.get? a = some o) (h3 : o.data = .func fd) (h4 : h.CodeRec fd.code fd.qualname) : fnOf mg h x = some (a, fd) := by
  have H : FnP mg h x (a, fd) := ⟨h1, ⟨o, h2, h3⟩, h4⟩
  have E : ∃ p, FnP mg h x p := ⟨_, H⟩
  exact (dif_pos E).trans (congrArg some (E.choose_spec.uniq H))
theorem fnOf_is {mg : Str → Option Value} {h : Heap} {x : Str} {a : Addr} {fd : FuncData} (e : fnOf mg h x = some (a, fd)) : mg x = some (.ref a) ∧ (∃ o, h.get? a = some o ∧ o.data = .func fd) ∧ h.CodeRec fd.code fd.qualname := by
  unfold fnOf at e
  split at e
  · rename_i E
    have q := Option.some.inj e
    have s := E.choose_spec
    rw [q] at s
    exact ⟨s.g, s.o, s.c⟩
  · exact nomatch e
noncomputable abbrev pgOf (mg mb : Str → Option Value) (h : Heap) (more : List (Addr × Obj)) : Pg := { mg := mg, mb := mb, mc := fun _ => none, fn := fnOf mg h, more := more, nb := h.objs.size }
section
variable {p : Program} {loose : List Str} {R : WRecords} {XP : (Str → Option Value) → Heap → Prop} {w : World} {s₀ : Shared} {mg mb : Str → Option Value} {h : Heap}
theorem head_in (G : Ground p loose R XP w s₀ mg mb h) {more : List (Addr × Obj)} {o2 : Obj} {n : Nat} (h2 : h.get? 2 = some o2) (hd2 : o2.data = .dict #[] n) (hm : ∀ q ∈ more, h.get? q.1 = some q.2) :
    @Pg.In ⟨h.objs.size⟩ (pgOf mg mb h more) h := by
  letI : Lo := ⟨h.objs.size⟩
  exact {
    g := G.T.g
    b := G.T.b
    st := ⟨o2, #[], n, h2, hd2, fun e he => by simp at he, fun x => rfl⟩
    fn := fun x a fd e => fnOf_is e
    lim := rfl
    booked := rfl
    builtins := G.T.builtins
    big := by
      refine x3a2 (G.T.g) fun o es ep ho _ => ?_
      exact Heap.lt_size ho
    lo := Nat.le_refl _
    more := fun q hq => ⟨Heap.lt_size (hm q hq), q.2.slots, by rw [hm q hq, keepS_lt (Heap.lt_size (hm q hq))]⟩ }
theorem head_fn (G : Ground p loose R XP w s₀ mg mb h) {more : List (Addr × Obj)} {name : Str} {st : Stmt} {d : DefRec} (e : defOf p name = some (d, [])) (hp : d.params.defaults = []) (hst : ∀ pm cd doc dV kV, fdOf st pm cd doc dV kV = { docDef d.name d.params d.body d.scope pm cd doc with defaults := dV, kwdefaults := kV }) :
    FnIs (pgOf mg mb h more) name st := by
  obtain ⟨a, o, pm, cd, doc, dV, kV, h1, h2, h3, h4, h5⟩ := G.fn e
  have hV : dV = .none := by
    rcases h5.pos with ⟨_, q⟩ | ⟨q, _⟩
    · exact q
    · exact absurd hp q
  have hK : kV = .none := by
    rcases h5.kw with ⟨_, q⟩ | ⟨q, _⟩
    · exact q
    · exact absurd rfl q
  subst hV hK
  exact ⟨a, pm, cd, doc, fnOf_of h1 h2 (by rw [hst]; exact h3) (by rw [hst]; exact h4)⟩
end
theorem mg_lit {h : Heap} {mg : Str → Option Value} {o : Obj} {es : Array DictEntry} {ep : Nat} (hn : h.Ns mainGlobals mg) (ho : h.get? mainGlobals = some o) (hd : o.data = .dict es ep) (x : Str) : mg x = (es.toList.find? fun e => e.key.isStr x).map (·.val) := by
  refine x3a4 hn fun o' es' ep' ho' hd' _ hm => ?_; (try clear hn)
  rw [ho] at ho'
  (have ho' := Option.some.inj ho'; subst ho')
  rw [hd] at hd'
  cases hd'
  rw [← hm, Array.find?_toList]
  rfl
theorem fn_lit {h : Heap} {mg mb : Str → Option Value} {more : List (Addr × Obj)} {name : Str} {st : Stmt} {dV pm doc : Value} {a c : Addr} {o oc : Obj} {vs : Array Value} {t : Tok} (h1 : mg name = some (.ref a)) (h2 : h.get? a = some o) (h3 : o.data = .func (fdOf st pm (.ref c) doc dV .none))
    (h4 : h.get? c = some oc) (h5 : oc.data = .fields vs) (hc : (fdOf st pm (.ref c) doc dV .none).code = .ref c) (h6 : vs[1]? = some (.str (fdOf st pm (.ref c) doc dV .none).qualname t)) : FnIs (pgOf mg mb h more) name st dV :=
  ⟨a, pm, .ref c, doc, fnOf_of h1 h2 h3 ⟨c, oc, vs, t, hc, h4, h5, h6⟩⟩
theorem ints_of_shape {R : WRecords} : ∀ {xs : List WData}, WShape.hasItems R xs .int = true → ∃ ns : List Int, xs = ns.map .int
  | [], _ => ⟨[], rfl⟩
  | x :: xs, hx =>
    x0a2 (Bool.and_eq_true_iff.mp (hx : (WShape.has R x .int && WShape.hasItems R xs .int) = true)) fun h1 h2 => (ints_of_shape h2).elim fun ns e => (hasW_int h1).elim fun i e' => ⟨i :: ns, e ▸ e' ▸ rfl⟩
theorem holds_bool {R : WRecords} {t : WTm} {c : WCtx} {b : Bool} (e : t.value R c = some (.bool b)) (h : t.holds R c = true) : b = true := by
  unfold WTm.holds at h
  rw [e] at h
  cases b
  · exact h
  · rfl
theorem le63 {B : WTm} {xs : List WData} (h : (WTm.and (.not (.lt (.lit (.int 63)) (.len (.arg 0)))) B).holds ([] : WRecords) { args := [WData.list xs] } = true) : xs.length ≤ 63 := by
  have h1 := holds_bool (b := !decide ((63 : Int) < (xs.length : Int))) (by with_unfolding_all rfl) (holds_andW h).1
  exact Int.ofNat_le.mp (Int.not_lt.mp (of_decide_eq_false (Bool.not_eq_true' _ ▸ h1)))
theorem script_of {l : OpenLaw} {B : WTm} (hm : l.pre = .and (.not (.lt (.lit (.int 63)) (.len (.arg 0)))) B) {args : List WData} (hpre : l.row.toRowW.claim.pre args = true) : ∃ ns : List Int, args = [.list (ns.map .int)] ∧ ns.length ≤ 63 := by
  have h := pre_splitW hpre
  refine x2a3 (hasAllW_cons (e := .list .int) (es := []) h.1) fun d r e_0 h1 h2 => ?_; subst e_0
  cases hasAllW_nil h2
  refine x1a2 (hasW_list h1) fun xs e_0 h3 => ?_; subst e_0
  refine x1a1 (ints_of_shape h3) fun ns e_0 => ?_; subst e_0
  have h4 : l.pre.holds [] { args := [WData.list (ns.map .int)] } = true := h.2
  rw [hm] at h4
  have := le63 h4
  rw [List.length_map] at this
  exact ⟨ns, rfl, this⟩
noncomputable def WellTo (P : Params) (h : Heap) (v : Value) : WData → Prop
  | .int i => ∃ t, v = .int i t
  | .list xs => ∃ a vs, v = .ref a ∧ h.get? a = some { cls := .type "list", data := .seq vs.toArray } ∧ WellAll P h vs xs
  | _ => True
theorem well_to {P : Params} {h : Heap} {v : Value} {d : WData} (w : Well P h v d) : WellTo P h v d := by
  cases w with
  | int i t => exact ⟨t, rfl⟩
  | list a b => exact ⟨_, _, rfl, a, b⟩
  | _ => trivial
theorem rep_ints {W : World} {B : Addr → Prop} {T : Tx} {n : Nat} {P : Params} {h : Heap} : ∀ {ns : List Int} {vs : List Value}, WellAll P h vs (ns.map .int) → vs.length = ns.length ∧ ∀ (i : Nat) (v : Value) (x : AV), vs[i]? = some v → (AV.ints ns)[i]? = some x → Rep W B T n h v x
  | [], vs, w => by
    cases w
    exact ⟨rfl, fun i v x hv => nomatch hv⟩
  | m :: ns, vs, w => by
    obtain ⟨v, vs', rfl, h1, h2⟩ := wellAll_cons_inv w
    obtain ⟨t, rfl⟩ := well_to h1
    obtain ⟨a, b⟩ := rep_ints (ns := ns) h2
    refine ⟨congrArg Nat.succ a, fun i v x hv hx => ?_⟩
    cases i with
    | zero => (have hv := Option.some.inj hv; subst hv); (have hx := Option.some.inj hx; subst hx); exact .int m t
    | succ i => exact b i v x hv hx
theorem rep_script {w : World} {s : Shared} {vals : List Value} {ns : List Int} (W : WellAll w.params s.heap vals [.list (ns.map .int)]) : RepL w (fun _ => False) (fun _ => []) s.toks s.heap vals [.list (AV.ints ns)] := by
  obtain ⟨v, vs', rfl, h1, h2⟩ := wellAll_cons_inv W
  obtain ⟨a, vs, rfl, hg, hw⟩ := well_to h1
  cases h2
  obtain ⟨e, r⟩ := rep_ints hw
  refine .cons (.list (fun q => q) ⟨_, hg, rfl, rfl, rfl, _, rfl⟩ (by rw [List.size_toArray, e]; exact (List.length_map ..).symm) fun i v x hv hx => r i v x ((List.getElem?_toArray ..).symm.trans hv) hx) .nil
theorem post_true {l : OpenLaw} {args ds : List WData} : l.row.toRowW.claim.post args (.bool true) ds = true := by with_unfolding_all rfl
theorem head_good {l : OpenLaw} {prog : Program} {w : World} {s₀ s₁ : Shared} {args : List WData} {vals : List Value} {a : Addr} {B : WTm} (hm : l.pre = .and (.not (.lt (.lit (.int 63)) (.len (.arg 0)))) B) (hpre : l.row.toRowW.claim.pre args = true) (hwl : WellAll w.params s₁.heap vals args) (hg : s₁.gens = #[])
    (H : ∀ ns : List Int, ns.length ≤ 63 → RepL w (fun _ => False) (fun _ => []) s₁.toks s₁.heap vals [.list (AV.ints ns)] →
      wq (model prog w) callerA (call (.ref a) vals) (fun v s' => v = .bool true ∧ ∃ T', @Le ⟨s₁.heap.objs.size⟩ (fun _ => []) s₁ T' s') (fun _ _ => False) s₁) :
    wq (model prog w) callerA (call (.ref a) vals) (fun v s' => GoodWG l.row.toRowW.claim (classAt s₀.heap) (ExcName.means s₀.heap) args s₁ (.ok (.ret v)) s')
      (fun e s' => GoodWG l.row.toRowW.claim (classAt s₀.heap) (ExcName.means s₀.heap) args s₁ (.error e) s') s₁ := by
  refine x1a2 (script_of hm hpre) fun ns e_0 hl => ?_; subst e_0
  refine wq_mono (H ns hl (rep_script hwl)) (fun v s' t_0 => x0a2 t_0 fun hv t_1 => x1a1 t_1 fun T' le => ?_) fun e s' q => q.elim
  subst hv
  letI : Lo := ⟨s₁.heap.objs.size⟩
  refine ⟨.inl ⟨.bool true, .bool true, [], rfl, fun cls => rfl, .bool true, post_true, fun _ => ⟨.nil, nofun⟩⟩, .of_keep fun b o e => ?_, le.os, ?_⟩
  · refine x1a1 (le.ext.2 b o e) fun sl e' => ?_
    rw [keepS_lt (Heap.lt_size e)] at e'
    exact e'
  · rw [le.gens, hg]
    exact AllBare.empty
end Mine
namespace Mine
open PySem PySem.Builtin PySem.Builtin.Str PySem.StrLaws
variable [Lo]
omit [Lo] in
noncomputable def rgo (y z : List Nat) : Nat → List Nat → List Nat
  | _, [] => []
  | k + 1, _ :: l => rgo y z k l
  | 0, c :: l => if (c :: l).take y.length = y then z ++ rgo y z (y.length - 1) l else c :: rgo y z 0 l
omit [Lo] in
theorem rgo_skip (y z : List Nat) : ∀ (k : Nat) (l : List Nat), rgo y z k l = rgo y z 0 (l.drop k)
  | 0, l => by simp
  | k + 1, [] => by simp [rgo]
  | k + 1, c :: l => by rw [rgo, rgo_skip y z k l]; simp
omit [Lo] in
theorem rgo_hit {y z l : List Nat} (hy : y ≠ []) (h : l.take y.length = y) : rgo y z 0 l = z ++ rgo y z 0 (l.drop y.length) := by
  cases l with
  | nil => rw [List.take_nil] at h; exact absurd h.symm hy
  | cons c l =>
    rw [rgo, if_pos h, rgo_skip]
    have : 0 < y.length := List.length_pos_iff.mpr hy
    obtain ⟨m, hm⟩ : ∃ m, y.length = m + 1 := ⟨y.length - 1, by lia⟩
    rw [hm]; simp
omit [Lo] in
theorem rgo_miss {y z l : List Nat} {c : Nat} (h : (c :: l).take y.length ≠ y) : rgo y z 0 (c :: l) = c :: rgo y z 0 l := by
  rw [rgo, if_neg h]
omit [Lo] in
theorem rgo_none {y z : List Nat} : ∀ {l : List Nat}, (∀ k, k < l.length → (l.drop k).take y.length ≠ y) → rgo y z 0 l = l
  | [], _ => by rw [rgo]
  | c :: l, h => by
    rw [rgo_miss (by simpa using h 0 (by simp)), rgo_none fun k hk => by simpa using h (k + 1) (by simpa using hk)]
omit [Lo] in
theorem at_iff {x y : Str} {k : Nat} (hy : y.cps.toList ≠ []) : At x y x.length k ↔ (x.cps.toList.drop k).take y.cps.toList.length = y.cps.toList := by
  unfold At
  rw [subAt_eq]
  have hl : y.length = y.cps.toList.length := by simp [Str.length]
  have hx : x.length = x.cps.toList.length := by simp [Str.length]
  rw [hl, hx, beq_iff_eq]
  constructor
  · exact fun h => h.2
  · intro h
    refine ⟨?_, h⟩
    have := congrArg List.length h
    rw [List.length_take, List.length_drop] at this
    have : 0 < y.cps.toList.length := List.length_pos_iff.mpr hy
    omega
omit [Lo] in
theorem join_cons (z p : Str) : ∀ ps : List Str, ps ≠ [] → (Str.join z (p :: ps)).cps.toList = p.cps.toList ++ z.cps.toList ++ (Str.join z ps).cps.toList
  | [], h => absurd rfl h
  | q :: ps, _ => by
    show (p ++ z ++ Str.join z (q :: ps)).cps.toList = _
    rw [Str.cps_append, Str.cps_append]; simp
omit [Lo] in
theorem partsFrom_ne (x : Str) (w a : Nat) (cuts : List Nat) : partsFrom x w a cuts ≠ [] := by cases cuts <;> simp [partsFrom]
omit [Lo] in
theorem rgo_upto {y z : List Nat} {l : List Nat} : ∀ (n : Nat) (a : Nat), (∀ k, a ≤ k → k < a + n → (l.drop k).take y.length ≠ y) → a + n ≤ l.length → rgo y z 0 (l.drop a) = (l.drop a).take n ++ rgo y z 0 (l.drop (a + n))
  | 0, a, _, _ => by simp
  | n + 1, a, h, hl => by
    have hd : l.drop a = l[a] :: l.drop (a + 1) := List.drop_eq_getElem_cons (by omega)
    have h0 := h a (Nat.le_refl _) (by omega)
    rw [hd] at h0 ⊢
    rw [rgo_miss h0, rgo_upto n (a + 1) (fun k h1 h2 => h k (by omega) (by omega)) (by omega), List.take_succ_cons]
    rw [show a + 1 + n = a + (n + 1) by omega]; rfl
omit [Lo] in
theorem join_parts (x y z : Str) (hy : y.cps.toList ≠ []) : ∀ (cuts : List Nat) (a f : Nat), a ≤ x.length → ChainG x y x.length a cuts f → (∀ k, f ≤ k → ¬ At x y x.length k) →
    (Str.join z (partsFrom x y.length a cuts)).cps.toList = rgo y.cps.toList z.cps.toList 0 (x.cps.toList.drop a)
  | [], a, f, ha, h, hn => by
    have e : f = a := h
    subst e
    show (strSub x f x.length).cps.toList = _
    rw [strSub_toList, rgo_none]
    · rw [List.take_of_length_le]; simp [Str.length]
    · intro k _ q
      rw [List.drop_drop] at q
      exact hn (f + k) (by lia) ((at_iff hy).mpr q)
  | c :: r, a, f, ha, h, hn => by
    refine x0a4 h fun h1 h2 h3 h4 => ?_; (try clear h)
    have hx : x.length = x.cps.toList.length := by simp [Str.length]
    have hl : y.length = y.cps.toList.length := by simp [Str.length]
    have hc := h2.1
    show (Str.join z (strSub x a c :: partsFrom x y.length (c + y.length) r)).cps.toList = _
    rw [join_cons _ _ _ (partsFrom_ne _ _ _ _), join_parts x y z hy r (c + y.length) f hc h4 hn, strSub_toList]
    have u := rgo_upto (y := y.cps.toList) (z := z.cps.toList) (l := x.cps.toList) (c - a) a (fun k g1 g2 q => h3 k g1 (by (clear hc hl hx; lia)) ((at_iff hy).mpr q)) (by (clear hl h1; lia))
    rw [u, show a + (c - a) = c by (clear hc hl hx ha; lia), rgo_hit hy ((at_iff hy).mp h2), List.drop_drop, ← hl, List.append_assoc]
omit [Lo] in
theorem repl_eq {x y z : List Nat} (hy : y ≠ []) : repl x y z = rgo y z 0 x := by
  unfold repl Txt.replace
  refine x1a2 (occ_tight ⟨x.toArray⟩ ⟨y.toArray⟩ (by have := List.length_pos_iff.mpr hy; show 1 ≤ y.toArray.size; rw [List.size_toArray]; exact this)) fun f h1 h2 => ?_
  have hz : ((⟨y.toArray⟩ : Str).length == 0) = false := by cases y with | nil => exact absurd rfl hy | cons => rfl
  rw [hz, Bool.false_and, Bool.or_false]
  generalize hc : occurrences ⟨x.toArray⟩ ⟨y.toArray⟩ 0 (⟨x.toArray⟩ : Str).length ((⟨x.toArray⟩ : Str).length + 1) = cuts at h1
  have key := join_parts ⟨x.toArray⟩ ⟨y.toArray⟩ ⟨z.toArray⟩ (by simpa using hy) cuts 0 f (Nat.zero_le _) h1 h2
  cases cuts with
  | nil =>
    have e : (Str.join ⟨z.toArray⟩ (partsFrom ⟨x.toArray⟩ (⟨y.toArray⟩ : Str).length 0 [])).cps.toList = x := by
      show (strSub ⟨x.toArray⟩ 0 _).cps.toList = x
      rw [strSub_toList]; simp [Str.length]
    rw [e] at key
    simpa using key
  | cons c r =>
    simp only [List.isEmpty_cons, Bool.false_eq_true, if_false]
    rw [glued_eq_join, partsBetween_eq]
    simpa using key
end Mine
namespace Mine
open PySem
variable [Lo]
omit [Lo] in
inductive Tk where
  | ch (c : Nat)
  | rf (n : List Nat)
omit [Lo] in
noncomputable def refL (n : List Nat) : List Nat := 38 :: (n ++ [59])
omit [Lo] in
noncomputable abbrev Voc := List (List Nat × List Nat)
omit [Lo] in
noncomputable def outT (V : Voc) : Tk → List Nat
  | .ch c => [c]
  | .rf n => match V.lookup n with
    | some v => v
    | none => refL n
omit [Lo] in
noncomputable def outs (V : Voc) (ts : List Tk) : List Nat := (ts.map (outT V)).flatten
omit [Lo] in
theorem outs_cons (V : Voc) (t : Tk) (ts : List Tk) : outs V (t :: ts) = outT V t ++ outs V ts := rfl
omit [Lo] in
noncomputable def Lt (c : Nat) : Prop := c ≠ 38 ∧ c ≠ 59 ∧ c ≠ 60 ∧ c ≠ 62 ∧ c < 128
omit [Lo] in
noncomputable def Nm (n : List Nat) : Prop := ∀ c ∈ n, Lt c
omit [Lo] in
noncomputable def VOk (v : List Nat) : Prop := v ≠ [] ∧ ∀ c ∈ v, c = 60 ∨ c = 62 ∨ 128 ≤ c
omit [Lo] in
noncomputable def VsOk (V : Voc) : Prop := ∀ p ∈ V, VOk p.2
omit [Lo] in
noncomputable def TsOk (K : List (List Nat)) : List Tk → Prop
  | [] => True
  | .ch c :: ts => (c = 38 → ∀ n ∈ K, (outs [] ts).take (n.length + 1) ≠ n ++ [59]) ∧ TsOk K ts
  | .rf n :: ts => Nm n ∧ TsOk K ts
omit [Lo] in
theorem lookup_ok {V : Voc} (h : VsOk V) {n v : List Nat} (e : V.lookup n = some v) : VOk v := by
  refine x2a2 (List.lookup_eq_some_iff.mp e) fun l₁ l₂ e_0 _ => ?_; subst e_0
  exact h (n, v) (by simp)
omit [Lo] in
theorem lead {V : Voc} (hV : VsOk V) : ∀ (ts : List Tk) (w : List Nat), (∀ c ∈ w, Lt c ∨ c = 59) → (outs V ts).take w.length = w → (outs [] ts).take w.length = w
  | _, [], _, _ => by simp
  | [], a :: w, _, h => by simp [outs] at h
  | .ch c :: ts, a :: w, hw, h => by
    rw [outs_cons] at h ⊢
    simp only [outT, List.singleton_append, List.length_cons, List.take_succ_cons, List.cons.injEq] at h ⊢
    exact ⟨h.1, lead hV ts w (fun c hc => hw c (List.mem_cons_of_mem _ hc)) h.2⟩
  | .rf n :: ts, a :: w, hw, h => by
    exfalso
    have ha := hw a List.mem_cons_self
    rw [outs_cons] at h
    cases e : V.lookup n with
    | some v =>
      simp only [outT, e] at h
      obtain ⟨hv0, hv⟩ := lookup_ok hV e
      cases v with
      | nil => exact hv0 rfl
      | cons b v =>
        simp only [List.cons_append, List.length_cons, List.take_succ_cons, List.cons.injEq] at h
        have := hv b List.mem_cons_self
        rw [h.1] at this
        unfold Lt at ha
        (clear h; lia)
    | none =>
      simp only [outT, e, refL, List.cons_append, List.length_cons, List.take_succ_cons, List.cons.injEq] at h
      have h1 := h.1
      unfold Lt at ha
      lia
omit [Lo] in
theorem refL_len (n : List Nat) : (refL n).length = n.length + 2 := by simp [refL]
omit [Lo] in
theorem rgo_pass {k v : List Nat} : ∀ (u l : List Nat), (∀ c ∈ u, c ≠ 38) → rgo (refL k) v 0 (u ++ l) = u ++ rgo (refL k) v 0 l
  | [], _, _ => rfl
  | c :: u, l, h => by
    have hc := h c List.mem_cons_self
    rw [List.cons_append, rgo_miss, rgo_pass u l fun d hd => h d (List.mem_cons_of_mem _ hd)]
    · rfl
    · rw [refL_len, List.take_succ_cons]
      intro q
      simp only [refL, List.cons.injEq] at q
      exact hc q.1
omit [Lo] in
theorem same_name {k n r : List Nat} (hk : Nm k) (hn : Nm n) (h : (n ++ 59 :: r).take (k.length + 1) = k ++ [59]) : n = k := by
  induction k generalizing n with
  | nil =>
    cases n with
    | nil => rfl
    | cons c n =>
      have := hn c List.mem_cons_self
      simp at h
      exact absurd h this.2.1
  | cons a k ih =>
    cases n with
    | nil =>
      have := hk a List.mem_cons_self
      simp at h
      exact absurd h.1.symm this.2.1
    | cons c n =>
      simp only [List.cons_append, List.length_cons, List.take_succ_cons, List.cons.injEq] at h
      rw [h.1, ih (fun c hc => hk c (List.mem_cons_of_mem _ hc)) (fun c hc => hn c (List.mem_cons_of_mem _ hc)) h.2]
omit [Lo] in
theorem lookup_snoc (V : Voc) (k v n : List Nat) : (V ++ [(k, v)]).lookup n = (V.lookup n).or (if n = k then some v else none) := by
  induction V with
  | nil => 
    rw [List.nil_append, List.lookup_cons]
    by_cases h : n = k
    · subst h; simp
    · rw [beq_false_of_ne h, if_neg h]; rfl
  | cons p V ih =>
    rw [List.cons_append, List.lookup_cons, List.lookup_cons]
    split
    · rfl
    · exact ih
omit [Lo] in
theorem rgo_outs {V : Voc} (hV : VsOk V) {K : List (List Nat)} {k v : List Nat} (hk : Nm k) (hK : k ∈ K) : ∀ (ts : List Tk), TsOk K ts → rgo (refL k) v 0 (outs V ts) = outs (V ++ [(k, v)]) ts
  | [], _ => by simp [outs, rgo]
  | .ch c :: ts, h => by
    rw [outs_cons, outs_cons]
    show rgo (refL k) v 0 (c :: outs V ts) = c :: outs (V ++ [(k, v)]) ts
    rw [rgo_miss, rgo_outs hV hk hK ts h.2]
    rw [refL_len, List.take_succ_cons]
    intro q
    simp only [refL, List.cons.injEq] at q
    refine h.1 q.1 k hK ?_
    have := lead hV ts (k ++ [59]) (fun c hc => by
      rcases List.mem_append.mp hc with hc | hc
      · exact .inl (hk c hc)
      · exact .inr (by simpa using hc)) (by simpa using q.2)
    simpa using this
  | .rf n :: ts, h => by
    rw [outs_cons, outs_cons]
    have hl := lookup_snoc V k v n
    cases e : V.lookup n with
    | some u =>
      rw [e, Option.some_or] at hl
      simp only [outT, e, hl]
      rw [rgo_pass _ _ fun c hc => by have := (lookup_ok hV e).2 c hc; lia, rgo_outs hV hk hK ts h.2]
    | none =>
      rw [e, Option.none_or] at hl
      by_cases hn : n = k
      · subst hn
        rw [if_pos rfl] at hl
        simp only [outT, e, hl]
        rw [rgo_hit (by simp [refL]) (by simp), List.drop_left, rgo_outs hV hk hK ts h.2]
      · rw [if_neg hn] at hl
        simp only [outT, e, hl]
        have hs : refL n ++ outs V ts = 38 :: ((n ++ [59]) ++ outs V ts) := rfl
        rw [hs, rgo_miss, rgo_pass, rgo_outs hV hk hK ts h.2]
        · rfl
        · intro c hc
          rcases List.mem_append.mp hc with hc | hc
          · exact (h.1 c hc).1
          · have : c = 59 := by simpa using hc
            lia
        · rw [refL_len, List.take_succ_cons]
          intro q
          simp only [refL, List.cons.injEq] at q
          refine hn (same_name hk h.1 (r := outs V ts) ?_)
          have := q.2
          rw [List.append_assoc] at this
          exact this
omit [Lo] in
theorem outs_len {V : Voc} (hV : ∀ p ∈ V, p.2.length ≤ p.1.length + 2) (ts : List Tk) : (outs V ts).length ≤ (outs [] ts).length := by
  induction ts with
  | nil => exact Nat.le_refl _
  | cons t ts ih =>
    rw [outs_cons, outs_cons, List.length_append, List.length_append]
    have : (outT V t).length ≤ (outT [] t).length := by
      cases t with
      | ch c => exact Nat.le_refl _
      | rf n =>
        cases e : V.lookup n with
        | none => simp [outT, e]
        | some v =>
          refine x2a2 (List.lookup_eq_some_iff.mp e) fun l₁ l₂ e_0 _ => ?_; subst e_0
          have := hV (n, v) (by simp)
          simp only [outT, e, List.lookup_nil, refL_len]
          exact this
    lia
end Mine
namespace Mine
open PySem PySem.Builtin PySem.Builtin.Str PySem.StrLaws
variable [Lo]
omit [Lo] in
theorem range_split {lo n a : Nat} {pre post : List Nat} (h : List.range' lo n = pre ++ a :: post) : lo ≤ a ∧ ∀ k, lo ≤ k → k < a → k ∈ pre := by
  have hL : n = pre.length + (post.length + 1) := by
    have := congrArg List.length h
    simpa using this
  have hlen : lo + pre.length = a := by
    have h1 : (List.range' lo n)[pre.length]? = some a := by rw [h]; simp
    rw [List.getElem?_range'] at h1
    · simpa using h1
    · lia
  refine ⟨by (clear hL; lia), fun k h0 hk => ?_⟩
  have h2 : (List.range' lo n)[k - lo]? = pre[k - lo]? := by rw [h, List.getElem?_append_left (by lia)]
  rw [List.getElem?_range'] at h2
  · have h3 : pre[k - lo]? = some k := by rw [← h2]; simp; (clear hlen hL; lia)
    exact List.mem_of_getElem? h3
  · omega
omit [Lo] in
theorem occ_headL (x y : Str) (lo : Nat) :
    (occurrences x y lo x.length 1 = [] ∧ ∀ i, lo ≤ i → ¬ At x y x.length i) ∨ ∃ i r, occurrences x y lo x.length 1 = i :: r ∧ lo ≤ i ∧ At x y x.length i ∧ ∀ k, lo ≤ k → k < i → ¬ At x y x.length k := by
  rw [occ_eq]
  rcases occ_first x y x.length 1 (Nat.le_refl _) (List.range' lo (x.length + 1 - lo)) lo (fun i hi => by simp [List.mem_range'] at hi; lia) with ⟨h0, hn⟩ | ⟨pre, a, post, e, h0, ha, hn⟩
  · refine .inl ⟨by rw [h0], fun i hl hi => ?_⟩
    exact hn i (by have := hi.1; simp [List.mem_range']; exact ⟨i - lo, by lia, by (clear this; lia)⟩) hi
  · refine .inr ⟨a, ((forIn (List.range' lo (x.length + 1 - lo)) ((#[] : Array Nat), lo) (occBody x y x.length 1)).run.fst.toList).tail, ?_, (range_split e).1, ha, fun k h1 hk => hn k ((range_split e).2 k h1 hk)⟩
    generalize (forIn (List.range' lo (x.length + 1 - lo)) ((#[] : Array Nat), lo) (occBody x y x.length 1)).run.fst = arr at h0
    have h1 : arr.toList[0]? = some a := by simpa using h0
    cases hL : arr.toList with
    | nil => rw [hL] at h1; exact ns h1
    | cons b t => rw [hL] at h1; simp at h1; rw [h1]; rfl
omit [Lo] in
noncomputable def upto (c : Nat) (l : List Nat) : List Nat := l.takeWhile (· != c)
omit [Lo] in
theorem upto_split {c : Nat} : ∀ {l : List Nat}, c ∈ l → l = upto c l ++ c :: l.drop ((upto c l).length + 1)
  | [], h => by cases h
  | d :: l, h => by
    unfold upto
    rw [List.takeWhile_cons]
    by_cases hd : d = c
    · subst hd; simp
    · have hl : c ∈ l := by
        rcases List.mem_cons.mp h with h | h
        · exact absurd h.symm hd
        · exact h
      have := upto_split hl
      rw [if_pos (by simpa using hd), List.cons_append, List.length_cons, List.drop_succ_cons]
      exact congrArg (d :: ·) this
omit [Lo] in
theorem upto_free {c : Nat} : ∀ {l : List Nat}, ∀ d ∈ upto c l, d ≠ c
  | [], d, hd => by simp [upto] at hd
  | a :: l, d, hd => by
    unfold upto at hd
    rw [List.takeWhile_cons] at hd
    split at hd
    · rename_i h
      rcases List.mem_cons.mp hd with rfl | hd
      · simpa using h
      · exact upto_free d hd
    · cases hd
omit [Lo] in
theorem at_one {l : List Nat} {c k : Nat} : At ⟨l.toArray⟩ ⟨#[c]⟩ (⟨l.toArray⟩ : Str).length k ↔ l[k]? = some c := by
  have := subAt_one ⟨l.toArray⟩ c k
  unfold At
  rw [this]
omit [Lo] in
theorem findFrom_eq {l : List Nat} {c i : Nat} (hi : i ≤ l.length) : findFrom l [c] (i : Nat) = if c ∈ l.drop i then ((i + (upto c (l.drop i)).length : Nat) : Int) else -1 := by
  have hf : fromIndex (⟨l.toArray⟩ : Str).length (i : Int) = i := by unfold fromIndex; rw [if_neg (by (clear hi; lia))]; lia
  have hd : findFrom l [c] (i : Nat) = (match occurrences ⟨l.toArray⟩ ⟨#[c]⟩ i (⟨l.toArray⟩ : Str).length 1 with | k :: _ => (k : Int) | [] => -1) := by
    show Txt.find3 ⟨l.toArray⟩ ⟨#[c]⟩ i = _
    unfold Txt.find3
    rw [hf]
    rfl
  rw [hd]
  have hx : ∀ k, i ≤ k → (l[k]? = some c ↔ (l.drop i)[k - i]? = some c) := fun k hk => by rw [List.getElem?_drop, show i + (k - i) = k by (clear hd hf hi; lia)]
  rcases occ_headL ⟨l.toArray⟩ ⟨#[c]⟩ i with ⟨h0, hn⟩ | ⟨a, r, h0, h1, h2, h3⟩
  · rw [h0, if_neg]
    intro hc
    obtain ⟨j, hj⟩ := List.getElem?_of_mem hc
    rw [List.getElem?_drop] at hj
    exact hn (i + j) (by (clear hd hf hi; lia)) (at_one.mpr hj)
  · rw [h0]
    have ha : (l.drop i)[a - i]? = some c := (hx a h1).mp (at_one.mp h2)
    have hc : c ∈ l.drop i := List.mem_of_getElem? ha
    rw [if_pos hc]
    have hs := upto_split hc
    have hlen : (upto c (l.drop i)).length = a - i := by
      generalize hu : upto c (l.drop i) = u at hs
      have hfree : ∀ d ∈ u, d ≠ c := hu ▸ upto_free
      have hat : (l.drop i)[u.length]? = some c := by rw [hs]; simp
      rcases Nat.lt_trichotomy u.length (a - i) with g | g | g
      · exact absurd (at_one.mpr ((hx (i + u.length) (by (clear g h1 hd hf hi; lia))).mpr (by rw [show i + u.length - i = u.length by lia]; exact hat))) (h3 (i + u.length) (by (clear g h1 hd hf hi; lia)) (by (clear h1 hd hf hi; omega)))
      · exact g
      · rw [hs, List.getElem?_append_left g] at ha
        exact absurd rfl (hfree c (List.mem_of_getElem? ha))
    show (a : Int) = _
    rw [hlen]; (clear hlen hd hf hi; lia)
omit [Lo] in
noncomputable def tkGo (look : List Nat → Bool) : Nat → List Nat → List Tk
  | _, [] => []
  | k + 1, _ :: l => tkGo look k l
  | 0, c :: l => if c = 38 ∧ 59 ∈ l ∧ look (upto 59 l) = true then .rf (upto 59 l) :: tkGo look ((upto 59 l).length + 1) l else .ch c :: tkGo look 0 l
omit [Lo] in
theorem tkGo_skip (look : List Nat → Bool) : ∀ (k : Nat) (l : List Nat), tkGo look k l = tkGo look 0 (l.drop k)
  | 0, l => by simp
  | k + 1, [] => by simp [tkGo]
  | k + 1, c :: l => by rw [tkGo, tkGo_skip look k l]; simp
omit [Lo] in
theorem tkGo_ref {look : List Nat → Bool} {l : List Nat} (h1 : 59 ∈ l) (h2 : look (upto 59 l) = true) : tkGo look 0 (38 :: l) = .rf (upto 59 l) :: tkGo look 0 (l.drop ((upto 59 l).length + 1)) := by
  rw [tkGo, if_pos ⟨rfl, h1, h2⟩, tkGo_skip]
omit [Lo] in
theorem tkGo_ch {look : List Nat → Bool} {c : Nat} {l : List Nat} (h : ¬ (c = 38 ∧ 59 ∈ l ∧ look (upto 59 l) = true)) : tkGo look 0 (c :: l) = .ch c :: tkGo look 0 l := by
  rw [tkGo, if_neg h]
omit [Lo] in
theorem raw_tk (look : List Nat → Bool) : ∀ (n : Nat) (l : List Nat), l.length = n → outs [] (tkGo look 0 l) = l := by
  intro n
  induction n using Nat.strongRecOn with
  | ind n ih =>
    intro l hn
    cases l with
    | nil => rfl
    | cons c l =>
      simp only [List.length_cons] at hn
      by_cases h : c = 38 ∧ 59 ∈ l ∧ look (upto 59 l) = true
      · refine x0a3 h fun e_0 h1 h2 => ?_; (try clear h); subst e_0
        rw [tkGo_ref h1 h2, outs_cons, ih _ (by rw [List.length_drop]; omega) _ rfl]
        have := upto_split h1
        conv => rhs; rw [this]
        simp [outT, refL]
      · rw [tkGo_ch h, outs_cons, ih l.length (by omega) l rfl]; rfl
omit [Lo] in
theorem ok_tk {look : List Nat → Bool} {K : List (List Nat)} (hK : ∀ n ∈ K, look n = true ∧ Nm n) (hl : ∀ n, look n = true → Nm n) : ∀ (n : Nat) (l : List Nat), l.length = n → TsOk K (tkGo look 0 l) := by
  intro n
  induction n using Nat.strongRecOn with
  | ind n ih =>
    intro l hn
    cases l with
    | nil => simp [tkGo, TsOk]
    | cons c l =>
      simp only [List.length_cons] at hn
      by_cases h : c = 38 ∧ 59 ∈ l ∧ look (upto 59 l) = true
      · refine x0a3 h fun e_0 h1 h2 => ?_; (try clear h); subst e_0
        rw [tkGo_ref h1 h2]
        exact ⟨hl _ h2, ih _ (by rw [List.length_drop]; omega) _ rfl⟩
      · rw [tkGo_ch h]
        refine ⟨fun hc m hm q => h ⟨hc, ?_⟩, ih l.length (by lia) l rfl⟩
        rw [raw_tk _ _ _ rfl] at q
        have hs : l = m ++ 59 :: l.drop (m.length + 1) := by
          have := List.take_append_drop (m.length + 1) l
          rw [q] at this
          simpa using this.symm
        have hu : upto 59 l = m := by
          rw [hs]
          unfold upto
          rw [List.takeWhile_append_of_pos fun d hd => by have := ((hK m hm).2 d hd).2.1; simpa using this]
          simp
        rw [hu]
        exact ⟨by rw [hs]; simp, (hK m hm).1⟩
end Mine
namespace Mine
open PySem PySem.Calls PySem.W PyProof.Rows
variable [Lo]
omit [Lo] in
noncomputable abbrev topOf (n : Nat) : Stmt := (PySem.Challenge.rw_ij0167_01.prog.main.body.drop n).headD (.Pass default)
omit [Lo] in
noncomputable abbrev stT := topOf 5
omit [Lo] in
noncomputable abbrev stGen := topOf 7
omit [Lo] in
noncomputable abbrev stAdapt := topOf 8
omit [Lo] in
noncomputable abbrev stGens := topOf 9
omit [Lo] in
noncomputable abbrev stDec := topOf 10
omit [Lo] in
noncomputable abbrev stIns := topOf 11
omit [Lo] in
noncomputable abbrev stPuny := topOf 12
omit [Lo] in
structure PunyG (G : Pg) : Prop where
  T : FnIs G "T" stT
  gen : FnIs G "generate_generalized_integer" stGen
  adapt : FnIs G "adapt" stAdapt
  gens : FnIs G "generate_integers" stGens
  dec : FnIs G "decode_generalized_number" stDec
  ins : FnIs G "insertion_sort" stIns
  puny : FnIs G "punycode_decode" stPuny
  digits : ∃ t, G.mg "digits" = some (.bytes (digitsL.map Nat.toUInt8).toArray t)
  none : ∀ x : Str, x = "bytearray" ∨ x = "bytes" ∨ x = "enumerate" ∨ x = "IndexError" ∨ x = "UnicodeDecodeError" ∨ x = "len" ∨ x = "chr" ∨ x = "isinstance" ∨ x = "str" ∨ x = "memoryview" → G.mg x = none
section
variable {prog : Program} {w : World} {G : Pg}
theorem walk_T (P : PunyG G) {j bias : Int} : FSpec prog w G 1 "T" [.int j, .int bias] (.ok (.int (thr j bias))) := by
  refine x4a1 (P.T) fun a pm cd doc hf => ?_
  refine FSpec.of hf (body := bodyOf stT) (ps := ["j", "bias"]) rfl (.plain fun vals hv => ?_) (fun A L T s B fr => ?_)
  · refine x2a1 (len2 hv) fun a b e_0 => ?_; subst e_0; rfl
  refine Ex.assign (Ev.binop (Ev.binop Ev.cint (Ev.binop (Ev.name rfl) Ev.cint bin_add_int) (bin_mul_intL (by decide))) (Ev.name rfl) bin_sub_int) (.inl rfl) ?_
  refine Ex.ite (Te.cmp (Ev.name rfl) Ev.cint cmp_lt_int) (fun h => Ex.ret Ev.cint ?_) (fun h => Ex.nil ?_)
  · have h := of_decide_eq_true h
    show Except.ok (AV.int (thr j bias)) = _
    unfold thr; rw [if_pos h]
  have h := of_decide_eq_false h
  refine Ex.ite (Te.cmp (Ev.name rfl) Ev.cint cmp_gt_int) (fun h' => Ex.ret Ev.cint ?_) (fun h' => Ex.nil (Ex.ret (Ev.name rfl) ?_))
  · have h' := of_decide_eq_true h'
    show Except.ok (AV.int (thr j bias)) = _
    unfold thr; rw [if_neg h, if_pos h']
  · have h' := of_decide_eq_false h'
    show Except.ok (AV.int (thr j bias)) = _
    unfold thr; rw [if_neg h, if_neg h']
omit [Lo] in
theorem numl_length (bias : Int) (N : Nat) : ∀ j, (numl bias j N).length ≤ N + 1 := by
  induction N using Nat.strongRecOn with
  | ind N ih =>
    intro j
    rw [numl_eq]
    split
    · simp
    · rename_i h
      have h1 := tN_ge j bias
      have h2 := tN_le j bias
      have h3 : (N - tN j bias) / (36 - tN j bias) ≤ N - tN j bias := Nat.div_le_self _ _
      have := ih ((N - tN j bias) / (36 - tN j bias)) (by omega) (j + 1)
      simp only [List.length_cons]
      omega
omit [Lo] in
theorem gen_mod {N t : Nat} (h1 : 1 ≤ t) (h2 : t ≤ 26) (h : ¬ N < t) : AV.int ((t : Int) + ((N : Int) - (t : Int)) % (36 - (t : Int))) = .int ((t + (N - t) % (36 - t) : Nat) : Int) ∧ AV.int (((N : Int) - (t : Int)) / (36 - (t : Int))) = .int (((N - t) / (36 - t) : Nat) : Int) ∧
    t + (N - t) % (36 - t) < 36 ∧ (N - t) / (36 - t) < N ∧ (0 : Int) < 36 - (t : Int) ∧ (36 : Int) - (t : Int) < 1073741824 := by
  have hm := Nat.mod_lt (N - t) (show 36 - t > 0 by omega)
  have hd := Nat.div_le_self (N - t) (36 - t)
  rw [(Int.ofNat_sub (Nat.not_lt.mp h)).symm, show (36 : Int) - (t : Int) = ((36 - t : Nat) : Int) from (Int.ofNat_sub (Nat.le_trans h2 (by decide))).symm]
  exact ⟨rfl, rfl, by (clear hd; omega), by (clear hm; omega), Int.natCast_pos.mpr (by (clear hm hd; omega)), Int.ofNat_lt.mpr (Nat.lt_of_le_of_lt (Nat.sub_le _ _) (by decide))⟩
omit [Lo] in
theorem dig_lt {d : Nat} (h : d < 36) : dig d < 256 := by
  have : ∀ d : Fin 36, dig d.1 < 256 := by decide
  exact this ⟨d, h⟩
omit [Lo] in
noncomputable abbrev stG (bias : Int) (b : Addr) (N j : Nat) (acc : List Nat) : Sto := [("N", ⟨none, .int (N : Nat)⟩), ("bias", ⟨none, .int bias⟩), ("j", ⟨none, .int (j : Nat)⟩), ("result", ⟨some b, .barr acc⟩)]
theorem walk_gen (P : PunyG G) {N₀ : Nat} {bias : Int} (hN : N₀ ≤ 1000000) : FSpec prog w G 2 "generate_generalized_integer" [.int (N₀ : Nat), .int bias] (.ok (.bytes ((numl bias 0 N₀).map dig))) := by
  refine x4a1 (P.gen) fun a pm cd doc hf => ?_
  refine x4a1 (P.T) fun aT pmT cdT docT hT => ?_
  refine x1a1 (P.digits) fun td hdig => ?_
  refine FSpec.of hf (body := bodyOf stGen) (ps := ["N", "bias"]) rfl (.plain fun vals hv => ?_) (fun A L T s B fr => ?_)
  · refine x2a1 (len2 hv) fun a b e_0 => ?_; subst e_0; rfl
  have hdg : ∀ B T n h, Rep w B T n h (.bytes (digitsL.map Nat.toUInt8).toArray td) (.bytes digitsL) := fun B T n h => Rep.bytes _ _
  have hnl : ((numl bias 0 N₀).map dig).length ≤ 1000001 := by rw [List.length_map]; exact Nat.le_trans (numl_length bias N₀ 0) (Nat.succ_le_succ hN)
  generalize hout : (numl bias 0 N₀).map dig = out at hnl
  refine Ex.assign_own (EvN.bytearray rfl (P.none _ (by simp))) (.inl rfl) fun b => ?_
  refine Ex.assign Ev.cint (.inl rfl) ?_
  refine Ex.whileR fcx_top (P := Nat × Nat × List Nat) (fun p => stG bias b p.1 p.2.1 p.2.2)
    (fun n p => n = p.1 ∧ p.2.2 ++ (numl bias p.2.1 p.1).map dig = out) (fun n p hi => ?_) N₀ (N₀, 0, []) ⟨rfl, hout⟩ ⟨rfl, rfl, rfl, rfl, trivial⟩
  cases p using p3 with
  | h N j acc =>
  refine x0a2 hi fun hn hacc => ?_; (try clear hi)
  subst n
  dsimp only at hacc ⊢
  refine ⟨true, Te.value Ev.cint (tru_int 1), fun _ R hN hO => ?_, fun h => by exact tf h⟩
  have hlen : acc.length + 1 ≤ 16777216 := by
    have := congrArg List.length hacc
    rw [List.length_append] at this
    exact Nat.le_trans (Nat.succ_le_succ (Nat.le_trans (Nat.le_add_right _ _) (Nat.le_trans (Nat.le_of_eq this) hnl))) (by decide)
  have t1 := tN_ge j bias
  have t2 := tN_le j bias
  have ht := (congrArg AV.int (tN_eq j bias)).symm
  have hnm := numl_eq bias j N
  generalize tN j bias = t at t1 t2 ht hnm
  refine Ex.assign (v := .int (t : Nat)) (Ev.to (EvX.ev (EvX.call (walk_T P) (.cons (Ev.name rfl) (.cons (Ev.name rfl) .nil)) rfl rfl (Nat.le_refl 1) hT)) ht) (.inl rfl) ?_
  refine Ex.ite (Te.cmp (Ev.name rfl) (Ev.name rfl) cmp_lt_int) (fun h => ?_) (fun h => Ex.nil ?_)
  · have hlt : N < t := Int.ofNat_lt.mp (of_decide_eq_true h)
    have hd : N < 36 := Nat.lt_of_lt_of_le hlt (Nat.le_trans t2 (by decide))
    rw [hnm, dif_pos hlt] at hacc
    refine Ex.mut (av' := .barr (acc ++ [dig N])) rfl FA.meth_append (.cons (x := .int (dig N : Nat)) (Ev.to (Ev.index (Ev.global rfl hdig hdg) (Ev.name rfl) (get_bytes (Int.natCast_nonneg _) (Int.ofNat_lt.mpr hd) (by decide))) (congrArg (fun n : Nat => AV.int n) (digitsL_get hd))) .nil) (mut_ba_append (Int.natCast_nonneg _) (Int.ofNat_lt.mpr (dig_lt hd)) hlen) rfl ?_
    refine Ex.ret (Ev.bytesOf rfl (by rw [List.length_append]; exact hlen) rfl (P.none _ (by simp))) (hO (.ret _) _ ?_)
    exact congrArg (fun l => Except.ok (AV.bytes l)) hacc.symm
  · have hlt : ¬ N < t := fun q => of_decide_eq_false h (Int.ofNat_lt.mpr q)
    obtain ⟨g1, g2, g3, g4, g5, g6⟩ := gen_mod t1 t2 hlt
    rw [hnm, dif_neg hlt, List.map_cons] at hacc
    generalize t + (N - t) % (36 - t) = d at hacc g1 g3
    generalize (N - t) / (36 - t) = q at hacc g2 g4
    refine Ex.mut (av' := .barr (acc ++ [dig d])) rfl FA.meth_append (.cons (x := .int (dig d : Nat)) (Ev.to (Ev.index (i := .int (d : Nat)) (Ev.global rfl hdig hdg) (Ev.to (Ev.binop (Ev.name rfl) (Ev.binop (Ev.binop (Ev.name rfl) (Ev.name rfl) bin_sub_int) (Ev.binop Ev.cint (Ev.name rfl) bin_sub_int) (bin_mod_int g5)) bin_add_int) g1)
      (get_bytes (Int.natCast_nonneg _) (Int.ofNat_lt.mpr g3) (by decide))) (congrArg (fun n : Nat => AV.int n) (digitsL_get g3))) .nil) (mut_ba_append (Int.natCast_nonneg _) (Int.ofNat_lt.mpr (dig_lt g3)) hlen) rfl ?_
    refine Ex.assign (v := .int (q : Nat)) (Ev.to (Ev.binop (Ev.binop (Ev.name rfl) (Ev.name rfl) bin_sub_int) (Ev.binop Ev.cint (Ev.name rfl) bin_sub_int) (bin_div_int g5 g6)) g2) (.inl rfl) ?_
    refine Ex.aug (w := .int ((j + 1 : Nat) : Int)) rfl Ev.cint inp_add_int (.inl rfl) (Ex.nil ?_)
    exact hN (q, j + 1, acc ++ [dig d]) _ _ ⟨rfl, rfl, rfl, rfl, trivial⟩ g4 ⟨rfl, (List.append_assoc ..).trans hacc⟩
theorem walk_adapt (P : PunyG G) {delta nc : Nat} {first : Bool} (hn : 0 < nc) (hn' : nc < 1000000) : FSpec prog w G 1 "adapt" [.int (delta : Nat), .bool first, .int (nc : Nat)] (.ok (.int (adp delta first nc : Nat))) := by
  refine x4a1 (P.adapt) fun a pm cd doc hf => ?_
  refine FSpec.of hf (body := bodyOf stAdapt) (ps := ["delta", "first", "numchars"]) rfl (.plain fun vals hv => ?_) (fun A L T s B fr => ?_)
  · refine x3a1 (len3 hv) fun a b c e_0 => ?_; subst e_0; rfl
  have key : ∀ (d0 : Nat) (σ : Sto), d0 = (if first then delta / 700 else delta / 2) → Sto.Sub [("delta", ⟨none, .int (d0 : Nat)⟩), ("numchars", ⟨none, .int (nc : Nat)⟩)] σ →
      Ex (fcx G prog w A (fdOf stAdapt pm cd doc Value.none Value.none) L a T s B fr 0) ((bodyOf stAdapt).drop 1) σ (fun o _ => Ends o (.ok (.int (adp delta first nc : Nat)))) := by
    intro d0 σ hd0 hs
    refine ExT.sub hs ?_
    refine Ex.aug rfl (Ev.binop (Ev.name rfl) (Ev.name rfl) (bin_div_int (by (clear hd0 hn'; lia)) (by (clear hd0 hn; lia)))) inp_add_int (.inl rfl) ?_
    refine Ex.assign Ev.cint (.inl rfl) ?_
    refine Ex.whileC fcx_top (P := Nat × Nat) (fun p => [("delta", ⟨none, .int (p.1 : Nat)⟩), ("divisions", ⟨none, .int (p.2 : Nat)⟩)])
      (fun n p => n = p.1 ∧ adpLoop p.1 p.2 = adpLoop (d0 + d0 / nc) 0) (fun n p hi => ?_) (d0 + d0 / nc) (d0 + d0 / nc, 0) ⟨rfl, rfl⟩ ⟨rfl, rfl, trivial⟩
    obtain ⟨d, k⟩ := p
    refine x0a2 hi fun hn hl => ?_; (try clear hi)
    subst n
    dsimp only at hl ⊢
    refine ⟨_, Te.cmp (Ev.name rfl) Ev.cint cmp_gt_int, fun h => ?_, fun h => Ex.nil ?_⟩
    · have h := of_decide_eq_true h
      have hd : 455 < d := by (clear hd0; omega)
      rw [adpLoop_pos hd] at hl
      refine Ex.assign (Ev.binop (Ev.name rfl) Ev.cint (bin_div_int (by decide) (by decide))) (.inl rfl) ?_
      refine Ex.aug rfl Ev.cint inp_add_int (.inl rfl) (Ex.nil ?_)
      exact ⟨(d / 35, k + 36), _, Sto.sub_of ⟨rfl, rfl, trivial⟩, by dsimp only; (clear hd0 hn' hn; lia), rfl, hl⟩
    · have h := of_decide_eq_false h
      have hd : ¬ 455 < d := by (clear hd0; omega)
      rw [adpLoop_neg hd] at hl
      refine Ex.assign (Ev.binop (Ev.name rfl) (Ev.binop (Ev.binop Ev.cint (Ev.name rfl) (bin_mul_intL (by decide))) (Ev.binop (Ev.name rfl) Ev.cint bin_add_int) (bin_div_int (by (clear hd h hd0; lia)) (by (clear hd0; lia)))) bin_add_int) (.inl rfl) ?_
      refine Ex.ret (Ev.name rfl) ?_
      show Except.ok _ = Except.ok _
      have e : adp delta first nc = k + 36 * d / (d + 38) := by
        unfold adp
        dsimp only
        rw [← hd0, ← hl]
      rw [e]
      rfl
  refine Ex.ite (Te.value (Ev.name rfl) (tru_bool first)) (fun h => ?_) (fun h => ?_)
  · refine Ex.aug rfl Ev.cint (inp_div_int (by decide) (by decide)) (.inl rfl) (Ex.nil ?_)
    exact key (delta / 700) _ (by rw [if_pos h]) (Sto.sub_of ⟨rfl, rfl, trivial⟩)
  · refine Ex.aug rfl Ev.cint (inp_div_int (by decide) (by decide)) (.inl rfl) (Ex.nil ?_)
    exact key (delta / 2) _ (by rw [h]; rfl) (Sto.sub_of ⟨rfl, rfl, trivial⟩)
theorem gensGo_length (base : Nat) : ∀ (ds : List Nat) (i bias : Nat), (∀ d ∈ ds, d ≤ 100000) → (gensGo base i bias ds).length ≤ 100001 * ds.length
  | [], _, _, _ => by simp [gensGo]
  | d :: ds, i, bias, h => by
    have h1 := numl_length bias d 0
    have h2 := h d (.head _)
    have h3 := gensGo_length base ds (i + 1) (adp d (i == 0) (base + i + 1)) fun x hx => h x (.tail _ hx)
    simp only [gensGo, List.length_append, List.length_cons]
    lia
theorem walk_gens (P : PunyG G) {base : Nat} {ds : List Nat} (hb : base ≤ 100000) (hl : ds.length ≤ 100) (hd : ∀ d ∈ ds, d ≤ 100000) :
    FSpec prog w G 3 "generate_integers" [.int (base : Nat), .list (AV.nats ds)] (.ok (.bytes ((gensGo base 0 72 ds).map dig))) := by
  refine x4a1 (P.gens) fun a pm cd doc hf => ?_
  refine x4a1 (P.adapt) fun aA pmA cdA docA hA => ?_
  refine x4a1 (P.gen) fun aN pmN cdN docN hN => ?_
  refine FSpec.of hf (body := bodyOf stGens) (ps := ["baselen", "deltas"]) rfl (.plain fun vals hv => ?_) (fun A L T s B fr => ?_)
  · refine x2a1 (len2 hv) fun a b e_0 => ?_; subst e_0; rfl
  have hlen0 : (gensGo base 0 72 ds).length ≤ 10000100 := Nat.le_trans (gensGo_length base ds 0 72 hd) (by (clear hb; lia))
  refine Ex.assign_own (EvN.bytearray rfl (P.none _ (by simp))) (.inl rfl) fun b => ?_
  refine Ex.assign Ev.cint (.inl rfl) ?_
  refine Ex.forT fcx_top (ns := ["points", "delta"]) (EvI.enum (Ev.name rfl) rfl rfl (P.none _ (by simp))) (.cons (.inl rfl) (.cons (.inl rfl) .nil)) rfl (P := List Nat × Nat)
    (fun p => [("baselen", ⟨none, .int (base : Nat)⟩), ("bias", ⟨none, .int (p.2 : Nat)⟩), ("result", ⟨some b, .barr p.1⟩)])
    (fun k p => p.1 ++ (gensGo base k p.2 (ds.drop k)).map dig = (gensGo base 0 72 ds).map dig) (fun k v p hv hi => ?_) (fun p hi => ?_) ([], 72) rfl ⟨rfl, rfl, rfl, trivial⟩
  · obtain ⟨acc, bias⟩ := p
    dsimp only at hi
    refine x1a2 (enum_get hv) fun x hx e_0 => ?_; subst e_0
    refine x1a2 (nats_get hx) fun d hd1 e_0 => ?_; subst e_0
    have hdm : d ≤ 100000 := hd d (List.mem_of_getElem? hd1)
    have hk : k < ds.length := (List.getElem?_eq_some_iff.mp hd1).1
    rw [drop_of_get hd1] at hi
    simp only [gensGo, List.map_append] at hi
    have hlen := congrArg List.length hi
    simp only [List.length_append, List.length_map] at hlen
    refine ⟨_, rfl, rfl, ?_⟩
    refine Ex.assign (EvX.ev (EvX.call (walk_gen P (by (clear hlen hk hlen0 hl; lia))) (.cons (Ev.name rfl) (.cons (Ev.name rfl) .nil)) rfl rfl (Nat.le_refl 2) hN)) (.inl rfl) ?_
    refine Ex.mut rfl FA.meth_extend (.cons (Ev.name rfl) .nil) (mut_ba_extend (by rw [List.length_map]; dsimp only; lia)) rfl ?_
    refine Ex.assign (EvX.ev (EvX.call (walk_adapt P (nc := base + k + 1) (first := (k == 0)) (by (clear hlen hlen0; lia)) (by (clear hlen hlen0; lia))) (.cons (Ev.name rfl) (.cons (Ev.cmp (Ev.name rfl) Ev.cint ?_) (.cons (Ev.binop (Ev.binop (Ev.name rfl) (Ev.name rfl) bin_add_int) Ev.cint bin_add_int) .nil))) rfl rfl (Nat.le_succ 1) hA)) (.inl rfl) (Ex.nil ?_)
    · have := cmp_eq_int (a := (k : Int)) (b := 0)
      have e : ((k : Int) == 0) = (k == 0) := by cases k <;> rfl
      rw [e] at this
      exact this
    · refine ⟨(acc ++ (numl bias 0 d).map dig, adp d (k == 0) (base + k + 1)), Sto.sub_of ⟨rfl, rfl, rfl, trivial⟩, ?_⟩
      dsimp only
      rw [List.append_assoc]
      exact hi
  · obtain ⟨acc, bias⟩ := p
    dsimp only at hi
    refine Ex.nil (Ex.ret (Ev.bytesOf rfl ?_ rfl (P.none _ (by simp))) ?_)
    · have hlen := congrArg List.length hi
      simp only [List.length_append, List.length_map] at hlen
      dsimp only
      lia
    · have e : ds.drop ((List.range (AV.nats ds).length).zipWith (fun (i : Nat) x => AV.tup [.int i, x]) (AV.nats ds)).length = [] := by
        rw [enum_len]; simp [AV.nats]
      rw [e] at hi
      simp only [gensGo, List.map_nil, List.append_nil] at hi
      show Except.ok _ = Except.ok _
      rw [hi]
end
end Mine
namespace Mine
open PySem PySem.Calls PySem.W PyProof.Rows
variable [Lo]
omit [Lo] in
noncomputable abbrev stD (fs : List Nat) (bias : Int) (er : List Nat) (q j wt res : Nat) : Sto := [("extended", ⟨none, .bytes (fs.map udig)⟩), ("extpos", ⟨none, .int (q : Nat)⟩), ("bias", ⟨none, .int bias⟩), ("errors", ⟨none, .str er⟩), ("j", ⟨none, .int (j : Nat)⟩), ("w", ⟨none, .int (wt : Nat)⟩), ("result", ⟨none, .int (res : Nat)⟩)]
omit [Lo] in
theorem res_eq (res wt d : Nat) : AV.int ((res : Int) + (d : Int) * (wt : Int)) = .int ((res + wt * d : Nat) : Int) := by rw [Int.natCast_add, Int.natCast_mul, Int.mul_comm]
omit [Lo] in
theorem wt_eq (wt : Nat) {t : Nat} (h : t ≤ 26) : AV.int ((wt : Int) * (36 - (t : Int))) = .int ((wt * (36 - t) : Nat) : Int) := by
  rw [Int.natCast_mul, Int.ofNat_sub (Nat.le_trans h (by decide))]; rfl
omit [Lo] in
theorem ud1 {d : Nat} (h : d < 26) : udig d = 65 + d := if_pos h
omit [Lo] in
theorem ud2 {d : Nat} (h : ¬ d < 26) : udig d = 22 + d := if_neg h
omit [Lo] in
theorem ud_back (k d : Nat) : AV.int (((k + d : Nat) : Int) - k) = .int (d : Nat) := congrArg AV.int (Nat.add_comm k d ▸ Int.add_sub_cancel (d : Int) k)
omit [Lo] in
theorem ud_cap {d : Nat} (h : (65 : Int) ≤ (udig d : Nat) ∧ ((udig d : Nat) : Int) ≤ 90) (h36 : d < 36) : d < 26 := by
  apply Decidable.byContradiction
  intro q
  rw [ud2 q] at h
  omega
omit [Lo] in
theorem ud_fig {d : Nat} (h : ¬ (65 : Int) ≤ (udig d : Nat) ∨ ¬ ((udig d : Nat) : Int) ≤ 90) (h36 : d < 36) : ¬ d < 26 := by
  intro q
  rw [ud1 q] at h
  omega
omit [Lo] in
theorem ud_last {d : Nat} (h : ¬ (48 : Int) ≤ (22 + d : Nat) ∨ ¬ ((22 + d : Nat) : Int) ≤ 57) (h1 : ¬ d < 26) (h36 : d < 36) : False := by omega
omit [Lo] in
theorem rd_hit {bias : Int} {fs : List Nat} {p q j wt res d : Nat} {l : List Nat} (hr : readN bias 0 (fs.drop p) = (readN bias j (d :: l)).map fun r => (r.1 + (q - p), res + wt * r.2)) (hpq : p ≤ q) (h : d < tN j bias) : readN bias 0 (fs.drop p) = some (q + 1 - p, res + wt * d) := by
  simp only [readN, h, if_true, Option.map_some] at hr
  rw [hr, show 1 + (q - p) = q + 1 - p by omega]
omit [Lo] in
theorem rd_miss {bias : Int} {fs : List Nat} {p q j wt res d : Nat} {l : List Nat} (hr : readN bias 0 (fs.drop p) = (readN bias j (d :: l)).map fun r => (r.1 + (q - p), res + wt * r.2)) (hpq : p ≤ q) (h : ¬ d < tN j bias) :
    readN bias 0 (fs.drop p) = (readN bias (j + 1) l).map fun r => (r.1 + (q + 1 - p), res + wt * d + wt * (36 - tN j bias) * r.2) := by
  simp only [readN, h, if_false, Option.map_map] at hr
  rw [hr]
  congr 1
  funext r
  simp only [Function.comp]
  rw [show r.1 + 1 + (q - p) = r.1 + (q + 1 - p) by omega, Nat.mul_add, Nat.add_assoc, Nat.mul_assoc]
section
variable {prog : Program} {w : World} {G : Pg}
theorem walk_dec (P : PunyG G) {fs er : List Nat} {p : Nat} {bias : Int} (hf : ∀ d ∈ fs, d < 36) (hp : p ≤ fs.length) (hl : fs.length ≤ 16000000) :
    FSpec prog w G 2 "decode_generalized_number" [.bytes (fs.map udig), .int (p : Nat), .int bias, .str er] (decR bias fs p er) := by
  refine x4a1 (P.dec) fun a pm cd doc hfn => ?_
  refine x4a1 (P.T) fun aT pmT cdT docT hT => ?_
  refine FSpec.of hfn (body := bodyOf stDec) (ps := ["extended", "extpos", "bias", "errors"]) rfl (.plain fun vals hv => ?_) (fun A L T s B fr => ?_)
  · refine x4a1 (len4 hv) fun a b c d e_0 => ?_; subst e_0; rfl
  refine Ex.assign Ev.cint (.inl rfl) (Ex.assign Ev.cint (.inl rfl) (Ex.assign Ev.cint (.inl rfl) ?_))
  refine Ex.whileR fcx_top (P := Nat × Nat × Nat × Nat) (fun x => stD fs bias er x.1 x.2.1 x.2.2.1 x.2.2.2)
    (fun n x => n = fs.length - x.1 ∧ p ≤ x.1 ∧ x.1 ≤ fs.length ∧ readN bias 0 (fs.drop p) = (readN bias x.2.1 (fs.drop x.1)).map fun r => (r.1 + (x.1 - p), x.2.2.2 + x.2.2.1 * r.2))
    (fun n x hi => ?_) (fs.length - p) (p, 0, 1, 0) ⟨rfl, Nat.le_refl _, hp, ?_⟩ ⟨rfl, rfl, rfl, rfl, rfl, rfl, rfl, trivial⟩
  · cases x using p4 with
    | h q j wt res =>
    refine x0a4 hi fun hn hpq hq hr => ?_; (try clear hi)
    subst n
    dsimp only at hpq hq hr ⊢
    refine ⟨true, Te.value Ev.cint (tru_int 1), fun _ R hN hO => ?_, fun h => by exact tf h⟩
    have hml : (fs.map udig).length = fs.length := List.length_map ..
    by_cases hlt : q < fs.length
    · have hd : fs[q]? = some fs[q] := List.getElem?_eq_getElem hlt
      have hd36 : fs[q] < 36 := hf _ (List.getElem_mem hlt)
      rw [drop_of_get hd] at hr
      have hgd : (fs.map udig).getD ((q : Nat) : Int).toNat 0 = udig fs[q] := by
        rw [show ((q : Nat) : Int).toNat = q from rfl, List.getD_eq_getElem?_getD, List.getElem?_map, hd]; rfl
      generalize fs[q] = d at hr hd36 hgd
      clear hd
      have t2 := tN_le j bias
      have hnx : fs.length - (q + 1) < fs.length - q := Nat.sub_lt_sub_left hlt (Nat.lt_succ_self q)
      have tail : ∀ σ, Sto.subB (("digit", ⟨none, .int (d : Nat)⟩) :: stD fs bias er (q + 1) j wt res) σ →
          Ex (fcx G prog w A (fdOf stDec pm cd doc Value.none Value.none) L a T s B fr 1) ((whileBody (((bodyOf stDec).drop 3).headD (.Pass default))).drop 3) σ R := by
        intro σ hs
        refine ExT.sub (Sto.sub_of hs) ?_
        refine Ex.assign (v := .int ((tN j bias : Nat) : Int)) (Ev.to (EvX.ev (EvX.call (walk_T P) (.cons (Ev.name rfl) (.cons (Ev.name rfl) .nil)) rfl rfl (Nat.le_refl 1) hT)) (congrArg AV.int (tN_eq j bias).symm)) (.inl rfl) ?_
        refine Ex.aug (w := .int ((res + wt * d : Nat) : Int)) rfl (Ev.binop (Ev.name rfl) (Ev.name rfl) (bin_mul_intL (Nat.lt_trans hd36 (by decide)))) (InpG.to inp_add_int (res_eq res wt d)) (.inl rfl) ?_
        refine Ex.ite (Te.cmp (Ev.name rfl) (Ev.name rfl) cmp_lt_int) (fun h => ?_) (fun h => Ex.nil ?_)
        · refine Ex.ret (Ev.tuple (.cons (Ev.name rfl) (.cons (Ev.name rfl) .nil)) (Nat.le_of_ble_eq_true rfl)) (hO (.ret _) _ ?_)
          show decR bias fs p er = _
          unfold decR
          rw [rd_hit hr hpq (Int.ofNat_lt.mp (of_decide_eq_true h))]
          simp only [show p + (q + 1 - p) = q + 1 from Nat.add_sub_cancel' (Nat.le_succ_of_le hpq)]
        · refine Ex.assign (v := .int ((wt * (36 - tN j bias) : Nat) : Int)) (Ev.to (Ev.binop (Ev.name rfl) (Ev.binop Ev.cint (Ev.name rfl) bin_sub_int) (bin_mul_intR (by (clear hgd hpq hp hs hN hO hr hq hnx hml hf hl hlt h hd36; omega)))) (wt_eq wt t2)) (.inl rfl) ?_
          refine Ex.aug (w := .int ((j + 1 : Nat) : Int)) rfl Ev.cint inp_add_int (.inl rfl) (Ex.nil ?_)
          exact hN (q + 1, j + 1, wt * (36 - tN j bias), res + wt * d) _ _ ⟨rfl, rfl, rfl, rfl, rfl, rfl, rfl, trivial⟩ hnx ⟨rfl, Nat.le_succ_of_le hpq, hlt, rd_miss hr hpq fun q => of_decide_eq_false h (Int.ofNat_lt.mpr q)⟩
      refine Ex.tryX clause_index rfl fcx_top rfl (P.none _ (by simp)) ?_
      refine Ex.assign (v := .int ((udig d : Nat) : Int)) (Ev.to (Ev.index (Ev.name rfl) (Ev.name rfl) (get_bytes (Int.natCast_nonneg _) (hml ▸ Int.ofNat_lt.mpr hlt) (hml ▸ Nat.le_trans hl (by decide)))) (congrArg (fun n : Nat => AV.int n) hgd)) (.inl rfl) (Ex.nil ?_)
      refine Ex.aug (w := .int ((q + 1 : Nat) : Int)) rfl Ev.cint inp_add_int (.inl rfl) ?_
      refine Ex.ite (Te.chain Ev.cint (Ev.name rfl) Ev.cint cmp_le_int cmp_le_int) (fun h => ?_) (fun h => ?_)
      · rw [Bool.and_eq_true, decide_eq_true_eq, decide_eq_true_eq] at h
        refine Ex.assign (v := .int (d : Nat)) (Ev.to (Ev.binop (Ev.name rfl) Ev.cint bin_sub_int) (ud1 (ud_cap h hd36) ▸ ud_back 65 d)) (.inl rfl) (Ex.nil (tail _ ⟨rfl, rfl, rfl, rfl, rfl, rfl, rfl, rfl, trivial⟩))
      · rw [Bool.and_eq_false_iff, decide_eq_false_iff_not, decide_eq_false_iff_not] at h
        have hc := ud_fig h hd36
        refine Ex.ite (Te.chain Ev.cint (Ev.name rfl) Ev.cint cmp_le_int cmp_le_int) (fun h' => ?_) (fun h' => ?_)
        · exact Ex.assign (v := .int (d : Nat)) (Ev.to (Ev.binop (Ev.name rfl) Ev.cint bin_sub_int) (ud2 hc ▸ ud_back 22 d)) (.inl rfl) (Ex.nil (Ex.nil (tail _ ⟨rfl, rfl, rfl, rfl, rfl, rfl, rfl, rfl, trivial⟩)))
        · rw [Bool.and_eq_false_iff, decide_eq_false_iff_not, decide_eq_false_iff_not, ud2 hc] at h'
          exact (ud_last h' hc hd36).elim
    · have hqe : q = fs.length := Nat.le_antisymm hq (Nat.not_lt.mp hlt)
      subst hqe
      rw [List.drop_of_length_le (Nat.le_refl _)] at hr
      simp only [readN, Option.map_none] at hr
      refine Ex.tryX clause_index rfl fcx_top rfl (P.none _ (by simp)) ?_
      refine Ex.assignX (EvX.bytes_out (l := fs.map udig) (Ev.name rfl) (Ev.name rfl) (hml ▸ Int.le_refl _) (by (clear hN hO hml hr hf; omega)) rfl) (.inl rfl) ?_
      refine ⟨rfl, ?_⟩
      refine ExH.if (b := er == strictL) (fun a => Te.cmp (Ev.name rfl) (Ev.cstr rfl) cmp_eq_str) ?_
      cases he : er == strictL with
      | true =>
        refine ExH.raise (en := ("punycode" : Str).cps.toList) (b := fs.map udig) (re := incL) (i := (fs.length : Nat)) (j := (fs.length : Nat) + 1) (fun a => .cons (Ev.cstr rfl) (.cons (Ev.name rfl) (.cons (Ev.name rfl) (.cons (Ev.binop (Ev.name rfl) Ev.cint bin_add_int) (.cons (Ev.cstr rfl) .nil))))) rfl rfl (P.none _ (by simp)) (by (clear hN hO hml hr hf; omega)) (by (clear hN hO hml hr hf; omega)) trivial (hO (.exc _) _ ?_)
        show decR bias fs p er = _
        unfold decR
        rw [hr]
        simp only [he, if_true]
        rfl
      | false =>
        refine ExH.nil ?_
        refine ExH.of fun a => Ex.ret (Ev.tuple (.cons (Ev.binop (Ev.name rfl) Ev.cint bin_add_int) (.cons Ev.cnone .nil)) (Nat.le_of_ble_eq_true rfl)) (hO (.ret _) _ ?_)
        show decR bias fs p er = _
        unfold decR
        rw [hr]
        simp only [he]
        rfl
  · dsimp only
    cases readN bias 0 (fs.drop p) with
    | none => rfl
    | some r => simp
end
end Mine
namespace Mine
open PySem PySem.Calls PySem.W PyProof.Rows
variable [Lo]
section
variable {prog : Program} {w : World} {G : Pg}
omit [Lo] in
theorem at_sum (a m : Nat) : AV.int ((a : Int) - 1 + ((m : Int) + 1)) = .int ((a + m : Nat) : Int) := by congr 1; omega
theorem cmp_zero (p : Nat) : CmpG .Eq (.int (p : Nat)) (.int 0) (p == 0) := by
  have := cmp_eq_int (a := (p : Int)) (b := 0)
  have e : ((p : Int) == 0) = (p == 0) := by cases p <;> rfl
  rwa [e] at this
theorem walk_ins (P : PunyG G) {fs er base₀ : List Nat} (hf : ∀ d ∈ fs, d < 36) (hl : fs.length ≤ 8000000) (hb : base₀.length ≤ 500000) (hl2 : fs.length ≤ 400000) (hok : insOk fs base₀.length 128 0 72 0) :
    FSpec prog w G 3 "insertion_sort" [.str base₀, .bytes (fs.map udig), .str er] (insGo fs er base₀ 128 0 72 0) := by
  obtain ⟨a, pm, cd, doc, hfn⟩ := P.ins
  obtain ⟨aD, pmD, cdD, docD, hD⟩ := P.dec
  obtain ⟨aA, pmA, cdA, docA, hA⟩ := P.adapt
  refine FSpec.of hfn (body := bodyOf stIns) (ps := ["base", "extended", "errors"]) rfl (.plain fun vals hv => ?_) (fun A L T s B fr => ?_)
  · obtain ⟨a, b, c, rfl⟩ := len3 hv; rfl
  refine Ex.assign Ev.cint (.inl rfl) (Ex.assign (Ev.neg Ev.cint) (.inl rfl) (Ex.assign Ev.cint (.inl rfl) (Ex.assign Ev.cint (.inl rfl) ?_)))
  refine Ex.whileC fcx_top (P := List Nat × Nat × Nat × Nat × Nat) (fun x => [("base", ⟨none, .str x.1⟩), ("extended", ⟨none, .bytes (fs.map udig)⟩), ("errors", ⟨none, .str er⟩), ("char", ⟨none, .int (x.2.1 : Nat)⟩), ("pos", ⟨none, .int ((x.2.2.1 : Nat) - 1)⟩), ("bias", ⟨none, .int (x.2.2.2.1 : Nat)⟩), ("extpos", ⟨none, .int (x.2.2.2.2 : Nat)⟩)])
    (fun n x => n = fs.length - x.2.2.2.2 ∧ x.2.2.2.2 ≤ fs.length ∧ x.1.length ≤ base₀.length + x.2.2.2.2 ∧ insOk fs x.1.length x.2.1 x.2.2.1 x.2.2.2.1 x.2.2.2.2 ∧ insGo fs er x.1 x.2.1 x.2.2.1 x.2.2.2.1 x.2.2.2.2 = insGo fs er base₀ 128 0 72 0)
    (fun n x hi => ?_) (fs.length) (base₀, 128, 0, 72, 0) ⟨rfl, Nat.zero_le _, Nat.le_refl _, hok, rfl⟩ ⟨rfl, rfl, rfl, rfl, rfl, rfl, rfl, trivial⟩
  cases x using p5 with
  | h base char at_ bias p =>
  refine x0a5 hi fun hn hp hbl hok hg => ?_; clear hi
  subst n
  dsimp only at hp hbl hok hg ⊢
  refine ⟨_, Te.cmp (Ev.name rfl) (Ev.callB (.cons (Ev.name rfl) .nil) (call_len_bytes' (by rw [List.length_map]; (clear hbl hl2 hb; lia))) rfl rfl (P.none _ (by simp)) boot_len nofun) cmp_lt_int, fun h => ?_, fun h => ?_⟩
  · have h := of_decide_eq_true h
    rw [List.length_map] at h
    have hlt : p < fs.length := by omega
    conv at hg => lhs; rw [insGo_eq]
    rw [dif_pos hlt] at hg
    rw [insOk_eq] at hok
    rw [dif_pos hlt] at hok
    have hdec := walk_dec (prog := prog) (w := w) P (er := er) (p := p) (bias := (bias : Nat)) hf hp (by (clear hbl hl2 hb; lia))
    unfold decR at hdec
    cases hr : readN (bias : Nat) 0 (fs.drop p) with
    | none =>
      rw [hr] at hdec hg hok
      dsimp only at hdec hg hok
      cases he : er == strictL with
      | true =>
        rw [he] at hdec hg
        simp only [if_true] at hdec hg
        refine Ex.assignTX (xs := ["newpos", "delta"]) (vs := []) (EvX.call hdec (.cons (Ev.name rfl) (.cons (Ev.name rfl) (.cons (Ev.name rfl) (.cons (Ev.name rfl) .nil)))) rfl rfl (Nat.le_refl 2) hD) (.cons (.inl rfl) (.cons (.inl rfl) .nil)) rfl ?_
        exact hg.symm
      | false =>
        rw [he] at hdec hg
        simp only [Bool.false_eq_true, if_false] at hdec hg
        refine Ex.assignT (xs := ["newpos", "delta"]) (EvX.ev (EvX.call hdec (.cons (Ev.name rfl) (.cons (Ev.name rfl) (.cons (Ev.name rfl) (.cons (Ev.name rfl) .nil)))) rfl rfl (Nat.le_refl 2) hD)) (.cons (.inl rfl) (.cons (.inl rfl) .nil)) rfl ?_
        refine Ex.ite (Te.cmp (Ev.name rfl) Ev.cnone cmp_is_none) (fun _ => Ex.ret (Ev.name rfl) ?_) (fun h => by exact tf h)
        exact hg.symm
    | some r =>
      obtain ⟨c, m⟩ := r
      rw [hr] at hdec hg hok
      dsimp only at hdec hg hok
      have hc := readN_le hr
      rw [dif_pos hc.1] at hg
      obtain ⟨hch, hok⟩ := hok
      rw [dif_pos hc.1] at hok
      have hcl : p + c ≤ fs.length := by have := hc.2; rw [List.length_drop] at this; (clear hch hok hbl hl2 hb hl hf; omega)
      have hbs : base.length ≤ 900000 := Nat.le_trans hbl (Nat.le_trans (Nat.add_le_add hb (Nat.le_trans hp hl2)) (by decide))
      have hm : (at_ + m) % (base.length + 1) < base.length + 1 := Nat.mod_lt _ (Nat.succ_pos _)
      have hmi : AV.int (((at_ + m : Nat) : Int) % ((base.length : Int) + 1)) = .int (((at_ + m) % (base.length + 1) : Nat) : Int) := rfl
      have hci : AV.int ((char : Int) + ((at_ + m : Nat) : Int) / ((base.length : Int) + 1)) = .int ((char + (at_ + m) / (base.length + 1) : Nat) : Int) := rfl
      generalize (at_ + m) % (base.length + 1) = pos at hm hg hok hmi
      generalize char + (at_ + m) / (base.length + 1) = ch at hch hg hok hci
      have hpl : pos ≤ base.length := Nat.le_of_lt_succ hm
      have hil : (insAt pos ch base).length = base.length + 1 := insAt_len1 hpl
      have hct : cutL none (some ((pos : Nat) : Int)) base = base.take pos := cutL_take hpl
      have hcd : cutL (some ((pos : Nat) : Int)) none base = base.drop pos := cutL_drop hpl
      have hins : AV.str (cutL none (some ((pos : Nat) : Int)) base ++ [((ch : Nat) : Int).toNat] ++ cutL (some ((pos : Nat) : Int)) none base) = .str (insAt pos ch base) := by rw [hct, hcd]; unfold insAt; simp
      have hs1 : (cutL none (some ((pos : Nat) : Int)) base ++ [((ch : Nat) : Int).toNat]).length ≤ 16777216 := by rw [hct, List.length_append, List.length_take]; exact Nat.le_trans (Nat.succ_le_succ (Nat.le_trans (Nat.min_le_right _ _) hbs)) (by decide)
      have hs2 : (cutL none (some ((pos : Nat) : Int)) base ++ [((ch : Nat) : Int).toNat] ++ cutL (some ((pos : Nat) : Int)) none base).length ≤ 16777216 := by rw [AV.str.inj hins, hil]; exact Nat.le_trans (Nat.succ_le_succ hbs) (by decide)
      have hsz : base.length ≤ 16777216 := Nat.le_trans hbs (by decide)
      have hb1 : (0 : Int) < (base.length : Int) + 1 ∧ (base.length : Int) + 1 < 1073741824 := ⟨Int.natCast_pos.mpr (Nat.succ_pos _), Int.ofNat_lt.mpr (Nat.lt_of_le_of_lt (Nat.succ_le_succ hbs) (by decide))⟩
      have hgt : decide (((ch : Nat) : Int) > 1114111) = false := decide_eq_false (Int.not_lt.mpr (Int.ofNat_le.mpr hch))
      have hadp := walk_adapt (prog := prog) (w := w) P (delta := m) (nc := base.length + 1) (first := (p == 0)) (Nat.succ_pos _) (Nat.lt_of_le_of_lt (Nat.succ_le_succ hbs : base.length + 1 ≤ 900001) (by decide))
      rw [← hil] at hadp
      clear hct hcd
      refine Ex.assignT (xs := ["newpos", "delta"]) (EvX.ev (EvX.call hdec (.cons (Ev.name rfl) (.cons (Ev.name rfl) (.cons (Ev.name rfl) (.cons (Ev.name rfl) .nil)))) rfl rfl (Nat.le_refl 2) hD)) (.cons (.inl rfl) (.cons (.inl rfl) .nil)) rfl ?_
      refine Ex.ite (Te.cmp (Ev.name rfl) Ev.cnone cmp_is_none) (fun h => by exact ft h) (fun _ => Ex.nil ?_)
      refine Ex.aug (w := .int ((at_ + m : Nat) : Int)) rfl (Ev.binop (Ev.name rfl) Ev.cint bin_add_int) (InpG.to inp_add_int (at_sum at_ m)) (.inl rfl) ?_
      refine Ex.aug (w := .int ((ch : Nat) : Int)) rfl (Ev.binop (Ev.name rfl) (Ev.binop (Ev.callB (.cons (Ev.name rfl) .nil) (call_len_str' (Nat.le_trans hsz (by decide))) rfl rfl (P.none _ (by simp)) boot_len nofun) Ev.cint bin_add_int) (bin_div_int hb1.1 hb1.2)) (InpG.to inp_add_int hci) (.inl rfl) ?_
      refine Ex.ite (b := false) (hgt ▸ Te.cmp (Ev.name rfl) Ev.cint cmp_gt_int) (fun h => by exact ft h) (fun _ => Ex.nil ?_)
      refine Ex.assign (v := .int ((pos : Nat) : Int)) (Ev.to (Ev.binop (Ev.name rfl) (Ev.binop (Ev.callB (.cons (Ev.name rfl) .nil) (call_len_str' (Nat.le_trans hsz (by decide))) rfl rfl (P.none _ (by simp)) boot_len nofun) Ev.cint bin_add_int) (bin_mod_int hb1.1)) hmi) (.inl rfl) ?_
      refine Ex.assign (v := .str (insAt pos ch base)) (Ev.to (Ev.binop (Ev.binop (Ev.slice (Ev.name rfl) .none (.some (Ev.name rfl)) (slice_str hsz)) (Ev.callB (.cons (Ev.name rfl) .nil) (call_chr' (Int.natCast_nonneg _) (Int.ofNat_le.mpr hch)) rfl rfl (P.none _ (by simp)) boot_chr nofun) (bin_add_str (List.length_append ▸ hs1))) (Ev.slice (Ev.name rfl) (.some (Ev.name rfl)) .none (slice_str hsz)) (bin_add_str (List.length_append ▸ hs2))) hins) (.inl rfl) ?_
      refine Ex.assign (v := .int (adp m (p == 0) (insAt pos ch base).length : Nat)) (EvX.ev (EvX.call hadp (.cons (Ev.name rfl) (.cons (Ev.cmp (Ev.name rfl) Ev.cint (cmp_zero p)) (.cons (Ev.callB (.cons (Ev.name rfl) .nil) (call_len_str' (hil ▸ Nat.le_trans (Nat.succ_le_succ hbs : base.length + 1 ≤ 900001) (by decide))) rfl rfl (P.none _ (by simp)) boot_len nofun) .nil))) rfl rfl (Nat.le_succ 1) hA)) (.inl rfl) ?_
      refine Ex.assign (Ev.name rfl) (.inl rfl) (Ex.nil ?_)
      refine ⟨(insAt pos ch base, ch, pos + 1, adp m (p == 0) (base.length + 1), p + c), _, Sto.sub_of ⟨rfl, rfl, rfl, rfl, at_back pos, hil ▸ rfl, rfl, trivial⟩, Nat.sub_lt_sub_left hlt (Nat.lt_add_of_pos_right hc.1), rfl, hcl, ?_, hil ▸ hok, hg⟩
      dsimp only; rw [hil]; (clear hil hm hlt h hp hl2 hl; omega)
  · have h := of_decide_eq_false h
    rw [List.length_map] at h
    refine Ex.nil (Ex.ret (Ev.name rfl) ?_)
    conv at hg => lhs; rw [insGo_eq]
    rw [dif_neg (by (clear hbl hp hb; lia))] at hg
    exact hg.symm
end
end Mine
namespace Mine
open PySem PySem.Calls PySem.W PyProof.Rows
variable [Lo]
section
variable {X : Cx} {σ : Sto} {Q : Post}
theorem Ex1.assign {x : Str} {p pos : Pos} {e : Expr} {v : AV} (h : Ev X e σ v) (hk : storable X x) (k : Q .next (σ.upd x v))
    (hs : autoParam (swapsWith e (some (.Name x p)) pos.line X.env = pure false) byRfl) : Ex1 X (.Assign [.Name x p] e pos) σ Q := fun T s S => by
  refine wq_Assign_Name (h.then S fun w T' s' l S' r => ?_) hs
  exact wq_of <| StB.store S' hk r fun s'' S'' lb => ⟨_, .next, _, ⟨S'', (l.leB _).trans lb fun _ _ q => q, fun b _ q => Cx.ban_upd q⟩, rfl, k⟩
end
theorem insGo_err {fs er : List Nat} : ∀ (n : Nat) (base : List Nat) (char at_ bias p : Nat), fs.length - p = n → ∀ x, insGo fs er base char at_ bias p = .error x → x = .ude true (fs.length : Nat) ((fs.length : Nat) + 1) incL := by
  intro n
  induction n using Nat.strongRecOn with
  | ind n ih =>
    intro base char at_ bias p hn x hx
    rw [insGo_eq] at hx
    split at hx
    · rename_i hlt
      split at hx
      · split at hx
        · injection hx with hx; exact hx.symm
        · cases hx
      · split at hx
        · rename_i c m hr hc
          exact ih (fs.length - (p + c)) (by omega) _ _ _ _ _ rfl x hx
        · cases hx
    · cases hx
noncomputable def pyR (len : Nat) (fs er base : List Nat) : Except XV AV := match insGo fs er base 128 0 72 0 with
  | .ok v => .ok v
  | .error _ => .error (.ude false (len : Nat) ((len : Nat) + 1) incL)
structure Label (t : List Nat) (base fs : List Nat) : Prop where
  ascii : ∀ c ∈ t, c < 128
  figs : ∀ d ∈ fs, d < 36
  parts : (base = [] ∧ lastOf t 45 = -1 ∧ upL t = fs.map udig) ∨ (base ≠ [] ∧ lastOf t 45 = (base.length : Nat) ∧ base.length < t.length ∧ t.take base.length = base ∧ upL (t.drop (base.length + 1)) = fs.map udig)
theorem Label.len {t base fs : List Nat} (h : Label t base fs) : t.length = (lastOf t 45 + 1).toNat + fs.length ∧ 0 ≤ lastOf t 45 + 1 := by
  rcases h.parts with ⟨_, h2, h3⟩ | ⟨_, h2, h3, h4, h5⟩
  · have := congrArg List.length h3
    simp only [upL, List.length_map] at this
    rw [h2]; simp [this]
  · have := congrArg List.length h5
    simp only [upL, List.length_map, List.length_drop] at this
    rw [h2]; omega
section
variable {prog : Program} {w : World} {G : Pg}
theorem puny_tail (P : PunyG G) {t er base fs : List Nat} (hl : Label t base fs) (hlen : t.length ≤ 300000) (her : er = strictL ∨ er = ignoreL ∨ base = []) (hok : insOk fs base.length 128 0 72 0) {a : Addr} {pm cd doc : Value} {A : Around} {L : Addr} {T : Tx} {s : Shared} {B : Addr → Prop} {fr : List Env} {σ : Sto}
    (hs : Sto.Sub [("text", ⟨none, .bytes t⟩), ("errors", ⟨none, .str er⟩)] σ) :
    Ex (fcx G prog w A (fdOf stPuny pm cd doc Value.none Value.none) L a T s B fr 3) ((bodyOf stPuny).drop 2) σ (fun o _ => Ends o (pyR t.length fs er base)) := by
  refine x4a1 (P.ins) fun aI pmI cdI docI hI => ?_
  refine ExT.sub hs ?_
  have hlen2 := hl.len
  have hfl : fs.length ≤ t.length := by lia
  have hbl : base.length ≤ t.length := by
    rcases hl.parts with ⟨h1, _⟩ | ⟨_, h2, h3, _⟩
    · rw [h1]; exact Nat.zero_le _
    · (clear h2 hlen2; lia)
  refine Ex.assign (Ev.meth (x := .bytes t) FC.meth_rfind (Ev.name rfl) (.cons (Ev.cbytes (l := [(45 : UInt8).toNat]) rfl) .nil) call_rfind rfl) (.inl rfl) ?_
  rw [show (45 : UInt8).toNat = 45 from rfl]
  have rest : ∀ σ, Sto.Sub [("text", ⟨none, .bytes t⟩), ("errors", ⟨none, .str er⟩), ("pos", ⟨none, .int (lastOf t 45)⟩), ("base", ⟨none, .str base⟩), ("extended", ⟨none, .bytes (fs.map udig)⟩)] σ →
      Ex (fcx G prog w A (fdOf stPuny pm cd doc Value.none Value.none) L a T s B fr 3) ((bodyOf stPuny).drop 4) σ (fun o _ => Ends o (pyR t.length fs er base)) := by
    intro σ hs
    refine ExT.sub hs ?_
    refine Ex.tryAs clause_ude rfl fcx_top rfl (P.none _ (by simp)) rfl (.inl rfl) ?_
    have hins := walk_ins (prog := prog) (w := w) P (fs := fs) (er := er) (base₀ := base) hl.figs (by (clear hlen2; lia)) (by (clear hfl hlen2; lia)) (by (clear hlen2; lia)) hok
    cases hr : insGo fs er base 128 0 72 0 with
    | ok v =>
      rw [hr] at hins
      refine Ex.retX (EvX.call hins (.cons (Ev.name rfl) (.cons (Ev.name rfl) (.cons (Ev.name rfl) .nil))) rfl rfl (Nat.le_refl 3) hI) ?_
      dsimp only
      show pyR t.length fs er base = _
      unfold pyR; rw [hr]
    | error x =>
      rw [hr] at hins
      have hx := insGo_err _ _ _ _ _ _ rfl x hr
      subst hx
      refine Ex.retX (EvX.call hins (.cons (Ev.name rfl) (.cons (Ev.name rfl) (.cons (Ev.name rfl) .nil))) rfl rfl (Nat.le_refl 3) hI) ?_
      dsimp only
      refine ⟨rfl, ⟨_, _, _, _, rfl⟩, ?_⟩
      refine ExH.seq (fun a => Ex1.assign (Ev.binop (Ev.name rfl) Ev.cint bin_add_int) (.inl rfl) ?_)
      refine ExH.raise_from (en := ("punycode" : Str).cps.toList) (b := t) (re := incL) (i := lastOf t 45 + 1 + (fs.length : Nat)) (j := lastOf t 45 + 1 + ((fs.length : Nat) + 1)) (fun a => .cons (Ev.cstr rfl) (.cons (Ev.name rfl) (.cons (Ev.binop (Ev.name rfl) (Ev.start (Ev.name rfl)) bin_add_int) (.cons (Ev.binop (Ev.name rfl) (Ev.stop (Ev.name rfl)) bin_add_int) (.cons (Ev.reason (Ev.name rfl)) .nil))))) rfl rfl (P.none _ (by simp)) (by (clear hbl hfl; lia)) (by (clear hbl hfl; lia)) rfl ?_
      show pyR t.length fs er base = _
      unfold pyR; rw [hr]
      dsimp only
      have e1 : lastOf t 45 + 1 + (fs.length : Nat) = (t.length : Nat) := by lia
      have e2 : lastOf t 45 + 1 + ((fs.length : Nat) + 1) = (t.length : Nat) + 1 := by (clear hbl hlen2; lia)
      rw [e1, e2]
      rfl
  refine Ex.ite (Te.cmp (Ev.name rfl) (Ev.neg Ev.cint) cmp_eq_int) (fun h => ?_) (fun h => ?_)
  · have h : lastOf t 45 = -1 := by simpa using h
    rcases hl.parts with ⟨h1, h2, h3⟩ | ⟨_, h2, _⟩
    · subst h1
      refine Ex.assign (Ev.cstr (l := []) rfl) (.inl rfl) ?_
      refine Ex.assign (Ev.meth0 (x := .bytes t) FC.meth_upper (Ev.name rfl) (call_upper (by (clear h2 h hfl hlen2; lia))) rfl) (.inl rfl) (Ex.nil ?_)
      rw [h3]
      exact rest _ (Sto.sub_of ⟨rfl, rfl, rfl, rfl, rfl, trivial⟩)
    · (clear hfl hlen2; omega)
  · have h : ¬ lastOf t 45 = -1 := by simpa using h
    rcases hl.parts with ⟨_, h2, _⟩ | ⟨h0, h2, h3, h4, h5⟩
    · exact absurd h2 h
    · have her' : er = strictL ∨ er = ignoreL := by
        rcases her with h | h | h
        · exact .inl h
        · exact .inr h
        · exact absurd h h0
      refine Ex.tryAs clause_ude rfl fcx_top rfl (P.none _ (by simp)) rfl (.inl rfl) ?_
      have hcut : cutL none (some (lastOf t 45)) t = base := by rw [h2, cutL_take (by (clear h3 h2 hlen2; lia)), h4]
      refine Ex.assign (Ev.callB (.cons (Ev.slice (Ev.name rfl) .none (.some (Ev.name rfl)) (slice_bytes (by (clear h2 hfl hlen2; lia)))) (.cons (Ev.cstr (l := asciiL) rfl) (.cons (Ev.name rfl) .nil))) (call_str_ascii (by rw [hcut]; exact h0) ?_ ?_ her') rfl rfl (P.none _ (by simp)) boot_str nofun) (.inl rfl) (Ex.nil ?_)
      · rw [hcut]; intro c hc; exact hl.ascii c (by rw [← h4] at hc; exact List.mem_of_mem_take hc)
      · rw [hcut]; (clear h3 h2 hfl hlen2; lia)
      rw [hcut]
      refine Ex.assign (Ev.meth0 (x := .bytes (cutL (some (lastOf t 45 + 1)) none t)) FC.meth_upper (Ev.slice (Ev.name rfl) (.some (Ev.binop (Ev.name rfl) Ev.cint bin_add_int)) .none (slice_bytes (by (clear h2 hfl hlen2; lia)))) (call_upper ?_) rfl) (.inl rfl) (Ex.nil ?_)
      · exact Nat.le_trans (cutL_length_le _ _ _) (by (clear h2 hfl hlen2; lia))
      · have hcut2 : cutL (some (lastOf t 45 + 1)) none t = t.drop (base.length + 1) := by
          have : lastOf t 45 + 1 = ((base.length + 1 : Nat) : Int) := by (clear hbl hfl hlen2; lia)
          rw [this, cutL_drop (by (clear this h2 hfl hlen2; lia))]
        rw [hcut2, h5]
        exact rest _ (Sto.sub_of ⟨rfl, rfl, rfl, rfl, rfl, trivial⟩)
theorem walk_puny_b (P : PunyG G) {t er base fs : List Nat} (hl : Label t base fs) (hlen : t.length ≤ 300000) (her : er = strictL ∨ er = ignoreL ∨ base = []) (hok : insOk fs base.length 128 0 72 0) :
    FSpec prog w G 4 "punycode_decode" [.bytes t, .str er] (pyR t.length fs er base) := by
  refine x4a1 (P.puny) fun a pm cd doc hf => ?_
  refine FSpec.of hf (body := bodyOf stPuny) (ps := ["text", "errors"]) rfl (.plain fun vals hv => ?_) (fun A L T s B fr => ?_)
  · refine x2a1 (len2 hv) fun a b e_0 => ?_; subst e_0; rfl
  refine Ex.ite (Te.value (Ev.isinstance (Ev.name rfl) isT_bytes_str rfl rfl rfl (P.none _ (by simp)) rfl (P.none _ (by simp))) (tru_bool _)) (fun h => by exact ft h) (fun _ => Ex.nil ?_)
  refine Ex.ite (Te.value (Ev.isinstance (Ev.name rfl) isT_bytes_memv rfl rfl rfl (P.none _ (by simp)) rfl (P.none _ (by simp))) (tru_bool _)) (fun h => by exact ft h) (fun _ => Ex.nil ?_)
  exact puny_tail P hl hlen her hok (Sto.sub_of ⟨rfl, rfl, trivial⟩)
theorem walk_puny_s (P : PunyG G) {t er base fs : List Nat} (hl : Label t base fs) (hlen : t.length ≤ 300000) (her : er = strictL ∨ er = ignoreL ∨ base = []) (hok : insOk fs base.length 128 0 72 0) :
    FSpec prog w G 4 "punycode_decode" [.str t, .str er] (pyR t.length fs er base) := by
  refine x4a1 (P.puny) fun a pm cd doc hf => ?_
  refine FSpec.of hf (body := bodyOf stPuny) (ps := ["text", "errors"]) rfl (.plain fun vals hv => ?_) (fun A L T s B fr => ?_)
  · refine x2a1 (len2 hv) fun a b e_0 => ?_; subst e_0; rfl
  refine Ex.ite (Te.value (Ev.isinstance (Ev.name rfl) isT_str_str rfl rfl rfl (P.none _ (by simp)) rfl (P.none _ (by simp))) (tru_bool _)) (fun _ => ?_) (fun h => by exact tf h)
  refine Ex.assign (Ev.meth (x := .str t) FC.meth_encode (Ev.name rfl) (.cons (Ev.cstr (l := [97, 115, 99, 105, 105]) rfl) .nil) (call_encode hl.ascii (by lia)) rfl) (.inl rfl) (Ex.nil ?_)
  refine Ex.ite (Te.value (Ev.isinstance (Ev.name rfl) isT_bytes_memv rfl rfl rfl (P.none _ (by simp)) rfl (P.none _ (by simp))) (tru_bool _)) (fun h => by exact ft h) (fun _ => Ex.nil ?_)
  exact puny_tail P hl hlen her hok (Sto.sub_of ⟨rfl, rfl, trivial⟩)
end
end Mine
namespace Mine
open PySem PySem.Calls PySem.W PyProof.Rows
variable [Lo]
section
variable {X : Cx} {σ σc : Sto} {Q : Post}
theorem CTurn.list {elt : Expr} {x : Str} {tp : Pos} {ifs : List Expr} {D : Addr} {v : AV} {l l' : List AV} {env : Env} (henv : env = X.env) (hk : storable X x) (hq : X.quiet = true) (hx : x ≠ ("__classdict__" : Str)) (hx' : Sto.get σc x = none)
    (ha : Sto.get σc "__classdict__" = none) (hsz : l.length ≤ 16777216)
    (h : ∃ b, TeL X ifs ((x, ⟨none, v⟩) :: (σc ++ accS D (.list l))) b ∧ (b = false → l' = l) ∧ (b = true → ∃ y, Ev X elt ((x, ⟨none, v⟩) :: (σc ++ accS D (.list l))) y ∧ l' = l ++ [y])) :
    CTurn X (.Name x tp) ifs (emitL elt D env) σc D v (.list l) (.list l') := by
  subst henv
  obtain ⟨b, h1, h2, h3⟩ := h
  have hacc : Sto.get ((x, ⟨none, v⟩) :: (σc ++ accS D (.list l))) "__classdict__" = some ⟨some D, .list l⟩ := by
    rw [Sto.get_cons, if_neg (Ne.symm hx), get_append, ha, Option.none_or, Sto.get_cons, if_pos rfl]
  have sub : ∀ a, Sto.Sub (σc ++ accS D a) (("__classdict__", ⟨some D, a⟩) :: (x, ⟨none, v⟩) :: (σc ++ accS D (.list l))) := fun a y d e => by
    rw [Sto.get_cons]
    by_cases q : y = ("__classdict__" : Str)
    · subst q
      rw [get_append, ha, Option.none_or, Sto.get_cons, if_pos rfl] at e
      rw [if_pos rfl]; exact e
    · rw [if_neg q, Sto.get_cons]
      rw [get_append, show Sto.get (accS D a) y = none by rw [Sto.get_cons, if_neg q]; rfl, Option.or_none] at e
      have hy : y ≠ x := fun q => by subst q; rw [hx'] at e; exact ns e
      rw [if_neg hy, get_append, e]; rfl
  refine ⟨_, Binds.name hk, b, h1, fun hb => ⟨by rw [h2 hb], fun y d e => ?_⟩, fun hb => ?_⟩
  · have hy : y ≠ x := fun q => by
      subst q
      rw [get_append, hx', Option.none_or, Sto.get_cons, if_neg hx] at e
      exact ns e
    show Sto.get ((x, ⟨none, v⟩) :: (σc ++ accS D (.list l))) y = some d
    rw [Sto.get_cons, if_neg hy]; exact e
  · obtain ⟨y, he, hl⟩ := h3 hb
    subst hl
    exact ⟨EmitOk.list he hacc hq hsz, sub _⟩
theorem CTurn.dict {kx vx : Expr} {x : Str} {tp : Pos} {ifs : List Expr} {D : Addr} {v : AV} {l l' : List (List Nat × AV)} {env : Env} (henv : env = X.env) (hk : storable X x) (hx : x ≠ ("__classdict__" : Str)) (hx' : Sto.get σc x = none)
    (ha : Sto.get σc "__classdict__" = none) (hsz : l.length ≤ 16777216)
    (h : ∃ b, TeL X ifs ((x, ⟨none, v⟩) :: (σc ++ accS D (.dict l))) b ∧ (b = false → l' = l) ∧ (b = true → ∃ k y, Ev X kx ((x, ⟨none, v⟩) :: (σc ++ accS D (.dict l))) (.str k) ∧ Ev X vx ((x, ⟨none, v⟩) :: (σc ++ accS D (.dict l))) y ∧ l' = putL l k y)) :
    CTurn X (.Name x tp) ifs (emitD kx vx D env) σc D v (.dict l) (.dict l') := by
  subst henv
  obtain ⟨b, h1, h2, h3⟩ := h
  have hacc : Sto.get ((x, ⟨none, v⟩) :: (σc ++ accS D (.dict l))) "__classdict__" = some ⟨some D, .dict l⟩ := by
    rw [Sto.get_cons, if_neg (Ne.symm hx), get_append, ha, Option.none_or, Sto.get_cons, if_pos rfl]
  have sub : ∀ a, Sto.Sub (σc ++ accS D a) (("__classdict__", ⟨some D, a⟩) :: (x, ⟨none, v⟩) :: (σc ++ accS D (.dict l))) := fun a y d e => by
    rw [Sto.get_cons]
    by_cases q : y = ("__classdict__" : Str)
    · subst q
      rw [get_append, ha, Option.none_or, Sto.get_cons, if_pos rfl] at e
      rw [if_pos rfl]; exact e
    · rw [if_neg q, Sto.get_cons]
      rw [get_append, show Sto.get (accS D a) y = none by rw [Sto.get_cons, if_neg q]; rfl, Option.or_none] at e
      have hy : y ≠ x := fun q => by subst q; rw [hx'] at e; exact ns e
      rw [if_neg hy, get_append, e]; rfl
  refine ⟨_, Binds.name hk, b, h1, fun hb => ⟨by rw [h2 hb], fun y d e => ?_⟩, fun hb => ?_⟩
  · have hy : y ≠ x := fun q => by
      subst q
      rw [get_append, hx', Option.none_or, Sto.get_cons, if_neg hx] at e
      exact ns e
    show Sto.get ((x, ⟨none, v⟩) :: (σc ++ accS D (.dict l))) y = some d
    rw [Sto.get_cons, if_neg hy]; exact e
  · obtain ⟨k, y, hke, he, hl⟩ := h3 hb
    subst hl
    exact ⟨EmitOk.dict hke he hacc hsz, sub _⟩
noncomputable abbrev cx (X : Cx) (scope : Scope) (C : Addr) (T : Tx) (s : Shared) (σ : Sto) : Cx := X.comp scope C T s (X.ban σ)
theorem EvN.listC {elt iter : Expr} {x : Str} {tp pos : Pos} {ifs : List Expr} {scope : Scope} {xs : List AV} (acc : Nat → List AV) (h0 : acc 0 = []) (h : EvI X iter (.Name x tp) σ xs) (so : ScopeOk X scope) (seen : SeenL X σ scope σc) (hq : X.quiet = true)
    (hsz : ∀ k, k ≤ xs.length → (acc k).length ≤ 16777216)
    (turn : ∀ C D T₁ s₁ k v, xs[k]? = some v → ∃ b, TeL (cx X scope C T₁ s₁ σ) ifs ((x, ⟨none, v⟩) :: (σc ++ accS D (.list (acc k)))) b ∧ (b = false → acc (k + 1) = acc k) ∧
      (b = true → ∃ y, Ev (cx X scope C T₁ s₁ σ) elt ((x, ⟨none, v⟩) :: (σc ++ accS D (.list (acc k)))) y ∧ acc (k + 1) = acc k ++ [y]))
    (hk : autoParam ((relabel scope X.env).names.lookup x = some .local) byRfl) (hx : autoParam (x ≠ ("__classdict__" : Str)) byDec) (hx' : autoParam (Sto.get σc x = none) byRfl) (ha : autoParam (Sto.get σc "__classdict__" = none) byRfl)
    (hs : autoParam (∀ x, foldedSetIterable iter X.env x = pure x) byI1) :
    EvN X (.ListComp elt [⟨.Name x tp, iter, ifs, 0⟩] scope pos) σ (.list (acc xs.length)) := by
  refine EvN.comp (vals := fun k => .list (acc k)) (cpos := iter.pos) (compShape_list elt (.Name x tp) iter ifs scope pos) (h0 ▸ newOk_list) rfl h.c so seen (fun C D T₁ s₁ k v hv => ?_) hs
  exact CTurn.list rfl (.inl hk) hq hx hx' ha (hsz k (Nat.le_of_lt (List.getElem?_eq_some_iff.mp hv).1)) (turn C D T₁ s₁ k v hv)
theorem Ex.assign_listC {y : Str} {py spos : Pos} {rest : List Stmt} {elt iter : Expr} {x : Str} {tp pos : Pos} {ifs : List Expr} {scope : Scope} {xs : List AV} (acc : Nat → List AV) (h0 : acc 0 = []) (h : EvI X iter (.Name x tp) σ xs) (so : ScopeOk X scope) (seen : SeenL X σ scope σc) (hq : X.quiet = true)
    (hsz : ∀ k, k ≤ xs.length → (acc k).length ≤ 16777216)
    (turn : ∀ C D T₁ s₁ k v, xs[k]? = some v → ∃ b, TeL (cx X scope C T₁ s₁ σ) ifs ((x, ⟨none, v⟩) :: (σc ++ accS D (.list (acc k)))) b ∧ (b = false → acc (k + 1) = acc k) ∧
      (b = true → ∃ y, Ev (cx X scope C T₁ s₁ σ) elt ((x, ⟨none, v⟩) :: (σc ++ accS D (.list (acc k)))) y ∧ acc (k + 1) = acc k ++ [y]))
    (hst : storable X y) (k : ∀ a, Ex X rest (σ.updO y a (.list (acc xs.length))) Q) (hsw : autoParam (swapsWith (.ListComp elt [⟨.Name x tp, iter, ifs, 0⟩] scope pos) (some (.Name y py)) spos.line X.env = pure true) byRfl)
    (hk : autoParam ((relabel scope X.env).names.lookup x = some .local) byRfl) (hx : autoParam (x ≠ ("__classdict__" : Str)) byDec) (hx' : autoParam (Sto.get σc x = none) byRfl) (ha : autoParam (Sto.get σc "__classdict__" = none) byRfl)
    (hs : autoParam (∀ x, foldedSetIterable iter X.env x = pure x) byI1) :
    Ex X (.Assign [.Name y py] (.ListComp elt [⟨.Name x tp, iter, ifs, 0⟩] scope pos) spos :: rest) σ Q := by
  refine Ex.assign_comp (vals := fun k => .list (acc k)) (cpos := iter.pos) (compShape_list elt (.Name x tp) iter ifs scope pos) (h0 ▸ newOk_list) (fun _ => rfl) hsw h.c so seen (fun C D T₁ s₁ k v hv => ?_) hst k hs
  exact CTurn.list rfl (.inl hk) hq hx hx' ha (hsz k (Nat.le_of_lt (List.getElem?_eq_some_iff.mp hv).1)) (turn C D T₁ s₁ k v hv)
theorem Ex.assign_dictC {y : Str} {py spos : Pos} {rest : List Stmt} {kx vx iter : Expr} {x : Str} {tp pos : Pos} {ifs : List Expr} {scope : Scope} {xs : List AV} (acc : Nat → List (List Nat × AV)) (h0 : acc 0 = []) (h : EvI X iter (.Name x tp) σ xs) (so : ScopeOk X scope) (seen : SeenL X σ scope σc)
    (hsz : ∀ k, k ≤ xs.length → (acc k).length ≤ 16777216)
    (turn : ∀ C D T₁ s₁ k v, xs[k]? = some v → ∃ b, TeL (cx X scope C T₁ s₁ σ) ifs ((x, ⟨none, v⟩) :: (σc ++ accS D (.dict (acc k)))) b ∧ (b = false → acc (k + 1) = acc k) ∧
      (b = true → ∃ kk y, Ev (cx X scope C T₁ s₁ σ) kx ((x, ⟨none, v⟩) :: (σc ++ accS D (.dict (acc k)))) (.str kk) ∧ Ev (cx X scope C T₁ s₁ σ) vx ((x, ⟨none, v⟩) :: (σc ++ accS D (.dict (acc k)))) y ∧ acc (k + 1) = putL (acc k) kk y))
    (hst : storable X y) (k : ∀ a, Ex X rest (σ.updO y a (.dict (acc xs.length))) Q) (hsw : autoParam (swapsWith (.DictComp kx vx [⟨.Name x tp, iter, ifs, 0⟩] scope pos) (some (.Name y py)) spos.line X.env = pure true) byRfl)
    (hk : autoParam ((relabel scope X.env).names.lookup x = some .local) byRfl) (hx : autoParam (x ≠ ("__classdict__" : Str)) byDec) (hx' : autoParam (Sto.get σc x = none) byRfl) (ha : autoParam (Sto.get σc "__classdict__" = none) byRfl)
    (hs : autoParam (∀ x, foldedSetIterable iter X.env x = pure x) byI1) :
    Ex X (.Assign [.Name y py] (.DictComp kx vx [⟨.Name x tp, iter, ifs, 0⟩] scope pos) spos :: rest) σ Q := by
  refine Ex.assign_comp (vals := fun k => .dict (acc k)) (cpos := iter.pos) (compShape_dict kx vx (.Name x tp) iter ifs scope pos) (h0 ▸ newOk_dict) (fun _ => rfl) hsw h.c so seen (fun C D T₁ s₁ k v hv => ?_) hst k hs
  exact CTurn.dict rfl (.inl hk) hx hx' ha (hsz k (Nat.le_of_lt (List.getElem?_eq_some_iff.mp hv).1)) (turn C D T₁ s₁ k v hv)
theorem EvN.mapC {elt iter : Expr} {x : Str} {tp pos : Pos} {scope : Scope} {xs ys : List AV} (h : EvI X iter (.Name x tp) σ xs) (so : ScopeOk X scope) (seen : SeenL X σ scope σc) (hq : X.quiet = true) (hl : ys.length = xs.length) (hsz : xs.length ≤ 16777216)
    (turn : ∀ C D T₁ s₁ k v y, xs[k]? = some v → ys[k]? = some y → Ev (cx X scope C T₁ s₁ σ) elt ((x, ⟨none, v⟩) :: (σc ++ accS D (.list (ys.take k)))) y)
    (hk : autoParam ((relabel scope X.env).names.lookup x = some .local) byRfl) (hx : autoParam (x ≠ ("__classdict__" : Str)) byDec) (hx' : autoParam (Sto.get σc x = none) byRfl) (ha : autoParam (Sto.get σc "__classdict__" = none) byRfl)
    (hs : autoParam (∀ x, foldedSetIterable iter X.env x = pure x) byI1) :
    EvN X (.ListComp elt [⟨.Name x tp, iter, [], 0⟩] scope pos) σ (.list ys) := by
  have := EvN.listC (elt := elt) (pos := pos) (ifs := []) (fun k => ys.take k) rfl h so seen hq (fun k hk => by have := List.length_take_le k ys; (clear hl; lia)) (fun C D T₁ s₁ k v hv => ?_) hk hx hx' ha hs
  · rw [← hl] at this; simpa using this
  · obtain ⟨hlt, -⟩ := List.getElem?_eq_some_iff.mp hv
    have hy : ys[k]? = some (ys[k]'(by lia)) := List.getElem?_eq_getElem _
    exact ⟨true, .nil, nofun, fun _ => ⟨_, turn C D T₁ s₁ k v _ hv hy, by rw [List.take_succ, hy]; rfl⟩⟩
theorem EvN.mapCO {elt iter : Expr} {x : Str} {tp pos : Pos} {scope : Scope} {xs ys : List AV} (h : EvIC X iter (.Name x tp) σ xs) (so : ScopeOk X scope) (seen : SeenL X σ scope σc) (hq : X.quiet = true) (hl : ys.length = xs.length) (hsz : xs.length ≤ 16777216)
    (turn : ∀ C D T₁ s₁ k v y, xs[k]? = some v → ys[k]? = some y → Ev (cx X scope C T₁ s₁ σ) elt ((x, ⟨none, v⟩) :: (σc ++ accS D (.list (ys.take k)))) y)
    (hk : autoParam ((relabel scope X.env).names.lookup x = some .local) byRfl) (hx : autoParam (x ≠ ("__classdict__" : Str)) byDec) (hx' : autoParam (Sto.get σc x = none) byRfl) (ha : autoParam (Sto.get σc "__classdict__" = none) byRfl)
    (hs : autoParam (∀ x, foldedSetIterable iter X.env x = pure x) byI1) :
    EvN X (.ListComp elt [⟨.Name x tp, iter, [], 0⟩] scope pos) σ (.list ys) := by
  have := EvN.comp (e := .ListComp elt [⟨.Name x tp, iter, [], 0⟩] scope pos) (vals := fun k => .list (ys.take k)) (cpos := iter.pos) (compShape_list elt (.Name x tp) iter [] scope pos) newOk_list rfl h so seen (fun C D T₁ s₁ k v hv => ?_) hs
  · rw [← hl] at this; simpa using this
  · obtain ⟨hlt, -⟩ := List.getElem?_eq_some_iff.mp hv
    have hy : ys[k]? = some (ys[k]'(by lia)) := List.getElem?_eq_getElem _
    exact CTurn.list rfl (.inl hk) hq hx hx' ha (by rw [List.length_take]; lia) ⟨true, .nil, nofun, fun _ => ⟨_, turn C D T₁ s₁ k v _ hv hy, by rw [List.take_succ, hy]; rfl⟩⟩
theorem EvIC.own {x : Str} {a : Addr} {l : List (List Nat)} {p : Pos} {target : Expr} (hx : σ.get x = some ⟨some a, .list (AV.strs l)⟩) (hq : X.quiet = true) (hd : autoParam ((x == ("__debug__" : Str)) = false) byDec) (hcl : autoParam ((x == ("__classdict__" : Str)) = false) byDec) :
    EvIC X (.Name x p) target σ (AV.strs l) := fun T s S => by
  refine S.load_own hx (fun r => ?_) hd hcl
  have r' := r.unban ⟨fun l => by simp, by simp⟩
  generalize hxs : AV.strs l = xs at r'
  cases r' with
  | @list _ items _ hb hl hsz hi =>
    subst hxs
    refine wq_of (wpAny_pyIter_list hl.is ?_)
    refine ⟨T, s, T, fun b => b = s.heap.objs.size, fun k h => h.IsListIter s.heap.objs.size a k, .refl _ _, le_push _, ?_, ⟨_, Heap.get?_push_size _ rfl, rfl, rfl⟩⟩
    have itr := Itr.list (X := X) (B := noBan) (target := target) (xs := AV.strs l) (T1 := T) (s1 := s) (S.ok.hh hq) hb hl hsz hi (it := s.heap.objs.size) (Nat.le_refl _)
    refine ⟨itr.own, itr.same, itr.there, fun k x T s B' h1 h2 h3 h4 h5 h6 h7 => ?_, fun T s h1 h2 => itr.stop T s h1 (h2.leB _), itr.self⟩
    obtain ⟨n, hn, rfl⟩ : ∃ n, l[k]? = some n ∧ x = .str n := by
      unfold AV.strs at h1
      rw [List.getElem?_map] at h1
      obtain ⟨n, g1, g2⟩ := Option.map_eq_some_iff.mp h1
      exact ⟨n, g1, g2.symm⟩
    refine wpAny_mono (itr.next k _ T s noBan h1 h2 (h3.leB _) (fun _ q => q.elim) (fun _ q => q.elim) h6 h7) (fun r s₁ t_0 => x1a2 t_0 fun v g1 g2 => ⟨v, g1, wpAny_mono g2 (fun _ s₂ t_0 => x1a3 t_0 fun T' g3 g4 g5 => ⟨T', g3, g4.reban rfl, g5⟩) fun _ _ x => x⟩) fun _ _ x => x
end
end Mine
namespace Mine
open PySem PySem.Calls PySem.W PyProof.Rows
variable [Lo]
omit [Lo] in
noncomputable abbrev stDrs := topOf 1
omit [Lo] in
noncomputable abbrev stEsc := topOf 2
omit [Lo] in
noncomputable abbrev stUne := topOf 3
omit [Lo] in
structure DefD (G : Pg) (name : Str) (st : Stmt) : Prop where
  ex : ∃ a pm cd doc t ot n d od, G.fn name = some (a, fdOf st pm cd doc (.ref t) .none) ∧ (t, ot) ∈ G.more ∧ ot.data = .seq #[.ref d] n ∧ (d, od) ∈ G.more ∧ od.cls = .type "dict" ∧ od.dict = none ∧ od.slots = {} ∧ od.data = .dict #[]
omit [Lo] in
structure SaxG (G : Pg) : Prop where
  drs : FnIs G "dict_replace_saxutils" stDrs
  esc : DefD G "escape" stEsc
  une : DefD G "unescape" stUne
omit [Lo] in
noncomputable abbrev sdv (D : List (List Nat × List Nat)) : List (List Nat × AV) := D.map fun p => (p.1, .str p.2)
omit [Lo] in
noncomputable def replAll : List (List Nat × List Nat) → List Nat → List Nat
  | [], s => s
  | p :: D, s => replAll D (repl s p.1 p.2)
omit [Lo] in
noncomputable def Fit1 (s y z : List Nat) : Prop := y ≠ z ∧ s.length + (s.length + 1) * z.length ≤ 16777216
omit [Lo] in
noncomputable def replFit : List (List Nat × List Nat) → List Nat → Prop
  | [], _ => True
  | p :: D, s => Fit1 s p.1 p.2 ∧ replFit D (repl s p.1 p.2)
section
variable {prog : Program} {w : World} {G : Pg}
theorem walk_drs (P : SaxG G) {s₀ : List Nat} {D : List (List Nat × List Nat)} (hf : replFit D s₀) : FSpec prog w G 1 "dict_replace_saxutils" [.str s₀, .dict (sdv D)] (.ok (.str (replAll D s₀))) := by
  refine x4a1 (P.drs) fun a pm cd doc hfn => ?_
  refine FSpec.of hfn (body := bodyOf stDrs) (ps := ["s", "d"]) rfl (.plain fun vals hv => ?_) (fun A L T s B fr => ?_)
  · refine x2a1 (len2 hv) fun a b e_0 => ?_; subst e_0; rfl
  refine Ex.forT fcx_top (EvI.items (Ev.name rfl) rfl) (.cons (.inl rfl) (.cons (.inl rfl) .nil)) rfl (P := List Nat) (fun t => [("s", ⟨none, .str t⟩), ("d", ⟨none, .dict (sdv D)⟩)])
    (fun k t => replAll (D.drop k) t = replAll D s₀ ∧ replFit (D.drop k) t) (fun k v t hv hi => ?_) (fun t hi => ?_) s₀ ⟨rfl, hf⟩ ⟨rfl, rfl, trivial⟩
  · rw [List.getElem?_map, List.getElem?_map] at hv
    cases hd : D[k]? with
    | none => rw [hd] at hv; exact ns hv
    | some p =>
      rw [hd] at hv
      simp only [Option.map_some, Option.some.injEq] at hv
      subst hv
      rw [drop_of_get hd] at hi
      refine x0a3 hi fun h1 t_0 h4 => ?_; (try clear hi); refine x0a2 t_0 fun h2 h3 => ?_; (try clear t_0)
      refine ⟨_, rfl, rfl, ?_⟩
      refine Ex.assign (Ev.meth (x := .str t) FC.meth_replace (Ev.name rfl) (.cons (Ev.name rfl) (.cons (Ev.name rfl) .nil)) (call_replace h2 h3) rfl) (.inl rfl) (Ex.nil ?_)
      exact ⟨_, Sto.sub_of ⟨rfl, rfl, trivial⟩, h1, h4⟩
  · refine Ex.nil (Ex.ret (Ev.name rfl) ?_)
    rw [List.length_map, List.length_map, List.drop_length] at hi
    exact congrArg Except.ok (congrArg AV.str hi.1.symm)
theorem bind2 {st : Stmt} {pm cd doc : Value} {t d : Addr} {ot : Obj} {n : Nat} (ht : (t, ot) ∈ G.more) (hd : ot.data = .seq #[.ref d] n)
    {k : Value → Value → Option (Array Value) → Sem (List (Str × Value))} (h1 : ∀ a b, bindArgs (fdOf st pm cd doc (.ref t) .none) ⟨[a, b], []⟩ = seqItems? (fdOf st pm cd doc (.ref t) .none).defaults >>= k a b)
    (h2 : ∀ a b, k a b (some #[.ref d]) = pure [(("data" : Str), a), (("entities" : Str), b)]) (h0 : (fdOf st pm cd doc (.ref t) .none).defaults = .ref t) :
    BindOk G prog w (fdOf st pm cd doc (.ref t) .none) ["data", "entities"] 2 [] := fun A E s vals hG hl => by
  refine x2a1 (len2 hl) fun a b e_0 => ?_; subst e_0
  · skip
    refine x0a2 (hG.more _ ht) fun e_0 t_1 => ?_; clear e_0; refine x1a1 t_1 fun sl ho => ?_; (try clear t_1)
    rw [h1, h0]
    refine wpAny_bind (wpAny_seqItems ho hd ?_)
    rw [h2]
    exact wpAny_pure ⟨rfl, [], by simp, fun _ _ _ _ => .nil⟩
omit [Lo] in
noncomputable def ampL : List Nat := [38, 97, 109, 112, 59]
omit [Lo] in
noncomputable def ltL : List Nat := [38, 108, 116, 59]
omit [Lo] in
noncomputable def gtL : List Nat := [38, 103, 116, 59]
omit [Lo] in
noncomputable def uneSeq (D : List (List Nat × List Nat)) : List (List Nat × List Nat) := (ltL, [60]) :: (gtL, [62]) :: D ++ [(ampL, [38])]
omit [Lo] in
noncomputable def escSeq (D : List (List Nat × List Nat)) : List (List Nat × List Nat) := ([38], ampL) :: ([62], gtL) :: ([60], ltL) :: D
omit [Lo] in
theorem replAll_append : ∀ (D E : List (List Nat × List Nat)) (s : List Nat), replAll (D ++ E) s = replAll E (replAll D s)
  | [], _, _ => rfl
  | p :: D, E, s => replAll_append D E _
omit [Lo] in
theorem replFit_append : ∀ (D E : List (List Nat × List Nat)) (s : List Nat), replFit (D ++ E) s ↔ replFit D s ∧ replFit E (replAll D s)
  | [], _, _ => ⟨fun h => ⟨trivial, h⟩, fun h => h.2⟩
  | p :: D, E, s => ⟨fun h => ⟨⟨h.1, ((replFit_append D E _).mp h.2).1⟩, ((replFit_append D E _).mp h.2).2⟩, fun h => ⟨h.1.1, (replFit_append D E _).mpr ⟨h.1.2, h.2⟩⟩⟩
theorem walk_une (P : SaxG G) {s₀ : List Nat} {D : List (List Nat × List Nat)} (hf : replFit (uneSeq D) s₀) (hD : D.length ≤ 16777216) : FSpec prog w G 2 "unescape" [.str s₀, .dict (sdv D)] (.ok (.str (replAll (uneSeq D) s₀))) := by
  obtain ⟨a, pm, cd, doc, t, ot, n, d, od, hfn, ht, htd, -⟩ := P.une.ex
  obtain ⟨aR, pmR, cdR, docR, hR⟩ := P.drs
  refine FSpec.of hfn (body := bodyOf stUne) (ps := ["data", "entities"]) rfl (dflt := []) (bind2 ht htd (fun a b => rfl) (fun a b => rfl) rfl) (fun A L T s B fr => ?_)
  obtain ⟨⟨f1, f1'⟩, ⟨f2, f2'⟩, hf⟩ := hf
  obtain ⟨hf, ⟨⟨f3, f3'⟩, -⟩⟩ := (replFit_append _ _ _).mp hf
  refine Ex.assign (Ev.meth (x := .str s₀) FC.meth_replace (Ev.name rfl) (.cons (Ev.cstr (l := ltL) rfl) (.cons (Ev.cstr (l := [60]) rfl) .nil)) (call_replace f1 f1') rfl) (.inl rfl) ?_
  refine Ex.assign (Ev.meth (x := .str _) FC.meth_replace (Ev.name rfl) (.cons (Ev.cstr (l := gtL) rfl) (.cons (Ev.cstr (l := [62]) rfl) .nil)) (call_replace f2 f2') rfl) (.inl rfl) ?_
  have hR' : replAll (uneSeq D) s₀ = repl (replAll D (repl (repl s₀ ltL [60]) gtL [62])) ampL [38] := by
    show replAll (D ++ [(ampL, [38])]) _ = _
    rw [replAll_append]; rfl
  rw [hR']
  have fin : ∀ σ, Sto.Sub [("data", ⟨none, .str (replAll D (repl (repl s₀ ltL [60]) gtL [62]))⟩)] σ →
      Ex (fcx G prog w A (fdOf stUne pm cd doc (.ref t) .none) L a T s B fr 1) ((bodyOf stUne).drop 3) σ (fun o _ => Ends o (.ok (.str (repl (replAll D (repl (repl s₀ ltL [60]) gtL [62])) ampL [38])))) := fun σ hs => by
    refine ExT.sub hs ?_
    refine Ex.ret (Ev.meth (x := .str _) FC.meth_replace (Ev.name rfl) (.cons (Ev.cstr (l := ampL) rfl) (.cons (Ev.cstr (l := [38]) rfl) .nil)) (call_replace f3 f3') rfl) rfl
  refine Ex.ite (Te.value (Ev.name rfl) (tru_dict (by rw [List.length_map]; (clear f3' f2' f1'; lia)))) (fun h => ?_) (fun h => ?_)
  · refine Ex.assign (EvX.ev (EvX.call (walk_drs P hf) (.cons (Ev.name rfl) (.cons (Ev.name rfl) .nil)) rfl rfl (Nat.le_refl 1) hR)) (.inl rfl) (Ex.nil ?_)
    exact fin _ (Sto.sub_of ⟨rfl, trivial⟩)
  · have : D = [] := by cases D with | nil => rfl | cons => exact tf h
    subst this
    exact Ex.nil (fin _ (Sto.sub_of ⟨rfl, trivial⟩))
theorem walk_esc (P : SaxG G) {s₀ : List Nat} {D : List (List Nat × List Nat)} (hf : replFit (escSeq D) s₀) (hD : D.length ≤ 16777216) : FSpec prog w G 2 "escape" [.str s₀, .dict (sdv D)] (.ok (.str (replAll (escSeq D) s₀))) := by
  obtain ⟨a, pm, cd, doc, t, ot, n, d, od, hfn, ht, htd, -⟩ := P.esc.ex
  obtain ⟨aR, pmR, cdR, docR, hR⟩ := P.drs
  refine FSpec.of hfn (body := bodyOf stEsc) (ps := ["data", "entities"]) rfl (dflt := []) (bind2 ht htd (fun a b => rfl) (fun a b => rfl) rfl) (fun A L T s B fr => ?_)
  obtain ⟨⟨f1, f1'⟩, ⟨f2, f2'⟩, ⟨f3, f3'⟩, hf⟩ := hf
  refine Ex.assign (Ev.meth (x := .str s₀) FC.meth_replace (Ev.name rfl) (.cons (Ev.cstr (l := [38]) rfl) (.cons (Ev.cstr (l := ampL) rfl) .nil)) (call_replace f1 f1') rfl) (.inl rfl) ?_
  refine Ex.assign (Ev.meth (x := .str _) FC.meth_replace (Ev.name rfl) (.cons (Ev.cstr (l := [62]) rfl) (.cons (Ev.cstr (l := gtL) rfl) .nil)) (call_replace f2 f2') rfl) (.inl rfl) ?_
  refine Ex.assign (Ev.meth (x := .str _) FC.meth_replace (Ev.name rfl) (.cons (Ev.cstr (l := [60]) rfl) (.cons (Ev.cstr (l := ltL) rfl) .nil)) (call_replace f3 f3') rfl) (.inl rfl) ?_
  refine Ex.ite (Te.value (Ev.name rfl) (tru_dict (by rw [List.length_map]; (clear f3' f2' f1'; lia)))) (fun h => ?_) (fun h => ?_)
  · refine Ex.assign (EvX.ev (EvX.call (walk_drs P hf) (.cons (Ev.name rfl) (.cons (Ev.name rfl) .nil)) rfl rfl (Nat.le_refl 1) hR)) (.inl rfl) (Ex.nil ?_)
    exact Ex.ret (Ev.name rfl) rfl
  · have : D = [] := by cases D with | nil => rfl | cons => exact tf h
    subst this
    exact Ex.nil (Ex.ret (Ev.name rfl) rfl)
end
end Mine
namespace Mine
open PySem PySem.Calls PySem.W PyProof.Rows
variable [Lo]
omit [Lo] in
noncomputable abbrev stLRead := topOf 15
omit [Lo] in
noncomputable def lettersL : List Nat := ("abcdefghijklmnopqrstuvwxyz0123456789ABCDEFGHIJKLMNOPQRSTUVWXYZ" : Str).cps.toList
omit [Lo] in
noncomputable def fig (c : Nat) : Nat := (findIn lettersL [c] % 36).toNat
omit [Lo] in
theorem fig_lt (c : Nat) : fig c < 36 := by unfold fig; lia
omit [Lo] in
theorem fig_int (c : Nat) : ((fig c : Nat) : Int) = findIn lettersL [c] % 36 := by unfold fig; lia
omit [Lo] in
noncomputable def ones (l : List Nat) : List (List Nat) := l.map fun c => [c]
noncomputable def lrGo (fs : List Nat) (base : List Nat) (char at_ bias p : Nat) : List Nat × Bool :=
  (measure fun x : List Nat × Nat × Nat × Nat × Nat => fs.length - x.2.2.2.2).wf.fix (C := fun _ => List Nat × Bool) (fun x rec => if h : x.2.2.2.2 < fs.length then
      match readN x.2.2.2.1 0 (fs.drop x.2.2.2.2) with
      | none => (x.1, false)
      | some (c, n) =>
        if hc : 0 < c then
          rec (insAt ((x.2.2.1 + n) % (x.1.length + 1)) (x.2.1 + (x.2.2.1 + n) / (x.1.length + 1)) x.1, x.2.1 + (x.2.2.1 + n) / (x.1.length + 1), (x.2.2.1 + n) % (x.1.length + 1) + 1,
            adp n (x.2.2.2.2 == 0) (x.1.length + 1), x.2.2.2.2 + c) (meas_lt h hc)
        else (x.1, true)
    else (x.1, true)) (base, char, at_, bias, p)
omit [Lo] in
theorem lrGo_eq (fs : List Nat) (base : List Nat) (char at_ bias p : Nat) : lrGo fs base char at_ bias p = (if h : p < fs.length then
    match readN bias 0 (fs.drop p) with
    | none => (base, false)
    | some (c, n) =>
      if hc : 0 < c then
        lrGo fs (insAt ((at_ + n) % (base.length + 1)) (char + (at_ + n) / (base.length + 1)) base) (char + (at_ + n) / (base.length + 1)) ((at_ + n) % (base.length + 1) + 1)
          (adp n (p == 0) (base.length + 1)) (p + c)
      else (base, true)
  else (base, true)) := WellFounded.fix_eq _ _ _
omit [Lo] in
noncomputable def lrOk (fs : List Nat) (len char at_ bias p : Nat) : Prop :=
  (measure fun x : Nat × Nat × Nat × Nat × Nat => fs.length - x.2.2.2.2).wf.fix (C := fun _ => Prop) (fun x rec => if h : x.2.2.2.2 < fs.length then
      match readN x.2.2.2.1 0 (fs.drop x.2.2.2.2) with
      | none => True
      | some (c, n) => x.2.1 + (x.2.2.1 + n) / (x.1 + 1) ≤ 1114111 ∧ (if x.2.2.2.2 == 0 then n / 700 else n / 2) + (if x.2.2.2.2 == 0 then n / 700 else n / 2) / (x.1 + 1) ≤ 455 ∧
        if hc : 0 < c then rec (x.1 + 1, x.2.1 + (x.2.2.1 + n) / (x.1 + 1), (x.2.2.1 + n) % (x.1 + 1) + 1, adp n (x.2.2.2.2 == 0) (x.1 + 1), x.2.2.2.2 + c) (meas_lt h hc) else True
    else True) (len, char, at_, bias, p)
omit [Lo] in
theorem lrOk_eq (fs : List Nat) (len char at_ bias p : Nat) : lrOk fs len char at_ bias p = (if h : p < fs.length then
    match readN bias 0 (fs.drop p) with
    | none => True
    | some (c, n) => char + (at_ + n) / (len + 1) ≤ 1114111 ∧ (if p == 0 then n / 700 else n / 2) + (if p == 0 then n / 700 else n / 2) / (len + 1) ≤ 455 ∧
      if hc : 0 < c then lrOk fs (len + 1) (char + (at_ + n) / (len + 1)) ((at_ + n) % (len + 1) + 1) (adp n (p == 0) (len + 1)) (p + c) else True
  else True) := WellFounded.fix_eq _ _ _
omit [Lo] in
theorem readN_none {bias : Int} : ∀ {l : List Nat} {j : Nat}, (∀ i, i < l.length → ¬ l.getD i 0 < tN (j + i) bias) → readN bias j l = none
  | [], _, _ => rfl
  | d :: l, j, h => by
    unfold readN
    have h0 := h 0 (by simp)
    simp only [List.getD_cons_zero, Nat.add_zero] at h0
    rw [if_neg h0, readN_none fun i hi => ?_]
    · rfl
    · have := h (i + 1) (by simp; (clear h0; lia))
      rw [List.getD_cons_succ] at this
      rwa [show j + 1 + i = j + (i + 1) by (clear this hi h0; lia)]
omit [Lo] in
noncomputable def under (l : List Nat) (bias : Int) (j : Nat) : Bool := decide (l.getD j 0 < tN j bias)
omit [Lo] in
noncomputable def endsOf (l : List Nat) (bias : Int) : List Nat := (List.range l.length).filter (under l bias)
omit [Lo] in
theorem ends_nil {l : List Nat} {bias : Int} (h : endsOf l bias = []) : readN bias 0 l = none :=
  readN_none fun i hi => by
    have := List.filter_eq_nil_iff.mp h i (List.mem_range.mpr hi)
    rw [Nat.zero_add]
    simpa [under] using this
omit [Lo] in
theorem ends_cons {l : List Nat} {bias : Int} {e : Nat} {r : List Nat} (h : endsOf l bias = e :: r) : e < l.length ∧ l.getD e 0 < tN e bias ∧ ∀ j, j < e → ¬ l.getD j 0 < tN j bias := by
  have h1 := List.head?_filter (p := under l bias) (l := List.range l.length)
  unfold endsOf at h
  rw [h] at h1
  have h2 := List.find?_range_eq_some.mp h1.symm
  refine ⟨List.mem_range.mp h2.2.1, of_decide_eq_true h2.1, fun j hj q => ?_⟩
  have := h2.2.2 j hj
  rw [Bool.not_eq_true'] at this
  exact of_decide_eq_false this q
omit [Lo] in
theorem readN_step {bias : Int} {l : List Nat} {e k num : Nat} (he : e < l.length) (h1 : l.getD e 0 < tN e bias) (h2 : ∀ j, j < e → ¬ l.getD j 0 < tN j bias) (hk : k ≤ e)
    (hi : (k = 0 ∧ num = 0) ∨ (0 < k ∧ readN bias (e + 1 - k) (l.drop (e + 1 - k)) = some (k, num))) :
    readN bias (e - k) (l.drop (e - k)) = some (k + 1, l.getD (e - k) 0 + (36 - tN (e - k) bias) * num) := by
  have hd : l.drop (e - k) = l.getD (e - k) 0 :: l.drop (e - k + 1) := by
    rw [List.drop_eq_getElem_cons (by (clear hk h1; omega))]
    simp [List.getD, List.getElem?_eq_getElem (show e - k < l.length by (clear hk h1; omega))]
  rw [hd]
  unfold readN
  rcases hi with ⟨hk0, hn⟩ | ⟨hk0, hn⟩
  · subst hk0 hn
    rw [Nat.sub_zero, if_pos h1]; simp
  · rw [if_neg (h2 _ (by (clear h1 he; omega))), show e - k + 1 = e + 1 - k by (clear h1 he; lia), hn]; rfl
omit [Lo] in
theorem adp_flat {n nc : Nat} {first : Bool} (h : (if first then n / 700 else n / 2) + (if first then n / 700 else n / 2) / nc ≤ 455) :
    adp n first nc = 36 * ((if first then n / 700 else n / 2) + (if first then n / 700 else n / 2) / nc) / ((if first then n / 700 else n / 2) + (if first then n / 700 else n / 2) / nc + 38) := by
  unfold adp
  dsimp only
  rw [adpLoop_neg (by lia)]
  simp
omit [Lo] in
structure ReadG (G : Pg) : Prop where
  read : FnIs G "_law_read" stLRead
  none : ∀ x : Str, x = "range" ∨ x = "min" ∨ x = "max" ∨ x = "len" ∨ x = "chr" ∨ x = "divmod" → G.mg x = none
omit [Lo] in
theorem ones_flat (l : List Nat) : (ones l).flatten = l := by
  induction l with
  | nil => rfl
  | cons c l ih => show [c] ++ (ones l).flatten = _; rw [ih]; rfl
omit [Lo] in
theorem strs_len (l : List (List Nat)) : (AV.strs l).length = l.length := by unfold AV.strs; simp
omit [Lo] in
theorem ones_len (l : List Nat) : (ones l).length = l.length := by unfold ones; simp
omit [Lo] in
theorem ones_ins (i c : Nat) (l : List Nat) : insAt i (AV.str [c]) (AV.strs (ones l)) = AV.strs (ones (insAt i c l)) := by
  unfold insAt AV.strs ones
  simp [List.map_take, List.map_drop]
omit [Lo] in
theorem nats_len (l : List Nat) : (AV.nats l).length = l.length := by unfold AV.nats; simp
omit [Lo] in
theorem nats_at {l : List Nat} {i : Int} (h0 : 0 ≤ i) (h : i < l.length) : (AV.nats l)[i.toNat]? = some (.int (l.getD i.toNat 0 : Nat)) := by
  unfold AV.nats
  rw [List.getElem?_map, List.getElem?_eq_getElem (by omega)]
  simp [List.getD, List.getElem?_eq_getElem (show i.toNat < l.length by omega)]
omit [Lo] in
theorem thr_of (x : Int) : min 26 (max 1 x) = if x < 1 then 1 else if x > 26 then 26 else x := by
  split
  · rename_i h; rw [Int.max_eq_left (Int.le_of_lt h)]; rfl
  · rename_i h
    rw [Int.max_eq_right (Int.not_lt.mp h)]
    split
    · rename_i h2; exact Int.min_eq_left (Int.le_of_lt h2)
    · rename_i h2; exact Int.min_eq_right (Int.not_lt.mp h2)
omit [Lo] in
theorem cmp_thr (j bias : Int) : min 26 (max 1 (36 * (j + 1) - bias)) = thr j bias := thr_of _
theorem Ev.join {X : Cx} {σ : Sto} {e : Expr} {l : List (List Nat)} {k : Nat} {cp apos pos : Pos} (h : EvO X e σ (.list (AV.strs l))) (hl : l.flatten.length ≤ 16777216) (hq : X.quiet = true)
    (hst : autoParam (starEach [e] X.env = [(false, eval e X.env)]) byRfl) (hfew : autoParam (methodCallForm (([e] : List Expr).length + ([] : List Keyword).length) (backTo pos (starEach [e] X.env)) (backToKw pos (keywordEach [] X.env)) = true) byRfl)
    (hbase : autoParam (attributeBase (.Constant (.str ("" : Str)) k cp) "join" X.env (eval (.Constant (.str ("" : Str)) k cp) X.env) = eval (.Constant (.str ("" : Str)) k cp) X.env) byRfl)
    (hany : autoParam ((backTo pos (starEach [e] X.env)).any (·.1) = false) byRfl) (hline : autoParam ((apos.endLine == pos.line) = true) byRfl) :
    Ev X (.Call (.Attribute (.Constant (.str ("" : Str)) k cp) "join" apos) [e] [] pos) σ (.str l.flatten) :=
  Ev.methO (x := .str []) FC.meth_join (Ev.cstr rfl) (.cons h .nil hst) (call_join hl) rfl hq (hbase := hbase) (hfew := hfew) (hline := hline) (he := hst) (hst := hany)
theorem Ev.joinOnes {X : Cx} {σ : Sto} {e : Expr} {l : List Nat} {k : Nat} {cp apos pos : Pos} (h : EvO X e σ (.list (AV.strs (ones l)))) (hl : l.length ≤ 16777216) (hq : X.quiet = true)
    (hst : autoParam (starEach [e] X.env = [(false, eval e X.env)]) byRfl) (hfew : autoParam (methodCallForm (([e] : List Expr).length + ([] : List Keyword).length) (backTo pos (starEach [e] X.env)) (backToKw pos (keywordEach [] X.env)) = true) byRfl)
    (hbase : autoParam (attributeBase (.Constant (.str ("" : Str)) k cp) "join" X.env (eval (.Constant (.str ("" : Str)) k cp) X.env) = eval (.Constant (.str ("" : Str)) k cp) X.env) byRfl)
    (hany : autoParam ((backTo pos (starEach [e] X.env)).any (·.1) = false) byRfl) (hline : autoParam ((apos.endLine == pos.line) = true) byRfl) :
    Ev X (.Call (.Attribute (.Constant (.str ("" : Str)) k cp) "join" apos) [e] [] pos) σ (.str l) := by
  have := Ev.join (k := k) (cp := cp) (apos := apos) (pos := pos) h (by rw [ones_flat]; exact hl) hq hst hfew hbase hany hline
  rwa [ones_flat] at this
theorem get_nats {l : List Nat} {i : Int} {n x : Nat} (hi : i = n) (h1 : n < l.length) (hs : l.length ≤ 1099511627776) (hx : l.getD n 0 = x) : GetG (.list (AV.nats l)) (.int i) (.int (x : Nat)) := by
  subst hi hx
  exact get_list (by (clear hs h1; lia)) (nats_at (by (clear hs h1; lia)) (by lia)) (by rw [nats_len]; lia)
omit [Lo] in
theorem p_pos {p : Nat} (h : (((p : Nat) : Int) != 0) = true) : AV.int 2 = .int (if p == 0 then 700 else 2) := by cases p with | zero => exact ft h | succ => rfl
omit [Lo] in
theorem p_zero {p : Nat} (h : (((p : Nat) : Int) != 0) = false) : AV.int 700 = .int (if p == 0 then 700 else 2) := by cases p with | zero => rfl | succ => exact tf h
omit [Lo] in
noncomputable abbrev stR (fs : List Nat) (bs : Addr) (base : List Nat) (char at_ bias p : Nat) : Sto := [("figures", ⟨none, .list (AV.nats fs)⟩), ("signs", ⟨some bs, .list (AV.strs (ones base))⟩), ("code", ⟨none, .int (char : Nat)⟩), ("place", ⟨none, .int ((at_ : Nat) - 1)⟩), ("bias", ⟨none, .int (bias : Nat)⟩), ("at", ⟨none, .int (p : Nat)⟩)]
omit [Lo] in
noncomputable abbrev stR2 (num : Nat) (er tl : List Nat) (s : Sto) : Sto := ("number", ⟨none, .int (num : Nat)⟩) :: ("ends", ⟨none, .list (AV.nats er)⟩) :: ("limits", ⟨none, .list (AV.nats tl)⟩) :: s
section
variable {prog : Program} {w : World} {G : Pg}
set_option maxHeartbeats 1000000
set_option maxRecDepth 4000
theorem walk_read (P : ReadG G) {name : List Nat} (hn : name.length ≤ 100) (hok : lrOk (name.map fig) 0 128 0 72 0) :
    FSpec prog w G 1 "_law_read" [.str name] (.ok (.tup [.str (lrGo (name.map fig) [] 128 0 72 0).1, .bool (lrGo (name.map fig) [] 128 0 72 0).2])) := by
  obtain ⟨a, pm, cd, doc, hf⟩ := P.read
  refine FSpec.ofR hf (body := bodyOf stLRead) (ps := ["name"]) rfl (.plain fun vals hv => ?_) (fun A L T s B fr R hR => ?_)
  · obtain ⟨a, rfl⟩ := len1 hv; rfl
  have hfl : (name.map fig).length = name.length := List.length_map ..
  refine Ex.assign (Ev.cstr (l := lettersL) rfl) (.inr ⟨rfl, rfl, _, rfl⟩) ?_
  refine Ex.assign_own (EvN.mapC (σc := [("letters", ⟨none, .str lettersL⟩)]) (ys := AV.nats (name.map fig)) (EvI.str (Ev.name rfl) rfl) ⟨rfl, rfl, by decide, by decide, rfl⟩ (SeenL.cons rfl rfl rfl rfl .nil) rfl (by rw [nats_len]; simp) (by simp; (clear hfl; lia)) (fun C D T₁ s₁ k v y hv hy => ?_)) (.inr ⟨rfl, rfl, _, rfl⟩) fun b => ?_
  · rw [List.getElem?_map] at hv
    obtain ⟨c, hc, rfl⟩ := Option.map_eq_some_iff.mp hv
    obtain ⟨d, hd, rfl⟩ := nats_get hy
    rw [List.getElem?_map, hc] at hd
    (have hd := Option.some.inj hd; subst hd)
    rw [fig_int]
    exact Ev.binop (Ev.meth (x := .str lettersL) FC.meth_find (Ev.name rfl) (.cons (Ev.name rfl) .nil) call_find rfl) Ev.cint (bin_mod_int (by decide))
  refine ExT.freeze (x := "figures") rfl ?_
  generalize hfs : name.map fig = fs at hfl hok hR ⊢
  refine Ex.assign_own (EvN.list .nil) (.inl rfl) fun bs => ?_
  refine Ex.assignT (xs := ["code", "place", "bias", "at"]) (Ev.tuple (.cons Ev.cint (.cons (Ev.neg Ev.cint) (.cons Ev.cint (.cons Ev.cint .nil)))) (Nat.le_of_ble_eq_true rfl)) (.cons (.inl rfl) (.cons (.inl rfl) (.cons (.inr ⟨rfl, rfl, _, rfl⟩) (.cons (.inr ⟨rfl, rfl, _, rfl⟩) .nil)))) rfl ?_
  refine Ex.whileR fcx_top (P := List Nat × Nat × Nat × Nat × Nat) (fun x => stR fs bs x.1 x.2.1 x.2.2.1 x.2.2.2.1 x.2.2.2.2)
    (fun n x => n = fs.length - x.2.2.2.2 ∧ x.2.2.2.2 ≤ fs.length ∧ x.1.length ≤ x.2.2.2.2 ∧ lrOk fs x.1.length x.2.1 x.2.2.1 x.2.2.2.1 x.2.2.2.2 ∧ lrGo fs x.1 x.2.1 x.2.2.1 x.2.2.2.1 x.2.2.2.2 = lrGo fs [] 128 0 72 0)
    (fun n x hi => ?_) (fs.length) ([], 128, 0, 72, 0) ⟨rfl, Nat.zero_le _, Nat.le_refl _, hok, rfl⟩ ⟨rfl, rfl, rfl, rfl, rfl, rfl, trivial⟩
  cases x using p5 with
  | h base char at_ bias p =>
  refine x0a5 hi fun hn' hp hbl hok hg => ?_; clear hi
  subst n
  dsimp only at hp hbl hok hg ⊢
  have hjoin : ∀ x, ones x = ones x := fun _ => rfl
  refine ⟨_, Te.cmp (Ev.name rfl) (Ev.callB (.cons (Ev.name rfl) .nil) (call_len_list' (by rw [nats_len]; (clear hbl; lia))) rfl rfl (P.none _ (by simp)) boot_len nofun) cmp_lt_int, fun h => ?_, fun h => ?_⟩
  · intro R1 hN1 hO1
    have h := of_decide_eq_true h
    rw [nats_len] at h
    have hlt : p < fs.length := by omega
    conv at hg => lhs; rw [lrGo_eq]
    rw [dif_pos hlt] at hg
    rw [lrOk_eq] at hok
    rw [dif_pos hlt] at hok
    have hdl : (fs.drop p).length = fs.length - p := List.length_drop ..
    refine Ex.assign_own (EvN.mapC (σc := [("bias", ⟨none, .int (bias : Nat)⟩)]) (ys := AV.nats ((List.range (fs.length - p)).map fun j => tN j bias)) (EvI.range1 (n := ((fs.length - p : Nat) : Int)) ?_ rfl (by (clear hdl hlt h hbl hp hfl hn; lia)) (by (clear hdl hlt h hbl hp; lia)) rfl (P.none _ (by simp))) ⟨rfl, rfl, by decide, by decide, rfl⟩ (SeenL.cons rfl rfl rfl rfl .nil) rfl (by rw [nats_len]; simp) (by simp; (clear hdl hbl; lia)) (fun C D T₁ s₁ k v y hv hy => ?_)) (.inr ⟨rfl, rfl, _, rfl⟩) fun bl => ?_
    · have e : ((fs.length - p : Nat) : Int) = ((AV.nats fs).length : Nat) - (p : Nat) := by rw [nats_len]; (clear hlt h hbl hfl hn; lia)
      rw [e]
      exact Ev.binop (Ev.callB (.cons (Ev.name rfl) .nil) (call_len_list' (by rw [nats_len]; (clear e hdl hbl; lia))) rfl rfl (P.none _ (by simp)) boot_len nofun) (Ev.name rfl) bin_sub_int
    · rw [Int.toNat_natCast, List.getElem?_map] at hv
      obtain ⟨j, hj, rfl⟩ := Option.map_eq_some_iff.mp hv
      obtain ⟨d, hd, rfl⟩ := nats_get hy
      rw [List.getElem?_map, hj] at hd
      (have hd := Option.some.inj hd; subst hd)
      rw [tN_eq, ← cmp_thr]
      exact Ev.callB (.cons Ev.cint (.cons (Ev.callB (.cons Ev.cint (.cons (Ev.binop (Ev.binop Ev.cint (Ev.binop (Ev.name rfl) Ev.cint bin_add_int) (bin_mul_intL (by decide))) (Ev.name rfl) bin_sub_int) .nil)) call_max' rfl rfl (P.none _ (by simp)) boot_max nofun) .nil)) call_min' rfl rfl (P.none _ (by simp)) boot_min nofun
    refine ExT.freeze (x := "limits") rfl ?_
    have htl : ∀ j, j < fs.length - p → ((List.range (fs.length - p)).map fun j => tN j bias).getD j 0 = tN j bias := fun j hj => by simp [List.getD, hj]
    have hfd : ∀ j, fs.getD (p + j) 0 = (fs.drop p).getD j 0 := fun j => by simp [List.getD]
    generalize htle : (List.range (fs.length - p)).map (fun j => tN j bias) = tl at htl ⊢
    have htll : tl.length = fs.length - p := by rw [← htle]; simp
    refine Ex.assign_listC (σc := [("figures", ⟨none, .list (AV.nats fs)⟩), ("at", ⟨none, .int (p : Nat)⟩), ("limits", ⟨none, .list (AV.nats tl)⟩)]) (fun k => AV.nats ((List.range k).filter (under (fs.drop p) bias))) rfl
      (EvI.range1 (n := ((fs.length - p : Nat) : Int)) ?_ rfl (by (clear htll hdl hlt h hbl hp hfl hn; lia)) (by (clear htll hdl hlt h hbl hp; lia)) rfl (P.none _ (by simp))) ⟨rfl, rfl, by decide, by decide, rfl⟩ (SeenL.cons rfl rfl rfl rfl (SeenL.cons rfl rfl rfl rfl (SeenL.cons rfl rfl rfl rfl .nil))) rfl (fun k hk => ?_) (fun C D T₁ s₁ k v hv => ?_) (.inl rfl) fun be => ?_
    · rw [← htll, ← nats_len]
      exact Ev.callB (.cons (Ev.name rfl) .nil) (call_len_list' (by rw [nats_len]; (clear hdl hlt h hbl hp; lia))) rfl rfl (P.none _ (by simp)) boot_len nofun
    · rw [nats_len]
      simp only [List.length_map, List.length_range, Int.toNat_natCast] at hk
      have := List.length_filter_le (under (fs.drop p) bias) (List.range k)
      simp only [List.length_range] at this
      (clear htll hdl hlt h hbl hp; lia)
    · rw [Int.toNat_natCast, List.getElem?_map] at hv
      obtain ⟨j, hj, rfl⟩ := Option.map_eq_some_iff.mp hv
      obtain ⟨hj1, hj2⟩ := List.getElem?_eq_some_iff.mp hj
      rw [List.length_range] at hj1
      rw [List.getElem_range] at hj2
      subst hj2
      refine ⟨under (fs.drop p) bias k, ?_, fun hb => ?_, fun hb => ⟨_, Ev.name rfl, ?_⟩⟩
      · have e : under (fs.drop p) bias k = decide ((((fs.drop p).getD k 0 : Nat) : Int) < ((tN k bias : Nat) : Int)) := by
          unfold under; rw [decide_eq_decide]; (clear htll hdl hlt h hbl hp hfl hn; lia)
        rw [e]
        exact TeL.one (Te.cmp (Ev.index (Ev.name rfl) (Ev.binop (Ev.name rfl) (Ev.name rfl) bin_add_int) (get_nats (n := p + k) (by (clear htll hdl hbl hfl hn; lia)) (by (clear hdl hlt h hbl hp hfl hn; omega)) (by (clear hdl hlt h hbl hp; lia)) (hfd k))) (Ev.index (Ev.name rfl) (Ev.name rfl) (get_nats (n := k) rfl (by (clear hdl hlt h hbl hp hfl hn; lia)) (by (clear hdl hlt h hbl hp; omega)) (htl k hj1))) cmp_lt_int)
      · simp [List.range_succ, List.filter_append, hb]
      · simp [List.range_succ, List.filter_append, hb, AV.nats]
    refine ExT.freeze (x := "ends") rfl ?_
    have hends : (List.range ((List.range ((fs.length - p : Nat) : Int).toNat).map fun (i : Nat) => AV.int i).length).filter (under (fs.drop p) bias) = endsOf (fs.drop p) bias := by
      unfold endsOf; simp
    rw [hends]
    refine Ex.ite (Te.not (Te.value (Ev.name rfl) (tru_list ?_))) (fun h => ?_) (fun h => ?_)
    · rw [nats_len]
      have := List.length_filter_le (under (fs.drop p) bias) (List.range (fs.drop p).length)
      simp only [List.length_range] at this
      unfold endsOf; (clear htll hlt h hbl hp; lia)
    · have he : endsOf (fs.drop p) bias = [] := by
        cases h' : endsOf (fs.drop p) bias with
        | nil => rfl
        | cons => rw [h'] at h; exact ft h
      rw [ends_nil he] at hg
      dsimp only at hg
      refine Ex.ret (Ev.tuple (xs := [.str base, .bool false]) (.cons (Ev.joinOnes (l := base) (EvO.own rfl) (by (clear htll hdl; lia)) rfl) (.cons Ev.cbool .nil)) (Nat.le_of_ble_eq_true rfl)) (hO1 (.ret _) _ (hR (.ret _) _ (by rw [← hg]; rfl)))
    refine Ex.nil ?_
    cases he : endsOf (fs.drop p) bias with
    | nil => rw [he] at h; exact tf h
    | cons e r =>
    obtain ⟨he1, he2, he3⟩ := ends_cons he
    rw [hdl] at he1
    have hl : (fs.drop p).length = fs.length - p := hdl
    have hel : (AV.nats (e :: r)).length ≤ 1099511627776 := by
      have := congrArg List.length he
      have h2 := List.length_filter_le (under (fs.drop p) bias) (List.range (fs.drop p).length)
      rw [nats_len]
      unfold endsOf at this
      simp only [List.length_range] at h2
      (clear he2 htll hbl; lia)
    refine Ex.assign Ev.cint (.inl rfl) ?_
    refine Ex.forNR fcx_top (EvI.down (n := (e : Nat)) (Ev.index (Ev.name rfl) Ev.cint (get_nats (n := 0) rfl (by simp) (by rw [nats_len] at hel; exact hel) rfl)) (Ev.neg Ev.cint) (Ev.neg Ev.cint) rfl (by (clear hel hl he2 he1 htll hdl hfl hn; lia)) (by (clear hel hl he2 htll hdl hbl; lia)) rfl (P.none _ (by simp))) (.inl rfl) (P := Nat)
      (fun num => stR2 num (e :: r) tl (stR fs bs base char at_ bias p))
      (fun k num => (k = 0 ∧ num = 0) ∨ (0 < k ∧ readN bias (e + 1 - k) ((fs.drop p).drop (e + 1 - k)) = some (k, num))) (fun k v num hv hi => ?_) (fun num hi => ?_) 0 (.inl ⟨rfl, rfl⟩) ⟨rfl, rfl, rfl, rfl, rfl, rfl, rfl, rfl, rfl, trivial⟩
    · intro R2 hN2 hO2
      rw [Int.toNat_natCast, List.getElem?_map] at hv
      obtain ⟨j, hj, rfl⟩ := Option.map_eq_some_iff.mp hv
      obtain ⟨hj1, hj2⟩ := List.getElem?_eq_some_iff.mp hj
      rw [List.length_range] at hj1
      rw [List.getElem_range] at hj2
      subst hj2
      have hs := readN_step (by rw [hl]; exact he1) he2 he3 (Nat.le_of_lt_succ hj1) hi
      have ht := tN_le (e - k) bias
      have e1 : (((fs.drop p).getD (e - k) 0 + (36 - tN (e - k) bias) * num : Nat) : Int) = (((fs.drop p).getD (e - k) 0 : Nat) : Int) + (36 - ((tN (e - k) bias : Nat) : Int)) * (num : Nat) := by
        rw [Int.natCast_add, Int.natCast_mul, Int.natCast_sub (by (clear hel hl he2 he1 htll hdl hbl hfl hn; lia))]; rfl
      refine Ex.assign (v := .int (((fs.drop p).getD (e - k) 0 + (36 - tN (e - k) bias) * num : Nat) : Int)) ?_ (.inl rfl) (Ex.nil (hN2 _ _ ⟨rfl, rfl, rfl, rfl, rfl, rfl, rfl, rfl, rfl, trivial⟩ (.inr ⟨Nat.succ_pos _, ?_⟩)))
      · rw [e1]
        exact Ev.binop (Ev.index (Ev.name rfl) (Ev.binop (Ev.name rfl) (Ev.name rfl) bin_add_int) (get_nats (n := p + (e - k)) (by (clear e1 ht hel hl he2 he1 htll hdl hbl hfl hn; lia)) (by (clear e1 ht hj1 hi hel hl he2 htll hdl hbl; omega)) (by (clear e1 ht hel hl he2 he1 htll hdl; lia)) (hfd (e - k)))) (Ev.binop (Ev.binop Ev.cint (Ev.index (Ev.name rfl) (Ev.name rfl) (get_nats (n := e - k) (by (clear e1 ht hel hl he2 he1 htll hdl hbl hfl hn; lia)) (by (clear e1 ht hj1 hel hl he2 hdl hbl hfl hn; omega)) (by (clear e1 ht hi hel hl he2 hdl hbl; lia)) (htl (e - k) (by (clear e1 ht hj1 hel hl he2 htll hdl hbl hfl hn; omega))))) bin_sub_int) (Ev.name rfl) (bin_mul_intL (by (clear e1 hel hl he2 he1 htll hdl hbl hfl hn; omega)))) bin_add_int
      · rw [show e + 1 - (k + 1) = e - k by (clear e1 ht hj1 hel hl he2 htll hdl hbl hfl hn; lia)]; exact hs
    · have hxl : ((List.range ((e : Int).toNat + 1)).map fun (i : Nat) => AV.int ((e : Int) - i)).length = e + 1 := by simp
      rw [hxl] at hi
      have hr : readN bias 0 (fs.drop p) = some (e + 1, num) := by
        rcases hi with ⟨h, _⟩ | ⟨_, h⟩
        · (clear hxl hel he2 htll hbl hfl hn; lia)
        · simpa using h
      rw [hr] at hg hok
      dsimp only at hg hok
      rw [dif_pos (Nat.succ_pos e)] at hg hok
      obtain ⟨hch, hpart, hok⟩ := hok
      have hnum : num ≤ 1000000 := by
        have hd := Nat.le_trans (Nat.le_add_right _ _) hpart
        split at hd <;> omega
      have hsl : (AV.strs (ones base)).length = base.length := by rw [strs_len, ones_len]
      have hbs : base.length ≤ 100 := Nat.le_trans hbl (Nat.le_trans hp (hfl ▸ hn))
      have hbs1 : (AV.strs (ones base)).length ≤ 16777215 := hsl ▸ Nat.le_trans hbs (by decide)
      have hm : (at_ + num) % (base.length + 1) < base.length + 1 := Nat.mod_lt _ (Nat.succ_pos _)
      have hdm : AV.tup [.int ((((at_ : Nat) : Int) - 1 + 1 + (num : Nat)) / (((AV.strs (ones base)).length : Nat) + 1)), .int ((((at_ : Nat) : Int) - 1 + 1 + (num : Nat)) % (((AV.strs (ones base)).length : Nat) + 1))] = .tup [.int (((at_ + num) / (base.length + 1) : Nat) : Int), .int (((at_ + num) % (base.length + 1) : Nat) : Int)] := by
        rw [Int.sub_add_cancel, hsl]; rfl
      generalize (at_ + num) % (base.length + 1) = pos at hm hg hok hdm
      generalize (at_ + num) / (base.length + 1) = rd at hch hg hok hdm
      have hins : AV.list (insAt ((pos : Nat) : Int).toNat (.str [((char + rd : Nat) : Int).toNat]) (AV.strs (ones base))) = .list (AV.strs (ones (insAt pos (char + rd) base))) := congrArg AV.list (ones_ins pos (char + rd) base)
      have hil : (insAt pos (char + rd) base).length = base.length + 1 := insAt_len1 (Nat.le_of_lt_succ hm)
      generalize insAt pos (char + rd) base = base' at hg hins hil
      have hsl' : (AV.strs (ones base')).length = base.length + 1 := by rw [strs_len, ones_len, hil]
      have hadp := adp_flat hpart
      rw [hadp] at hg hok
      clear hadp
      have hdv : AV.int (((num : Nat) : Int) / (if p == 0 then 700 else 2)) = .int ((if p == 0 then num / 700 else num / 2 : Nat) : Int) := by split <;> rfl
      generalize (if p == 0 then num / 700 else num / 2) = d at hpart hg hok hdv
      have hd2 : AV.int (((d : Nat) : Int) + ((d : Nat) : Int) / (((AV.strs (ones base')).length : Nat) : Int)) = .int ((d + d / (base.length + 1) : Nat) : Int) := by rw [hsl']; rfl
      generalize d + d / (base.length + 1) = d2 at hpart hg hok hd2
      have hif : (0 : Int) < (if p == 0 then 700 else 2) ∧ (if p == 0 then (700 : Int) else 2) < 1073741824 := by split <;> decide
      have hl' : 0 < (((AV.strs (ones base')).length : Nat) : Int) ∧ (((AV.strs (ones base')).length : Nat) : Int) < 1073741824 := by rw [hsl']; exact ⟨Int.natCast_pos.mpr (Nat.succ_pos _), Int.ofNat_lt.mpr (Nat.lt_of_le_of_lt (Nat.succ_le_succ hbs) (by decide))⟩
      have hd3 : (0 : Int) < (d2 : Nat) + 38 ∧ ((d2 : Nat) : Int) + 38 < 1073741824 := ⟨Int.natCast_pos.mpr (Nat.succ_pos (d2 + 37)), Int.ofNat_lt.mpr (Nat.lt_of_le_of_lt (Nat.add_le_add_right hpart 38) (by decide))⟩
      have hlb : (0 : Int) < ((AV.strs (ones base)).length : Nat) + 1 ∧ (((AV.strs (ones base)).length : Nat) : Int) + 1 < 1073741824 := ⟨Int.natCast_pos.mpr (Nat.succ_pos _), Int.ofNat_lt.mpr (Nat.lt_of_le_of_lt (Nat.succ_le_succ hbs1) (by decide))⟩
      have hpl : ((pos : Nat) : Int) ≤ ((AV.strs (ones base)).length : Nat) := by rw [hsl]; exact Int.ofNat_le.mpr (Nat.le_of_lt_succ hm)
      have hch0 : (0 : Int) ≤ ((char + rd : Nat) : Int) ∧ ((char + rd : Nat) : Int) ≤ 1114111 := ⟨Int.natCast_nonneg _, Int.ofNat_le.mpr hch⟩
      clear hpart hch
      refine Ex.nil (Ex.assignT (xs := ["round_", "place"]) (vs := [.int ((rd : Nat) : Int), .int ((pos : Nat) : Int)]) (Ev.to (Ev.callB (.cons (Ev.binop (Ev.binop (Ev.name rfl) Ev.cint bin_add_int) (Ev.name rfl) bin_add_int) (.cons (Ev.binop (Ev.callO (.cons (EvO.own rfl) .nil) (call_len_list' (Nat.le_trans hbs1 (by decide))) rfl rfl rfl (P.none _ (by simp)) boot_len nofun) Ev.cint bin_add_int) .nil)) (call_divmod' hlb.1 hlb.2) rfl rfl (P.none _ (by simp)) boot_divmod nofun) hdm) (.cons (.inl rfl) (.cons (.inl rfl) .nil)) rfl ?_)
      refine Ex.aug (w := .int ((char + rd : Nat) : Int)) rfl (Ev.name rfl) inp_add_int (.inl rfl) ?_
      refine Ex.mut (x := "signs") (av := .list (AV.strs (ones base))) (av' := .list (AV.strs (ones base'))) rfl meth_insert (.cons (Ev.name rfl) (.cons (Ev.callB (.cons (Ev.name rfl) .nil) (call_chr' hch0.1 hch0.2) rfl rfl (P.none _ (by simp)) boot_chr nofun) .nil)) (MutG.to (mut_insert (Int.natCast_nonneg _) hpl (Nat.le_succ_of_le hbs1)) hins) rfl ?_
      refine Ex.assign (v := .int ((d : Nat) : Int)) (Ev.to (Ev.binop (Ev.name rfl) (Ev.ifexp (x := .int (if p == 0 then 700 else 2)) (Te.value (Ev.name rfl) (tru_int _)) (fun h => Ev.to Ev.cint (p_pos h)) (fun h => Ev.to Ev.cint (p_zero h))) (bin_div_int hif.1 hif.2)) hdv) (.inl rfl) ?_
      refine Ex.aug (w := .int ((d2 : Nat) : Int)) rfl (Ev.binop (Ev.name rfl) (Ev.callO (.cons (EvO.own rfl) .nil) (call_len_list' (hsl' ▸ Nat.le_trans (Nat.succ_le_succ hbs) (by decide))) rfl rfl rfl (P.none _ (by simp)) boot_len nofun) (bin_div_int hl'.1 hl'.2)) (InpG.to inp_add_int hd2) (.inl rfl) ?_
      refine Ex.assign (v := .int ((36 * d2 / (d2 + 38) : Nat) : Int)) (Ev.binop (Ev.binop Ev.cint (Ev.name rfl) (bin_mul_intL (by decide))) (Ev.binop (Ev.name rfl) Ev.cint bin_add_int) (bin_div_int hd3.1 hd3.2)) (.inr ⟨rfl, rfl, _, rfl⟩) ?_
      refine Ex.aug (w := .int ((p + (e + 1) : Nat) : Int)) rfl (Ev.binop (Ev.index (Ev.name rfl) Ev.cint (get_nats (n := 0) rfl (by simp) (nats_len (e :: r) ▸ hel) rfl)) Ev.cint bin_add_int) inp_add_int (.inr ⟨rfl, rfl, _, rfl⟩) (Ex.nil ?_)
      have hpe : p + (e + 1) ≤ fs.length := by (clear hg hok hdv hd2 hif hl' hd3 hlb hpl hch0 hdm hins hil hsl' hel hm hbs hbs1 hnum hi hbl hfl hn; omega)
      exact hN1 (base', char + rd, pos + 1, 36 * d2 / (d2 + 38), p + (e + 1)) _ _ ⟨rfl, rfl, rfl, congrArg (fun i : Int => some (⟨none, .int i⟩ : Cell)) (Int.add_sub_cancel ((pos : Nat) : Int) 1).symm, rfl, rfl, trivial⟩ (Nat.sub_lt_sub_left hlt (Nat.lt_add_of_pos_right (Nat.succ_pos e))) ⟨rfl, hpe, (hil ▸ Nat.add_le_add hbl (Nat.succ_le_succ (Nat.zero_le e)) : base'.length ≤ p + (e + 1)), (hil ▸ hok : lrOk fs base'.length (char + rd) (pos + 1) (36 * d2 / (d2 + 38)) (p + (e + 1))), hg⟩
  · have h := of_decide_eq_false h
    rw [nats_len] at h
    conv at hg => lhs; rw [lrGo_eq]
    rw [dif_neg (by (clear hp; omega))] at hg
    refine Ex.nil (Ex.ret (Ev.tuple (xs := [.str base, .bool true]) (.cons (Ev.joinOnes (l := base) ?_ ?_ ?_ ?_ ?_ ?_ ?_ ?_) (.cons Ev.cbool .nil)) (Nat.le_of_ble_eq_true rfl)) (hR (.ret _) _ (by rw [← hg]; rfl)))
    · exact EvO.own rfl
    · (clear h; lia)
    · rfl
    · rfl
    · rfl
    · rfl
    · rfl
    · rfl
end
end Mine
namespace Mine
open PySem PySem.Calls PySem.W PyProof.Rows
variable [Lo]
omit [Lo] in
noncomputable abbrev stLName := topOf 16
omit [Lo] in
noncomputable abbrev stLKnown := topOf 17
omit [Lo] in
theorem lr_ins {fs : List Nat} : ∀ (n len char at_ bias p : Nat), fs.length - p = n → lrOk fs len char at_ bias p → insOk fs len char at_ bias p := by
  intro n
  induction n using Nat.strongRecOn with
  | ind n ih =>
    intro len char at_ bias p hn h
    rw [lrOk_eq] at h
    rw [insOk_eq]
    by_cases hp : p < fs.length
    · rw [dif_pos hp] at h ⊢
      cases hr : readN bias 0 (fs.drop p) with
      | none => trivial
      | some r =>
        obtain ⟨c, m⟩ := r
        rw [hr] at h
        dsimp only at h ⊢
        have hc := readN_le hr
        rw [dif_pos hc.1] at h ⊢
        exact ⟨h.1, ih (fs.length - (p + c)) (by omega) _ _ _ _ _ rfl h.2.2⟩
    · rw [dif_neg hp]; trivial
omit [Lo] in
noncomputable def outR (er : List Nat) (len : Nat) (r : List Nat × Bool) : Except XV AV := if r.2 || !(er == strictL) then .ok (.str r.1) else .error (.ude true (len : Nat) ((len : Nat) + 1) incL)
theorem ins_lr {fs er : List Nat} : ∀ (n : Nat) (base : List Nat) (char at_ bias p : Nat), fs.length - p = n →
    insGo fs er base char at_ bias p = outR er fs.length (lrGo fs base char at_ bias p) := by
  intro n
  induction n using Nat.strongRecOn with
  | ind n ih =>
    intro base char at_ bias p hn
    conv => lhs; rw [insGo_eq]
    rw [lrGo_eq]
    by_cases hp : p < fs.length
    · rw [dif_pos hp, dif_pos hp]
      cases hr : readN bias 0 (fs.drop p) with
      | none =>
        dsimp only
        unfold outR
        rw [Bool.false_or]
        cases er == strictL <;> rfl
      | some r =>
        obtain ⟨c, m⟩ := r
        dsimp only
        have hc := readN_le hr
        rw [dif_pos hc.1, dif_pos hc.1]
        exact ih (fs.length - (p + c)) (by omega) _ _ _ _ _ rfl
    · rw [dif_neg hp, dif_neg hp]; rfl
omit [Lo] in
structure NmOk (name : List Nat) : Prop where
  letters : ∀ c ∈ name, c ∈ lettersL
  len : name.length ≤ 100
  rd : lrOk (name.map fig) 0 128 0 72 0
noncomputable def lr (name : List Nat) : List Nat × Bool := lrGo (name.map fig) [] 128 0 72 0
omit [Lo] in
theorem letters_ok : ∀ c ∈ lettersL, c < 128 ∧ c ≠ 45 ∧ (if 97 ≤ c ∧ c ≤ 122 then c - 32 else c) = udig (fig c) := by decide +kernel
omit [Lo] in
theorem lastOf_none {l : List Nat} {c : Nat} (h : c ∉ l) : lastOf l c = -1 := by
  unfold lastOf
  have : (List.range l.length).reverse.find? (fun i => l[i]? == some c) = none := by
    rw [List.find?_eq_none]
    intro i _ q
    exact h (List.mem_of_getElem? (beq_iff_eq.mp q))
  rw [this]
theorem NmOk.label {name : List Nat} (h : NmOk name) : Label name [] (name.map fig) where
  ascii := fun c hc => (letters_ok c (h.letters c hc)).1
  figs := fun d hd => by refine x1a2 (List.mem_map.mp hd) fun c _ e_0 => ?_; subst e_0; exact fig_lt c
  parts := .inl ⟨rfl, lastOf_none fun q => (letters_ok 45 (h.letters 45 q)).2.1 rfl, by
    unfold upL
    rw [List.map_map]
    exact List.map_congr_left fun c hc => (letters_ok c (h.letters c hc)).2.2⟩
noncomputable def decOf (er name : List Nat) : Except XV AV := if (lr name).2 || !(er == strictL) then .ok (.str (lr name).1) else .error (.ude false (name.length : Nat) ((name.length : Nat) + 1) incL)
theorem pyR_lr (er name : List Nat) : pyR name.length (name.map fig) er [] = decOf er name := by
  unfold pyR decOf
  rw [ins_lr _ _ _ _ _ _ rfl]
  unfold outR lr
  cases (lrGo (name.map fig) [] 128 0 72 0).2 || !(er == strictL) <;> rfl
omit [Lo] in
structure PreG (G : Pg) : Prop where
  puny : PunyG G
  read : ReadG G
  sax : SaxG G
  name : FnIs G "_law_name" stLName
  known : FnIs G "_law_known" stLKnown
  none : ∀ x : Str, x = "ord" ∨ x = "len" ∨ x = "chr" ∨ x = "all" ∨ x = "list" ∨ x = "isinstance" ∨ x = "bytes" → G.mg x = none
section
variable {prog : Program} {w : World} {G : Pg}
set_option maxHeartbeats 1000000
set_option maxRecDepth 4000
theorem walk_dec_s (P : PreG G) {name er : List Nat} (h : NmOk name) : FSpec prog w G 4 "punycode_decode" [.str name, .str er] (decOf er name) := by
  rw [← pyR_lr]
  exact walk_puny_s P.puny h.label (by have := h.len; lia) (.inr (.inr rfl)) (lr_ins _ _ _ _ _ _ rfl h.rd)
theorem walk_dec_b (P : PreG G) {name er : List Nat} (h : NmOk name) : FSpec prog w G 4 "punycode_decode" [.bytes name, .str er] (decOf er name) := by
  rw [← pyR_lr]
  exact walk_puny_b P.puny h.label (by have := h.len; lia) (.inr (.inr rfl)) (lr_ins _ _ _ _ _ _ rfl h.rd)
omit [Lo] in
noncomputable def replL : List Nat := ("replace" : Str).cps.toList
theorem dec_soft {er name : List Nat} (h : (er == strictL) = false) : decOf er name = .ok (.str (lr name).1) := by unfold decOf; rw [h]; simp
theorem call_bytes_nats {l : List Nat} (h : ∀ n ∈ l, n < 256) (hs : l.length ≤ 16777216) : CallG (.type "bytes") [.list (AV.nats l)] (.bytes l) := by
  have := call_bytes_list (l := l.map fun (n : Nat) => (n : Int)) (fun n hn => by refine x1a2 (List.mem_map.mp hn) fun m hm e_0 => ?_; subst e_0; have := h m hm; (clear hs; lia)) (by simpa using hs)
  have e1 : AV.ints (l.map fun (n : Nat) => (n : Int)) = AV.nats l := by unfold AV.ints AV.nats; rw [List.map_map]; rfl
  have e2 : (l.map fun (n : Nat) => (n : Int)).map Int.toNat = l := by
    rw [List.map_map]; conv => rhs; rw [← List.map_id l]
    rfl
  rwa [e1, e2] at this
omit [Lo] in
theorem ints_len (l : List Int) : (AV.ints l).length = l.length := by unfold AV.ints; simp
theorem walk_name (P : PreG G) {name : List Nat} (h : NmOk name) : FSpec prog w G 5 "_law_name" [.str name] (.ok (.bool true)) := by
  refine x4a1 (P.name) fun a pm cd doc hf => ?_
  refine x4a1 (P.puny.puny) fun aP pmP cdP docP hP => ?_
  refine x4a1 (P.read.read) fun aR pmR cdR docR hR => ?_
  have hlen := h.len
  refine FSpec.of hf (body := bodyOf stLName) (ps := ["name"]) rfl (.plain fun vals hv => ?_) (fun A L T s B fr => ?_)
  · refine x1a1 (len1 hv) fun a e_0 => ?_; subst e_0; rfl
  refine Ex.assignT (xs := ["laid", "whole"]) (EvX.ev (EvX.call (walk_read P.read hlen h.rd) (.cons (Ev.name rfl) .nil) rfl rfl (Nat.le_of_ble_eq_true rfl) hR)) (.cons (.inl rfl) (.cons (.inl rfl) .nil)) rfl ?_
  have e1 : lrGo (name.map fig) [] 128 0 72 0 = lr name := rfl
  rw [e1]
  have d1 := walk_dec_s (prog := prog) (w := w) P (er := ignoreL) h
  have d2 := walk_dec_s (prog := prog) (w := w) P (er := replL) h
  have d3 := walk_dec_b (prog := prog) (w := w) P (er := strictL) h
  rw [dec_soft (by decide)] at d1 d2
  refine Ex.ite (Te.or (Ors.cons (Te.cmp (EvX.ev (EvX.call d1 (.cons (Ev.name rfl) (.cons (Ev.cstr rfl) .nil)) rfl rfl (Nat.le_refl 4) hP)) (Ev.name rfl) cmp_ne_str) fun _ => Ors.cons (Te.cmp (EvX.ev (EvX.call d2 (.cons (Ev.name rfl) (.cons (Ev.cstr rfl) .nil)) rfl rfl (Nat.le_refl 4) hP)) (Ev.name rfl) cmp_ne_str) fun _ => Ors.nil)) (fun hb => ?_) (fun hb => Ex.nil ?_)
  · simp at hb
  refine Ex.tryAs clause_ude rfl fcx_top rfl (P.puny.none _ (by simp)) rfl (.inl rfl) ?_
  generalize hr : decOf strictL name = r at d3
  refine Ex.assignX (EvX.call d3 (.cons (Ev.callB (.cons (EvN.ev (EvN.mapC (σc := []) (ys := AV.nats name) (EvI.str (Ev.name rfl) rfl) ⟨rfl, rfl, by decide, by decide, rfl⟩ .nil rfl (by rw [nats_len]; simp) (by simp; lia) (fun C D T₁ s₁ k v y hv hy => ?_)) ⟨fun _ q => (by cases q), fun q => (by cases q)⟩) .nil) (call_bytes_nats ?_ (by lia)) rfl rfl (P.puny.none _ (by simp)) boot_bytes nofun) (.cons (Ev.cstr rfl) .nil)) rfl rfl (Nat.le_refl 4) hP) (.inl rfl) ?_
  · rw [List.getElem?_map] at hv
    refine x1a2 (Option.map_eq_some_iff.mp hv) fun c hc e_0 => ?_; subst e_0
    refine x1a2 (nats_get hy) fun d hd e_0 => ?_; subst e_0
    rw [hc] at hd
    (have hd := Option.some.inj hd; subst hd)
    exact Ev.callB (.cons (Ev.name rfl) .nil) call_ord' rfl rfl (P.none _ (by simp)) boot_ord nofun
  · intro c hc
    have := (letters_ok c (h.letters c hc)).1
    (clear hlen; lia)
  have e2 : (strictL == strictL) = true := by decide
  unfold decOf at hr
  rw [e2, Bool.not_true, Bool.or_false] at hr
  cases r with
  | ok v =>
    cases hw : (lr name).2 with
    | false => rw [hw] at hr; cases hr
    | true =>
    rw [hw] at hr
    cases hr
    refine Ex.nil ?_
    refine Ex.ret (Ev.and_cons (Ev.name rfl) fun _ => Ev.and_one (Ev.cmp (Ev.name rfl) (Ev.name rfl) cmp_eq_str)) ?_
    show Except.ok _ = Except.ok _
    simp
  | error z =>
    cases hw : (lr name).2 with
    | true => rw [hw] at hr; cases hr
    | false =>
    rw [hw] at hr
    cases hr
    refine ⟨rfl, ⟨_, _, _, _, rfl⟩, ?_⟩
    refine ExH.of fun a => Ex.ret (v := .bool ((!false) && (((name.length : Int) == (name.length : Int)) && ((((name.length : Int) + 1) == ((name.length : Int) + 1)) && (incL == incL))))) (Ev.and_cons (Ev.not (Ev.name rfl) (tru_bool false)) fun _ => Ev.and_cons (Ev.cmp (Ev.start (Ev.name rfl)) (Ev.callA (.cons (Ev.name rfl) .nil) (call_len_strA (by lia)) rfl (P.puny.none _ (by simp)) boot_len nofun) cmp_eq_int) fun _ =>
      Ev.and_cons (Ev.cmp (Ev.stop (Ev.name rfl)) (Ev.binop (Ev.callA (.cons (Ev.name rfl) .nil) (call_len_strA (by lia)) rfl (P.puny.none _ (by simp)) boot_len nofun) Ev.cint bin_add_int) cmp_eq_int) fun _ => Ev.and_one (Ev.cmp (Ev.reason (Ev.name rfl)) (Ev.cstr (l := incL) rfl) cmp_eq_str)) ?_
    show Except.ok _ = Except.ok _
    simp
end
end Mine
namespace Mine
open PySem
variable [Lo]
omit [Lo] in
theorem readN_numl (bias : Int) (rest : List Nat) : ∀ (N j : Nat), readN bias j (numl bias j N ++ rest) = some ((numl bias j N).length, N) := by
  intro N
  induction N using Nat.strongRecOn with
  | ind N ih =>
    intro j
    have h1 := tN_ge j bias
    have h2 := tN_le j bias
    rw [numl_eq]
    split
    · rename_i h
      rw [List.cons_append, readN, if_pos h]; simp
    · rename_i h
      have h3 : (N - tN j bias) / (36 - tN j bias) ≤ N - tN j bias := Nat.div_le_self _ _
      have hlt : ¬ tN j bias + (N - tN j bias) % (36 - tN j bias) < tN j bias := by lia
      rw [List.cons_append, readN, if_neg hlt, ih _ (by (clear hlt h2; omega))]
      have hd := Nat.div_add_mod (N - tN j bias) (36 - tN j bias)
      simp only [Option.map_some, List.length_cons, Option.some.injEq, Prod.mk.injEq, true_and]
      omega
omit [Lo] in
theorem numl_lt (bias : Int) : ∀ (N j : Nat), ∀ d ∈ numl bias j N, d < 36 := by
  intro N
  induction N using Nat.strongRecOn with
  | ind N ih =>
    intro j d hd
    have h1 := tN_ge j bias
    have h2 := tN_le j bias
    rw [numl_eq] at hd
    split at hd
    · rename_i h
      have := List.mem_singleton.mp hd
      (clear h1; lia)
    · rename_i h
      have h3 : (N - tN j bias) / (36 - tN j bias) ≤ N - tN j bias := Nat.div_le_self _ _
      have h4 : (N - tN j bias) % (36 - tN j bias) < 36 - tN j bias := Nat.mod_lt _ (by (clear h3 h h1; omega))
      rcases List.mem_cons.mp hd with hd | hd
      · (clear h3 h2; omega)
      · exact ih _ (by (clear h4 h2; omega)) _ d hd
omit [Lo] in
theorem numl_short (bias : Int) : ∀ (k N j : Nat), N < 10 ^ k → (numl bias j N).length ≤ k + 1
  | 0, N, j, h => by
    have h1 := tN_ge j bias
    have : N = 0 := by simpa using h
    subst this
    rw [numl_eq]
    rw [dif_pos (by lia)]; simp
  | k + 1, N, j, h => by
    have h1 := tN_ge j bias
    have h2 := tN_le j bias
    rw [numl_eq]
    split
    · simp
    · have h3 : (N - tN j bias) / (36 - tN j bias) ≤ (N - tN j bias) / 10 := Nat.div_le_div_left (by (clear h1 h; lia)) (by (clear h; lia))
      have h4 : (N - tN j bias) / 10 < 10 ^ k := by rw [Nat.div_lt_iff_lt_mul (by (clear h3 h; lia))]; rw [Nat.pow_succ] at h; (clear h3 h2 h1; omega)
      have := numl_short bias k ((N - tN j bias) / (36 - tN j bias)) (j + 1) (by lia)
      simp only [List.length_cons]; lia
omit [Lo] in
theorem readN_lt (bias : Int) : ∀ (fs : List Nat) (j c n : Nat), (∀ d ∈ fs, d < 36) → readN bias j fs = some (c, n) → n < 36 ^ c
  | [], _, _, _, _, h => by simp [readN] at h
  | d :: fs, j, c, n, hf, h => by
    have h1 := tN_ge j bias
    have hd := hf d List.mem_cons_self
    unfold readN at h
    split at h
    · simp only [Option.some.injEq, Prod.mk.injEq] at h
      rw [← h.1, ← h.2]; omega
    · refine x1a2 (Option.map_eq_some_iff.mp h) fun t_0 h2 h3 => ?_; obtain ⟨c', n'⟩ := t_0
      simp only [Prod.mk.injEq] at h3
      have ih := readN_lt bias fs (j + 1) c' n' (fun d hd => hf d (List.mem_cons_of_mem _ hd)) h2
      rw [← h3.1, ← h3.2, Nat.pow_succ]
      have h4 : (36 - tN j bias) * n' ≤ 35 * n' := Nat.mul_le_mul_right _ (by omega)
      omega
end Mine
namespace Mine
open PySem
variable [Lo]
omit [Lo] in
theorem lrOk_end {fs : List Nat} {len char at_ bias p : Nat} (h : fs.length ≤ p) : lrOk fs len char at_ bias p := by
  rw [lrOk_eq]; rw [dif_neg (by lia)]; trivial
omit [Lo] in
theorem lrOk_step {fs : List Nat} {len char at_ bias p : Nat} (hf : ∀ d ∈ fs, d < 36)
    (h : ∀ c n, readN bias 0 (fs.drop p) = some (c, n) → 0 < c → p + c ≤ fs.length → n < 36 ^ c → char + (at_ + n) / (len + 1) ≤ 1114111 ∧ (if p == 0 then n / 700 else n / 2) + (if p == 0 then n / 700 else n / 2) / (len + 1) ≤ 455 ∧
      lrOk fs (len + 1) (char + (at_ + n) / (len + 1)) ((at_ + n) % (len + 1) + 1) (adp n (p == 0) (len + 1)) (p + c)) : lrOk fs len char at_ bias p := by
  rw [lrOk_eq]
  by_cases hp : p < fs.length
  · rw [dif_pos hp]
    cases hr : readN bias 0 (fs.drop p) with
    | none => trivial
    | some r =>
      obtain ⟨c, n⟩ := r
      dsimp only
      have hc := readN_le hr
      rw [List.length_drop] at hc
      have := h c n hr hc.1 (by omega) (readN_lt _ _ _ _ _ (fun d hd => hf d (List.mem_of_mem_drop hd)) hr)
      rw [dif_pos hc.1]
      exact this
  · rw [dif_neg hp]; trivial
omit [Lo] in
theorem readN_one {bias : Int} {j d n : Nat} {fs : List Nat} (h : readN bias j (d :: fs) = some (1, n)) : n = d ∧ d < tN j bias := by
  unfold readN at h
  split at h
  · simp at h; exact ⟨h.symm, by assumption⟩
  · refine x1a2 (Option.map_eq_some_iff.mp h) fun t_0 h2 h3 => ?_; obtain ⟨c', n'⟩ := t_0
    have := readN_le h2
    simp only [Prod.mk.injEq] at h3
    lia
omit [Lo] in
theorem readN_two {bias : Int} {j d e n : Nat} {fs : List Nat} (h : readN bias j (d :: e :: fs) = some (2, n)) : n = d + (36 - tN j bias) * e ∧ e < tN (j + 1) bias := by
  unfold readN at h
  split at h
  · simp at h
  · refine x1a2 (Option.map_eq_some_iff.mp h) fun t_0 h2 h3 => ?_; obtain ⟨c', n'⟩ := t_0
    simp only [Prod.mk.injEq] at h3
    have hc : c' = 1 := by lia
    subst hc
    have := readN_one h2
    rw [← this.1]
    exact ⟨h3.2.symm, this.1 ▸ this.2⟩
omit [Lo] in
theorem adp0 : adp 0 true 1 = 0 := by rw [adp_flat (by decide)]; decide
omit [Lo] in
theorem tN_72 : tN 0 72 = 1 := by decide
omit [Lo] in
theorem tN_0 : tN 0 0 = 26 ∧ tN 1 0 = 26 := by decide
omit [Lo] in
theorem lrOk_last {fs : List Nat} {len char at_ bias p : Nat} (hf : ∀ d ∈ fs, d < 36) (hp : p + 1 = fs.length) (hc : char ≤ 1000000) (ha : at_ ≤ 10) : lrOk fs len char at_ bias p := by
  refine lrOk_step hf fun c n hr h0 h1 hn => ?_
  have hc1 : c = 1 := by (clear hn ha hc; lia)
  subst hc1
  have hd : (at_ + n) / (len + 1) ≤ at_ + n := Nat.div_le_self _ _
  have h36 : n < 36 := by simpa using hn
  refine ⟨by (clear h1 hp; lia), ?_, lrOk_end (by (clear hd ha hc; lia))⟩
  have h2 : n / 700 / (len + 1) ≤ n / 700 := Nat.div_le_self _ _
  have h3 : n / 2 / (len + 1) ≤ n / 2 := Nat.div_le_self _ _
  split <;> omega
omit [Lo] in
theorem lrOk_small {fs : List Nat} (hf : ∀ d ∈ fs, d < 36) (hl : fs.length ≤ 3) : lrOk fs 0 128 0 72 0 := by
  refine lrOk_step hf fun c n hr h0 h1 hn => ?_
  rw [List.drop_zero] at hr
  have hnn : n < 46656 := Nat.lt_of_lt_of_le hn (Nat.le_trans (Nat.pow_le_pow_right (by decide) (show c ≤ 3 by (clear hn; lia))) (by decide))
  simp only [Nat.zero_add, Nat.div_one, Nat.mod_one, beq_self_eq_true, if_true] at h1 ⊢
  refine ⟨by (clear h1 hn hl; lia), by (clear h1 hn h0 hl; lia), ?_⟩
  by_cases hc1 : c = 1
  · subst hc1
    match fs, hr, hf, hl with
    | [], hr, _, _ => simp [readN] at hr
    | d :: fs, hr, hf, hl =>
      have h2 := readN_one hr
      rw [show ((72 : Nat) : Int) = 72 from rfl, tN_72] at h2
      have hn0 : n = 0 := by (clear h1 hl hn hnn; lia)
      subst hn0
      rw [adp0]
      simp only [List.length_cons] at hl
      by_cases hl1 : fs.length = 0
      · exact lrOk_end (by simp only [List.length_cons]; (clear h2 h1; lia))
      by_cases hl2 : fs.length = 1
      · exact lrOk_last hf (by simp only [List.length_cons]; (clear h2 h1; lia)) (by (clear h2 h1; lia)) (by (clear h2 h1; lia))
      refine lrOk_step hf fun c' n' hr' h0' h1' hn' => ?_
      simp only [List.drop_succ_cons, List.drop_zero] at hr'
      simp only [List.length_cons] at h1'
      have hb : n' ≤ 1295 := by
        have := Nat.lt_of_lt_of_le hn' (Nat.pow_le_pow_right (by decide) (show c' ≤ 2 by (clear hn' h1; lia)))
        (clear hn' h1' h2 h1 hl; lia)
      have hq : (1 + n') / (1 + 1) ≤ 1 + n' := Nat.div_le_self _ _
      have hm : (1 + n') % (1 + 1) < 1 + 1 := Nat.mod_lt _ (by decide)
      have e10 : (1 == 0) = false := rfl
      simp only [Nat.zero_add, e10, Bool.false_eq_true, if_false]
      by_cases hc' : c' = 1
      · subst hc'
        have : n' < 36 := by simpa using hn'
        refine ⟨by (clear this hn'; lia), by (clear h1' hm hq hb h2 h1 hl; lia), lrOk_last hf (by simp only [List.length_cons]; (clear hm hq h2 h1; lia)) (by (clear this hn'; lia)) (by (clear h1' hq h2 h1 hl; lia))⟩
      · have hc2 : c' = 2 := by (clear hm hq hn' h2 h1; lia)
        subst hc2
        match fs, hr', hf with
        | [], hr', _ => simp [readN] at hr'
        | [x], hr', _ => simp [readN] at hr'
        | x :: y :: r, hr', hf =>
          have h5 := readN_two hr'
          have hx := hf x (by simp)
          have t0 := tN_0
          rw [show ((0 : Nat) : Int) = 0 from rfl] at h5
          rw [t0.1] at h5
          have t1 : tN (0 + 1) 0 = 26 := t0.2
          rw [t1] at h5
          refine ⟨by (clear t1 t0 hx h5 h1' h1 hl hm h2; lia), by (clear t1 t0 h1' h1 hl hn' hm hq hb h2; lia), lrOk_end (by simp only [List.length_cons] at hl ⊢; (clear t0 hx h5 h1' h1 hn' hm hq hb h2; lia))⟩
  · by_cases hc2 : c = 2
    · subst hc2
      have : n < 1296 := by simpa using hn
      by_cases hl2 : fs.length = 2
      · exact lrOk_end (by lia)
      · exact lrOk_last hf (by lia) (by (clear this h1 hn hl; lia)) (by (clear h1 hl; lia))
    · exact lrOk_end (by (clear hnn hn; lia))
end Mine
namespace Mine
open PySem
variable [Lo]
omit [Lo] in
noncomputable def extra : Nat → Nat
  | 0 => 0
  | 1 => 37
  | 2 => 1297
  | _ => 46657
omit [Lo] in
theorem extra_step {m c : Nat} (h0 : 0 < c) (h1 : c ≤ m) (h2 : m ≤ 3) : 36 ^ c + extra (m - c) ≤ extra m := by
  have : ∀ m c : Fin 4, 0 < c.1 → c.1 ≤ m.1 → 36 ^ c.1 + extra (m.1 - c.1) ≤ extra m.1 := by decide
  exact this ⟨m, by lia⟩ ⟨c, by lia⟩ h0 h1
structure LrR (base : List Nat) (m M : Nat) (r : List Nat × Bool) : Prop where
  ge : ∀ c ∈ r.1, 128 ≤ c ∧ c ≤ M
  lo : base.length ≤ r.1.length
  hi : r.1.length ≤ base.length + m
  more : 0 < m → r.2 = true → base.length < r.1.length
omit [Lo] in
theorem mem_insAt {k x c : Nat} {l : List Nat} (h : c ∈ insAt k x l) : c = x ∨ c ∈ l := by
  unfold insAt at h
  rcases List.mem_append.mp h with h | h
  · exact .inr (List.mem_of_mem_take h)
  · rcases List.mem_cons.mp h with h | h
    · exact .inl h
    · exact .inr (List.mem_of_mem_drop h)
omit [Lo] in
theorem q_le {a n L : Nat} (h : a ≤ L + 1) : (a + n) / (L + 1) ≤ 1 + n := Nat.div_le_of_le_mul (by rw [Nat.mul_add, Nat.mul_one]; exact Nat.add_le_add h (Nat.le_mul_of_pos_left n (Nat.succ_pos L)))
theorem lrGo_facts {fs : List Nat} {M : Nat} (hf : ∀ d ∈ fs, d < 36) : ∀ (m p : Nat) (base : List Nat) (char at_ bias : Nat), fs.length - p = m → m ≤ 3 → (∀ c ∈ base, 128 ≤ c ∧ c ≤ M) → 128 ≤ char → char + extra m ≤ M → at_ ≤ base.length + 1 →
    LrR base m M (lrGo fs base char at_ bias p) := by
  intro m
  induction m using Nat.strongRecOn with
  | ind m ih =>
    intro p base char at_ bias hm h3 hb hc hM ha
    rw [lrGo_eq]
    by_cases hp : p < fs.length
    · rw [dif_pos hp]
      cases hr : readN bias 0 (fs.drop p) with
      | none => exact ⟨hb, Nat.le_refl _, Nat.le_add_right _ _, fun _ h => by exact ft h⟩
      | some r =>
        obtain ⟨c, n⟩ := r
        dsimp only
        have hcl := readN_le hr
        rw [List.length_drop, hm] at hcl
        have hn := readN_lt _ _ _ _ _ (fun d hd => hf d (List.mem_of_mem_drop hd)) hr
        rw [dif_pos hcl.1]
        have hx := extra_step hcl.1 hcl.2 h3
        have hq := q_le (n := n) ha
        have hmod : (at_ + n) % (base.length + 1) < base.length + 1 := Nat.mod_lt _ (Nat.succ_pos _)
        generalize (at_ + n) / (base.length + 1) = q at hq ⊢
        generalize (at_ + n) % (base.length + 1) = pos at hmod ⊢
        have hil : (insAt pos (char + q) base).length = base.length + 1 := insAt_len1 (Nat.le_of_lt_succ hmod)
        have hch : char + q + extra (m - c) ≤ M := Nat.le_trans (by rw [Nat.add_assoc]; exact Nat.add_le_add_left (Nat.le_trans (Nat.add_le_add_right (Nat.le_trans hq (Nat.add_comm n 1 ▸ hn)) _) hx) _) hM
        have hc' : 128 ≤ char + q := Nat.le_trans hc (Nat.le_add_right _ _)
        have this := ih (m - c) (Nat.sub_lt (Nat.lt_of_lt_of_le hcl.1 hcl.2) hcl.1) (p + c) (insAt pos (char + q) base) (char + q) (pos + 1) (adp n (p == 0) (base.length + 1)) (by rw [← hm, Nat.sub_sub]) (Nat.le_trans (Nat.sub_le _ _) h3)
          (fun d hd => (mem_insAt hd).elim (fun e => e ▸ ⟨hc', Nat.le_trans (Nat.le_add_right _ _) hch⟩) (hb d)) hc' hch (hil ▸ Nat.succ_le_succ (Nat.le_of_lt hmod))
        generalize lrGo fs (insAt pos (char + q) base) (char + q) (pos + 1) (adp n (p == 0) (base.length + 1)) (p + c) = r at this
        have g2 := this.lo
        have g3 := this.hi
        rw [hil] at g2 g3
        exact ⟨this.ge, Nat.le_trans (Nat.le_succ _) g2, Nat.le_trans g3 (by rw [Nat.add_assoc]; exact Nat.add_le_add_left (Nat.le_trans (Nat.add_le_add_right hcl.1 _) (Nat.le_of_eq (Nat.add_sub_cancel' hcl.2))) _), fun _ _ => g2⟩
    · rw [dif_neg hp]
      exact ⟨hb, Nat.le_refl _, Nat.le_add_right _ _, fun h => absurd (hm ▸ h : 0 < fs.length - p) (Nat.not_lt.mpr (Nat.le_of_eq (Nat.sub_eq_zero_of_le (Nat.not_lt.mp hp))))⟩
omit [Lo] in
structure NmGood (n : List Nat) : Prop where
  ne : n ≠ []
  len : n.length ≤ 3
  letters : ∀ c ∈ n, c ∈ lettersL
omit [Lo] in
theorem figs_lt (n : List Nat) : ∀ d ∈ n.map fig, d < 36 := fun d hd => by refine x1a2 (List.mem_map.mp hd) fun c _ e_0 => ?_; subst e_0; exact fig_lt c
omit [Lo] in
theorem NmGood.ok {n : List Nat} (h : NmGood n) : NmOk n := ⟨h.letters, by have := h.len; lia, lrOk_small (figs_lt n) (by rw [List.length_map]; exact h.len)⟩
theorem NmGood.lr {n : List Nat} (h : NmGood n) : (∀ c ∈ (lr n).1, 128 ≤ c ∧ c ≤ 46785) ∧ (lr n).1.length ≤ n.length ∧ ((Mine.lr n).2 = true → (Mine.lr n).1 ≠ []) := by
  have hl : (n.map fig).length = n.length := List.length_map ..
  have hlen := h.len
  have hx : extra n.length ≤ 46657 := by
    have : ∀ m : Fin 4, extra m.1 ≤ 46657 := by decide
    exact this ⟨n.length, by (clear hl; lia)⟩
  obtain ⟨g1, g2, g3, g4⟩ := lrGo_facts (M := 46785) (figs_lt n) n.length 0 [] 128 0 72 (by rw [hl]; rfl) hlen (by simp) (Nat.le_refl _) (by lia) (by simp)
  refine ⟨g1, by have := g3; simp only [List.length_nil, Nat.zero_add] at this; exact this, fun hw => ?_⟩
  have := g4 (List.length_pos_iff.mpr h.ne) hw
  exact List.length_pos_iff.mp this
omit [Lo] in
theorem dig_ok : ∀ d : Fin 36, dig d.1 ∈ lettersL ∧ fig (dig d.1) = d.1 ∧ ((97 ≤ dig d.1 ∧ dig d.1 ≤ 122) ∨ (48 ≤ dig d.1 ∧ dig d.1 ≤ 57)) := by decide +kernel
omit [Lo] in
theorem fig_dig {l : List Nat} (h : ∀ d ∈ l, d < 36) : (l.map dig).map fig = l := by
  rw [List.map_map]
  conv => rhs; rw [← List.map_id l]
  exact List.map_congr_left fun d hd => (dig_ok ⟨d, h d hd⟩).2.1
theorem num_facts {N : Nat} (h : N ≤ 100000) : NmOk ((numl 72 0 N).map dig) ∧ lr ((numl 72 0 N).map dig) = ([128 + N], true) ∧ ∀ o ∈ (numl 72 0 N).map dig, (97 ≤ o ∧ o ≤ 122) ∨ (48 ≤ o ∧ o ≤ 57) := by
  have hlt := numl_lt 72 N 0
  have hfd := fig_dig hlt
  have hlen : (numl 72 0 N).length ≤ 7 := numl_short 72 6 N 0 (by lia)
  have hr := readN_numl 72 [] N 0
  rw [List.append_nil] at hr
  have h0 : 0 < (numl 72 0 N).length := (readN_le hr).1
  have hr' : readN ((72 : Nat) : Int) 0 ((numl 72 0 N).drop 0) = some ((numl 72 0 N).length, N) := by rw [List.drop_zero]; exact hr
  have hmem : ∀ o ∈ (numl 72 0 N).map dig, ∃ d : Fin 36, o = dig d.1 := fun o ho => by
    refine x1a2 (List.mem_map.mp ho) fun d hd e_0 => ?_; subst e_0
    exact ⟨⟨d, hlt d hd⟩, rfl⟩
  refine ⟨⟨fun o ho => ?_, by rw [List.length_map]; (clear h0; lia), ?_⟩, ?_, fun o ho => ?_⟩
  · refine x1a1 (hmem o ho) fun d e_0 => ?_; subst e_0; exact (dig_ok d).1
  · rw [hfd]
    rw [lrOk_eq]
    rw [dif_pos h0, hr']
    dsimp only
    rw [dif_pos h0]
    simp only [Nat.zero_add, Nat.div_one, beq_self_eq_true, if_true]
    exact ⟨by lia, by lia, lrOk_end (Nat.le_refl _)⟩
  · unfold lr
    rw [hfd, lrGo_eq, dif_pos h0, hr']
    dsimp only
    rw [dif_pos h0, Nat.zero_add, lrGo_eq, dif_neg (by lia)]
    simp only [List.length_nil, Nat.zero_add, Nat.div_one, Nat.mod_one, insAt, List.take_nil, List.drop_nil, List.nil_append]
  · refine x1a1 (hmem o ho) fun d e_0 => ?_; subst e_0; exact (dig_ok d).2.2
end Mine
namespace Mine
open PySem PySem.Calls PySem.W PyProof.Rows
variable [Lo]
omit [Lo] in
noncomputable def putS : List (List Nat × List Nat) → List Nat → List Nat → List (List Nat × List Nat)
  | [], k, v => [(k, v)]
  | p :: D, k, v => if p.1 = k then (k, v) :: D else p :: putS D k v
omit [Lo] in
theorem putL_sdv (k v : List Nat) : ∀ D, putL (sdv D) k (.str v) = sdv (putS D k v)
  | [] => rfl
  | p :: D => by
    show (if p.1 = k then (k, AV.str v) :: sdv D else (p.1, AV.str p.2) :: putL (sdv D) k (.str v)) = sdv (if p.1 = k then (k, v) :: D else p :: putS D k v)
    split
    · rfl
    · rw [putL_sdv k v D]; rfl
omit [Lo] in
theorem sdv_len (D : List (List Nat × List Nat)) : (sdv D).length = D.length := by simp
omit [Lo] in
theorem putS_len (k v : List Nat) : ∀ D, (putS D k v).length ≤ D.length + 1
  | [] => Nat.le_refl _
  | p :: D => by
    unfold putS
    split
    · simp
    · have := putS_len k v D; simp only [List.length_cons]; lia
noncomputable def knStep (d : List (List Nat × List Nat)) (n : List Nat) : List (List Nat × List Nat) := if (lr n).2 then putS d n (lr n).1 else d
noncomputable def knS (names : List (List Nat)) : List (List Nat × List Nat) := names.foldl knStep []
theorem knGo_len (names : List (List Nat)) : ∀ d, (names.foldl knStep d).length ≤ d.length + names.length := by
  induction names with
  | nil => intro d; simp
  | cons n names ih =>
    intro d
    have h1 := ih (knStep d n)
    have h2 : (knStep d n).length ≤ d.length + 1 := by
      unfold knStep; split
      · exact putS_len _ _ _
      · (clear h1; lia)
    simp only [List.foldl_cons, List.length_cons]
    lia
theorem knS_len (names : List (List Nat)) : (knS names).length ≤ names.length := by have := knGo_len names []; simpa [knS] using this
theorem knS_take {names : List (List Nat)} {k : Nat} {n : List Nat} (h : names[k]? = some n) : knS (names.take (k + 1)) = knStep (knS (names.take k)) n := by
  unfold knS
  rw [List.take_succ, h]
  simp [List.foldl_append]
omit [Lo] in
theorem strs_get {l : List (List Nat)} {k : Nat} {v : AV} (h : (AV.strs l)[k]? = some v) : ∃ n, l[k]? = some n ∧ v = .str n := by
  unfold AV.strs at h
  rw [List.getElem?_map] at h
  refine x1a2 (Option.map_eq_some_iff.mp h) fun n h1 h2 => ?_
  exact ⟨n, h1, h2.symm⟩
section
variable {prog : Program} {w : World} {G : Pg}
set_option maxHeartbeats 1000000
set_option maxRecDepth 4000
theorem walk_known (P : PreG G) {names : List (List Nat)} (h : ∀ n ∈ names, NmOk n) (hl : names.length ≤ 100) : FSpec prog w G 5 "_law_known" [.list (AV.strs names)] (.ok (.dict (sdv (knS names)))) := by
  refine x4a1 (P.known) fun a pm cd doc hf => ?_
  refine x4a1 (P.read.read) fun aR pmR cdR docR hR => ?_
  refine FSpec.of hf (body := bodyOf stLKnown) (ps := ["names"]) rfl (.plain fun vals hv => ?_) (fun A L T s B fr => ?_)
  · refine x1a1 (len1 hv) fun a e_0 => ?_; subst e_0; rfl
  refine Ex.assign_own EvN.dict0 (.inl rfl) fun b => ?_
  refine Ex.forN fcx_top (EvI.list (Ev.name rfl) rfl) (.inl rfl) (P := List (List Nat × List Nat)) (fun d => [("names", ⟨none, .list (AV.strs names)⟩), ("known", ⟨some b, .dict (sdv d)⟩)]) (fun k d => d = knS (names.take k)) (fun k v d hv hi => ?_) (fun d hi => ?_) [] rfl ⟨rfl, rfl, trivial⟩
  · refine x1a2 (strs_get hv) fun n hn e_0 => ?_; subst e_0
    subst hi
    have hok := h n (List.mem_of_getElem? hn)
    have hdl := knS_len (names.take k)
    have htl : (names.take k).length ≤ names.length := by rw [List.length_take]; lia
    refine Ex.assignT (xs := ["laid", "whole"]) (EvX.ev (EvX.call (walk_read P.read hok.len hok.rd) (.cons (Ev.name rfl) .nil) rfl rfl (Nat.le_of_ble_eq_true rfl) hR)) (.cons (.inl rfl) (.cons (.inl rfl) .nil)) rfl ?_
    have e1 : lrGo (n.map fig) [] 128 0 72 0 = lr n := rfl
    rw [e1]
    refine Ex.ite (Te.value (Ev.name rfl) (tru_bool _)) (fun hb => ?_) (fun hb => Ex.nil (Ex.nil ?_))
    · refine Ex.setitem (x := "known") rfl (Ev.name rfl) (Ev.name rfl) (set_dict (by rw [sdv_len]; lia)) (Ex.nil (Ex.nil ?_))
      rw [putL_sdv]
      refine ⟨_, Sto.sub_of ⟨rfl, rfl, trivial⟩, ?_⟩
      rw [knS_take hn]; unfold knStep; rw [hb]; rfl
    · refine ⟨_, Sto.sub_of ⟨rfl, rfl, trivial⟩, ?_⟩
      rw [knS_take hn]; unfold knStep; rw [hb]; rfl
  · subst hi
    refine Ex.nil (ExT.freeze (x := "known") rfl (Ex.ret (Ev.name rfl) ?_))
    rw [strs_len, List.take_length]; rfl
end
end Mine
namespace Mine
open PySem PySem.Calls PySem.W PyProof.Rows
variable [Lo]
omit [Lo] in
noncomputable abbrev stLDraw := topOf 14
omit [Lo] in
noncomputable def tdaN : List Nat := [116, 100, 97]
omit [Lo] in
noncomputable def ampN : List Nat := [97, 109, 112]
omit [Lo] in
noncomputable def ltN : List Nat := [108, 116]
omit [Lo] in
noncomputable def gtN : List Nat := [103, 116]
omit [Lo] in
noncomputable def baN : List Nat := [98, 97]
omit [Lo] in
noncomputable def piecesL : List (List Nat) := [[38, 97, 109, 112, 59], [38, 108, 116, 59], [38, 103, 116, 59], [38], [59], [97, 109, 112, 59], [108, 116, 59], [116, 100, 97, 59], [60], [45], [38, 38], [38, 35, 97, 59]]
omit [Lo] in
noncomputable def names0 : Nat → List (List Nat)
  | 0 => [tdaN]
  | 1 => [ampN]
  | _ => [ltN, baN]
omit [Lo] in
noncomputable def pl (p : Int) : Nat := lettersL.getD (p % 62).toNat 0
omit [Lo] in
noncomputable def szOf (q : Int) : Nat := [3, 2, 3, 1].getD (q % 4).toNat 0
omit [Lo] in
noncomputable def nmOf (q : Int) : List Nat := [pl (q / 4), pl (q / 4 / 62), pl (q / 4 / 3844)].take (szOf q)
omit [Lo] in
noncomputable def drStep (st : List (List Nat) × List Nat) (n : Int) : List (List Nat) × List Nat :=
  if n % 4 = 0 then (if st.1.contains (nmOf (n / 4)) then st.1 else st.1 ++ [nmOf (n / 4)], st.2 ++ refL (nmOf (n / 4)))
  else if n % 4 = 1 then (st.1, st.2 ++ refL (st.1.getD (n / 4 % st.1.length).toNat []))
  else if n % 4 = 2 then (st.1, st.2 ++ piecesL.getD (n / 4 % 12).toNat [])
  else (st.1, st.2 ++ [(128 + n / 4 % 31886).toNat])
omit [Lo] in
noncomputable def dr0 (m : Nat) : List (List Nat) × List Nat := (names0 (m % 3), ((names0 (m % 3)).map refL).flatten ++ (ltL ++ ampL))
omit [Lo] in
noncomputable def drGo (ns : List Int) : List (List Nat) × List Nat := (ns.take 8).foldl drStep (dr0 ns.length)
omit [Lo] in
theorem cutL_nat {α : Type} {l : List α} {i : Nat} : cutL none (some (i : Int)) l = l.take i := by
  by_cases h : i ≤ l.length
  · exact cutL_take h
  · have : clipAt l.length (i : Int) = l.length := clipAt_big (Nat.le_of_lt (Nat.not_le.mp h))
    unfold cutL
    simp only [Option.elim_none, Option.elim_some, this, List.drop_zero, Nat.sub_zero]
    rw [List.take_of_length_le (Nat.le_refl _), List.take_of_length_le (by omega)]
omit [Lo] in
structure DrInv (k : Nat) (st : List (List Nat) × List Nat) : Prop where
  ne : st.1 ≠ []
  len : st.1.length ≤ 2 + k
  short : ∀ n ∈ st.1, n.length ≤ 3
  doc : st.2.length ≤ 30 + 10 * k
omit [Lo] in
theorem nmOf_len (q : Int) : (nmOf q).length ≤ 3 := by unfold nmOf; rw [List.length_take]; simp; lia
omit [Lo] in
theorem getD_mem {l : List (List Nat)} {i : Nat} (h : i < l.length) : l.getD i [] ∈ l := by
  simp [List.getD, List.getElem?_eq_getElem h]
omit [Lo] in
theorem pieces_len (i : Nat) : (piecesL.getD i []).length ≤ 5 := by
  by_cases h : i < 12
  · have : ∀ i : Fin 12, (piecesL.getD i.1 []).length ≤ 5 := by decide +kernel
    exact this ⟨i, h⟩
  · have : piecesL.length = 12 := by decide
    simp [List.getD, List.getElem?_eq_none (show piecesL.length ≤ i by lia)]
omit [Lo] in
theorem mod_in {l : List (List Nat)} (h : l ≠ []) (q : Int) : (q % l.length).toNat < l.length ∧ 0 ≤ q % l.length := by
  have h0 : (0 : Int) < l.length := by have := List.length_pos_iff.mpr h; omega
  have := Int.emod_lt_of_pos q h0
  have := Int.emod_nonneg q (Int.ne_of_gt h0)
  omega
omit [Lo] in
theorem drStep_inv {k : Nat} {st : List (List Nat) × List Nat} (h : DrInv k st) (n : Int) : DrInv (k + 1) (drStep st n) := by
  obtain ⟨h1, h2, h3, h4⟩ := h
  have hn := nmOf_len (n / 4)
  unfold drStep
  split
  · refine ⟨?_, ?_, ?_, ?_⟩
    · dsimp only; split
      · exact h1
      · simp
    · dsimp only; split
      · lia
      · simp; lia
    · dsimp only; split
      · exact h3
      · intro m hm
        rcases List.mem_append.mp hm with hm | hm
        · exact h3 m hm
        · rw [List.mem_singleton.mp hm]; exact hn
    · dsimp only; rw [List.length_append, refL_len]; lia
  · split
    · have := h3 _ (getD_mem (mod_in h1 (n / 4)).1)
      refine ⟨h1, by dsimp only; lia, h3, ?_⟩
      dsimp only; rw [List.length_append, refL_len]; lia
    · split
      · have := pieces_len (n / 4 % 12).toNat
        refine ⟨h1, by dsimp only; lia, h3, ?_⟩
        dsimp only; rw [List.length_append]; lia
      · refine ⟨h1, by dsimp only; (clear hn; lia), h3, ?_⟩
        dsimp only; rw [List.length_append]; simp; (clear hn h2; lia)
omit [Lo] in
theorem names0_inv (m : Nat) : DrInv 0 (dr0 m) := by
  have : ∀ r : Fin 3, (names0 r.1 ≠ [] ∧ (names0 r.1).length ≤ 2 ∧ (∀ n ∈ names0 r.1, n.length ≤ 3) ∧ (((names0 r.1).map refL).flatten ++ (ltL ++ ampL)).length ≤ 30) := by decide
  have h := this ⟨m % 3, Nat.mod_lt _ (by decide)⟩
  exact ⟨h.1, by have := h.2.1; dsimp only at this ⊢; unfold dr0; dsimp only; omega, h.2.2.1, h.2.2.2⟩
omit [Lo] in
theorem strs_at {l : List (List Nat)} {i : Int} (h0 : 0 ≤ i) (h : i.toNat < l.length) : (AV.strs l)[i.toNat]? = some (.str (l.getD i.toNat [])) := by
  unfold AV.strs
  rw [List.getElem?_map, List.getElem?_eq_getElem h]
  simp [List.getD, List.getElem?_eq_getElem h]
omit [Lo] in
theorem sumB {a b : Nat} (h1 : a ≤ 10000) (h2 : b ≤ 10000) : a + b ≤ 16777216 := Nat.le_trans (Nat.add_le_add h1 h2) (by decide)
omit [Lo] in
theorem refB {n : List Nat} (h : n.length ≤ 100) : (refL n).length ≤ 102 := by unfold refL; simp; exact h
theorem Ev.refd {X : Cx} {σ : Sto} {e : Expr} {n : List Nat} {k1 k2 : Nat} {p1 p2 p3 p4 : Pos} (h : Ev X e σ (.str n)) (hn : n.length ≤ 100) : Ev X (.BinOp (.BinOp (.Constant (.str ("&" : Str)) k1 p1) .Add e p3) .Add (.Constant (.str (";" : Str)) k2 p2) p4) σ (.str (refL n)) :=
  Ev.binop (Ev.binop (Ev.cstr (l := [38]) rfl) h (bin_add_str (sumB (by decide) (Nat.le_trans hn (by decide))))) (Ev.cstr (l := [59]) rfl) (bin_add_str (sumB (Nat.le_trans (Nat.succ_le_succ hn : n.length + 1 ≤ 101) (by decide)) (by decide)))
omit [Lo] in
theorem m62 (x : Int) : 0 ≤ x % 62 ∧ x % 62 < (lettersL.length : Nat) := ⟨Int.emod_nonneg x (by decide), Int.emod_lt_of_pos x (by decide)⟩
omit [Lo] in
theorem l62 : lettersL.length ≤ 1099511627776 := by decide
omit [Lo] in
noncomputable abbrev stW (bn : Addr) (names : List (List Nat)) (doc : List Nat) : Sto := [("letters", ⟨none, .str lettersL⟩), ("pieces", ⟨none, .list (AV.strs piecesL)⟩), ("names", ⟨some bn, .list (AV.strs names)⟩), ("doc", ⟨none, .str doc⟩)]
omit [Lo] in
theorem nm_at (n : Nat) : ([.list [.str tdaN], .list [.str ampN], .list [.str ltN, .str baN]] : List AV)[((n : Int) % 3).toNat]? = some (.list (AV.strs (names0 (n % 3)))) := by
  rw [show ((n : Int) % 3).toNat = n % 3 from rfl]
  have h : n % 3 = 0 ∨ n % 3 = 1 ∨ n % 3 = 2 := by omega
  rcases h with h | h | h <;> rw [h] <;> rfl
omit [Lo] in
theorem sz_at (q : Int) : ([.int 3, .int 2, .int 3, .int 1] : List AV)[(q % 4).toNat]? = some (.int (szOf q : Nat)) := by
  have h4 : (q % 4).toNat = 0 ∨ (q % 4).toNat = 1 ∨ (q % 4).toNat = 2 ∨ (q % 4).toNat = 3 := by omega
  unfold szOf
  rcases h4 with h | h | h | h <;> rw [h] <;> rfl
omit [Lo] in
theorem pc_at (q : Int) : 0 ≤ q % 12 ∧ (AV.strs piecesL)[(q % 12).toNat]? = some (.str (piecesL.getD (q % 12).toNat [])) :=
  have h : 0 ≤ q % 12 := Int.emod_nonneg q (by decide)
  ⟨h, strs_at h (by show _ < 12; omega)⟩
omit [Lo] in
theorem sg_in (q : Int) : 0 ≤ 128 + q % 31886 ∧ 128 + q % 31886 ≤ 1114111 := by omega
section
variable {prog : Program} {w : World} {G : Pg}
set_option maxHeartbeats 400000
set_option maxRecDepth 8000
theorem walk_draw (P : PreG G) (hd : FnIs G "_law_draw" stLDraw) {ns : List Int} (hl : ns.length ≤ 63) :
    FSpec prog w G 1 "_law_draw" [.list (AV.ints ns)] (.ok (.tup [.list (AV.strs (drGo ns).1), .str (drGo ns).2])) := by
  refine x4a1 hd fun a pm cd doc hf => ?_; (try clear hd)
  refine FSpec.of hf (body := bodyOf stLDraw) (ps := ["script"]) rfl (.plain fun vals hv => ?_) (fun A L T s B fr => ?_)
  · refine x1a1 (len1 hv) fun a e_0 => ?_; subst e_0; rfl
  refine Ex.assign (Ev.cstr (l := lettersL) rfl) (.inl rfl) ?_
  refine @Ex.assign _ _ _ _ _ _ _ _ _ (.list (AV.strs piecesL)) ?_ (.inl rfl) ?_ rfl
  · exact @Ev.list _ _ _ _ _ _ (@EvL.cons _ _ _ _ _ _ _ (Ev.cstr (l := [38, 97, 109, 112, 59]) rfl) (@EvL.cons _ _ _ _ _ _ _ (Ev.cstr (l := [38, 108, 116, 59]) rfl) (@EvL.cons _ _ _ _ _ _ _ (Ev.cstr (l := [38, 103, 116, 59]) rfl) (@EvL.cons _ _ _ _ _ _ _ (Ev.cstr (l := [38]) rfl) (@EvL.cons _ _ _ _ _ _ _ (Ev.cstr (l := [59]) rfl) (@EvL.cons _ _ _ _ _ _ _ (Ev.cstr (l := [97, 109, 112, 59]) rfl) (@EvL.cons _ _ _ _ _ _ _ (Ev.cstr (l := [108, 116, 59]) rfl) (@EvL.cons _ _ _ _ _ _ _ (Ev.cstr (l := [116, 100, 97, 59]) rfl) (@EvL.cons _ _ _ _ _ _ _ (Ev.cstr (l := [60]) rfl) (@EvL.cons _ _ _ _ _ _ _ (Ev.cstr (l := [45]) rfl) (@EvL.cons _ _ _ _ _ _ _ (Ev.cstr (l := [38, 38]) rfl) (@EvL.cons _ _ _ _ _ _ _ (Ev.cstr (l := [38, 35, 97, 59]) rfl) .nil rfl) rfl) rfl) rfl) rfl) rfl) rfl) rfl) rfl) rfl) rfl) rfl) (Nat.le_of_ble_eq_true rfl)
  have hil : (AV.ints ns).length = ns.length := ints_len ns
  refine @Ex.assign_own _ _ _ _ _ _ _ _ _ (.list (AV.strs (names0 (ns.length % 3)))) ?h (.inl rfl) (fun bn => ?_) rfl
  case h =>
    refine @EvN.pick _ _ _ _ _ _ _ [.list [.str tdaN], .list [.str ampN], .list [.str ltN, .str baN]] ((ns.length : Int) % 3) _ ?_ ?_ (by (clear hil; lia)) ?_ (by simp) ?_
    · exact (@EvLN.cons _ _ _ _ _ _ _ (@EvN.list _ _ _ _ _ _ (@EvL.cons _ _ _ _ _ _ _ (Ev.cstr (l := tdaN) rfl) .nil rfl) (Nat.le_of_ble_eq_true rfl)) (@EvLN.cons _ _ _ _ _ _ _ (@EvN.list _ _ _ _ _ _ (@EvL.cons _ _ _ _ _ _ _ (Ev.cstr (l := ampN) rfl) .nil rfl) (Nat.le_of_ble_eq_true rfl)) (@EvLN.cons _ _ _ _ _ _ _ (@EvN.list _ _ _ _ _ _ (@EvL.cons _ _ _ _ _ _ _ (Ev.cstr (l := ltN) rfl) (@EvL.cons _ _ _ _ _ _ _ (Ev.cstr (l := baN) rfl) .nil rfl) rfl) (Nat.le_of_ble_eq_true rfl)) .nil rfl) rfl) rfl)
    · rw [← hil]
      exact Ev.binop (Ev.callB (.cons (Ev.name rfl) .nil) (call_len_list' (by lia)) rfl rfl (P.none _ (by simp)) boot_len nofun) Ev.cint (bin_mod_int (by decide))
    · exact nm_at ns.length
    · intro _ _; rfl
  obtain ⟨h0a, h0b, h0c, h0d⟩ := names0_inv ns.length
  have hfl : ((names0 (ns.length % 3)).map refL).flatten.length ≤ 30 := by
    have : (((names0 (ns.length % 3)).map refL).flatten ++ (ltL ++ ampL)).length ≤ 30 := h0d
    rw [List.length_append] at this
    lia
  refine @Ex.assign _ _ _ _ _ _ _ _ _ (.str (((names0 (ns.length % 3)).map refL).flatten ++ (ltL ++ ampL))) ?h (.inl rfl) ?_ rfl
  case h =>
    refine Ev.binop (Ev.join (l := (names0 (ns.length % 3)).map refL) (Ev.o (EvN.ev (EvN.mapCO (σc := []) (ys := AV.strs ((names0 (ns.length % 3)).map refL)) (EvIC.own rfl rfl) ⟨rfl, rfl, by decide, by decide, rfl⟩ .nil rfl (by rw [strs_len, strs_len, List.length_map]) (by rw [strs_len]; have : (names0 (ns.length % 3)).length ≤ 2 + 0 := h0b; lia) (fun C D T₁ s₁ k v y hv hy => ?_)) ⟨fun _ q => (by cases q), fun q => (by cases q)⟩)) (by lia) rfl) (Ev.cstr (l := ltL ++ ampL) rfl) (bin_add_str (by have : (ltL ++ ampL).length = 9 := rfl; lia))
    refine x1a2 (strs_get hv) fun n hn e_0 => ?_; subst e_0
    refine x1a2 (strs_get hy) fun m hm e_0 => ?_; subst e_0
    rw [List.getElem?_map, hn] at hm
    (have hm := Option.some.inj hm; subst hm)
    exact Ev.refd (Ev.name rfl) (Nat.le_trans (h0c n (List.mem_of_getElem? hn)) (by decide))
  have hcut : cutL none (some (8 : Int)) (AV.ints ns) = (ns.take 8).map .int := by
    have := cutL_nat (l := AV.ints ns) (i := 8)
    rw [show ((8 : Nat) : Int) = 8 from rfl] at this
    rw [this]; unfold AV.ints; rw [List.map_take]
  refine Ex.forNR fcx_top (EvI.list (Ev.to (Ev.slice (Ev.name rfl) .none (.some Ev.cint) (slice_list (by rw [hil]; exact Nat.le_trans hl (by decide)))) (congrArg AV.list hcut)) rfl) (.inl rfl) (P := List (List Nat) × List Nat) (fun st => stW bn st.1 st.2)
    (fun k st => st = ((ns.take 8).take k).foldl drStep (dr0 ns.length) ∧ DrInv k st) (fun k v st hv hi => ?_) (fun st hi => ?_) (dr0 ns.length) ⟨rfl, names0_inv _⟩ ⟨rfl, rfl, rfl, rfl, trivial⟩
  · intro R hN hO
    refine x0a2 hi fun hst hinv => ?_; (try clear hi)
    rw [List.getElem?_map] at hv
    refine x1a2 (Option.map_eq_some_iff.mp hv) fun n hn e_0 => ?_; subst e_0
    have hk8 : k < 8 := by
      have := (List.getElem?_eq_some_iff.mp hn).1
      rw [List.length_take] at this; exact Nat.lt_of_lt_of_le this (Nat.min_le_left _ _)
    have hstep : ((ns.take 8).take (k + 1)).foldl drStep (dr0 ns.length) = drStep st n := by
      rw [List.take_add_one, hn, hst]; simp [List.foldl_append]
    have hnext := drStep_inv hinv n
    clear hst hn hv hcut hil hl hfl h0a h0b h0c h0d
    have hne := hinv.ne
    have hnl : (AV.strs st.1).length = st.1.length := strs_len _
    have hlen : st.1.length ≤ 1000 := Nat.le_trans hinv.len (Nat.le_trans (Nat.add_le_add_left (Nat.le_of_lt hk8) 2) (by decide))
    have hdb : st.2.length ≤ 1000 := Nat.le_trans hinv.doc (Nat.le_trans (Nat.add_le_add_left (Nat.mul_le_mul_left 10 (Nat.le_of_lt hk8)) 30) (by decide))
    have hshort := hinv.short
    clear hinv
    have fin : ∀ nm dc, drStep st n = (nm, dc) → ∀ σ, Sto.subB (stW bn nm dc) σ → R .next σ := fun nm dc e σ hs => hN (nm, dc) σ hs ⟨(hstep.trans e).symm, e ▸ hnext⟩
    clear hN hO hstep hnext
    have hdb' : st.2.length ≤ 10000 := Nat.le_trans hdb (by decide)
    refine Ex.assignS (xs := ["way", "rest"]) (Ev.tuple (.cons (Ev.binop (Ev.name rfl) Ev.cint (bin_mod_int (by decide))) (.cons (Ev.binop (Ev.name rfl) Ev.cint (bin_div_int (by decide) (by decide))) .nil)) (Nat.le_of_ble_eq_true rfl)) (.cons (.inl rfl) (.cons (.inl rfl) .nil)) rfl ?_
    refine Ex.ite (Te.cmp (Ev.name rfl) Ev.cint cmp_eq_int) (fun h => ?_) (fun h => ?_)
    · have h : n % 4 = 0 := eq_of_beq h
      have hrb : ∀ m, (nmOf m).length ≤ 100 := fun m => Nat.le_trans (nmOf_len m) (by decide)
      have hst0 : drStep st n = (if st.1.contains (nmOf (n / 4)) then st.1 else st.1 ++ [nmOf (n / 4)], st.2 ++ refL (nmOf (n / 4))) := if_pos h
      generalize n / 4 = q at hst0 ⊢
      refine Ex.assignS (xs := ["size", "place"]) (vs := [.int (szOf q : Nat), .int (q / 4)]) (Ev.tuple (.cons (Ev.index (Ev.list (xs := [.int 3, .int 2, .int 3, .int 1]) (.cons Ev.cint (.cons Ev.cint (.cons Ev.cint (.cons Ev.cint .nil)))) (Nat.le_of_ble_eq_true rfl)) (Ev.binop (Ev.name rfl) Ev.cint (bin_mod_int (by decide))) (get_list (Int.emod_nonneg q (by decide)) (sz_at q) (by decide)))
        (.cons (Ev.binop (Ev.name rfl) Ev.cint (bin_div_int (by decide) (by decide))) .nil)) (Nat.le_of_ble_eq_true rfl)) (.cons (.inl rfl) (.cons (.inl rfl) .nil)) rfl ?_
      refine Ex.assign (v := .str (nmOf q)) (Ev.to (Ev.slice (Ev.binop (Ev.binop (Ev.index (Ev.name rfl) (Ev.binop (Ev.name rfl) Ev.cint (bin_mod_int (by decide))) (get_str (m62 _).1 (m62 _).2 l62)) (Ev.index (Ev.name rfl) (Ev.binop (Ev.binop (Ev.name rfl) Ev.cint (bin_div_int (by decide) (by decide))) Ev.cint (bin_mod_int (by decide))) (get_str (m62 _).1 (m62 _).2 l62)) (bin_add_str (Nat.le_of_ble_eq_true rfl)))
          (Ev.index (Ev.name rfl) (Ev.binop (Ev.binop (Ev.name rfl) Ev.cint (bin_div_int (by decide) (by decide))) Ev.cint (bin_mod_int (by decide))) (get_str (m62 _).1 (m62 _).2 l62)) (bin_add_str (Nat.le_of_ble_eq_true rfl))) .none (.some (Ev.name rfl)) (slice_str (Nat.le_of_ble_eq_true rfl))) (congrArg AV.str cutL_nat)) (.inl rfl) ?_
      have hd2 := sumB hdb' (Nat.le_trans (refB (hrb q)) (by decide))
      refine Ex.ite (Te.cmpO (Ev.o (Ev.name rfl)) (EvO.own rfl) notin_list_strs') (fun hc => ?_) (fun hc => Ex.nil ?_)
      · have hc : st.1.contains (nmOf q) = false := by simpa using hc
        rw [if_neg (by rw [hc]; decide)] at hst0
        refine Ex.mut (x := "names") (av := .list (AV.strs st.1)) (av' := .list (AV.strs (st.1 ++ [nmOf q]))) rfl meth_append (.cons (Ev.name rfl) .nil) (MutG.to (mut_append (by rw [hnl]; exact Nat.le_trans hlen (by decide))) (by unfold AV.strs; simp)) rfl (Ex.nil ?_)
        exact Ex.aug rfl (Ev.refd (Ev.name rfl) (hrb q)) (inp_add_str hd2) (.inl rfl) (Ex.nil (Ex.nil (fin _ _ hst0 _ ⟨rfl, rfl, rfl, rfl, trivial⟩)))
      · have hc : st.1.contains (nmOf q) = true := by simpa using hc
        rw [if_pos hc] at hst0
        exact Ex.aug rfl (Ev.refd (Ev.name rfl) (hrb q)) (inp_add_str hd2) (.inl rfl) (Ex.nil (Ex.nil (fin _ _ hst0 _ ⟨rfl, rfl, rfl, rfl, trivial⟩)))
    have h0 : ¬ n % 4 = 0 := ne_of_beq_false h
    refine Ex.ite (Te.cmp (Ev.name rfl) Ev.cint cmp_eq_int) (fun h => ?_) (fun h => ?_)
    · have h : n % 4 = 1 := eq_of_beq h
      have hst1 : drStep st n = (st.1, st.2 ++ refL (st.1.getD (n / 4 % st.1.length).toNat [])) := (if_neg h0).trans (if_pos h)
      have hm := mod_in hne (n / 4)
      have hs := hshort _ (getD_mem hm.1)
      have hat := strs_at hm.2 hm.1
      generalize st.1.getD (n / 4 % st.1.length).toNat [] = nm at hs hst1 hat
      have hrb : nm.length ≤ 100 := Nat.le_trans hs (by decide)
      exact Ex.aug rfl (Ev.refd (Ev.indexO (EvO.own rfl) (Ev.binop (Ev.name rfl) (Ev.callO (.cons (EvO.own rfl) .nil) (call_len_list' (by rw [hnl]; exact Nat.le_trans hlen (by decide))) rfl rfl rfl (P.none _ (by simp)) boot_len nofun) (bin_mod_int (by rw [hnl]; exact Int.natCast_pos.mpr (List.length_pos_iff.mpr hne)))) (get_list (x := .str nm) (by rw [hnl]; exact hm.2) (by rw [hnl]; exact hat) (by rw [hnl]; exact Nat.le_trans hlen (by decide)))) hrb) (inp_add_str (sumB hdb' (Nat.le_trans (refB hrb) (by decide)))) (.inl rfl) (Ex.nil (Ex.nil (Ex.nil (fin _ _ hst1 _ ⟨rfl, rfl, rfl, rfl, trivial⟩))))
    have h1 : ¬ n % 4 = 1 := ne_of_beq_false h
    refine Ex.ite (Te.cmp (Ev.name rfl) Ev.cint cmp_eq_int) (fun h => ?_) (fun h => ?_)
    · have h : n % 4 = 2 := eq_of_beq h
      have hst2 : drStep st n = (st.1, st.2 ++ piecesL.getD (n / 4 % 12).toNat []) := (if_neg h0).trans ((if_neg h1).trans (if_pos h))
      exact Ex.aug rfl (Ev.index (Ev.name rfl) (Ev.binop (Ev.name rfl) Ev.cint (bin_mod_int (by decide))) (get_list (pc_at _).1 (pc_at _).2 (by decide))) (inp_add_str (sumB hdb' (Nat.le_trans (pieces_len _) (by decide)))) (.inl rfl) (Ex.nil (Ex.nil (Ex.nil (Ex.nil (fin _ _ hst2 _ ⟨rfl, rfl, rfl, rfl, trivial⟩)))))
    have hst3 : drStep st n = (st.1, st.2 ++ [(128 + n / 4 % 31886).toNat]) := (if_neg h0).trans ((if_neg h1).trans (if_neg (ne_of_beq_false h)))
    exact Ex.aug rfl (Ev.callB (.cons (Ev.binop Ev.cint (Ev.binop (Ev.name rfl) Ev.cint (bin_mod_int (by decide))) bin_add_int) .nil) (call_chr' (sg_in _).1 (sg_in _).2) rfl rfl (P.none _ (by simp)) boot_chr nofun) (inp_add_str (sumB hdb' (Nat.le_of_ble_eq_true rfl))) (.inl rfl) (Ex.nil (Ex.nil (Ex.nil (Ex.nil (fin _ _ hst3 _ ⟨rfl, rfl, rfl, rfl, trivial⟩)))))
  · refine x0a2 hi fun hst hinv => ?_; (try clear hi)
    refine Ex.nil (ExT.freeze (x := "names") rfl (Ex.ret (Ev.tuple (.cons (Ev.name rfl) (.cons (Ev.name rfl) .nil)) (Nat.le_of_ble_eq_true rfl)) ?_))
    rw [List.length_map, List.take_length] at hst
    subst hst
    rfl
end
end Mine
namespace Mine
open PySem PySem.Calls PySem.W PyProof.Rows
variable [Lo]
omit [Lo] in
noncomputable abbrev stLDoc := topOf 18
omit [Lo] in
noncomputable def putAllS (src acc : Voc) : Voc := src.foldl (fun a p => putS a p.1 p.2) acc
omit [Lo] in
theorem putAllL_sdv : ∀ (src acc : Voc), putAllL (sdv src) (sdv acc) = sdv (putAllS src acc)
  | [], _ => rfl
  | p :: src, acc => by
    have := putAllL_sdv src (putS acc p.1 p.2)
    rw [← putL_sdv] at this
    exact this
omit [Lo] in
theorem putAllS_len : ∀ (src acc : Voc), (putAllS src acc).length ≤ acc.length + src.length
  | [], _ => Nat.le_refl _
  | p :: src, acc => by
    have h1 := putAllS_len src (putS acc p.1 p.2)
    have h2 := putS_len p.1 p.2 acc
    have e : putAllS (p :: src) acc = putAllS src (putS acc p.1 p.2) := rfl
    rw [e]
    simp only [List.length_cons]
    lia
omit [Lo] in
noncomputable def txK (K : Voc) : Voc := putS (putS (putAllS K [(ampN, [38])]) ltN [60]) gtN [62]
omit [Lo] in
noncomputable def lkK (K : Voc) (n : List Nat) : Bool := ((txK K).lookup n).isSome
omit [Lo] in
theorem sdv_lookup (n : List Nat) : ∀ D : Voc, (sdv D).lookup n = (D.lookup n).map .str
  | [] => rfl
  | p :: D => by
    show List.lookup n ((p.1, AV.str p.2) :: sdv D) = _
    rw [List.lookup_cons, List.lookup_cons]
    split
    · rfl
    · exact sdv_lookup n D
theorem EvN.dict1 {X : Cx} {σ : Sto} {k v : Expr} {pos : Pos} {a : List Nat} {x : AV} (h1 : Ev X k σ (.str a)) (h2 : Ev X v σ x) (hx : autoParam (x.atom = true) byRfl) : EvN X (.Dict [some k] [v] pos) σ (.dict [(a, x)]) :=
  EvN.dict (keys := [some k]) (values := [v]) (EvK.cons (k := k) (v := v) (pos := pos) h1 h2 .nil hx) rfl (by simp) (by simp) (by simp)
theorem EvN.dict3 {X : Cx} {σ : Sto} {k1 v1 k2 v2 k3 v3 : Expr} {pos : Pos} {a1 a2 a3 : List Nat} {x1 x2 x3 : AV} (h1 : Ev X k1 σ (.str a1)) (g1 : Ev X v1 σ x1) (h2 : Ev X k2 σ (.str a2)) (g2 : Ev X v2 σ x2) (h3 : Ev X k3 σ (.str a3)) (g3 : Ev X v3 σ x3)
    (n12 : a1 ≠ a2) (n13 : a1 ≠ a3) (n23 : a2 ≠ a3) (hx1 : autoParam (x1.atom = true) byRfl) (hx2 : autoParam (x2.atom = true) byRfl) (hx3 : autoParam (x3.atom = true) byRfl) : EvN X (.Dict [some k1, some k2, some k3] [v1, v2, v3] pos) σ (.dict [(a1, x1), (a2, x2), (a3, x3)]) := by
  have := EvN.dict (X := X) (σ := σ) (pos := pos) (keys := [some k1, some k2, some k3]) (values := [v1, v2, v3]) (EvK.cons (k := k1) (v := v1) (pos := pos) h1 g1 (EvK.cons (k := k2) (v := v2) (pos := pos) h2 g2 (EvK.cons (k := k3) (v := v3) (pos := pos) h3 g3 .nil hx3) hx2) hx1) rfl (by simp) (by simp) (by simp)
  have e : [(a1, x1), (a2, x2), (a3, x3)].foldl (fun a p => putL a p.1 p.2) [] = [(a1, x1), (a2, x2), (a3, x3)] := by simp [putL, n12, n13, n23]
  rwa [e] at this
omit [Lo] in
noncomputable abbrev stC (doc : List Nat) (tx : Voc) (br : Addr) (acc : List (List Nat)) (at_ : Nat) : Sto := [("doc", ⟨none, .str doc⟩), ("texts", ⟨none, .dict (sdv tx)⟩), ("read", ⟨some br, .list (AV.strs acc)⟩), ("at", ⟨none, .int (at_ : Nat)⟩)]
omit [Lo] in
theorem strs_snoc (l : List (List Nat)) (v : List Nat) : AV.list (AV.strs l ++ [.str v]) = .list (AV.strs (l ++ [v])) := by unfold AV.strs; simp
section
variable {prog : Program} {w : World} {G : Pg}
set_option maxHeartbeats 400000
set_option maxRecDepth 8000
theorem walk_doc (P : PreG G) (hd : FnIs G "_law_doc" stLDoc) {doc : List Nat} {K : Voc} (hl : doc.length ≤ 1000) (hK : K.length ≤ 100) (he : (txK K).lookup [] = none) (htot : (outs (txK K) (tkGo (lkK K) 0 doc)).length ≤ 16777216) :
    FSpec prog w G 1 "_law_doc" [.str doc, .dict (sdv K)] (.ok (.str (outs (txK K) (tkGo (lkK K) 0 doc)))) := by
  refine x4a1 hd fun a pm cd doc_ hf => ?_; (try clear hd)
  refine FSpec.of hf (body := bodyOf stLDoc) (ps := ["doc", "known"]) rfl (.plain fun vals hv => ?_) (fun A L T s B fr => ?_)
  · refine x2a1 (len2 hv) fun a b e_0 => ?_; subst e_0; rfl
  refine Ex.assign_own (v := .dict (sdv [(ampN, [38])])) (EvN.dict1 (Ev.cstr (l := ampN) rfl) (Ev.cstr (l := [38]) rfl)) (.inl rfl) fun bt => ?_
  refine Ex.mut (x := "texts") (av := .dict (sdv [(ampN, [38])])) rfl meth_update (.cons (Ev.name rfl) .nil) (mut_update (by simp) (by simp; (clear htot hl; lia))) rfl ?_
  rw [putAllL_sdv]
  have h1 := putAllS_len K [(ampN, [38])]
  refine Ex.setitem (x := "texts") rfl (Ev.cstr (l := ltN) rfl) (Ev.cstr (l := [60]) rfl) (set_dict (by rw [sdv_len]; simp at h1; (clear htot hl; lia))) ?_
  rw [putL_sdv]
  have h2 := putS_len ltN [60] (putAllS K [(ampN, [38])])
  refine Ex.setitem (x := "texts") rfl (Ev.cstr (l := gtN) rfl) (Ev.cstr (l := [62]) rfl) (set_dict (by rw [sdv_len]; simp at h1; (clear htot hl; lia))) ?_
  rw [putL_sdv]
  refine ExT.freeze (x := "texts") rfl ?_
  have e1 : putS (putS (putAllS K [(ampN, [38])]) ltN [60]) gtN [62] = txK K := rfl
  rw [e1]
  have e2 : ∀ n, lkK K n = ((txK K).lookup n).isSome := fun n => rfl
  have htl : (txK K).length ≤ 200 := by
    have h3 := putS_len gtN [62] (putS (putAllS K [(ampN, [38])]) ltN [60])
    rw [e1] at h3
    simp at h1; (clear htot hl; lia)
  generalize txK K = tx at he htot e2 htl ⊢
  generalize lkK K = lk at e2 htot ⊢
  clear h1 h2 e1 hK
  refine Ex.assign_own (EvN.list .nil) (.inl rfl) fun br => ?_
  refine Ex.assign Ev.cint (.inl rfl) ?_
  refine Ex.whileR fcx_top (P := List (List Nat) × Nat) (fun x => stC doc tx br x.1 x.2)
    (fun n x => n = doc.length - x.2 ∧ x.2 ≤ doc.length ∧ x.1.length ≤ x.2 ∧ x.1.flatten ++ outs tx (tkGo lk 0 (doc.drop x.2)) = outs tx (tkGo lk 0 doc))
    (fun n x hi => ?_) (doc.length) ([], 0) ⟨rfl, Nat.zero_le _, Nat.le_refl _, rfl⟩ ⟨rfl, rfl, rfl, rfl, trivial⟩
  cases x with
  | mk acc at_ =>
  refine x0a4 hi fun hn hle hal hg => ?_; (try clear hi)
  subst n
  dsimp only at hle hal hg ⊢
  refine ⟨_, Te.cmp (Ev.name rfl) (Ev.callB (.cons (Ev.name rfl) .nil) (call_len_str' (by (clear hal htot htl; lia))) rfl rfl (P.none _ (by simp)) boot_len nofun) cmp_lt_int, fun h R hN hO => ?_, fun h => ?_⟩
  · have h := of_decide_eq_true h
    have hlt : at_ < doc.length := by (clear hal htot htl; omega)
    have hdr : doc.drop at_ = doc.getD at_ 0 :: doc.drop (at_ + 1) := by
      rw [List.drop_eq_getElem_cons hlt]; simp [List.getD, hlt]
    generalize hc : doc.getD at_ 0 = c at hdr
    generalize hll : doc.drop (at_ + 1) = l at hdr
    have hlen : l.length = doc.length - (at_ + 1) := by rw [← hll, List.length_drop]
    have hfind := findFrom_eq (l := doc) (c := 59) (i := at_) hle
    rw [hdr] at hfind hg
    refine Ex.assign (Ev.meth (x := .str doc) FC.meth_find (Ev.name rfl) (.cons (Ev.cstr (l := [59]) rfl) (.cons (Ev.name rfl) .nil)) call_find3 rfl) (.inl rfl) ?_
    generalize hend : findFrom doc [59] (at_ : Nat) = ed at hfind ⊢
    have hgs : GetG (.str doc) (.int (at_ : Nat)) (.str [c]) := by
      have := get_str (l := doc) (i := (at_ : Nat)) (by (clear hfind hend hlen hc hlt h hal hle htot htl hl; lia)) (by (clear hfind hend hlen hc hal htot htl; omega)) (by (clear hfind hend hlen hc hal htot htl; lia))
      rwa [Int.toNat_natCast, hc] at this
    have hup : c = 38 → upto 59 (c :: l) = c :: upto 59 l := fun h => by
      subst h; unfold upto; rw [List.takeWhile_cons]; simp
    have hmem : c = 38 → (59 ∈ c :: l ↔ 59 ∈ l) := fun h => by subst h; simp
    have hul : 59 ∈ l → (upto 59 l).length + 1 ≤ l.length := fun h => by
      have := congrArg List.length (upto_split h)
      simp only [List.length_append, List.length_cons, List.length_drop] at this
      (clear hfind hend hlen hc hal htot htl; lia)
    refine Ex.assign (v := .str (if c = 38 ∧ 59 ∈ l then upto 59 l else [])) (Ev.ifexp (b := (([c] : List Nat) == [38]) && (decide (ed > (at_ : Nat)) && true)) (Te.and (Ands.cons (Te.cmp (Ev.index (Ev.name rfl) (Ev.name rfl) hgs) (Ev.cstr (l := [38]) rfl) cmp_eq_str) fun _ => Ands.cons (Te.cmp (Ev.name rfl) (Ev.name rfl) cmp_gt_int) fun _ => Ands.nil)) (fun hb => ?_) (fun hb => ?_)) (.inl rfl) ?_
    · have hb : c = 38 ∧ ed > (at_ : Nat) := by simpa using hb
      have h59 : 59 ∈ l := by
        by_cases q : 59 ∈ c :: l
        · exact (hmem hb.1).mp q
        · rw [if_neg q] at hfind; (clear hend hlen hc hlt h hle htot htl; lia)
      rw [if_pos ⟨hb.1, h59⟩]
      rw [if_pos ((hmem hb.1).mpr h59), hup hb.1] at hfind
      have hs : cutL (some ((at_ : Int) + 1)) (some ed) doc = upto 59 l := by
        have hu := hul h59
        have e3 : ed = ((at_ + 1 + (upto 59 l).length : Nat) : Int) := by rw [hfind]; simp; (clear hb hfind hend hlen hc hlt h hal hle htot htl hl; lia)
        have e4 : (at_ : Int) + 1 = ((at_ + 1 : Nat) : Int) := rfl
        rw [e3, e4]
        unfold cutL
        simp only [Option.elim_some]
        rw [clipAt_nat (by (clear e3 hmem hup hfind hend hc hlt h htot htl; omega)), clipAt_nat (by (clear e3 hu hb hfind hend hlen hc hal htot htl; lia)), hll]
        rw [show at_ + 1 + (upto 59 l).length - (at_ + 1) = (upto 59 l).length by omega]
        exact (List.prefix_iff_eq_take.mp (List.takeWhile_prefix _)).symm
      rw [← hs]
      exact Ev.slice (Ev.name rfl) (.some (Ev.binop (Ev.name rfl) Ev.cint bin_add_int)) (.some (Ev.name rfl)) (slice_str (by (clear hb hfind hend hlen hc hal htot htl; lia)))
    · have hb : ¬ (c = 38 ∧ 59 ∈ l) := by
        intro ⟨h1, h2⟩
        rw [if_pos ((hmem h1).mpr h2), hup h1] at hfind
        subst h1
        have : ¬ ed > (at_ : Nat) := by simpa using hb
        simp only [List.length_cons] at hfind
        (clear hc hend hlen hlt h hal hle htot htl hl; omega)
      rw [if_neg hb]
      exact Ev.cstr (l := []) rfl
    generalize hnm : (if c = 38 ∧ 59 ∈ l then upto 59 l else []) = nm
    refine Ex.ite (Te.cmp (Ev.name rfl) (Ev.name rfl) in_dict) (fun hb => ?_) (fun hb => ?_)
    · rw [sdv_lookup] at hb
      cases hv : tx.lookup nm with
      | none => rw [hv] at hb; exact ft hb
      | some v =>
        have hcl : c = 38 ∧ 59 ∈ l := by
          by_cases q : c = 38 ∧ 59 ∈ l
          · exact q
          · rw [if_neg q] at hnm
            subst hnm
            rw [he] at hv; exact ns hv
        rw [if_pos hcl] at hnm
        refine x0a2 hcl fun hc38 h59 => ?_; (try clear hcl)
        have hlook : lk (upto 59 l) = true := by rw [e2, hnm, hv]; rfl
        rw [if_pos ((hmem hc38).mpr h59), hup hc38] at hfind
        rw [hc38, tkGo_ref h59 hlook, outs_cons, hnm] at hg
        have hu := hul h59
        rw [hnm] at hu
        have hout : outT tx (.rf nm) = v := by simp only [outT, hv]
        rw [hout] at hg
        refine Ex.mut (x := "read") (av := .list (AV.strs acc)) (av' := .list (AV.strs (acc ++ [v]))) rfl meth_append (.cons (Ev.index (Ev.name rfl) (Ev.name rfl) (get_dict (x := .str v) (by rw [sdv_lookup, hv]; rfl))) .nil) (MutG.to (mut_append (by rw [strs_len]; (clear hu hfind hend hlen hc hlt h htot htl; lia)) ) (strs_snoc acc v)) rfl ?_
        have e6 : ed + 1 = ((at_ + 1 + (nm.length + 1) : Nat) : Int) := by rw [hfind, hnm]; simp; (clear hu hfind hend hlen hc hlt h hal hle htot htl hl; lia)
        refine Ex.assign (v := .int ((at_ + 1 + (nm.length + 1) : Nat) : Int)) (Ev.to (Ev.binop (Ev.name rfl) Ev.cint bin_add_int) (congrArg AV.int e6)) (.inl rfl) (Ex.nil (Ex.nil ?_))
        refine hN (acc ++ [v], at_ + 1 + (nm.length + 1)) _ _ ⟨rfl, rfl, rfl, rfl, trivial⟩ ?_ ⟨rfl, ?_, ?_, ?_⟩
        · dsimp only; (clear e6 hu hc38 hfind hend hlen hc hal htot htl; omega)
        · dsimp only; (clear e6 hmem hup hfind hend hc hlt h hal htot htl; omega)
        · dsimp only; rw [List.length_append]; simp; (clear e6 hu hc38 hfind hend hlen hc hlt h hle htot htl hl; lia)
        · dsimp only
          rw [List.flatten_append, ← hg, ← List.drop_drop, hll]
          simp
    · rw [sdv_lookup] at hb
      have hno : ¬ (c = 38 ∧ 59 ∈ l ∧ lk (upto 59 l) = true) := by
        intro ⟨h1, h2, h3⟩
        rw [if_pos ⟨h1, h2⟩] at hnm
        rw [e2, hnm] at h3
        cases hv : tx.lookup nm with
        | none => rw [hv] at h3; exact ft h3
        | some v => rw [hv] at hb; exact tf hb
      rw [tkGo_ch hno, outs_cons] at hg
      refine Ex.mut (x := "read") (av := .list (AV.strs acc)) (av' := .list (AV.strs (acc ++ [[c]]))) rfl meth_append (.cons (Ev.index (Ev.name rfl) (Ev.name rfl) hgs) .nil) (MutG.to (mut_append (by rw [strs_len]; (clear hfind hend hlen hc hlt h htot htl; lia)) ) (strs_snoc acc [c])) rfl ?_
      refine Ex.aug (w := .int ((at_ + 1 : Nat) : Int)) rfl Ev.cint inp_add_int (.inl rfl) (Ex.nil (Ex.nil ?_))
      refine hN (acc ++ [[c]], at_ + 1) _ _ ⟨rfl, rfl, rfl, rfl, trivial⟩ ?_ ⟨rfl, ?_, ?_, ?_⟩
      · dsimp only; (clear hfind hend hlen hc hal htot htl; omega)
      · dsimp only; (clear hfind hend hlen hc hal htot htl; lia)
      · dsimp only; rw [List.length_append]; simp; (clear hfind hend hlen hc hle htot htl hl; lia)
      · dsimp only
        rw [List.flatten_append, ← hg, hll]
        simp [outT]
  · have h := of_decide_eq_false h
    have hdn : doc.drop at_ = [] := List.drop_eq_nil_of_le (by (clear hal hle htot htl; lia))
    rw [hdn] at hg
    have hfin : acc.flatten = outs tx (tkGo lk 0 doc) := by rw [← hg]; simp [tkGo, outs]
    rw [← hfin]
    exact Ex.nil (Ex.ret (Ev.join (EvO.own rfl) (by rw [hfin]; exact htot) rfl) rfl)
end
end Mine
namespace Mine
open PySem
variable [Lo]
omit [Lo] in
theorem pl_mem (p : Int) : pl p ∈ lettersL := by
  unfold pl
  have hL : lettersL.length = 62 := by decide
  have : (p % 62).toNat < lettersL.length := by lia
  simp [List.getD, List.getElem?_eq_getElem this]
omit [Lo] in
theorem nmOf_good (q : Int) : NmGood (nmOf q) := by
  have hs : 1 ≤ szOf q := by
    have : ∀ r : Fin 4, 1 ≤ [3, 2, 3, 1].getD r.1 0 := by decide
    exact this ⟨(q % 4).toNat, by lia⟩
  refine ⟨fun h => ?_, nmOf_len q, fun c hc => ?_⟩
  · have := congrArg List.length h
    unfold nmOf at this
    rw [List.length_take] at this
    simp at this; lia
  · have hc := List.mem_of_mem_take hc
    simp only [List.mem_cons, List.not_mem_nil, or_false] at hc
    rcases hc with rfl | rfl | rfl <;> exact pl_mem _
omit [Lo] in
theorem names0_good (m : Nat) : ∀ n ∈ names0 (m % 3), NmGood n := by
  have : ∀ r : Fin 3, ∀ n ∈ names0 r.1, n ≠ [] ∧ n.length ≤ 3 ∧ ∀ c ∈ n, c ∈ lettersL := by decide +kernel
  intro n hn
  have := this ⟨m % 3, Nat.mod_lt _ (by decide)⟩ n hn
  exact ⟨this.1, this.2.1, this.2.2⟩
omit [Lo] in
theorem letters_small : ∀ c ∈ lettersL, c ≤ 32013 := fun c hc => by have := (letters_ok c hc).1; lia
omit [Lo] in
theorem refL_small {n : List Nat} (h : ∀ c ∈ n, c ≤ 32013) : ∀ c ∈ refL n, c ≤ 32013 := fun c hc => by
  have hc : c = 38 ∨ c ∈ n ∨ c = 59 := by simpa [refL] using hc
  rcases hc with hc | hc | hc
  · lia
  · exact h c hc
  · lia
omit [Lo] in
theorem pieces_small : ∀ l ∈ piecesL, ∀ c ∈ l, c ≤ 32013 := by decide
omit [Lo] in
structure DrGood (st : List (List Nat) × List Nat) : Prop where
  good : ∀ n ∈ st.1, NmGood n
  small : ∀ c ∈ st.2, c ≤ 32013
omit [Lo] in
theorem drStep_good {st : List (List Nat) × List Nat} (h0 : st.1 ≠ []) (h : DrGood st) (n : Int) : DrGood (drStep st n) := by
  obtain ⟨h1, h2⟩ := h
  have hn := nmOf_good (n / 4)
  unfold drStep
  split
  · refine ⟨?_, fun c hc => ?_⟩
    · dsimp only; split
      · exact h1
      · intro m hm
        rcases List.mem_append.mp hm with hm | hm
        · exact h1 m hm
        · rw [List.mem_singleton.mp hm]; exact hn
    · rcases List.mem_append.mp hc with hc | hc
      · exact h2 c hc
      · exact refL_small (fun c hc => letters_small c (hn.letters c hc)) c hc
  · split
    · refine ⟨h1, fun c hc => ?_⟩
      rcases List.mem_append.mp hc with hc | hc
      · exact h2 c hc
      · have := h1 _ (getD_mem (mod_in h0 (n / 4)).1)
        exact refL_small (fun c hc => letters_small c (this.letters c hc)) c hc
    · split
      · refine ⟨h1, fun c hc => ?_⟩
        rcases List.mem_append.mp hc with hc | hc
        · exact h2 c hc
        · have hl : piecesL.length = 12 := by decide
          exact pieces_small _ (getD_mem (by lia)) c hc
      · refine ⟨h1, fun c hc => ?_⟩
        rcases List.mem_append.mp hc with hc | hc
        · exact h2 c hc
        · have := List.mem_singleton.mp hc; lia
omit [Lo] in
theorem dr0_good (m : Nat) : DrGood (dr0 m) := by
  refine ⟨names0_good m, ?_⟩
  have : ∀ r : Fin 3, ∀ c ∈ ((names0 r.1).map refL).flatten ++ (ltL ++ ampL), c ≤ 32013 := by decide
  exact this ⟨m % 3, Nat.mod_lt _ (by decide)⟩
omit [Lo] in
theorem drFold {ns : List Int} : ∀ {k : Nat} {st : List (List Nat) × List Nat}, DrInv k st → DrGood st → DrInv (k + ns.length) (ns.foldl drStep st) ∧ DrGood (ns.foldl drStep st) := by
  induction ns with
  | nil => intro k st h1 h2; exact ⟨h1, h2⟩
  | cons n ns ih =>
    intro k st h1 h2
    have := ih (drStep_inv h1 n) (drStep_good h1.ne h2 n)
    rw [List.length_cons, show k + (ns.length + 1) = k + 1 + ns.length by lia]
    exact this
omit [Lo] in
theorem dr_facts (ns : List Int) : (drGo ns).1.length ≤ 10 ∧ (drGo ns).2.length ≤ 110 ∧ DrGood (drGo ns) := by
  have h := drFold (ns := ns.take 8) (names0_inv ns.length) (dr0_good ns.length)
  have h8 : (ns.take 8).length ≤ 8 := by rw [List.length_take]; lia
  refine ⟨?_, ?_, h.2⟩
  · have := h.1.len; unfold drGo; lia
  · have := h.1.doc; unfold drGo; lia
omit [Lo] in
theorem putS_mem {k v : List Nat} {q : List Nat × List Nat} : ∀ {D : Voc}, q ∈ putS D k v → q = (k, v) ∨ q ∈ D
  | [], h => .inl (List.mem_singleton.mp h)
  | p :: D, h => by
    unfold putS at h
    split at h
    · rcases List.mem_cons.mp h with h | h
      · exact .inl h
      · exact .inr (List.mem_cons_of_mem _ h)
    · rcases List.mem_cons.mp h with h | h
      · exact .inr (h ▸ List.mem_cons_self)
      · rcases putS_mem h with h | h
        · exact .inl h
        · exact .inr (List.mem_cons_of_mem _ h)
omit [Lo] in
theorem putS_nodup {k v : List Nat} : ∀ {D : Voc}, (D.map (·.1)).Nodup → ((putS D k v).map (·.1)).Nodup
  | [], _ => by simp [putS]
  | p :: D, h => by
    rw [List.map_cons, List.nodup_cons] at h
    unfold putS
    split
    · rename_i e
      rw [List.map_cons, List.nodup_cons]
      exact ⟨by rw [← e]; exact h.1, h.2⟩
    · rename_i e
      rw [List.map_cons, List.nodup_cons]
      refine ⟨fun hm => ?_, putS_nodup h.2⟩
      refine x1a2 (List.mem_map.mp hm) fun q hq hq1 => ?_
      rcases putS_mem hq with rfl | hq
      · exact e hq1.symm
      · exact h.1 (List.mem_map.mpr ⟨q, hq, hq1⟩)
omit [Lo] in
theorem putS_lookup {k v : List Nat} (n : List Nat) : ∀ D : Voc, (putS D k v).lookup n = if n = k then some v else D.lookup n
  | [] => by
    unfold putS
    rw [List.lookup_cons]
    by_cases h : n = k
    · subst h; simp
    · rw [beq_false_of_ne h, if_neg h]
  | p :: D => by
    unfold putS
    by_cases e : p.1 = k
    · rw [if_pos e, List.lookup_cons]
      by_cases h : n = k
      · subst h; simp
      · rw [beq_false_of_ne h, if_neg h, List.lookup_cons, beq_false_of_ne (fun q => h (q.trans e))]
    · rw [if_neg e, List.lookup_cons, List.lookup_cons, putS_lookup n D]
      by_cases h : n = p.1
      · subst h; simp [e]
      · rw [beq_false_of_ne h]
theorem kn_facts {names : List (List Nat)} : ∀ (d : Voc), (d.map (·.1)).Nodup → (∀ p ∈ d, Mine.lr p.1 = (p.2, true)) → (∀ p ∈ d, NmGood p.1) → (∀ n ∈ names, NmGood n) →
    ((names.foldl knStep d).map (·.1)).Nodup ∧ (∀ p ∈ names.foldl knStep d, Mine.lr p.1 = (p.2, true)) ∧ ∀ p ∈ names.foldl knStep d, NmGood p.1 := by
  induction names with
  | nil => intro d h1 h2 h3 _; exact ⟨h1, h2, h3⟩
  | cons n names ih =>
    intro d h1 h2 h3 h4
    rw [List.foldl_cons]
    have hn := h4 n List.mem_cons_self
    refine ih _ ?_ ?_ ?_ fun m hm => h4 m (List.mem_cons_of_mem _ hm)
    · unfold knStep; split
      · exact putS_nodup h1
      · exact h1
    · unfold knStep; split
      · rename_i hw
        intro p hp
        rcases putS_mem hp with rfl | hp
        · exact Prod.ext rfl hw
        · exact h2 p hp
      · exact h2
    · unfold knStep; split
      · intro p hp
        rcases putS_mem hp with rfl | hp
        · exact hn
        · exact h3 p hp
      · exact h3
end Mine
namespace Mine
open PySem PySem.Calls PySem.W PyProof.Rows
variable [Lo]
omit [Lo] in
noncomputable abbrev stLBack := topOf 19
section
variable {X : Cx} {σ : Sto}
theorem Ev.chain {l r₁ r₂ : Expr} {op₁ op₂ : CmpOp} {pos : Pos} {a b c : AV} {p q : Bool} (h1 : Ev X l σ a) (h2 : Ev X r₁ σ b) (h3 : Ev X r₂ σ c)
    (g1 : CmpG op₁ a b p) (g2 : CmpG op₂ b c q) (hm : autoParam (lastMarks [op₁, op₂] [r₁, r₂] = false) byRfl) : Ev X (.Compare l [op₁, op₂] [r₁, r₂] pos) σ (.bool (p && q)) := fun T s S => by
  show wq X.M X.A (do compareChain pos (← eval l X.env) [op₁, op₂] (markedEach [op₁, op₂] [r₁, r₂] (evalEach [r₁, r₂] X.env))) _ _ s
  rw [markedEach_of_false _ _ _ hm]
  refine wq_bind (h1.then S fun u T₁ s₁ l₁ S₁ k₁ => ?_)
  show wq X.M X.A (compareChain pos u [op₁, op₂] [eval r₁ X.env, eval r₂ X.env]) _ _ s₁
  unfold compareChain
  refine wq_bind (wq_holding (h2.then S₁ fun v T₂ s₂ l₂ S₂ k₂ => wq_bind (wq_standAt (wq_bind (wq_holding ?_)))))
  refine (g1 X _ T₂ s₂ u v S₂.ok S₂.pg S₂.pos (k₁.le l₂) k₂).thenq fun w T₃ s₃ l₃ k₃ => ?_
  cases k₃
  refine wq_bind (wq_release ?_)
  refine wq_bind (wq_holding (wq_of <| wpAny_truthy_bool ?_))
  cases p with
  | false => exact wq_pure ⟨T₃, l₁.trans (l₂.trans l₃), .bool _⟩
  | true =>
    have S₃ := S₂.le_mono l₃
    simp only [if_true, Bool.true_and]
    unfold compareChain
    refine wq_bind (wq_holding (h3.then S₃ fun z T₄ s₄ l₄ S₄ k₄ => wq_bind (wq_standAt ?_)))
    refine wq_operate ((g2 X _ T₄ s₄ v z S₄.ok S₄.pg S₄.pos ((k₂.le l₃).le l₄) k₄).thenq fun y T₅ s₅ l₅ k₅ => ?_)
    exact ⟨T₅, (l₁.trans l₂).trans (l₃.trans (l₄.trans l₅)), k₅⟩
end
omit [Lo] in
noncomputable def labF (c : Nat) : List Nat := numl 72 0 (c - 128)
omit [Lo] in
noncomputable def lab (c : Nat) : List Nat := (labF c).map dig
theorem gens_lab (c : Nat) : (gensGo 0 0 72 [c - 128]).map dig = lab c := by unfold gensGo gensGo lab labF; simp
omit [Lo] in
noncomputable def uqStep (l : List Nat) (c : Nat) : List Nat := if 127 < c then (if c ∈ l then l else l ++ [c]) else l
omit [Lo] in
noncomputable def uq (l : List Nat) : List Nat := l.foldl uqStep []
omit [Lo] in
noncomputable def rwE (c : Nat) : List Nat × AV := ([c], .bytes (lab c))
omit [Lo] in
theorem putL_rw (c : Nat) : ∀ l : List Nat, putL (l.map rwE) [c] (.bytes (lab c)) = (if c ∈ l then l else l ++ [c]).map rwE
  | [] => by simp [putL, rwE]
  | d :: l => by
    show (if [d] = [c] then ([c], AV.bytes (lab c)) :: l.map rwE else rwE d :: putL (l.map rwE) [c] (.bytes (lab c))) = _
    by_cases h : d = c
    · subst h; simp [rwE]
    · rw [if_neg (by simpa using h), putL_rw c l]
      by_cases hm : c ∈ l
      · rw [if_pos hm, if_pos (List.mem_cons_of_mem _ hm)]; rfl
      · rw [if_neg hm, if_neg (by simp [hm]; exact fun q => h q.symm)]; rfl
omit [Lo] in
theorem uq_take {l : List Nat} {k c : Nat} (h : l[k]? = some c) : uq (l.take (k + 1)) = uqStep (uq (l.take k)) c := by
  unfold uq
  rw [List.take_succ, h]
  simp [List.foldl_append]
omit [Lo] in
theorem uqStep_len (l : List Nat) (c : Nat) : (uqStep l c).length ≤ l.length + 1 := by
  unfold uqStep; split
  · split
    · lia
    · simp
  · lia
omit [Lo] in
theorem uqGo_len (m : List Nat) : ∀ l, (m.foldl uqStep l).length ≤ l.length + m.length := by
  induction m with
  | nil => intro l; simp
  | cons c m ih =>
    intro l
    have h1 := ih (uqStep l c)
    have h2 := uqStep_len l c
    simp only [List.foldl_cons, List.length_cons]; lia
omit [Lo] in
theorem uq_len (l : List Nat) : (uq l).length ≤ l.length := by have := uqGo_len l []; simpa [uq] using this
omit [Lo] in
theorem uqGo_mem (m : List Nat) : ∀ l c, c ∈ m.foldl uqStep l ↔ c ∈ l ∨ (c ∈ m ∧ 127 < c) := by
  induction m with
  | nil => intro l c; simp
  | cons d m ih =>
    intro l c
    rw [List.foldl_cons, ih]
    have : c ∈ uqStep l d ↔ c ∈ l ∨ (c = d ∧ 127 < c) := by
      unfold uqStep
      split
      · rename_i h
        split
        · rename_i hm
          constructor
          · exact .inl
          · rintro (q | ⟨rfl, _⟩)
            · exact q
            · exact hm
        · simp only [List.mem_append, List.mem_singleton]
          constructor
          · rintro (q | rfl)
            · exact .inl q
            · exact .inr ⟨rfl, h⟩
          · rintro (q | ⟨q, _⟩)
            · exact .inl q
            · exact .inr q
      · rename_i h
        constructor
        · exact .inl
        · rintro (q | ⟨rfl, q⟩)
          · exact q
          · exact absurd q h
    rw [this]
    simp only [List.mem_cons]
    constructor
    · rintro ((q | ⟨rfl, q⟩) | ⟨q, g⟩)
      · exact .inl q
      · exact .inr ⟨.inl rfl, q⟩
      · exact .inr ⟨.inr q, g⟩
    · rintro (q | ⟨rfl | q, g⟩)
      · exact .inl (.inl q)
      · exact .inl (.inr ⟨rfl, g⟩)
      · exact .inr ⟨q, g⟩
omit [Lo] in
theorem uq_mem {l : List Nat} {c : Nat} : c ∈ uq l ↔ c ∈ l ∧ 127 < c := by unfold uq; rw [uqGo_mem]; simp
omit [Lo] in
theorem uqGo_nodup (m : List Nat) : ∀ l, l.Nodup → (m.foldl uqStep l).Nodup := by
  induction m with
  | nil => intro l h; exact h
  | cons c m ih =>
    intro l h
    rw [List.foldl_cons]
    refine ih _ ?_
    unfold uqStep
    split
    · split
      · exact h
      · rename_i hm
        rw [List.nodup_append]
        refine ⟨h, by simp, ?_⟩
        intro a ha b hb
        rw [List.mem_singleton.mp hb]
        intro q; subst q; exact hm ha
    · exact h
omit [Lo] in
theorem uq_nodup (l : List Nat) : (uq l).Nodup := uqGo_nodup l [] (by simp)
end Mine
namespace Mine
open PySem PySem.Calls PySem.W PyProof.Rows
variable [Lo]
omit [Lo] in
noncomputable def tblE (c : Nat) : List Nat × List Nat := ([c], refL (lab c))
omit [Lo] in
noncomputable def agnE (c : Nat) : List Nat × List Nat := (refL (lab c), [c])
omit [Lo] in
noncomputable def wr (c : Nat) : List Nat := if c = 38 then ampL else if c = 60 then ltL else if c = 62 then gtL else if 127 < c then refL (lab c) else [c]
structure BackOk (read : List Nat) : Prop where
  len : read.length ≤ 1000
  small : ∀ c ∈ read, c ≤ 100000
  nm : ∀ c ∈ uq read, NmOk (lab c)
  rd : ∀ c ∈ uq read, lr (lab c) = ([c], true)
  al : ∀ c ∈ uq read, ∀ o ∈ lab c, (97 ≤ o ∧ o ≤ 122) ∨ (48 ≤ o ∧ o ≤ 57)
  fit1 : replFit (escSeq ((uq read).map tblE)) read
  esc : replAll (escSeq ((uq read).map tblE)) read = (read.map wr).flatten
  fit2 : replFit (uneSeq ((uq read).map agnE)) (read.map wr).flatten
  une : replAll (uneSeq ((uq read).map agnE)) (read.map wr).flatten = read
  wlen : (read.map wr).flatten.length ≤ 16777216
omit [Lo] in
theorem putS_new {k v : List Nat} : ∀ {D : Voc}, (∀ p ∈ D, p.1 ≠ k) → putS D k v = D ++ [(k, v)]
  | [], _ => rfl
  | p :: D, h => by
    rw [putS, if_neg (h p List.mem_cons_self), putS_new fun q hq => h q (List.mem_cons_of_mem _ hq)]; rfl
omit [Lo] in
theorem rw_lookup {l : List Nat} {c : Nat} (h : c ∈ l) : (l.map rwE).lookup [c] = some (.bytes (lab c)) := by
  induction l with
  | nil => cases h
  | cons d l ih =>
    rw [List.map_cons]
    unfold rwE
    rw [List.lookup_cons]
    by_cases q : c = d
    · subst q; simp
    · rw [beq_false_of_ne (by simpa using q)]
      rcases List.mem_cons.mp h with h | h
      · exact absurd h q
      · exact ih h
omit [Lo] in
theorem tbl_lookup {l : List Nat} {c : Nat} : (l.map tblE).lookup [c] = if c ∈ l then some (refL (lab c)) else none := by
  induction l with
  | nil => rfl
  | cons d l ih =>
    rw [List.map_cons]
    unfold tblE
    rw [List.lookup_cons]
    by_cases q : c = d
    · subst q; simp
    · rw [beq_false_of_ne (by simpa using q)]
      show (l.map tblE).lookup [c] = _
      rw [ih]
      by_cases hm : c ∈ l
      · rw [if_pos hm, if_pos (List.mem_cons_of_mem _ hm)]
      · rw [if_neg hm, if_neg (by simp [hm, q])]
omit [Lo] in
theorem not_before {l : List Nat} (h : l.Nodup) {k c : Nat} (hc : l[k]? = some c) : c ∉ l.take k := by
  intro hm
  obtain ⟨j, hj⟩ := List.getElem?_of_mem hm
  have hlt : j < k := by
    have := (List.getElem?_eq_some_iff.mp hj).1
    rw [List.length_take] at this; lia
  rw [List.getElem?_take_of_lt hlt] at hj
  have := (List.getElem?_inj (by exact (List.getElem?_eq_some_iff.mp hj).1) h).mp (hj.trans hc.symm)
  lia
omit [Lo] in
theorem take_map_snoc {l : List Nat} {k c : Nat} {f : Nat → List Nat × List Nat} (hc : l[k]? = some c) : (l.take (k + 1)).map f = (l.take k).map f ++ [f c] := by
  rw [List.take_succ, hc]; simp
omit [Lo] in
noncomputable def alB (o : Nat) : Bool := (decide ((97 : Int) ≤ (o : Int)) && decide ((o : Int) ≤ 122)) || (decide ((48 : Int) ≤ (o : Int)) && decide ((o : Int) ≤ 57))
omit [Lo] in
theorem alB_all {l : List Nat} (h : ∀ o ∈ l, (97 ≤ o ∧ o ≤ 122) ∨ (48 ≤ o ∧ o ≤ 57)) : (l.map alB).all id = true := by
  rw [List.all_map, List.all_eq_true]
  intro o ho
  have := h o ho
  simp only [Function.comp, id, alB, Bool.or_eq_true, Bool.and_eq_true, decide_eq_true_eq]
  lia
omit [Lo] in
noncomputable abbrev tx3 : Voc := [([38], ampL), ([60], ltL), ([62], gtL)]
omit [Lo] in
theorem tx3_lookup (c : Nat) : tx3.lookup [c] = if c = 38 then some ampL else if c = 60 then some ltL else if c = 62 then some gtL else none := by
  unfold tx3
  by_cases h1 : c = 38
  · subst h1; rfl
  by_cases h2 : c = 60
  · subst h2; rfl
  by_cases h3 : c = 62
  · subst h3; rfl
  rw [if_neg h1, if_neg h2, if_neg h3, List.lookup_cons, beq_false_of_ne (by simpa using h1), List.lookup_cons, beq_false_of_ne (by simpa using h2), List.lookup_cons, beq_false_of_ne (by simpa using h3)]
  rfl
omit [Lo] in
theorem wr_one {c : Nat} (h : (tx3.lookup [c]).isSome = true) : tx3.lookup [c] = some (wr c) := by
  rw [tx3_lookup] at h ⊢
  unfold wr
  by_cases h1 : c = 38
  · rw [if_pos h1, if_pos h1]
  by_cases h2 : c = 60
  · rw [if_neg h1, if_pos h2, if_neg h1, if_pos h2]
  by_cases h3 : c = 62
  · rw [if_neg h1, if_neg h2, if_pos h3, if_neg h1, if_neg h2, if_pos h3]
  rw [if_neg h1, if_neg h2, if_neg h3] at h
  exact ft h
omit [Lo] in
theorem wr_two {c : Nat} {read : List Nat} (hr : c ∈ read) (h : (tx3.lookup [c]).isSome = false) :
    ((((uq read).map tblE).lookup [c]).isSome = true → ((uq read).map tblE).lookup [c] = some (wr c)) ∧ ((((uq read).map tblE).lookup [c]).isSome = false → wr c = [c]) := by
  rw [tx3_lookup] at h
  have h1 : c ≠ 38 := fun q => by rw [if_pos q] at h; exact tf h
  have h2 : c ≠ 60 := fun q => by rw [if_neg h1, if_pos q] at h; exact tf h
  have h3 : c ≠ 62 := fun q => by rw [if_neg h1, if_neg h2, if_pos q] at h; exact tf h
  rw [tbl_lookup]
  unfold wr
  rw [if_neg h1, if_neg h2, if_neg h3]
  by_cases hm : c ∈ uq read
  · rw [if_pos hm, if_pos (uq_mem.mp hm).2]
    exact ⟨fun _ => rfl, fun h => by exact tf h⟩
  · rw [if_neg hm, if_neg fun q => hm (uq_mem.mpr ⟨hr, q⟩)]
    exact ⟨fun h => (by exact ft h), fun _ => rfl⟩
theorem py_items : ∀ {D : Voc}, (∀ p ∈ D, (∀ c ∈ p.1, c < 0x110000) ∧ ∀ c ∈ p.2, c < 0x110000) → ∃ ds, PyL 1 ((sdv D).map fun q => AV.tup [.txt q.1, q.2]) ds
  | [], _ => ⟨[], .nil⟩
  | p :: D, h => by
    obtain ⟨ds, hd⟩ := py_items (D := D) fun q hq => h q (List.mem_cons_of_mem _ hq)
    exact ⟨_, .cons (.tup (.cons (.txt (h p List.mem_cons_self).1) (.cons (.str (h p List.mem_cons_self).2) .nil))) hd⟩
theorem SetG.to {av k x v w : AV} (h : SetG av k x v) (q : v = w) : SetG av k x w := q ▸ h
omit [Lo] in
noncomputable abbrev stK (read : List Nat) (ba bb : Addr) (tb ag : Voc) : Sto := [("read", ⟨none, .str read⟩), ("rows", ⟨none, .dict ((uq read).map rwE)⟩), ("texts", ⟨none, .dict (sdv [([38], ampL), ([60], ltL), ([62], gtL)])⟩), ("table", ⟨some ba, .dict (sdv tb)⟩), ("again", ⟨some bb, .dict (sdv ag)⟩)]
section
variable {prog : Program} {w : World} {G : Pg}
set_option maxHeartbeats 4000000
set_option maxRecDepth 8000
theorem walk_back (P : PreG G) (hd : FnIs G "_law_back" stLBack) {read : List Nat} (h : BackOk read) : FSpec prog w G 5 "_law_back" [.str read] (.ok (.bool true)) := by
  refine x4a1 hd fun a pm cd doc hf => ?_; (try clear hd)
  refine x4a1 (P.puny.puny) fun aP pmP cdP docP hP => ?_
  refine x4a1 (P.read.read) fun aR pmR cdR docR hR => ?_
  refine x4a1 (P.puny.gens) fun aG pmG cdG docG hG => ?_
  obtain ⟨aE, pmE, cdE, docE, tE, otE, nE, dE, odE, hE, -⟩ := P.sax.esc.ex
  obtain ⟨aU, pmU, cdU, docU, tU, otU, nU, dU, odU, hU, -⟩ := P.sax.une.ex
  obtain ⟨hlen, hsmall, hnm, hrd, hal, hfit1, hesc, hfit2, hune, hwlen⟩ := h
  have hul := uq_len read
  refine FSpec.of hf (body := bodyOf stLBack) (ps := ["read"]) rfl (.plain fun vals hv => ?_) (fun A L T s B fr => ?_)
  · refine x1a1 (len1 hv) fun a e_0 => ?_; subst e_0; rfl
  refine Ex.assign_dictC (σc := []) (fun k => (uq (read.take k)).map rwE) rfl (EvI.str (Ev.name rfl) rfl) ⟨rfl, rfl, by decide, by decide, rfl⟩ .nil (fun k _ => ?_) (fun C D T₁ s₁ k v hv => ?_) (.inl rfl) fun br => ?_
  · have := uq_len (read.take k)
    have h2 : (read.take k).length ≤ read.length := by rw [List.length_take]; lia
    rw [List.length_map]; lia
  · rw [List.getElem?_map] at hv
    refine x1a2 (Option.map_eq_some_iff.mp hv) fun c hc e_0 => ?_; subst e_0
    have hcs := hsmall c (List.mem_of_getElem? hc)
    refine ⟨decide ((c : Int) > 127), TeL.one (Te.cmp (Ev.callB (.cons (Ev.name rfl) .nil) call_ord' rfl rfl (P.none _ (by simp)) boot_ord nofun) Ev.cint cmp_gt_int), fun hb => ?_, fun hb => ?_⟩
    · have hb := of_decide_eq_false hb
      rw [uq_take hc]
      unfold uqStep
      rw [if_neg (by (clear hcs hul hwlen hlen; omega))]
    · have hb := of_decide_eq_true hb
      refine ⟨[c], .bytes (lab c), Ev.name rfl, ?_, ?_⟩
      · rw [← gens_lab]
        refine EvX.ev (EvX.call (walk_gens P.puny (base := 0) (ds := [c - 128]) (by (clear hul hwlen hlen; lia)) (by simp) (by simp; (clear hb hul hwlen hlen; lia))) (.cons Ev.cint (.cons (Ev.list (xs := AV.nats [c - 128]) (.cons ?_ .nil) (Nat.le_of_ble_eq_true rfl)) .nil)) rfl rfl (Nat.le_succ 3) hG)
        have e : ((c - 128 : Nat) : Int) = (c : Int) - 128 := by (clear hcs hul hwlen hlen; lia)
        show Ev _ _ _ (.int ((c - 128 : Nat) : Int))
        rw [e]
        exact Ev.binop (Ev.callB (.cons (Ev.name rfl) .nil) call_ord' rfl rfl (P.none _ (by simp)) boot_ord nofun) Ev.cint bin_sub_int
      · rw [uq_take hc, putL_rw]
        unfold uqStep
        rw [if_pos (by (clear hcs hul hwlen hlen; omega))]
  have hrl : (read.map fun n => AV.str [n]).length = read.length := List.length_map ..
  rw [hrl, List.take_length]
  refine ExT.freeze (x := "rows") rfl ?_
  refine @Ex.assign_own _ _ _ _ _ _ _ _ _ (.dict (sdv [([38], ampL), ([60], ltL), ([62], gtL)])) ?h (.inr ⟨rfl, rfl, _, rfl⟩) (fun bt => ?_) rfl
  case h =>
    exact @EvN.dict3 _ _ _ _ _ _ _ _ _ _ _ _ _ _ _ _ (Ev.cstr (l := [38]) rfl) (Ev.cstr (l := ampL) rfl) (Ev.cstr (l := [60]) rfl) (Ev.cstr (l := ltL) rfl) (Ev.cstr (l := [62]) rfl) (Ev.cstr (l := gtL) rfl) (by decide) (by decide) (by decide) rfl rfl rfl
  refine ExT.freeze (x := "texts") rfl ?_
  refine Ex.assign2D (.inr ⟨rfl, rfl, _, rfl⟩) (.inl rfl) (by decide) rfl fun ba bb => ?_
  have hinj : ∀ c ∈ uq read, ∀ d ∈ uq read, lab c = lab d → c = d := fun c hc d hd e => by
    have h1 := hrd c hc
    rw [e, hrd d hd] at h1
    simpa using (Prod.mk.inj h1).1.symm
  refine Ex.forNR fcx_top (EvI.keys (Ev.name rfl) rfl) (.inl rfl) (P := Voc × Voc) (fun x => stK read ba bb x.1 x.2)
    (fun k x => x.1 = ((uq read).take k).map tblE ∧ x.2 = ((uq read).take k).map agnE) (fun k v x hv hi => ?_) (fun x hi => ?_) ([], []) ⟨rfl, rfl⟩ ⟨rfl, rfl, rfl, rfl, rfl, trivial⟩
  · intro R hN hO
    rw [List.getElem?_map, List.getElem?_map] at hv
    cases hc : (uq read)[k]? with
    | none => rw [hc] at hv; exact ns hv
    | some c =>
    rw [hc] at hv
    simp only [Option.map_some, Option.some.injEq] at hv
    subst hv
    have hcm : c ∈ uq read := List.mem_of_getElem? hc
    have hcn := hnm c hcm
    have hll := hcn.len
    have hlr := hrd c hcm
    have hcs : c < 1114112 := by have := hsmall c (uq_mem.mp hcm).1; (clear hcn hll hrl hul hwlen hlen; omega)
    have hnb := not_before (uq_nodup read) hc
    have htk : ((uq read).take k).length ≤ 1000 := by rw [List.length_take]; (clear hcs hll hrl hwlen; omega)
    have hsz1 : (sdv (((uq read).take k).map tblE)).length ≤ 16777216 := by rw [sdv_len, List.length_map]; exact Nat.le_trans htk (by decide)
    have hsz2 : (sdv (((uq read).take k).map agnE)).length ≤ 16777216 := by rw [sdv_len, List.length_map]; exact Nat.le_trans htk (by decide)
    have hdone : ∀ σ, Sto.subB (stK read ba bb (((uq read).take k).map tblE ++ [tblE c]) (((uq read).take k).map agnE ++ [agnE c])) σ → R .next σ := fun σ hs => hN (_, _) σ hs ⟨(take_map_snoc hc).symm, (take_map_snoc hc).symm⟩
    have hp1 : AV.dict (putL (sdv (((uq read).take k).map tblE)) [c] (.str (refL (lab c)))) = .dict (sdv (((uq read).take k).map tblE ++ [tblE c])) := by
      rw [putL_sdv, putS_new fun p hp q => by
        refine x1a2 (List.mem_map.mp hp) fun d hd e_0 => ?_; subst e_0
        have q : [d] = [c] := q
        simp at q
        subst q
        exact hnb hd]
      rfl
    have hp2 : AV.dict (putL (sdv (((uq read).take k).map agnE)) (refL (lab c)) (.str [c])) = .dict (sdv (((uq read).take k).map agnE ++ [agnE c])) := by
      rw [putL_sdv, putS_new fun p hp q => by
        refine x1a2 (List.mem_map.mp hp) fun d hd e_0 => ?_; subst e_0
        simp [agnE, refL] at q
        have := hinj c hcm d (List.mem_of_mem_take hd) q.symm
        subst this
        exact hnb hd]
      rfl
    have hal2 := alB_all (hal c hcm)
    have halc := hal c hcm
    have hlk := rw_lookup hcm
    have hpy : Py 1 (.tup [.str [c], .bool true]) (.tuple [.str ⟨[c].toArray⟩, .bool true]) := .tup (.cons (.str (by simpa using hcs)) (.cons (.bool _) .nil))
    have hread := walk_read (prog := prog) (w := w) P.read hcn.len hcn.rd
    rw [show lrGo ((lab c).map fig) [] 128 0 72 0 = lr (lab c) from rfl, hlr] at hread
    have hdec := walk_dec_b (prog := prog) (w := w) P (er := strictL) hcn
    have hdv : decOf strictL (lab c) = .ok (.str [c]) := by unfold decOf; rw [hlr]; rfl
    rw [hdv] at hdec
    refine x0a2 hi fun e_0 e_1 => ?_; clear hi hc hcm hcn hlr hdv hN hO hnb
    cases x with
    | mk tb ag =>
    dsimp only at e_0 e_1 ⊢
    subst e_0; subst e_1
    generalize ((uq read).take k).map tblE = tb at hp1 hdone hsz1 ⊢
    generalize ((uq read).take k).map agnE = ag at hp2 hdone hsz2 ⊢
    refine Ex.assign (v := .bytes (lab c)) (Ev.index (Ev.name rfl) (Ev.name rfl) (get_dict hlk)) (.inl rfl) ?_
    refine Ex.assign (v := .str (lab c)) (Ev.joinOnes (Ev.o (EvN.ev (EvN.mapC (σc := []) (ys := AV.strs (ones (lab c))) (EvI.bytes (Ev.name rfl) rfl) ⟨rfl, rfl, by decide, by decide, rfl⟩ .nil rfl (by rw [strs_len, ones_len, List.length_map]) (by rw [List.length_map]; exact Nat.le_trans hll (by decide)) (fun C D T₁ s₁ j v y hv hy => ?_)) ⟨fun _ q => (by cases q), fun q => (by cases q)⟩)) (Nat.le_trans hll (by decide)) rfl) (.inl rfl) ?_
    · rw [List.getElem?_map] at hv
      refine x1a2 (Option.map_eq_some_iff.mp hv) fun o ho e_0 => ?_; subst e_0
      refine x1a2 (strs_get hy) fun m hm e_0 => ?_; subst e_0
      unfold ones at hm
      rw [List.getElem?_map, ho] at hm
      (have hm := Option.some.inj hm; subst hm)
      have ho2 : o ≤ 122 := (halc o (List.mem_of_getElem? ho)).elim (fun h => h.2) fun h => Nat.le_trans h.2 (by decide)
      exact Ev.callB (.cons (Ev.name rfl) .nil) (call_chr' (i := (o : Nat)) (Int.natCast_nonneg _) (Int.ofNat_le.mpr (Nat.le_trans ho2 (by decide)))) rfl rfl (P.none _ (by simp)) boot_chr nofun
    refine Ex.ite (Te.or (Ors.cons (Te.not (Te.value (Ev.isinstance (Ev.name rfl) isT_bytes_bytes rfl rfl rfl (P.none _ (by simp)) rfl (P.none _ (by simp))) (tru_bool _))) fun _ => Ors.cons (Te.not (Te.value (Ev.callB (.cons (EvN.ev (EvN.mapC (σc := []) (ys := AV.bools ((lab c).map alB)) (EvI.bytes (Ev.name rfl) rfl) ⟨rfl, rfl, by decide, by decide, rfl⟩ .nil rfl (by unfold AV.bools; simp) (by rw [List.length_map]; exact Nat.le_trans hll (by decide)) (fun C D T₁ s₁ j v y hv hy => ?_)) ⟨fun _ q => (by cases q), fun q => (by cases q)⟩) .nil) call_all rfl rfl (P.none _ (by simp)) boot_all nofun) (tru_bool _))) fun _ => Ors.nil)) (fun hb => ?_) (fun hb => Ex.nil ?_)
    · rw [List.getElem?_map] at hv
      refine x1a2 (Option.map_eq_some_iff.mp hv) fun o ho e_0 => ?_; subst e_0
      unfold AV.bools at hy
      rw [List.getElem?_map, List.getElem?_map, ho] at hy
      simp only [Option.map_some, Option.some.injEq] at hy
      subst hy
      exact Ev.or_cons (Ev.chain Ev.cint (Ev.name rfl) Ev.cint cmp_le_int cmp_le_int) fun _ => Ev.or_one (Ev.chain Ev.cint (Ev.name rfl) Ev.cint cmp_le_int cmp_le_int)
    · rw [hal2] at hb
      exact ft hb
    refine Ex.ite (Te.cmp (EvX.ev (EvX.call hread (.cons (Ev.name rfl) .nil) rfl rfl (Nat.le_of_ble_eq_true rfl) hR)) (Ev.tuple (.cons (Ev.name rfl) (.cons Ev.cbool .nil)) (Nat.le_of_ble_eq_true rfl)) (cmp_ne_deep hpy hpy)) (fun hb => ?_) (fun hb => Ex.nil ?_)
    · rw [Py.eqv_self hpy] at hb
      exact ft hb
    refine Ex.setitem (x := "table") (av' := .dict (sdv (tb ++ [tblE c]))) rfl (Ev.name rfl) (Ev.refd (Ev.name rfl) hll) (SetG.to (set_dict hsz1) hp1) ?_
    exact Ex.setitem (x := "again") (av' := .dict (sdv (ag ++ [agnE c]))) rfl (Ev.refd (Ev.name rfl) hll) (EvX.ev (EvX.call hdec (.cons (Ev.name rfl) (.cons (Ev.cstr rfl) .nil)) rfl rfl (Nat.le_refl 4) hP)) (SetG.to (set_dict hsz2) hp2) (Ex.nil (hdone _ ⟨rfl, rfl, rfl, rfl, rfl, trivial⟩))
  · obtain ⟨tb, ag⟩ := x
    refine x0a2 hi fun h1 h2 => ?_; (try clear hi)
    rw [List.length_map, List.length_map, List.take_length] at h1 h2
    dsimp only at h1 h2
    subst h1 h2
    refine Ex.nil ?_
    refine ExT.freeze (x := "table") rfl (ExT.freeze (x := "again") rfl ?_)
    have htl : (sdv ((uq read).map tblE)).length ≤ 16777216 := by rw [sdv_len, List.length_map]; (clear hrl hwlen; lia)
    refine Ex.assign (Ev.listItems (Ev.name rfl) rfl htl rfl (P.none _ (by simp))) (.inl rfl) ?_
    have hwr : ∀ k c, read[k]? = some c → (refL (lab c)).length ≤ 1000 ∨ ¬ 127 < c := fun k c hc => by
      by_cases q : 127 < c
      · have := (hnm c (uq_mem.mpr ⟨List.mem_of_getElem? hc, q⟩)).len
        rw [refL_len]; exact .inl (by (clear htl hrl hul hwlen hlen; lia))
      · exact .inr q
    refine Ex.assign (v := .str (read.map wr).flatten) (Ev.join (l := read.map wr) (Ev.o (EvN.ev (EvN.mapC (σc := [("texts", ⟨none, .dict (sdv [([38], ampL), ([60], ltL), ([62], gtL)])⟩), ("table", ⟨none, .dict (sdv ((uq read).map tblE))⟩)]) (ys := AV.strs (read.map wr)) (EvI.str (Ev.name rfl) rfl) ⟨rfl, rfl, by decide, by decide, rfl⟩ (SeenL.cons rfl rfl rfl rfl (SeenL.cons rfl rfl rfl rfl .nil)) rfl (by rw [strs_len, List.length_map, List.length_map]) (by rw [List.length_map]; (clear htl hrl hwlen; lia)) (fun C D T₁ s₁ k v y hv hy => ?_)) ⟨fun _ q => (by cases q), fun q => (by cases q)⟩)) hwlen rfl) (.inl rfl) ?_
    · rw [List.getElem?_map] at hv
      refine x1a2 (Option.map_eq_some_iff.mp hv) fun c hc e_0 => ?_; subst e_0
      refine x1a2 (strs_get hy) fun m hm e_0 => ?_; subst e_0
      rw [List.getElem?_map, hc] at hm
      (have hm := Option.some.inj hm; subst hm)
      have hcm := List.mem_of_getElem? hc
      refine Ev.ifexp (Te.cmp (Ev.name rfl) (Ev.name rfl) in_dict) (fun hb => ?_) (fun hb => Ev.ifexp (Te.cmp (Ev.name rfl) (Ev.name rfl) in_dict) (fun hb2 => ?_) (fun hb2 => ?_))
      · rw [sdv_lookup, Option.isSome_map] at hb
        exact Ev.index (Ev.name rfl) (Ev.name rfl) (get_dict (by rw [sdv_lookup, wr_one hb]; rfl))
      · rw [sdv_lookup, Option.isSome_map] at hb hb2
        exact Ev.index (Ev.name rfl) (Ev.name rfl) (get_dict (by rw [sdv_lookup, (wr_two hcm hb).1 hb2]; rfl))
      · rw [sdv_lookup, Option.isSome_map] at hb hb2
        rw [(wr_two hcm hb).2 hb2]
        exact Ev.name rfl
    obtain ⟨ds, hds⟩ := py_items (D := (uq read).map tblE) (fun p hp => by
      refine x1a2 (List.mem_map.mp hp) fun c hc e_0 => ?_; subst e_0
      have hcs := hsmall c (uq_mem.mp hc).1
      refine ⟨fun d hd => ?_, fun d hd => ?_⟩
      · have : d = c := by simpa [tblE] using hd
        (clear htl hrl hul hwlen hlen; lia)
      · have hd : d = 38 ∨ d ∈ lab c ∨ d = 59 := by simpa [tblE, refL] using hd
        rcases hd with hd | hd | hd
        · (clear htl hrl hul hwlen hlen; lia)
        · have := hal c hc d hd; (clear htl hrl hul hwlen hlen; lia)
        · (clear htl hrl hul hwlen hlen; lia))
    have hpy := Py.list hds
    have w1 := walk_esc (prog := prog) (w := w) P.sax hfit1 (by rw [List.length_map]; (clear htl hrl hwlen; lia))
    have w2 := walk_une (prog := prog) (w := w) P.sax hfit2 (by rw [List.length_map]; (clear htl hrl hwlen; lia))
    rw [hesc] at w1
    rw [hune] at w2
    refine Ex.ret (Ev.and_cons (Ev.cmp (EvX.ev (EvX.call w1 (.cons (Ev.name rfl) (.cons (Ev.name rfl) .nil)) rfl rfl (Nat.le_of_ble_eq_true rfl) hE)) (Ev.name rfl) cmp_eq_str) fun _ => Ev.and_cons (Ev.cmp (Ev.listItems (Ev.name rfl) rfl htl rfl (P.none _ (by simp))) (Ev.name rfl) (cmp_eq_deep hpy hpy)) fun _ => Ev.and_one (Ev.cmp (EvX.ev (EvX.call w2 (.cons (Ev.name rfl) (.cons (Ev.name rfl) .nil)) rfl rfl (Nat.le_of_ble_eq_true rfl) hU)) (Ev.name rfl) cmp_eq_str)) ?_
    rw [Py.eqv_self hpy]
    show Except.ok _ = Except.ok _
    simp
end
end Mine
namespace Mine
open PySem PySem.Calls PySem.W PyProof.Rows
variable [Lo]
omit [Lo] in
noncomputable abbrev stLaw := topOf 20
omit [Lo] in
noncomputable def tbK (p : List Nat × List Nat) : List Nat × List Nat := (refL p.1, p.2)
noncomputable abbrev lawK (ns : List Int) : Voc := knS (drGo ns).1
noncomputable def lawR (ns : List Int) : List Nat := outs (txK (lawK ns)) (tkGo (lkK (lawK ns)) 0 (drGo ns).2)
structure LawOk (ns : List Int) : Prop where
  nl : (drGo ns).1.length ≤ 100
  nm : ∀ n ∈ (drGo ns).1, NmOk n
  dl : (drGo ns).2.length ≤ 1000
  rd : ∀ p ∈ lawK ns, NmOk p.1 ∧ lr p.1 = (p.2, true)
  nd : ((lawK ns).map (·.1)).Nodup
  small : ∀ p ∈ lawK ns, ∀ c ∈ p.2, c < 0x110000
  empty : (txK (lawK ns)).lookup [] = none
  fit : replFit (uneSeq ((lawK ns).map tbK)) (drGo ns).2
  une : replAll (uneSeq ((lawK ns).map tbK)) (drGo ns).2 = lawR ns
  back : BackOk (lawR ns)
omit [Lo] in
structure LawG (G : Pg) : Prop where
  pre : PreG G
  draw : FnIs G "_law_draw" stLDraw
  doc : FnIs G "_law_doc" stLDoc
  back : FnIs G "_law_back" stLBack
  law : FnIs G "law" stLaw
omit [Lo] in
theorem refL_inj {a b : List Nat} (h : refL a = refL b) : a = b := by
  have h1 := List.cons.inj h
  exact List.append_cancel_right h1.2
omit [Lo] in
theorem not_before' {l : List (List Nat)} (h : l.Nodup) {k : Nat} {c : List Nat} (hc : l[k]? = some c) : c ∉ l.take k := by
  intro hm
  refine x1a1 (List.getElem?_of_mem hm) fun j hj => ?_
  have hlt : j < k := by
    have := (List.getElem?_eq_some_iff.mp hj).1
    rw [List.length_take] at this; lia
  rw [List.getElem?_take_of_lt hlt] at hj
  have := (List.getElem?_inj (by exact (List.getElem?_eq_some_iff.mp hj).1) h).mp (hj.trans hc.symm)
  lia
section
variable {prog : Program} {w : World} {G : Pg}
set_option maxHeartbeats 4000000
set_option maxRecDepth 8000
theorem walk_law (P : LawG G) {ns : List Int} (hl : ns.length ≤ 63) (h : LawOk ns) : FSpec0 prog w G 6 "law" [.list (AV.ints ns)] (.ok (.bool true)) := by
  refine x4a1 (P.law) fun a pm cd doc hf => ?_
  refine x4a1 (P.draw) fun aD pmD cdD docD hD => ?_
  refine x4a1 (P.pre.name) fun aN pmN cdN docN hN => ?_
  refine x4a1 (P.pre.known) fun aK pmK cdK docK hK => ?_
  refine x4a1 (P.pre.puny.puny) fun aP pmP cdP docP hP => ?_
  refine x4a1 (P.doc) fun aO pmO cdO docO hO => ?_
  refine x4a1 (P.back) fun aB pmB cdB docB hB => ?_
  obtain ⟨aU, pmU, cdU, docU, tU, otU, nU, dU, odU, hU, -⟩ := P.pre.sax.une.ex
  obtain ⟨hnl, hnm, hdl, hrd, hnd, hsmall, hempty, hfit, hune, hback⟩ := h
  have w0 := walk_draw (prog := prog) (w := w) P.pre P.draw hl
  have w1 := walk_known (prog := prog) (w := w) P.pre hnm hnl
  have hkl : (lawK ns).length ≤ (drGo ns).1.length := knS_len (drGo ns).1
  have w2 := walk_doc (prog := prog) (w := w) P.pre P.doc (K := lawK ns) hdl (by lia) hempty (by have := hback.len; unfold lawR at this; lia)
  have w3 := walk_une (prog := prog) (w := w) P.pre.sax hfit (by rw [List.length_map]; lia)
  have w4 := walk_back (prog := prog) (w := w) P.pre P.back hback
  rw [hune] at w3
  have e0 : outs (txK (lawK ns)) (tkGo (lkK (lawK ns)) 0 (drGo ns).2) = lawR ns := rfl
  rw [e0] at w2
  generalize lawR ns = R at w2 w3 w4
  unfold lawK at hrd hnd hsmall w2 w3 hkl
  generalize (drGo ns).1 = names at hnl hnm w0 w1 hrd hnd hsmall w2 w3 hkl
  generalize (drGo ns).2 = dc at hdl w0 w2 w3
  refine FSpec0.of hf (body := bodyOf stLaw) (ps := ["script"]) rfl (.plain fun vals hv => ?_) (fun A L T s B fr => ?_)
  · refine x1a1 (len1 hv) fun a e_0 => ?_; subst e_0; rfl
  refine Ex.assignT (xs := ["names", "doc"]) (EvX.ev (EvX.call w0 (.cons (Ev.name rfl) .nil) rfl rfl (Nat.le_of_ble_eq_true rfl) hD)) (.cons (.inl rfl) (.cons (.inl rfl) .nil)) rfl ?_
  have hall : (names.map fun _ => true).all id = true := by simp
  refine Ex.ite (Te.not (Te.value (Ev.callB (.cons (EvN.ev (EvN.mapC (σc := []) (ys := AV.bools (names.map fun _ => true)) (EvI.list (Ev.name rfl) rfl) ⟨rfl, rfl, by decide, by decide, rfl⟩ .nil rfl (by unfold AV.bools; rw [strs_len]; simp) (by rw [strs_len]; (clear hkl hl; lia)) (fun C D T₁ s₁ k v y hv hy => ?_)) ⟨fun _ q => (by cases q), fun q => (by cases q)⟩) .nil) call_all rfl rfl (P.pre.none _ (by simp)) boot_all nofun) (tru_bool _))) (fun hb => ?_) (fun hb => Ex.nil ?_)
  · refine x1a2 (strs_get hv) fun n hn e_0 => ?_; subst e_0
    unfold AV.bools at hy
    rw [List.getElem?_map, List.getElem?_map, hn] at hy
    simp only [Option.map_some, Option.some.injEq] at hy
    subst hy
    exact EvX.ev (EvX.call (walk_name P.pre (hnm n (List.mem_of_getElem? hn))) (.cons (Ev.name rfl) .nil) rfl rfl (Nat.le_refl 5) hN)
  · rw [hall] at hb
    cases hb
  refine Ex.assign (EvX.ev (EvX.call w1 (.cons (Ev.name rfl) .nil) rfl rfl (Nat.le_refl 5) hK)) (.inl rfl) ?_
  generalize knS names = K at hrd hnd hsmall w2 w3 hkl ⊢
  refine Ex.assign_dictC (σc := []) (fun k => sdv ((K.take k).map tbK)) rfl (EvI.keys (Ev.name rfl) rfl) ⟨rfl, rfl, by decide, by decide, rfl⟩ .nil (fun k _ => ?_) (fun C D T₁ s₁ k v hv => ?_) (.inl rfl) fun br => ?_
  · rw [sdv_len, List.length_map, List.length_take]; (clear hdl hl; lia)
  · rw [List.getElem?_map, List.getElem?_map] at hv
    cases hc : K[k]? with
    | none => rw [hc] at hv; cases hv
    | some p =>
    rw [hc] at hv
    simp only [Option.map_some, Option.some.injEq] at hv
    subst hv
    refine x0a2 (hrd p (List.mem_of_getElem? hc)) fun hpn hplr => ?_
    have hll := hpn.len
    have hdec := walk_dec_s (prog := prog) (w := w) P.pre (er := strictL) hpn
    have hdv : decOf strictL p.1 = .ok (.str p.2) := by unfold decOf; rw [hplr]; rfl
    rw [hdv] at hdec
    refine ⟨true, .nil, nofun, fun _ => ⟨refL p.1, .str p.2, ?_, EvX.ev (EvX.call hdec (.cons (Ev.name rfl) (.cons (Ev.cstr rfl) .nil)) rfl rfl (Nat.le_succ 4) hP), ?_⟩⟩
    · exact Ev.binop (Ev.binop (Ev.cstr (l := [38]) rfl) (Ev.name rfl) (bin_add_str (by simp; (clear hkl hnl hl; lia)))) (Ev.cstr (l := [59]) rfl) (bin_add_str (by simp; (clear hkl hdl hnl hl; lia)))
    · rw [putL_sdv, putS_new, List.take_succ, hc]
      · simp [tbK]
      · intro q hq e
        refine x1a2 (List.mem_map.mp hq) fun r hr e_0 => ?_; subst e_0
        have e1 : r.1 = p.1 := refL_inj e
        have hn1 : (K.map (·.1))[k]? = some p.1 := by rw [List.getElem?_map, hc]; rfl
        refine not_before' hnd hn1 ?_
        rw [← List.map_take, ← e1]
        exact List.mem_map.mpr ⟨r, hr, rfl⟩
  have hkk : ((sdv K).map fun p => AV.str p.1).length = K.length := by rw [List.length_map, sdv_len]
  rw [hkk, List.take_length]
  refine ExT.freeze (x := "table") rfl ?_
  have htl : (sdv (K.map tbK)).length ≤ 16777216 := by rw [sdv_len, List.length_map]; (clear hkk hdl hl; lia)
  refine Ex.assign (Ev.listItems (Ev.name rfl) rfl htl rfl (P.pre.none _ (by simp))) (.inl rfl) ?_
  refine Ex.assign (EvX.ev (EvX.call w2 (.cons (Ev.name rfl) (.cons (Ev.name rfl) .nil)) rfl rfl (Nat.le_of_ble_eq_true rfl) hO)) (.inl rfl) ?_
  obtain ⟨ds, hds⟩ := py_items (D := K.map tbK) (fun p hp => by
    refine x1a2 (List.mem_map.mp hp) fun q hq e_0 => ?_; subst e_0
    refine ⟨fun d hd => ?_, fun d hd => hsmall q hq d hd⟩
    have hd : d = 38 ∨ d ∈ q.1 ∨ d = 59 := by simpa [tbK, refL] using hd
    rcases hd with hd | hd | hd
    · (clear htl hkk hkl hdl hnl hl; lia)
    · have := (letters_ok d ((hrd q hq).1.letters d hd)).1; (clear htl hkk hkl hdl hnl hl; lia)
    · (clear htl hkk hkl hdl hnl hl; lia))
  have hpy := Py.list hds
  refine Ex.ret (Ev.and_cons (Ev.cmp (EvX.ev (EvX.call w3 (.cons (Ev.name rfl) (.cons (Ev.name rfl) .nil)) rfl rfl (Nat.le_of_ble_eq_true rfl) hU)) (Ev.name rfl) cmp_eq_str) fun _ => Ev.and_cons (Ev.cmp (Ev.listItems (Ev.name rfl) rfl htl rfl (P.pre.none _ (by simp))) (Ev.name rfl) (cmp_eq_deep hpy hpy)) fun _ => Ev.and_one (EvX.ev (EvX.call w4 (.cons (Ev.name rfl) .nil) rfl rfl (Nat.le_refl 5) hB))) ?_
  rw [Py.eqv_self hpy]
  show Except.ok _ = Except.ok _
  simp
end
end Mine
namespace Mine
open PySem
variable [Lo]
omit [Lo] in
theorem putAllS_lookup (n : List Nat) : ∀ (K acc : Voc), (K.map (·.1)).Nodup → (putAllS K acc).lookup n = (K.lookup n).or (acc.lookup n)
  | [], acc, _ => rfl
  | p :: K, acc, h => by
    rw [List.map_cons, List.nodup_cons] at h
    show (putAllS K (putS acc p.1 p.2)).lookup n = _
    rw [putAllS_lookup n K _ h.2, putS_lookup, List.lookup_cons]
    by_cases hn : n = p.1
    · subst hn
      have : K.lookup p.1 = none := by
        cases e : K.lookup p.1 with
        | none => rfl
        | some v =>
          refine x2a2 (List.lookup_eq_some_iff.mp e) fun l₁ l₂ hK _ => ?_
          exact absurd (List.mem_map.mpr ⟨(p.1, v), by rw [hK]; simp, rfl⟩) h.1
      rw [this]; simp
    · rw [beq_false_of_ne hn, if_neg hn]
omit [Lo] in
noncomputable def seqV (D : Voc) : Voc := ((ltN, [60]) :: (gtN, [62]) :: D) ++ [(ampN, [38])]
omit [Lo] in
theorem txK_lookup {K : Voc} (h : (K.map (·.1)).Nodup) (n : List Nat) : (txK K).lookup n = (seqV K).lookup n := by
  unfold txK seqV
  rw [putS_lookup, putS_lookup, putAllS_lookup n K _ h, lookup_snoc, List.lookup_cons, List.lookup_cons, List.lookup_cons]
  by_cases h1 : n = ltN
  · subst h1; rfl
  by_cases h2 : n = gtN
  · subst h2; rfl
  rw [if_neg h2, if_neg h1, beq_false_of_ne h1, beq_false_of_ne h2]
  dsimp only
  by_cases h3 : n = ampN
  · subst h3; simp
  · rw [beq_false_of_ne h3, if_neg h3]; rfl
omit [Lo] in
theorem outs_ext {V W : Voc} (h : ∀ n, V.lookup n = W.lookup n) (ts : List Tk) : outs V ts = outs W ts := by
  have : outT V = outT W := by
    funext t
    cases t with
    | ch c => rfl
    | rf n => simp only [outT, h n]
  unfold outs; rw [this]
omit [Lo] in
noncomputable def keyd (D : Voc) : Voc := D.map fun p => (refL p.1, p.2)
omit [Lo] in
theorem uneSeq_keyd (D : Voc) : uneSeq (D.map tbK) = keyd (seqV D) := by
  unfold uneSeq seqV keyd
  rw [List.map_append]
  rfl
omit [Lo] in
theorem refL_ne (k : List Nat) : refL k ≠ [] := by simp [refL]
omit [Lo] in
theorem refL_nev {k v : List Nat} (h : VOk v ∨ v = [38]) : refL k ≠ v := by
  intro q
  rcases h with h | h
  · have := h.2 38 (by rw [← q]; simp [refL]); lia
  · have := congrArg List.length q
    rw [refL_len, h] at this
    simp at this
omit [Lo] in
theorem seq_outs {Kn : List (List Nat)} {ts : List Tk} (hts : TsOk Kn ts) (hraw : (outs [] ts).length ≤ 1000) : ∀ (D V : Voc), VsOk V → (∀ p ∈ D, VOk p.2 ∧ Nm p.1 ∧ p.1 ∈ Kn) → (∀ p ∈ V ++ D, p.2.length ≤ p.1.length + 2) → (∀ p ∈ D, p.2.length ≤ 1000) →
    replAll (keyd D) (outs V ts) = outs (V ++ D) ts ∧ replFit (keyd D) (outs V ts)
  | [], V, _, _, _, _ => by rw [List.append_nil]; exact ⟨rfl, trivial⟩
  | p :: D, V, hV, hD, hs, hb => by
    refine x0a3 (hD p List.mem_cons_self) fun h1 h2 h3 => ?_
    have hstep : repl (outs V ts) (refL p.1) p.2 = outs (V ++ [p]) ts := by rw [repl_eq (refL_ne _)]; exact rgo_outs hV h2 h3 ts hts
    have e : V ++ [p] ++ D = V ++ p :: D := by simp
    have ih := seq_outs hts hraw D (V ++ [p]) (fun q hq => by
      rcases List.mem_append.mp hq with hq | hq
      · exact hV q hq
      · rw [List.mem_singleton.mp hq]; exact h1) (fun q hq => hD q (List.mem_cons_of_mem _ hq)) (by rw [e]; exact hs) (fun q hq => hb q (List.mem_cons_of_mem _ hq))
    rw [e] at ih
    have hl := outs_len (V := V) (fun q hq => hs q (List.mem_append_left _ hq)) ts
    have hp := hb p List.mem_cons_self
    have hf : Fit1 (outs V ts) (refL p.1) p.2 := by
      refine ⟨refL_nev (.inl h1), ?_⟩
      have : ((outs V ts).length + 1) * p.2.length ≤ 1001 * 1000 := Nat.mul_le_mul (by (clear hp; lia)) hp
      lia
    refine ⟨?_, hf, ?_⟩
    · show replAll (keyd D) (repl (outs V ts) (refL p.1) p.2) = _
      rw [hstep]; exact ih.1
    · show replFit (keyd D) (repl (outs V ts) (refL p.1) p.2)
      rw [hstep]; exact ih.2
omit [Lo] in
theorem keyd_append (D E : Voc) : keyd (D ++ E) = keyd D ++ keyd E := List.map_append ..
omit [Lo] in
theorem une_outs {Kn : List (List Nat)} {ts : List Tk} (hts : TsOk Kn ts) (hraw : (outs [] ts).length ≤ 1000) {D : Voc} (hD : ∀ p ∈ D, VOk p.2 ∧ Nm p.1 ∧ p.1 ∈ Kn ∧ p.2.length ≤ p.1.length + 2 ∧ p.2.length ≤ 1000) (hlt : ltN ∈ Kn) (hgt : gtN ∈ Kn) (hamp : ampN ∈ Kn) :
    replAll (uneSeq (D.map tbK)) (outs [] ts) = outs (seqV D) ts ∧ replFit (uneSeq (D.map tbK)) (outs [] ts) := by
  have nl : Nm ltN := by unfold Nm Lt; decide
  have ng : Nm gtN := by unfold Nm Lt; decide
  have na : Nm ampN := by unfold Nm Lt; decide
  have hall : ∀ p ∈ (ltN, [60]) :: (gtN, [62]) :: D, VOk p.2 ∧ Nm p.1 ∧ p.1 ∈ Kn ∧ p.2.length ≤ p.1.length + 2 ∧ p.2.length ≤ 1000 := by
    intro p hp
    rcases List.mem_cons.mp hp with rfl | hp
    · exact ⟨⟨by simp, by simp⟩, nl, hlt, by simp, by simp⟩
    rcases List.mem_cons.mp hp with rfl | hp
    · exact ⟨⟨by simp, by simp⟩, ng, hgt, by simp, by simp⟩
    · exact hD p hp
  have h1 := seq_outs hts hraw ((ltN, [60]) :: (gtN, [62]) :: D) [] (fun p hp => by cases hp) (fun p hp => ⟨(hall p hp).1, (hall p hp).2.1, (hall p hp).2.2.1⟩) (fun p hp => (hall p hp).2.2.2.1) (fun p hp => (hall p hp).2.2.2.2)
  rw [List.nil_append] at h1
  have hV : VsOk ((ltN, [60]) :: (gtN, [62]) :: D) := fun p hp => (hall p hp).1
  have hl := outs_len (V := (ltN, [60]) :: (gtN, [62]) :: D) (fun q hq => (hall q hq).2.2.2.1) ts
  rw [uneSeq_keyd]
  unfold seqV
  rw [keyd_append, replAll_append, replFit_append, h1.1]
  have hlast : repl (outs ((ltN, [60]) :: (gtN, [62]) :: D) ts) (refL ampN) [38] = outs ((ltN, [60]) :: (gtN, [62]) :: D ++ [(ampN, [38])]) ts := by rw [repl_eq (refL_ne _)]; exact rgo_outs hV na hamp ts hts
  refine ⟨hlast, h1.2, ⟨refL_nev (.inr rfl), ?_⟩, trivial⟩
  simp only [List.length_cons, List.length_nil]
  lia
end Mine
namespace Mine
open PySem
variable [Lo]
omit [Lo] in
theorem letters_lt : ∀ c ∈ lettersL, Lt c := by unfold Lt; decide +kernel
omit [Lo] in
theorem NmGood.nm {n : List Nat} (h : NmGood n) : Nm n := fun c hc => letters_lt c (h.letters c hc)
omit [Lo] in
structure KOk (K : Voc) : Prop where
  nd : (K.map (·.1)).Nodup
  rd : ∀ p ∈ K, Mine.lr p.1 = (p.2, true)
  good : ∀ p ∈ K, NmGood p.1
theorem KOk.val {K : Voc} (h : KOk K) {p : List Nat × List Nat} (hp : p ∈ K) : VOk p.2 ∧ (∀ c ∈ p.2, 128 ≤ c ∧ c ≤ 46785) ∧ p.2.length ≤ 3 ∧ p.2.length ≤ p.1.length := by
  have g := (h.good p hp).lr
  have e := h.rd p hp
  rw [e] at g
  have hl := (h.good p hp).len
  have g3 := g.2.2 rfl
  exact ⟨⟨g3, fun c hc => .inr (.inr (g.1 c hc).1)⟩, g.1, by have := g.2.1; dsimp only at this; omega, g.2.1⟩
omit [Lo] in
theorem lookup_mem {V : Voc} {n v : List Nat} (h : V.lookup n = some v) : (n, v) ∈ V := by
  refine x2a2 (List.lookup_eq_some_iff.mp h) fun l₁ l₂ e_0 _ => ?_; subst e_0
  simp
omit [Lo] in
theorem mem_seqV {K : Voc} {p : List Nat × List Nat} (h : p ∈ seqV K) : p = (ltN, [60]) ∨ p = (gtN, [62]) ∨ p ∈ K ∨ p = (ampN, [38]) := by
  unfold seqV at h
  rcases List.mem_append.mp h with h | h
  · rcases List.mem_cons.mp h with h | h
    · exact .inl h
    rcases List.mem_cons.mp h with h | h
    · exact .inr (.inl h)
    · exact .inr (.inr (.inl h))
  · exact .inr (.inr (.inr (List.mem_singleton.mp h)))
omit [Lo] in
noncomputable def keysK (K : Voc) : List (List Nat) := ltN :: gtN :: ampN :: K.map (·.1)
omit [Lo] in
theorem special_nm : Nm ltN ∧ Nm gtN ∧ Nm ampN := by unfold Nm Lt; decide
omit [Lo] in
theorem lookup_some_of_mem {K : Voc} {n : List Nat} (h : n ∈ K.map (·.1)) : (K.lookup n).isSome = true := by
  induction K with
  | nil => cases h
  | cons p K ih =>
    rw [List.lookup_cons]
    by_cases e : n = p.1
    · subst e; simp
    · rw [beq_false_of_ne e]
      rw [List.map_cons] at h
      rcases List.mem_cons.mp h with h | h
      · exact absurd h e
      · exact ih h
omit [Lo] in
theorem doc_ts {K : Voc} (h : KOk K) (doc : List Nat) : TsOk (keysK K) (tkGo (lkK K) 0 doc) := by
  refine ok_tk (fun n hn => ?_) (fun n hn => ?_) _ doc rfl
  · have hl : lkK K n = ((seqV K).lookup n).isSome := by unfold lkK; rw [txK_lookup h.nd]
    rw [hl]
    unfold seqV
    rw [lookup_snoc, List.lookup_cons, List.lookup_cons]
    unfold keysK at hn
    rcases List.mem_cons.mp hn with rfl | hn
    · exact ⟨rfl, special_nm.1⟩
    rcases List.mem_cons.mp hn with rfl | hn
    · exact ⟨rfl, special_nm.2.1⟩
    rcases List.mem_cons.mp hn with rfl | hn
    · refine ⟨?_, special_nm.2.2⟩
      rw [if_pos rfl, Option.isSome_or]; simp
    · refine x1a2 (List.mem_map.mp hn) fun p hp e_0 => ?_; subst e_0
      refine ⟨?_, (h.good p hp).nm⟩
      have hs := lookup_some_of_mem hn
      rw [Option.isSome_or]
      by_cases e1 : p.1 = ltN
      · rw [e1]; rfl
      by_cases e2 : p.1 = gtN
      · rw [e2]; rfl
      rw [beq_false_of_ne e1, beq_false_of_ne e2]
      dsimp only
      rw [hs]; rfl
  · have hl : lkK K n = ((seqV K).lookup n).isSome := by unfold lkK; rw [txK_lookup h.nd]
    rw [hl] at hn
    refine x1a1 (Option.isSome_iff_exists.mp hn) fun v hv => ?_
    rcases mem_seqV (lookup_mem hv) with e | e | e | e
    · rw [(Prod.mk.inj e).1]; exact special_nm.1
    · rw [(Prod.mk.inj e).1]; exact special_nm.2.1
    · exact (h.good _ e).nm
    · rw [(Prod.mk.inj e).1]; exact special_nm.2.2
theorem une_doc {K : Voc} (h : KOk K) {doc : List Nat} (hd : doc.length ≤ 1000) :
    replAll (uneSeq (K.map tbK)) doc = outs (txK K) (tkGo (lkK K) 0 doc) ∧ replFit (uneSeq (K.map tbK)) doc := by
  have hraw := raw_tk (lkK K) _ doc rfl
  have := une_outs (doc_ts h doc) (by rw [hraw]; exact hd) (D := K) (fun p hp => by
    refine x0a4 (h.val hp) fun g1 g2 g3 g4 => ?_
    exact ⟨g1, (h.good p hp).nm, List.mem_cons_of_mem _ (List.mem_cons_of_mem _ (List.mem_cons_of_mem _ (List.mem_map.mpr ⟨p, hp, rfl⟩))), by lia, by (clear hd; lia)⟩)
    List.mem_cons_self (List.mem_cons_of_mem _ List.mem_cons_self) (List.mem_cons_of_mem _ (List.mem_cons_of_mem _ List.mem_cons_self))
  rw [hraw] at this
  rw [outs_ext (txK_lookup h.nd)]
  exact this
omit [Lo] in
theorem mem_outs {V : Voc} {c : Nat} : ∀ {ts : List Tk}, c ∈ outs V ts → (c ∈ outs [] ts) ∨ ∃ p ∈ V, c ∈ p.2
  | [], h => by cases h
  | t :: ts, h => by
    rw [outs_cons] at h
    rcases List.mem_append.mp h with h | h
    · cases t with
      | ch d => exact .inl (by rw [outs_cons]; exact List.mem_append_left _ h)
      | rf n =>
        cases e : V.lookup n with
        | none =>
          simp only [outT, e] at h
          exact .inl (by rw [outs_cons]; exact List.mem_append_left _ (by simpa [outT] using h))
        | some v =>
          simp only [outT, e] at h
          exact .inr ⟨_, lookup_mem e, h⟩
    · rcases mem_outs h with h | h
      · exact .inl (by rw [outs_cons]; exact List.mem_append_right _ h)
      · exact .inr h
theorem read_facts {K : Voc} (h : KOk K) {doc : List Nat} (hd : doc.length ≤ 110) (hs : ∀ c ∈ doc, c ≤ 32013) :
    (outs (txK K) (tkGo (lkK K) 0 doc)).length ≤ 110 ∧ ∀ c ∈ outs (txK K) (tkGo (lkK K) 0 doc), c ≤ 100000 := by
  have hraw := raw_tk (lkK K) _ doc rfl
  rw [outs_ext (txK_lookup h.nd)]
  refine ⟨?_, fun c hc => ?_⟩
  · have := outs_len (V := seqV K) (fun p hp => by
      rcases mem_seqV hp with rfl | rfl | hp | rfl
      · decide
      · decide
      · have := (h.val hp).2.2.2; lia
      · decide) (tkGo (lkK K) 0 doc)
    rw [hraw] at this
    lia
  · rcases mem_outs hc with hc | ⟨p, hp, hc⟩
    · rw [hraw] at hc
      have := hs c hc; (clear hd; lia)
    · rcases mem_seqV hp with rfl | rfl | hp | rfl
      · have : c = 60 := by simpa using hc
        (clear hd; lia)
      · have : c = 62 := by simpa using hc
        (clear hd; lia)
      · have := (h.val hp).2.1 c hc; (clear hd; lia)
      · have : c = 38 := by simpa using hc
        (clear hd; lia)
end Mine
namespace Mine
open PySem
variable [Lo]
omit [Lo] in
noncomputable def sub1 (c : Nat) (z : List Nat) (d : Nat) : List Nat := if d = c then z else [d]
omit [Lo] in
theorem rgo_char (c : Nat) (z : List Nat) : ∀ l : List Nat, rgo [c] z 0 l = (l.map (sub1 c z)).flatten
  | [] => rfl
  | d :: l => by
    rw [List.map_cons, List.flatten_cons]
    unfold sub1
    by_cases h : d = c
    · subst h
      rw [rgo_hit (by simp) (by simp), if_pos rfl]
      show z ++ rgo [d] z 0 l = _
      rw [rgo_char d z l]; rfl
    · rw [rgo_miss (by simpa using h), if_neg h, rgo_char c z l]; rfl
omit [Lo] in
theorem flat_flat (f : Nat → List Nat) (g : Nat → List Nat) : ∀ R : List Nat, (((R.map f).flatten).map g).flatten = (R.map fun d => ((f d).map g).flatten).flatten
  | [] => rfl
  | d :: R => by
    rw [List.map_cons, List.flatten_cons, List.map_append, List.flatten_append, flat_flat f g R]; rfl
omit [Lo] in
theorem sub1_none {c : Nat} {z : List Nat} : ∀ {l : List Nat}, c ∉ l → (l.map (sub1 c z)).flatten = l
  | [], _ => rfl
  | d :: l, h => by
    have hd : d ≠ c := fun q => h (q ▸ List.mem_cons_self)
    rw [List.map_cons, List.flatten_cons, sub1_none fun q => h (List.mem_cons_of_mem _ q)]
    unfold sub1; rw [if_neg hd]; rfl
omit [Lo] in
noncomputable def fL (L : List Nat) (d : Nat) : List Nat := if d ∈ L then wr d else [d]
omit [Lo] in
theorem esc_one {R L : List Nat} {c : Nat} (hc : c ∉ L) (hw : ∀ d ∈ L, c ∉ wr d) : repl ((R.map (fL L)).flatten) [c] (wr c) = (R.map (fL (L ++ [c]))).flatten := by
  rw [repl_eq (by simp), rgo_char, flat_flat]
  congr 1
  apply List.map_congr_left
  intro d _
  unfold fL
  by_cases h : d ∈ L
  · rw [if_pos h, if_pos (List.mem_append_left _ h), sub1_none (hw d h)]
  · rw [if_neg h]
    by_cases e : d = c
    · subst e
      rw [if_pos (by simp)]; simp [sub1]
    · rw [if_neg (by simp [h, e])]; simp [sub1, e]
omit [Lo] in
theorem flat_len {f : Nat → List Nat} {B : Nat} (h : ∀ d, (f d).length ≤ B) : ∀ R : List Nat, ((R.map f).flatten).length ≤ R.length * B
  | [] => by simp
  | d :: R => by
    rw [List.map_cons, List.flatten_cons, List.length_append, List.length_cons, Nat.succ_mul]
    have := flat_len h R
    have := h d
    lia
omit [Lo] in
theorem esc_seq {R : List Nat} {B : Nat} (hR : R.length ≤ 200) (hB : B ≤ 200) (h1 : 1 ≤ B) : ∀ (Cs L : List Nat), (∀ d ∈ L ++ Cs, (wr d).length ≤ B) → Cs.Nodup → (∀ c ∈ Cs, c ∉ L) → (∀ c ∈ Cs, ∀ d ∈ L ++ Cs, c ∉ wr d ∨ (L = [] ∧ Cs.head? = some c)) → (∀ c ∈ Cs, 2 ≤ (wr c).length) →
    replAll (Cs.map fun c => ([c], wr c)) ((R.map (fL L)).flatten) = (R.map (fL (L ++ Cs))).flatten ∧ replFit (Cs.map fun c => ([c], wr c)) ((R.map (fL L)).flatten)
  | [], L, _, _, _, _, _ => by rw [List.append_nil]; exact ⟨rfl, trivial⟩
  | c :: Cs, L, hw2, hn, hd, hw, h2 => by
    rw [List.nodup_cons] at hn
    have hcL := hd c List.mem_cons_self
    have hstep := esc_one (R := R) hcL (fun d hdL => by
      rcases hw c List.mem_cons_self d (List.mem_append_left _ hdL) with h | ⟨h, _⟩
      · exact h
      · rw [h] at hdL; cases hdL)
    have e : L ++ [c] ++ Cs = L ++ c :: Cs := by simp
    have ih := esc_seq hR hB h1 Cs (L ++ [c]) (by rw [e]; exact hw2) hn.2 (fun d hdC q => by
      rcases List.mem_append.mp q with q | q
      · exact hd d (List.mem_cons_of_mem _ hdC) q
      · rw [List.mem_singleton.mp q] at hdC; exact hn.1 hdC) (fun d hdC x hx => by
      rw [e] at hx
      rcases hw d (List.mem_cons_of_mem _ hdC) x hx with h | ⟨_, h⟩
      · exact .inl h
      · simp at h; rw [← h] at hdC; exact absurd hdC hn.1) (fun d hdC => h2 d (List.mem_cons_of_mem _ hdC))
    rw [e] at ih
    have hlen := flat_len (f := fL L) (B := B) (fun d => by
      unfold fL
      split
      · rename_i hdL; exact hw2 d (List.mem_append_left _ hdL)
      · simpa using h1) R
    have hlen2 : R.length * B ≤ 200 * 200 := Nat.mul_le_mul hR hB
    have hfit : Fit1 ((R.map (fL L)).flatten) [c] (wr c) := by
      refine ⟨fun q => ?_, ?_⟩
      · have := h2 c List.mem_cons_self
        rw [← q] at this; simp at this
      · have : ((R.map (fL L)).flatten.length + 1) * (wr c).length ≤ 40001 * 200 := Nat.mul_le_mul (by lia) (Nat.le_trans (hw2 c (by simp)) hB)
        lia
    rw [List.map_cons]
    refine ⟨?_, hfit, ?_⟩
    · show replAll _ (repl ((R.map (fL L)).flatten) [c] (wr c)) = _
      rw [hstep]; exact ih.1
    · show replFit _ (repl ((R.map (fL L)).flatten) [c] (wr c))
      rw [hstep]; exact ih.2
theorem lr_lt : Mine.lr ltN = ([], false) := by
  unfold Mine.lr
  have e : ltN.map fig = [11, 19] := by decide +kernel
  have r : readN ((72 : Nat) : Int) 0 ([11, 19].drop 0) = none := by decide
  rw [e, lrGo_eq, dif_pos (by decide), r]
theorem lr_gt : Mine.lr gtN = ([], false) := by
  unfold Mine.lr
  have e : gtN.map fig = [6, 19] := by decide +kernel
  have r : readN ((72 : Nat) : Int) 0 ([6, 19].drop 0) = none := by decide
  rw [e, lrGo_eq, dif_pos (by decide), r]
theorem lr_amp (c : Nat) : Mine.lr ampN ≠ ([c], true) := by
  unfold Mine.lr
  have e : ampN.map fig = [0, 12, 15] := by decide +kernel
  have r : readN ((72 : Nat) : Int) 0 ([0, 12, 15].drop 0) = some (1, 0) := by decide
  rw [e, lrGo_eq, dif_pos (by decide), r]
  dsimp only
  rw [dif_pos (by decide)]
  intro q
  have := lrGo_facts (M := 46785) (fs := [0, 12, 15]) (by decide) 2 1 [128] 128 1 (adp 0 true 1) (by decide) (by decide) (by decide) (by decide) (by decide) (by decide)
  have e2 : lrGo [0, 12, 15] [128] 128 1 (adp 0 true 1) 1 = ([c], true) := q
  rw [e2] at this
  have := this.more (by decide) rfl
  simp at this
end Mine
namespace Mine
open PySem
variable [Lo]
section
variable {R : List Nat}
omit [Lo] in
structure RdOk (R : List Nat) : Prop where
  len : R.length ≤ 110
  small : ∀ c ∈ R, c ≤ 100000
theorem lab_facts {c : Nat} (h1 : 127 < c) (h2 : c ≤ 100000) : NmOk (lab c) ∧ Mine.lr (lab c) = ([c], true) ∧ (∀ o ∈ lab c, (97 ≤ o ∧ o ≤ 122) ∨ (48 ≤ o ∧ o ≤ 57)) ∧ (lab c).length ≤ 7 := by
  refine x0a3 (num_facts (N := c - 128) (by omega)) fun g1 g2 g3 => ?_
  rw [show 128 + (c - 128) = c by omega] at g2
  exact ⟨g1, g2, g3, by unfold lab labF; rw [List.length_map]; exact numl_short 72 6 _ 0 (by omega)⟩
omit [Lo] in
theorem RdOk.uq (h : RdOk R) {c : Nat} (hc : c ∈ uq R) : 127 < c ∧ c ≤ 100000 := ⟨(uq_mem.mp hc).2, h.small c (uq_mem.mp hc).1⟩
omit [Lo] in
noncomputable def tkOf (c : Nat) : Tk := if c = 38 then .rf ampN else if c = 60 then .rf ltN else if c = 62 then .rf gtN else if 127 < c then .rf (lab c) else .ch c
omit [Lo] in
theorem wr_tk (c : Nat) : outT [] (tkOf c) = wr c := by
  unfold tkOf wr
  split
  · rfl
  split
  · rfl
  split
  · rfl
  split
  · rfl
  · rfl
omit [Lo] in
theorem written_tk (R : List Nat) : outs [] (R.map tkOf) = (R.map wr).flatten := by
  unfold outs
  rw [List.map_map]
  congr 1
  exact List.map_congr_left fun c _ => wr_tk c
omit [Lo] in
theorem al_nm {l : List Nat} (h : ∀ o ∈ l, (97 ≤ o ∧ o ≤ 122) ∨ (48 ≤ o ∧ o ≤ 57)) : Nm l := fun o ho => by have := h o ho; unfold Lt; lia
theorem tk_ok {Kn : List (List Nat)} : ∀ {R : List Nat}, (∀ c ∈ R, c ≤ 100000) → TsOk Kn (R.map tkOf)
  | [], _ => trivial
  | c :: R, h => by
    have ih := tk_ok (Kn := Kn) (R := R) fun d hd => h d (List.mem_cons_of_mem _ hd)
    have hc := h c List.mem_cons_self
    rw [List.map_cons]
    unfold tkOf
    split
    · exact ⟨special_nm.2.2, ih⟩
    split
    · exact ⟨special_nm.1, ih⟩
    split
    · exact ⟨special_nm.2.1, ih⟩
    split
    · rename_i h1
      exact ⟨al_nm (lab_facts h1 hc).2.2.1, ih⟩
    · rename_i h1 _ _ _
      exact ⟨fun q => absurd q h1, ih⟩
omit [Lo] in
noncomputable def dU (R : List Nat) : Voc := (Mine.uq R).map fun c => (lab c, [c])
omit [Lo] in
theorem dU_tb (R : List Nat) : (dU R).map tbK = (Mine.uq R).map agnE := by unfold dU; rw [List.map_map]; rfl
theorem dU_lookup {U : List Nat} (hU : ∀ c ∈ U, 127 < c ∧ c ≤ 100000) {c : Nat} (hc : c ∈ U) : (U.map fun c => (lab c, [c])).lookup (lab c) = some [c] := by
  induction U with
  | nil => cases hc
  | cons d U ih =>
    rw [List.map_cons, List.lookup_cons]
    by_cases e : lab c = lab d
    · have h1 := (lab_facts (hU c hc).1 (hU c hc).2).2.1
      have h2 := (lab_facts (hU d List.mem_cons_self).1 (hU d List.mem_cons_self).2).2.1
      rw [e, h2] at h1
      have : d = c := by simpa using (Prod.mk.inj h1).1
      rw [e, this]; simp
    · rw [beq_false_of_ne e]
      rcases List.mem_cons.mp hc with hc | hc
      · exact absurd (hc ▸ rfl) e
      · exact ih (fun x hx => hU x (List.mem_cons_of_mem _ hx)) hc
theorem dU_none {U : List Nat} (hU : ∀ c ∈ U, 127 < c ∧ c ≤ 100000) : (U.map fun c => (lab c, [c])).lookup ampN = none := by
  cases e : (U.map fun c => (lab c, [c])).lookup ampN with
  | none => rfl
  | some v =>
    refine x1a2 (List.mem_map.mp (lookup_mem e)) fun c hc h => ?_
    have h1 := (lab_facts (hU c hc).1 (hU c hc).2).2.1
    rw [(Prod.mk.inj h).1] at h1
    exact absurd h1 (lr_amp c)
theorem tk_back (h : RdOk R) {c : Nat} (hc : c ∈ R) : outT (seqV (dU R)) (tkOf c) = [c] := by
  have hU : ∀ c ∈ Mine.uq R, 127 < c ∧ c ≤ 100000 := fun c hc => h.uq hc
  unfold tkOf
  split
  · rename_i e; subst e
    have : (seqV (dU R)).lookup ampN = some [38] := by
      unfold seqV
      rw [lookup_snoc, if_pos rfl, List.lookup_cons, beq_false_of_ne (by decide), List.lookup_cons, beq_false_of_ne (by decide)]
      dsimp only
      unfold dU
      rw [dU_none hU]; rfl
    simp only [outT, this]
  split
  · rename_i e; subst e; rfl
  split
  · rename_i e; subst e; rfl
  split
  · rename_i h1
    have hm : c ∈ Mine.uq R := uq_mem.mpr ⟨hc, h1⟩
    have hl := (lab_facts h1 (h.small c hc)).2.1
    have n1 : lab c ≠ ltN := fun q => by rw [q, lr_lt] at hl; cases hl
    have n2 : lab c ≠ gtN := fun q => by rw [q, lr_gt] at hl; cases hl
    have : (seqV (dU R)).lookup (lab c) = some [c] := by
      unfold seqV
      rw [lookup_snoc, List.lookup_cons, beq_false_of_ne n1, List.lookup_cons, beq_false_of_ne n2]
      dsimp only
      unfold dU
      rw [dU_lookup hU hm]; rfl
    simp only [outT, this]
  · rfl
theorem outs_back (h : RdOk R) : outs (seqV (dU R)) (R.map tkOf) = R := by
  unfold outs
  rw [List.map_map]
  have : R.map (outT (seqV (dU R)) ∘ tkOf) = R.map fun c => [c] := List.map_congr_left fun c hc => tk_back h hc
  rw [this]
  exact ones_flat R
theorem wr_len (h : RdOk R) {c : Nat} (hc : c ∈ R) : (wr c).length ≤ 9 := by
  unfold wr
  split
  · decide
  split
  · decide
  split
  · decide
  split
  · rename_i h1
    have := (lab_facts h1 (h.small c hc)).2.2.2
    rw [refL_len]; lia
  · simp
omit [Lo] in
theorem flat_lenR {f : Nat → List Nat} {B : Nat} : ∀ R : List Nat, (∀ d ∈ R, (f d).length ≤ B) → ((R.map f).flatten).length ≤ R.length * B
  | [], _ => by simp
  | d :: R, h => by
    rw [List.map_cons, List.flatten_cons, List.length_append, List.length_cons, Nat.succ_mul]
    have := flat_lenR R fun x hx => h x (List.mem_cons_of_mem _ hx)
    have := h d List.mem_cons_self
    omega
theorem written_len (h : RdOk R) : ((R.map wr).flatten).length ≤ 990 := by
  have h1 := flat_lenR (f := wr) (B := 9) R fun c hc => wr_len h hc
  have := h.len
  lia
theorem back_une (h : RdOk R) : replAll (uneSeq ((Mine.uq R).map agnE)) (R.map wr).flatten = R ∧ replFit (uneSeq ((Mine.uq R).map agnE)) (R.map wr).flatten := by
  have hl := written_len h
  have := une_outs (Kn := ltN :: gtN :: ampN :: (Mine.uq R).map lab) (ts := R.map tkOf) (tk_ok h.small) (by rw [written_tk]; lia) (D := dU R) (fun p hp => by
    refine x1a2 (List.mem_map.mp hp) fun c hc e_0 => ?_; subst e_0
    refine x0a2 (h.uq hc) fun h1 h2 => ?_
    refine ⟨⟨by simp, fun d hd => ?_⟩, al_nm (lab_facts h1 h2).2.2.1, ?_, by simp, by simp⟩
    · have : d = c := by simpa using hd
      (clear h2 hl; lia)
    · exact List.mem_cons_of_mem _ (List.mem_cons_of_mem _ (List.mem_cons_of_mem _ (List.mem_map.mpr ⟨c, hc, rfl⟩))))
    List.mem_cons_self (List.mem_cons_of_mem _ List.mem_cons_self) (List.mem_cons_of_mem _ (List.mem_cons_of_mem _ List.mem_cons_self))
  rw [written_tk, dU_tb, outs_back h] at this
  exact this
end
end Mine
namespace Mine
open PySem
variable [Lo]
section
variable {R : List Nat}
omit [Lo] in
noncomputable def full (R : List Nat) : List Nat := 38 :: 62 :: 60 :: Mine.uq R
omit [Lo] in
theorem wr_uq (h : RdOk R) {c : Nat} (hc : c ∈ Mine.uq R) : wr c = refL (lab c) := by
  have := (h.uq hc).1
  unfold wr
  rw [if_neg (by lia), if_neg (by lia), if_neg (by lia), if_pos this]
omit [Lo] in
theorem esc_full (h : RdOk R) : escSeq ((Mine.uq R).map tblE) = (full R).map fun c => ([c], wr c) := by
  unfold escSeq full
  have : (Mine.uq R).map tblE = (Mine.uq R).map fun c => ([c], wr c) := List.map_congr_left fun c hc => by rw [wr_uq h hc]; rfl
  rw [this]
  rfl
theorem wr_full (h : RdOk R) {d : Nat} (hd : d ∈ full R) : (∀ o ∈ wr d, o ≠ 60 ∧ o ≠ 62 ∧ o < 128) ∧ (wr d).length ≤ 9 ∧ 2 ≤ (wr d).length := by
  unfold full at hd
  rcases List.mem_cons.mp hd with rfl | hd
  · decide
  rcases List.mem_cons.mp hd with rfl | hd
  · decide
  rcases List.mem_cons.mp hd with rfl | hd
  · decide
  · rw [wr_uq h hd]
    refine x0a2 (h.uq hd) fun h1 h2 => ?_
    refine x0a4 (lab_facts h1 h2) fun e_0 e_1 g3 g4 => ?_; clear e_0; clear e_1
    refine ⟨fun o ho => ?_, by rw [refL_len]; lia, by rw [refL_len]; (clear g4; lia)⟩
    have ho : o = 38 ∨ o ∈ lab d ∨ o = 59 := by simpa [refL] using ho
    rcases ho with ho | ho | ho
    · (clear g4 h2 h1; lia)
    · have := g3 o ho; (clear g4 h2 h1; lia)
    · (clear g4 h2 h1; lia)
omit [Lo] in
theorem full_nodup (h : RdOk R) : (full R).Nodup := by
  have hu : ∀ c ∈ Mine.uq R, 127 < c := fun c hc => (h.uq hc).1
  unfold full
  rw [List.nodup_cons, List.nodup_cons, List.nodup_cons]
  refine ⟨fun q => ?_, fun q => ?_, fun q => ?_, uq_nodup R⟩
  · rcases List.mem_cons.mp q with q | q
    · omega
    rcases List.mem_cons.mp q with q | q
    · omega
    · have := hu _ q; omega
  · rcases List.mem_cons.mp q with q | q
    · omega
    · have := hu _ q; omega
  · have := hu _ q; omega
theorem back_esc (h : RdOk R) : replAll (escSeq ((Mine.uq R).map tblE)) R = (R.map wr).flatten ∧ replFit (escSeq ((Mine.uq R).map tblE)) R := by
  have key := esc_seq (R := R) (B := 9) (by have := h.len; lia) (by decide) (by decide) (full R) [] (fun d hd => (wr_full h hd).2.1) (full_nodup h) (fun _ _ q => by cases q) (fun c hc d hd => by
    have hd' : d ∈ full R := hd
    have hw := (wr_full h hd').1
    unfold full at hc
    rcases List.mem_cons.mp hc with rfl | hc
    · exact .inr ⟨rfl, rfl⟩
    refine .inl fun q => ?_
    have := hw c q
    rcases List.mem_cons.mp hc with rfl | hc
    · omega
    rcases List.mem_cons.mp hc with rfl | hc
    · lia
    · have := (h.uq hc).1; lia) (fun c hc => (wr_full h hc).2.2)
  have e0 : (R.map (fL [])).flatten = R := by
    have : R.map (fL []) = R.map fun c => [c] := List.map_congr_left fun c _ => by unfold fL; simp
    rw [this]; exact ones_flat R
  have e1 : (R.map (fL ([] ++ full R))).flatten = (R.map wr).flatten := by
    congr 1
    refine List.map_congr_left fun d hd => ?_
    unfold fL
    by_cases hm : d ∈ full R
    · rw [if_pos (by simpa using hm)]
    · rw [if_neg (by simpa using hm)]
      unfold full at hm
      simp only [List.mem_cons, not_or] at hm
      unfold wr
      rw [if_neg hm.1, if_neg hm.2.2.1, if_neg hm.2.1, if_neg fun q => hm.2.2.2 (uq_mem.mpr ⟨hd, q⟩)]
  rw [e0, e1] at key
  rw [esc_full h]
  exact key
theorem RdOk.back (h : RdOk R) : BackOk R where
  len := by have := h.len; lia
  small := h.small
  nm := fun c hc => (lab_facts (h.uq hc).1 (h.uq hc).2).1
  rd := fun c hc => (lab_facts (h.uq hc).1 (h.uq hc).2).2.1
  al := fun c hc => (lab_facts (h.uq hc).1 (h.uq hc).2).2.2.1
  fit1 := (back_esc h).2
  esc := (back_esc h).1
  fit2 := (back_une h).2
  une := (back_une h).1
  wlen := by have := written_len h; lia
end
theorem lawK_ok (ns : List Int) : KOk (lawK ns) := by
  refine x0a3 (dr_facts ns) fun e_0 e_1 hg => ?_; clear e_0; clear e_1
  refine x0a3 (kn_facts (names := (drGo ns).1) [] (by simp) (fun p hp => by cases hp) (fun p hp => by cases hp) hg.good) fun h1 h2 h3 => ?_
  exact ⟨h1, h2, h3⟩
theorem law_ok (ns : List Int) : LawOk ns := by
  refine x0a3 (dr_facts ns) fun h1 h2 hg => ?_
  have hK := lawK_ok ns
  have hu := une_doc hK (doc := (drGo ns).2) (by lia)
  have hr := read_facts hK h2 hg.small
  refine ⟨by lia, fun n hn => (hg.good n hn).ok, by lia, fun p hp => ⟨(hK.good p hp).ok, hK.rd p hp⟩, hK.nd, fun p hp c hc => by have := (hK.val hp).2.1 c hc; (clear hr h2 h1; lia), ?_, hu.2, hu.1, (RdOk.mk hr.1 hr.2).back⟩
  rw [txK_lookup hK.nd]
  unfold seqV
  rw [lookup_snoc, if_neg (by decide), List.lookup_cons, beq_false_of_ne (by decide), List.lookup_cons, beq_false_of_ne (by decide)]
  dsimp only
  rw [Option.or_none]
  cases e : (lawK ns).lookup [] with
  | none => rfl
  | some v => exact absurd rfl (hK.good _ (lookup_mem e)).ne
section
variable {prog : Program} {w : World} {G : Pg}
theorem law_true (P : LawG G) {ns : List Int} (hl : ns.length ≤ 63) : FSpec0 prog w G 6 "law" [.list (AV.ints ns)] (.ok (.bool true)) := walk_law P hl (law_ok ns)
end
end Mine
namespace Mine
open PySem PySem.Calls PySem.W PyProof.Rows
variable [Lo]
theorem law_head {prog : Program} {w : World} {G : Pg} (P : LawG G) {s : Shared} (hG : G.In s.heap) {a : Addr} {fd : FuncData} (hfn : G.fn "law" = some (a, fd)) (hnb : G.nb ≤ s.heap.objs.size) {vals : List Value} {ns : List Int}
    (rep : RepL w (fun _ => False) (fun _ => []) s.toks s.heap vals [.list (AV.ints ns)]) (hl : ns.length ≤ 63) :
    wq (model prog w) callerA (call (.ref a) vals) (fun v s' => v = .bool true ∧ ∃ T', Le (fun _ => []) s T' s') (fun _ _ => False) s := by
  refine wq_call ?_
  refine cq_mono (law_true P hl callerA [] (fun _ => []) s (fun _ => False) vals a fd hfn ⟨by decide, by decide, rfl⟩ rfl hG trivial (fun b q => q.elim) hnb rep) fun res s' h => ?_
  cases res with
  | ok fl =>
    cases fl with
    | ret v =>
      refine x2a3 h fun T' av e l r => ?_
      cases e
      cases r
      exact ⟨rfl, T', l⟩
    | _ => exact h.elim
  | error e => exact x3a4 h fun T' x b e1 _ _ _ => nomatch e1
end Mine
namespace Mine
open PySem PySem.Calls PySem.W PyProof.Rows
noncomputable abbrev callerΓ : Ctx := ⟨.builtin "claim.caller" {}, none, none, [], none⟩
theorem caller_clean : Clean callerΓ := ⟨⟨by decide +kernel, by decide +kernel⟩, fun x hx => by cases hx⟩
theorem ends_q {prog : Program} {w : World} {t : Sem Fin} {s : Shared} {R : Result → Shared → Prop} (hreg : s.asleep)
    (h : wq (model prog w) callerA t (fun fin s' => ∃ f, fin = .done f ∧ (R (.ok f) s' ∧ AllBare s'.gens)) (fun e s' => R (.error e) s' ∧ AllBare s'.gens) s) :
    ∃ n r s' s'', runN (denote table) prog w n s ⟨t, .builtin "claim.caller" {}, default, []⟩ = .halted (outcomeOf r) s' ∧
      schedN (denote table) prog w n (.single s ⟨t, .builtin "claim.caller" {}, default, []⟩) = .halted (outcomeOf r) s' ∧ s'.forget = s''.forget ∧ R r s'' := by
  have h1 : Sem.wp (model prog w) callerΓ t (Sem.finPost (model prog w) callerΓ fun r s' => R r s' ∧ leftWithCleanup s'.gens = false)
      (fun e _ s' => R (.error e) s' ∧ leftWithCleanup s'.gens = false) default s := by
    refine Sem.wp_mono _ _ t (fun fin p' s' x => ?_) (fun e _ s' x => ⟨x.1, leftWithCleanup_false_of_bare x.2⟩) default s (h callerΓ default caller_in caller_clean)
    refine x1a3 x fun f e_0 hf hg => ?_; (try clear x); subst e_0
    exact ⟨hf, leftWithCleanup_false_of_bare hg⟩
  refine x4a4 (wp_halts_full (M := model prog w) (R := R) hreg h1) fun n r s₁ s₂ hs hn hfo hR => ?_
  exact ⟨n, r, s₂, s₁, hn, hs, hfo, hR⟩
theorem x7a5 {α β γ δ ε ζ η : Type} {P Q R S T : α → β → γ → δ → ε → ζ → η → Prop} {H : Prop} (h : ∃ a b c d e f g, P a b c d e f g ∧ Q a b c d e f g ∧ R a b c d e f g ∧ S a b c d e f g ∧ T a b c d e f g)
    (kk : ∀ a b c d e f g, P a b c d e f g → Q a b c d e f g → R a b c d e f g → S a b c d e f g → T a b c d e f g → H) : H :=
  h.elim fun a h => h.elim fun b h => h.elim fun c h => h.elim fun d h => h.elim fun e h => h.elim fun f h => h.elim fun g h => kk a b c d e f g h.1 h.2.1 h.2.2.1 h.2.2.2.1 h.2.2.2.2
noncomputable abbrev WalkQ (q : Program) (loose : List Str) (XP : (Str → Option Value) → Heap → Prop) (YP : World → Heap → Prop) (r : RowW) (d : DefRec) (kwd : List (Str × Expr)) : Prop :=
  ∀ (w : World) (s₀ s₁ : Shared) (mg mb : Str → Option Value), Ground q loose r.records XP w s₀ mg mb s₁.heap → YP w s₁.heap → ∀ (a : Addr) (o : Obj) (pm cd doc dV kV : Value), s₁.heap.get? a = some o →
    o.data = .func { docDef d.name d.params d.body d.scope pm cd doc with defaults := dV, kwdefaults := kV } → s₁.heap.CodeRec cd d.name → Dflts mg s₁.heap d.params kwd dV kV → mg d.name = some (.ref a) → s₁.gens = #[] →
    ∀ (args : List WData) (vals : List Value) (as : List Addr), r.claim.pre args = true → WData.layableAll args = true → ReadsAllW r.records (classAt s₀.heap) s₁.heap vals args as → WellAll w.params s₁.heap vals args → (∀ a ∈ as, (a == sysModules) = false) →
      wq (model r.prog w) callerA (call (.ref a) vals) (fun v s' => GoodWG r.claim (classAt s₀.heap) (ExcName.means s₀.heap) args s₁ (.ok (.ret v)) s')
        (fun e s' => GoodWG r.claim (classAt s₀.heap) (ExcName.means s₀.heap) args s₁ (.error e) s') s₁
noncomputable def lawTree (name : Str) (vs : List Value) : Sem Fin := do
  match ← nsGet mainNs name with
  | some f => do ret (← PySem.call f vs)
  | none => unsupported "claim.caller:no-such-global"
theorem PySem.W.holds_open {r : OpenRow} {q : Program} {loose : List Str} {Xt : Shared → Bool} {XP : (Str → Option Value) → Heap → Prop} {α : Type} {Yf : Shared → α} {Ya : World → α} {YP : World → Heap → Prop} {d : DefRec} {kwd : List (Str × Expr)} {N : Nat}
    (left : LeftO r.prog q loose Xt Yf Ya N) (hY : ∀ w s, Yf s = Ya w → YP w s.heap) (hYk : ∀ w h h', YP w h → (∀ b o, h.get? b = some o → h'.get? b = some o) → YP w h')
    (hX : ∀ s, Xt s = true → XP (s.heap.nsMap mainGlobals) s.heap) (hXk : ∀ mg h h', XP mg h → (∀ b o, h.get? b = some o → h'.get? b = some o) → XP mg h')
    (hdef : defOf q r.name = some (d, kwd)) (hp : r.prog.theDef r.name = some (d.params, d.body, d.scope)) (hk : kwWritten? d.params.kwonlyargs d.params.kw_defaults = some kwd) (hRf : ∀ s, Xt s = true → RecFacts r.records s.heap) (hwr : (!r.writes || r.records.isEmpty) = true)
    (k1 : r.wellSaid = true) (ok : (chainsOk q && opensWell r.prog && (frees r.toRowW && r.within.isEmpty)) = true) (hb : r.prog.bare) (hw : r.toRowW.promised)
    (call : WalkQ q loose XP YP r.toRowW d kwd) : r.Holds := by
  have hch : chainsOk q = true := (Bool.and_eq_true_iff.mp (Bool.and_eq_true_iff.mp ok).1).1
  have ho : opensWell r.prog = true := (Bool.and_eq_true_iff.mp (Bool.and_eq_true_iff.mp ok).1).2
  have hf5 : frees r.toRowW = true := (Bool.and_eq_true_iff.mp (Bool.and_eq_true_iff.mp ok).2).1
  have hwi : r.claim.within = [] := List.isEmpty_iff.mp (Bool.and_eq_true_iff.mp (Bool.and_eq_true_iff.mp ok).2).2
  refine x0a5 (frees_parts hf5) fun hsame hu ha hap hm => ?_
  refine ⟨k1, hw, ⟨⟨hb, ho, by show r.makers.map _ = []; rw [hm]; rfl⟩, hw.witness, fun w => ⟨(left.behind hX hch w).1, fun s' hs' => ?_⟩⟩⟩
  refine hide fun Q₁ k₁ => ?_
  refine x1a3 ((left.behind (XP := fun mg h => XP mg h ∧ RecFacts r.records h) (fun s hs => ⟨hX s hs, hRf s hs⟩) hch w).2 s' hs') fun s₀ hf hg0 t_0 => ?_; refine x1a6 t_0 fun s hT hz hgens hg G00 y => ?_; (try clear t_0)
  have G0 : Ground q loose [] XP w s (s.heap.nsMap mainGlobals) (s.heap.nsMap builtinsNs) s.heap := ⟨G00.T, G00.B, G00.D, G00.TE, G00.TD, G00.W, G00.X.1, G00.cls, G00.has, G00.apart, G00.once, G00.K⟩
  have RF := G00.X.2
  refine k₁ ⟨s₀, hf, hg0, s, hT, fun n hn => ?_, RF.1, RF.2.1, ?_⟩
  · obtain rfl : n = r.name := by split at hn <;> simp_all
    exact pinned_of_view hg G0 hdef hp hk
  have hg1 : s.gens = #[] := Array.eq_empty_of_size_eq_zero (beq_iff_eq.mp hgens)
  have G : Ground q loose r.records XP w s _ _ s.heap := RF.ground G0
  clear k₁ Q₁
  intro args hpre hlay ord hord
  refine hide fun Q₂ k₂ => ?_
  refine x1a1 (Option.isSome_iff_exists.mp (layAllW_isSome (P := w.params) (ord := ord) G.has args r.args s (pre_splitW hpre).1)) fun t_0 hlaid => ?_; obtain ⟨vs, s₁⟩ := t_0
  have keeps := layAllW_keeps _ _ _ hlaid
  have hal := layAllW_rest _ _ _ hlaid
  refine x1a3 (reads_layAllW hord _ _ _ hlaid hlay s₁.heap (fun _ _ e => e)) fun as hrd hin hold => ?_
  have L : Laid r.records w s s₁ args vs as := ⟨⟨ord, hord, hlaid⟩, hrd, hin, hold, keeps, hal.1.trans hg1, hal.2.2.1⟩
  have G₁ := G.keeps hXk keeps
  refine x7a5 (G₁.fn hdef) fun a o pm cd doc dV kV h1 h2 h3 h4 h5 => ?_
  have w0 := call w s s₁ _ _ G₁ (hYk _ _ _ (hY w s y) keeps) a o pm cd doc dV kV h2 h3 h4 h5 (defOf_name hdef ▸ h1) L.gens args vs as hpre hlay L.reads L.well (L.low G.low)
  have hi := ident_freeW hu ha hap
  have w1 : wq (model r.claim.prog w) callerA (lawTree r.name vs)
      (fun fin s' => ∃ f, fin = .done f ∧ ((r.claim.Ends s args vs s₁ (.ok f) s' ∧ s'.os = s.os ∧ namesKept r.prog (r.keeps) s.heap s'.heap) ∧ AllBare s'.gens))
      (fun e s' => (r.claim.Ends s args vs s₁ (.error e) s' ∧ s'.os = s.os ∧ namesKept r.prog (r.keeps) s.heap s'.heap) ∧ AllBare s'.gens) s₁ := by
    have fin : ∀ res s', GoodWG r.claim (classAt s.heap) (ExcName.means s.heap) args s₁ res s' → (r.claim.Ends s args vs s₁ res s' ∧ s'.os = s.os ∧ namesKept r.prog (r.keeps) s.heap s'.heap) ∧ AllBare s'.gens := fun res s' g =>
      have z := g.laid (c := r.claim) hsame hwi hi L
      ⟨⟨z.1, z.2.1, namesKept_of hT hg (r.keeps) keeps g.2.1.old⟩, z.2.2⟩
    refine wq_bind (wq_of (wpAny_nsGet G₁.T.g ?_))
    rw [h1]
    exact wq_bind (wq_mono w0 (fun v s' g => wq_pure ⟨_, rfl, fin _ _ g⟩) fun e s' g => fin _ _ g)
  refine x4a4 (ends_q (prog := r.prog) (w := w) (t := lawTree r.name vs) (s := s₁)
    (R := fun res s' => r.claim.Ends s args vs s₁ res s' ∧ s'.os = s.os ∧ namesKept r.prog (r.keeps) s.heap s'.heap) (Shared.asleep_of_life hal.2.2.2 hz) w1) fun k res s' s'' hrun hsched hfo t_1 => ?_
  refine x0a3 t_1 fun hcase hos hkp => ?_; clear t_1
  refine x0a5 (Shared.forget_eq hfo) fun eh _ _ eo _ => ?_
  rw [← eh] at hkp
  rw [← eo] at hos
  have hlife : s'.heap.life = s.heap.life := (runN_life _ _ _ hrun).trans hal.2.2.2
  refine k₂ ⟨vs, s₁, hlaid, k, _, s', hsched, ?_, (fun _ i x hx => by rw [hg1] at hx; simp at hx), fun q => ⟨hkp, noTable hwr q⟩, by rw [hlife], Shared.rest_eq hos⟩
  refine hide fun Q₃ k₃ => ?_
  rcases hcase.congr eh with ⟨v, rfl, d1, d2, d3, d4, d5⟩ | ⟨e, ob, cls, rfl, d1, d2, d3, d4, d5⟩
  · exact k₃ (.inl ⟨v, rfl, d1, d2, d3, fun b o y _ => d4 b o y, d5⟩)
  · exact k₃ (.inr ⟨e, ob, cls, rfl, d1, d2, d3, d4, fun b o y _ => d5 b o y⟩)
end Mine
open PySem PySem.Calls PySem.W PyProof.Rows
namespace Mine
noncomputable abbrev tupO (d : Addr) : Obj := { cls := .type "tuple", data := .seq #[.ref d] }
noncomputable abbrev dctO : Obj := { cls := .type "dict", data := .dict #[] }
noncomputable abbrev more1 : List (Addr × Obj) := [(23, tupO 22), (22, dctO), (32, tupO 31), (31, dctO)]
noncomputable def eN (P : Params) (n : String) (t : Tok) (v : Value) : DictEntry := { hash := PyData.keyHash P (Str.ofString n), key := .str (Str.ofString n) t, val := v }
noncomputable def modE (P : Params) : Array DictEntry := #[
  eN P "__name__" 165 (Value.str (Str.ofString "law_ij0167_01") 307),
  eN P "__doc__" 166 (Value.none),
  eN P "__package__" 167 (Value.none),
  eN P "__loader__" 168 (Value.builtin "__main__.__loader__#opaque"),
  eN P "__spec__" 169 (Value.none),
  eN P "__annotations__" 170 (Value.ref 6),
  eN P "__builtins__" 171 (Value.ref 4),
  eN P "__file__" 173 (Value.str (Str.ofString "/claim/cut.py") 172),
  eN P "__cached__" 174 (Value.none),
  eN P "dict_replace_saxutils" 198 (Value.ref 21),
  eN P "escape" 206 (Value.ref 30),
  eN P "unescape" 214 (Value.ref 39),
  eN P "T" 225 (Value.ref 46),
  eN P "digits" 227 (Value.bytes #[97, 98, 99, 100, 101, 102, 103, 104, 105, 106, 107, 108, 109, 110, 111, 112, 113, 114, 115, 116, 117, 118, 119, 120, 121, 122, 48, 49, 50, 51, 52, 53, 54, 55, 56, 57] 226),
  eN P "generate_generalized_integer" 238 (Value.ref 53),
  eN P "adapt" 249 (Value.ref 60),
  eN P "generate_integers" 262 (Value.ref 67),
  eN P "decode_generalized_number" 278 (Value.ref 74),
  eN P "insertion_sort" 293 (Value.ref 81),
  eN P "punycode_decode" 306 (Value.ref 88),
  eN P "_law_draw" 314 (Value.ref 93),
  eN P "_law_read" 320 (Value.ref 98),
  eN P "_law_name" 326 (Value.ref 103),
  eN P "_law_known" 337 (Value.ref 110),
  eN P "_law_doc" 350 (Value.ref 117),
  eN P "_law_back" 356 (Value.ref 122),
  eN P "law" 362 (Value.ref 127)]
noncomputable abbrev cdO (vs : Array Value) : Obj := { cls := .type "code", data := .fields vs }
noncomputable def cdE : Array Value := #[Value.str (Str.ofString "escape") 199, Value.str (Str.ofString "escape") 200, Value.str (Str.ofString "/claim/cut.py") 201, Value.int 6 0, Value.int 2 0, Value.int 0 0, Value.int 0 0, Value.int 3 0, Value.ref 24, Value.bool true, Value.int 181 0, Value.ref 25, Value.none, Value.ref 26, Value.ref 27, Value.ref 28, Value.int 204 0, Value.int 6 0, Value.str (Str.ofString "/claim/cut.py") 205]
noncomputable def cdU : Array Value := #[Value.str (Str.ofString "unescape") 207, Value.str (Str.ofString "unescape") 208, Value.str (Str.ofString "/claim/cut.py") 209, Value.int 13 0, Value.int 2 0, Value.int 0 0, Value.int 0 0, Value.int 3 0, Value.ref 33, Value.bool true, Value.int 181 0, Value.ref 34, Value.none, Value.ref 35, Value.ref 36, Value.ref 37, Value.int 212 0, Value.int 13 0, Value.str (Str.ofString "/claim/cut.py") 213]
noncomputable abbrev pmS : Value := Value.str (Str.ofString "cpy313.xml.sax.saxutils") 187
noncomputable def kf (P : Params) : Frag := [(2, { cls := .none, data := .dict #[] }), (3, { cls := .type "dict", data := .dict (modE P) 27 }), (22, dctO), (23, tupO 22), (29, cdO cdE), (30, { cls := .type "function", data := .func (fdOf stEsc pmS (.ref 29) .none (.ref 23) .none) }),
  (31, dctO), (32, tupO 31), (38, cdO cdU), (39, { cls := .type "function", data := .func (fdOf stUne pmS (.ref 38) .none (.ref 32) .none) })]
noncomputable def vq : Program := view PySem.Challenge.pw_ij0167_01 [1, 5, 6, 7, 8, 9, 10, 11, 12, 14, 15, 16, 17, 18, 19, 20]
noncomputable def hk : Hook := kHook kf [2, 3, 22, 23, 29, 30, 31, 32, 38, 39] (fun _ => rfl)
noncomputable def drO : Stmt → DefRec
  | .FunctionDef n a b _ _ _ sc _ _ pos => ⟨n, a, b, sc, pos⟩
  | _ => ⟨"", default, [], default, default⟩
set_option maxRecDepth 100000
set_option maxHeartbeats 8000000
theorem left1 : LeftO PySem.Challenge.pw_ij0167_01 vq ["escape", "unescape"] (fun s => xlAt vq [] s && recOk [] s) (Hook.obs hk) (Hook.val hk) 1274 := by
  intro w
  kernel_rfl
theorem said1 : PySem.Challenge.rw_ij0167_01.wellSaid = true := by
  delta OpenLaw.wellSaid OpenRow.wellSaid OpenRow.partSaid looksOpen
  repeat' with_reducible refine look_both ?_ ?_
  all_goals decide +kernel
theorem dfdrs : defOf vq "dict_replace_saxutils" = some (drO stDrs, []) := by kernel_rfl
theorem dfT : defOf vq "T" = some (drO stT, []) := by kernel_rfl
theorem dfgen : defOf vq "generate_generalized_integer" = some (drO stGen, []) := by kernel_rfl
theorem dfad : defOf vq "adapt" = some (drO stAdapt, []) := by kernel_rfl
theorem dfgs : defOf vq "generate_integers" = some (drO stGens, []) := by kernel_rfl
theorem dfdec : defOf vq "decode_generalized_number" = some (drO stDec, []) := by kernel_rfl
theorem dfins : defOf vq "insertion_sort" = some (drO stIns, []) := by kernel_rfl
theorem dfpu : defOf vq "punycode_decode" = some (drO stPuny, []) := by kernel_rfl
theorem dfdraw : defOf vq "_law_draw" = some (drO stLDraw, []) := by kernel_rfl
theorem dfread : defOf vq "_law_read" = some (drO stLRead, []) := by kernel_rfl
theorem dfname : defOf vq "_law_name" = some (drO stLName, []) := by kernel_rfl
theorem dfknown : defOf vq "_law_known" = some (drO stLKnown, []) := by kernel_rfl
theorem dfdoc : defOf vq "_law_doc" = some (drO stLDoc, []) := by kernel_rfl
theorem dfback : defOf vq "_law_back" = some (drO stLBack, []) := by kernel_rfl
theorem dflaw : defOf vq "law" = some (drO stLaw, []) := by kernel_rfl
theorem main : PySem.Challenge.rw_ij0167_01.Holds := by
  refine holds_law said1 fun said => ?_
  refine PySem.W.holds_open (q := vq) (d := drO stLaw) (kwd := []) (loose := ["escape", "unescape"]) (Xt := fun s => xlAt vq [] s && recOk (RowW.records PySem.Challenge.rw_ij0167_01.row.toRowW) s) (XP := XL vq []) (Yf := Hook.obs hk) (Ya := Hook.val hk) (YP := Hook.says hk) (N := 1274) left1 (Hook.of hk) (Hook.keeps hk)
    (fun s e => xl_of s (Bool.and_eq_true_iff.mp e).1) XL.keeps (by kernel_rfl) (by kernel_rfl) (by kernel_rfl) (fun s e => recFacts_of (Bool.and_eq_true_iff.mp e).2) (by rfl) said (by decide +kernel) ⟨rfl, rfl, rfl, rfl, rfl, by decide +kernel⟩ ?hw ?hc
  case hw => w_witness2
  intro w s₀ s₁ mg mb G Y a o pm cd doc dV kV ho hd hcd hD hmg hg args vals as hpre hlay hrd hwl hlo
  have KX : (kf w.params).In s₁.heap := kIn_of Y
  have hlaw : mg "law" = some (.ref a) := hmg
  clear hd hcd hD hmg hlay hrd hlo Y
  refine head_good rfl hpre hwl hg fun ns hl rep => ?_
  have hm := mg_lit G.T.g (KX 3 _ rfl) rfl
  have h2 := KX 2 _ rfl
  letI : Lo := ⟨s₁.heap.objs.size⟩
  have hin : (pgOf mg mb s₁.heap more1).In s₁.heap := head_in G h2 rfl fun q hq => by
    rcases List.mem_cons.mp hq with rfl | hq
    · exact KX 23 _ rfl
    rcases List.mem_cons.mp hq with rfl | hq
    · exact KX 22 _ rfl
    rcases List.mem_cons.mp hq with rfl | hq
    · exact KX 32 _ rfl
    rcases List.mem_cons.mp hq with rfl | hq
    · exact KX 31 _ rfl
    cases hq
  have fdrs : FnIs (pgOf mg mb s₁.heap more1) "dict_replace_saxutils" stDrs := head_fn G dfdrs rfl fun _ _ _ _ _ => rfl
  have fT : FnIs (pgOf mg mb s₁.heap more1) "T" stT := head_fn G dfT rfl fun _ _ _ _ _ => rfl
  have fgen : FnIs (pgOf mg mb s₁.heap more1) "generate_generalized_integer" stGen := head_fn G dfgen rfl fun _ _ _ _ _ => rfl
  have fad : FnIs (pgOf mg mb s₁.heap more1) "adapt" stAdapt := head_fn G dfad rfl fun _ _ _ _ _ => rfl
  have fgs : FnIs (pgOf mg mb s₁.heap more1) "generate_integers" stGens := head_fn G dfgs rfl fun _ _ _ _ _ => rfl
  have fdec : FnIs (pgOf mg mb s₁.heap more1) "decode_generalized_number" stDec := head_fn G dfdec rfl fun _ _ _ _ _ => rfl
  have fins : FnIs (pgOf mg mb s₁.heap more1) "insertion_sort" stIns := head_fn G dfins rfl fun _ _ _ _ _ => rfl
  have fpu : FnIs (pgOf mg mb s₁.heap more1) "punycode_decode" stPuny := head_fn G dfpu rfl fun _ _ _ _ _ => rfl
  have fdraw : FnIs (pgOf mg mb s₁.heap more1) "_law_draw" stLDraw := head_fn G dfdraw rfl fun _ _ _ _ _ => rfl
  have fread : FnIs (pgOf mg mb s₁.heap more1) "_law_read" stLRead := head_fn G dfread rfl fun _ _ _ _ _ => rfl
  have fname : FnIs (pgOf mg mb s₁.heap more1) "_law_name" stLName := head_fn G dfname rfl fun _ _ _ _ _ => rfl
  have fknown : FnIs (pgOf mg mb s₁.heap more1) "_law_known" stLKnown := head_fn G dfknown rfl fun _ _ _ _ _ => rfl
  have fdoc : FnIs (pgOf mg mb s₁.heap more1) "_law_doc" stLDoc := head_fn G dfdoc rfl fun _ _ _ _ _ => rfl
  have fback : FnIs (pgOf mg mb s₁.heap more1) "_law_back" stLBack := head_fn G dfback rfl fun _ _ _ _ _ => rfl
  have flaw : FnIs (pgOf mg mb s₁.heap more1) "law" stLaw := head_fn G dflaw rfl fun _ _ _ _ _ => rfl
  have fesc : FnIs (pgOf mg mb s₁.heap more1) "escape" stEsc (.ref 23) := fn_lit ((hm _).trans rfl) (KX 30 _ rfl) rfl (KX 29 _ rfl) rfl rfl rfl
  have fune : FnIs (pgOf mg mb s₁.heap more1) "unescape" stUne (.ref 32) := fn_lit ((hm _).trans rfl) (KX 39 _ rfl) rfl (KX 38 _ rfl) rfl rfl rfl
  have hdig : mg "digits" = some (.bytes (digitsL.map Nat.toUInt8).toArray 226) := (hm _).trans rfl
  have hpuny : PunyG (pgOf mg mb s₁.heap more1) := ⟨fT, fgen, fad, fgs, fdec, fins, fpu, ⟨226, hdig⟩, fun x hx => by rcases hx with rfl | rfl | rfl | rfl | rfl | rfl | rfl | rfl | rfl | rfl <;> exact (hm _).trans rfl⟩
  have hread : ReadG (pgOf mg mb s₁.heap more1) := ⟨fread, fun x hx => by rcases hx with rfl | rfl | rfl | rfl | rfl | rfl <;> exact (hm _).trans rfl⟩
  have desc : DefD (pgOf mg mb s₁.heap more1) "escape" stEsc := by
    refine x4a1 fesc fun a' pm' cd' doc' e => ?_; (try clear fesc)
    exact ⟨a', pm', cd', doc', 23, tupO 22, _, 22, dctO, e, .head _, rfl, .tail _ (.head _), rfl, rfl, rfl, rfl⟩
  have dune : DefD (pgOf mg mb s₁.heap more1) "unescape" stUne := by
    refine x4a1 fune fun a' pm' cd' doc' e => ?_; (try clear fune)
    exact ⟨a', pm', cd', doc', 32, tupO 31, _, 31, dctO, e, .tail _ (.tail _ (.head _)), rfl, .tail _ (.tail _ (.tail _ (.head _))), rfl, rfl, rfl, rfl⟩
  have hpre : PreG (pgOf mg mb s₁.heap more1) := ⟨hpuny, hread, ⟨fdrs, desc, dune⟩, fname, fknown, fun x hx => by rcases hx with rfl | rfl | rfl | rfl | rfl | rfl | rfl <;> exact (hm _).trans rfl⟩
  refine x4a1 (id flaw) fun a' pm' cd' doc' e => ?_
  have ea : a' = a := by
    have := (fnOf_is e).1
    rw [hlaw] at this
    cases Option.some.inj this
    rfl
  subst ea
  exact law_head ⟨hpre, fdraw, fdoc, fback, flaw⟩ hin e (Nat.le_refl _) rep hl
end Mine
theorem PySem.Challenge.cw_ij0167_01_holds : PySem.Challenge.rw_ij0167_01.Holds :=
  Mine.main
