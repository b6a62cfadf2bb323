import PyProof.Rows.All
import Wide.All
import OpenK.AllK
import Wide.FinOn
import PySem.Challenge.RW_dn0070_02
set_option Elab.async false
set_option linter.all false
section
open PySem PySem.W PyProof.Rows
namespace Mine
theorem el02 {p q : Prop} {H : Prop} (h : p ∧ q) (k : p → q → H) : H := k h.1 h.2
theorem el03 {p q r : Prop} {H : Prop} (h : p ∧ q ∧ r) (k : p → q → r → H) : H := k h.1 h.2.1 h.2.2
theorem el04 {p q r s : Prop} {H : Prop} (h : p ∧ q ∧ r ∧ s) (k : p → q → r → s → H) : H := k h.1 h.2.1 h.2.2.1 h.2.2.2
theorem el05 {p q r s t : Prop} {H : Prop} (h : p ∧ q ∧ r ∧ s ∧ t) (k : p → q → r → s → t → H) : H := k h.1 h.2.1 h.2.2.1 h.2.2.2.1 h.2.2.2.2
theorem el06 {p q r s t u : Prop} {H : Prop} (h : p ∧ q ∧ r ∧ s ∧ t ∧ u) (k : p → q → r → s → t → u → H) : H := k h.1 h.2.1 h.2.2.1 h.2.2.2.1 h.2.2.2.2.1 h.2.2.2.2.2
theorem el07 {p q r s t u v : Prop} {H : Prop} (h : p ∧ q ∧ r ∧ s ∧ t ∧ u ∧ v) (k : p → q → r → s → t → u → v → H) : H := k h.1 h.2.1 h.2.2.1 h.2.2.2.1 h.2.2.2.2.1 h.2.2.2.2.2.1 h.2.2.2.2.2.2
theorem el08 {p q r s t u v w : Prop} {H : Prop} (h : p ∧ q ∧ r ∧ s ∧ t ∧ u ∧ v ∧ w) (k : p → q → r → s → t → u → v → w → H) : H := k h.1 h.2.1 h.2.2.1 h.2.2.2.1 h.2.2.2.2.1 h.2.2.2.2.2.1 h.2.2.2.2.2.2.1 h.2.2.2.2.2.2.2
theorem el11.{u0} {α : Sort u0} {p : α → Prop} {H : Prop} (h : ∃ a, p a) (k : ∀ a, p a → H) : H := Exists.elim h fun a h => k a h
theorem el12.{u0} {α : Sort u0} {p q : α → Prop} {H : Prop} (h : ∃ a, p a ∧ q a) (k : ∀ a, p a → q a → H) : H := Exists.elim h fun a h => k a h.1 h.2
theorem el13.{u0} {α : Sort u0} {p q r : α → Prop} {H : Prop} (h : ∃ a, p a ∧ q a ∧ r a) (k : ∀ a, p a → q a → r a → H) : H := Exists.elim h fun a h => k a h.1 h.2.1 h.2.2
theorem el14.{u0} {α : Sort u0} {p q r s : α → Prop} {H : Prop} (h : ∃ a, p a ∧ q a ∧ r a ∧ s a) (k : ∀ a, p a → q a → r a → s a → H) : H := Exists.elim h fun a h => k a h.1 h.2.1 h.2.2.1 h.2.2.2
theorem el15.{u0} {α : Sort u0} {p q r s t : α → Prop} {H : Prop} (h : ∃ a, p a ∧ q a ∧ r a ∧ s a ∧ t a) (k : ∀ a, p a → q a → r a → s a → t a → H) : H := Exists.elim h fun a h => k a h.1 h.2.1 h.2.2.1 h.2.2.2.1 h.2.2.2.2
theorem el16.{u0} {α : Sort u0} {p q r s t u : α → Prop} {H : Prop} (h : ∃ a, p a ∧ q a ∧ r a ∧ s a ∧ t a ∧ u a) (k : ∀ a, p a → q a → r a → s a → t a → u a → H) : H := Exists.elim h fun a h => k a h.1 h.2.1 h.2.2.1 h.2.2.2.1 h.2.2.2.2.1 h.2.2.2.2.2
theorem el17.{u0} {α : Sort u0} {p q r s t u v : α → Prop} {H : Prop} (h : ∃ a, p a ∧ q a ∧ r a ∧ s a ∧ t a ∧ u a ∧ v a) (k : ∀ a, p a → q a → r a → s a → t a → u a → v a → H) : H := Exists.elim h fun a h => k a h.1 h.2.1 h.2.2.1 h.2.2.2.1 h.2.2.2.2.1 h.2.2.2.2.2.1 h.2.2.2.2.2.2
theorem el18.{u0} {α : Sort u0} {p q r s t u v w : α → Prop} {H : Prop} (h : ∃ a, p a ∧ q a ∧ r a ∧ s a ∧ t a ∧ u a ∧ v a ∧ w a) (k : ∀ a, p a → q a → r a → s a → t a → u a → v a → w a → H) : H := Exists.elim h fun a h => k a h.1 h.2.1 h.2.2.1 h.2.2.2.1 h.2.2.2.2.1 h.2.2.2.2.2.1 h.2.2.2.2.2.2.1 h.2.2.2.2.2.2.2
theorem el21.{u0, u1} {α : Sort u0} {β : Sort u1} {p : α → β → Prop} {H : Prop} (h : ∃ a b, p a b) (k : ∀ a b, p a b → H) : H := Exists.elim h fun a h => Exists.elim h fun b h => k a b h
theorem el22.{u0, u1} {α : Sort u0} {β : Sort u1} {p q : α → β → Prop} {H : Prop} (h : ∃ a b, p a b ∧ q a b) (k : ∀ a b, p a b → q a b → H) : H := Exists.elim h fun a h => Exists.elim h fun b h => k a b h.1 h.2
theorem el23.{u0, u1} {α : Sort u0} {β : Sort u1} {p q r : α → β → Prop} {H : Prop} (h : ∃ a b, p a b ∧ q a b ∧ r a b) (k : ∀ a b, p a b → q a b → r a b → H) : H := Exists.elim h fun a h => Exists.elim h fun b h => k a b h.1 h.2.1 h.2.2
theorem el24.{u0, u1} {α : Sort u0} {β : Sort u1} {p q r s : α → β → Prop} {H : Prop} (h : ∃ a b, p a b ∧ q a b ∧ r a b ∧ s a b) (k : ∀ a b, p a b → q a b → r a b → s a b → H) : H := Exists.elim h fun a h => Exists.elim h fun b h => k a b h.1 h.2.1 h.2.2.1 h.2.2.2
theorem el25.{u0, u1} {α : Sort u0} {β : Sort u1} {p q r s t : α → β → Prop} {H : Prop} (h : ∃ a b, p a b ∧ q a b ∧ r a b ∧ s a b ∧ t a b) (k : ∀ a b, p a b → q a b → r a b → s a b → t a b → H) : H := Exists.elim h fun a h => Exists.elim h fun b h => k a b h.1 h.2.1 h.2.2.1 h.2.2.2.1 h.2.2.2.2
theorem el26.{u0, u1} {α : Sort u0} {β : Sort u1} {p q r s t u : α → β → Prop} {H : Prop} (h : ∃ a b, p a b ∧ q a b ∧ r a b ∧ s a b ∧ t a b ∧ u a b) (k : ∀ a b, p a b → q a b → r a b → s a b → t a b → u a b → H) : H := Exists.elim h fun a h => Exists.elim h fun b h => k a b h.1 h.2.1 h.2.2.1 h.2.2.2.1 h.2.2.2.2.1 h.2.2.2.2.2
theorem el27.{u0, u1} {α : Sort u0} {β : Sort u1} {p q r s t u v : α → β → Prop} {H : Prop} (h : ∃ a b, p a b ∧ q a b ∧ r a b ∧ s a b ∧ t a b ∧ u a b ∧ v a b) (k : ∀ a b, p a b → q a b → r a b → s a b → t a b → u a b → v a b → H) : H := Exists.elim h fun a h => Exists.elim h fun b h => k a b h.1 h.2.1 h.2.2.1 h.2.2.2.1 h.2.2.2.2.1 h.2.2.2.2.2.1 h.2.2.2.2.2.2
theorem el28.{u0, u1} {α : Sort u0} {β : Sort u1} {p q r s t u v w : α → β → Prop} {H : Prop} (h : ∃ a b, p a b ∧ q a b ∧ r a b ∧ s a b ∧ t a b ∧ u a b ∧ v a b ∧ w a b) (k : ∀ a b, p a b → q a b → r a b → s a b → t a b → u a b → v a b → w a b → H) : H := Exists.elim h fun a h => Exists.elim h fun b h => k a b h.1 h.2.1 h.2.2.1 h.2.2.2.1 h.2.2.2.2.1 h.2.2.2.2.2.1 h.2.2.2.2.2.2.1 h.2.2.2.2.2.2.2
theorem el31.{u0, u1, u2} {α : Sort u0} {β : Sort u1} {γ : Sort u2} {p : α → β → γ → Prop} {H : Prop} (h : ∃ a b c, p a b c) (k : ∀ a b c, p a b c → H) : H := Exists.elim h fun a h => Exists.elim h fun b h => Exists.elim h fun c h => k a b c h
theorem el32.{u0, u1, u2} {α : Sort u0} {β : Sort u1} {γ : Sort u2} {p q : α → β → γ → Prop} {H : Prop} (h : ∃ a b c, p a b c ∧ q a b c) (k : ∀ a b c, p a b c → q a b c → H) : H := Exists.elim h fun a h => Exists.elim h fun b h => Exists.elim h fun c h => k a b c h.1 h.2
theorem el33.{u0, u1, u2} {α : Sort u0} {β : Sort u1} {γ : Sort u2} {p q r : α → β → γ → Prop} {H : Prop} (h : ∃ a b c, p a b c ∧ q a b c ∧ r a b c) (k : ∀ a b c, p a b c → q a b c → r a b c → H) : H := Exists.elim h fun a h => Exists.elim h fun b h => Exists.elim h fun c h => k a b c h.1 h.2.1 h.2.2
theorem el34.{u0, u1, u2} {α : Sort u0} {β : Sort u1} {γ : Sort u2} {p q r s : α → β → γ → Prop} {H : Prop} (h : ∃ a b c, p a b c ∧ q a b c ∧ r a b c ∧ s a b c) (k : ∀ a b c, p a b c → q a b c → r a b c → s a b c → H) : H := Exists.elim h fun a h => Exists.elim h fun b h => Exists.elim h fun c h => k a b c h.1 h.2.1 h.2.2.1 h.2.2.2
theorem el35.{u0, u1, u2} {α : Sort u0} {β : Sort u1} {γ : Sort u2} {p q r s t : α → β → γ → Prop} {H : Prop} (h : ∃ a b c, p a b c ∧ q a b c ∧ r a b c ∧ s a b c ∧ t a b c) (k : ∀ a b c, p a b c → q a b c → r a b c → s a b c → t a b c → H) : H := Exists.elim h fun a h => Exists.elim h fun b h => Exists.elim h fun c h => k a b c h.1 h.2.1 h.2.2.1 h.2.2.2.1 h.2.2.2.2
theorem el36.{u0, u1, u2} {α : Sort u0} {β : Sort u1} {γ : Sort u2} {p q r s t u : α → β → γ → Prop} {H : Prop} (h : ∃ a b c, p a b c ∧ q a b c ∧ r a b c ∧ s a b c ∧ t a b c ∧ u a b c) (k : ∀ a b c, p a b c → q a b c → r a b c → s a b c → t a b c → u a b c → H) : H := Exists.elim h fun a h => Exists.elim h fun b h => Exists.elim h fun c h => k a b c h.1 h.2.1 h.2.2.1 h.2.2.2.1 h.2.2.2.2.1 h.2.2.2.2.2
theorem el37.{u0, u1, u2} {α : Sort u0} {β : Sort u1} {γ : Sort u2} {p q r s t u v : α → β → γ → Prop} {H : Prop} (h : ∃ a b c, p a b c ∧ q a b c ∧ r a b c ∧ s a b c ∧ t a b c ∧ u a b c ∧ v a b c) (k : ∀ a b c, p a b c → q a b c → r a b c → s a b c → t a b c → u a b c → v a b c → H) : H := Exists.elim h fun a h => Exists.elim h fun b h => Exists.elim h fun c h => k a b c h.1 h.2.1 h.2.2.1 h.2.2.2.1 h.2.2.2.2.1 h.2.2.2.2.2.1 h.2.2.2.2.2.2
theorem el38.{u0, u1, u2} {α : Sort u0} {β : Sort u1} {γ : Sort u2} {p q r s t u v w : α → β → γ → Prop} {H : Prop} (h : ∃ a b c, p a b c ∧ q a b c ∧ r a b c ∧ s a b c ∧ t a b c ∧ u a b c ∧ v a b c ∧ w a b c) (k : ∀ a b c, p a b c → q a b c → r a b c → s a b c → t a b c → u a b c → v a b c → w a b c → H) : H := Exists.elim h fun a h => Exists.elim h fun b h => Exists.elim h fun c h => k a b c h.1 h.2.1 h.2.2.1 h.2.2.2.1 h.2.2.2.2.1 h.2.2.2.2.2.1 h.2.2.2.2.2.2.1 h.2.2.2.2.2.2.2
theorem el41.{u0, u1, u2, u3} {α : Sort u0} {β : Sort u1} {γ : Sort u2} {δ : Sort u3} {p : α → β → γ → δ → Prop} {H : Prop} (h : ∃ a b c d, p a b c d) (k : ∀ a b c d, p a b c d → H) : H := Exists.elim h fun a h => Exists.elim h fun b h => Exists.elim h fun c h => Exists.elim h fun d h => k a b c d h
theorem el42.{u0, u1, u2, u3} {α : Sort u0} {β : Sort u1} {γ : Sort u2} {δ : Sort u3} {p q : α → β → γ → δ → Prop} {H : Prop} (h : ∃ a b c d, p a b c d ∧ q a b c d) (k : ∀ a b c d, p a b c d → q a b c d → H) : H := Exists.elim h fun a h => Exists.elim h fun b h => Exists.elim h fun c h => Exists.elim h fun d h => k a b c d h.1 h.2
theorem el43.{u0, u1, u2, u3} {α : Sort u0} {β : Sort u1} {γ : Sort u2} {δ : Sort u3} {p q r : α → β → γ → δ → Prop} {H : Prop} (h : ∃ a b c d, p a b c d ∧ q a b c d ∧ r a b c d) (k : ∀ a b c d, p a b c d → q a b c d → r a b c d → H) : H := Exists.elim h fun a h => Exists.elim h fun b h => Exists.elim h fun c h => Exists.elim h fun d h => k a b c d h.1 h.2.1 h.2.2
theorem el44.{u0, u1, u2, u3} {α : Sort u0} {β : Sort u1} {γ : Sort u2} {δ : Sort u3} {p q r s : α → β → γ → δ → Prop} {H : Prop} (h : ∃ a b c d, p a b c d ∧ q a b c d ∧ r a b c d ∧ s a b c d) (k : ∀ a b c d, p a b c d → q a b c d → r a b c d → s a b c d → H) : H := Exists.elim h fun a h => Exists.elim h fun b h => Exists.elim h fun c h => Exists.elim h fun d h => k a b c d h.1 h.2.1 h.2.2.1 h.2.2.2
theorem el45.{u0, u1, u2, u3} {α : Sort u0} {β : Sort u1} {γ : Sort u2} {δ : Sort u3} {p q r s t : α → β → γ → δ → Prop} {H : Prop} (h : ∃ a b c d, p a b c d ∧ q a b c d ∧ r a b c d ∧ s a b c d ∧ t a b c d) (k : ∀ a b c d, p a b c d → q a b c d → r a b c d → s a b c d → t a b c d → H) : H := Exists.elim h fun a h => Exists.elim h fun b h => Exists.elim h fun c h => Exists.elim h fun d h => k a b c d h.1 h.2.1 h.2.2.1 h.2.2.2.1 h.2.2.2.2
theorem el46.{u0, u1, u2, u3} {α : Sort u0} {β : Sort u1} {γ : Sort u2} {δ : Sort u3} {p q r s t u : α → β → γ → δ → Prop} {H : Prop} (h : ∃ a b c d, p a b c d ∧ q a b c d ∧ r a b c d ∧ s a b c d ∧ t a b c d ∧ u a b c d) (k : ∀ a b c d, p a b c d → q a b c d → r a b c d → s a b c d → t a b c d → u a b c d → H) : H := Exists.elim h fun a h => Exists.elim h fun b h => Exists.elim h fun c h => Exists.elim h fun d h => k a b c d h.1 h.2.1 h.2.2.1 h.2.2.2.1 h.2.2.2.2.1 h.2.2.2.2.2
theorem el47.{u0, u1, u2, u3} {α : Sort u0} {β : Sort u1} {γ : Sort u2} {δ : Sort u3} {p q r s t u v : α → β → γ → δ → Prop} {H : Prop} (h : ∃ a b c d, p a b c d ∧ q a b c d ∧ r a b c d ∧ s a b c d ∧ t a b c d ∧ u a b c d ∧ v a b c d) (k : ∀ a b c d, p a b c d → q a b c d → r a b c d → s a b c d → t a b c d → u a b c d → v a b c d → H) : H := Exists.elim h fun a h => Exists.elim h fun b h => Exists.elim h fun c h => Exists.elim h fun d h => k a b c d h.1 h.2.1 h.2.2.1 h.2.2.2.1 h.2.2.2.2.1 h.2.2.2.2.2.1 h.2.2.2.2.2.2
theorem el48.{u0, u1, u2, u3} {α : Sort u0} {β : Sort u1} {γ : Sort u2} {δ : Sort u3} {p q r s t u v w : α → β → γ → δ → Prop} {H : Prop} (h : ∃ a b c d, p a b c d ∧ q a b c d ∧ r a b c d ∧ s a b c d ∧ t a b c d ∧ u a b c d ∧ v a b c d ∧ w a b c d) (k : ∀ a b c d, p a b c d → q a b c d → r a b c d → s a b c d → t a b c d → u a b c d → v a b c d → w a b c d → H) : H := Exists.elim h fun a h => Exists.elim h fun b h => Exists.elim h fun c h => Exists.elim h fun d h => k a b c d h.1 h.2.1 h.2.2.1 h.2.2.2.1 h.2.2.2.2.1 h.2.2.2.2.2.1 h.2.2.2.2.2.2.1 h.2.2.2.2.2.2.2
theorem el51.{u0, u1, u2, u3, u4} {α : Sort u0} {β : Sort u1} {γ : Sort u2} {δ : Sort u3} {ε : Sort u4} {p : α → β → γ → δ → ε → Prop} {H : Prop} (h : ∃ a b c d e, p a b c d e) (k : ∀ a b c d e, p a b c d e → H) : H := Exists.elim h fun a h => Exists.elim h fun b h => Exists.elim h fun c h => Exists.elim h fun d h => Exists.elim h fun e h => k a b c d e h
theorem el52.{u0, u1, u2, u3, u4} {α : Sort u0} {β : Sort u1} {γ : Sort u2} {δ : Sort u3} {ε : Sort u4} {p q : α → β → γ → δ → ε → Prop} {H : Prop} (h : ∃ a b c d e, p a b c d e ∧ q a b c d e) (k : ∀ a b c d e, p a b c d e → q a b c d e → H) : H := Exists.elim h fun a h => Exists.elim h fun b h => Exists.elim h fun c h => Exists.elim h fun d h => Exists.elim h fun e h => k a b c d e h.1 h.2
theorem el53.{u0, u1, u2, u3, u4} {α : Sort u0} {β : Sort u1} {γ : Sort u2} {δ : Sort u3} {ε : Sort u4} {p q r : α → β → γ → δ → ε → Prop} {H : Prop} (h : ∃ a b c d e, p a b c d e ∧ q a b c d e ∧ r a b c d e) (k : ∀ a b c d e, p a b c d e → q a b c d e → r a b c d e → H) : H := Exists.elim h fun a h => Exists.elim h fun b h => Exists.elim h fun c h => Exists.elim h fun d h => Exists.elim h fun e h => k a b c d e h.1 h.2.1 h.2.2
theorem el54.{u0, u1, u2, u3, u4} {α : Sort u0} {β : Sort u1} {γ : Sort u2} {δ : Sort u3} {ε : Sort u4} {p q r s : α → β → γ → δ → ε → Prop} {H : Prop} (h : ∃ a b c d e, p a b c d e ∧ q a b c d e ∧ r a b c d e ∧ s a b c d e) (k : ∀ a b c d e, p a b c d e → q a b c d e → r a b c d e → s a b c d e → H) : H := Exists.elim h fun a h => Exists.elim h fun b h => Exists.elim h fun c h => Exists.elim h fun d h => Exists.elim h fun e h => k a b c d e h.1 h.2.1 h.2.2.1 h.2.2.2
theorem el55.{u0, u1, u2, u3, u4} {α : Sort u0} {β : Sort u1} {γ : Sort u2} {δ : Sort u3} {ε : Sort u4} {p q r s t : α → β → γ → δ → ε → Prop} {H : Prop} (h : ∃ a b c d e, p a b c d e ∧ q a b c d e ∧ r a b c d e ∧ s a b c d e ∧ t a b c d e) (k : ∀ a b c d e, p a b c d e → q a b c d e → r a b c d e → s a b c d e → t a b c d e → H) : H := Exists.elim h fun a h => Exists.elim h fun b h => Exists.elim h fun c h => Exists.elim h fun d h => Exists.elim h fun e h => k a b c d e h.1 h.2.1 h.2.2.1 h.2.2.2.1 h.2.2.2.2
theorem el56.{u0, u1, u2, u3, u4} {α : Sort u0} {β : Sort u1} {γ : Sort u2} {δ : Sort u3} {ε : Sort u4} {p q r s t u : α → β → γ → δ → ε → Prop} {H : Prop} (h : ∃ a b c d e, p a b c d e ∧ q a b c d e ∧ r a b c d e ∧ s a b c d e ∧ t a b c d e ∧ u a b c d e) (k : ∀ a b c d e, p a b c d e → q a b c d e → r a b c d e → s a b c d e → t a b c d e → u a b c d e → H) : H := Exists.elim h fun a h => Exists.elim h fun b h => Exists.elim h fun c h => Exists.elim h fun d h => Exists.elim h fun e h => k a b c d e h.1 h.2.1 h.2.2.1 h.2.2.2.1 h.2.2.2.2.1 h.2.2.2.2.2
theorem el57.{u0, u1, u2, u3, u4} {α : Sort u0} {β : Sort u1} {γ : Sort u2} {δ : Sort u3} {ε : Sort u4} {p q r s t u v : α → β → γ → δ → ε → Prop} {H : Prop} (h : ∃ a b c d e, p a b c d e ∧ q a b c d e ∧ r a b c d e ∧ s a b c d e ∧ t a b c d e ∧ u a b c d e ∧ v a b c d e) (k : ∀ a b c d e, p a b c d e → q a b c d e → r a b c d e → s a b c d e → t a b c d e → u a b c d e → v a b c d e → H) : H := Exists.elim h fun a h => Exists.elim h fun b h => Exists.elim h fun c h => Exists.elim h fun d h => Exists.elim h fun e h => k a b c d e h.1 h.2.1 h.2.2.1 h.2.2.2.1 h.2.2.2.2.1 h.2.2.2.2.2.1 h.2.2.2.2.2.2
theorem el61.{u0, u1, u2, u3, u4, u5} {α : Sort u0} {β : Sort u1} {γ : Sort u2} {δ : Sort u3} {ε : Sort u4} {ζ : Sort u5} {p : α → β → γ → δ → ε → ζ → Prop} {H : Prop} (h : ∃ a b c d e f, p a b c d e f) (k : ∀ a b c d e f, p a b c d e f → H) : H := Exists.elim h fun a h => Exists.elim h fun b h => Exists.elim h fun c h => Exists.elim h fun d h => Exists.elim h fun e h => Exists.elim h fun f h => k a b c d e f h
theorem el62.{u0, u1, u2, u3, u4, u5} {α : Sort u0} {β : Sort u1} {γ : Sort u2} {δ : Sort u3} {ε : Sort u4} {ζ : Sort u5} {p q : α → β → γ → δ → ε → ζ → Prop} {H : Prop} (h : ∃ a b c d e f, p a b c d e f ∧ q a b c d e f) (k : ∀ a b c d e f, p a b c d e f → q a b c d e f → H) : H := Exists.elim h fun a h => Exists.elim h fun b h => Exists.elim h fun c h => Exists.elim h fun d h => Exists.elim h fun e h => Exists.elim h fun f h => k a b c d e f h.1 h.2
theorem el63.{u0, u1, u2, u3, u4, u5} {α : Sort u0} {β : Sort u1} {γ : Sort u2} {δ : Sort u3} {ε : Sort u4} {ζ : Sort u5} {p q r : α → β → γ → δ → ε → ζ → Prop} {H : Prop} (h : ∃ a b c d e f, p a b c d e f ∧ q a b c d e f ∧ r a b c d e f) (k : ∀ a b c d e f, p a b c d e f → q a b c d e f → r a b c d e f → H) : H := Exists.elim h fun a h => Exists.elim h fun b h => Exists.elim h fun c h => Exists.elim h fun d h => Exists.elim h fun e h => Exists.elim h fun f h => k a b c d e f h.1 h.2.1 h.2.2
theorem el64.{u0, u1, u2, u3, u4, u5} {α : Sort u0} {β : Sort u1} {γ : Sort u2} {δ : Sort u3} {ε : Sort u4} {ζ : Sort u5} {p q r s : α → β → γ → δ → ε → ζ → Prop} {H : Prop} (h : ∃ a b c d e f, p a b c d e f ∧ q a b c d e f ∧ r a b c d e f ∧ s a b c d e f) (k : ∀ a b c d e f, p a b c d e f → q a b c d e f → r a b c d e f → s a b c d e f → H) : H := Exists.elim h fun a h => Exists.elim h fun b h => Exists.elim h fun c h => Exists.elim h fun d h => Exists.elim h fun e h => Exists.elim h fun f h => k a b c d e f h.1 h.2.1 h.2.2.1 h.2.2.2
theorem el65.{u0, u1, u2, u3, u4, u5} {α : Sort u0} {β : Sort u1} {γ : Sort u2} {δ : Sort u3} {ε : Sort u4} {ζ : Sort u5} {p q r s t : α → β → γ → δ → ε → ζ → Prop} {H : Prop} (h : ∃ a b c d e f, p a b c d e f ∧ q a b c d e f ∧ r a b c d e f ∧ s a b c d e f ∧ t a b c d e f) (k : ∀ a b c d e f, p a b c d e f → q a b c d e f → r a b c d e f → s a b c d e f → t a b c d e f → H) : H := Exists.elim h fun a h => Exists.elim h fun b h => Exists.elim h fun c h => Exists.elim h fun d h => Exists.elim h fun e h => Exists.elim h fun f h => k a b c d e f h.1 h.2.1 h.2.2.1 h.2.2.2.1 h.2.2.2.2
theorem el66.{u0, u1, u2, u3, u4, u5} {α : Sort u0} {β : Sort u1} {γ : Sort u2} {δ : Sort u3} {ε : Sort u4} {ζ : Sort u5} {p q r s t u : α → β → γ → δ → ε → ζ → Prop} {H : Prop} (h : ∃ a b c d e f, p a b c d e f ∧ q a b c d e f ∧ r a b c d e f ∧ s a b c d e f ∧ t a b c d e f ∧ u a b c d e f) (k : ∀ a b c d e f, p a b c d e f → q a b c d e f → r a b c d e f → s a b c d e f → t a b c d e f → u a b c d e f → H) : H := Exists.elim h fun a h => Exists.elim h fun b h => Exists.elim h fun c h => Exists.elim h fun d h => Exists.elim h fun e h => Exists.elim h fun f h => k a b c d e f h.1 h.2.1 h.2.2.1 h.2.2.2.1 h.2.2.2.2.1 h.2.2.2.2.2
theorem bind2 {α β γ : Type} {x : Option (α × β)} {f : α × β → Option γ} {r : γ} {H : Prop} (k : ∀ a b, x = some (a, b) → f (a, b) = some r → H) (h : x.bind f = some r) : H := by
  cases x with
  | none => cases h
  | some p => exact k p.1 p.2 rfl h
theorem bind3 {α β γ δ : Type} {x : Option (α × β × γ)} {f : α × β × γ → Option δ} {r : δ} {H : Prop} (k : ∀ a b c, x = some (a, b, c) → f (a, b, c) = some r → H) (h : x.bind f = some r) : H := by
  cases x with
  | none => cases h
  | some p => exact k p.1 p.2.1 p.2.2 rfl h
theorem bind1 {α γ : Type} {x : Option α} {f : α → Option γ} {r : γ} {H : Prop} (k : ∀ a, x = some a → f a = some r → H) (h : x.bind f = some r) : H := by
  cases x with
  | none => cases h
  | some p => exact k p rfl h
theorem map1 {α γ : Type} {x : Option α} {f : α → γ} {r : γ} {H : Prop} (k : ∀ a, x = some a → f a = r → H) (h : x.map f = some r) : H := by
  cases x with
  | none => cases h
  | some p => exact k p rfl (Option.some.inj h)
theorem some2 {α β : Type} {a c : α} {b d : β} {H : Prop} (k : a = c → b = d → H) (h : some (a, b) = some (c, d)) : H := by
  cases h; exact k rfl rfl
theorem some3 {α β γ : Type} {a c : α} {b d : β} {e f : γ} {H : Prop} (k : a = c → b = d → e = f → H) (h : some (a, b, e) = some (c, d, f)) : H := by
  cases h; exact k rfl rfl rfl
theorem bd2 {α β γ : Type} {x : Option (α × β)} {f : α × β → Option γ} {r : γ} {H : Prop} (h : x.bind f = some r) (k : ∀ a b, x = some (a, b) → f (a, b) = some r → H) : H := bind2 k h
theorem bd3 {α β γ δ : Type} {x : Option (α × β × γ)} {f : α × β × γ → Option δ} {r : δ} {H : Prop} (h : x.bind f = some r) (k : ∀ a b c, x = some (a, b, c) → f (a, b, c) = some r → H) : H := bind3 k h
theorem bd1 {α γ : Type} {x : Option α} {f : α → Option γ} {r : γ} {H : Prop} (h : x.bind f = some r) (k : ∀ a, x = some a → f a = some r → H) : H := bind1 k h
theorem sm2 {α β : Type} {a c : α} {b d : β} {H : Prop} (h : some (a, b) = some (c, d)) (k : a = c → b = d → H) : H := some2 k h
theorem sm3 {α β γ : Type} {a c : α} {b d : β} {e f : γ} {H : Prop} (h : some (a, b, e) = some (c, d, f)) (k : a = c → b = d → e = f → H) : H := some3 k h
theorem no_el {α : Type} {r : α} {H : Prop} (e : (none : Option α) = some r) : H := nomatch e
theorem ite_b {b : Bool} {P Q : Prop} (h1 : b = true → P) (h2 : b = false → Q) : if b = true then P else Q := by
  cases b
  · exact h2 rfl
  · exact h1 rfl
theorem cond_t {α : Type} {b : Bool} {x y z : α} (h : b = true) (e : (bif b then x else y) = z) : x = z := by rw [h] at e; exact e
theorem cond_f {α : Type} {b : Bool} {x y z : α} (h : b = false) (e : (bif b then x else y) = z) : y = z := by rw [h] at e; exact e
theorem hide {G : Prop} (h : ∀ H : Prop, (G → H) → H) : G := h G id
end Mine
end
section
open PySem PySem.W PyProof.Rows
namespace Mine

inductive D where
  | none
  | bool (b : Bool)
  | int (i : Int)
  | list (l : List D)
  | tup (l : List D)
  | rng (a b : Int)
  | ref (k : Nat)
  | fn (f : Nat)


inductive O where
  | dead
  | list (l : List D)
  | llist (l : List D)
  | dict (es : List (Int × D))
  | ldict (es : List (Int × D))
  | set (es : List Int)
  | inst (c : Nat) (attrs : List (Nat × D))
  | iter (k : Nat) (i : Nat)
  | next (k : Nat)


noncomputable abbrev Store := List O
noncomputable abbrev Loc := List (Option D)
noncomputable abbrev Fun := Nat → List D → Store → Option (D × Store)

inductive B where
  | abs | len | range | sorted | sum | min | divmod | list | tuple | bool | iter | set


inductive BM where
  | append | extend | index | count | pop | clear | get | add


mutual
inductive E where
  | var (i : Nat)
  | glob (g : Nat)
  | none
  | bool (b : Bool)
  | int (i : Int)
  | bin (op : Operator) (a b : E)
  | neg (a : E)
  | not (a : E)
  | cmp (op : CmpOp) (a b : E)
  | and (a b : E)
  | or (a b : E)
  | ite (c a b : E)
  | list (m : Bool) (es : List E)
  | tup (es : List E)
  | dict0
  | call (f : Nat) (args : List E)
  | new (c : Nat) (args : List E)
  | bi (b : B) (args : List E)
  | callv (f : E) (args : List E)
  | umeth (o : E) (f : Nat) (args : List E)
  | bmeth (o : E) (m : BM) (args : List E)
  | star (e : E)
  | attr (o : E) (a : Nat)
  | nextOf (o : E)
  | idx (o i : E)
  | slice (o : E) (lo hi : Option E)
  | comp (m : Bool) (elt : E) (gens : List G)
inductive It where
  | e (e : E)
  | zip (a b : E)
  | vals (o : E)
inductive G where
  | mk (ts : List Nat) (tupled : Bool) (it : It) (ifs : List E)
end

inductive T where
  | name (i : Nat)
  | tup (ts : List T)
  | sub (o i : E)
  | attr (o : E) (a : Nat)

inductive S where
  | expr (e : E)
  | assign (t : T) (e : E)
  | assign2 (t u : T) (e : E)
  | aug (o : E) (a : Nat) (op : Operator) (e : E)
  | ret (e : E)
  | ife (c : E) (a b : List S)
  | ifNone (x : Nat) (e : E) (a : List S)
  | whil (c : E) (body orelse : List S)
  | fore (t : T) (it : E) (body : List S)
  | brk
  | cont
  | pass
  | del (o i : E)
  | tryPlain (body : List S)
  | tryNext (x : Nat) (f : E) (h : List S)
  | bad
  | freeze (x : Nat)

inductive Fl where
  | next | brk | cont
  | ret (d : D)


structure Fn where
  np : Nat
  dn : Nat
  star : Bool
  ns : Nat
  body : List S



noncomputable def rngL (a b : Int) : List D := (List.range (b - a).toNat).map fun (i : Nat) => .int (a + i)

noncomputable def asNo : D → Option Unit
  | .none => some ()
  | _ => .none
noncomputable def asB : D → Option Bool
  | .bool b => some b
  | _ => .none
noncomputable def asI : D → Option Int
  | .int i => some i
  | _ => .none
noncomputable def asLi : D → Option (List D)
  | .list l => some l
  | _ => .none
noncomputable def asTu : D → Option (List D)
  | .tup l => some l
  | _ => .none
noncomputable def asRef : D → Option Nat
  | .ref k => some k
  | _ => .none
noncomputable def asFn : D → Option Nat
  | .fn f => some f
  | _ => .none
noncomputable def asTree : D → Option (List D)
  | .list l => some l
  | .tup l => some l
  | _ => .none
noncomputable def oList : O → Option (List D)
  | .list l => some l
  | _ => .none
noncomputable def oDict : O → Option (List (Int × D))
  | .dict es => some es
  | _ => .none
noncomputable def oSet : O → Option (List Int)
  | .set es => some es
  | _ => .none
noncomputable def oList' : O → Option (List D)
  | .list l => some l
  | .llist l => some l
  | _ => .none
noncomputable def oDict' : O → Option (List (Int × D))
  | .dict es => some es
  | .ldict es => some es
  | _ => .none
noncomputable def oInst : O → Option (Nat × List (Nat × D))
  | .inst c as => some (c, as)
  | _ => .none
noncomputable def oIter : O → Option (Nat × Nat)
  | .iter k i => some (k, i)
  | _ => .none
noncomputable def oNext : O → Option Nat
  | .next k => some k
  | _ => .none
noncomputable def arg1 {α : Type} (args : List D) (f : D → Option α) : Option α := match args with
  | [d] => f d
  | _ => .none
noncomputable def arg2 {α : Type} (args : List D) (f : D → D → Option α) : Option α := match args with
  | [d, e] => f d e
  | _ => .none
noncomputable def arg0 {α : Type} (args : List D) (f : Option α) : Option α := match args with
  | [] => f
  | _ => .none

noncomputable def asList (σ : Store) : D → Option (List D)
  | .list l => some l
  | .ref k => (σ[k]?).bind oList'
  | _ => .none

noncomputable def asDict (σ : Store) : D → Option (List (Int × D))
  | .ref k => (σ[k]?).bind oDict'
  | _ => .none

noncomputable def asSeq (σ : Store) : D → Option (List D)
  | .tup l => some l
  | .rng a b => some (rngL a b)
  | .list l => some l
  | .ref k => (σ[k]?).bind oList'
  | _ => .none

noncomputable def asLT (σ : Store) : D → Option (List D)
  | .tup l => some l
  | .list l => some l
  | .ref k => (σ[k]?).bind oList'
  | _ => .none

noncomputable def truth (σ : Store) : D → Option Bool
  | .none => some false
  | .bool b => some b
  | .int i => some (i != 0)
  | .tup l => some (!l.isEmpty)
  | .list l => some (!l.isEmpty)
  | .ref k => ((σ[k]?).bind oList').bind fun l => some (!l.isEmpty)
  | _ => .none

noncomputable def lim : Nat := 2 ^ 20

noncomputable def rngOk (a b : Int) : Bool := decide (0 ≤ a) && decide (a ≤ 1048576) && decide (0 ≤ b) && decide (b ≤ 1048576)

noncomputable def mkL (l : List D) : Option D := if l.length ≤ lim then some (.list l) else .none

noncomputable def eqL (f : D → D → Option Bool) : List D → List D → Option Bool
  | [], _ => some true
  | a :: as, bs => match bs with
    | [] => some true
    | b :: bs => (f a b).bind fun x => (eqL f as bs).bind fun y => some (x && y)

noncomputable def eqD : Nat → D → D → Option Bool
  | 0, _, _ => .none
  | n + 1, a, b => match a with
    | .none => (asNo b).bind fun _ => some true
    | .bool x => (asB b).bind fun y => some (x == y)
    | .int x => (asI b).bind fun y => some (x == y)
    | .list l => (asLi b).bind fun l' => if l.length == l'.length then eqL (eqD n) l l' else some false
    | .tup l => (asTu b).bind fun l' => if l.length == l'.length then eqL (eqD n) l l' else .none
    | _ => .none

noncomputable def deep : Nat := 8

noncomputable def top (σ : Store) (d : D) : D := match asList σ d with
  | some l => .list l
  | .none => d

noncomputable def eqs (d : D) : List D → Option (List Bool)
  | [] => some []
  | x :: xs => (eqD deep x d).bind fun b => (eqs d xs).bind fun bs => some (b :: bs)

noncomputable def inL (d : D) (l : List D) : Option Bool := (eqs d l).bind fun bs => some (bs.any id)
noncomputable def indexL (d : D) (l : List D) : Option Nat := (eqs d l).bind fun bs => bs.findIdx? id
noncomputable def countL (d : D) (l : List D) : Option Nat := (eqs d l).bind fun bs => some (bs.countP id)

noncomputable def asInts : List D → Option (List Int)
  | [] => some []
  | d :: r => (asI d).bind fun i => (asInts r).bind fun is => some (i :: is)

noncomputable def dictHas (i : Int) (es : List (Int × D)) : Bool := es.any fun e => e.1 == i
noncomputable def inO (x : D) : O → Option Bool
  | .list l => inL x l
  | .llist l => inL x l
  | .dict es => (asI x).bind fun i => some (dictHas i es)
  | .ldict es => (asI x).bind fun i => some (dictHas i es)
  | .set es => (asI x).bind fun i => some (es.contains i)
  | _ => .none
noncomputable def isIn (σ : Store) (x : D) : D → Option Bool
  | .list l => inL x l
  | .tup l => inL x l
  | .ref k => (σ[k]?).bind (inO x)
  | _ => .none

noncomputable def isNo : D → Option Bool
  | .none => some true
  | .ref _ => some false
  | .list _ => some false
  | _ => .none
noncomputable def int2 {α : Type} (a b : D) (f : Int → Int → Option α) : Option α := (asI a).bind fun i => (asI b).bind fun j => f i j

noncomputable def cmpOp (σ : Store) (op : CmpOp) (a b : D) : Option Bool :=
  match op with
  | .Lt => int2 a b fun i j => some (decide (i < j))
  | .LtE => int2 a b fun i j => some (decide (i ≤ j))
  | .Gt => int2 a b fun i j => some (decide (j < i))
  | .GtE => int2 a b fun i j => some (decide (j ≤ i))
  | .Eq => eqD deep (top σ a) (top σ b)
  | .NotEq => (eqD deep (top σ a) (top σ b)).bind fun r => some (!r)
  | .In => isIn σ a b
  | .NotIn => (isIn σ a b).bind fun r => some (!r)
  | .Is => (asNo b).bind fun _ => isNo a
  | .IsNot => (asNo b).bind fun _ => (isNo a).bind fun r => some (!r)

noncomputable def small (b : Int) : Bool := decide (b.natAbs < 4611686018427387904)

noncomputable def binOp (op : Operator) (a b : D) : Option D :=
  match op with
  | .Add => match a with
    | .int i => (asI b).bind fun j => some (.int (i + j))
    | .list l => (asLi b).bind fun l' => mkL (l ++ l')
    | _ => .none
  | .Sub => int2 a b fun i j => some (.int (i - j))
  | .Mult => int2 a b fun i j => if small i || small j then some (.int (i * j)) else .none
  | .FloorDiv => int2 a b fun i j => if j ≠ 0 ∧ small j = true then some (.int (i.fdiv j)) else .none
  | .Mod => int2 a b fun i j => if j = 0 then .none else some (.int (i.fmod j))
  | _ => .none

noncomputable def insSorted (i : Int) : List Int → List Int
  | [] => [i]
  | j :: r => if i ≤ j then i :: j :: r else j :: insSorted i r
noncomputable def sortI : List Int → List Int
  | [] => []
  | i :: r => insSorted i (sortI r)

noncomputable def minI : Int → List Int → Int
  | i, [] => i
  | i, j :: r => minI (if j < i then j else i) r
noncomputable def minL : List Int → Option Int
  | [] => .none
  | i :: r => some (minI i r)

noncomputable def rngArgs : List D → Option (Int × Int)
  | [] => .none
  | d :: r => (asI d).bind fun i => match r with
    | [] => some (0, i)
    | e :: r => (asI e).bind fun j => match r with
      | [] => some (i, j)
      | _ => .none

noncomputable def bltin (b : B) (σ : Store) (args : List D) : Option (D × Store) :=
  match b with
  | .abs => arg1 args fun d => (asI d).bind fun i => some (.int (if i < 0 then -i else i), σ)
  | .len => arg1 args fun d => (asLT σ d).bind fun l => some (.int l.length, σ)
  | .range => (rngArgs args).bind fun p => if rngOk p.1 p.2 = true then some (.rng p.1 p.2, σ) else .none
  | .sorted => arg1 args fun d => (asLT σ d).bind fun l => (asInts l).bind fun is => if l.length < 64 then some (.list ((sortI is).map .int), σ) else .none
  | .sum => arg1 args fun d => (asList σ d).bind fun l => (asInts l).bind fun is => some (.int is.sum, σ)
  | .min => arg1 args fun d => (asList σ d).bind fun l => (asInts l).bind fun is => (minL is).bind fun i => some (.int i, σ)
  | .divmod => arg2 args fun d e => int2 d e fun a b => if b ≠ 0 ∧ small b = true then some (.tup [.int (a.fdiv b), .int (a.fmod b)], σ) else .none
  | .list => arg1 args fun d => (asSeq σ d).bind fun l => some (.ref σ.length, σ ++ [.list l])
  | .tuple => arg1 args fun d => (asList σ d).bind fun l => some (.tup l, σ)
  | .bool => arg1 args fun d => (asList σ d).bind fun l => some (.bool (!l.isEmpty), σ)
  | .iter => arg1 args fun d => (asRef d).bind fun k => ((σ[k]?).bind oList).bind fun _ => some (.ref σ.length, σ ++ [.iter k 0])
  | .set => arg0 args (some (.ref σ.length, σ ++ [.set []]))

noncomputable def dictGet (i : Int) (es : List (Int × D)) : Option D := es.lookup i
noncomputable def dictPut (i : Int) (d : D) (es : List (Int × D)) : List (Int × D) := if es.any (fun e => e.1 == i) then es.map (fun e => if e.1 == i then (i, d) else e) else es ++ [(i, d)]
noncomputable def dictDel (i : Int) (es : List (Int × D)) : List (Int × D) := es.filter fun e => !(e.1 == i)

noncomputable def onList (σ : Store) (o : D) (f : List D → Option (D × List D)) : Option (D × Store) := (asRef o).bind fun k => ((σ[k]?).bind oList).bind fun l => (f l).bind fun p => some (p.1, σ.set k (.list p.2))

noncomputable def bmeth (m : BM) (σ : Store) (o : D) (args : List D) : Option (D × Store) :=
  match m with
  | .append => arg1 args fun d => onList σ o fun l => if l.length < lim then some (.none, l ++ [d]) else .none
  | .extend => arg1 args fun d => (asTree d).bind fun l' => onList σ o fun l => if l.length + l'.length ≤ lim then some (.none, l ++ l') else .none
  | .index => arg1 args fun d => (asList σ o).bind fun l => (indexL d l).bind fun n => some (.int n, σ)
  | .count => arg1 args fun d => (asList σ o).bind fun l => (countL d l).bind fun n => some (.int n, σ)
  | .pop => match args with
    | [] => onList σ o fun l => (l.getLast?).bind fun d => some (d, l.dropLast)
    | a :: r => arg0 r ((asI a).bind fun i => onList σ o fun l => if 0 ≤ i then (l[i.toNat]?).bind fun d => some (d, l.eraseIdx i.toNat) else .none)
  | .clear => arg0 args (onList σ o fun _ => some (.none, []))
  | .get => arg1 args fun d => (asI d).bind fun i => (asDict σ o).bind fun es => some ((dictGet i es).getD .none, σ)
  | .add => arg1 args fun d => (asI d).bind fun i => (asRef o).bind fun k => ((σ[k]?).bind oSet).bind fun es => if es.length < 1000 then some (.none, σ.set k (.set (if es.contains i then es else es ++ [i]))) else .none

noncomputable def itemL (l : List D) (i : Int) (m : Bool) : Option D := if 0 ≤ i then l[i.toNat]? else if i = -1 ∧ m = true then l.getLast? else .none
noncomputable def itemO (i : Int) : O → Option D
  | .dict es => dictGet i es
  | .ldict es => dictGet i es
  | .list l => itemL l i true
  | .llist l => itemL l i true
  | _ => .none
noncomputable def getItem (σ : Store) (o i : D) : Option D := (asI i).bind fun i => match o with
  | .tup l => itemL l i false
  | .list l => itemL l i false
  | .ref k => (σ[k]?).bind (itemO i)
  | _ => .none

noncomputable def setItem (σ : Store) (o i v : D) : Option Store := (asRef o).bind fun k => (asI i).bind fun i => ((σ[k]?).bind oDict).bind fun es => if es.length < lim then some (σ.set k (.dict (dictPut i v es))) else .none

noncomputable def getAttr (σ : Store) (o : D) (a : Nat) : Option D := (asRef o).bind fun k => ((σ[k]?).bind oInst).bind fun p => p.2.lookup a

noncomputable def putAttr (a : Nat) (d : D) : List (Nat × D) → List (Nat × D)
  | [] => [(a, d)]
  | (b, x) :: r => if b == a then (a, d) :: r else (b, x) :: putAttr a d r

noncomputable def attrOk (c a n : Nat) : Bool := (decide (c = 0) && (decide (a < 4) && decide (n < 8))) || (decide (c = 1) && (decide (4 ≤ a) && decide (a < 7)))
noncomputable def setAttr (σ : Store) (o : D) (a : Nat) (v : D) : Option Store := (asRef o).bind fun k => ((σ[k]?).bind oInst).bind fun p => if attrOk p.1 a p.2.length = true then some (σ.set k (.inst p.1 (putAttr a v p.2))) else .none

noncomputable def sliceL (l : List D) (lo hi : Option D) : Option (List D) := match lo with
  | .none => hi.bind fun d => (asI d).bind fun i => if 0 ≤ i then some (l.take i.toNat) else .none
  | some d => match hi with
    | .none => (asI d).bind fun i => if 0 ≤ i then some (l.drop i.toNat) else .none
    | some _ => .none

noncomputable def zipL : List D → List D → List D
  | [], _ => []
  | a :: as, bs => match bs with
    | [] => []
    | b :: bs => .tup [a, b] :: zipL as bs

noncomputable def two {α β : Type} (l : List α) (f : α → α → Option β) : Option β := match l with
  | [a, b] => f a b
  | _ => .none
noncomputable def bindG (ρ : Loc) (ts : List Nat) (tupled : Bool) (d : D) : Option Loc :=
  match tupled with
  | true => two ts fun t u => (asTu d).bind fun l => two l fun x y => some ((ρ.set t (some x)).set u (some y))
  | false => match ts with
    | [] => .none
    | t :: r => match r with
      | [] => some (ρ.set t (some d))
      | _ => .none

noncomputable def recvOk (m : BM) (σ : Store) (x : D) : Bool := match m with
  | .get => (asDict σ x).isSome
  | .add => ((asRef x).bind fun k => (σ[k]?).bind oSet).isSome
  | _ => (asList σ x).isSome
noncomputable def isInst (σ : Store) (x : D) : Bool := ((asRef x).bind fun k => ((σ[k]?).bind oInst).bind fun p => if p.1 = 0 then some () else .none).isSome

structure Env' where
  globs : Nat → Option D
  F : Fun

noncomputable def lockO : O → Option (List D × O)
  | .list l => some (l, .llist l)
  | .dict es => some (es.map fun e => .int e.1, .ldict es)
  | _ => .none
noncomputable def unlO : O → Option O
  | .llist l => some (.list l)
  | .ldict es => some (.dict es)
  | _ => .none
noncomputable def lock (σ : Store) (k : Nat) : Option (List D × Store) := ((σ[k]?).bind lockO).bind fun p => some (p.1, σ.set k p.2)
noncomputable def unlock (σ : Store) (k : Nat) : Option Store := ((σ[k]?).bind unlO).bind fun o => some (σ.set k o)
noncomputable def unlockO (σ : Store) : Option Nat → Option Store
  | .none => some σ
  | some k => unlock σ k

noncomputable def overL (f : D → Store → Option (List D × Store)) : List D → Store → Option (List D × Store)
  | [], σ => some ([], σ)
  | d :: ds, σ => (f d σ).bind fun p => (overL f ds p.2).bind fun q => some (p.1 ++ q.1, q.2)

noncomputable def getV (ρ : Loc) (i : Nat) : Option D := (ρ[i]?).bind id
noncomputable def treeOf : D → Option (List D)
  | .list l => some l
  | .tup l => some l
  | .rng a b => some (rngL a b)
  | _ => .none

mutual
noncomputable def ev (X : Env') : E → Loc → Store → Option (D × Store)
  | .var i, ρ, σ => (getV ρ i).bind fun d => some (d, σ)
  | .glob g, _, σ => (X.globs g).bind fun d => some (d, σ)
  | .none, _, σ => some (.none, σ)
  | .bool b, _, σ => some (.bool b, σ)
  | .int i, _, σ => some (.int i, σ)
  | .bin op a b, ρ, σ => (ev X a ρ σ).bind fun p => (ev X b ρ p.2).bind fun q => (binOp op p.1 q.1).bind fun r => some (r, q.2)
  | .neg a, ρ, σ => (ev X a ρ σ).bind fun p => (asI p.1).bind fun i => some (.int (-i), p.2)
  | .not a, ρ, σ => (ev X a ρ σ).bind fun p => (truth p.2 p.1).bind fun b => some (.bool (!b), p.2)
  | .cmp op a b, ρ, σ => (ev X a ρ σ).bind fun p => (ev X b ρ p.2).bind fun q => (cmpOp q.2 op p.1 q.1).bind fun r => some (.bool r, q.2)
  | .and a b, ρ, σ => (ev X a ρ σ).bind fun p => (truth p.2 p.1).bind fun t => bif t then ev X b ρ p.2 else some (p.1, p.2)
  | .or a b, ρ, σ => (ev X a ρ σ).bind fun p => (truth p.2 p.1).bind fun t => bif t then some (p.1, p.2) else ev X b ρ p.2
  | .ite c a b, ρ, σ => (ev X c ρ σ).bind fun p => (truth p.2 p.1).bind fun t => bif t then ev X a ρ p.2 else ev X b ρ p.2
  | .list m es, ρ, σ => (evs X es ρ σ).bind fun p => (mkL p.1).bind fun d => bif m then some (.ref p.2.length, p.2 ++ [.list p.1]) else some (d, p.2)
  | .tup es, ρ, σ => (evs X es ρ σ).bind fun p => if p.1.length ≤ lim then some (.tup p.1, p.2) else .none
  | .dict0, _, σ => some (.ref σ.length, σ ++ [.dict []])
  | .call f args, ρ, σ => (evs X args ρ σ).bind fun p => X.F f p.1 p.2
  | .new c args, ρ, σ => (evs X args ρ σ).bind fun p => (X.F (1000 + c) (.ref p.2.length :: p.1) (p.2 ++ [.inst c []])).bind fun q => some (.ref p.2.length, q.2)
  | .bi b args, ρ, σ => (evs X args ρ σ).bind fun p => bltin b p.2 p.1
  | .callv f args, ρ, σ => (ev X f ρ σ).bind fun p => (evs X args ρ p.2).bind fun q => (asFn p.1).bind fun f => X.F f q.1 q.2
  | .umeth o f args, ρ, σ => (ev X o ρ σ).bind fun p => bif isInst p.2 p.1 then (evs X args ρ p.2).bind fun q => X.F f (p.1 :: q.1) q.2 else .none
  | .bmeth o m args, ρ, σ => (ev X o ρ σ).bind fun p => bif recvOk m p.2 p.1 then (evs X args ρ p.2).bind fun q => bmeth m q.2 p.1 q.1 else .none
  | .star _, _, _ => .none
  | .attr o a, ρ, σ => (ev X o ρ σ).bind fun p => (getAttr p.2 p.1 a).bind fun r => some (r, p.2)
  | .nextOf o, ρ, σ => (ev X o ρ σ).bind fun p => (asRef p.1).bind fun k => ((p.2[k]?).bind oIter).bind fun q => if q.2 = 0 then some (.ref p.2.length, p.2 ++ [.next k]) else .none
  | .idx o i, ρ, σ => (ev X o ρ σ).bind fun p => (ev X i ρ p.2).bind fun q => (getItem q.2 p.1 q.1).bind fun r => some (r, q.2)
  | .slice o lo hi, ρ, σ => (ev X o ρ σ).bind fun p => (evo X lo ρ p.2).bind fun q => (evo X hi ρ q.2).bind fun r => (asList r.2 p.1).bind fun xs => (sliceL xs q.1 r.1).bind fun l => some (.list l, r.2)
  | .comp m elt gens, ρ, σ => (evg X gens (ev X elt) ρ σ).bind fun p => (mkL p.1).bind fun d => bif m then some (.ref p.2.length, p.2 ++ [.list p.1]) else some (d, p.2)
noncomputable def evs (X : Env') : List E → Loc → Store → Option (List D × Store)
  | [], _, σ => some ([], σ)
  | .star e :: es, ρ, σ => (ev X e ρ σ).bind fun p => (asLT p.2 p.1).bind fun l => (evs X es ρ p.2).bind fun q => some (l ++ q.1, q.2)
  | e :: es, ρ, σ => (ev X e ρ σ).bind fun p => (evs X es ρ p.2).bind fun q => some (p.1 :: q.1, q.2)
noncomputable def evo (X : Env') : Option E → Loc → Store → Option (Option D × Store)
  | .none, _, σ => some (.none, σ)
  | some e, ρ, σ => (ev X e ρ σ).bind fun p => some (some p.1, p.2)
noncomputable def evi (X : Env') : It → Loc → Store → Option (List D × Store × Option Nat)
  | .zip a b, ρ, σ => (ev X a ρ σ).bind fun p => (ev X b ρ p.2).bind fun q => (asLi p.1).bind fun l => (asLi q.1).bind fun l' => some (zipL l l', q.2, .none)
  | .vals o, ρ, σ => (ev X o ρ σ).bind fun p => (asRef p.1).bind fun k => ((p.2[k]?).bind oDict).bind fun es => some (es.map (·.2), p.2.set k (.ldict es), some k)
  | .e e, ρ, σ => (ev X e ρ σ).bind fun p => (treeOf p.1).bind fun l => some (l, p.2, .none)
noncomputable def evc (X : Env') : List E → Loc → Store → Option (Bool × Store)
  | [], _, σ => some (true, σ)
  | c :: cs, ρ, σ => (ev X c ρ σ).bind fun p => (truth p.2 p.1).bind fun t => bif t then evc X cs ρ p.2 else some (false, p.2)
noncomputable def evg (X : Env') : List G → (Loc → Store → Option (D × Store)) → Loc → Store → Option (List D × Store)
  | [], fe, ρ, σ => (fe ρ σ).bind fun p => some ([p.1], p.2)
  | .mk ts tupled it ifs :: gs, fe, ρ, σ => (evi X it ρ σ).bind fun p => (overL (fun d σ => (bindG ρ ts tupled d).bind fun ρ' => (evc X ifs ρ' σ).bind fun q => bif q.1 then evg X gs fe ρ' q.2 else some ([], q.2)) p.1 p.2.1).bind fun q => (unlockO q.2 p.2.2).bind fun σ => some (q.1, σ)
end

noncomputable def assignT (X : Env') : T → D → Loc → Store → Option (Loc × Store)
  | .name i, d, ρ, σ => some (ρ.set i (some d), σ)
  | .sub o i, d, ρ, σ => (ev X o ρ σ).bind fun p => (ev X i ρ p.2).bind fun q => (setItem q.2 p.1 q.1 d).bind fun σ => some (ρ, σ)
  | .attr o a, d, ρ, σ => (ev X o ρ σ).bind fun p => (setAttr p.2 p.1 a d).bind fun σ => some (ρ, σ)
  | .tup [t, u], d, ρ, σ => (asTu d).bind fun l => two l fun a b => (assignT X t a ρ σ).bind fun p => assignT X u b p.1 p.2
  | .tup _, _, _, _ => .none

noncomputable def test (X : Env') (c : E) (ρ : Loc) (σ : Store) : Option (Bool × Store) := (ev X c ρ σ).bind fun p => (truth p.2 p.1).bind fun t => some (t, p.2)

noncomputable def aft (f : Loc → Store → Option (Fl × Loc × Store)) (r : Fl × Loc × Store) : Option (Fl × Loc × Store) := match r.1 with
  | .next => f r.2.1 r.2.2
  | .cont => f r.2.1 r.2.2
  | .brk => some (.next, r.2.1, r.2.2)
  | .ret d => some (.ret d, r.2.1, r.2.2)
noncomputable def whileL (test : Loc → Store → Option (Bool × Store)) (body orelse : Loc → Store → Option (Fl × Loc × Store)) : Nat → Loc → Store → Option (Fl × Loc × Store)
  | 0, _, _ => .none
  | n + 1, ρ, σ => (test ρ σ).bind fun p => bif p.1 then (body ρ p.2).bind (aft (whileL test body orelse n)) else orelse ρ p.2

noncomputable def forL (body : Loc → Store → Option (Fl × Loc × Store)) (asg : D → Loc → Store → Option (Loc × Store)) : List D → Loc → Store → Option (Fl × Loc × Store)
  | [], ρ, σ => some (.next, ρ, σ)
  | d :: ds, ρ, σ => (asg d ρ σ).bind fun p => (body p.1 p.2).bind (aft (forL body asg ds))

noncomputable def aftS (f : Loc → Store → Option (Fl × Loc × Store)) (r : Fl × Loc × Store) : Option (Fl × Loc × Store) := match r.1 with
  | .next => f r.2.1 r.2.2
  | _ => some r
noncomputable def forD (f : List D → Loc → Store → Option (Fl × Loc × Store)) (x : D) (ρ : Loc) (σ : Store) : Option (Fl × Loc × Store) := match x with
  | .list l => f l ρ σ
  | .tup l => f l ρ σ
  | .rng a b => f (rngL a b) ρ σ
  | .ref k => (lock σ k).bind fun p => (f p.1 ρ p.2).bind fun q => (unlock q.2.2 k).bind fun σ => some (q.1, q.2.1, σ)
  | _ => .none
noncomputable def nextIt (σ : Store) (x : D) : Option (Nat × Option D × Store) := (asRef x).bind fun k => ((σ[k]?).bind oNext).bind fun j => ((σ[j]?).bind oIter).bind fun p => (asList σ (.ref p.1)).bind fun xs => match xs[p.2]? with
  | some d => some (j, some d, σ.set j (.iter p.1 (p.2 + 1)))
  | .none => some (j, .none, σ.set j .dead)

mutual
noncomputable def ex (X : Env') (W : Nat) : S → Loc → Store → Option (Fl × Loc × Store)
  | .expr e, ρ, σ => (ev X e ρ σ).bind fun p => some (.next, ρ, p.2)
  | .assign t e, ρ, σ => (ev X e ρ σ).bind fun p => (assignT X t p.1 ρ p.2).bind fun q => some (.next, q.1, q.2)
  | .assign2 t u e, ρ, σ => (ev X e ρ σ).bind fun p => (assignT X t p.1 ρ p.2).bind fun q => (assignT X u p.1 q.1 q.2).bind fun r => some (.next, r.1, r.2)
  | .aug o a op e, ρ, σ => (ev X o ρ σ).bind fun p => (getAttr p.2 p.1 a).bind fun y => (ev X e ρ p.2).bind fun q => int2 y q.1 fun i j => (binOp op (.int i) (.int j)).bind fun r => (setAttr q.2 p.1 a r).bind fun σ => some (.next, ρ, σ)
  | .ret e, ρ, σ => (ev X e ρ σ).bind fun p => some (.ret p.1, ρ, p.2)
  | .ife c a b, ρ, σ => (test X c ρ σ).bind fun p => bif p.1 then exs X W a ρ p.2 else exs X W b ρ p.2
  | .ifNone i e a, ρ, σ => (ev X e ρ σ).bind fun p => (cmpOp p.2 .Is p.1 .none).bind fun t => bif t then exs X W a (ρ.set i (some p.1)) p.2 else some (.next, ρ.set i (some p.1), p.2)
  | .whil c body orelse, ρ, σ => whileL (test X c) (exs X W body) (exs X W orelse) W ρ σ
  | .fore t it body, ρ, σ => (ev X it ρ σ).bind fun p => forD (forL (exs X W body) (assignT X t)) p.1 ρ p.2
  | .brk, ρ, σ => some (.brk, ρ, σ)
  | .cont, ρ, σ => some (.cont, ρ, σ)
  | .pass, ρ, σ => some (.next, ρ, σ)
  | .del o i, ρ, σ => (ev X o ρ σ).bind fun p => (ev X i ρ p.2).bind fun q => (asRef p.1).bind fun k => (asI q.1).bind fun i => ((q.2[k]?).bind oDict).bind fun es => if dictHas i es then some (.next, ρ, q.2.set k (.dict (dictDel i es))) else .none
  | .tryPlain body, ρ, σ => exs X W body ρ σ
  | .tryNext i f h, ρ, σ => (ev X f ρ σ).bind fun p => (nextIt p.2 p.1).bind fun q => match q.2.1 with
    | some d => some (.brk, ρ.set i (some d), q.2.2)
    | .none => exs X W h ρ q.2.2
  | .bad, _, _ => .none
  | .freeze i, ρ, σ => (getV ρ i).bind fun d => (asRef d).bind fun k => ((σ[k]?).bind oList).bind fun l => some (.next, ρ.set i (some (.list l)), σ.set k .dead)
noncomputable def exs (X : Env') (W : Nat) : List S → Loc → Store → Option (Fl × Loc × Store)
  | [], ρ, σ => some (.next, ρ, σ)
  | s :: ss, ρ, σ => (ex X W s ρ σ).bind (aftS (exs X W ss))
end

noncomputable def bindA (fn : Fn) (args : List D) : Option Loc :=
  let args := if args.length > lim then [] else if args.length < fn.np ∧ fn.np ≤ args.length + fn.dn then args ++ List.replicate (fn.np - args.length) D.none else args
  if fn.star then
    if fn.np ≤ args.length then some ((args.take fn.np ++ [D.tup (args.drop fn.np)]).map some ++ List.replicate (fn.ns - (fn.np + 1)) .none) else .none
  else
    if args.length = fn.np then some (args.map some ++ List.replicate (fn.ns - fn.np) .none) else .none

structure Prog' where
  fns : Nat → Option Fn
  globs : Nat → Option D
  W : Nat

noncomputable def retOf (r : Fl × Loc × Store) : Option (D × Store) := match r.1 with
  | .ret d => some (d, r.2.2)
  | .next => some (.none, r.2.2)
  | _ => .none
noncomputable def callF (P : Prog') : Nat → Fun
  | 0 => fun _ _ _ => .none
  | n + 1 => fun f args σ => (P.fns f).bind fun fn => (bindA fn args).bind fun ρ => (exs ⟨P.globs, callF P n⟩ P.W fn.body ρ σ).bind retOf

end Mine
end
section
open PySem PySem.W PyProof.Rows
namespace Mine

noncomputable def Fz (o : Obj) : Prop := (∃ xs n, o.data = .seq xs n) ∨ (o.cls = .type "range" ∧ ∃ vs, o.data = .fields vs)

structure Txt where
  fv : Nat → Option Addr
  ca : Nat → Addr
  an : Nat → Str

noncomputable abbrev Ads := List (Addr × Addr)
noncomputable def Sub (ads ads' : Ads) : Prop := ∀ (k : Nat) (p : Addr × Addr), ads[k]? = some p → ads'[k]? = some p

section
variable (X : Txt) (ads : Ads) (W : Addr → Prop) (h : Heap)
mutual
noncomputable def Rep : D → Value → Prop
  | .none, v => v = .none
  | .bool b, v => v = .bool b
  | .int i, v => ∃ t, v = .int i t
  | .list l, v => ∃ a vs, v = .ref a ∧ h.PlainList a (List.toArray vs) ∧ ¬ W a ∧ l.length ≤ lim ∧ RepL l vs
  | .tup l, v => ∃ a vs n, v = .ref a ∧ h.get? a = some { cls := .type "tuple", data := .seq (List.toArray vs) n } ∧ ¬ W a ∧ l.length ≤ lim ∧ RepL l vs
  | .rng a b, v => ∃ r t u x, v = .ref r ∧ IsRange h r a b 1 t u x ∧ ¬ W r ∧ rngOk a b = true
  | .ref k, v => ∃ p, ads[k]? = some p ∧ v = .ref p.1
  | .fn f, v => ∃ a, X.fv f = some a ∧ v = .ref a
noncomputable def RepL : List D → List Value → Prop
  | [], vs => vs = []
  | d :: ds, vs => ∃ v r, vs = v :: r ∧ Rep d v ∧ RepL ds r
end

noncomputable def AttrsL (P : Params) : List (Nat × D) → List DictEntry → Prop
  | [], es => es = []
  | (a, d) :: r, es => ∃ v t q, es = ⟨PyData.keyHash P (X.an a), .str (X.an a) t, v⟩ :: q ∧ Rep X ads W h d v ∧ AttrsL P r q

noncomputable def PairsL : List (Int × D) → List (Int × Value) → Prop
  | [], kvs => kvs = []
  | (i, d) :: r, kvs => ∃ v q, kvs = (i, v) :: q ∧ Rep X ads W h d v ∧ PairsL r q

noncomputable def optRep : Option D → Option Value → Prop
  | .none, o => o = .none
  | some d, o => ∃ v, o = some v ∧ Rep X ads W h d v
end

section
variable (prog : Program) (w : World) (X : Txt) (ads : Ads) (W : Addr → Prop) (lk : Nat → Nat) (h : Heap)

noncomputable def ObjAt (k : Nat) (p : Addr × Addr) : O → Prop
  | .dead => True
  | .list l => ∃ vs, h.PlainList p.1 (List.toArray vs) ∧ RepL X ads W h l vs ∧ l.length ≤ lim ∧ p.2 = p.1
  | .llist l => ∃ vs, h.PlainList p.1 (List.toArray vs) ∧ RepL X ads W h l vs ∧ l.length ≤ lim ∧ p.2 = p.1
  | .dict es => ∃ kvs, h.DictOf (intKind prog w) p.1 kvs ∧ PairsL X ads W h es kvs ∧ es.length ≤ lim ∧ p.2 = p.1
  | .ldict es => ∃ kvs, h.DictAt (intKind prog w) p.1 kvs (lk k) ∧ PairsL X ads W h es kvs ∧ es.length ≤ lim ∧ p.2 = p.1
  | .set es => h.SetOf (intKind prog w) p.1 (fun i => es.contains i) es.length ∧ p.2 = p.1
  | .inst c as => match c with
    | 0 => ∃ es n, h.get? p.1 = some (instObj (X.ca 0) p.2) ∧ h.get? p.2 = some (dictOf es n) ∧ AttrsL X ads W h w.params as es ∧ p.1 ≠ p.2 ∧ as.length ≤ 8 ∧ ∀ e ∈ as, e.1 < 4
    | 1 => ∃ sl : Array (Option Value), h.get? p.1 = some { cls := .ref (X.ca 1), dict := some p.2, data := .plain, slots := sl } ∧ h.get? p.2 = some emptyDict ∧ sl.size ≤ 3 ∧ (∀ i, i < 3 → optRep X ads W h (as.lookup (4 + i)) (sl[i]?.join)) ∧ p.1 ≠ p.2 ∧ ∀ e ∈ as, 4 ≤ e.1 ∧ e.1 < 7
    | _ => False
  | .iter l i => ∃ q, ads[l]? = some q ∧ h.IsListIter p.1 q.1 i ∧ p.2 = p.1 ∧ (i = 0 → ∃ o, h.get? p.1 = some o ∧ o.dict = none)
  | .next k => ∃ q, ads[k]? = some q ∧ h.get? p.1 = some { cls := .type "method-wrapper", data := .fields #[.builtin "list_iterator.__next__", .ref q.1] } ∧ p.2 = p.1
end

noncomputable def O.live : O → Bool
  | .dead => false
  | _ => true

noncomputable def Owned (ads : Ads) (σ : Store) (a : Addr) : Prop := ∃ (k : Nat) (p : Addr × Addr) (o : O), ads[k]? = some p ∧ σ[k]? = some o ∧ o.live = true ∧ (a = p.1 ∨ a = p.2)
noncomputable def WW (Z : List Addr) (ads : Ads) (σ : Store) (a : Addr) : Prop := a ∈ Z ∨ Owned ads σ a

noncomputable def Heap.Has (h : Heap) (a : Addr) : Prop := ∃ o, h.get? a = some o

structure Rel (prog : Program) (w : World) (X : Txt) (h₀ : Heap) (Z : List Addr) (lk : Nat → Nat) (h : Heap) (ads : Ads) (σ : Store) : Prop where
  len : ads.length = σ.length
  keep : ∀ b o, h₀.get? b = some o → h.get? b = some o
  objs : ∀ (k : Nat) (p : Addr × Addr) (o : O), ads[k]? = some p → σ[k]? = some o → ObjAt prog w X ads (WW Z ads σ) lk h k p o
  apart : ∀ (k k' : Nat) (p p' : Addr × Addr) (o o' : O), ads[k]? = some p → ads[k']? = some p' → σ[k]? = some o → σ[k']? = some o' → o.live = true → o'.live = true → k ≠ k' →
    p.1 ≠ p'.1 ∧ p.1 ≠ p'.2 ∧ p.2 ≠ p'.1 ∧ p.2 ≠ p'.2
  new : ∀ (k : Nat) (p : Addr × Addr), ads[k]? = some p → h₀.get? p.1 = none ∧ h₀.get? p.2 = none
  zlt : ∀ a ∈ Z, Heap.Has h a
  alt : ∀ (k : Nat) (p : Addr × Addr) (o : O), ads[k]? = some p → σ[k]? = some o → o.live = true → Heap.Has h p.1 ∧ Heap.Has h p.2
  zown : ∀ a ∈ Z, ¬ Owned ads σ a

noncomputable def Nd (o : Obj) : Prop := ∀ es ep, o.data ≠ .dict es ep
noncomputable def SO (o o' : Obj) : Prop := o'.data = o.data ∧ (Nd o → o' = o)
theorem SO.refl (o : Obj) : SO o o := ⟨rfl, fun _ => rfl⟩
theorem SO.trans {a b c : Obj} (x : SO a b) (y : SO b c) : SO a c := ⟨y.1.trans x.1, fun h => by have := x.2 h; subst this; exact y.2 h⟩
theorem SO.of {h : Heap} {a : Addr} {o : Obj} (e : h.get? a = some o) : ∃ o', h.get? a = some o' ∧ SO o o' := ⟨o, e, SO.refl o⟩
theorem SO.thru {h h' : Heap} {a : Addr} {o : Obj} (x : ∃ o', h.get? a = some o' ∧ SO o o') (k : ∀ o', h.get? a = some o' → h'.get? a = some o') : ∃ o', h'.get? a = some o' ∧ SO o o' := let ⟨o', e, q⟩ := x; ⟨o', k o' e, q⟩
theorem SO.then {h h' : Heap} {a : Addr} {o : Obj} (x : ∃ o', h.get? a = some o' ∧ SO o o') (k : ∀ o', h.get? a = some o' → ∃ o'', h'.get? a = some o'' ∧ SO o' o'') : ∃ o', h'.get? a = some o' ∧ SO o o' := let ⟨o', e, q⟩ := x; let ⟨o'', e', q'⟩ := k o' e; ⟨o'', e', q.trans q'⟩
theorem SO.ex {h : Heap} {a : Addr} {o : Obj} (x : ∃ o', h.get? a = some o' ∧ SO o o') (hn : Nd o) : h.get? a = some o := by refine el12 (x) fun o' e q => ?_; rw [e, q.2 hn]
theorem Fz.nd {o : Obj} (x : Fz o) : Nd o := by
  intro es ep q
  rcases x with ⟨xs, n, e⟩ | ⟨_, vs, e⟩ <;> rw [q] at e <;> cases e

structure Ext (Z : List Addr) (ads : Ads) (σ : Store) (s : Shared) (ads' : Ads) (σ' : Store) (s' : Shared) : Prop where
  pre : ∃ r, ads' = ads ++ r
  kept : ∀ b o, ¬ Owned ads σ b → s.heap.get? b = some o → ∃ o', s'.heap.get? b = some o' ∧ SO o o'
  own : ∀ b, Owned ads' σ' b → Owned ads σ b ∨ s.heap.get? b = none
  has : ∀ b, Heap.Has s.heap b → Heap.Has s'.heap b
  rest : ∃ h tk, s' = { s with heap := h, toks := tk }

mutual
theorem Rep.mono {X : Txt} {ads ads' : Ads} {W W' : Addr → Prop} {h h' : Heap} (hp : Sub ads ads')
    (hk : ∀ a o, ¬ W a → Fz o → h.get? a = some o → h'.get? a = some o) (hW : ∀ a o, h.get? a = some o → W' a → W a) :
    ∀ (d : D) (v : Value), Rep X ads W h d v → Rep X ads' W' h' d v
  | .none, v, e => by simpa [Rep] using e
  | .bool b, v, e => by simpa [Rep] using e
  | .int i, v, e => by simpa [Rep] using e
  | .list l, v, e => by
    refine el25 (e) fun a vs qe4 qp5 hw hl hr => ?_; subst qe4; obtain ⟨n, hg⟩ := qp5
    exact ⟨a, vs, rfl, ⟨n, hk a _ hw (.inl ⟨_, _, rfl⟩) hg⟩, fun x => hw (hW _ _ hg x), hl, RepL.mono hp hk hW l vs hr⟩
  | .tup l, v, e => by
    refine el35 (e) fun a vs n qe6 hg hw hl hr => ?_; subst qe6
    exact ⟨a, vs, n, rfl, hk a _ hw (.inl ⟨_, _, rfl⟩) hg, fun x => hw (hW _ _ hg x), hl, RepL.mono hp hk hW l vs hr⟩
  | .rng a b, v, e => by
    refine el44 (e) fun r t u x qe7 hg hw h1 => ?_; subst qe7
    exact ⟨r, t, u, x, rfl, hk r _ hw (.inr ⟨rfl, _, rfl⟩) hg, fun x => hw (hW _ _ hg x), h1⟩
  | .ref k, v, e => by
    refine el12 (e) fun p hg qe8 => ?_; subst qe8
    exact ⟨p, hp _ _ hg, rfl⟩
  | .fn f, v, e => by simpa [Rep] using e
theorem RepL.mono {X : Txt} {ads ads' : Ads} {W W' : Addr → Prop} {h h' : Heap} (hp : Sub ads ads')
    (hk : ∀ a o, ¬ W a → Fz o → h.get? a = some o → h'.get? a = some o) (hW : ∀ a o, h.get? a = some o → W' a → W a) :
    ∀ (l : List D) (vs : List Value), RepL X ads W h l vs → RepL X ads' W' h' l vs
  | [], vs, e => by simpa [RepL] using e
  | d :: ds, vs, e => by
    refine el23 (e) fun v r qe9 h1 h2 => ?_; subst qe9
    exact ⟨v, r, rfl, Rep.mono hp hk hW d v h1, RepL.mono hp hk hW ds r h2⟩
end

theorem AttrsL.mono {X : Txt} {ads ads' : Ads} {W W' : Addr → Prop} {h h' : Heap} {P : Params} (hp : Sub ads ads')
    (hk : ∀ a o, ¬ W a → Fz o → h.get? a = some o → h'.get? a = some o) (hW : ∀ a o, h.get? a = some o → W' a → W a) :
    ∀ (l : List (Nat × D)) (es : List DictEntry), AttrsL X ads W h P l es → AttrsL X ads' W' h' P l es
  | [], _, e => e
  | (_, d) :: r, _, e => by
    refine el33 (e) fun v t q qe10 h1 h2 => ?_; subst qe10
    exact ⟨v, t, q, rfl, Rep.mono hp hk hW d v h1, AttrsL.mono hp hk hW r q h2⟩

theorem PairsL.mono {X : Txt} {ads ads' : Ads} {W W' : Addr → Prop} {h h' : Heap} (hp : Sub ads ads')
    (hk : ∀ a o, ¬ W a → Fz o → h.get? a = some o → h'.get? a = some o) (hW : ∀ a o, h.get? a = some o → W' a → W a) :
    ∀ (l : List (Int × D)) (es : List (Int × Value)), PairsL X ads W h l es → PairsL X ads' W' h' l es
  | [], _, e => e
  | (_, d) :: r, _, e => by
    refine el23 (e) fun v q qe11 h1 h2 => ?_; subst qe11
    exact ⟨v, q, rfl, Rep.mono hp hk hW d v h1, PairsL.mono hp hk hW r q h2⟩

theorem optRep.mono {X : Txt} {ads ads' : Ads} {W W' : Addr → Prop} {h h' : Heap} (hp : Sub ads ads')
    (hk : ∀ a o, ¬ W a → Fz o → h.get? a = some o → h'.get? a = some o) (hW : ∀ a o, h.get? a = some o → W' a → W a) :
    ∀ (d : Option D) (v : Option Value), optRep X ads W h d v → optRep X ads' W' h' d v
  | .none, _, e => e
  | some d, _, e => by
    refine el12 (e) fun v qe12 h1 => ?_; subst qe12
    exact ⟨v, rfl, Rep.mono hp hk hW d v h1⟩

theorem ObjAt.mono {prog : Program} {w : World} {X : Txt} {ads ads' : Ads} {W W' : Addr → Prop} {lk : Nat → Nat} {h h' : Heap} {k : Nat} {p : Addr × Addr} {o : O} (hp : Sub ads ads')
    (hk : ∀ a o, ¬ W a → Fz o → h.get? a = some o → h'.get? a = some o) (hW : ∀ a o, h.get? a = some o → W' a → W a)
    (h1 : o.live = true → ∀ x, h.get? p.1 = some x → h'.get? p.1 = some x) (h2 : o.live = true → ∀ x, h.get? p.2 = some x → h'.get? p.2 = some x)
    (e : ObjAt prog w X ads W lk h k p o) : ObjAt prog w X ads' W' lk h' k p o := by
  cases o with
  | dead => exact trivial
  | list l =>
    refine el14 (e) fun vs qp13 hr hl e => ?_; obtain ⟨n, hg⟩ := qp13
    exact ⟨vs, ⟨n, h1 rfl _ hg⟩, RepL.mono hp hk hW _ _ hr, hl, e⟩
  | llist l =>
    refine el14 (e) fun vs qp14 hr hl e => ?_; obtain ⟨n, hg⟩ := qp14
    exact ⟨vs, ⟨n, h1 rfl _ hg⟩, RepL.mono hp hk hW _ _ hr, hl, e⟩
  | dict es =>
    refine el14 (e) fun kvs qp15 hr hl e => ?_; obtain ⟨o, es', ep, hg, r⟩ := qp15
    exact ⟨kvs, ⟨o, es', ep, h1 rfl _ hg, r⟩, PairsL.mono hp hk hW _ _ hr, hl, e⟩
  | ldict es =>
    refine el14 (e) fun kvs qp16 hr hl e => ?_; obtain ⟨o, es', hg, r⟩ := qp16
    exact ⟨kvs, ⟨o, es', h1 rfl _ hg, r⟩, PairsL.mono hp hk hW _ _ hr, hl, e⟩
  | set es =>
    obtain ⟨⟨o, es', ep, t, hg, r⟩, e⟩ := e
    exact ⟨⟨o, es', ep, t, h1 rfl _ hg, r⟩, e⟩
  | inst c as =>
    match c with
    | 0 =>
      refine el25 (e) fun es n g1 g2 hr hn hl => ?_
      exact ⟨es, n, h1 rfl _ g1, h2 rfl _ g2, AttrsL.mono hp hk hW _ _ hr, hn, hl⟩
    | 1 =>
      refine el15 (e) fun sl g1 g2 hs hr e => ?_
      exact ⟨sl, h1 rfl _ g1, h2 rfl _ g2, hs, fun i hi => optRep.mono hp hk hW _ _ (hr i hi), e⟩
    | n + 2 => exact e.elim
  | iter l i =>
    refine el14 (e) fun q hq qp17 e z => ?_; obtain ⟨o, hg, r⟩ := qp17
    exact ⟨q, hp _ _ hq, ⟨o, h1 rfl _ hg, r⟩, e, fun i0 => let ⟨o, e1, e2⟩ := z i0; ⟨o, h1 rfl _ e1, e2⟩⟩
  | next k =>
    refine el13 (e) fun q hq hg e => ?_
    exact ⟨q, hp _ _ hq, h1 rfl _ hg, e⟩

end Mine
end
section
open PySem PySem.W PyProof.Rows
namespace Mine

theorem Sub.refl (ads : Ads) : Sub ads ads := fun _ _ e => e
theorem Sub.append (ads r : Ads) : Sub ads (ads ++ r) := fun k p e => by
  have hk : k < ads.length := (List.getElem?_eq_some_iff.mp e).1
  rw [List.getElem?_append_left hk]; exact e

namespace Ext
variable {Z : List Addr} {ads ads' ads'' : Ads} {σ σ' σ'' : Store} {s s' s'' : Shared}

theorem refl : Ext Z ads σ s ads σ s := ⟨⟨[], by simp⟩, fun _ _ _ e => SO.of e, fun _ e => .inl e, fun _ e => e, ⟨s.heap, s.toks, rfl⟩⟩
theorem sub (x : Ext Z ads σ s ads' σ' s') : Sub ads ads' := by obtain ⟨r, rfl⟩ := x.pre; exact Sub.append _ _
theorem notOwned (x : Ext Z ads σ s ads' σ' s') {b : Addr} (hn : ¬ Owned ads σ b) (hb : Heap.Has s.heap b) : ¬ Owned ads' σ' b := fun e => by
  obtain ⟨o, hb⟩ := hb
  rcases x.own b e with e | e
  · exact hn e
  · rw [hb] at e; cases e
theorem trans (x : Ext Z ads σ s ads' σ' s') (y : Ext Z ads' σ' s' ads'' σ'' s'') : Ext Z ads σ s ads'' σ'' s'' := by
  refine ⟨?_, fun b o hn e => ?_, fun b e => ?_, fun b e => y.has b (x.has b e), ?_⟩
  · obtain ⟨r, rfl⟩ := x.pre; obtain ⟨q, rfl⟩ := y.pre; exact ⟨r ++ q, by simp⟩
  · exact SO.then (x.kept b o hn e) fun o' e' => y.kept b o' (x.notOwned hn ⟨o, e⟩) e'
  · rcases y.own b e with e | e
    · exact x.own b e
    · by_cases hb : Owned ads σ b
      · exact .inl hb
      · refine .inr ?_
        cases hs : s.heap.get? b with
        | none => rfl
        | some o => refine el12 (x.kept b o hb hs) fun o' q _ => ?_; rw [q] at e; cases e
  · refine el21 (x.rest) fun h tk qe18 => ?_; subst qe18; refine el21 (y.rest) fun h' tk' qe19 => ?_; subst qe19; exact ⟨h', tk', rfl⟩
theorem tok (t : Nat) : Ext Z ads σ s ads σ { s with toks := t } := ⟨⟨[], by simp⟩, fun _ _ _ e => SO.of e, fun _ e => .inl e, fun _ e => e, ⟨s.heap, t, rfl⟩⟩
theorem tokR (x : Ext Z ads σ s ads' σ' s') (t : Nat) : Ext Z ads σ s ads' σ' { s' with toks := t } := x.trans (tok t)
theorem more {h : Heap} {tk : Nat} (hk : ∀ b o, s.heap.get? b = some o → h.get? b = some o) : Ext Z ads σ s ads σ { s with heap := h, toks := tk } :=
  ⟨⟨[], by simp⟩, fun b o _ e => SO.of (hk b o e), fun _ e => .inl e, fun b ⟨o, e⟩ => ⟨o, hk b o e⟩, ⟨h, tk, rfl⟩⟩
end Ext

theorem Ext.ww {Z : List Addr} {ads ads' : Ads} {σ σ' : Store} {s s' : Shared} (x : Ext Z ads σ s ads' σ' s') : ∀ (a : Addr) (o : Obj), s.heap.get? a = some o → WW Z ads' σ' a → WW Z ads σ a := fun a o e hw => by
  rcases hw with hw | hw
  · exact .inl hw
  · rcases x.own a hw with q | q
    · exact .inr q
    · rw [e] at q; cases q
theorem Ext.fz {Z : List Addr} {ads ads' : Ads} {σ σ' : Store} {s s' : Shared} (x : Ext Z ads σ s ads' σ' s') : ∀ (a : Addr) (o : Obj), ¬ WW Z ads σ a → Fz o → s.heap.get? a = some o → s'.heap.get? a = some o :=
  fun a o hw hz e => SO.ex (x.kept a o (fun q => hw (.inr q)) e) hz.nd
theorem Ext.rep {X : Txt} {Z : List Addr} {ads ads' : Ads} {σ σ' : Store} {s s' : Shared} {d : D} {v : Value} (x : Ext Z ads σ s ads' σ' s') (r : Rep X ads (WW Z ads σ) s.heap d v) : Rep X ads' (WW Z ads' σ') s'.heap d v :=
  Rep.mono x.sub x.fz x.ww d v r
theorem Ext.repL {X : Txt} {Z : List Addr} {ads ads' : Ads} {σ σ' : Store} {s s' : Shared} {d : List D} {v : List Value} (x : Ext Z ads σ s ads' σ' s') (r : RepL X ads (WW Z ads σ) s.heap d v) : RepL X ads' (WW Z ads' σ') s'.heap d v :=
  RepL.mono x.sub x.fz x.ww d v r

theorem RepL.length {X : Txt} {ads : Ads} {W : Addr → Prop} {h : Heap} : ∀ {l : List D} {vs : List Value}, RepL X ads W h l vs → vs.length = l.length
  | [], _, e => by cases e; rfl
  | _ :: _, _, e => by refine el23 (e) fun v r qe20 _ h2 => ?_; subst qe20; rw [List.length_cons, List.length_cons, RepL.length h2]
theorem RepL.append {X : Txt} {ads : Ads} {W : Addr → Prop} {h : Heap} : ∀ {l l' : List D} {vs vs' : List Value}, RepL X ads W h l vs → RepL X ads W h l' vs' → RepL X ads W h (l ++ l') (vs ++ vs')
  | [], _, _, _, e, e' => by cases e; exact e'
  | _ :: _, _, _, _, e, e' => by refine el23 (e) fun v r qe21 h1 h2 => ?_; subst qe21; exact ⟨v, _, rfl, h1, RepL.append h2 e'⟩
theorem RepL.get {X : Txt} {ads : Ads} {W : Addr → Prop} {h : Heap} : ∀ {l : List D} {vs : List Value}, RepL X ads W h l vs → ∀ {i : Nat} {d : D}, l[i]? = some d → ∃ v, vs[i]? = some v ∧ Rep X ads W h d v
  | [], _, _, i, d, q => by simp at q
  | d :: ds, _, e, i, d', q => by
    refine el23 (e) fun v r qe22 h1 h2 => ?_; subst qe22
    cases i with
    | zero => simp at q; subst q; exact ⟨v, by simp, h1⟩
    | succ i => simp at q; refine el12 (RepL.get h2 q) fun v' a b => ?_; exact ⟨v', by simpa using a, b⟩
theorem RepL.of_get {X : Txt} {ads : Ads} {W : Addr → Prop} {h : Heap} : ∀ {l : List D} {vs : List Value}, vs.length = l.length → (∀ (i : Nat) (d : D) (v : Value), l[i]? = some d → vs[i]? = some v → Rep X ads W h d v) → RepL X ads W h l vs
  | [], vs, e, _ => by cases vs with | nil => rfl | cons _ _ => simp at e
  | d :: ds, vs, e, q => by
    cases vs with
    | nil => simp at e
    | cons v r => exact ⟨v, r, rfl, q 0 d v (by simp) (by simp), RepL.of_get (by simpa using e) (fun i d v a b => q (i + 1) d v (by simpa using a) (by simpa using b))⟩
theorem RepL.rep {X : Txt} {ads : Ads} {W : Addr → Prop} {h : Heap} {l : List D} {vs : List Value} (r : RepL X ads W h l vs) {i : Nat} {d : D} {v : Value} (a : l[i]? = some d) (b : vs[i]? = some v) : Rep X ads W h d v := by
  refine el12 (r.get a) fun v' c q => ?_
  rw [b] at c; cases c; exact q
theorem RepL.one {X : Txt} {ads : Ads} {W : Addr → Prop} {h : Heap} {d : D} {v : Value} (r : Rep X ads W h d v) : RepL X ads W h [d] [v] := ⟨v, [], rfl, r, rfl⟩

theorem has_push {h : Heap} (o : Obj) (ho : o.isFreed = false := by rfl) : Heap.Has (h.push o) h.objs.size := ⟨o, Heap.get?_push_size _ ho⟩
theorem get_size (h : Heap) : h.get? h.objs.size = none := by
  cases e : h.get? h.objs.size with
  | none => rfl
  | some o => exact absurd (Heap.lt_size e) (Nat.lt_irrefl _)
theorem Heap.Has.kept {h h' : Heap} {a : Addr} (x : Heap.Has h a) (hk : ∀ o, h.get? a = some o → h'.get? a = some o) : Heap.Has h' a := let ⟨o, e⟩ := x; ⟨o, hk o e⟩

theorem getS_last {σ : Store} {o q : O} {j : Nat} (e : (σ ++ [o])[j]? = some q) : (j = σ.length ∧ q = o) ∨ (j < σ.length ∧ σ[j]? = some q) := by
  rcases Nat.lt_or_ge j σ.length with hj | hj
  · rw [List.getElem?_append_left hj] at e; exact .inr ⟨hj, e⟩
  · rw [List.getElem?_append_right hj] at e
    have : j - σ.length = 0 := by
      rcases Nat.eq_zero_or_pos (j - σ.length) with z | z
      · exact z
      · rw [List.getElem?_eq_none (by simp; omega)] at e; cases e
    rw [this] at e; cases e; exact .inl ⟨by omega, rfl⟩
namespace Rel
variable {prog : Program} {w : World} {X : Txt} {h₀ : Heap} {Z : List Addr} {lk : Nat → Nat} {h h' : Heap} {ads : Ads} {σ : Store}

theorem has_of_owned (R : Rel prog w X h₀ Z lk h ads σ) {b : Addr} (e : Owned ads σ b) : Heap.Has h b := by
  refine el34 (e) fun j q x a c d e => ?_
  rcases e with rfl | rfl
  · exact (R.alt j q x a c d).1
  · exact (R.alt j q x a c d).2
theorem has_of_ww (R : Rel prog w X h₀ Z lk h ads σ) {b : Addr} (e : WW Z ads σ b) : Heap.Has h b := e.elim (R.zlt b) R.has_of_owned
theorem fresh_ww (R : Rel prog w X h₀ Z lk h ads σ) {b : Addr} (hb : h.get? b = none) : ¬ WW Z ads σ b := fun e => by
  obtain ⟨o, q⟩ := R.has_of_ww e; rw [hb] at q; cases q
theorem fresh_base (R : Rel prog w X h₀ Z lk h ads σ) {b : Addr} (hb : h.get? b = none) : h₀.get? b = none := by
  cases e : h₀.get? b with
  | none => rfl
  | some o => rw [R.keep b o e] at hb; cases hb

theorem quiet (R : Rel prog w X h₀ Z lk h ads σ) (Y : Addr → Prop) (hk : ∀ b o, ¬ Y b → h.get? b = some o → h'.get? b = some o)
    (hY : ∀ b, Y b → ¬ Owned ads σ b ∧ h₀.get? b = none ∧ (∀ o, h.get? b = some o → ¬ Fz o) ∧ (b ∉ Z ∨ Heap.Has h' b)) : Rel prog w X h₀ Z lk h' ads σ where
  len := R.len
  keep b o e := hk b o (fun y => by rw [(hY b y).2.1] at e; cases e) (R.keep b o e)
  objs k p o a b := (R.objs k p o a b).mono (Sub.refl _) (fun c o hw hz e => hk c o (fun y => (hY c y).2.2.1 o e hz) e) (fun _ _ _ x => x)
    (fun hl x e => hk _ x (fun y => (hY _ y).1 ⟨k, p, o, a, b, hl, .inl rfl⟩) e) (fun hl x e => hk _ x (fun y => (hY _ y).1 ⟨k, p, o, a, b, hl, .inr rfl⟩) e)
  apart := R.apart
  new := R.new
  zlt a e := (Classical.em (Y a)).elim (fun y => (hY a y).2.2.2.elim (fun q => absurd e q) id) (fun y => (R.zlt a e).kept fun o => hk a o y)
  alt k p o e f l := ⟨(R.alt k p o e f l).1.kept fun x => hk _ x fun y => (hY _ y).1 ⟨k, p, o, e, f, l, .inl rfl⟩, (R.alt k p o e f l).2.kept fun x => hk _ x fun y => (hY _ y).1 ⟨k, p, o, e, f, l, .inr rfl⟩⟩
  zown := R.zown

theorem grow (R : Rel prog w X h₀ Z lk h ads σ) (hk : ∀ b o, h.get? b = some o → h'.get? b = some o) : Rel prog w X h₀ Z lk h' ads σ :=
  R.quiet (fun _ => False) (fun b o _ e => hk b o e) (fun _ y => y.elim)

theorem push (R : Rel prog w X h₀ Z lk h ads σ) (o : Obj) : Rel prog w X h₀ Z lk (h.push o) ads σ := R.grow (fun _ _ e => Heap.get?_push_of_some _ e)

theorem owned_set {k : Nat} {p : Addr × Addr} {o o' : O} (hp : ads[k]? = some p) (ho : σ[k]? = some o) (hl : o.live = true) : ∀ b, Owned ads (σ.set k o') b → Owned ads σ b := by
  have hkl : k < σ.length := (List.getElem?_eq_some_iff.mp ho).1
  rintro b ⟨j, q, x, a, c, d, e⟩
  by_cases hj : k = j
  · subst hj; rw [List.getElem?_set_self hkl] at c; cases c; rw [hp] at a; cases a; exact ⟨k, p, o, hp, ho, hl, e⟩
  · rw [List.getElem?_set_ne hj] at c; exact ⟨j, q, x, a, c, d, e⟩

theorem put (R : Rel prog w X h₀ Z lk h ads σ) {k : Nat} {p : Addr × Addr} {o o' : O} (hp : ads[k]? = some p) (ho : σ[k]? = some o) (hl : o.live = true)
    (hk : ∀ b x, b ≠ p.1 → b ≠ p.2 → h.get? b = some x → h'.get? b = some x) (hi : Heap.Has h' p.1 ∧ Heap.Has h' p.2)
    (hn : ObjAt prog w X ads (WW Z ads (σ.set k o')) lk h' k p o') : Rel prog w X h₀ Z lk h' ads (σ.set k o') := by
  have hkl : k < σ.length := (List.getElem?_eq_some_iff.mp ho).1
  have hset : ∀ (j : Nat) (x : O), (σ.set k o')[j]? = some x → (j = k ∧ x = o') ∨ (j ≠ k ∧ σ[j]? = some x) := by
    intro j x e
    by_cases hj : k = j
    · subst hj; rw [List.getElem?_set_self hkl] at e; cases e; exact .inl ⟨rfl, rfl⟩
    · rw [List.getElem?_set_ne hj] at e; exact .inr ⟨fun q => hj q.symm, e⟩
  have hown := owned_set (o' := o') hp ho hl
  have hnw : ∀ b x, ¬ WW Z ads σ b → h.get? b = some x → h'.get? b = some x := fun b x q e =>
    hk b x (fun y => q (.inr ⟨k, p, o, hp, ho, hl, .inl y⟩)) (fun y => q (.inr ⟨k, p, o, hp, ho, hl, .inr y⟩)) e
  have hhas : ∀ b, Heap.Has h b → Heap.Has h' b := fun b q => by
    by_cases h1 : b = p.1
    · rw [h1]; exact hi.1
    · by_cases h2 : b = p.2
      · rw [h2]; exact hi.2
      · exact q.kept fun o => hk b o h1 h2
  have halt : ∀ (j : Nat) (q : Addr × Addr) (x : O), ads[j]? = some q → (σ.set k o')[j]? = some x → x.live = true → Heap.Has h' q.1 ∧ Heap.Has h' q.2 := fun j q x a c l => by
    rcases hset j x c with ⟨rfl, rfl⟩ | ⟨_, c⟩
    · rw [hp] at a; cases a; exact hi
    · exact ⟨hhas _ (R.alt j q x a c l).1, hhas _ (R.alt j q x a c l).2⟩
  refine ⟨by rw [R.len, List.length_set], fun b x e => ?_, fun j q x a c => ?_, fun j j' q q' x x' a a' c c' l l' hne => ?_, R.new, fun a e => hhas a (R.zlt a e), halt, fun a e q => R.zown a e (hown a q)⟩
  · exact hk b x (fun y => by subst y; rw [(R.new k p hp).1] at e; cases e) (fun y => by subst y; rw [(R.new k p hp).2] at e; cases e) (R.keep b x e)
  · rcases hset j x c with ⟨rfl, rfl⟩ | ⟨hj, c⟩
    · rw [hp] at a; cases a; exact hn
    · exact (R.objs j q x a c).mono (Sub.refl _) (fun a o hw _ e => hnw a o hw e) (fun a _ _ y => y.imp id (hown a))
        (fun hx y e => hk _ y (R.apart j k q p x o a hp c ho hx hl hj).1 (R.apart j k q p x o a hp c ho hx hl hj).2.1 e)
        (fun hx y e => hk _ y (R.apart j k q p x o a hp c ho hx hl hj).2.2.1 (R.apart j k q p x o a hp c ho hx hl hj).2.2.2 e)
  · rcases hset j x c with ⟨rfl, rfl⟩ | ⟨hj, c1⟩ <;> rcases hset j' x' c' with ⟨rfl, rfl⟩ | ⟨hj', c2⟩
    · exact absurd rfl hne
    · rw [hp] at a; cases a; exact R.apart j j' p q' o x' hp a' ho c2 hl l' hne
    · rw [hp] at a'; cases a'; exact R.apart j j' q p x o a hp c1 ho l hl hne
    · exact R.apart j j' q q' x x' a a' c1 c2 l l' hne

theorem get_last (R : Rel prog w X h₀ Z lk h ads σ) {p : Addr × Addr} {o : O} {j : Nat} {q : Addr × Addr} (e : (ads ++ [p])[j]? = some q) : (j = σ.length ∧ q = p) ∨ (j < σ.length ∧ ads[j]? = some q) := by
  rcases Nat.lt_or_ge j ads.length with hj | hj
  · rw [List.getElem?_append_left hj] at e; exact .inr ⟨R.len ▸ hj, e⟩
  · rw [List.getElem?_append_right hj] at e
    have : j - ads.length = 0 := by
      rcases Nat.eq_zero_or_pos (j - ads.length) with z | z
      · exact z
      · rw [List.getElem?_eq_none (by simp; omega)] at e; cases e
    rw [this] at e; cases e; exact .inl ⟨by have := R.len; omega, rfl⟩
theorem owned_add (R : Rel prog w X h₀ Z lk h ads σ) {p : Addr × Addr} {o : O} (h1 : h.get? p.1 = none) (h2 : h.get? p.2 = none) : ∀ b, Owned (ads ++ [p]) (σ ++ [o]) b → Owned ads σ b ∨ h.get? b = none := by
  rintro b ⟨j, q, x, a, c, d, e⟩
  rcases R.get_last (o := o) a with ⟨rfl, rfl⟩ | ⟨hj, a⟩
  · rcases e with rfl | rfl
    · exact .inr h1
    · exact .inr h2
  · rcases getS_last c with ⟨rfl, rfl⟩ | ⟨_, c⟩
    · exact absurd hj (Nat.lt_irrefl _)
    · exact .inl ⟨j, q, x, a, c, d, e⟩

theorem add (R : Rel prog w X h₀ Z lk h ads σ) {p : Addr × Addr} {o : O} (hk : ∀ b x, h.get? b = some x → h'.get? b = some x)
    (h1 : h.get? p.1 = none) (h2 : h.get? p.2 = none) (l1 : Heap.Has h' p.1) (l2 : Heap.Has h' p.2)
    (hn : ObjAt prog w X (ads ++ [p]) (WW Z (ads ++ [p]) (σ ++ [o])) lk h' σ.length p o) : Rel prog w X h₀ Z lk h' (ads ++ [p]) (σ ++ [o]) := by
  have hown := R.owned_add (o := o) h1 h2
  have hne : ∀ b, Heap.Has h b → b ≠ p.1 ∧ b ≠ p.2 := fun b ⟨x, e⟩ => ⟨fun q => (by rw [q, h1] at e; cases e), fun q => (by rw [q, h2] at e; cases e)⟩
  refine ⟨by simp [R.len], fun b x e => hk b x (R.keep b x e), fun j q x a c => ?_, fun j j' q q' x x' a a' c c' l l' hne' => ?_, fun j q a => ?_, fun a e => (R.zlt a e).kept fun o => hk a o,
    fun j q x a c l => ?_, fun a e q => ?_⟩
  · rcases R.get_last (o := o) a with ⟨rfl, rfl⟩ | ⟨hj, a⟩
    · rcases getS_last c with ⟨_, rfl⟩ | ⟨hj, _⟩
      · exact hn
      · exact absurd hj (Nat.lt_irrefl _)
    · rcases getS_last c with ⟨rfl, rfl⟩ | ⟨_, c⟩
      · exact absurd hj (Nat.lt_irrefl _)
      · exact (R.objs j q x a c).mono (Sub.append _ _) (fun a o _ _ e => hk a o e) (fun a o e y => y.imp id (fun y => (hown a y).elim id (fun z => by rw [e] at z; cases z)))
          (fun _ y e => hk _ y e) (fun _ y e => hk _ y e)
  · rcases R.get_last (o := o) a with ⟨rfl, rfl⟩ | ⟨hj, a1⟩ <;> rcases R.get_last (o := o) a' with ⟨rfl, rfl⟩ | ⟨hj', a2⟩
    · exact absurd rfl hne'
    · rcases getS_last c' with ⟨rfl, rfl⟩ | ⟨_, c'⟩
      · exact absurd hj' (Nat.lt_irrefl _)
      have z1 := hne _ (R.alt j' q' x' a2 c' l').1
      have z2 := hne _ (R.alt j' q' x' a2 c' l').2
      exact ⟨Ne.symm z1.1, Ne.symm z2.1, Ne.symm z1.2, Ne.symm z2.2⟩
    · rcases getS_last c with ⟨rfl, rfl⟩ | ⟨_, c⟩
      · exact absurd hj (Nat.lt_irrefl _)
      have z1 := hne _ (R.alt j q x a1 c l).1
      have z2 := hne _ (R.alt j q x a1 c l).2
      exact ⟨z1.1, z1.2, z2.1, z2.2⟩
    · rcases getS_last c with ⟨rfl, rfl⟩ | ⟨_, c⟩
      · exact absurd hj (Nat.lt_irrefl _)
      · rcases getS_last c' with ⟨rfl, rfl⟩ | ⟨_, c'⟩
        · exact absurd hj' (Nat.lt_irrefl _)
        · exact R.apart j j' q q' x x' a1 a2 c c' l l' hne'
  · rcases R.get_last (o := o) a with ⟨rfl, rfl⟩ | ⟨hj, a⟩
    · exact ⟨R.fresh_base h1, R.fresh_base h2⟩
    · exact R.new j q a
  · rcases R.get_last (o := o) a with ⟨rfl, rfl⟩ | ⟨hj, a⟩
    · exact ⟨l1, l2⟩
    · rcases getS_last c with ⟨rfl, rfl⟩ | ⟨_, c⟩
      · exact absurd hj (Nat.lt_irrefl _)
      · exact ⟨(R.alt j q x a c l).1.kept fun o => hk _ o, (R.alt j q x a c l).2.kept fun o => hk _ o⟩
  · rcases hown a q with q | q
    · exact R.zown a e q
    · obtain ⟨o, z⟩ := R.zlt a e; rw [q] at z; cases z

theorem aside (R : Rel prog w X h₀ Z lk h ads σ) {a : Addr} (ha : h.get? a = none) (hk : ∀ b o, h.get? b = some o → h'.get? b = some o) (hl : Heap.Has h' a) :
    Rel prog w X h₀ (a :: Z) lk h' ads σ where
  len := R.len
  keep b o e := hk b o (R.keep b o e)
  objs k p o b c := (R.objs k p o b c).mono (Sub.refl _) (fun c o _ _ e => hk c o e)
    (fun b o e y => by
      rcases y with y | y
      · rcases List.mem_cons.mp y with rfl | y
        · rw [ha] at e; cases e
        · exact .inl y
      · exact .inr y) (fun _ x e => hk _ x e) (fun _ x e => hk _ x e)
  apart := R.apart
  new := R.new
  zlt b e := by
    rcases List.mem_cons.mp e with rfl | e
    · exact hl
    · exact (R.zlt b e).kept fun o => hk b o
  alt k p o e f l := ⟨(R.alt k p o e f l).1.kept fun o => hk _ o, (R.alt k p o e f l).2.kept fun o => hk _ o⟩
  zown b e q := by
    rcases List.mem_cons.mp e with rfl | e
    · obtain ⟨o, z⟩ := R.has_of_owned q; rw [ha] at z; cases z
    · exact R.zown b e q
theorem back {a : Addr} (R : Rel prog w X h₀ (a :: Z) lk h ads σ) : Rel prog w X h₀ Z lk h ads σ where
  len := R.len
  keep := R.keep
  objs k p o b c := (R.objs k p o b c).mono (Sub.refl _) (fun c o _ _ e => e) (fun b o e y => y.imp (List.mem_cons_of_mem _) id) (fun _ x e => e) (fun _ x e => e)
  apart := R.apart
  new := R.new
  zlt b e := R.zlt b (List.mem_cons_of_mem _ e)
  alt := R.alt
  zown b e := R.zown b (List.mem_cons_of_mem _ e)
theorem asideSet {a : Addr} (R : Rel prog w X h₀ (a :: Z) lk h ads σ) (hn : h₀.get? a = none) (hk : ∀ b o, b ≠ a → h.get? b = some o → h'.get? b = some o) (hl : Heap.Has h' a) : Rel prog w X h₀ (a :: Z) lk h' ads σ where
  len := R.len
  keep b o e := hk b o (fun q => by subst q; rw [hn] at e; cases e) (R.keep b o e)
  objs k p o b c := (R.objs k p o b c).mono (Sub.refl _) (fun c o hw _ e => hk c o (fun q => hw (.inl (q ▸ List.mem_cons_self))) e) (fun b o e y => y)
    (fun hl x e => hk _ x (fun q => R.zown a List.mem_cons_self ⟨k, p, o, b, c, hl, .inl q.symm⟩) e) (fun hl x e => hk _ x (fun q => R.zown a List.mem_cons_self ⟨k, p, o, b, c, hl, .inr q.symm⟩) e)
  apart := R.apart
  new := R.new
  zlt b e := (Classical.em (b = a)).elim (fun q => q ▸ hl) (fun q => (R.zlt b e).kept fun o => hk b o q)
  alt k p o e f l := ⟨(Classical.em (p.1 = a)).elim (fun q => q ▸ hl) (fun q => (R.alt k p o e f l).1.kept fun o => hk _ o q), (Classical.em (p.2 = a)).elim (fun q => q ▸ hl) (fun q => (R.alt k p o e f l).2.kept fun o => hk _ o q)⟩
  zown := R.zown
end Rel

end Mine
end
section
open PySem PySem.W PyProof.Rows
namespace Mine

structure SC where
  names : List (Str × NameKind)
  slots : List (Nat × Str)
  fr : List Env
  comp : Bool

structure Cst where
  prog : Program
  w : World
  h₀ : Heap
  X : Txt
  gl : Str → Option Value
  K : Frag

noncomputable abbrev Cst.R (c : Cst) := Rel c.prog c.w c.X c.h₀
noncomputable abbrev Cst.P (c : Cst) (Z : List Addr) (ads : Ads) (σ : Store) (h : Heap) := Rep c.X ads (WW Z ads σ) h
noncomputable abbrev Cst.PL (c : Cst) (Z : List Addr) (ads : Ads) (σ : Store) (h : Heap) := RepL c.X ads (WW Z ads σ) h

structure Base (c : Cst) : Prop where
  g : c.h₀.Ns mainGlobals c.gl
  b : ∃ mb, c.h₀.Ns builtinsNs mb ∧ ∀ x : Str, x ≠ "__name__" → mb x = bootBuiltins x
  nolimit : c.h₀.NoLimit
  mods : Heap.Has c.h₀ sysModules
  K : c.K.In c.h₀
  fnK : ∀ f fa, c.X.fv f = some fa → keepIn c.K (.ref fa) = true
  clK : ∀ i, i < 2 → keepIn c.K (.ref (c.X.ca i)) = true

noncomputable def IsD (o : Obj) : Prop := ∃ es ep, o.data = .dict es ep
noncomputable def FF (h base : Heap) (l : List Env) : Prop := h.FunFrames base l ∧ ∀ a, a ∈ l.filterMap (·.frame) → ∃ o, h.get? a = some o ∧ IsD o

structure EnvRel (c : Cst) (C : SC) (env : Env) (ρ : Loc) (Z : List Addr) (ads : Ads) (σ : Store) (h : Heap) : Prop where
  kind : env.scope.kind = .function
  names : env.scope.names = C.names
  globals : env.globals = mainGlobals
  builtins : env.builtins = builtinsNs
  ns : ∃ m, h.Ns env.locals m ∧ ∀ (i : Nat) (x : Str) (d : D), C.slots.lookup i = some x → C.names.lookup x = some .local → ρ[i]? = some (some d) → ∃ v, m x = some v ∧ c.P Z ads σ h d v
  has : ∀ x : Str, C.names.lookup x = some .cell → ∃ a ov, env.cells.lookup x = some a ∧ h.IsCell a ov
  cell : ∀ (i : Nat) (x : Str) (d : D) (a : Addr), C.slots.lookup i = some x → C.names.lookup x = some .cell → ρ[i]? = some (some d) → env.cells.lookup x = some a → ∃ v, h.IsCell a (some v) ∧ c.P Z ads σ h d v
  apart : env.cells.Pairwise fun x y => x.2 ≠ y.2
  lown : ¬ Owned ads σ env.locals ∧ c.h₀.get? env.locals = none
  cown : ∀ x a, (x, a) ∈ env.cells → ¬ Owned ads σ a ∧ c.h₀.get? a = none ∧ ∃ ov, h.IsCell a ov
  frs : FF h c.h₀ C.fr
  frn : ∀ a, a ∈ C.fr.filterMap (·.frame) → ¬ Owned ads σ a
  hd : C.comp = false → ∃ outer, C.fr = env :: outer

noncomputable def FrKeep (h h' : Heap) (a : Addr) : Prop := ∀ o, h.get? a = some o → IsD o → ∃ o', h'.get? a = some o' ∧ IsD o'
theorem FrKeep.same {h h' : Heap} {a : Addr} (k : ∀ o, h.get? a = some o → h'.get? a = some o) : FrKeep h h' a := fun o e hn => ⟨o, k o e, hn⟩
theorem FrKeep.so {h h' : Heap} {a : Addr} (k : ∀ o, h.get? a = some o → ∃ o', h'.get? a = some o' ∧ SO o o') : FrKeep h h' a := fun o e hn => let ⟨o', e', q⟩ := k o e; ⟨o', e', let ⟨es, ep, z⟩ := hn; ⟨es, ep, q.1.trans z⟩⟩
theorem funFrames_mono' {h h' base : Heap} : ∀ {l : List Env}, h.FunFrames base l → (∀ a, a ∈ l.filterMap (·.frame) → ∃ o, h'.get? a = some o ∧ IsD o) → h'.FunFrames base l
  | [], _, _ => trivial
  | env :: rest, x, k => by
    refine el03 (x) fun hk qp46 hr => ?_; obtain ⟨L, o, hf, hn, ho, hd⟩ := qp46
    obtain ⟨o', ho', es, ep, hd'⟩ := k L (by simp [List.filterMap_cons, hf])
    exact ⟨hk, ⟨L, o', hf, hn, ho', fun vs q => by rw [hd'] at q; cases q⟩, funFrames_mono' hr fun a ha => k a (by rw [List.filterMap_cons]; split <;> simp [ha])⟩
theorem funFrames_mono {h h' base : Heap} {l : List Env} (x : FF h base l) (k : ∀ a, a ∈ l.filterMap (·.frame) → FrKeep h h' a) : FF h' base l := by
  have hd : ∀ a, a ∈ l.filterMap (·.frame) → ∃ o, h'.get? a = some o ∧ IsD o := fun a ha => let ⟨o, e, d⟩ := x.2 a ha; k a ha o e d
  exact ⟨funFrames_mono' x.1 hd, hd⟩
theorem EnvRel.frHas' {c : Cst} {C : SC} {env : Env} {ρ : Loc} {Z : List Addr} {ads : Ads} {σ : Store} {h : Heap} (V : EnvRel c C env ρ Z ads σ h) {a : Addr} (ha : a ∈ C.fr.filterMap (·.frame)) : Heap.Has h a := let ⟨o, e, _⟩ := V.frs.2 a ha; ⟨o, e⟩

structure Room (A : Around) (n : Nat) (fr : List Env) : Prop where
  depth : A.depth + 4 * n + 10 ≤ 999
  units : A.units + 100 * n + 1000 ≤ 9900
  handled : A.handled = none
  frames : A.frames = some fr
structure RoomF (A : Around) (n : Nat) (fr : List Env) : Prop where
  depth : A.depth + 4 * n + 8 ≤ 999
  units : A.units + 100 * n + 950 ≤ 9900
  handled : A.handled = none
  frames : A.frames = some fr
theorem Room.toF {A : Around} {n : Nat} {fr : List Env} (x : Room A n fr) : RoomF A n fr := ⟨by have := x.depth; omega, by have := x.units; omega, x.handled, x.frames⟩

theorem cell_nd {o : Obj} {ov : Option Value} (e : o.data = .cell ov) : Nd o := fun es ep q => by rw [e] at q; cases q
theorem EnvRel.ext {c : Cst} {C : SC} {env : Env} {ρ : Loc} {Z : List Addr} {ads ads' : Ads} {σ σ' : Store} {s s' : Shared} (V : EnvRel c C env ρ Z ads σ s.heap) (x : Ext Z ads σ s ads' σ' s') : EnvRel c C env ρ Z ads' σ' s'.heap where
  kind := V.kind
  names := V.names
  globals := V.globals
  builtins := V.builtins
  ns := by
    refine el12 (V.ns) fun m qp47 hm => ?_; obtain ⟨o, es, ep, ho, r⟩ := qp47
    refine el12 (x.kept _ _ V.lown.1 ho) fun o' ho' q' => ?_
    exact ⟨m, ⟨o', es, ep, ho', q'.1.trans r.1, r.2⟩, fun i y d a b e => let ⟨v, p, q⟩ := hm i y d a b e; ⟨v, p, x.rep q⟩⟩
  has := fun y b => by
    refine el22 (V.has y b) fun a' ov h1 qp48 => ?_; obtain ⟨o, ho, r⟩ := qp48
    exact ⟨a', ov, h1, ⟨o, SO.ex (x.kept _ _ (V.cown y a' (mem_of_lookup h1)).1 ho) (cell_nd r), r⟩⟩
  cell := fun i y d a b e q l => by
    refine el12 (V.cell i y d a b e q l) fun v qp49 h3 => ?_; obtain ⟨o, ho, r⟩ := qp49
    exact ⟨v, ⟨o, SO.ex (x.kept _ _ (V.cown y a (mem_of_lookup l)).1 ho) (cell_nd r), r⟩, x.rep h3⟩
  apart := V.apart
  lown := ⟨x.notOwned V.lown.1 (let ⟨_, ⟨o, _, _, ho, _⟩, _⟩ := V.ns; ⟨o, ho⟩), V.lown.2⟩
  cown := fun y a e => by
    obtain ⟨h1, h2, ov, o, ho, hd⟩ := V.cown y a e
    exact ⟨x.notOwned h1 ⟨o, ho⟩, h2, ov, o, SO.ex (x.kept a o h1 ho) (cell_nd hd), hd⟩
  frs := funFrames_mono V.frs fun a ha => FrKeep.so fun o e => x.kept a o (V.frn a ha) e
  frn := fun a ha => x.notOwned (V.frn a ha) (V.frHas' ha)
  hd := V.hd

noncomputable def Yields (c : Cst) (A : Around) (t : Sem Value) (Z : List Addr) (lk : Nat → Nat) (s : Shared) (ads : Ads) (σ : Store) (d : D) (σ' : Store) : Prop :=
  ∀ (Q : Value → Shared → Prop) (E : Value → Shared → Prop), (∀ v s' ads', Ext Z ads σ s ads' σ' s' → c.R Z lk s'.heap ads' σ' → c.P Z ads' σ' s'.heap d v → Q v s') → wpAny (model c.prog c.w) A t Q E s
noncomputable def YieldsL (c : Cst) (A : Around) (t : Sem (List Value)) (Z : List Addr) (lk : Nat → Nat) (s : Shared) (ads : Ads) (σ : Store) (d : List D) (σ' : Store) : Prop :=
  ∀ (Q : List Value → Shared → Prop) (E : Value → Shared → Prop), (∀ v s' ads', Ext Z ads σ s ads' σ' s' → c.R Z lk s'.heap ads' σ' → c.PL Z ads' σ' s'.heap d v → Q v s') → wpAny (model c.prog c.w) A t Q E s
noncomputable def YieldsB (c : Cst) (A : Around) (t : Sem Bool) (Z : List Addr) (lk : Nat → Nat) (s : Shared) (ads : Ads) (σ : Store) (b : Bool) (σ' : Store) : Prop :=
  ∀ (Q : Bool → Shared → Prop) (E : Value → Shared → Prop), (∀ s' ads', Ext Z ads σ s ads' σ' s' → c.R Z lk s'.heap ads' σ' → Q b s') → wpAny (model c.prog c.w) A t Q E s

noncomputable def Sim (c : Cst) (n : Nat) (C : SC) (e : Expr) (f : Loc → Store → Option (D × Store)) : Prop :=
  ∀ (A : Around) (Z : List Addr) (lk : Nat → Nat) (s : Shared) (ads : Ads) (ρ : Loc) (σ : Store) (env : Env) (d : D) (σ' : Store), f ρ σ = some (d, σ') → Room A n C.fr → c.R Z lk s.heap ads σ → EnvRel c C env ρ Z ads σ s.heap →
    Yields c A (eval e env) Z lk s ads σ d σ'
noncomputable def SimT (c : Cst) (n : Nat) (C : SC) (e : Expr) (f : Loc → Store → Option (D × Store)) : Prop :=
  ∀ (A : Around) (Z : List Addr) (lk : Nat → Nat) (s : Shared) (ads : Ads) (ρ : Loc) (σ : Store) (env : Env) (d : D) (σ' : Store) (b : Bool), f ρ σ = some (d, σ') → truth σ' d = some b → Room A n C.fr → c.R Z lk s.heap ads σ → EnvRel c C env ρ Z ads σ s.heap →
    YieldsB c A (isTrue e env (eval e env)) Z lk s ads σ b σ'
noncomputable def SimL (c : Cst) (n : Nat) (C : SC) (es : List Expr) (f : Loc → Store → Option (List D × Store)) : Prop :=
  ∀ (A : Around) (Z : List Addr) (lk : Nat → Nat) (s : Shared) (ads : Ads) (ρ : Loc) (σ : Store) (env : Env) (ds : List D) (σ' : Store) (pos : Pos), f ρ σ = some (ds, σ') → Room A n C.fr → c.R Z lk s.heap ads σ → EnvRel c C env ρ Z ads σ s.heap →
    YieldsL c A (spliced (backTo pos (starEach es env))) Z lk s ads σ ds σ'

section
variable {c : Cst} {A : Around} {Z : List Addr} {lk : Nat → Nat} {s : Shared} {ads : Ads} {σ σ' : Store} {n : Nat} {C : SC}

theorem Yields.pure {v : Value} {d : D} (R : c.R Z lk s.heap ads σ) (r : c.P Z ads σ s.heap d v) : Yields c A (Pure.pure v) Z lk s ads σ d σ := fun Q E k => wpAny_pure (k v s ads Ext.refl R r)

theorem cell_or_local {C : SC} {env : Env} {ρ : Loc} {h : Heap} (V : EnvRel c C env ρ Z ads σ h) {i : Nat} {x : Str} {d : D} (hs : C.slots.lookup i = some x) (hk : C.names.lookup x = some .local ∨ C.names.lookup x = some .cell)
    (hd : ρ[i]? = some (some d)) {Q : Value → Shared → Prop} {E : Value → Shared → Prop} {s : Shared} (hh : s.heap = h) (k : ∀ v, c.P Z ads σ h d v → Q v s) : wpAny (model c.prog c.w) A (loadName env x) Q E s := by
  subst hh
  rcases hk with hk | hk
  · refine el12 (V.ns) fun m hn hm => ?_
    refine el12 (hm i x d hs hk hd) fun v e r => ?_
    exact wpAny_loadName_local V.kind (by unfold Env.kindOf; rw [V.names]; exact hk) hn e (k v r)
  · refine el22 (V.has x hk) fun a ov h1 h2 => ?_
    refine el12 (V.cell i x d a hs hk hd h1) fun v h2 r => ?_
    exact wpAny_loadName_cell V.kind (by unfold Env.kindOf; rw [V.names]; exact hk) h1 h2 (k v r)

theorem Yields.cast {t : Sem Value} {d d' : D} {σ1 σ1' : Store} (e : some (d, σ1) = some (d', σ1')) (y : Yields c A t Z lk s ads σ d σ1) : Yields c A t Z lk s ads σ d' σ1' := by cases e; exact y
theorem getV_inv {ρ : Loc} {i : Nat} {d : D} (e : getV ρ i = some d) : ρ[i]? = some (some d) := by
  unfold getV at e
  cases h : ρ[i]? with
  | none => rw [h] at e; cases e
  | some o => rw [h] at e; exact congrArg some e

theorem sim_var {F : Env'} {i : Nat} {x : Str} {pos : Pos} (hs : C.slots.lookup i = some x) (hk : C.names.lookup x = some .local ∨ C.names.lookup x = some .cell) (hd : (x == ("__debug__" : Str)) = false) :
    Sim c n C (.Name x pos) (ev F (.var i)) :=
  fun A Z lk s ads ρ σ env d σ' hf _ R V => bd1 hf fun d' h1 e => Yields.cast e fun Q E k => wpAny_Name (cell_or_local V hs hk (getV_inv h1) rfl fun v r => k v s ads Ext.refl R r) hd

theorem sim_int {F : Env'} {i : Int} {kn : Nat} {pos : Pos} : Sim c n C (.Constant (.int i) kn pos) (ev F (.int i)) :=
  fun A Z lk s ads ρ σ env d σ' hf _ R V => Yields.cast hf fun Q E k => wpAny_mkInt (k _ _ ads (Ext.tok _) R ⟨_, rfl⟩)
theorem sim_none {F : Env'} {kn : Nat} {pos : Pos} : Sim c n C (.Constant .none kn pos) (ev F .none) :=
  fun A Z lk s ads ρ σ env d σ' hf _ R V => Yields.cast hf fun Q E k => wpAny_pure (k _ _ ads Ext.refl R rfl)
theorem sim_bool {F : Env'} {b : Bool} {kn : Nat} {pos : Pos} : Sim c n C (.Constant (.bool b) kn pos) (ev F (.bool b)) :=
  fun A Z lk s ads ρ σ env d σ' hf _ R V => Yields.cast hf fun Q E k => wpAny_pure (k _ _ ads Ext.refl R rfl)

theorem PlainList.isList {h : Heap} {a : Addr} {items : Array Value} (x : h.PlainList a items) : h.IsList a items := let ⟨n, e⟩ := x; ⟨_, e, rfl, n, rfl⟩

theorem oList'_inv {o : O} {l : List D} (e : oList' o = some l) : o = .list l ∨ o = .llist l := by
  cases o <;> first | exact no_el e | exact .inl (congrArg O.list (Option.some.inj e)) | exact .inr (congrArg O.llist (Option.some.inj e))
theorem oList_inv {o : O} {l : List D} (e : oList o = some l) : o = .list l := by
  cases o <;> first | exact no_el e | exact congrArg O.list (Option.some.inj e)
theorem oDict_inv {o : O} {l : List (Int × D)} (e : oDict o = some l) : o = .dict l := by
  cases o <;> first | exact no_el e | exact congrArg O.dict (Option.some.inj e)
theorem oSet_inv {o : O} {l : List Int} (e : oSet o = some l) : o = .set l := by
  cases o <;> first | exact no_el e | exact congrArg O.set (Option.some.inj e)
theorem oInst_inv {o : O} {c : Nat} {l : List (Nat × D)} (e : oInst o = some (c, l)) : o = .inst c l := by
  cases o <;> first | exact no_el e | exact sm2 e fun a b => a ▸ b ▸ rfl
theorem oIter_inv {o : O} {k i : Nat} (e : oIter o = some (k, i)) : o = .iter k i := by
  cases o <;> first | exact no_el e | exact sm2 e fun a b => a ▸ b ▸ rfl
theorem oNext_inv {o : O} {k : Nat} (e : oNext o = some k) : o = .next k := by
  cases o <;> first | exact no_el e | exact congrArg O.next (Option.some.inj e)
theorem asI_inv {d : D} {i : Int} (e : asI d = some i) : d = .int i := by
  cases d <;> first | exact no_el e | exact congrArg D.int (Option.some.inj e)
theorem asB_inv {d : D} {i : Bool} (e : asB d = some i) : d = .bool i := by
  cases d <;> first | exact no_el e | exact congrArg D.bool (Option.some.inj e)
theorem asLi_inv {d : D} {i : List D} (e : asLi d = some i) : d = .list i := by
  cases d <;> first | exact no_el e | exact congrArg D.list (Option.some.inj e)
theorem asTu_inv {d : D} {i : List D} (e : asTu d = some i) : d = .tup i := by
  cases d <;> first | exact no_el e | exact congrArg D.tup (Option.some.inj e)
theorem asRef_inv {d : D} {i : Nat} (e : asRef d = some i) : d = .ref i := by
  cases d <;> first | exact no_el e | exact congrArg D.ref (Option.some.inj e)
theorem asFn_inv {d : D} {i : Nat} (e : asFn d = some i) : d = .fn i := by
  cases d <;> first | exact no_el e | exact congrArg D.fn (Option.some.inj e)
theorem asNo_inv {d : D} {u : Unit} (e : asNo d = some u) : d = .none := by
  cases d <;> first | rfl | exact no_el e
theorem rep_int {X : Txt} {W : Addr → Prop} {h : Heap} {d : D} {v : Value} {i : Int} (r : Rep X ads W h d v) (e : asI d = some i) : ∃ t, v = .int i t := by rw [asI_inv e] at r; exact r
theorem int_el {α : Type} {X : Txt} {W : Addr → Prop} {h : Heap} {d : D} {v : Value} {f : Int → Option α} {x : α} {H : Prop} (r : Rep X ads W h d v) (e : (asI d).bind f = some x) (k : ∀ i t, v = .int i t → f i = some x → H) : H :=
  bd1 e fun i h1 e => Exists.elim (rep_int r h1) fun t q => k i t q e
theorem int2_el {α : Type} {X : Txt} {W : Addr → Prop} {h : Heap} {d d' : D} {v v' : Value} {f : Int → Int → Option α} {x : α} {H : Prop} (r : Rep X ads W h d v) (r' : Rep X ads W h d' v') (e : int2 d d' f = some x) (k : ∀ i j t u, v = .int i t → v' = .int j u → f i j = some x → H) : H :=
  int_el r e fun i t h1 e => int_el r' e fun j u h2 e => k i j t u h1 h2 e
theorem if_el {α : Type} {p : Prop} [Decidable p] {x : Option α} {r : α} {H : Prop} (e : (if p then x else .none) = some r) (k : p → x = some r → H) : H := by
  by_cases h : p
  · rw [if_pos h] at e; exact k h e
  · rw [if_neg h] at e; cases e
theorem if_el' {α : Type} {p : Prop} [Decidable p] {x : Option α} {r : α} {H : Prop} (e : (if p then .none else x) = some r) (k : ¬ p → x = some r → H) : H := by
  by_cases h : p
  · rw [if_pos h] at e; cases e
  · rw [if_neg h] at e; exact k h e
theorem cond_el {α : Type} {b : Bool} {x : Option α} {r : α} {H : Prop} (e : (bif b then x else .none) = some r) (k : b = true → x = some r → H) : H := by
  cases b with
  | true => exact k rfl e
  | false => cases e

theorem list_at {h : Heap} {k : Nat} {v : Value} {l : List D} (R : c.R Z lk h ads σ) (r : c.P Z ads σ h (.ref k) v) (e : (σ[k]?).bind oList' = some l) :
    ∃ a vs, v = .ref a ∧ h.PlainList a (List.toArray vs) ∧ c.PL Z ads σ h l vs ∧ l.length ≤ lim :=
  Exists.elim r fun p hp => bd1 e fun o ho e => by
    have q := R.objs _ _ _ hp.1 ho
    rcases oList'_inv e with rfl | rfl <;> exact Exists.elim q fun vs q => ⟨p.1, vs, hp.2, q.1, q.2.1, q.2.2.1⟩
theorem asList_at {h : Heap} {d : D} {v : Value} {l : List D} (R : c.R Z lk h ads σ) (r : c.P Z ads σ h d v) (e : asList σ d = some l) :
    ∃ a vs, v = .ref a ∧ h.PlainList a (List.toArray vs) ∧ c.PL Z ads σ h l vs ∧ l.length ≤ lim := by
  cases d <;> first | exact no_el e | exact list_at R r e | exact el25 r fun a vs h1 h2 _ h4 h5 => ⟨a, vs, h1, h2, Option.some.inj e ▸ h5, Option.some.inj e ▸ h4⟩

theorem fits_lim {l : List D} {vs : List Value} (hl : l.length ≤ lim) (he : vs.length = l.length) : ((List.toArray vs).size : Int) < 2 ^ 63 := by
  rw [List.size_toArray, he]; unfold lim at hl; omega
theorem size_lim {l : List D} {vs : List Value} (hl : l.length ≤ lim) (he : vs.length = l.length) : (List.toArray vs).size ≤ sizeLine := by
  rw [List.size_toArray, he]; unfold lim at hl; unfold sizeLine; omega

theorem empty_eq {X : Txt} {W : Addr → Prop} {h : Heap} {l : List D} {vs : List Value} (hr : RepL X ads W h l vs) : (!(List.toArray vs).isEmpty) = (!l.isEmpty) := by
  cases l with
  | nil => cases hr; rfl
  | cons d l => obtain ⟨v, r, rfl, _⟩ := hr; rfl
theorem truthy_sound {d : D} {v : Value} {b : Bool} (R : c.R Z lk s.heap ads σ) (r : c.P Z ads σ s.heap d v) (e : truth σ d = some b) {Q : Bool → Shared → Prop} {E : Value → Shared → Prop}
    (k : ∀ tk, Q b { s with toks := tk }) : wpAny (model c.prog c.w) A (truthy v) Q E s := by
  have hlist : ∀ l, asList σ d = some l → b = (!l.isEmpty) → wpAny (model c.prog c.w) A (truthy v) Q E s := fun l hl hb =>
    el24 (asList_at R r hl) fun a vs ha hp hr hlim => ha ▸ wpAny_truthy_list (PlainList.isList hp) (fits_lim hlim hr.length) (((empty_eq hr).trans hb.symm) ▸ k _)
  cases d with
  | none => cases e; cases r; exact truthy_none (k s.toks)
  | bool => cases e; cases r; exact wpAny_truthy_bool (k s.toks)
  | int => cases e; obtain ⟨t, rfl⟩ := r; exact truthy_int (k s.toks)
  | tup l =>
    cases e
    exact el35 r fun a vs m ha hp _ hl hr => ha ▸ ktl_truthy hp (by have := fits_lim hl hr.length; omega) ((empty_eq hr) ▸ k _)
  | list l => exact hlist l rfl (Option.some.inj e).symm
  | ref i => exact bd1 e fun l hl e => hlist l hl (Option.some.inj e).symm
  | rng => cases e
  | fn => cases e

theorem simT_value {e : Expr} {f : Loc → Store → Option (D × Store)} (S : Sim c n C e f) (he : ∀ env whole, isTrue e env whole = (do let v ← whole; standAt e.pos; holding [v] (truthy v))) : SimT c n C e f := by
  intro A Z lk s ads ρ σ env d σ' b hf ht hA R V Q E k
  refine wpAny_isTrue_value (S A Z lk s ads ρ σ env d σ' hf hA R V _ _ fun v s' ads' x R' r => ?_) (he _ _)
  exact truthy_sound R' r ht fun tk => k _ ads' (x.tokR tk) R'

theorem small_bits {b : Int} (e : small b = true) : Builtin.Int.intBits b ≤ 64 := by
  have h := of_decide_eq_true e
  unfold Builtin.Int.intBits
  split
  · omega
  · rename_i h0
    have hb : b.natAbs ≠ 0 := by simpa using h0
    have : b.natAbs.log2 < 62 := (Nat.log2_lt hb).mpr (by omega)
    omega
theorem small_pylong {a b : Int} (e : small b = true) : Builtin.divisionGoesByPylong a b = false := by
  have h := of_decide_eq_true e
  unfold Builtin.divisionGoesByPylong
  simp only [Bool.and_eq_false_iff, decide_eq_false_iff_not]
  left
  split
  · omega
  · rename_i h0
    have hb : b.natAbs ≠ 0 := by simpa using h0
    have : b.natAbs.log2 < 62 := (Nat.log2_lt hb).mpr (by omega)
    omega
theorem small_mul {a b : Int} (e : (small a || small b) = true) : IntMulOk a b := by
  unfold IntMulOk shortFactorBits
  intro q
  rcases Bool.or_eq_true_iff.mp e with e | e
  · have := small_bits e; simp only [Bool.and_eq_true, decide_eq_true_eq] at q; omega
  · have := small_bits e; simp only [Bool.and_eq_true, decide_eq_true_eq] at q; omega

theorem isL_of {h : Heap} {a : Addr} {items : Array Value} (x : h.PlainList a items) : ∃ n, IsL h a items n := x

theorem newList_rep {h : Heap} {l : List D} {vs : List Value} (R : c.R Z lk h ads σ) (r : c.PL Z ads σ h l vs) (hl : l.length ≤ lim) :
    c.P Z ads σ (h.push { cls := .type "list", data := .seq vs.toArray }) (.list l) (.ref h.objs.size) :=
  ⟨_, vs, rfl, ⟨0, Heap.get?_push_size _ rfl⟩, R.fresh_ww (get_size _), hl, RepL.mono (Sub.refl _) (fun _ _ _ _ e => Heap.get?_push_of_some _ e) (fun _ _ _ x => x) _ _ r⟩
theorem newTuple_rep {h : Heap} {l : List D} {vs : List Value} (R : c.R Z lk h ads σ) (r : c.PL Z ads σ h l vs) (hl : l.length ≤ lim) :
    c.P Z ads σ (h.push { cls := .type "tuple", data := .seq vs.toArray }) (.tup l) (.ref h.objs.size) :=
  ⟨_, vs, 0, rfl, Heap.get?_push_size _ rfl, R.fresh_ww (get_size _), hl, RepL.mono (Sub.refl _) (fun _ _ _ _ e => Heap.get?_push_of_some _ e) (fun _ _ _ x => x) _ _ r⟩
theorem ext_push (o : Obj) (tk : Nat) : Ext Z ads σ s ads σ { s with heap := s.heap.push o, toks := tk } := Ext.more (fun _ _ e => Heap.get?_push_of_some _ e)

theorem Yields.castD {t : Sem Value} {d d' : D} (e : some d = some d') (y : Yields c A t Z lk s ads σ d σ') : Yields c A t Z lk s ads σ d' σ' := by cases e; exact y
theorem ints2 {op : Value → Value → Sem Value} {a b r : D} {va vb : Value} {f : Int → Int → Option D} (ra : c.P Z ads σ s.heap a va) (rb : c.P Z ads σ s.heap b vb) (e : int2 a b f = some r)
    (k : ∀ i j t u, f i j = some r → Yields c A (op (.int i t) (.int j u)) Z lk s ads σ r σ) : Yields c A (op va vb) Z lk s ads σ r σ :=
  int2_el ra rb e fun i j t u ha hb e => by subst ha; subst hb; exact k i j t u e
theorem add_lists {l : List D} {b r : D} {va vb : Value} (R : c.R Z lk s.heap ads σ) (ra : c.P Z ads σ s.heap (.list l) va) (rb : c.P Z ads σ s.heap b vb) (e : ((asLi b).bind fun l' => mkL (l ++ l')) = some r) :
    Yields c A (binaryOp .Add va vb) Z lk s ads σ r σ :=
  bd1 e fun l' hb e => if_el e fun hs e => Yields.castD e fun Q E k => by
    rw [asLi_inv hb] at rb
    refine el25 ra fun a vs ha hp _ hl hr => el25 rb fun a' vs' ha' hp' _ hl' hr' => Exists.elim hp fun n hp => Exists.elim hp' fun n' hp' => ?_
    rw [ha, ha']
    refine P.add_list hp hp' ?_ (by rw [List.size_toArray, List.size_toArray, hr.length, hr'.length]; rw [List.length_append] at hs; unfold lim at hs; unfold sizeLine; omega)
    rw [show vs.toArray ++ vs'.toArray = (vs ++ vs').toArray by simp]
    exact k _ _ ads (ext_push _ _) (R.push _) (newList_rep R (hr.append hr') hs)
theorem add_ints {i : Int} {b r : D} {va vb : Value} (R : c.R Z lk s.heap ads σ) (ra : c.P Z ads σ s.heap (.int i) va) (rb : c.P Z ads σ s.heap b vb) (e : ((asI b).bind fun j => some (D.int (i + j))) = some r) :
    Yields c A (binaryOp .Add va vb) Z lk s ads σ r σ :=
  ints2 (op := binaryOp .Add) (a := .int i) (f := fun i j => some (.int (i + j))) ra rb e fun i j t u e => Yields.castD e fun Q E k => add_int (k _ _ ads (Ext.tok _) R ⟨_, rfl⟩)
theorem binop_sound {op : Operator} {a b r : D} {va vb : Value} (R : c.R Z lk s.heap ads σ) (ra : c.P Z ads σ s.heap a va) (rb : c.P Z ads σ s.heap b vb) (e : binOp op a b = some r) :
    Yields c A (binaryOp op va vb) Z lk s ads σ r σ := by
  cases op
  case Add =>
    cases a
    case int => exact add_ints R ra rb e
    case list => exact add_lists R ra rb e
    all_goals exact no_el e
  case Sub => exact ints2 ra rb e fun i j t u e => Yields.castD e fun Q E k => sub_int (k _ _ ads (Ext.tok _) R ⟨_, rfl⟩)
  case Mult => exact ints2 ra rb e fun i j t u e => if_el e fun hs e => Yields.castD e fun Q E k => mul_int (k _ _ ads (Ext.tok _) R ⟨_, rfl⟩) (small_mul hs)
  case Mod => exact ints2 ra rb e fun i j t u e => if_el' e fun hs e => Yields.castD e fun Q E k => mod_int' hs (k _ _ ads (Ext.tok _) R ⟨_, rfl⟩)
  case FloorDiv => exact ints2 ra rb e fun i j t u e => if_el e fun hs e => Yields.castD e fun Q E k => floordiv_int hs.1 (k _ _ ads (Ext.tok _) R ⟨_, rfl⟩) (.inl (small_pylong hs.2))
  all_goals exact no_el e

theorem sim_bin {F : Env'} {op : Operator} {x y : E} {l r : Expr} {pos : Pos} (S1 : Sim c n C l (ev F x)) (S2 : Sim c n C r (ev F y)) : Sim c n C (.BinOp l op r pos) (ev F (.bin op x y)) :=
  fun A Z lk s ads ρ σ env d σ' hf hA R V => bd2 hf fun d1 σ1 h1 hf => bd2 hf fun d2 σ2 h2 hf => bd1 hf fun d3 h3 e => Yields.cast e fun Q E k =>
    wpAny_BinOp (S1 A Z lk s ads ρ σ env d1 σ1 h1 hA R V _ _ fun v s1 ads1 x1 R1 r1 => S2 A Z lk s1 ads1 ρ σ1 env d2 σ2 h2 hA R1 (V.ext x1) _ _ fun v2 s2 ads2 x2 R2 r2 =>
      binop_sound R2 (x2.rep r1) r2 h3 _ _ fun v3 s3 ads3 x3 R3 r3 => k v3 s3 ads3 ((x1.trans x2).trans x3) R3 r3)

theorem sim_neg {F : Env'} {x : E} {l : Expr} {pos : Pos} (S1 : Sim c n C l (ev F x)) : Sim c n C (.UnaryOp .USub l pos) (ev F (.neg x)) :=
  fun A Z lk s ads ρ σ env d σ' hf hA R V => bd2 hf fun d1 σ1 h1 hf => bd1 hf fun i h2 e => Yields.cast e fun Q E k =>
    wpAny_UnaryOp (S1 A Z lk s ads ρ σ env d1 σ1 h1 hA R V _ _ fun v s1 ads1 x1 R1 r1 => Exists.elim (rep_int r1 h2) fun t q => q ▸ neg_int (k _ _ ads1 (x1.tokR _) R1 ⟨_, rfl⟩))

theorem sim_not {F : Env'} {x : E} {l : Expr} {pos : Pos} (S1 : Sim c n C l (ev F x)) : Sim c n C (.UnaryOp .Not l pos) (ev F (.not x)) :=
  fun A Z lk s ads ρ σ env d σ' hf hA R V => bd2 hf fun d1 σ1 h1 hf => bd1 hf fun b h2 e => Yields.cast e fun Q E k =>
    wpAny_UnaryOp (S1 A Z lk s ads ρ σ env d1 σ1 h1 hA R V _ _ fun v s1 ads1 x1 R1 r1 => not_of (truthy_sound R1 r1 h2 fun tk => k _ _ ads1 (x1.tokR _) R1 rfl))

theorem sim_and {F : Env'} {x y : E} {l r : Expr} {pos : Pos} (S1 : Sim c n C l (ev F x)) (S2 : Sim c n C r (ev F y)) : Sim c n C (.BoolOp .And [l, r] pos) (ev F (.and x y)) :=
  fun A Z lk s ads ρ σ env d σ' hf hA R V => bd2 hf fun d1 σ1 h1 hf => bd1 hf fun b h2 e Q E k =>
    wpAny_And2 (S1 A Z lk s ads ρ σ env d1 σ1 h1 hA R V _ _ fun v s1 ads1 x1 R1 r1 => truthy_sound R1 r1 h2 fun tk => by
      cases b with
      | true => exact S2 A Z lk { s1 with toks := tk } ads1 ρ σ1 env d σ' e hA R1 (V.ext (x1.tokR tk)) _ _ fun v2 s2 ads2 x2 R2 r2 => k v2 s2 ads2 ((x1.tokR tk).trans x2) R2 r2
      | false => exact sm2 e fun e1 e2 => k _ _ ads1 (e2 ▸ x1.tokR tk) (e2 ▸ R1) (e1 ▸ e2 ▸ r1))

theorem sim_or {F : Env'} {x y : E} {l r : Expr} {pos : Pos} (S1 : Sim c n C l (ev F x)) (S2 : Sim c n C r (ev F y)) : Sim c n C (.BoolOp .Or [l, r] pos) (ev F (.or x y)) :=
  fun A Z lk s ads ρ σ env d σ' hf hA R V => bd2 hf fun d1 σ1 h1 hf => bd1 hf fun b h2 e Q E k =>
    wpAny_Or2 (S1 A Z lk s ads ρ σ env d1 σ1 h1 hA R V _ _ fun v s1 ads1 x1 R1 r1 => truthy_sound R1 r1 h2 fun tk => by
      cases b with
      | false => exact S2 A Z lk { s1 with toks := tk } ads1 ρ σ1 env d σ' e hA R1 (V.ext (x1.tokR tk)) _ _ fun v2 s2 ads2 x2 R2 r2 => k v2 s2 ads2 ((x1.tokR tk).trans x2) R2 r2
      | true => exact sm2 e fun e1 e2 => k _ _ ads1 (e2 ▸ x1.tokR tk) (e2 ▸ R1) (e1 ▸ e2 ▸ r1))

theorem sim_ite {F : Env'} {x y z : E} {t l r : Expr} {pos : Pos} (S0 : SimT c n C t (ev F x)) (S1 : Sim c n C l (ev F y)) (S2 : Sim c n C r (ev F z)) : Sim c n C (.IfExp t l r pos) (ev F (.ite x y z)) :=
  fun A Z lk s ads ρ σ env d σ' hf hA R V => bd2 hf fun d1 σ1 h1 hf => bd1 hf fun b h2 h3 Q E k =>
    wpAny_IfExp (S0 A Z lk s ads ρ σ env d1 σ1 b h1 h2 hA R V _ _ fun s1 ads1 x1 R1 => by
      cases b with
      | true => exact S1 A Z lk s1 ads1 ρ σ1 env d σ' h3 hA R1 (V.ext x1) _ _ fun v2 s2 ads2 x2 R2 r2 => k v2 s2 ads2 (x1.trans x2) R2 r2
      | false => exact S2 A Z lk s1 ads1 ρ σ1 env d σ' h3 hA R1 (V.ext x1) _ _ fun v2 s2 ads2 x2 R2 r2 => k v2 s2 ads2 (x1.trans x2) R2 r2)
theorem YieldsB.cast {t : Sem Bool} {b b' : Bool} (e : b = b') (y : YieldsB c A t Z lk s ads σ b σ') : YieldsB c A t Z lk s ads σ b' σ' := e ▸ y
end

end Mine
end
section
open PySem PySem.W PyProof.Rows PySem.SeqAt
namespace Mine

theorem eqL_some {f : D → D → Option Bool} : ∀ {a b : List D} {r : Bool}, a.length = b.length → eqL f a b = some r →
    (∀ (i : Nat) (x y : D), a[i]? = some x → b[i]? = some y → ∃ t, f x y = some t) ∧ (r = true ↔ ∀ (i : Nat) (x y : D), a[i]? = some x → b[i]? = some y → f x y = some true)
  | [], _, r, _, e => ⟨fun i _ _ h => absurd h (by simp), fun _ i _ _ h => absurd h (by simp), fun _ => (Option.some.inj e).symm⟩
  | _ :: _, [], _, h, _ => absurd h (by simp)
  | x :: xs, y :: ys, r, h, e => bd1 e fun t h1 e => bd1 e fun u h2 e => by
    have ih := eqL_some (Nat.succ.inj h) h2
    have hc : ∀ (P : D → D → Prop), (∀ (i : Nat) (a b : D), (x :: xs)[i]? = some a → (y :: ys)[i]? = some b → P a b) ↔ P x y ∧ ∀ (i : Nat) (a b : D), xs[i]? = some a → ys[i]? = some b → P a b := fun P =>
      ⟨fun k => ⟨k 0 x y rfl rfl, fun i => k (i + 1)⟩, fun k i => match i with
        | 0 => fun a b ha hb => Option.some.inj ha ▸ Option.some.inj hb ▸ k.1
        | i + 1 => k.2 i⟩
    rw [hc, hc, ← ih.2, h1, ← Option.some.inj e, Bool.and_eq_true, Option.some.injEq]
    exact ⟨⟨⟨t, rfl⟩, ih.1⟩, Iff.rfl⟩

section
variable {n : Nat} {d : D} {b : Bool}
theorem eqr_none (e : eqD (n + 1) d .none = some b) : d = .none ∧ b = true := by cases d <;> first | exact no_el e | exact ⟨rfl, (Option.some.inj e).symm⟩
theorem eqr_bool {y : Bool} (e : eqD (n + 1) d (.bool y) = some b) : ∃ x, d = .bool x ∧ b = (x == y) := by cases d <;> first | exact no_el e | exact ⟨_, rfl, (Option.some.inj e).symm⟩
theorem eqr_int {y : Int} (e : eqD (n + 1) d (.int y) = some b) : ∃ x, d = .int x ∧ b = (x == y) := by cases d <;> first | exact no_el e | exact ⟨_, rfl, (Option.some.inj e).symm⟩
theorem eqr_list {l' : List D} (e : eqD (n + 1) d (.list l') = some b) : ∃ l, d = .list l ∧ (if l.length == l'.length then eqL (eqD n) l l' else some false) = some b := by cases d <;> first | exact no_el e | exact ⟨_, rfl, e⟩
theorem eqr_tup {l' : List D} (e : eqD (n + 1) d (.tup l') = some b) : ∃ l, d = .tup l ∧ l.length = l'.length ∧ eqL (eqD n) l l' = some b := by cases d <;> first | exact no_el e | exact if_el e fun h e => ⟨_, rfl, eq_of_beq h, e⟩
end

section
variable {c : Cst} {A : Around} {Z : List Addr} {lk : Nat → Nat} {s : Shared} {ads : Ads} {σ σ' : Store} {n : Nat} {C : SC} {W : Addr → Prop} {h : Heap} {fr : List Env}

theorem plain_inj {a : Addr} {vs vs' : List Value} (x : h.PlainList a vs.toArray) (y : h.PlainList a vs'.toArray) : vs = vs' := by
  obtain ⟨n, e⟩ := x; obtain ⟨m, e'⟩ := y
  rw [e] at e'; simp at e'; exact e'.1
theorem tup_inj {a : Addr} {vs vs' : List Value} {n m : Nat} (e : h.get? a = some { cls := .type "tuple", data := .seq vs.toArray n }) (e' : h.get? a = some { cls := .type "tuple", data := .seq vs'.toArray m }) : vs = vs' := by
  rw [e] at e'; simp at e'; exact e'.1

theorem eqL_two {X : Txt} {n : Nat} {l l' : List D} {vs : List Value} {b : Bool} (hr : RepL X ads W h l vs) (hr' : RepL X ads W h l' vs) (ih : ∀ {d d' v b}, Rep X ads W h d v → Rep X ads W h d' v → eqD n d d' = some b → b = true)
    (e : eqL (eqD n) l l' = some b) : b = true := by
  have q := eqL_some (hr.length.symm.trans hr'.length) e
  exact q.2.mpr fun i x y hx hy => Exists.elim (q.1 i x y hx hy) fun t ht => el12 (hr.get hx) fun v hv rv => (ih rv (hr'.rep hy hv) ht) ▸ ht
theorem eq_same {X : Txt} : ∀ (n : Nat) {d d' : D} {v : Value} {b : Bool}, Rep X ads W h d v → Rep X ads W h d' v → eqD n d d' = some b → b = true
  | 0, _, _, _, _, _, _, e => no_el e
  | n + 1, d, d', v, b, r, r', e => by
    cases d'
    case none => exact (eqr_none e).2
    case bool y => exact el12 (eqr_bool e) fun x hd hb => by subst hd; rw [hb, Value.bool.inj (Eq.trans (Eq.symm r) r')]; exact beq_self_eq_true _
    case int y =>
      exact el12 (eqr_int e) fun x hd hb => by
        subst hd
        exact el11 r fun t ht => el11 r' fun u hu => by rw [hb, (Value.int.inj (ht.symm.trans hu)).1]; exact beq_self_eq_true _
    case list l' =>
      exact el12 (eqr_list e) fun l hd e1 => by
        subst hd
        exact el25 r fun a vs ha hp _ _ hr => el25 r' fun a' vs' ha' hp' _ _ hr' => by
          have q := plain_inj hp (Value.ref.inj (ha.symm.trans ha') ▸ hp')
          subst q
          rw [if_pos (beq_iff_eq.mpr (hr.length.symm.trans hr'.length))] at e1
          exact eqL_two hr hr' (fun x y z => eq_same n x y z) e1
    case tup l' =>
      exact el13 (eqr_tup e) fun l hd _ e1 => by
        subst hd
        exact el35 r fun a vs m ha hp _ _ hr => el35 r' fun a' vs' m' ha' hp' _ _ hr' => by
          have q := tup_inj hp (Value.ref.inj (ha.symm.trans ha') ▸ hp')
          subst q
          exact eqL_two hr hr' (fun x y z => eq_same n x y z) e1
    all_goals cases d <;> exact no_el e

theorem eqL_fix {X : Txt} {n : Nat} {l l' lx : List D} {vs : List Value} {b b' : Bool} (hr : RepL X ads W h l vs) (hr' : RepL X ads W h l' vs) (ih : ∀ {d d' x v b b'}, Rep X ads W h d v → Rep X ads W h d' v → eqD n d x = some b → eqD n d' x = some b' → b = b')
    (hlx : l.length = lx.length) (e : eqL (eqD n) l lx = some b) (e' : eqL (eqD n) l' lx = some b') (hb : b = true) : b' = true := by
  have hll : l.length = l'.length := hr.length.symm.trans hr'.length
  have q := eqL_some hlx e
  have q' := eqL_some (hll ▸ hlx) e'
  exact q'.2.mpr fun i x y hx hy => Exists.elim (q'.1 i x y hx hy) fun t ht => el12 (hr'.get hx) fun v hv rv => by
    have hi : i < l.length := hll ▸ (List.getElem?_eq_some_iff.mp hx).1
    exact (ih (hr.rep (List.getElem?_eq_getElem hi) hv) rv (q.2.mp hb i _ y (List.getElem?_eq_getElem hi) hy) ht) ▸ ht
theorem eqL_fix2 {X : Txt} {n : Nat} {l l' lx : List D} {vs : List Value} {b b' : Bool} (hr : RepL X ads W h l vs) (hr' : RepL X ads W h l' vs) (ih : ∀ {d d' x v b b'}, Rep X ads W h d v → Rep X ads W h d' v → eqD n d x = some b → eqD n d' x = some b' → b = b')
    (hlx : l.length = lx.length) (e : eqL (eqD n) l lx = some b) (e' : eqL (eqD n) l' lx = some b') : b = b' :=
  Bool.eq_iff_iff.mpr ⟨eqL_fix hr hr' ih hlx e e', eqL_fix hr' hr ih ((hr'.length.symm.trans hr.length).trans hlx) e' e⟩
theorem eq_fix {X : Txt} : ∀ (n : Nat) {d d' x : D} {v : Value} {b b' : Bool}, Rep X ads W h d v → Rep X ads W h d' v → eqD n d x = some b → eqD n d' x = some b' → b = b'
  | 0, _, _, _, _, _, _, _, _, e, _ => no_el e
  | n + 1, d, d', x, v, b, b', r, r', e, e' => by
    cases x
    case none => exact (eqr_none e).2.trans (eqr_none e').2.symm
    case bool y => exact el12 (eqr_bool e) fun x hd hb => el12 (eqr_bool e') fun x' hd' hb' => by subst hd; subst hd'; rw [hb, hb', Value.bool.inj (Eq.trans (Eq.symm r) r')]
    case int y =>
      exact el12 (eqr_int e) fun x hd hb => el12 (eqr_int e') fun x' hd' hb' => by
        subst hd; subst hd'
        exact el11 r fun t ht => el11 r' fun u hu => by rw [hb, hb', (Value.int.inj (ht.symm.trans hu)).1]
    case list lx =>
      exact el12 (eqr_list e) fun l hd e1 => el12 (eqr_list e') fun l' hd' e2 => by
        subst hd; subst hd'
        exact el25 r fun a vs ha hp _ _ hr => el25 r' fun a' vs' ha' hp' _ _ hr' => by
          have q := plain_inj hp (Value.ref.inj (ha.symm.trans ha') ▸ hp')
          subst q
          rw [← hr'.length, hr.length] at e2
          by_cases hl : l.length = lx.length
          · rw [if_pos (beq_iff_eq.mpr hl)] at e1 e2
            exact eqL_fix2 hr hr' (fun x y z w => eq_fix n x y z w) hl e1 e2
          · rw [if_neg (fun q => hl (eq_of_beq q))] at e1 e2
            exact Option.some.inj (e1.symm.trans e2)
    case tup lx =>
      exact el13 (eqr_tup e) fun l hd hl e1 => el13 (eqr_tup e') fun l' hd' _ e2 => by
        subst hd; subst hd'
        exact el35 r fun a vs m ha hp _ _ hr => el35 r' fun a' vs' m' ha' hp' _ _ hr' => by
          have q := tup_inj hp (Value.ref.inj (ha.symm.trans ha') ▸ hp')
          subst q
          exact eqL_fix2 hr hr' (fun x y z w => eq_fix n x y z w) hl e1 e2
    all_goals cases d <;> exact no_el e

theorem all_range {l : Nat} {e : Nat → Bool} {b : Bool} (h : b = true ↔ ∀ i, i < l → e i = true) : (List.range l).all e = b := by
  rw [Bool.eq_iff_iff, h, List.all_eq_true]
  simp only [List.mem_range]

theorem items_at {X : Txt} {n : Nat} {l l' : List D} {vs vs' : List Value} {b : Bool} (ih : ∀ {d d' v v' b}, Rep X ads W s.heap d v → Rep X ads W s.heap d' v' → eqD n d d' = some b → EqAt A s v v' b)
    (hr : RepL X ads W s.heap l vs) (hr' : RepL X ads W s.heap l' vs') (hlen : l.length = l'.length) (e1 : eqL (eqD n) l l' = some b) :
    ∃ ef : Nat → Bool, (∀ j (h1 : j < vs.toArray.size) (h2 : j < vs'.toArray.size), EqAt A s vs.toArray[j] vs'.toArray[j] (ef j)) ∧ (List.range vs.toArray.size).all ef = b := by
  have q := eqL_some hlen e1
  refine ⟨fun j => ((eqD n (l.getD j .none) (l'.getD j .none)).getD false), fun j h1 h2 => ?_, all_range (q.2.trans ?_)⟩
  · have j1 : j < l.length := hr.length ▸ h1
    have j2 : j < l'.length := hr'.length ▸ h2
    have g1 := List.getElem?_eq_getElem j1
    have g2 := List.getElem?_eq_getElem j2
    refine Exists.elim (q.1 j _ _ g1 g2) fun t ht => ?_
    show EqAt A s _ _ ((eqD n (l.getD j .none) (l'.getD j .none)).getD false)
    rw [List.getD_eq_getElem?_getD, List.getD_eq_getElem?_getD, g1, g2]
    show EqAt A s _ _ ((eqD n l[j] l'[j]).getD false)
    rw [ht]
    exact ih (hr.rep g1 (List.getElem?_eq_getElem h1)) (hr'.rep g2 (List.getElem?_eq_getElem h2)) ht
  · have hs : vs.toArray.size = l.length := hr.length
    rw [hs]
    constructor
    · intro hh i hi
      have hi' : i < l'.length := hlen ▸ hi
      show (eqD n (l.getD i .none) (l'.getD i .none)).getD false = true
      rw [List.getD_eq_getElem?_getD, List.getD_eq_getElem?_getD, List.getElem?_eq_getElem hi, List.getElem?_eq_getElem hi']
      show (eqD n l[i] l'[i]).getD false = true
      rw [hh i _ _ (List.getElem?_eq_getElem hi) (List.getElem?_eq_getElem hi')]; rfl
    · intro hh i x y hx hy
      have : (eqD n (l.getD i .none) (l'.getD i .none)).getD false = true := hh i (List.getElem?_eq_some_iff.mp hx).1
      rw [List.getD_eq_getElem?_getD, List.getD_eq_getElem?_getD, hx, hy] at this
      exact Exists.elim (q.1 i x y hx hy) fun t ht => by
        rw [ht]
        have this : (eqD n x y).getD false = true := this
        rw [ht] at this
        exact congrArg some this

theorem eq_at {X : Txt} : ∀ (n : Nat) (A : Around) {d d' : D} {v v' : Value} {b : Bool}, A.units + n < cLine → Rep X ads W s.heap d v → Rep X ads W s.heap d' v' → eqD n d d' = some b → EqAt A s v v' b ∧ RcAt A s v v' b ∧ RcNeAt A s v v' (!b)
  | 0, _, _, _, _, _, _, _, _, _, e => no_el e
  | n + 1, A, d, d', v, v', b, hu, r, r', e => by
    have hu0 : A.units < cLine := Nat.lt_of_le_of_lt (Nat.le_add_right _ _) hu
    have hu1 : A.in1.units + n < cLine := by rw [Around.in1_units]; omega
    have fin : ∀ a a', v = .ref a → v' = .ref a' → RcAt A s (.ref a) (.ref a') b ∧ RcNeAt A s (.ref a) (.ref a') (!b) → EqAt A s v v' b ∧ RcAt A s v v' b ∧ RcNeAt A s v v' (!b) := fun a a' ha ha' main => by
      have hself := fun (hv : v = v') => eq_same (X := X) (n + 1) r (hv ▸ r') e
      subst ha; subst ha'
      refine ⟨?_, main⟩
      by_cases q : a = a'
      · subst q; rw [hself rfl]; exact EqAt.same _
      · exact EqAt.of_refs q main.1
    have ih : ∀ {d d' v v' b}, Rep X ads W s.heap d v → Rep X ads W s.heap d' v' → eqD n d d' = some b → EqAt A.in1 s v v' b := fun x y z => (eq_at n A.in1 hu1 x y z).1
    cases d'
    case none =>
      obtain ⟨rfl, rfl⟩ := eqr_none e
      cases r; cases r'; exact ⟨EqAt.same _, RcAt.none_none, RcNeAt.none_none⟩
    case bool y =>
      exact el12 (eqr_bool e) fun x hd hb => by
        subst hd; subst hb; cases r; cases r'; exact ⟨EqAt.bool_bool _ _, RcAt.bool_bool _ _, RcNeAt.bool_bool _ _⟩
    case int y =>
      exact el12 (eqr_int e) fun x hd hb => by
        subst hd; subst hb
        exact el11 r fun t ht => el11 r' fun u hu => by subst ht; subst hu; exact ⟨EqAt.int_int _ _ _ _, RcAt.int_int _ _ _ _, RcNeAt.int_int _ _ _ _⟩
    case list l' =>
      exact el12 (eqr_list e) fun l hd e1 => by
        subst hd
        refine el25 r fun a vs ha hp _ _ hr => el25 r' fun a' vs' ha' hp' _ _ hr' => fin a a' ha ha' ?_
        have hs1 : vs.toArray.size = l.length := hr.length
        have hs2 : vs'.toArray.size = l'.length := hr'.length
        by_cases hlen : l.length = l'.length
        · rw [if_pos (beq_iff_eq.mpr hlen)] at e1
          exact el12 (items_at ih hr hr' hlen e1) fun ef he hb => ⟨hb ▸ RcAt.lists (PlainList.isList hp) (PlainList.isList hp') (hs1.trans (hlen.trans hs2.symm)) hu0 he, hb ▸ RcNeAt.lists (PlainList.isList hp) (PlainList.isList hp') (hs1.trans (hlen.trans hs2.symm)) hu0 he⟩
        · rw [if_neg (fun q => hlen (eq_of_beq q))] at e1
          rw [← Option.some.inj e1]
          have hsz : (vs.toArray.size != vs'.toArray.size) = true := bne_iff_ne.mpr (hs1.symm ▸ hs2.symm ▸ hlen)
          exact ⟨RcAt.lists_lengths (PlainList.isList hp) (PlainList.isList hp') hsz hu0, RcNeAt.lists_lengths (PlainList.isList hp) (PlainList.isList hp') hsz hu0⟩
    case tup l' =>
      exact el13 (eqr_tup e) fun l hd hlen e1 => by
        subst hd
        refine el35 r fun a vs m ha hp _ _ hr => el35 r' fun a' vs' m' ha' hp' _ _ hr' => fin a a' ha ha' ?_
        have hl : s.heap.IsTuple a vs.toArray := ⟨_, hp, rfl, m, rfl⟩
        have hl' : s.heap.IsTuple a' vs'.toArray := ⟨_, hp', rfl, m', rfl⟩
        refine el12 (items_at ih hr hr' hlen e1) fun ef he hb => ?_
        have hsz : vs.toArray.size = vs'.toArray.size := (hr.length.trans hlen).trans hr'.length.symm
        have hb' : ((List.range (min vs.toArray.size vs'.toArray.size)).all ef && vs.toArray.size == vs'.toArray.size) = b := by
          rw [← hsz, Nat.min_self, beq_self_eq_true, Bool.and_true, hb]
        exact ⟨hb' ▸ RcAt.tuples hl hl' hu0 he, hb' ▸ RcNeAt.tuples hl hl' hu0 he⟩
    all_goals cases d <;> exact no_el e

theorem eqs_get {x : D} : ∀ {l : List D} {bs : List Bool}, eqs x l = some bs → bs.length = l.length ∧ ∀ (i : Nat) (d : D), l[i]? = some d → ∃ b, bs[i]? = some b ∧ eqD deep d x = some b
  | [], bs, e => Option.some.inj e ▸ ⟨rfl, fun i d h => absurd h (by simp)⟩
  | d :: ds, bs, e => bd1 e fun b h1 e => bd1 e fun bs' h2 e => by
    have q := eqs_get h2
    rw [← Option.some.inj e]
    refine ⟨congrArg Nat.succ q.1, fun i y hy => ?_⟩
    match i, hy with
    | 0, hy => exact ⟨b, rfl, Option.some.inj hy ▸ h1⟩
    | i + 1, hy => exact q.2 i y hy

open Classical in
theorem eqs_fun {X : Txt} {x : D} {vx : Value} {l : List D} {vs : List Value} {bs : List Bool} (hu : A.units + deep < cLine) (hr : RepL X ads W s.heap l vs) (rx : Rep X ads W s.heap x vx) (e : eqs x l = some bs) :
    ∃ f : Value → Bool, (∀ y, y ∈ vs → EqAt A s y vx (f y)) ∧ vs.map f = bs := by
  obtain ⟨p, q⟩ := eqs_get e
  let f : Value → Bool := fun y => decide (∃ (i : Nat) (d : D), l[i]? = some d ∧ vs[i]? = some y ∧ eqD deep d x = some true)
  have key : ∀ (i : Nat) (y : Value), vs[i]? = some y → ∃ b, bs[i]? = some b ∧ f y = b ∧ EqAt A s y vx b := by
    intro i y hy
    have hi : i < l.length := by rw [← hr.length]; exact (List.getElem?_eq_some_iff.mp hy).1
    obtain ⟨b, hb, he⟩ := q i l[i] (List.getElem?_eq_getElem hi)
    have ry := hr.rep (List.getElem?_eq_getElem hi) hy
    refine ⟨b, hb, ?_, (eq_at deep A hu ry rx he).1⟩
    cases b with
    | true => exact decide_eq_true ⟨i, l[i], List.getElem?_eq_getElem hi, hy, he⟩
    | false =>
      refine decide_eq_false ?_
      rintro ⟨j, d, h1, h2, h3⟩
      exact absurd (eq_fix deep (hr.rep h1 h2) ry h3 he) (by decide)
  refine ⟨f, fun y hy => ?_, ?_⟩
  · obtain ⟨i, hi⟩ := List.mem_iff_getElem?.mp hy
    refine el13 (key i y hi) fun b _ h2 h3 => ?_
    rw [h2]; exact h3
  · apply List.ext_getElem?
    intro i
    rw [List.getElem?_map]
    cases hv : vs[i]? with
    | some y =>
      refine el13 (key i y hv) fun b h1 h2 _ => ?_
      rw [h1, Option.map_some, h2]
    | none =>
      have : bs.length ≤ i := by rw [p, ← hr.length]; exact List.getElem?_eq_none_iff.mp hv
      rw [List.getElem?_eq_none this]; rfl

theorem Room.units_lt {m : Nat} (hA : Room A n fr) (hm : m ≤ 900) : A.units + m < cLine := by have := hA.units; unfold cLine; omega

theorem rep_weak {X : Txt} {d : D} {v : Value} (r : Rep X ads W h d v) : Rep X ads (fun _ => False) h d v := Rep.mono (Sub.refl _) (fun _ _ _ _ e => e) (fun _ _ _ x => x.elim) d v r
theorem repL_weak {X : Txt} {d : List D} {v : List Value} (r : RepL X ads W h d v) : RepL X ads (fun _ => False) h d v := RepL.mono (Sub.refl _) (fun _ _ _ _ e => e) (fun _ _ _ x => x.elim) d v r
theorem rep_top {d : D} {v : Value} (R : c.R Z lk h ads σ) (r : c.P Z ads σ h d v) : Rep c.X ads (fun _ => False) h (top σ d) v := by
  unfold top
  split
  · rename_i l e
    refine el24 (asList_at R r e) fun a vs qe73 hp hr hl => ?_; subst qe73
    exact ⟨a, vs, rfl, hp, id, hl, repL_weak hr⟩
  · exact rep_weak r

theorem yields_bool {b : Bool} {t : Sem Value} (R : c.R Z lk s.heap ads σ) (h : ∀ (Q : Value → Shared → Prop) (E : Value → Shared → Prop), (∀ tk, Q (.bool b) { s with toks := tk }) → wpAny (model c.prog c.w) A t Q E s) :
    Yields c A t Z lk s ads σ (.bool b) σ := fun Q E k => h Q E fun tk => k _ _ ads (Ext.tok tk) R rfl

theorem Rel.dict_ne {h : Heap} {k : Nat} {p : Addr × Addr} (B : Base c) (R : c.R Z lk h ads σ) (hp : ads[k]? = some p) : (p.1 == sysModules) = false := by
  simp only [beq_eq_false_iff_ne, ne_eq]
  intro e
  obtain ⟨o, ho⟩ := B.mods
  rw [← e, (R.new k p hp).1] at ho; cases ho

theorem PairsL.keys {X : Txt} : ∀ {es : List (Int × D)} {kvs : List (Int × Value)}, PairsL X ads W h es kvs → kvs.map (·.1) = es.map (·.1)
  | [], _, e => by cases e; rfl
  | (i, d) :: r, _, e => by refine el23 (e) fun v q qe74 _ h2 => ?_; subst qe74; simp [PairsL.keys h2]
theorem PairsL.find {X : Txt} (i : Int) : ∀ {es : List (Int × D)} {kvs : List (Int × Value)}, PairsL X ads W h es kvs → match es.lookup i with
    | some d => ∃ v, valueAt kvs i = some v ∧ Rep X ads W h d v
    | .none => valueAt kvs i = none
  | [], _, e => by cases e; simp [valueAt]
  | (j, d) :: r, _, e => by
    refine el23 (e) fun v q qe75 h1 h2 => ?_; subst qe75
    rw [List.lookup_cons]
    by_cases hj : i = j
    · subst hj; simp only [beq_self_eq_true]; exact ⟨v, by simp [valueAt], h1⟩
    · have hb : (i == j) = false := by simpa using hj
      rw [hb]
      have : valueAt ((j, v) :: q) i = valueAt q i := by
        unfold valueAt; rw [List.find?_cons, decide_eq_false (fun x => hj x.symm)]
      rw [this]
      exact PairsL.find i h2
theorem any_lookup (i : Int) : ∀ (es : List (Int × D)), (es.any fun e => e.1 == i) = (es.lookup i).isSome
  | [] => rfl
  | (j, d) :: r => by
    rw [List.any_cons, List.lookup_cons, any_lookup i r]
    by_cases hj : i = j
    · subst hj; simp
    · have h1 : (i == j) = false := by simpa using hj
      have h2 : (j == i) = false := by simpa using fun x : j = i => hj x.symm
      rw [h1]; simp [h2]

theorem dictOf_map {prog : Program} {w : World} {d : Addr} {kvs : List (Int × Value)} (x : h.DictOf (intKind prog w) d kvs) : h.MapOf (intKind prog w) d (valueAt kvs) := by
  exact Heap.DictOf.mapOf x

noncomputable def InOk (c : Cst) (A : Around) (s : Shared) (vx vy : Value) (b : Bool) : Prop :=
    (∀ (Q : Value → Shared → Prop) (E : Value → Shared → Prop), (∀ tk, Q (.bool b) { s with toks := tk }) → wpAny (model c.prog c.w) A (compareOp .In vx vy) Q E s) ∧
    (∀ (Q : Value → Shared → Prop) (E : Value → Shared → Prop), (∀ tk, Q (.bool (!b)) { s with toks := tk }) → wpAny (model c.prog c.w) A (compareOp .NotIn vx vy) Q E s)

theorem in_list {x : D} {vx vy : Value} {b : Bool} {a : Addr} {vs : List Value} {l : List D} (hA : Room A n fr) (rx : c.P Z ads σ s.heap x vx) (hv : vy = .ref a) (hp : s.heap.PlainList a vs.toArray) (hr : c.PL Z ads σ s.heap l vs) (e : inL x l = some b) : InOk c A s vx vy b :=
  bd1 e fun bs hbs e => el12 (eqs_fun (A := A.in1) (by rw [Around.in1_units]; have := hA.units; unfold cLine deep; omega) hr rx hbs) fun f hf hm => by
    subst hv
    have he : vs.toArray.any f = b := by rw [← Option.some.inj e, ← hm]; simp [List.any_map]
    have hf' : ∀ y, y ∈ vs.toArray → EqAt A.in1 s y vx (f y) := fun y hy => hf y (List.mem_toArray.mp hy)
    exact ⟨fun Q E k => in_listAt f (PlainList.isList hp) hf' (he ▸ k s.toks), fun Q E k => notIn_listAt f (PlainList.isList hp) hf' (he ▸ k s.toks)⟩
theorem in_tuple {x : D} {vx vy : Value} {b : Bool} {a : Addr} {vs : List Value} {l : List D} {m : Nat} (hA : Room A n fr) (rx : c.P Z ads σ s.heap x vx) (hv : vy = .ref a) (hp : s.heap.get? a = some { cls := .type "tuple", data := .seq vs.toArray m }) (hr : c.PL Z ads σ s.heap l vs) (e : inL x l = some b) : InOk c A s vx vy b :=
  bd1 e fun bs hbs e => el12 (eqs_fun (A := A.in1) (by rw [Around.in1_units]; have := hA.units; unfold cLine deep; omega) hr rx hbs) fun f hf hm => by
    subst hv
    have he : vs.toArray.any f = b := by rw [← Option.some.inj e, ← hm]; simp [List.any_map]
    have hf' : ∀ y, y ∈ vs.toArray → EqAt A.in1 s y vx (f y) := fun y hy => hf y (List.mem_toArray.mp hy)
    exact ⟨fun Q E k => in_tupleAt f ⟨_, hp, rfl, m, rfl⟩ hf' (he ▸ k s.toks), fun Q E k => notIn_tupleAt f ⟨_, hp, rfl, m, rfl⟩ hf' (he ▸ k s.toks)⟩
theorem has_any {X : Txt} {es : List (Int × D)} {kvs : List (Int × Value)} {i : Int} (r : PairsL X ads W h es kvs) : (valueAt kvs i).isSome = dictHas i es := by
  unfold dictHas
  rw [any_lookup]; have := r.find i; revert this; cases es.lookup i <;> intro this
  · rw [show valueAt kvs i = none from this]; rfl
  · obtain ⟨v, h, _⟩ := this; rw [h]; rfl
theorem in_dict {x : D} {vx : Value} {b : Bool} {k : Nat} {p : Addr × Addr} {es : List (Int × D)} {kvs : List (Int × Value)} (B : Base c) (R : c.R Z lk s.heap ads σ) (hp : ads[k]? = some p) (rx : c.P Z ads σ s.heap x vx) (a : s.heap.DictOf (intKind c.prog c.w) p.1 kvs) (r : PairsL c.X ads (WW Z ads σ) s.heap es kvs)
    (e : ((asI x).bind fun i => some (dictHas i es)) = some b) : InOk c A s vx (.ref p.1) b :=
  int_el rx e fun i t ht e => by
    subst ht
    have hk : (intKind c.prog c.w).is i (.int i t) = true := by simp [intKind, Value.isInt]
    have hb : (valueAt kvs i).isSome = b := (has_any r).trans (Option.some.inj e)
    exact ⟨fun Q E k => wpAny_in_of hk (Rel.dict_ne B R hp) (dictOf_map a) (hb ▸ k _), fun Q E k => wpAny_notIn_of hk (Rel.dict_ne B R hp) (dictOf_map a) (hb ▸ k _)⟩

theorem in_sound {x y : D} {vx vy : Value} {b : Bool} (B : Base c) (hA : Room A n fr) (R : c.R Z lk s.heap ads σ) (rx : c.P Z ads σ s.heap x vx) (ry : c.P Z ads σ s.heap y vy) (e : isIn σ x y = some b) :
    InOk c A s vx vy b := by
  cases y
  case list l => exact el25 ry fun a vs hv hp _ _ hr => in_list hA rx hv hp hr e
  case tup l => exact el35 ry fun a vs m hv hp _ _ hr => in_tuple hA rx hv hp hr e
  case ref j =>
    exact el12 ry fun p hp hv => bd1 e fun o ho e => by
      have q := R.objs _ _ _ hp ho
      subst hv
      cases o
      case list => exact el14 q fun vs a r _ _ => in_list hA rx rfl a r e
      case llist => exact el14 q fun vs a r _ _ => in_list hA rx rfl a r e
      case dict => exact el14 q fun kvs a r _ _ => in_dict B R hp rx a r e
      case ldict => exact el14 q fun kvs a r _ _ => in_dict B R hp rx (let ⟨o, es, h1, h2, h3, r⟩ := a; ⟨o, es, _, h1, h2, h3, r⟩) r e
      case set es =>
        exact int_el rx e fun i t ht e => by
          subst ht
          have hk : (intKind c.prog c.w).is i (.int i t) = true := by simp [intKind, Value.isInt]
          rw [← Option.some.inj e]
          exact ⟨fun Q E k => wpAny_inSet_of hk rfl q.1 (k _), fun Q E k => wpAny_notInSet_of hk rfl q.1 (k _)⟩
      all_goals exact no_el e
  all_goals exact no_el e

theorem cmp_ints {op : CmpOp} {f : Int → Int → Bool} {x y : D} {vx vy : Value} {b : Bool} (R : c.R Z lk s.heap ads σ) (rx : c.P Z ads σ s.heap x vx) (ry : c.P Z ads σ s.heap y vy) (e : (int2 x y fun i j => some (f i j)) = some b)
    (k : ∀ i j t u (Q : Value → Shared → Prop) (E : Value → Shared → Prop), Q (.bool (f i j)) s → wpAny (model c.prog c.w) A (compareOp op (.int i t) (.int j u)) Q E s) : Yields c A (compareOp op vx vy) Z lk s ads σ (.bool b) σ :=
  int2_el rx ry e fun i j t u hx hy e => by subst hx; subst hy; exact yields_bool R fun Q E k' => k i j t u Q E ((Option.some.inj e) ▸ k' s.toks)
theorem isNo_rep {X : Txt} {x : D} {vx : Value} {b : Bool} (rx : Rep X ads W h x vx) (e : isNo x = some b) : (vx = .none ∧ b = true) ∨ ((∃ a, vx = .ref a) ∧ b = false) := by
  cases x
  case none => exact .inl ⟨rx, (Option.some.inj e).symm⟩
  case ref => exact .inr ⟨el12 rx fun p _ h => ⟨_, h⟩, (Option.some.inj e).symm⟩
  case list => exact .inr ⟨el25 rx fun a _ h _ _ _ _ => ⟨_, h⟩, (Option.some.inj e).symm⟩
  all_goals exact no_el e
theorem cmp_sound {op : CmpOp} {x y : D} {vx vy : Value} {b : Bool} (B : Base c) (hA : Room A n fr) (R : c.R Z lk s.heap ads σ) (rx : c.P Z ads σ s.heap x vx) (ry : c.P Z ads σ s.heap y vy) (e : cmpOp σ op x y = some b) :
    Yields c A (compareOp op vx vy) Z lk s ads σ (.bool b) σ := by
  have hu : A.units + deep < cLine := by have := hA.units; unfold cLine deep; omega
  cases op
  case Lt => exact cmp_ints R rx ry e fun i j t u Q E k => lt_int k
  case LtE => exact cmp_ints R rx ry e fun i j t u Q E k => le_int k
  case Gt => exact cmp_ints R rx ry e fun i j t u Q E k => gt_int k
  case GtE => exact cmp_ints R rx ry e fun i j t u Q E k => ge_int k
  case Eq => exact yields_bool R fun Q E k => (eq_at deep A hu (rep_top R rx) (rep_top R ry) e).2.1 _ _ _ _ (k s.toks)
  case NotEq => exact bd1 e fun r h1 e => yields_bool R fun Q E k => (eq_at deep A hu (rep_top R rx) (rep_top R ry) h1).2.2 _ _ _ _ ((Option.some.inj e) ▸ k s.toks)
  case In => exact yields_bool R fun Q E k => (in_sound B hA R rx ry e).1 Q E k
  case NotIn => exact bd1 e fun r h1 e => yields_bool R fun Q E k => (in_sound B hA R rx ry h1).2 Q E ((Option.some.inj e) ▸ k)
  case Is =>
    exact bd1 e fun u h1 e => yields_bool R fun Q E k => by
      rw [asNo_inv h1] at ry; cases ry
      rcases isNo_rep rx e with ⟨rfl, rfl⟩ | ⟨⟨a, rfl⟩, rfl⟩ <;> exact wpAny_is_plain rfl (k s.toks)
  case IsNot =>
    exact bd1 e fun u h1 e => bd1 e fun r h2 e => yields_bool R fun Q E k => by
      rw [asNo_inv h1] at ry; cases ry
      rw [← Option.some.inj e] at k
      rcases isNo_rep rx h2 with ⟨rfl, rfl⟩ | ⟨⟨a, rfl⟩, rfl⟩ <;> exact wpAny_isNot_plain rfl (k s.toks)

theorem sim_cmp {F : Env'} {op : CmpOp} {x y : E} {l r : Expr} {pos : Pos} (B : Base c) (S1 : Sim c n C l (ev F x)) (S2 : Sim c n C r (ev F y)) (hm : behindInMarks op r = false) : Sim c n C (.Compare l [op] [r] pos) (ev F (.cmp op x y)) :=
  fun A Z lk s ads ρ σ env d σ' hf hA R V => bd2 hf fun d1 σ1 h1 hf => bd2 hf fun d2 σ2 h2 hf => bd1 hf fun b h3 e => Yields.cast e fun Q E k =>
    wpAny_Compare1 (S1 A Z lk s ads ρ σ env d1 σ1 h1 hA R V _ _ fun v s1 ads1 x1 R1 r1 => S2 A Z lk s1 ads1 ρ σ1 env d2 σ2 h2 hA R1 (V.ext x1) _ _ fun v2 s2 ads2 x2 R2 r2 =>
      cmp_sound B hA R2 (x2.rep r1) r2 h3 _ _ fun v3 s3 ads3 x3 R3 r3 => k v3 s3 ads3 ((x1.trans x2).trans x3) R3 r3) hm

theorem simT_cmp {F : Env'} {op : CmpOp} {x y : E} {l r : Expr} {pos : Pos} (B : Base c) (S1 : Sim c n C l (ev F x)) (S2 : Sim c n C r (ev F y)) (hm : behindInMarks op r = false) : SimT c n C (.Compare l [op] [r] pos) (ev F (.cmp op x y)) :=
  fun A Z lk s ads ρ σ env d σ' b hf ht hA R V => bd2 hf fun d1 σ1 h1 hf => bd2 hf fun d2 σ2 h2 hf => bd1 hf fun b' h3 e => by
    cases e; cases ht
    exact fun Q E k => wpAny_isTrue_Compare1 (S1 A Z lk s ads ρ σ env d1 σ1 h1 hA R V _ _ fun v s1 ads1 x1 R1 r1 => S2 A Z lk s1 ads1 ρ σ1 env d2 σ2 h2 hA R1 (V.ext x1) _ _ fun v2 s2 ads2 x2 R2 r2 =>
      cmp_sound B hA R2 (x2.rep r1) r2 h3 _ _ fun v3 s3 ads3 x3 R3 r3 => (show v3 = _ from r3) ▸ wpAny_truthy_bool (k s3 ads3 ((x1.trans x2).trans x3) R3)) hm
end

end Mine
end
section
open PySem PySem.W PyProof.Rows PySem.SeqAt
namespace Mine

noncomputable def biVal : B → Value
  | .abs => .builtin "abs"
  | .len => .builtin "len"
  | .range => .type "range"
  | .sorted => .builtin "sorted"
  | .sum => .builtin "sum"
  | .min => .builtin "min"
  | .divmod => .builtin "divmod"
  | .list => .type "list"
  | .tuple => .type "tuple"
  | .bool => .type "bool"
  | .iter => .builtin "iter"
  | .set => .type "set"

theorem ins_perm (i : Int) : ∀ l : List Int, (insSorted i l).Perm (i :: l)
  | [] => List.Perm.refl _
  | j :: r => by
    unfold insSorted
    split
    · exact List.Perm.refl _
    · exact ((ins_perm i r).cons j).trans (List.Perm.swap i j r)
theorem ins_sorted (i : Int) : ∀ l : List Int, l.Pairwise (· ≤ ·) → (insSorted i l).Pairwise (· ≤ ·)
  | [], _ => by simp [insSorted]
  | j :: r, h => by
    unfold insSorted
    obtain ⟨h1, h2⟩ := List.pairwise_cons.mp h
    split
    · rename_i hij
      refine List.pairwise_cons.mpr ⟨fun x hx => ?_, h⟩
      rcases List.mem_cons.mp hx with rfl | hx
      · exact hij
      · exact Int.le_trans hij (h1 x hx)
    · rename_i hij
      refine List.pairwise_cons.mpr ⟨fun x hx => ?_, ins_sorted i r h2⟩
      rcases List.mem_cons.mp ((ins_perm i r).mem_iff.mp hx) with rfl | hx
      · omega
      · exact h1 x hx
theorem sortI_perm : ∀ l : List Int, (sortI l).Perm l
  | [] => List.Perm.refl _
  | i :: r => (ins_perm i _).trans ((sortI_perm r).cons i)
theorem sortI_sorted : ∀ l : List Int, (sortI l).Pairwise (· ≤ ·)
  | [] => List.Pairwise.nil
  | i :: r => ins_sorted i _ (sortI_sorted r)
theorem minI_spec : ∀ (r : List Int) (i : Int), minI i r ∈ i :: r ∧ ∀ x ∈ i :: r, minI i r ≤ x
  | [], i => by simp [minI]
  | j :: r, i => by
    unfold minI
    obtain ⟨h1, h2⟩ := minI_spec r (if j < i then j else i)
    have h0 := h2 _ List.mem_cons_self
    refine ⟨?_, fun x hx => ?_⟩
    · rcases List.mem_cons.mp h1 with e | e
      · rw [e]; split <;> simp
      · simp [e]
    · rcases List.mem_cons.mp hx with rfl | hx
      · refine Int.le_trans h0 ?_
        split <;> omega
      · rcases List.mem_cons.mp hx with rfl | hx
        · refine Int.le_trans h0 ?_
          split <;> omega
        · exact h2 x (List.mem_cons_of_mem _ hx)

section
variable {c : Cst} {A : Around} {Z : List Addr} {lk : Nat → Nat} {s : Shared} {ads : Ads} {σ σ' : Store} {n : Nat} {C : SC} {W : Addr → Prop} {h : Heap} {fr : List Env}

theorem ints_are {X : Txt} : ∀ {l : List D} {vs : List Value} {is : List Int}, RepL X ads W h l vs → asInts l = some is → IntsAre vs is
  | [], _, _, e, q => by cases e; cases q; exact .nil
  | d :: ds, _, _, e, q => el23 e fun v r hv h1 h2 => int_el h1 q fun i t ht q => bd1 q fun is' h3 q => by
    subst hv; subst ht; rw [← Option.some.inj q]; exact .cons _ _ (ints_are h2 h3)
theorem repL_ints {X : Txt} : ∀ {vs : List Value} {is : List Int}, IntsAre vs is → RepL X ads W h (is.map .int) vs
  | _, _, .nil => rfl
  | _, _, .cons n t r => ⟨_, _, rfl, ⟨t, rfl⟩, repL_ints r⟩
theorem asInts_map (is : List Int) : asInts (is.map .int) = some is := by
  induction is with
  | nil => rfl
  | cons i r ih => rw [List.map_cons, asInts, ih]; rfl
theorem asInts_length : ∀ {l : List D} {is : List Int}, asInts l = some is → is.length = l.length
  | [], _, q => Option.some.inj q ▸ rfl
  | d :: ds, _, q => bd1 q fun i _ q => bd1 q fun is' h3 q => Option.some.inj q ▸ congrArg Nat.succ (asInts_length h3)

theorem one_arg {X : Txt} {d : D} {vals : List Value} (r : RepL X ads W h [d] vals) : ∃ v, vals = [v] ∧ Rep X ads W h d v := by
  refine el23 (r) fun v q qe69 h1 h2 => ?_; subst qe69; cases h2; exact ⟨v, rfl, h1⟩
theorem two_args {X : Txt} {d e : D} {vals : List Value} (r : RepL X ads W h [d, e] vals) : ∃ v u, vals = [v, u] ∧ Rep X ads W h d v ∧ Rep X ads W h e u := by
  refine el23 (r) fun v q qe70 h1 h2 => ?_; subst qe70; refine el12 (one_arg h2) fun u qe71 h3 => ?_; subst qe71; exact ⟨v, u, rfl, h1, h3⟩
theorem no_arg {X : Txt} {vals : List Value} (r : RepL X ads W h [] vals) : vals = [] := r

theorem asLT_at {d : D} {v : Value} {l : List D} (R : c.R Z lk h ads σ) (r : c.P Z ads σ h d v) (e : asLT σ d = some l) :
    ∃ a vs, v = .ref a ∧ (h.PlainList a (List.toArray vs) ∨ ∃ m, h.get? a = some { cls := .type "tuple", data := .seq (List.toArray vs) m }) ∧ c.PL Z ads σ h l vs ∧ l.length ≤ lim := by
  cases d
  case tup => exact el35 r fun a vs m h1 h2 _ h4 h5 => ⟨a, vs, h1, .inr ⟨m, h2⟩, Option.some.inj e ▸ h5, Option.some.inj e ▸ h4⟩
  case list => exact el24 (asList_at (σ := σ) R r e) fun a vs h1 h2 h3 h4 => ⟨a, vs, h1, .inl h2, h3, h4⟩
  case ref => exact el24 (asList_at (σ := σ) R r e) fun a vs h1 h2 h3 h4 => ⟨a, vs, h1, .inl h2, h3, h4⟩
  all_goals exact no_el e

theorem yields_new {t : Sem Value} {d : D} (R : c.R Z lk s.heap ads σ) (h : ∀ (Q : Value → Shared → Prop) (E : Value → Shared → Prop),
    (∀ v h' tk, (∀ b o, s.heap.get? b = some o → h'.get? b = some o) → c.P Z ads σ h' d v → Q v { s with heap := h', toks := tk }) → wpAny (model c.prog c.w) A t Q E s) :
    Yields c A t Z lk s ads σ d σ := fun Q E k => h Q E fun v h' tk hk r => k _ _ ads (Ext.more hk) (R.grow hk) r

theorem len_sound {d : D} {v : Value} {l : List D} (R : c.R Z lk s.heap ads σ) (r : c.P Z ads σ s.heap d v) (e : asLT σ d = some l) :
    Yields c A (call (.builtin "len") [v]) Z lk s ads σ (.int l.length) σ := by
  refine yields_new R fun Q E k => ?_
  refine el24 (asLT_at R r e) fun a vs qe74 hp hr hl => ?_; subst qe74
  have hlen := hr.length
  have key : ∀ t, c.P Z ads σ s.heap (.int l.length) (.int ((List.toArray vs).size : Int) t) := fun t => ⟨t, by simp [hlen]⟩
  rcases hp with hp | ⟨m, hp⟩
  · exact len_list (PlainList.isList hp) (fits_lim hl hlen) (k _ s.heap _ (fun _ _ e => e) (key _))
  · exact P.len_tuple hp (by have := fits_lim hl hlen; omega) (k _ s.heap _ (fun _ _ e => e) (key _))

theorem range_rep {h : Heap} {a b : Int} {t u x : Tok} (R : c.R Z lk h ads σ) (h1 : rngOk a b = true) :
    c.P Z ads σ (h.push { cls := .type "range", data := .fields #[.int a t, .int b u, .int 1 x] }) (.rng a b) (.ref h.objs.size) :=
  ⟨_, t, u, x, rfl, Heap.get?_push_size _ rfl, R.fresh_ww (get_size _), h1⟩

theorem sorted_sound {d : D} {v : Value} {l : List D} {is : List Int} (hA : Room A n fr) (R : c.R Z lk s.heap ads σ) (r : c.P Z ads σ s.heap d v) (e : asLT σ d = some l) (ei : asInts l = some is) (h64 : l.length < 64) :
    Yields c A (call (.builtin "sorted") [v]) Z lk s ads σ (.list ((sortI is).map .int)) σ := by
  refine yields_new R fun Q E k => ?_
  refine el24 (asLT_at R r e) fun a vs qe75 hp hr hl => ?_; subst qe75
  have hI := ints_are hr ei
  rcases hp with hp | ⟨m, hp⟩
  · refine sorted_ints (PlainList.isList hp) hI (by rw [hr.length]; exact h64) fun out ns' h1 h2 h3 => ?_
    have hs : ns' = sortI is := lks_uniq (h2.trans (sortI_perm is).symm) h3 (sortI_sorted is)
    subst hs
    obtain ⟨e', he⟩ := sortedAll_at s.heap vs out
    refine k _ _ s.toks (fun _ _ => sortedAll_old) ⟨_, out.toList, rfl, ⟨e', by simpa using he⟩, R.fresh_ww ?_, ?_, repL_ints h1⟩
    · cases q : s.heap.get? (s.heap.objs.size + 1) with
      | none => rfl
      | some o => exact absurd (Heap.lt_size q) (Nat.not_lt.mpr (Nat.le_succ _))
    · rw [List.length_map, (sortI_perm is).length_eq, asInts_length ei]; exact hl
  · refine Calls.call_function_entry kind_sorted plain_sorted entry_sorted (args_sorted1 _) ?_
    unfold Builtin.«sorted»
    refine wpAny_bind (m := checkCount "sorted" 1 1 _) (wpAny_pure ?_)
    refine wpAny_bind (wpAny_collect_seq a (.inr rfl) hp rfl rfl (fun h' hk => ?_) (size_lim hl hr.length))
    refine wpAny_bind (wpAny_newList ?_ (by have := hr.length; unfold sizeLine; simp; omega))
    have hoL : (h'.push { cls := .type "list", data := .seq vs.toArray }).get? h'.objs.size = some (seqObj "list" vs.toArray 0) := Heap.get?_push_size _ rfl
    refine wpAny_bind (wpAny_holding (wpAny_call_entry slot_list_sort ⟨_, hoL, rfl⟩ entry_list_sort (list_sort_tree hoL hI (by rw [hr.length]; exact h64) fun out ns' h1 h2 h3 => ⟨_, rfl, ?_⟩) (args_list_sort _)))
    have hs : ns' = sortI is := lks_uniq (h2.trans (sortI_perm is).symm) h3 (sortI_sorted is)
    subst hs
    obtain ⟨e', he⟩ := sortedHeap_at (out := out) hoL
    have hall : ∀ b o, s.heap.get? b = some o → (sortedHeap (h'.push { cls := .type "list", data := .seq vs.toArray }) h'.objs.size vs out).get? b = some o := fun b o q => by
      have hlt := Heap.lt_size (hk b o q)
      rw [sortedHeap_old (Nat.ne_of_lt hlt) (by rw [Heap.size_push]; exact Nat.lt_succ_of_lt hlt)]
      exact Heap.get?_push_of_some _ (hk b o q)
    refine wpAny_pure ⟨_, rfl, k _ _ s.toks hall ⟨_, out.toList, rfl, ⟨e', by simpa using he⟩, R.fresh_ww ?_, ?_, repL_ints h1⟩⟩
    · cases q : s.heap.get? h'.objs.size with
      | none => rfl
      | some o => exact absurd (Heap.lt_size (hk _ _ q)) (Nat.lt_irrefl _)
    · rw [List.length_map, (sortI_perm is).length_eq, asInts_length ei]; exact hl

theorem sum_sound {d : D} {v : Value} {l : List D} {is : List Int} (hA : Room A n fr) (R : c.R Z lk s.heap ads σ) (r : c.P Z ads σ s.heap d v) (e : asList σ d = some l) (ei : asInts l = some is) :
    Yields c A (call (.builtin "sum") [v]) Z lk s ads σ (.int is.sum) σ := by
  refine yields_new R fun Q E k => ?_
  refine el24 (asList_at R r e) fun a vs qe76 hp hr hl => ?_; subst qe76
  have hI := ints_are hr ei
  obtain ⟨xs, hx⟩ := hI.allInts.items
  have hns : is = xs.toList.map (·.1) := by rw [← hI.numsOf, ← nums_intItems, ← hx]
  have hp' := PlainList.isList hp
  rw [hx] at hp'
  refine sum_intListG hA.handled hp' fun h' tk t' hk => k _ h' tk hk ⟨t', ?_⟩
  rw [preSum_eq, List.take_of_length_le (by simp), hns]

theorem min_sound {d : D} {v : Value} {l : List D} {i : Int} {is : List Int} (hA : Room A n fr) (R : c.R Z lk s.heap ads σ) (r : c.P Z ads σ s.heap d v) (e : asList σ d = some l) (ei : asInts l = some (i :: is)) :
    Yields c A (call (.builtin "min") [v]) Z lk s ads σ (.int (minI i is)) σ := by
  refine yields_new R fun Q E k => ?_
  refine el24 (asList_at R r e) fun a vs qe77 hp hr hl => ?_; subst qe77
  have hI := ints_are hr ei
  obtain ⟨xs, hx⟩ := hI.allInts.items
  have hns : i :: is = xs.toList.map (·.1) := by rw [← hI.numsOf, ← nums_intItems, ← hx]
  have hp' := PlainList.isList hp
  rw [hx] at hp'
  have hsz : 0 < xs.size := by
    have : (i :: is).length = xs.size := by rw [hns]; simp
    rw [← this]; simp
  refine min_intList hA.handled hp' hsz fun v h' tk hv hk => ?_
  obtain ⟨t, rfl⟩ := intItems_at hv
  obtain ⟨h1, h2⟩ := argBest_lt (numAt xs) (xs.size - 1)
  refine k _ h' tk hk ⟨t, ?_⟩
  congr 1
  obtain ⟨m1, m2⟩ := minI_spec is i
  apply Int.le_antisymm
  · rw [hns] at m1
    refine el12 (mem_getD m1) fun j hj e => ?_
    rw [List.length_map, Array.length_toList] at hj
    rw [← e, ← numAt_eq]; exact h2 j (by omega)
  · refine m2 _ ?_
    rw [hns, numAt_eq]; exact PySem.getD_mem (by rw [List.length_map, Array.length_toList]; omega)

theorem store_list {l : List D} {vs : List Value} {h' : Heap} {e : Nat} (R : c.R Z lk h ads σ) (hr : c.PL Z ads σ h l vs) (hl : l.length ≤ lim) (hk : ∀ b o, h.get? b = some o → h'.get? b = some o)
    (hn : h'.get? h.objs.size = some { cls := .type "list", data := .seq (List.toArray vs) e }) :
    c.R Z lk h' (ads ++ [(h.objs.size, h.objs.size)]) (σ ++ [.list l]) := by
  refine R.add hk (get_size _) (get_size _) ⟨_, hn⟩ ⟨_, hn⟩ ⟨vs, ⟨e, hn⟩, ?_, hl, rfl⟩
  exact RepL.mono (Sub.append _ _) (fun a o _ _ e => hk a o e) (fun a o e x => x.imp id fun x => ((R.owned_add (o := .list l) (p := (h.objs.size, h.objs.size)) (get_size _) (get_size _)) a x).elim id fun z => by rw [e] at z; cases z) _ _ hr
theorem ext_add {h' : Heap} {tk : Nat} {p : Addr × Addr} {o : O} (R : c.R Z lk s.heap ads σ) (h1 : s.heap.get? p.1 = none) (h2 : s.heap.get? p.2 = none) (hk : ∀ b o, s.heap.get? b = some o → h'.get? b = some o) :
    Ext Z ads σ s (ads ++ [p]) (σ ++ [o]) { s with heap := h', toks := tk } := ⟨⟨_, rfl⟩, fun b o _ e => SO.of (hk b o e), R.owned_add h1 h2, fun b ⟨o, e⟩ => ⟨o, hk b o e⟩, ⟨_, _, rfl⟩⟩
theorem rep_last {h : Heap} {p : Addr × Addr} {W : Addr → Prop} {X : Txt} (hl : ads.length = σ.length) : Rep X (ads ++ [p]) W h (.ref σ.length) (.ref p.1) := ⟨p, by rw [← hl]; simp, rfl⟩

theorem meets_bool_new_list (l : Addr) (items : Array Value) (hfit : (items.size : Int) < 2 ^ 63) :
    Meets (Builtin.«bool.__new__» ⟨[.type "bool", .ref l], []⟩) (fun _ R s => s.heap.IsList l items ∧ R (.ok (.ret (.bool (!items.isEmpty)))) { s with toks := s.toks + 1 + 1 }) :=
  Meets.of_wp fun prog w A R s hs => by
    obtain ⟨hp, g, d, tk, os⟩ := s
    obtain ⟨hl, hs⟩ := hs
    have f1 := F.conv_sub_bool
    repeat (any_goals (first | assumption | (with_reducible refine wpAny_truthy_list hl hfit ?_) | wp_step))
    all_goals first | exact ⟨_, rfl, hs⟩ | exact hs | skip
theorem call_bool_list {prog : Program} {w : World} {E : Value → Shared → Prop} {l : Addr} {items : Array Value} {Q : Value → Shared → Prop} (hl : s.heap.IsList l items) (hfit : (items.size : Int) < 2 ^ 63) (h : Q (.bool (!items.isEmpty)) { s with toks := s.toks + 1 + 1 }) :
    wpAny (model prog w) A (call (.type "bool") [.ref l]) Q E s :=
  call_bool_1 (meets_bool_new_list l items hfit) (show _ ∧ wants (fun obj s₁ => s₁.TypeIs obj "bool" ∧ Q obj s₁) E _ _ from ⟨hl, rfl, h⟩)
theorem range_size (a b : Int) : Builtin.Range.rangeSize a b 1 = ((b - a).toNat : Int) := by
  unfold Builtin.Range.rangeSize
  rw [if_pos (by decide), Int.ediv_one]
  split <;> omega
theorem range_small {a b : Int} (h1 : rngOk a b = true) : Builtin.Range.small a b 1 = true := by
  simp only [rngOk, Bool.and_eq_true, decide_eq_true_eq] at h1
  simp only [Builtin.Range.small, range_size, Builtin.Range.rangeFitsLong, Bool.and_eq_true, decide_eq_true_eq]
  refine ⟨⟨⟨?_, ?_⟩, ?_⟩, ?_⟩ <;> try omega
  rw [if_pos (by decide), Bool.or_eq_true]
  right
  simp only [Bool.and_eq_true, decide_eq_true_eq]
  omega

theorem arg0_el {X : Txt} {α : Type} {args : List D} {vals : List Value} {f : Option α} {x : α} {H : Prop} (r : RepL X ads W h args vals) (e : arg0 args f = some x) (k : vals = [] → f = some x → H) : H := by
  cases args
  case nil => exact k r e
  case cons => exact no_el e
theorem arg1_el {X : Txt} {α : Type} {args : List D} {vals : List Value} {f : D → Option α} {x : α} {H : Prop} (r : RepL X ads W h args vals) (e : arg1 args f = some x) (k : ∀ d v, vals = [v] → Rep X ads W h d v → f d = some x → H) : H := by
  cases args with
  | nil => exact no_el e
  | cons d r' =>
    cases r' with
    | nil => exact el12 (one_arg r) fun v hv rv => k d v hv rv e
    | cons => exact no_el e
theorem arg2_el {X : Txt} {α : Type} {args : List D} {vals : List Value} {f : D → D → Option α} {x : α} {H : Prop} (r : RepL X ads W h args vals) (e : arg2 args f = some x) (k : ∀ d d' v v', vals = [v, v'] → Rep X ads W h d v → Rep X ads W h d' v' → f d d' = some x → H) : H := by
  cases args with
  | nil => exact no_el e
  | cons d r' =>
    cases r' with
    | nil => exact no_el e
    | cons d' r'' =>
      cases r'' with
      | nil => exact el23 (two_args r) fun v v' hv rv rv' => k d d' v v' hv rv rv' e
      | cons => exact no_el e

section
variable {args : List D} {vals : List Value} {d : D}
theorem call1 {fv : Value} {f : D → Option (D × Store)} (r : c.PL Z ads σ s.heap args vals) (e : arg1 args f = some (d, σ')) (k : ∀ x v, c.P Z ads σ s.heap x v → f x = some (d, σ') → Yields c A (call fv [v]) Z lk s ads σ d σ') :
    Yields c A (call fv vals) Z lk s ads σ d σ' := arg1_el r e fun x v hv rv e => by subst hv; exact k x v rv e
theorem callL {fv : Value} {f : List D → Option (D × Store)} (R : c.R Z lk s.heap ads σ) (r : c.PL Z ads σ s.heap args vals) (e : (arg1 args fun x => (asList σ x).bind f) = some (d, σ'))
    (k : ∀ l a vs, s.heap.PlainList a (List.toArray vs) → c.PL Z ads σ s.heap l vs → l.length ≤ lim → f l = some (d, σ') → Yields c A (call fv [.ref a]) Z lk s ads σ d σ') : Yields c A (call fv vals) Z lk s ads σ d σ' :=
  call1 r e fun x v rv e => bd1 e fun l hl e => el24 (asList_at R rv hl) fun a vs hv hp hr hlim => by subst hv; exact k l a vs hp hr hlim e

theorem rng_el {X : Txt} {a b : Int} {H : Prop} (r : RepL X ads W h args vals) (e : rngArgs args = some (a, b)) (k1 : ∀ t, vals = [.int b t] → a = 0 → H) (k2 : ∀ t u, vals = [.int a t, .int b u] → H) : H := by
  cases args with
  | nil => exact no_el e
  | cons x q =>
    refine el23 r fun v vs hv rv hr => int_el rv e fun i t ht e => ?_
    subst hv; subst ht
    cases q with
    | nil => exact sm2 e fun e1 e2 => k1 t (by rw [e2, show vs = [] from hr]) e1.symm
    | cons y q =>
      refine el23 hr fun v' vs' hv rv' hr2 => int_el rv' e fun j u hu e => ?_
      subst hv; subst hu
      cases q with
      | nil => exact sm2 e fun e1 e2 => k2 t u (by rw [e1, e2, show vs' = [] from hr2])
      | cons => exact no_el e
theorem range_sound (R : c.R Z lk s.heap ads σ) (r : c.PL Z ads σ s.heap args vals) (e : ((rngArgs args).bind fun p => if rngOk p.1 p.2 = true then some (.rng p.1 p.2, σ) else .none) = some (d, σ')) : Yields c A (call (.type "range") vals) Z lk s ads σ d σ' :=
  bd2 e fun a b ha e => if_el e fun hb e => Yields.cast e (yields_new R fun Q E k => rng_el r ha
    (fun t hv h0 => by subst hv; subst h0; exact call_range_1 (k _ _ _ (fun _ _ e => Heap.get?_push_of_some _ e) (range_rep R hb)))
    (fun t u hv => by subst hv; exact call_range_2 (k _ _ _ (fun _ _ e => Heap.get?_push_of_some _ e) (range_rep R hb))))
theorem list_rng {a b : Int} {v : Value} (hA : Room A n fr) (R : c.R Z lk s.heap ads σ) (r : c.P Z ads σ s.heap (.rng a b) v) : Yields c A (call (.type "list") [v]) Z lk s ads σ (.ref σ.length) (σ ++ [.list (rngL a b)]) := by
  obtain ⟨r0, t, u, x, rfl, hg, _, h1⟩ := r
  intro Q E k
  have h2 := h1
  simp only [rngOk, Bool.and_eq_true, decide_eq_true_eq] at h2
  refine call_list_range hA.handled hg (range_small h1) (range_size a b) (by omega) fun h' tk acc' c' hk hn hit => ?_
  have hlen : (rngL a b).length = (b - a).toNat := by simp [rngL]
  have hr : ∀ ads W, RepL c.X ads W h' (rngL a b) acc'.toList := fun ads W => by
    refine RepL.of_get (by rw [Array.length_toList, hit.1, hlen]) fun i d v hd hv => ?_
    have hi : i < (b - a).toNat := by have := (List.getElem?_eq_some_iff.mp hv).1; rw [Array.length_toList, hit.1] at this; exact this
    rw [rngL, List.getElem?_map, List.getElem?_range hi] at hd
    obtain ⟨t, rfl⟩ := hit.2 i v (by simpa using hv)
    rw [← Option.some.inj hd]
    exact ⟨t, by simp⟩
  have hn' : h'.get? s.heap.objs.size = some { cls := .type "list", data := .seq (List.toArray acc'.toList) c' } := by simpa using hn
  exact k _ _ _ (ext_add R (get_size _) (get_size _) hk) (R.add hk (get_size _) (get_size _) ⟨_, hn'⟩ ⟨_, hn'⟩ ⟨_, ⟨c', hn'⟩, hr _ _, by rw [hlen]; unfold lim; omega, rfl⟩) (rep_last (p := (s.heap.objs.size, s.heap.objs.size)) R.len)
theorem list_lt {x : D} {v : Value} {l : List D} (R : c.R Z lk s.heap ads σ) (r : c.P Z ads σ s.heap x v) (e : asLT σ x = some l) : Yields c A (call (.type "list") [v]) Z lk s ads σ (.ref σ.length) (σ ++ [.list l]) :=
  el24 (asLT_at R r e) fun a vs ha hp hr hlim Q E k => by
    subst ha
    rcases hp with ⟨m, hp⟩ | ⟨m, hp⟩
    · exact call_list_seq a (.inl rfl) hp rfl rfl (fun h' c' hk hn => k _ _ _ (ext_add R (get_size _) (get_size _) hk) (store_list R hr hlim hk hn) (rep_last (p := (s.heap.objs.size, s.heap.objs.size)) R.len)) (size_lim hlim hr.length)
    · exact call_list_seq a (.inr rfl) hp rfl rfl (fun h' c' hk hn => k _ _ _ (ext_add R (get_size _) (get_size _) hk) (store_list R hr hlim hk hn) (rep_last (p := (s.heap.objs.size, s.heap.objs.size)) R.len)) (size_lim hlim hr.length)
theorem list_sound {x : D} {v : Value} {l : List D} (hA : Room A n fr) (R : c.R Z lk s.heap ads σ) (r : c.P Z ads σ s.heap x v) (e : asSeq σ x = some l) : Yields c A (call (.type "list") [v]) Z lk s ads σ (.ref σ.length) (σ ++ [.list l]) := by
  cases x
  case rng => exact Option.some.inj e ▸ list_rng hA R r
  case tup => exact list_lt (σ := σ) R r e
  case list => exact list_lt (σ := σ) R r e
  case ref => exact list_lt (σ := σ) R r e
  all_goals exact no_el e
theorem iter_sound {x : D} {v : Value} (R : c.R Z lk s.heap ads σ) (r : c.P Z ads σ s.heap x v) (e : ((asRef x).bind fun k => ((σ[k]?).bind oList).bind fun _ => some (D.ref σ.length, σ ++ [.iter k 0])) = some (d, σ')) : Yields c A (call (.builtin "iter") [v]) Z lk s ads σ d σ' :=
  bd1 e fun j hj e => bd1 e fun l hl e => bd1 hl fun o ho hl => Yields.cast e fun Q E k => by
    rw [asRef_inv hj] at r
    rw [oList_inv hl] at ho
    refine el12 r fun p hp hv => el14 (R.objs _ _ _ hp ho) fun vs hpl hr hlim hpp => ?_
    subst hv
    refine Calls.call_function_entry (by decide +kernel) (by decide +kernel) kdk_entry_iter (kdk_args_iter _) ?_
    unfold Builtin.«iter»
    refine wpAny_bind (m := someArgs "iter" 1 2 _) (wpAny_of_eq (a := [Value.ref p.1]) (by first | rfl | kernel_rfl!) ?_)
    show wpAny _ _ (pyIter (.ref p.1) >>= _) _ _ _
    refine wpAny_bind (wpAny_pyIter_list (PlainList.isList hpl) ?_)
    refine wpAny_pure ⟨_, rfl, ?_⟩
    have hk : ∀ b o, s.heap.get? b = some o → (s.heap.push { cls := .type "list_iterator", data := .fields #[.ref p.1, .int 0 0] }).get? b = some o := fun b o e => Heap.get?_push_of_some _ e
    refine k _ _ (ads ++ [(s.heap.objs.size, s.heap.objs.size)]) (ext_add (tk := s.toks) R (get_size _) (get_size _) hk) ?_ (rep_last (p := (s.heap.objs.size, s.heap.objs.size)) R.len)
    exact R.add hk (get_size _) (get_size _) (has_push _) (has_push _) ⟨p, Sub.append _ _ _ _ hp, ⟨_, Heap.get?_push_size _ rfl, rfl, rfl⟩, rfl, fun _ => ⟨_, Heap.get?_push_size _ rfl, rfl⟩⟩
theorem set_sound (R : c.R Z lk s.heap ads σ) : Yields c A (call (.type "set") []) Z lk s ads σ (.ref σ.length) (σ ++ [.set []]) := by
  intro Q E k
  refine call_set_0 fun led => ?_
  have hk : ∀ b o, s.heap.get? b = some o → (s.heap.push { cls := .type "set", dict := none, data := .set #[] 0 (.fresh 0 0 led) }).get? b = some o := fun b o e => Heap.get?_push_of_some _ e
  refine k _ _ (ads ++ [(s.heap.objs.size, s.heap.objs.size)]) (ext_add (tk := s.toks) R (get_size _) (get_size _) hk) ?_ (rep_last (p := (s.heap.objs.size, s.heap.objs.size)) R.len)
  refine R.add hk (get_size _) (get_size _) (has_push _) (has_push _) ⟨?_, rfl⟩
  exact ⟨_, #[], 0, _, Heap.get?_push_size _ rfl, ⟨rfl, rfl, rfl⟩, rfl, fun e he => by simp at he, fun k => by simp, by decide, by rfl, rfl⟩
theorem divmod_sound (R : c.R Z lk s.heap ads σ) (r : c.PL Z ads σ s.heap args vals) (e : bltin .divmod σ args = some (d, σ')) : Yields c A (call (.builtin "divmod") vals) Z lk s ads σ d σ' :=
  arg2_el r e fun x y v v' hv rv rv' e => int2_el rv rv' e fun i j t u h1 h2 e => if_el e fun hb e => by
    subst hv; subst h1; subst h2
    exact Yields.cast e (yields_new R fun Q E k => divmod_int hb.1 (k _ _ _ (fun _ _ e => Heap.get?_push_of_some _ e) (newTuple_rep (vs := [.int _ _, .int _ _]) R ⟨_, _, rfl, ⟨_, rfl⟩, _, _, rfl, ⟨_, rfl⟩, rfl⟩ (by simp [lim]))) (.inl (small_pylong hb.2)))
theorem minL_inv {is : List Int} {i : Int} (e : minL is = some i) : ∃ j r, is = j :: r ∧ i = minI j r := by
  cases is
  case nil => exact no_el e
  case cons => exact ⟨_, _, rfl, (Option.some.inj e).symm⟩
end

theorem bltin_sound {b : B} {args : List D} {vals : List Value} {d : D} (B0 : Base c) (hA : Room A n fr) (R : c.R Z lk s.heap ads σ) (r : c.PL Z ads σ s.heap args vals) (e : bltin b σ args = some (d, σ')) :
    Yields c A (call (biVal b) vals) Z lk s ads σ d σ' := by
  cases b
  case abs => exact call1 r e fun x v rv e => int_el rv e fun i t ht e => Yields.cast e (yields_new R fun Q E k => ht ▸ call_abs_int fun u tk => k _ s.heap tk (fun _ _ e => e) ⟨u, rfl⟩)
  case len => exact call1 r e fun x v rv e => bd1 e fun l hl e => Yields.cast e (len_sound R rv hl)
  case range => exact range_sound R r e
  case sorted => exact call1 r e fun x v rv e => bd1 e fun l hl e => bd1 e fun is hi e => if_el e fun h64 e => Yields.cast e (sorted_sound hA R rv hl hi h64)
  case sum => exact call1 r e fun x v rv e => bd1 e fun l hl e => bd1 e fun is hi e => Yields.cast e (sum_sound hA R rv hl hi)
  case min => exact call1 r e fun x v rv e => bd1 e fun l hl e => bd1 e fun is hi e => bd1 e fun i hm e => el22 (minL_inv hm) fun j q h1 h2 => Yields.cast e (h2 ▸ min_sound hA R rv hl (h1 ▸ hi))
  case divmod => exact divmod_sound R r e
  case list => exact call1 r e fun x v rv e => bd1 e fun l hl e => Yields.cast e (list_sound hA R rv hl)
  case tuple => exact callL R r e fun l a vs hp hr hlim e => Yields.cast e (yields_new R fun Q E k => call_tuple_list (PlainList.isList hp) (fun h' hk => k _ _ _ (fun b o e => Heap.get?_push_of_some _ (hk b o e)) (newTuple_rep (R.grow hk) (RepL.mono (Sub.refl _) (fun a o _ _ e => hk a o e) (fun _ _ _ x => x) _ _ hr) hlim)) (size_lim hlim hr.length))
  case bool => exact callL R r e fun l a vs hp hr hlim e => Yields.cast e (yields_new R fun Q E k => call_bool_list (PlainList.isList hp) (fits_lim hlim hr.length) (k _ s.heap _ (fun _ _ e => e) (congrArg Value.bool (empty_eq hr))))
  case iter => exact call1 r e fun x v rv e => iter_sound R rv e
  case set => exact arg0_el r e fun hv e => Yields.cast e (hv ▸ set_sound R)
end

end Mine
end
section
open PySem PySem.W PyProof.Rows PySem.SeqAt PySem.MeetsSeq
namespace Mine

noncomputable def bmName : BM → Str
  | .append => "append" | .extend => "extend" | .index => "index" | .count => "count" | .pop => "pop" | .clear => "clear" | .get => "get" | .add => "add"
noncomputable def bmType : BM → String
  | .get => "dict"
  | .add => "set"
  | _ => "list"
noncomputable def bmId : BM → String
  | .append => "list.append" | .extend => "list.extend" | .index => "list.index" | .count => "list.count" | .pop => "list.pop" | .clear => "list.clear" | .get => "dict.get" | .add => "set.add"
theorem bm_slot : ∀ m : BM, Slot (bmType m) (bmName m) (bmId m)
  | .append => F.slot_list_append
  | .extend => F.slot_list_extend
  | .index => F.slot_list_index
  | .count => F.slot_list_count
  | .pop => F.slot_list_pop
  | .clear => F.slot_list_clear
  | .get => F.slot_dict_get
  | .add => F.slot_set_add
theorem bm_plain : ∀ m : BM, PlainAttrs (bmType m)
  | .append | .extend | .index | .count | .pop | .clear => F.plainAttrs_list
  | .get => F.plainAttrs_dict
  | .add => F.plainAttrs_set
theorem bm_typeOf : ∀ m : BM, typeOf (.builtin (bmId m)) = pure (.type "method_descriptor")
  | .append => F.type_list_append
  | .extend => F.type_list_extend
  | .index => F.type_list_index
  | .count => F.type_list_count
  | .pop => F.type_list_pop
  | .clear => F.type_list_clear
  | .get => F.type_dict_get
  | .add => F.type_set_add

section
variable {c : Cst} {A : Around} {Z : List Addr} {lk : Nat → Nat} {s : Shared} {ads : Ads} {σ σ' : Store} {n : Nat} {C : SC} {W : Addr → Prop} {h : Heap} {fr : List Env}

theorem put_list {k : Nat} {p : Addr × Addr} {l l' : List D} {vs' : List Value} {h' : Heap} {tk : Nat} {e : Nat} (R : c.R Z lk s.heap ads σ) (hp : ads[k]? = some p) (ho : σ[k]? = some (.list l))
    (hs : Heap.SameBut p.1 s.heap h') (hn : h'.get? p.1 = some { cls := .type "list", data := .seq (List.toArray vs') e }) (hr : c.PL Z ads σ s.heap l' vs') (hl : l'.length ≤ lim) :
    Ext Z ads σ s ads (σ.set k (.list l')) { s with heap := h', toks := tk } ∧ c.R Z lk h' ads (σ.set k (.list l')) := by
  have hown := Rel.owned_set (o' := .list l') hp ho rfl
  have hpp : p.2 = p.1 := (R.objs k p _ hp ho).choose_spec.2.2.2
  have hk : ∀ b x, b ≠ p.1 → s.heap.get? b = some x → h'.get? b = some x := fun b x hb e => (hs.2 b hb).trans e
  have hmine : ∀ b, b = p.1 → Owned ads σ b := fun b hb => ⟨k, p, _, hp, ho, rfl, .inl hb⟩
  refine ⟨⟨⟨[], by simp⟩, fun b o hb e => SO.of (hk b o (fun q => hb (hmine b q)) e), fun b e => .inl (hown b e), fun b ⟨o, e⟩ => (Classical.em (b = p.1)).elim (fun q => q ▸ ⟨_, hn⟩) (fun q => ⟨o, hk b o q e⟩), ⟨_, _, rfl⟩⟩, ?_⟩
  refine R.put hp ho rfl (fun b x h1 _ e => hk b x h1 e) ⟨⟨_, hn⟩, hpp ▸ ⟨_, hn⟩⟩ ⟨vs', ⟨e, hn⟩, ?_, hl, hpp⟩
  exact RepL.mono (Sub.refl _) (fun a o hw _ e => hk a o (fun q => hw (.inr (hmine a q))) e) (fun a _ _ x => x.imp id (hown a)) _ _ hr

theorem RepL.take {X : Txt} : ∀ (m : Nat) {l : List D} {vs : List Value}, RepL X ads W h l vs → RepL X ads W h (l.take m) (vs.take m)
  | 0, _, _, _ => rfl
  | m + 1, [], _, e => by cases e; rfl
  | m + 1, d :: ds, _, e => el23 e fun v r hv h1 h2 => by subst hv; exact ⟨v, _, rfl, h1, RepL.take m h2⟩
theorem RepL.drop {X : Txt} : ∀ (m : Nat) {l : List D} {vs : List Value}, RepL X ads W h l vs → RepL X ads W h (l.drop m) (vs.drop m)
  | 0, _, _, e => e
  | m + 1, [], _, e => by cases e; rfl
  | m + 1, d :: ds, _, e => el23 e fun v r hv h1 h2 => by subst hv; exact RepL.drop m h2
theorem RepL.eraseIdx {X : Txt} (i : Nat) {l : List D} {vs : List Value} (r : RepL X ads W h l vs) : RepL X ads W h (l.eraseIdx i) (vs.eraseIdx i) := by
  rw [List.eraseIdx_eq_take_drop_succ, List.eraseIdx_eq_take_drop_succ]
  exact (r.take i).append (r.drop (i + 1))
theorem RepL.set {X : Txt} (i : Nat) {l : List D} {vs : List Value} {d : D} {v : Value} (r : RepL X ads W h l vs) (q : Rep X ads W h d v) : RepL X ads W h (l.set i d) (vs.set i v) := by
  refine RepL.of_get (by simp [r.length]) fun j x y hx hy => ?_
  by_cases hj : i = j
  · subst hj
    have h1 : i < l.length := by simpa using (List.getElem?_eq_some_iff.mp hx).1
    have h2 : i < vs.length := by simpa using (List.getElem?_eq_some_iff.mp hy).1
    rw [List.getElem?_set_self h1] at hx; rw [List.getElem?_set_self h2] at hy
    cases hx; cases hy; exact q
  · rw [List.getElem?_set_ne hj] at hx hy
    exact r.rep hx hy

theorem oDict'_inv {o : O} {l : List (Int × D)} (e : oDict' o = some l) : o = .dict l ∨ o = .ldict l := by
  cases o <;> first | exact no_el e | exact .inl (congrArg O.dict (Option.some.inj e)) | exact .inr (congrArg O.ldict (Option.some.inj e))
theorem asDict_at {o : D} {v : Value} {es : List (Int × D)} (R : c.R Z lk h ads σ) (r : c.P Z ads σ h o v) (e : asDict σ o = some es) :
    ∃ (p : Addr × Addr) (kvs : List (Int × Value)) (k : Nat), ads[k]? = some p ∧ v = .ref p.1 ∧ h.DictOf (intKind c.prog c.w) p.1 kvs ∧ PairsL c.X ads (WW Z ads σ) h es kvs := by
  cases o
  case ref =>
    exact el12 r fun p hp hv => bd1 e fun o ho e => by
      have q := R.objs _ _ _ hp ho
      rcases oDict'_inv e with rfl | rfl
      · exact el14 q fun kvs a b _ _ => ⟨p, kvs, _, hp, hv, a, b⟩
      · exact el14 q fun kvs a b _ _ => ⟨p, kvs, _, hp, hv, let ⟨o, es, h1, h2, h3, r⟩ := a; ⟨o, es, _, h1, h2, h3, r⟩, b⟩
  all_goals exact no_el e

section
variable {o : D} {args : List D} {ov : Value} {vals : List Value} {d : D}
theorem onL {fv : Value} {f : List D → Option (D × List D)} (R : c.R Z lk s.heap ads σ) (ro : c.P Z ads σ s.heap o ov) (e : onList σ o f = some (d, σ'))
    (H : ∀ l l' a vs m, s.heap.get? a = some { cls := .type "list", data := .seq (List.toArray vs) m } → c.PL Z ads σ s.heap l vs → l.length ≤ lim → f l = some (d, l') → ∀ (Q : Value → Shared → Prop) (E : Value → Shared → Prop),
      (∀ v vs' h' tk e, Heap.SameBut a s.heap h' → h'.get? a = some { cls := .type "list", data := .seq (List.toArray vs') e } → c.PL Z ads σ s.heap l' vs' → l'.length ≤ lim → c.P Z ads σ s.heap d v → Q v { s with heap := h', toks := tk }) →
      wpAny (model c.prog c.w) A (call fv (.ref a :: vals)) Q E s) : Yields c A (call fv (ov :: vals)) Z lk s ads σ d σ' :=
  bd1 e fun j hj e => bd1 e fun l hl e => bd1 hl fun x ho hl => bd2 e fun d' l' hf e => sm2 e fun e1 e2 Q E k => by
    subst e1; subst e2
    rw [asRef_inv hj] at ro
    rw [oList_inv hl] at ho
    refine el12 ro fun p hp hv => el14 (R.objs _ _ _ hp ho) fun vs hg hr hlim _ => Exists.elim hg fun m hg => ?_
    subst hv
    refine H l l' p.1 vs m hg hr hlim hf Q E fun v vs' h' tk e hs hn hr' hl' rv => ?_
    exact (put_list (tk := tk) R hp ho hs hn hr' hl').elim fun x R' => k _ _ ads x R' (x.rep rv)
theorem meth1 {fv : Value} {f : D → Option (D × Store)} (r : c.PL Z ads σ s.heap args vals) (e : arg1 args f = some (d, σ')) (k : ∀ x v, c.P Z ads σ s.heap x v → f x = some (d, σ') → Yields c A (call fv [ov, v]) Z lk s ads σ d σ') :
    Yields c A (call fv (ov :: vals)) Z lk s ads σ d σ' := arg1_el r e fun x v hv rv e => by subst hv; exact k x v rv e

theorem append_sound (R : c.R Z lk s.heap ads σ) (ro : c.P Z ads σ s.heap o ov) (ra : c.PL Z ads σ s.heap args vals) (e : bmeth .append σ o args = some (d, σ')) : Yields c A (call (.builtin "list.append") (ov :: vals)) Z lk s ads σ d σ' :=
  meth1 ra e fun x v rv e => onL R ro e fun l l' a vs m hg hr hlim hf Q E k => if_el hf fun hl hf => sm2 hf fun e1 e2 =>
    call_meets F.slot_list_append ⟨_, hg, rfl⟩ F.entry_list_append (F.args_list_append_2 _ _) (list_append a vs.toArray m v (size_lim hlim hr.length)) ⟨hg,
      k .none (vs ++ [v]) _ s.toks _ (Heap.SameBut.update _ _ _) (by simpa [Obj.mapSeq] using Heap.get?_update_self (Obj.mapSeq fun x => x.push v) hg rfl) (e2 ▸ hr.append (RepL.one rv)) (by rw [← e2, List.length_append]; exact hl) (e1 ▸ rfl)⟩
theorem extend_sound (R : c.R Z lk s.heap ads σ) (ro : c.P Z ads σ s.heap o ov) (ra : c.PL Z ads σ s.heap args vals) (e : bmeth .extend σ o args = some (d, σ')) : Yields c A (call (.builtin "list.extend") (ov :: vals)) Z lk s ads σ d σ' :=
  meth1 ra e fun x v rv e => bd1 e fun lx hx e => onL R ro e fun l l' a vs m hg hr hlim hf Q E k => if_el hf fun hl hf => sm2 hf fun e1 e2 => by
    have key : ∀ ws, c.PL Z ads σ s.heap lx ws → Q .none { s with heap := s.heap.update a (Obj.mapSeq fun x => x ++ List.toArray ws), toks := s.toks } := fun ws hrb =>
      k .none (vs ++ ws) _ s.toks _ (Heap.SameBut.update _ _ _) (by simpa [Obj.mapSeq] using Heap.get?_update_self (Obj.mapSeq fun x => x ++ ws.toArray) hg rfl) (e2 ▸ hr.append hrb) (by rw [← e2, List.length_append]; exact hl) (e1 ▸ rfl)
    have big : ∀ ws, c.PL Z ads σ s.heap lx ws → vs.length + ws.length ≤ sizeLine := fun ws hrb => by rw [hr.length, hrb.length]; unfold lim at hl; unfold sizeLine; omega
    cases x
    case list =>
      exact el25 rv fun b ws hb hpb _ _ hrb => Exists.elim hpb fun mb hgb => by
        subst hb
        cases hx
        have := big ws hrb
        exact call_meets F.slot_list_extend ⟨_, hg, rfl⟩ F.entry_list_extend (F.args_list_extend_2 _ _)
            (AutoSeq1.list_extend_list_list_0 a vs.toArray m b ws.toArray mb (by unfold sizeLine at this; simp [Builtin.List.listTooLong, sizeLine]; omega) (size_lim hlim hr.length) (by simp; omega)) ⟨hg, hgb, key ws hrb⟩
    case tup =>
      exact el35 rv fun b ws mb hb hgb _ _ hrb => by
        subst hb
        cases hx
        have := big ws hrb
        exact call_meets F.slot_list_extend ⟨_, hg, rfl⟩ F.entry_list_extend (F.args_list_extend_2 _ _)
            (AutoSeq1.list_extend_list_tuple_0 a vs.toArray m b ws.toArray mb (by unfold sizeLine at this; simp [Builtin.List.listTooLong, sizeLine]; omega) (size_lim hlim hr.length) (by simp; omega)) ⟨hg, hgb, key ws hrb⟩
    all_goals exact no_el hx
theorem index_sound (hA : A.units + 1000 ≤ 9900) (R : c.R Z lk s.heap ads σ) (ro : c.P Z ads σ s.heap o ov) (ra : c.PL Z ads σ s.heap args vals) (e : bmeth .index σ o args = some (d, σ')) : Yields c A (call (.builtin "list.index") (ov :: vals)) Z lk s ads σ d σ' :=
  meth1 ra e fun x v rv e => bd1 e fun l hl e => bd1 e fun j hj e => Yields.cast e fun Q E k => bd1 hj fun bs hbs hf => el24 (asList_at R ro hl) fun a vs hv hg hr hlim => Exists.elim hg fun m hg =>
    el12 (eqs_fun (A := A.in1) (by rw [Around.in1_units]; unfold cLine deep; omega) hr rv hbs) fun f hfe hm => by
      subst hv
      rw [← hm] at hf
      obtain ⟨hjl, hj1, hj2⟩ := List.findIdx?_eq_some_iff_getElem.mp hf
      exact call_meets F.slot_list_index ⟨_, hg, rfl⟩ F.entry_list_index (F.args_list_index_2 _ _)
        (list_indexAt a vs.toArray m none #[] v f j (by simpa using hjl) (by have := hr.length; unfold lim at hlim; rw [List.length_map] at hjl; omega) (by simpa using hj1) (fun i hi hlt => by simpa using hj2 i hlt)) ⟨hg, fun y hy => hfe y (List.mem_toArray.mp hy), k _ _ ads (Ext.tok _) R ⟨_, rfl⟩⟩
theorem count_sound (hA : A.units + 1000 ≤ 9900) (R : c.R Z lk s.heap ads σ) (ro : c.P Z ads σ s.heap o ov) (ra : c.PL Z ads σ s.heap args vals) (e : bmeth .count σ o args = some (d, σ')) : Yields c A (call (.builtin "list.count") (ov :: vals)) Z lk s ads σ d σ' :=
  meth1 ra e fun x v rv e => bd1 e fun l hl e => bd1 e fun j hj e => Yields.cast e fun Q E k => bd1 hj fun bs hbs hf => el24 (asList_at R ro hl) fun a vs hv hg hr hlim => Exists.elim hg fun m hg =>
    el12 (eqs_fun (A := A.in1) (by rw [Around.in1_units]; unfold cLine deep; omega) hr rv hbs) fun f hfe hm => by
      subst hv
      refine call_meets F.slot_list_count ⟨_, hg, rfl⟩ F.entry_list_count (F.args_list_count_2 _ _) (list_countAt a vs.toArray m none #[] v f) ⟨hg, fun y hy => hfe y (List.mem_toArray.mp hy), k _ _ ads (Ext.tok _) R ⟨s.toks, ?_⟩⟩
      rw [← Option.some.inj hf, ← hm, List.countP_map]; simp [Function.comp_def]
theorem pop_sound (R : c.R Z lk s.heap ads σ) (ro : c.P Z ads σ s.heap o ov) (e : (onList σ o fun l => (l.getLast?).bind fun d => some (d, l.dropLast)) = some (d, σ')) : Yields c A (call (.builtin "list.pop") [ov]) Z lk s ads σ d σ' :=
  onL R ro e fun l l' a vs m hg hr hlim hf Q E k => bd1 hf fun x hd hf => sm2 hf fun e1 e2 => by
    have hlen := hr.length
    rw [List.getLast?_eq_getElem?] at hd
    refine el12 (hr.get hd) fun y hy ry => ?_
    refine call_meets F.slot_list_pop ⟨_, hg, rfl⟩ F.entry_list_pop (F.args_list_pop_1 _) (list_pop_last a vs.toArray m y (by simp [hlen, hy]) (size_lim hlim hlen)) ⟨hg, ?_⟩
    have he : (vs.toArray.eraseIdxIfInBounds (vs.toArray.size - 1)) = (vs.eraseIdx (vs.length - 1)).toArray := by simp
    have hdl : l.dropLast = l.eraseIdx (vs.length - 1) := by rw [hlen, List.eraseIdx_length_sub_one]
    exact k y (vs.eraseIdx (vs.length - 1)) _ s.toks _ (Heap.SameBut.update _ _ _) (by simpa [Obj.mapSeq, he] using Heap.get?_update_self (Obj.mapSeq fun xs => xs.eraseIdxIfInBounds (vs.toArray.size - 1)) hg rfl) (e2 ▸ hdl ▸ hr.eraseIdx _) (by rw [← e2, List.length_dropLast]; omega) (e1 ▸ ry)
theorem popAt_sound {i : Int} {t : Tok} (R : c.R Z lk s.heap ads σ) (ro : c.P Z ads σ s.heap o ov) (e : (onList σ o fun l => if 0 ≤ i then (l[i.toNat]?).bind fun d => some (d, l.eraseIdx i.toNat) else .none) = some (d, σ')) : Yields c A (call (.builtin "list.pop") [ov, .int i t]) Z lk s ads σ d σ' :=
  onL R ro e fun l l' a vs m hg hr hlim hf Q E k => if_el hf fun h0 hf => bd1 hf fun x hd hf => sm2 hf fun e1 e2 => el12 (hr.get hd) fun y hy ry => by
    have hi : i.toNat < vs.length := (List.getElem?_eq_some_iff.mp hy).1
    have hseq : seqIndex? i vs.toArray.size = some i.toNat := by
      rw [List.size_toArray]; exact PySem.seqIndex_of h0 (by omega)
    refine call_meets F.slot_list_pop ⟨_, hg, rfl⟩ F.entry_list_pop (F.args_list_pop_2 _ _) (list_pop_at a vs.toArray m i t i.toNat y (by have := hr.length; simp [Builtin.List.listFitsIndex]; unfold lim at hlim; omega) hseq (by simpa using hy) (size_lim hlim hr.length)) ⟨hg, ?_⟩
    exact k y (vs.eraseIdx i.toNat) _ s.toks _ (Heap.SameBut.update _ _ _) (by simpa [Obj.mapSeq] using Heap.get?_update_self (Obj.mapSeq fun xs => xs.eraseIdxIfInBounds i.toNat) hg rfl) (e2 ▸ hr.eraseIdx _) (by have := List.length_eraseIdx_le l i.toNat; rw [← e2]; omega) (e1 ▸ ry)
theorem clear_sound (R : c.R Z lk s.heap ads σ) (ro : c.P Z ads σ s.heap o ov) (e : (onList σ o fun _ => some (.none, [])) = some (d, σ')) : Yields c A (call (.builtin "list.clear") [ov]) Z lk s ads σ d σ' :=
  onL R ro e fun l l' a vs m hg hr hlim hf Q E k => sm2 hf fun e1 e2 =>
    call_meets F.slot_list_clear ⟨_, hg, rfl⟩ F.entry_list_clear (F.args_list_clear_1 _) (AutoSeq1.list_clear_list_0 a vs.toArray m (size_lim hlim hr.length)) ⟨hg,
      k .none [] _ s.toks _ (Heap.SameBut.update _ _ _) (by simpa [Obj.mapSeq] using Heap.get?_update_self (Obj.mapSeq fun _ => (#[] : Array Value)) hg rfl) (e2 ▸ rfl) (e2 ▸ Nat.zero_le _) (e1 ▸ rfl)⟩
theorem get_sound (B0 : Base c) (R : c.R Z lk s.heap ads σ) (ro : c.P Z ads σ s.heap o ov) (ra : c.PL Z ads σ s.heap args vals) (e : bmeth .get σ o args = some (d, σ')) : Yields c A (call (.builtin "dict.get") (ov :: vals)) Z lk s ads σ d σ' :=
  meth1 ra e fun x v rv e => int_el rv e fun i t ht e => bd1 e fun es hes e => Yields.cast e fun Q E k => el34 (asDict_at R ro hes) fun p kvs k₀ hp hv hd hr => by
    subst ht; subst hv
    have hk : (intKind c.prog c.w).is i (.int i t) = true := by simp [intKind, Value.isInt]
    refine call_meetsIn F.slot_dict_get (Heap.DictOf.typeIs hd) F.entry_dict_get (F.args_dict_get_2 _ _) (meets_dict_get (intKind c.prog c.w) p.1 hk (Rel.dict_ne B0 R hp)) ⟨_, dictOf_map hd, k _ _ ads (Ext.tok _) R ?_⟩
    have hf := hr.find i
    unfold dictGet
    revert hf
    cases es.lookup i with
    | none => intro hf; rw [show valueAt kvs i = none from hf]; rfl
    | some d => exact fun hf => el12 hf fun v h1 h2 => by rw [h1]; exact h2
theorem set_add_eq (es : List Int) (i : Int) : (fun j => es.contains j || decide (j = i)) = fun j => (if es.contains i then es else es ++ [i]).contains j := by
  funext j
  by_cases hc : es.contains i = true
  · rw [if_pos hc]
    by_cases hj : j = i
    · subst hj; rw [hc]; rfl
    · rw [decide_eq_false hj, Bool.or_false]
  · rw [if_neg hc]; simp [List.contains_eq_mem]
theorem set_add_len (es : List Int) (i : Int) : (if es.contains i then es.length else es.length + 1) = (if es.contains i then es else es ++ [i]).length := by
  split
  · rfl
  · rw [List.length_append]; rfl
theorem add_sound (R : c.R Z lk s.heap ads σ) (ro : c.P Z ads σ s.heap o ov) (ra : c.PL Z ads σ s.heap args vals) (e : bmeth .add σ o args = some (d, σ')) : Yields c A (call (.builtin "set.add") (ov :: vals)) Z lk s ads σ d σ' :=
  meth1 ra e fun x v rv e => int_el rv e fun i t ht e => bd1 e fun k₀ hk₀ e => bd1 e fun es hes e => bd1 hes fun x ho hes => if_el e fun hl e => Yields.cast e fun Q E k => by
    subst ht
    rw [asRef_inv hk₀] at ro
    rw [oSet_inv hes] at ho
    refine el12 ro fun p hp hv => (R.objs _ _ _ hp ho).elim fun hS hpp => ?_
    subst hv
    have hk : (intKind c.prog c.w).is i (.int i t) = true := by simp [intKind, Value.isInt]
    refine call_set_add hk rfl hS (by unfold scanBound; omega) fun h' hs hS' => ?_
    have hown := Rel.owned_set (o' := .set (if es.contains i then es else es ++ [i])) hp ho rfl
    have hkeep : ∀ b x, b ≠ p.1 → s.heap.get? b = some x → h'.get? b = some x := fun b x hb e => (hs.2 b hb).trans e
    have hmine : ∀ b, b = p.1 → Owned ads σ b := fun b hb => ⟨_, p, _, hp, ho, rfl, .inl hb⟩
    have hh : Heap.Has h' p.1 := let ⟨o, _, _, _, e, _⟩ := hS'; ⟨o, e⟩
    refine k _ _ ads ⟨⟨[], by simp⟩, fun b o hb e => SO.of (hkeep b o (fun q => hb (hmine b q)) e), fun b e => .inl (hown b e), fun b ⟨o, e⟩ => (Classical.em (b = p.1)).elim (fun q => q ▸ hh) (fun q => ⟨o, hkeep b o q e⟩), ⟨_, _, rfl⟩⟩ ?_ rfl
    refine R.put hp ho rfl (fun b x h1 _ e => hkeep b x h1 e) ⟨hh, hpp ▸ hh⟩ ⟨?_, hpp⟩
    rw [set_add_eq, set_add_len] at hS'
    exact hS'
end

theorem bmeth_sound {m : BM} {o : D} {args : List D} {ov : Value} {vals : List Value} {d : D} (B0 : Base c) (hA : A.units + 1000 ≤ 9900) (R : c.R Z lk s.heap ads σ) (ro : c.P Z ads σ s.heap o ov) (ra : c.PL Z ads σ s.heap args vals)
    (e : bmeth m σ o args = some (d, σ')) : Yields c A (call (.builtin (bmId m)) (ov :: vals)) Z lk s ads σ d σ' := by
  cases m
  case append => exact append_sound R ro ra e
  case extend => exact extend_sound R ro ra e
  case index => exact index_sound hA R ro ra e
  case count => exact count_sound hA R ro ra e
  case pop =>
    cases args
    case nil => exact no_arg ra ▸ pop_sound R ro e
    case cons => exact el23 ra fun v r hv rv hr => arg0_el hr e fun h0 e => int_el rv e fun i t ht e => by subst hv; subst h0; subst ht; exact popAt_sound R ro e
  case clear => exact arg0_el ra e fun h0 e => h0 ▸ clear_sound R ro e
  case get => exact get_sound B0 R ro ra e
  case add => exact add_sound R ro ra e
end

end Mine
end
section
open PySem PySem.W PyProof.Rows PySem.SeqAt PySem.MeetsSeq
namespace Mine

section
variable {c : Cst} {A : Around} {Z : List Addr} {lk : Nat → Nat} {s : Shared} {ads : Ads} {σ σ' : Store} {n : Nat} {C : SC} {W : Addr → Prop} {h : Heap}

theorem YieldsL.cast {t : Sem (List Value)} {d d' : List D} {σ1 σ1' : Store} (e : some (d, σ1) = some (d', σ1')) (y : YieldsL c A t Z lk s ads σ d σ1) : YieldsL c A t Z lk s ads σ d' σ1' := by cases e; exact y
theorem simL_nil {F : Env'} : SimL c n C [] (evs F []) :=
  fun A Z lk s ads ρ σ env ds σ' pos hf hA R V => YieldsL.cast hf fun Q E k => Calls.spliced_nil (k _ s ads Ext.refl R rfl)

noncomputable def isStar : E → Bool
  | .star _ => true
  | _ => false
noncomputable def isStarred : Expr → Bool
  | .Starred .. => true
  | _ => false
theorem evs_cons {F : Env'} {x : E} {xs : List E} (hx : isStar x = false) (ρ : Loc) (σ : Store) : evs F (x :: xs) ρ σ = (ev F x ρ σ).bind fun r => (evs F xs ρ r.2).bind fun q => some (r.1 :: q.1, q.2) := by
  cases x <;> first | rfl | exact Bool.noConfusion hx
theorem starEach_cons {e : Expr} {es : List Expr} {env : Env} (he : isStarred e = false) : starEach (e :: es) env = (false, eval e env) :: starEach es env := by
  cases e <;> first | rfl | exact Bool.noConfusion he

theorem simL_cons {F : Env'} {x : E} {xs : List E} {e : Expr} {es : List Expr} (S : Sim c n C e (ev F x)) (SL : SimL c n C es (evs F xs)) (hx : isStar x = false) (he : isStarred e = false) : SimL c n C (e :: es) (evs F (x :: xs)) :=
  fun A Z lk s ads ρ σ env ds σ' pos hf hA R V => bd2 ((evs_cons hx ρ σ).symm.trans hf) fun d1 σ1 h1 hf => bd2 hf fun ds2 σ2 h3 hf => YieldsL.cast hf fun Q E k => by
    rw [starEach_cons he]
    exact Calls.spliced_cons (S A Z lk s ads ρ σ env d1 σ1 h1 hA R V _ _ fun v s1 ads1 x1 R1 r1 => SL A Z lk s1 ads1 ρ σ1 env ds2 σ2 pos h3 hA R1 (V.ext x1) _ _ fun vs s2 ads2 x2 R2 r2 => k _ s2 ads2 (x1.trans x2) R2 ⟨v, vs, rfl, x2.rep r1, r2⟩)

theorem lim_size {l : List D} {vs : List Value} (hl : l.length ≤ lim) (he : vs.length = l.length) : vs.length ≤ sizeLine := by rw [he]; unfold lim at hl; unfold sizeLine; omega

theorem new_list {m : Bool} {l : List D} {vs : List Value} {d d1 : D} {Q : Value → Shared → Prop} {s1 : Shared} {ads1 : Ads} {σ1 : Store} (x1 : Ext Z ads σ s ads1 σ1 s1) (R1 : c.R Z lk s1.heap ads1 σ1) (r1 : c.PL Z ads1 σ1 s1.heap l vs) (hl : l.length ≤ lim) (h2 : some (D.list l) = some d1)
    (h3 : (bif m then some (.ref σ1.length, σ1 ++ [.list l]) else some (d1, σ1)) = some (d, σ')) (k : ∀ v s' ads', Ext Z ads σ s ads' σ' s' → c.R Z lk s'.heap ads' σ' → c.P Z ads' σ' s'.heap d v → Q v s') :
    Q (.ref s1.heap.objs.size) { s1 with heap := s1.heap.push { cls := .type "list", data := .seq vs.toArray } } := by
  cases m with
  | true =>
    cases h3
    have hk : ∀ b o, s1.heap.get? b = some o → (s1.heap.push { cls := .type "list", data := .seq vs.toArray }).get? b = some o := fun b o e => Heap.get?_push_of_some _ e
    exact k _ _ _ (x1.trans (ext_add R1 (get_size _) (get_size _) hk)) (store_list R1 r1 hl hk (Heap.get?_push_size _ rfl)) (rep_last (p := (s1.heap.objs.size, s1.heap.objs.size)) R1.len)
  | false =>
    cases h2; cases h3
    exact k _ _ ads1 (x1.trans (ext_push _ _)) (R1.push _) (newList_rep R1 r1 hl)
theorem sim_list {F : Env'} {m : Bool} {xs : List E} {es : List Expr} {pos : Pos} (SL : SimL c n C es (evs F xs)) : Sim c n C (.List es pos) (ev F (.list m xs)) :=
  fun A Z lk s ads ρ σ env d σ' hf hA R V => bd2 hf fun l σ1 h1 hf => bd1 hf fun d1 h2 h3 => if_el h2 fun hl h2 Q E k =>
    wpAny_List (SL A Z lk s ads ρ σ env l σ1 pos h1 hA R V _ _ fun vs s1 ads1 x1 R1 r1 => ⟨lim_size hl r1.length, new_list x1 R1 r1 hl h2 h3 k⟩)

theorem sim_tup {F : Env'} {xs : List E} {es : List Expr} {kn : Nat} {pos : Pos} (SL : SimL c n C es (evs F xs)) : Sim c n C (.Tuple es kn pos) (ev F (.tup xs)) :=
  fun A Z lk s ads ρ σ env d σ' hf hA R V => bd2 hf fun l σ1 h1 hf => if_el hf fun hl hf => Yields.cast hf fun Q E k =>
    wpAny_Tuple_spliced (SL A Z lk s ads ρ σ env l _ pos h1 hA R V _ _ fun vs s1 ads1 x1 R1 r1 => ⟨lim_size hl r1.length, k _ _ ads1 (x1.trans (ext_push _ _)) (R1.push _) (newTuple_rep R1 r1 hl)⟩)

theorem sim_dict0 {F : Env'} {pos : Pos} : Sim c n C (.Dict [] [] pos) (ev F .dict0) :=
  fun A Z lk s ads ρ σ env d σ' hf hA R V => Yields.cast hf fun Q E k => wpAny_Dict_empty <| by
    have hk : ∀ b o, s.heap.get? b = some o → (s.heap.push { cls := .type "dict", data := .dict #[] }).get? b = some o := fun b o e => Heap.get?_push_of_some _ e
    refine k _ _ (ads ++ [(s.heap.objs.size, s.heap.objs.size)]) (ext_add (tk := s.toks) R (get_size _) (get_size _) hk) ?_ (rep_last (p := (s.heap.objs.size, s.heap.objs.size)) R.len)
    exact R.add hk (get_size _) (get_size _) (has_push _) (has_push _) ⟨[], ⟨_, #[], 0, Heap.get?_push_size _ rfl, ⟨rfl, rfl, rfl⟩, rfl, fun e he => by simp at he, .nil, by simp⟩, rfl, Nat.zero_le _, rfl⟩

noncomputable def isSlice : Expr → Bool
  | .Slice .. => true
  | _ => false
theorem subscripted_plain {e : Expr} (he : isSlice e = false) (o i : Value) : subscripted e false o i = operate [o, i] (PySem.getItem o i) := by
  cases e <;> first | rfl | exact Bool.noConfusion he

section
variable {o i r : D} {ov iv : Value} {val sl : Expr}
theorem item_list {a : Addr} {vs : List Value} {l : List D} {j : Int} {t : Tok} {m : Bool} (hs : isSlice sl = false) (R : c.R Z lk s.heap ads σ) (hp : s.heap.PlainList a vs.toArray) (hr : c.PL Z ads σ s.heap l vs) (hl : l.length ≤ lim) (e : itemL l j m = some r) :
    Yields c A (subscriptTail val sl (.ref a) (.int j t)) Z lk s ads σ r σ := by
  intro Q E k
  have key : wpAny (model c.prog c.w) A (PySem.getItem (.ref a) (.int j t)) Q E s → wpAny (model c.prog c.w) A (subscriptTail val sl (.ref a) (.int j t)) Q E s := fun q => tail_any (T := "list") ⟨_, hp.choose_spec, rfl⟩ PySem.slot_list_getitem.lookup q (subscripted_plain hs _ _)
  have hlen := hr.length
  unfold itemL at e
  by_cases h0 : 0 ≤ j
  · rw [if_pos h0] at e
    refine el12 (hr.get e) fun v hv rv => key (wpAny_getItem_list (PlainList.isList hp) h0 ?_ (by simpa using hv) (k v s ads Ext.refl R rv))
    have hlt := (List.getElem?_eq_some_iff.mp hv).1
    unfold lim at hl; omega
  · rw [if_neg h0] at e
    refine if_el e fun hj e1 => ?_
    obtain ⟨rfl, _⟩ := hj
    rw [List.getLast?_eq_getElem?] at e1
    have hlt := (List.getElem?_eq_some_iff.mp e1).1
    refine el12 (hr.get e1) fun v hv rv => key (wpAny_getItem_list_neg (PlainList.isList hp) (by decide) (by rw [List.size_toArray]; omega) (by decide) ?_ (k v s ads Ext.refl R rv))
    rw [List.size_toArray, show ((-1 : Int) + (vs.length : Int)).toNat = l.length - 1 by omega]; simpa using hv
theorem item_dict {p : Addr × Addr} {j : Int} {t : Tok} {es : List (Int × D)} {kvs : List (Int × Value)} (hs : isSlice sl = false) (R : c.R Z lk s.heap ads σ) (hd : s.heap.DictOf (intKind c.prog c.w) p.1 kvs) (hr : PairsL c.X ads (WW Z ads σ) s.heap es kvs) (e : dictGet j es = some r) :
    Yields c A (subscriptTail val sl (.ref p.1) (.int j t)) Z lk s ads σ r σ := by
  intro Q E k
  have hk : (intKind c.prog c.w).is j (.int j t) = true := by simp [intKind, Value.isInt]
  have hf := hr.find j
  unfold dictGet at e
  rw [e] at hf
  exact el12 hf fun v h1 h2 => tail_any (Heap.DictOf.typeIs hd) PySem.slot_dict_getitem.lookup (wpAny_getItem_of hk (dictOf_map hd) h1 (k v _ ads (Ext.tok _) R h2)) (subscripted_plain hs _ _)
theorem item_tup {l : List D} {j : Int} {t : Tok} (hs : isSlice sl = false) (R : c.R Z lk s.heap ads σ) (ro : c.P Z ads σ s.heap (.tup l) ov) (e : itemL l j false = some r) : Yields c A (subscriptTail val sl ov (.int j t)) Z lk s ads σ r σ := by
  intro Q E k
  unfold itemL at e
  by_cases h0 : 0 ≤ j
  · rw [if_pos h0] at e
    refine el35 ro fun a vs m ha hp _ hl hr => el12 (hr.get e) fun v hv rv => ?_
    subst ha
    have hlt := (List.getElem?_eq_some_iff.mp hv).1
    have hlen := hr.length
    exact tail_any (T := "tuple") ⟨_, hp, rfl⟩ F.slot_tuple_getitem.lookup (P.getItem_tuple (k := j.toNat) hp (by omega) (by unfold lim at hl; omega) (by rw [List.size_toArray]; exact PySem.seqIndex_of h0 (by omega)) (by simpa using hv) (k v s ads Ext.refl R rv)) (subscripted_plain hs _ _)
  · rw [if_neg h0] at e
    exact if_el e fun hj e => Bool.noConfusion hj.2

theorem item_sound (hs : isSlice sl = false) (R : c.R Z lk s.heap ads σ) (ro : c.P Z ads σ s.heap o ov) (ri : c.P Z ads σ s.heap i iv) (e : Mine.getItem σ o i = some r) :
    Yields c A (subscriptTail val sl ov iv) Z lk s ads σ r σ :=
  int_el ri e fun j t ht e => by
    subst ht
    cases o
    case tup => exact item_tup hs R ro e
    case list => exact el25 ro fun a vs ha hp _ hl hr => ha ▸ item_list hs R hp hr hl e
    case ref =>
      refine el12 ro fun p hp hv => bd1 e fun x ho e => ?_
      have q := R.objs _ _ _ hp ho
      subst hv
      cases x
      case list => exact el14 q fun vs a r hl _ => item_list hs R a r hl e
      case llist => exact el14 q fun vs a r hl _ => item_list hs R a r hl e
      case dict => exact el14 q fun kvs a r _ _ => item_dict hs R a r e
      case ldict => exact el14 q fun kvs a r _ _ => item_dict hs R (let ⟨o, es, h1, h2, h3, r⟩ := a; ⟨o, es, _, h1, h2, h3, r⟩) r e
      all_goals exact no_el e
    all_goals exact no_el e
end

theorem sim_idx {F : Env'} {x y : E} {e i : Expr} {pos : Pos} (S1 : Sim c n C e (ev F x)) (S2 : Sim c n C i (ev F y)) (hs : isSlice i = false) : Sim c n C (.Subscript e i pos) (ev F (.idx x y)) :=
  fun A Z lk s ads ρ σ env d σ' hf hA R V => bd2 hf fun d1 σ1 h1 hf => bd2 hf fun d2 σ2 h2 hf => bd1 hf fun d3 h3 hf => Yields.cast hf fun Q E k =>
    Subscript_ (S1 A Z lk s ads ρ σ env d1 σ1 h1 hA R V _ _ fun v s1 ads1 x1 R1 r1 => S2 A Z lk s1 ads1 ρ σ1 env d2 σ2 h2 hA R1 (V.ext x1) _ _ fun v2 s2 ads2 x2 R2 r2 =>
      item_sound hs R2 (x2.rep r1) r2 h3 _ _ fun v3 s3 ads3 x3 R3 r3 => k v3 s3 ads3 ((x1.trans x2).trans x3) R3 r3)

noncomputable def SimO (c : Cst) (n : Nat) (C : SC) (e : Option Expr) (f : Loc → Store → Option (Option D × Store)) : Prop :=
  ∀ (A : Around) (Z : List Addr) (lk : Nat → Nat) (s : Shared) (ads : Ads) (ρ : Loc) (σ : Store) (env : Env) (d : Option D) (σ' : Store), f ρ σ = some (d, σ') → Room A n C.fr → c.R Z lk s.heap ads σ → EnvRel c C env ρ Z ads σ s.heap →
    Yields c A (evalPart e env) Z lk s ads σ (d.getD .none) σ'
theorem YieldsO.cast {t : Sem Value} {d d' : Option D} {σ1 σ1' : Store} (e : some (d, σ1) = some (d', σ1')) (y : Yields c A t Z lk s ads σ (d.getD .none) σ1) : Yields c A t Z lk s ads σ (d'.getD .none) σ1' := by cases e; exact y
theorem simO_none {F : Env'} : SimO c n C none (evo F .none) :=
  fun A Z lk s ads ρ σ env d σ' hf hA R V => YieldsO.cast hf fun Q E k => wpAny_evalPart_none (k _ s ads Ext.refl R rfl)
theorem simO_some {F : Env'} {x : E} {e : Expr} (S : Sim c n C e (ev F x)) : SimO c n C (some e) (evo F (some x)) :=
  fun A Z lk s ads ρ σ env d σ' hf hA R V => bd2 hf fun d1 σ1 h1 hf => YieldsO.cast hf fun Q E k => wpAny_evalPart_some (S A Z lk s ads ρ σ env d1 _ h1 hA R V _ _ k)

section
variable {l r : List D} {lv hv : Value} {lower upper : Option Expr} {value : Expr} {p : Pos} {a b : Addr} {vs : List Value}
theorem slice_fin {lo' hi' : Option Int} {ws : List Value} (R : c.R Z lk s.heap ads σ) (hp : s.heap.PlainList b vs.toArray) (hl : l.length ≤ lim) (hr : c.PL Z ads σ s.heap l vs) (ha : s.heap.get? a = some { cls := .type "slice", data := .fields #[lv, hv, .none] })
    (h1 : IsPart lv lo') (h2 : IsPart hv hi') (h3 : slicePick vs.toArray lo' hi' none = ws.toArray) (h4 : c.PL Z ads σ s.heap r ws) (h5 : r.length ≤ lim) : Yields c A (subscriptTail value (.Slice lower upper none p) (.ref b) (.ref a)) Z lk s ads σ (.list r) σ :=
  yields_new R fun Q E k => tail_any (T := "list") ⟨_, hp.choose_spec, rfl⟩ PySem.slot_list_getitem.lookup (wpAny_getItem_list_slice (PlainList.isList hp) ⟨_, ha, rfl, rfl⟩ h1 h2 .none (by simp) (by
    rw [h3]; exact k _ _ _ (fun _ _ e => Heap.get?_push_of_some _ e) (newList_rep R h4 h5)) (size_lim hl hr.length)) rfl
theorem slice_sound {o : D} {lo hi : Option D} {ov : Value} (R : c.R Z lk s.heap ads σ) (ro : c.P Z ads σ s.heap o ov) (rl : c.P Z ads σ s.heap (lo.getD .none) lv) (rh : c.P Z ads σ s.heap (hi.getD .none) hv)
    (e : asList σ o = some l) (e2 : sliceL l lo hi = some r) (ha : s.heap.get? a = some { cls := .type "slice", data := .fields #[lv, hv, .none] }) :
    Yields c A (subscriptTail value (.Slice lower upper none p) ov (.ref a)) Z lk s ads σ (.list r) σ :=
  el24 (asList_at R ro e) fun b vs hb hp hr hlim => by
    subst hb
    cases lo with
    | none =>
      refine bd1 e2 fun x hx e2 => ?_
      subst hx
      refine int_el rh e2 fun i t ht e2 => if_el e2 fun h0 e2 => ?_
      subst ht
      refine slice_fin R hp hlim hr ha (show IsPart lv none from (show lv = .none from rl) ▸ .none) (.int _ _) (ws := vs.take i.toNat) ?_ (Option.some.inj e2 ▸ hr.take _) (by rw [← Option.some.inj e2, List.length_take]; omega)
      obtain ⟨m, rfl⟩ : ∃ m : Nat, i = m := ⟨i.toNat, by omega⟩
      rw [slicePick_upto']; simp
    | some x =>
      cases hi with
      | some _ => exact no_el e2
      | none =>
        refine int_el rl e2 fun i t ht e2 => if_el e2 fun h0 e2 => ?_
        subst ht
        refine slice_fin R hp hlim hr ha (.int _ _) (show IsPart hv none from (show hv = .none from rh) ▸ .none) (ws := vs.drop i.toNat) ?_ (Option.some.inj e2 ▸ hr.drop _) (by rw [← Option.some.inj e2, List.length_drop]; omega)
        obtain ⟨m, rfl⟩ : ∃ m : Nat, i = m := ⟨i.toNat, by omega⟩
        rw [slicePick_from']; simp
end

theorem sim_slice {F : Env'} {x : E} {lo hi : Option E} {e : Expr} {lower upper : Option Expr} {p pos : Pos} (S : Sim c n C e (ev F x)) (S1 : SimO c n C lower (evo F lo)) (S2 : SimO c n C upper (evo F hi)) :
    Sim c n C (.Subscript e (.Slice lower upper none p) pos) (ev F (.slice x lo hi)) :=
  fun A Z lk s ads ρ σ env d σ' hf hA R V => bd2 hf fun d1 σ1 h1 hf => bd2 hf fun d2 σ2 h2 hf => bd2 hf fun d3 σ3 h3 hf => bd1 hf fun xs h4 hf => bd1 hf fun r h5 hf => Yields.cast hf fun Q E k =>
    Subscript_ (S A Z lk s ads ρ σ env d1 σ1 h1 hA R V _ _ fun v s1 ads1 x1 R1 r1 => wpAny_Slice (S1 A Z lk s1 ads1 ρ σ1 env d2 σ2 h2 hA R1 (V.ext x1) _ _ fun v2 s2 ads2 x2 R2 r2 =>
      S2 A Z lk s2 ads2 ρ σ2 env d3 _ h3 hA R2 ((V.ext x1).ext x2) _ _ fun v3 s3 ads3 x3 R3 r3 => wpAny_evalPart_none <| by
        have x4 : Ext Z ads3 σ3 s3 ads3 σ3 { s3 with heap := s3.heap.push { cls := .type "slice", data := .fields #[v2, v3, .none] } } := ext_push _ _
        exact slice_sound (R3.push _) (x4.rep (x3.rep (x2.rep r1))) (x4.rep (x3.rep r2)) (x4.rep r3) h4 h5 (Heap.get?_push_size _ rfl) _ _ fun v5 s5 ads5 x5 R5 r5 => k v5 s5 ads5 ((((x1.trans x2).trans x3).trans x4).trans x5) R5 r5))

noncomputable def noStars (es : List Expr) : Bool := es.all fun e => !isStarred e
theorem noStars_any {es : List Expr} {env : Env} {pos : Pos} (h : noStars es = true) : (backTo pos (starEach es env)).any (·.1) = false := by
  induction es with
  | nil => rfl
  | cons e r ih =>
    simp only [noStars, List.all_cons, Bool.and_eq_true, Bool.not_eq_true'] at h
    rw [starEach_cons h.1]
    show (false || (backTo pos (starEach r env)).any (·.1)) = false
    rw [ih (by simpa [noStars] using h.2)]; rfl

theorem evalArgs_plainL {f : Value} {es : List Expr} {env : Env} {pos : Pos} {M : Model} {Q : Args → Shared → Prop} {E : Value → Shared → Prop} (h : noStars es = true)
    (hq : wpAny M A (spliced (backTo pos (starEach es env))) (fun vs s' => Q ⟨vs, []⟩ s') E s) : wpAny M A (evalArgs f true (backTo pos (starEach es env)) []) Q E s := by
  cases es with
  | nil =>
    unfold evalArgs
    show wpAny M A (spliced [] >>= _) Q E s
    refine wpAny_bind (wpAny_mono hq (fun vs s' h' => ?_) fun _ _ x => x)
    refine wpAny_bind (wpAny_pure ?_)
    refine wpAny_holding ?_
    exact wpAny_bind (wpAny_pure (wpAny_bind (wpAny_pure (wpAny_pure h'))))
  | cons e r =>
    simp only [noStars, List.all_cons, Bool.and_eq_true, Bool.not_eq_true'] at h
    rw [starEach_cons h.1] at hq ⊢
    exact Calls.evalArgs_plain hq

theorem load_builtin {env : Env} {ρ : Loc} {id : Str} {v : Value} {Q : Value → Shared → Prop} {E : Value → Shared → Prop} {np : Pos} (B : Base c) (R : c.R Z lk s.heap ads σ) (V : EnvRel c C env ρ Z ads σ s.heap)
    (hk : C.names.lookup id = some .globalImplicit) (hg : c.gl id = none) (hb : bootBuiltins id = some v) (hn : id ≠ "__name__") (hd : (id == ("__debug__" : Str)) = false) (k : Q v s) : wpAny (model c.prog c.w) A (eval (.Name id np) env) Q E s := by
  refine wpAny_Name ?_ hd
  rw [loadName_read V.kind (by unfold Env.kindOf; rw [V.names]; exact hk)]
  refine el12 (B.b) fun mb h1 h2 => ?_
  refine Calls.loadGlobal_builtin (mg := c.gl) (mb := mb) ?_ hg ?_ ((h2 id hn).trans hb) k
  · rw [V.globals]; exact B.g.keeps R.keep
  · rw [V.builtins]; exact h1.keeps R.keep
theorem load_global {env : Env} {ρ : Loc} {id : Str} {v : Value} {Q : Value → Shared → Prop} {E : Value → Shared → Prop} {np : Pos} (B : Base c) (R : c.R Z lk s.heap ads σ) (V : EnvRel c C env ρ Z ads σ s.heap)
    (hk : C.names.lookup id = some .globalImplicit) (hg : c.gl id = some v) (hd : (id == ("__debug__" : Str)) = false) (k : Q v s) : wpAny (model c.prog c.w) A (eval (.Name id np) env) Q E s := by
  refine wpAny_Name ?_ hd
  rw [loadName_read V.kind (by unfold Env.kindOf; rw [V.names]; exact hk)]
  refine Calls.loadGlobal_global (mg := c.gl) ?_ hg k
  rw [V.globals]; exact B.g.keeps R.keep

theorem callWith_bi {b : B} {pos : Pos} {es : List Expr} {env : Env} {Q : Value → Shared → Prop} {E : Value → Shared → Prop} {M : Model} (hs : noStars es = true)
    (h : wpAny M A (spliced (backTo pos (starEach es env))) (fun vs s' => wpAny M A (call (biVal b) vs) Q E s') E s) : wpAny M A (callWith pos (biVal b) [] (backTo pos (starEach es env)) []) Q E s := by
  have hp := noStars_any (env := env) (pos := pos) hs
  cases b <;> first | exact Calls.callWith_builtin hp (evalArgs_plainL hs h) | exact PyProof.Rows.callWith_type hp (evalArgs_plainL hs h)

theorem sim_bi {F : Env'} {b : B} {xs : List E} {es : List Expr} {id : Str} {np pos : Pos} (B0 : Base c) (SL : SimL c n C es (evs F xs)) (hs : noStars es = true)
    (hk : C.names.lookup id = some .globalImplicit) (hg : c.gl id = none) (hb : bootBuiltins id = some (biVal b)) (hn : id ≠ "__name__") (hd : (id == ("__debug__" : Str)) = false) :
    Sim c n C (.Call (.Name id np) es [] pos) (ev F (.bi b xs)) :=
  fun A Z lk s ads ρ σ env d σ' hf hA R V => bd2 hf fun l σ1 h1 h2 Q E k => wpAny_Call_NameR (load_builtin B0 R V hk hg hb hn hd (callWith_bi hs (SL A Z lk s ads ρ σ env l σ1 pos h1 hA R V _ _ fun vs s1 ads1 x1 R1 r1 =>
    bltin_sound B0 hA R1 r1 h2 _ _ fun v s2 ads2 x2 R2 r2 => k v s2 ads2 (x1.trans x2) R2 r2)))

noncomputable def FunOk (c : Cst) (n : Nat) (F : Fun) : Prop :=
  ∀ (f : Nat) (args : List D) (σ : Store) (d : D) (σ' : Store), F f args σ = some (d, σ') → ∀ fa, c.X.fv f = some fa → ∀ (A : Around) (Z : List Addr) (lk : Nat → Nat) (s : Shared) (ads : Ads) (vals : List Value) (fr : List Env), RoomF A n fr → FF s.heap c.h₀ fr → (∀ a, a ∈ fr.filterMap (·.frame) → ¬ Owned ads σ a) →
    c.R Z lk s.heap ads σ → c.PL Z ads σ s.heap args vals → ∀ R : Result → Shared → Prop, (∀ v s' ads', Ext Z ads σ s ads' σ' s' → c.R Z lk s'.heap ads' σ' → c.P Z ads' σ' s'.heap d v → R (.ok (.ret v)) s') →
    codeAny (model c.prog c.w) A (.call (.ref fa) ⟨vals, []⟩) R s

theorem callWith_Ks {fa : Addr} {pos : Pos} {es : List Expr} {env : Env} {first : List Value} {Q : Value → Shared → Prop} {E : Value → Shared → Prop} (B0 : Base c) (R : c.R Z lk s.heap ads σ) (hk : keepIn c.K (.ref fa) = true) (hs : noStars es = true)
    (h : wpAny (model c.prog c.w) A (spliced (backTo pos (starEach es env))) (fun vs s' => c.K.In s'.heap ∧ wpAny (model c.prog c.w) A (call (.ref fa) (first ++ vs)) Q E s') E s) :
    wpAny (model c.prog c.w) A (callWith pos (.ref fa) first (backTo pos (starEach es env)) []) Q E s := by
  have X : c.K.In s.heap := fun a o e => R.keep a o (B0.K a o e)
  have hp := noStars_any (env := env) (pos := pos) hs
  refine callWith_of (P := c.K.In) (by rw [hp]; rfl) (keeps_K hk) ?_
  refine evalArgs_plainL hs (wpAny_mono h (fun vs s' h' => h') fun _ _ e => e)

theorem sim_call {F : Env'} {f : Nat} {fa : Addr} {xs : List E} {es : List Expr} {id : Str} {np pos : Pos} (B0 : Base c) (FO : FunOk c n F.F) (SL : SimL c n C es (evs F xs)) (hs : noStars es = true)
    (hk : C.names.lookup id = some .globalImplicit) (hg : c.gl id = some (.ref fa)) (hf0 : c.X.fv f = some fa) (hd : (id == ("__debug__" : Str)) = false) :
    Sim c n C (.Call (.Name id np) es [] pos) (ev F (.call f xs)) :=
  fun A Z lk s ads ρ σ env d σ' hf hA R V => bd2 hf fun l σ1 h1 h2 Q E k => wpAny_Call_NameR (load_global B0 R V hk hg hd (callWith_Ks B0 R (B0.fnK f fa hf0) hs (SL A Z lk s ads ρ σ env l σ1 pos h1 hA R V _ _ fun vs s1 ads1 x1 R1 r1 =>
    ⟨fun a o e => R1.keep a o (B0.K a o e), wpAny_call (FO f l σ1 d σ' h2 fa hf0 A Z lk s1 ads1 vs C.fr hA.toF (V.ext x1).frs (V.ext x1).frn R1 r1 _ fun v s2 ads2 x2 R2 r2 => k v s2 ads2 (x1.trans x2) R2 r2)⟩)))

theorem few_of {es : List Expr} {env : Env} {pos : Pos} (hs : noStars es = true) (hl : es.length < 20) : ((backTo pos (starEach es env)).all (fun x => !x.1) && (backToKw pos (keywordEach [] env)).all (fun x => x.1.isSome)
      && decide (es.length + ([] : List Keyword).length + (if ([] : List Keyword).isEmpty then 0 else 1) < 30)) = true := by
  have := noStars_any (env := env) (pos := pos) hs
  rw [List.any_eq_false] at this
  simp only [Bool.and_eq_true, List.all_eq_true]
  exact ⟨⟨fun x hx => by simpa using this x hx, fun x hx => absurd (show x ∈ [] from hx) List.not_mem_nil⟩, decide_eq_true (by simp; omega)⟩

noncomputable def RecvOk (s : Shared) (ov : Value) (T : String) : Prop := s.TypeIs ov T ∧ ∀ a, ov = .ref a → ∃ ob, s.heap.get? a = some ob ∧ ob.dict = none
theorem recv_of {a : Addr} {ob : Obj} {T : String} (h1 : s.heap.get? a = some ob) (h2 : ob.cls = .type T) (h3 : ob.dict = none) : RecvOk s (.ref a) T := ⟨⟨_, h1, h2⟩, fun b q => Value.ref.inj q ▸ ⟨ob, h1, h3⟩⟩
theorem recv_list {o : D} {ov : Value} (R : c.R Z lk s.heap ads σ) (ro : c.P Z ads σ s.heap o ov) (e : (asList σ o).isSome = true) : RecvOk s ov "list" :=
  Exists.elim (Option.isSome_iff_exists.mp e) fun l e => el24 (asList_at R ro e) fun a vs ha hp _ _ => Exists.elim hp fun m hp => ha ▸ recv_of hp rfl rfl
theorem recv_type {m : BM} {o : D} {ov : Value} (R : c.R Z lk s.heap ads σ) (ro : c.P Z ads σ s.heap o ov) (hm : recvOk m σ o = true) : RecvOk s ov (bmType m) := by
  cases m
  case get => exact Exists.elim (Option.isSome_iff_exists.mp hm) fun es e => el34 (asDict_at R ro e) fun p kvs k hp hv hd _ => el33 hd fun ob _ _ h1 h2 _ => hv ▸ recv_of h1 h2.1 h2.2.1
  case add =>
    refine Exists.elim (Option.isSome_iff_exists.mp hm) fun es e => bd1 e fun k hk e => bd1 e fun x hx e => ?_
    rw [asRef_inv hk] at ro
    rw [oSet_inv e] at hx
    exact el12 ro fun p hp hv => el43 (R.objs _ _ _ hp hx).1 fun ob _ _ _ h1 h2 _ => hv ▸ recv_of h1 h2.1 h2.2.1
  all_goals exact recv_list R ro hm

theorem sim_bmeth {F : Env'} {m : BM} {x : E} {xs : List E} {o : Expr} {es : List Expr} {name : Str} {apos pos : Pos} (B0 : Base c) (S : Sim c n C o (ev F x)) (SL : SimL c n C es (evs F xs)) (hs : noStars es = true) (hl : es.length < 20)
    (ho : ∀ name env whole, attributeBase o name env whole = whole) (hn : name = bmName m) (hline : (apos.endLine == pos.line) = true) : Sim c n C (.Call (.Attribute o name apos) es [] pos) (ev F (.bmeth x m xs)) :=
  fun A Z lk s ads ρ σ env d σ' hf hA R V => bd2 hf fun d1 σ1 h1 hf => cond_el hf fun hr hf => bd2 hf fun l σ2 h3 h4 Q E k => by
    subst hn
    exact wpAny_Call_method_late (ho _ _ _) (few_of hs hl) hline rfl (S A Z lk s ads ρ σ env d1 σ1 h1 hA R V _ _ fun ov s1 ads1 x1 R1 r1 =>
      ⟨bmType m, bmId m, bm_plain m, bm_slot m, bm_typeOf m, (recv_type R1 r1 hr).1, (recv_type R1 r1 hr).2, Calls.callWith_builtin (noStars_any hs) (evalArgs_plainL hs (SL A Z lk s1 ads1 ρ σ1 env l σ2 pos h3 hA R1 (V.ext x1) _ _ fun vs s2 ads2 x2 R2 r2 =>
        bmeth_sound B0 (by have := hA.units; omega) R2 (x2.rep r1) r2 h4 _ _ fun v s3 ads3 x3 R3 r3 => k v s3 ads3 ((x1.trans x2).trans x3) R3 r3))⟩)

theorem sim_glob {F : Env'} {g : Nat} {d : D} {id : Str} {np : Pos} {v : Value} (B0 : Base c) (hg : F.globs g = some d) (hk : C.names.lookup id = some .globalImplicit) (hv : c.gl id = some v) (hr : ∀ ads W h, Rep c.X ads W h d v) (hd : (id == ("__debug__" : Str)) = false) :
    Sim c n C (.Name id np) (ev F (.glob g)) :=
  fun A Z lk s ads ρ σ env d' σ' hf hA R V => bd1 hf fun d1 h1 hf => Yields.cast hf fun Q E k => load_global B0 R V hk hv hd (k v s ads Ext.refl R (Option.some.inj (hg.symm.trans h1) ▸ hr _ _ _))

end

end Mine
end
section
open PySem PySem.W PyProof.Rows PySem.SeqAt PySem.MeetsSeq
namespace Mine

section
variable {c : Cst} {A : Around} {Z : List Addr} {lk : Nat → Nat} {s : Shared} {ads : Ads} {σ σ' : Store} {n : Nat} {C : SC} {W : Addr → Prop} {h : Heap}

theorem cell_notFz {h : Heap} {a : Addr} {ov : Option Value} (x : h.IsCell a ov) : ∀ o, h.get? a = some o → ¬ Fz o := by
  refine el12 (x) fun o ho hd => ?_
  intro o' e
  rw [ho] at e; cases e
  rintro (⟨xs, n, q⟩ | ⟨_, vs, q⟩) <;> rw [hd] at q <;> cases q
theorem ns_notFz {h : Heap} {a : Addr} {m : Str → Option Value} (x : h.Ns a m) : ∀ o, h.get? a = some o → ¬ Fz o := by
  refine el33 (x) fun o es ep ho hd _ => ?_
  intro o' e
  rw [ho] at e; cases e
  rintro (⟨xs, n, q⟩ | ⟨_, vs, q⟩) <;> rw [hd] at q <;> cases q

noncomputable def FrA (env : Env) (a : Addr) : Prop := a = env.locals ∨ ∃ x, env.cells.lookup x = some a

theorem loc_set {ρ : Loc} {i j : Nat} {d d' : D} (e : (ρ.set i (some d))[j]? = some (some d')) : (j = i ∧ d' = d) ∨ (j ≠ i ∧ ρ[j]? = some (some d')) := by
  by_cases hj : i = j
  · subst hj
    rw [List.getElem?_set] at e
    simp only [if_true] at e
    split at e
    · cases e; exact .inl ⟨rfl, rfl⟩
    · cases e
  · rw [List.getElem?_set_ne hj] at e; exact .inr ⟨fun q => hj q.symm, e⟩

theorem store_sound {env : Env} {ρ : Loc} {C₁ : SC} {i : Nat} {x : Str} {d : D} {v : Value} (R : c.R Z lk s.heap ads σ) (V : EnvRel c C env ρ Z ads σ s.heap) (hn : C₁.names = C.names) (hfr : C₁.fr = C.fr) (hco : C₁.comp = C.comp)
    (hC : ∀ (j : Nat) (y : Str), C₁.slots.lookup j = some y → (j = i ∧ y = x) ∨ (j ≠ i ∧ y ≠ x ∧ C.slots.lookup j = some y))
    (hk : C.names.lookup x = some .local ∨ C.names.lookup x = some .cell) (rv : c.P Z ads σ s.heap d v) {Q : Unit → Shared → Prop} {E : Value → Shared → Prop}
    (k : ∀ a h' tk, FrA env a → (C.names.lookup x = some .cell → env.cells.lookup x = some a) → (C.names.lookup x = some .local → a = env.locals) → (∀ b o, b ≠ a → s.heap.get? b = some o → h'.get? b = some o) → c.R Z lk h' ads σ → EnvRel c C₁ env (ρ.set i (some d)) Z ads σ h' → Q () { s with heap := h', toks := tk }) :
    wpAny (model c.prog c.w) A (storeName env x v) Q E s := by
  have hrep : ∀ {h' : Heap} {a : Addr}, ¬ Owned ads σ a → (∀ o, s.heap.get? a = some o → ¬ Fz o) → (∀ b o, b ≠ a → s.heap.get? b = some o → h'.get? b = some o) → ∀ {d v}, c.P Z ads σ s.heap d v → c.P Z ads σ h' d v :=
    fun {h' a} ha hz hk {d v} r => Rep.mono (Sub.refl _) (fun b o _ hf e => hk b o (fun q => hz o (q ▸ e) hf) e) (fun _ _ _ x => x) d v r
  rcases hk with hk | hk
  · refine el12 (V.ns) fun m hm hv => ?_
    refine wpAny_storeName_local (by unfold Env.kindOf; rw [V.names]; exact hk) hm (fun h' hn' hs => ?_) (by rw [V.kind]; rfl)
    have hkeep : ∀ b o, b ≠ env.locals → s.heap.get? b = some o → h'.get? b = some o := fun b o hb e => (hs.2 b hb).trans e
    have hz := ns_notFz hm
    have hh : Heap.Has h' env.locals := let ⟨o, _, _, e, _⟩ := hn'; ⟨o, e⟩
    have hcl : ∀ y a ov, env.cells.lookup y = some a → s.heap.IsCell a ov → h'.IsCell a ov := by
      intro y a ov ha ⟨o, ho, hd⟩
      refine ⟨o, hkeep a o (fun q => ?_) ho, hd⟩
      refine el33 (hm) fun o' _ _ ho' hd' _ => ?_
      rw [← q, ho] at ho'; cases ho'; rw [hd] at hd'; cases hd'
    refine k env.locals h' _ (.inl rfl) (fun q => by rw [hk] at q; cases q) (fun _ => rfl) hkeep (R.quiet (fun b => b = env.locals) (fun b o hb e => hkeep b o hb e) fun b hb => ⟨hb ▸ V.lown.1, hb ▸ V.lown.2, hb ▸ hz, .inr (hb ▸ hh)⟩) ?_
    have hR := @hrep h' env.locals V.lown.1 hz hkeep
    refine ⟨V.kind, V.names.trans hn.symm, V.globals, V.builtins, ⟨_, hn', fun j y d' a b e => ?_⟩, fun y b => ?_, fun j y d' a b e q l => ?_, V.apart, V.lown, fun y a e => ⟨(V.cown y a e).1, (V.cown y a e).2.1, ?_⟩, hfr ▸ funFrames_mono V.frs (fun b _ o e hnf => ?_), hfr ▸ V.frn, fun q => hfr ▸ V.hd (hco ▸ q)⟩
    · rcases hC j y a with ⟨rfl, rfl⟩ | ⟨h1, h2, h3⟩
      · rcases loc_set e with ⟨_, rfl⟩ | ⟨h1, _⟩
        · exact ⟨v, by simp, hR rv⟩
        · exact absurd rfl h1
      · rcases loc_set e with ⟨h4, _⟩ | ⟨_, h4⟩
        · exact absurd h4 h1
        · refine el12 (hv j y d' h3 (hn ▸ b) h4) fun v' p q => ?_
          exact ⟨v', by rw [if_neg h2]; exact p, hR q⟩
    · obtain ⟨a, ov, h1, h2⟩ := V.has y (hn ▸ b)
      exact ⟨a, ov, h1, hcl y a ov h1 h2⟩
    · rcases hC j y b with ⟨rfl, rfl⟩ | ⟨h1, h2, h3⟩
      · rw [hn, hk] at e; cases e
      · rcases loc_set q with ⟨h4, _⟩ | ⟨_, h4⟩
        · exact absurd h4 h1
        · refine el12 (V.cell j y d' a h3 (hn ▸ e) h4 l) fun v' p q => ?_
          exact ⟨v', hcl y a _ l p, hR q⟩
    · obtain ⟨_, _, ov, o, ho, hd⟩ := V.cown y a e
      refine ⟨ov, o, hkeep a o (fun q => ?_) ho, hd⟩
      refine el33 (hm) fun o' _ _ ho' hd' _ => ?_
      rw [← q, ho] at ho'; cases ho'; rw [hd] at hd'; cases hd'
    · by_cases hb : b = env.locals
      · refine el33 (hn') fun o' _ _ ho' hd' _ => ?_
        exact ⟨o', hb ▸ ho', _, _, hd'⟩
      · exact ⟨o, hkeep b o hb e, hnf⟩
  · refine el22 (V.has x hk) fun a ov h1 h2 => ?_
    refine wpAny_storeName_cell V.kind (by unfold Env.kindOf; rw [V.names]; exact hk) h1 h2 (fun h' hc hs => ?_)
    have hkeep : ∀ b o, b ≠ a → s.heap.get? b = some o → h'.get? b = some o := fun b o hb e => (hs.2 b hb).trans e
    have hz := cell_notFz h2
    have hh : Heap.Has h' a := let ⟨o, e, _⟩ := hc; ⟨o, e⟩
    have ha := V.cown x a (mem_of_lookup h1)
    have hR := @hrep h' a ha.1 hz hkeep
    have hother : ∀ y b, env.cells.lookup y = some b → y ≠ x → b ≠ a := fun y b hy hyx q => by
      subst q
      exact hyx (name_of_addr V.apart (mem_of_lookup hy) (mem_of_lookup h1))
    refine k a h' _ (.inr ⟨x, h1⟩) (fun _ => h1) (fun q => by rw [hk] at q; cases q) hkeep (R.quiet (fun b => b = a) (fun b o hb e => hkeep b o hb e) fun b hb => ⟨hb ▸ ha.1, hb ▸ ha.2.1, hb ▸ hz, .inr (hb ▸ hh)⟩) ?_
    refine ⟨V.kind, V.names.trans hn.symm, V.globals, V.builtins, ?_, fun y b => ?_, fun j y d' a' b e q l => ?_, V.apart, V.lown, fun y b e => ⟨(V.cown y b e).1, (V.cown y b e).2.1, ?_⟩, hfr ▸ funFrames_mono V.frs (fun b _ o e hnf => ?_), hfr ▸ V.frn, fun q => hfr ▸ V.hd (hco ▸ q)⟩
    · refine el12 (V.ns) fun m hm hv => ?_
      have hla : env.locals ≠ a := fun q => by
        refine el33 (hm) fun o _ _ ho hd _ => ?_
        refine el12 (h2) fun o' ho' hd' => ?_
        rw [q, ho'] at ho; cases ho; rw [hd'] at hd; cases hd
      refine ⟨m, hm.sameBut hs hla, fun j y d' a' b e => ?_⟩
      rcases hC j y a' with ⟨rfl, rfl⟩ | ⟨h3, h4, h5⟩
      · rw [hn, hk] at b; cases b
      · rcases loc_set e with ⟨h6, _⟩ | ⟨_, h6⟩
        · exact absurd h6 h3
        · refine el12 (hv j y d' h5 (hn ▸ b) h6) fun v' p q => ?_
          exact ⟨v', p, hR q⟩
    · by_cases hy : y = x
      · subst hy; exact ⟨a, _, h1, hc⟩
      · obtain ⟨b', ov', h3, h4⟩ := V.has y (hn ▸ b)
        refine el12 (h4) fun o ho hd => ?_
        exact ⟨b', ov', h3, ⟨o, hkeep b' o (hother y b' h3 hy) ho, hd⟩⟩
    · rcases hC j y b with ⟨rfl, rfl⟩ | ⟨h3, h4, h5⟩
      · rcases loc_set q with ⟨_, rfl⟩ | ⟨h6, _⟩
        · rw [h1] at l; cases l; exact ⟨v, hc, hR rv⟩
        · exact absurd rfl h6
      · rcases loc_set q with ⟨h6, _⟩ | ⟨_, h6⟩
        · exact absurd h6 h3
        · refine el12 (V.cell j y d' a' h5 (hn ▸ e) h6 l) fun v' qp1 q => ?_; obtain ⟨o, ho, hd⟩ := qp1
          exact ⟨v', ⟨o, hkeep a' o (hother y a' l h4) ho, hd⟩, hR q⟩
    · by_cases hb : b = a
      · rw [hb]; exact ⟨_, hc⟩
      · obtain ⟨_, _, ov, o, ho, hd⟩ := V.cown y b e
        exact ⟨ov, o, hkeep b o hb ho, hd⟩
    · by_cases hb : b = a
      · subst hb
        refine el12 (h2) fun o' ho' hd' => ?_
        refine el21 (hnf) fun es ep z => ?_
        rw [ho'] at e; cases e; rw [hd'] at z; cases z
      · exact ⟨o, hkeep b o hb e, hnf⟩
end

structure ExtY (Y : Addr → Prop) (ads : Ads) (σ : Store) (s : Shared) (ads' : Ads) (σ' : Store) (s' : Shared) : Prop where
  pre : ∃ r, ads' = ads ++ r
  kept : ∀ b o, ¬ Owned ads σ b → ¬ Y b → s.heap.get? b = some o → ∃ o', s'.heap.get? b = some o' ∧ SO o o'
  has : ∀ b, Heap.Has s.heap b → Heap.Has s'.heap b
  own : ∀ b, Owned ads' σ' b → Owned ads σ b ∨ s.heap.get? b = none
  rest : ∃ h tk, s' = { s with heap := h, toks := tk }

namespace ExtY
variable {Y : Addr → Prop} {Z : List Addr} {ads ads' ads'' : Ads} {σ σ' σ'' : Store} {s s' s'' : Shared}
theorem of_ext (x : Ext Z ads σ s ads' σ' s') (hY : ∀ b, Y b → ¬ Owned ads σ b) : ExtY Y ads σ s ads' σ' s' := ⟨x.pre, fun b o h _ e => x.kept b o h e, x.has, x.own, x.rest⟩
theorem sub (x : ExtY Y ads σ s ads' σ' s') : Sub ads ads' := by obtain ⟨r, rfl⟩ := x.pre; exact Sub.append _ _
theorem notOwned (x : ExtY Y ads σ s ads' σ' s') {b : Addr} (hn : ¬ Owned ads σ b) (hb : Heap.Has s.heap b) : ¬ Owned ads' σ' b := fun e => by
  obtain ⟨o, hb⟩ := hb
  rcases x.own b e with e | e
  · exact hn e
  · rw [hb] at e; cases e
theorem trans (x : ExtY Y ads σ s ads' σ' s') (y : ExtY Y ads' σ' s' ads'' σ'' s'') : ExtY Y ads σ s ads'' σ'' s'' := by
  refine ⟨?_, fun b o hn hy e => ?_, fun b e => y.has b (x.has b e), fun b e => ?_, ?_⟩
  · obtain ⟨r, rfl⟩ := x.pre; obtain ⟨q, rfl⟩ := y.pre; exact ⟨r ++ q, by simp⟩
  · exact SO.then (x.kept b o hn hy e) fun o' e' => y.kept b o' (x.notOwned hn ⟨o, e⟩) hy e'
  · rcases y.own b e with e | e
    · exact x.own b e
    · by_cases hb : Owned ads σ b
      · exact .inl hb
      · refine .inr ?_
        cases hs : s.heap.get? b with
        | none => rfl
        | some o =>
          obtain ⟨o', q⟩ := x.has b ⟨o, hs⟩; rw [e] at q; cases q
  · refine el21 (x.rest) fun h tk qe2 => ?_; subst qe2; refine el21 (y.rest) fun h' tk' qe3 => ?_; subst qe3; exact ⟨h', tk', rfl⟩
theorem refl : ExtY Y ads σ s ads σ s := ⟨⟨[], by simp⟩, fun _ _ _ _ e => SO.of e, fun _ e => e, fun _ e => .inl e, ⟨s.heap, s.toks, rfl⟩⟩
theorem one {a : Addr} {h : Heap} {tk : Nat} (hk : ∀ b o, b ≠ a → s.heap.get? b = some o → h.get? b = some o) (hy : Y a) (hh : Heap.Has h a) : ExtY Y ads σ s ads σ { s with heap := h, toks := tk } :=
  ⟨⟨[], by simp⟩, fun b o _ y e => SO.of (hk b o (fun q => y (q ▸ hy)) e), fun b e => by
    by_cases q : b = a
    · rw [q]; exact hh
    · exact e.kept fun o => hk b o q, fun _ e => .inl e, ⟨h, tk, rfl⟩⟩
theorem mono {Y' : Addr → Prop} (x : ExtY Y ads σ s ads' σ' s') (h : ∀ b, Y b → Y' b) (h2 : ∀ b, Y' b → ¬ Owned ads σ b) : ExtY Y' ads σ s ads' σ' s' :=
  ⟨x.pre, fun b o hn hy e => x.kept b o hn (fun q => hy (h b q)) e, x.has, x.own, x.rest⟩
theorem rep {X : Txt} {d : D} {v : Value} (x : ExtY Y ads σ s ads' σ' s') (hY : ∀ b o, Y b → s.heap.get? b = some o → Fz o → WW Z ads σ b) (r : Rep X ads (WW Z ads σ) s.heap d v) : Rep X ads' (WW Z ads' σ') s'.heap d v := by
  refine Rep.mono x.sub (fun a o hw hz e => SO.ex (x.kept a o (fun q => hw (.inr q)) (fun q => hw (hY a o q e hz)) e) hz.nd) (fun a o e hw => ?_) d v r
  rcases hw with hw | hw
  · exact .inl hw
  · rcases x.own a hw with q | q
    · exact .inr q
    · rw [e] at q; cases q
theorem repL {X : Txt} {d : List D} {v : List Value} (x : ExtY Y ads σ s ads' σ' s') (hY : ∀ b o, Y b → s.heap.get? b = some o → Fz o → WW Z ads σ b) (r : RepL X ads (WW Z ads σ) s.heap d v) : RepL X ads' (WW Z ads' σ') s'.heap d v := by
  refine RepL.mono x.sub (fun a o hw hz e => SO.ex (x.kept a o (fun q => hw (.inr q)) (fun q => hw (hY a o q e hz)) e) hz.nd) (fun a o e hw => ?_) d v r
  rcases hw with hw | hw
  · exact .inl hw
  · rcases x.own a hw with q | q
    · exact .inr q
    · rw [e] at q; cases q
end ExtY

end Mine
end
section
open PySem PySem.W PyProof.Rows PySem.SeqAt PySem.MeetsSeq
namespace Mine

noncomputable def O.locked : O → Bool
  | .llist _ => true
  | .ldict _ => true
  | _ => false
noncomputable def Lk (σ σ' : Store) : Prop := ∀ (k : Nat) (o : O), σ[k]? = some o → o.locked = true → σ'[k]? = some o
theorem Lk.refl (σ : Store) : Lk σ σ := fun _ _ e _ => e
theorem Lk.trans {a b c : Store} (x : Lk a b) (y : Lk b c) : Lk a c := fun k o e h => y k o (x k o e h) h
theorem Lk.append (σ r : Store) : Lk σ (σ ++ r) := fun k o e _ => by
  have hk : k < σ.length := (List.getElem?_eq_some_iff.mp e).1
  rw [List.getElem?_append_left hk]; exact e
theorem Lk.set {σ : Store} {k : Nat} {o o' : O} (h : σ[k]? = some o) (hl : o.locked = false) : Lk σ (σ.set k o') := fun j x e hx => by
  by_cases hj : k = j
  · subst hj; rw [h] at e; cases e; rw [hl] at hx; cases hx
  · rw [List.getElem?_set_ne hj]; exact e
noncomputable def LkF (F : Fun) : Prop := ∀ f args σ d σ', F f args σ = some (d, σ') → Lk σ σ'

noncomputable def LkO {α : Type} (σ : Store) (st : α → Store) (m : Option α) : Prop := ∀ a, m = some a → Lk σ (st a)
section
variable {α β : Type} {σ : Store} {st : α → Store}
theorem LkO.bind {st' : β → Store} {m : Option α} {f : α → Option β} (x : LkO σ st m) (y : ∀ a, LkO (st a) st' (f a)) : LkO σ st' (m.bind f) := fun b e => bd1 e fun a h1 h2 => (x a h1).trans (y a b h2)
theorem LkO.gd {γ : Type} {m : Option γ} {f : γ → Option α} (y : ∀ a, LkO σ st (f a)) : LkO σ st (m.bind f) := fun b e => bd1 e fun a _ h2 => y a b h2
theorem LkO.gd' {γ : Type} {m : Option γ} {f : γ → Option α} (y : ∀ a, m = some a → LkO σ st (f a)) : LkO σ st (m.bind f) := fun b e => bd1 e fun a h1 h2 => y a h1 b h2
theorem LkO.some {a : α} (x : Lk σ (st a)) : LkO σ st (some a) := fun b e => Option.some.inj e ▸ x
theorem LkO.none : LkO σ st .none := fun b e => no_el e
theorem LkO.cond {t : Bool} {a b : Option α} (x : LkO σ st a) (y : LkO σ st b) : LkO σ st (bif t then a else b) := by cases t; exact y; exact x
theorem LkO.ite {p : Prop} [Decidable p] {a b : Option α} (x : LkO σ st a) (y : LkO σ st b) : LkO σ st (if p then a else b) := by split; exact x; exact y
theorem LkO.arg1 {args : List D} {f : D → Option α} (x : ∀ d, LkO σ st (f d)) : LkO σ st (Mine.arg1 args f) := by
  unfold Mine.arg1; split
  · exact x _
  · exact LkO.none
theorem LkO.arg2 {args : List D} {f : D → D → Option α} (x : ∀ d e, LkO σ st (f d e)) : LkO σ st (Mine.arg2 args f) := by
  unfold Mine.arg2; split
  · exact x _ _
  · exact LkO.none
theorem LkO.arg0 {args : List D} {f : Option α} (x : LkO σ st f) : LkO σ st (Mine.arg0 args f) := by
  unfold Mine.arg0; split
  · exact x
  · exact LkO.none
end
noncomputable abbrev s2 {α : Type} : α × Store → Store := fun p => p.2
noncomputable abbrev s3 {α β : Type} : α × β × Store → Store := fun p => p.2.2

theorem lk_bltin {b : B} {σ : Store} {args : List D} : LkO σ s2 (bltin b σ args) := by
  cases b
  case abs => exact .arg1 fun _ => .gd fun _ => .some (.refl _)
  case len => exact .arg1 fun _ => .gd fun _ => .some (.refl _)
  case range => exact .gd fun _ => .ite (.some (.refl _)) .none
  case sorted => exact .arg1 fun _ => .gd fun _ => .gd fun _ => .ite (.some (.refl _)) .none
  case sum => exact .arg1 fun _ => .gd fun _ => .gd fun _ => .some (.refl _)
  case min => exact .arg1 fun _ => .gd fun _ => .gd fun _ => .gd fun _ => .some (.refl _)
  case divmod => exact .arg2 fun _ _ => .gd fun _ => .gd fun _ => .ite (.some (.refl _)) .none
  case list => exact .arg1 fun _ => .gd fun _ => .some (.append _ _)
  case tuple => exact .arg1 fun _ => .gd fun _ => .some (.refl _)
  case bool => exact .arg1 fun _ => .gd fun _ => .some (.refl _)
  case iter => exact .arg1 fun _ => .gd fun _ => .gd fun _ => .some (.append _ _)
  case set => exact .arg0 (.some (.append _ _))
theorem lk_onList {σ : Store} {o : D} {f : List D → Option (D × List D)} : LkO σ s2 (onList σ o f) :=
  .gd fun k => .gd' fun l hl => .gd fun p => .some (bd1 hl fun o ho hl => .set ho (oList_inv hl ▸ rfl))
theorem lk_bmeth {m : BM} {σ : Store} {o : D} {args : List D} : LkO σ s2 (bmeth m σ o args) := by
  cases m
  case append => exact .arg1 fun _ => lk_onList
  case extend => exact .arg1 fun _ => .gd fun _ => lk_onList
  case index => exact .arg1 fun _ => .gd fun _ => .gd fun _ => .some (.refl _)
  case count => exact .arg1 fun _ => .gd fun _ => .gd fun _ => .some (.refl _)
  case pop =>
    cases args
    case nil => exact lk_onList
    case cons => exact .arg0 (.gd fun _ => lk_onList)
  case clear => exact .arg0 lk_onList
  case get => exact .arg1 fun _ => .gd fun _ => .gd fun _ => .some (.refl _)
  case add => exact .arg1 fun _ => .gd fun _ => .gd fun _ => .gd' fun es hl => .ite (.some (bd1 hl fun o ho hl => .set ho (oSet_inv hl ▸ rfl))) .none
theorem lk_setItem {σ : Store} {o i v : D} : LkO σ id (setItem σ o i v) :=
  .gd fun _ => .gd fun _ => .gd' fun es hl => .ite (.some (bd1 hl fun o ho hl => .set ho (oDict_inv hl ▸ rfl))) .none
theorem lk_setAttr {σ : Store} {o v : D} {a : Nat} : LkO σ id (setAttr σ o a v) :=
  .gd fun _ => .gd' fun p hl => .ite (.some (bd1 hl fun o ho hl => .set ho (oInst_inv hl ▸ rfl))) .none

theorem lk_overL {f : D → Store → Option (List D × Store)} (hf : ∀ d σ, LkO σ s2 (f d σ)) : ∀ (l : List D) (σ : Store), LkO σ s2 (overL f l σ)
  | [], _ => .some (.refl _)
  | d :: ds, σ => (hf d σ).bind fun p => (lk_overL hf ds p.2).bind fun q => .some (.refl _)
theorem unlO_locked {o o' : O} (e : unlO o = some o') : o.locked = true ∧ o'.locked = false := by cases o <;> first | exact no_el e | exact ⟨rfl, Option.some.inj e ▸ rfl⟩
theorem Lk.lockD {σ σ1 σ2 : Store} {k : Nat} {o o' : O} (h : σ[k]? = some o) (hl : o.locked = false) (x : Lk (σ.set k o') σ1) (y : unlock σ1 k = some σ2) : Lk σ σ2 := fun j q e hq => by
  have hj : k ≠ j := fun z => by subst z; rw [h] at e; cases e; rw [hl] at hq; cases hq
  refine bd1 y fun u _ y => ?_
  rw [← Option.some.inj y, List.getElem?_set_ne hj]
  exact x j q (by rw [List.getElem?_set_ne hj]; exact e) hq

theorem bind_some {α β : Type} {x : Option α} {f : α → Option β} {b : β} (e : x.bind f = some b) : ∃ a, x = some a ∧ f a = some b := Option.bind_eq_some_iff.mp e

mutual
theorem lk_ev {X : Env'} (hF : LkF X.F) : ∀ (x : E) (ρ : Loc) (σ : Store), LkO σ s2 (ev X x ρ σ)
  | .var _, _, _ => .gd fun _ => .some (.refl _)
  | .glob _, _, _ => .gd fun _ => .some (.refl _)
  | .none, _, _ => .some (.refl _)
  | .bool _, _, _ => .some (.refl _)
  | .int _, _, _ => .some (.refl _)
  | .bin op a b, ρ, σ => (lk_ev hF a ρ σ).bind fun p => (lk_ev hF b ρ p.2).bind fun q => .gd fun _ => .some (.refl _)
  | .neg a, ρ, σ => (lk_ev hF a ρ σ).bind fun p => .gd fun _ => .some (.refl _)
  | .not a, ρ, σ => (lk_ev hF a ρ σ).bind fun p => .gd fun _ => .some (.refl _)
  | .cmp op a b, ρ, σ => (lk_ev hF a ρ σ).bind fun p => (lk_ev hF b ρ p.2).bind fun q => .gd fun _ => .some (.refl _)
  | .and a b, ρ, σ => (lk_ev hF a ρ σ).bind fun p => .gd fun _ => .cond (lk_ev hF b ρ p.2) (.some (.refl _))
  | .or a b, ρ, σ => (lk_ev hF a ρ σ).bind fun p => .gd fun _ => .cond (.some (.refl _)) (lk_ev hF b ρ p.2)
  | .ite x a b, ρ, σ => (lk_ev hF x ρ σ).bind fun p => .gd fun _ => .cond (lk_ev hF a ρ p.2) (lk_ev hF b ρ p.2)
  | .list m es, ρ, σ => (lk_evs hF es ρ σ).bind fun p => .gd fun _ => .cond (.some (.append _ _)) (.some (.refl _))
  | .tup es, ρ, σ => (lk_evs hF es ρ σ).bind fun p => .ite (.some (.refl _)) .none
  | .dict0, _, _ => .some (.append _ _)
  | .call f args, ρ, σ => (lk_evs hF args ρ σ).bind fun p => fun q e => hF _ _ _ _ _ e
  | .new c args, ρ, σ => (lk_evs hF args ρ σ).bind fun p => LkO.bind (st := s2) (fun q e => (Lk.append _ _).trans (hF _ _ _ _ _ e)) fun q => .some (.refl _)
  | .bi b args, ρ, σ => (lk_evs hF args ρ σ).bind fun p => lk_bltin
  | .callv f args, ρ, σ => (lk_ev hF f ρ σ).bind fun p => (lk_evs hF args ρ p.2).bind fun q => .gd fun _ => fun q e => hF _ _ _ _ _ e
  | .umeth o f args, ρ, σ => (lk_ev hF o ρ σ).bind fun p => .cond ((lk_evs hF args ρ p.2).bind fun q => fun q e => hF _ _ _ _ _ e) .none
  | .bmeth o m args, ρ, σ => (lk_ev hF o ρ σ).bind fun p => .cond ((lk_evs hF args ρ p.2).bind fun q => lk_bmeth) .none
  | .star x, ρ, σ => .none
  | .attr o a, ρ, σ => (lk_ev hF o ρ σ).bind fun p => .gd fun _ => .some (.refl _)
  | .nextOf o, ρ, σ => (lk_ev hF o ρ σ).bind fun p => .gd fun _ => .gd fun _ => .ite (.some (.append _ _)) .none
  | .idx o i, ρ, σ => (lk_ev hF o ρ σ).bind fun p => (lk_ev hF i ρ p.2).bind fun q => .gd fun _ => .some (.refl _)
  | .slice o lo hi, ρ, σ => (lk_ev hF o ρ σ).bind fun p => (lk_evo hF lo ρ p.2).bind fun q => (lk_evo hF hi ρ q.2).bind fun r => .gd fun _ => .gd fun _ => .some (.refl _)
  | .comp m elt gens, ρ, σ => (lk_evg hF gens (fun ρ σ => lk_ev hF elt ρ σ) ρ σ).bind fun p => .gd fun _ => .cond (.some (.append _ _)) (.some (.refl _))
theorem lk_evs {X : Env'} (hF : LkF X.F) : ∀ (xs : List E) (ρ : Loc) (σ : Store), LkO σ s2 (evs X xs ρ σ)
  | [], ρ, σ => .some (.refl _)
  | x :: xs, ρ, σ => by
    cases hx : isStar x
    · rw [evs_cons hx]
      exact (lk_ev hF x ρ σ).bind fun p => (lk_evs hF xs ρ p.2).bind fun q => .some (.refl _)
    · cases x <;> first | exact Bool.noConfusion hx | skip
      exact (lk_ev hF _ ρ σ).bind fun p => .gd fun _ => (lk_evs hF xs ρ p.2).bind fun q => .some (.refl _)
theorem lk_evo {X : Env'} (hF : LkF X.F) : ∀ (x : Option E) (ρ : Loc) (σ : Store), LkO σ s2 (evo X x ρ σ)
  | .none, ρ, σ => .some (.refl _)
  | some x, ρ, σ => (lk_ev hF x ρ σ).bind fun p => .some (.refl _)
theorem lk_evc {X : Env'} (hF : LkF X.F) : ∀ (xs : List E) (ρ : Loc) (σ : Store), LkO σ s2 (evc X xs ρ σ)
  | [], ρ, σ => .some (.refl _)
  | x :: xs, ρ, σ => (lk_ev hF x ρ σ).bind fun p => .gd fun _ => .cond (lk_evc hF xs ρ p.2) (.some (.refl _))
theorem lk_evi {X : Env'} (hF : LkF X.F) : ∀ (x : It) (ρ : Loc) (σ : Store) {σ1 σ2 σ' : Store} {l : List D} {u : Option Nat}, evi X x ρ σ = some (l, σ1, u) → Lk σ1 σ2 → unlockO σ2 u = some σ' → Lk σ σ'
  | .e x, ρ, σ, σ1, σ2, σ', l, u, e, h, h2 => bd1 e fun p h1 e => bd1 e fun _ _ e => sm3 e fun _ e2 e3 => by
    subst e2; subst e3
    exact ((lk_ev hF x ρ σ p h1).trans h).trans (Option.some.inj h2 ▸ .refl _)
  | .zip a b, ρ, σ, σ1, σ2, σ', l, u, e, h, h2 => bd1 e fun p h1 e => bd1 e fun q h3 e => bd1 e fun _ _ e => bd1 e fun _ _ e => sm3 e fun _ e2 e3 => by
    subst e2; subst e3
    exact (((lk_ev hF a ρ σ p h1).trans (lk_ev hF b ρ p.2 q h3)).trans h).trans (Option.some.inj h2 ▸ .refl _)
  | .vals o, ρ, σ, σ1, σ2, σ', l, u, e, h, h2 => bd1 e fun p h1 e => bd1 e fun k _ e => bd1 e fun es hl e => bd1 hl fun x hx hl => sm3 e fun _ e2 e3 => by
    subst e2; subst e3
    exact (lk_ev hF o ρ σ p h1).trans (Lk.lockD hx (oDict_inv hl ▸ rfl) h h2)
theorem lk_evg {X : Env'} (hF : LkF X.F) : ∀ (gs : List G) {fe : Loc → Store → Option (D × Store)}, (∀ ρ σ, LkO σ s2 (fe ρ σ)) → ∀ (ρ : Loc) (σ : Store), LkO σ s2 (evg X gs fe ρ σ)
  | [], fe, hfe, ρ, σ => (hfe ρ σ).bind fun p => .some (.refl _)
  | .mk ts tupled it ifs :: gs, fe, hfe, ρ, σ => fun r e => bd3 e fun l σ1 u h1 e => bd2 e fun rs σ2 h2 e => bd1 e fun σ3 h3 e => by
    rw [← Option.some.inj e]
    exact lk_evi hF it ρ σ h1 (lk_overL (fun d σ => .gd fun ρ' => (lk_evc hF ifs ρ' σ).bind fun q => .cond (lk_evg hF gs hfe ρ' q.2) (.some (.refl _))) l σ1 _ h2) h3
end

end Mine
end
section
open PySem PySem.W PyProof.Rows PySem.SeqAt PySem.MeetsSeq
namespace Mine

inductive ItAt (c : Cst) (Z : List Addr) (lk : Nat → Nat) (ads : Ads) (σ : Store) (h : Heap) (I : Addr) : List D → Prop
  | list {l : Addr} {vs : List Value} {i : Nat} {ds : List D} : h.IsListIter I l i → h.PlainList l (List.toArray vs) → ¬ WW Z ads σ l → c.PL Z ads σ h ds (vs.drop i) → ItAt c Z lk ads σ h I ds
  | tup {t : Addr} {vs : List Value} {i m : Nat} {ds : List D} : h.IsTupleIter I t i → h.get? t = some { cls := .type "tuple", data := .seq (List.toArray vs) m } → ¬ WW Z ads σ t → c.PL Z ads σ h ds (vs.drop i) → ItAt c Z lk ads σ h I ds
  | rng {a b : Int} : IsRangeIter h I a ((b - a).toNat : Int) 1 → ItAt c Z lk ads σ h I (rngL a b)
  | llist {k : Nat} {p : Addr × Addr} {l : List D} {i : Nat} : ads[k]? = some p → σ[k]? = some (.llist l) → h.IsListIter I p.1 i → ItAt c Z lk ads σ h I (l.drop i)
  | keys {k : Nat} {p : Addr × Addr} {es : List (Int × D)} {i : Nat} : ads[k]? = some p → σ[k]? = some (.ldict es) → h.IsKeyIter I p.1 i es.length (lk k) → ItAt c Z lk ads σ h I ((es.drop i).map fun e => .int e.1)
  | vals {k : Nat} {p : Addr × Addr} {es : List (Int × D)} {i : Nat} : ads[k]? = some p → σ[k]? = some (.ldict es) → h.IsValIter I p.1 i es.length (lk k) → ItAt c Z lk ads σ h I ((es.drop i).map (·.2))

noncomputable def ItK (o : Obj) : Prop := (o.cls = .type "list_iterator" ∨ o.cls = .type "tuple_iterator" ∨ o.cls = .type "range_iterator" ∨ o.cls = .type "dict_keyiterator" ∨ o.cls = .type "dict_valueiterator") ∧ ∃ vs, o.data = .fields vs

theorem ItK.nd {o : Obj} (x : ItK o) : Nd o := fun es ep q => by obtain ⟨_, vs, e⟩ := x; rw [e] at q; cases q
theorem ItK.notFz {o : Obj} (x : ItK o) : ¬ Fz o := by
  obtain ⟨hc, vs, hd⟩ := x
  rintro (⟨xs, n, q⟩ | ⟨q, _⟩)
  · rw [hd] at q; cases q
  · rcases hc with hc | hc | hc | hc | hc <;> rw [hc] at q <;> injection q with q <;> exact absurd q (by decide)

section
variable {c : Cst} {A : Around} {Z : List Addr} {lk : Nat → Nat} {s : Shared} {ads : Ads} {σ σ' : Store} {n : Nat} {C : SC} {W : Addr → Prop} {h : Heap}

theorem ItAt.obj {I : Addr} {ds : List D} (x : ItAt c Z lk ads σ h I ds) : ∃ o, h.get? I = some o ∧ ItK o := by
  cases x with
  | list a _ _ _ => refine el13 (a) fun o h1 h2 h3 => ?_; exact ⟨o, h1, .inl h2, _, h3⟩
  | tup a _ _ _ => refine el13 (a) fun o h1 h2 h3 => ?_; exact ⟨o, h1, .inr (.inl h2), _, h3⟩
  | rng a => exact ⟨_, a, .inr (.inr (.inl rfl)), _, rfl⟩
  | llist _ _ a => refine el13 (a) fun o h1 h2 h3 => ?_; exact ⟨o, h1, .inl h2, _, h3⟩
  | keys _ _ a => refine el13 (a) fun o h1 h2 h3 => ?_; exact ⟨o, h1, .inr (.inr (.inr (.inl h2))), _, h3⟩
  | vals _ _ a => refine el13 (a) fun o h1 h2 h3 => ?_; exact ⟨o, h1, .inr (.inr (.inr (.inr h2))), _, h3⟩

theorem ItAt.mono {ads' : Ads} {h' : Heap} {I : Addr} {ds : List D} {Z' : List Addr} (x : ItAt c Z lk ads σ h I ds) (hp : Sub ads ads') (hl : Lk σ σ') (hI : ∀ o, h.get? I = some o → h'.get? I = some o)
    (hk : ∀ a o, ¬ WW Z ads σ a → Fz o → h.get? a = some o → h'.get? a = some o) (hW : ∀ a o, h.get? a = some o → WW Z' ads' σ' a → WW Z ads σ a) : ItAt c Z' lk ads' σ' h' I ds := by
  cases x with
  | list a b d e =>
    refine el12 (a) fun o h1 h2 => ?_; obtain ⟨m, h3⟩ := b
    exact .list ⟨o, hI o h1, h2⟩ ⟨m, hk _ _ d (.inl ⟨_, _, rfl⟩) h3⟩ (fun q => d (hW _ _ h3 q)) (RepL.mono hp hk hW _ _ e)
  | tup a b d e =>
    refine el12 (a) fun o h1 h2 => ?_
    exact .tup ⟨o, hI o h1, h2⟩ (hk _ _ d (.inl ⟨_, _, rfl⟩) b) (fun q => d (hW _ _ b q)) (RepL.mono hp hk hW _ _ e)
  | rng a => exact .rng (hI _ a)
  | llist a b d => refine el12 (d) fun o h1 h2 => ?_; exact .llist (hp _ _ a) (hl _ _ b rfl) ⟨o, hI o h1, h2⟩
  | keys a b d => refine el12 (d) fun o h1 h2 => ?_; exact .keys (hp _ _ a) (hl _ _ b rfl) ⟨o, hI o h1, h2⟩
  | vals a b d => refine el12 (d) fun o h1 h2 => ?_; exact .vals (hp _ _ a) (hl _ _ b rfl) ⟨o, hI o h1, h2⟩

theorem ItAt.ext {ads' : Ads} {s' : Shared} {I : Addr} {ds : List D} (x : ItAt c Z lk ads σ s.heap I ds) (hI : ¬ Owned ads σ I) (e : Ext Z ads σ s ads' σ' s') (hl : Lk σ σ') : ItAt c Z lk ads' σ' s'.heap I ds :=
  x.mono e.sub hl (fun o q => SO.ex (e.kept I o hI q) (ItK.nd (let ⟨o', h1, h2⟩ := x.obj; by rw [h1] at q; cases q; exact h2))) e.fz e.ww

theorem rngL_cons {a b : Int} (h : a < b) : rngL a b = .int a :: rngL (a + 1) b := by
  unfold rngL
  have : (b - a).toNat = (b - (a + 1)).toNat + 1 := by omega
  rw [this, List.range_succ_eq_map, List.map_cons, List.map_map]
  simp only [List.cons.injEq]
  refine ⟨by simp, ?_⟩
  apply List.map_congr_left
  intro i _
  dsimp only [Function.comp]
  congr 1
  omega
theorem rngL_nil {a b : Int} (h : b ≤ a) : rngL a b = [] := by
  unfold rngL
  have : (b - a).toNat = 0 := by omega
  rw [this]; rfl

theorem drop_cons {α : Type} {l : List α} {i : Nat} {d : α} {ds : List α} (e : l.drop i = d :: ds) : l[i]? = some d ∧ l.drop (i + 1) = ds := by
  have hi : i < l.length := by
    rcases Nat.lt_or_ge i l.length with h | h
    · exact h
    · rw [List.drop_of_length_le h] at e; cases e
  rw [List.drop_eq_getElem_cons hi] at e
  cases e
  exact ⟨List.getElem?_eq_getElem hi, rfl⟩
theorem drop_nil {α : Type} {l : List α} {i : Nat} (e : l.drop i = []) : l[i]? = none := by
  rw [List.getElem?_eq_none_iff]
  exact List.drop_eq_nil_iff.mp e

theorem PairsL.get {X : Txt} : ∀ {es : List (Int × D)} {kvs : List (Int × Value)}, PairsL X ads W h es kvs → ∀ {i : Nat} {e : Int × D}, es[i]? = some e → ∃ v, kvs[i]? = some (e.1, v) ∧ Rep X ads W h e.2 v
  | [], _, _, i, e, q => by simp at q
  | (j, d) :: r, _, x, i, e, q => by
    refine el23 (x) fun v t qe102 h1 h2 => ?_; subst qe102
    cases i with
    | zero => simp at q; subst q; exact ⟨v, by simp, h1⟩
    | succ i => simp at q; refine el12 (PairsL.get h2 q) fun v' a b => ?_; exact ⟨v', by simpa using a, b⟩
theorem PairsL.length {X : Txt} {es : List (Int × D)} {kvs : List (Int × Value)} (x : PairsL X ads W h es kvs) : kvs.length = es.length := by
  have := congrArg List.length x.keys; simpa using this

theorem next_state {I : Addr} {h' : Heap} (R : c.R Z lk s.heap ads σ) {o : Obj} (ho : s.heap.get? I = some o) (hk : ItK o) (hw : ¬ WW Z ads σ I) (hb : c.h₀.get? I = none) (he : ∀ b x, b ≠ I → s.heap.get? b = some x → h'.get? b = some x) :
    c.R Z lk h' ads σ ∧ (∀ a o, ¬ WW Z ads σ a → Fz o → s.heap.get? a = some o → h'.get? a = some o) := by
  refine ⟨R.quiet (fun b => b = I) (fun b x y e => he b x y e) fun b y => ?_, fun a x _ hz e => he a x (fun q => ?_) e⟩
  · subst y
    exact ⟨fun q => hw (.inr q), hb, fun x e => (by rw [ho] at e; cases e; exact hk.notFz), .inl fun q => hw (.inl q)⟩
  · subst q; rw [ho] at e; cases e; exact hk.notFz hz

theorem next_item {I : Addr} {d : D} {ds : List D} (R : c.R Z lk s.heap ads σ) (x : ItAt c Z lk ads σ s.heap I (d :: ds)) (hw : ¬ WW Z ads σ I) (hb : c.h₀.get? I = none) {Q : Option Value → Shared → Prop} {E : Value → Shared → Prop}
    (k : ∀ v h' tk, (∀ b o, b ≠ I → s.heap.get? b = some o → h'.get? b = some o) → c.R Z lk h' ads σ → c.P Z ads σ h' d v → ItAt c Z lk ads σ h' I ds → Q (some v) { s with heap := h', toks := tk }) :
    wpAny (model c.prog c.w) A (pyNext (.ref I)) Q E s := by
  refine el12 (x.obj) fun o ho hK => ?_
  have st := fun {h' : Heap} he => next_state (h' := h') R ho hK hw hb he
  generalize hds : d :: ds = l at x
  cases x with
  | list a b q e =>
    subst hds
    rename_i la vs i
    refine el23 (e) fun v rest hv r1 r2 => ?_
    obtain ⟨h1, h2⟩ := drop_cons hv
    refine wpAny_pyNext_list_item a (PlainList.isList b) (by simpa using h1) fun h' hit hs => ?_
    have he : ∀ b x, b ≠ I → s.heap.get? b = some x → h'.get? b = some x := fun b x hb e => (hs.2 b hb).trans e
    obtain ⟨R', hz⟩ := st he
    obtain ⟨m, b⟩ := b
    exact k v h' _ he R' (Rep.mono (Sub.refl _) hz (fun _ _ _ x => x) _ _ r1) (.list hit ⟨m, hz _ _ q (.inl ⟨_, _, rfl⟩) b⟩ q (by rw [h2]; exact RepL.mono (Sub.refl _) hz (fun _ _ _ x => x) _ _ r2))
  | tup a b q e =>
    subst hds
    rename_i la vs i m
    refine el23 (e) fun v rest hv r1 r2 => ?_
    obtain ⟨h1, h2⟩ := drop_cons hv
    refine wpAny_pyNext_tuple_item a ⟨_, b, rfl, m, rfl⟩ (by simpa using h1) fun h' hit hs => ?_
    have he : ∀ b x, b ≠ I → s.heap.get? b = some x → h'.get? b = some x := fun b x hb e => (hs.2 b hb).trans e
    obtain ⟨R', hz⟩ := st he
    exact k v h' _ he R' (Rep.mono (Sub.refl _) hz (fun _ _ _ x => x) _ _ r1) (.tup hit (hz _ _ q (.inl ⟨_, _, rfl⟩) b) q (by rw [h2]; exact RepL.mono (Sub.refl _) hz (fun _ _ _ x => x) _ _ r2))
  | rng a =>
    rename_i x y
    have hlt : x < y := by
      rcases Int.lt_or_le x y with q | q
      · exact q
      · rw [rngL_nil q] at hds; cases hds
    rw [rngL_cons hlt] at hds
    cases hds
    refine wpAny_pyNext_range_item a (by omega) fun h' hit hs => ?_
    have he : ∀ b x, b ≠ I → s.heap.get? b = some x → h'.get? b = some x := fun b x hb e => (hs.2 b hb).trans e
    obtain ⟨R', hz⟩ := st he
    refine k _ h' _ he R' ⟨_, rfl⟩ (.rng ?_)
    have : (((y - x).toNat : Int) - 1) = ((y - (x + 1)).toNat : Int) := by omega
    rw [this] at hit; exact hit
  | llist a b q =>
    rename_i kk p l i
    obtain ⟨h1, h2⟩ := drop_cons hds.symm
    refine el14 (R.objs _ _ _ a b) fun vs hp hr hl _ => ?_
    refine el12 (hr.get h1) fun v hv rv => ?_
    refine wpAny_pyNext_list_item q (PlainList.isList hp) (by simpa using hv) fun h' hit hs => ?_
    have he : ∀ b x, b ≠ I → s.heap.get? b = some x → h'.get? b = some x := fun b x hb e => (hs.2 b hb).trans e
    obtain ⟨R', hz⟩ := st he
    exact k v h' _ he R' (Rep.mono (Sub.refl _) hz (fun _ _ _ x => x) _ _ rv) (h2 ▸ .llist a b hit)
  | keys a b q =>
    rename_i kk p es i
    cases hes : es.drop i with
    | nil => rw [hes] at hds; cases hds
    | cons e rest =>
      rw [hes] at hds; cases hds
      obtain ⟨h1, h2⟩ := drop_cons hes
      refine el14 (R.objs _ _ _ a b) fun kvs hp hr hl _ => ?_
      refine el12 (hr.get h1) fun v hv rv => ?_
      have hlen := hr.length
      rw [← hlen] at q
      refine wpAny_pyNext_dict_item q hp hv fun key h' hkey hit hs => ?_
      have he : ∀ b x, b ≠ I → s.heap.get? b = some x → h'.get? b = some x := fun b x hb e => (hs.2 b hb).trans e
      obtain ⟨R', hz⟩ := st he
      obtain ⟨t, rfl⟩ := Value.isInt_shape hkey
      rw [hlen] at hit
      exact k _ h' _ he R' ⟨t, rfl⟩ (h2 ▸ .keys a b hit)
  | vals a b q =>
    rename_i kk p es i
    cases hes : es.drop i with
    | nil => rw [hes] at hds; cases hds
    | cons e rest =>
      rw [hes] at hds; cases hds
      obtain ⟨h1, h2⟩ := drop_cons hes
      refine el14 (R.objs _ _ _ a b) fun kvs hp hr hl _ => ?_
      refine el12 (hr.get h1) fun v hv rv => ?_
      have hlen := hr.length
      rw [← hlen] at q
      refine wpAny_pyNext_values_item q hp hv fun h' hit hs => ?_
      have he : ∀ b x, b ≠ I → s.heap.get? b = some x → h'.get? b = some x := fun b x hb e => (hs.2 b hb).trans e
      obtain ⟨R', hz⟩ := st he
      rw [hlen] at hit
      exact k _ h' _ he R' (Rep.mono (Sub.refl _) hz (fun _ _ _ x => x) _ _ rv) (h2 ▸ .vals a b hit)

theorem next_end {I : Addr} (hh : A.handled = none) (R : c.R Z lk s.heap ads σ) (x : ItAt c Z lk ads σ s.heap I []) (hw : ¬ WW Z ads σ I) (hb : c.h₀.get? I = none) {Q : Option Value → Shared → Prop} {E : Value → Shared → Prop}
    (k : ∀ h' tk, (∀ b o, b ≠ I → s.heap.get? b = some o → h'.get? b = some o) → c.R Z lk h' ads σ → Q none { s with heap := h', toks := tk }) :
    wpAny (model c.prog c.w) A (pyNext (.ref I)) Q E s := by
  refine el12 (x.obj) fun o ho hK => ?_
  have fin : ∀ h', Heap.ExtBut I s.heap h' → Q none { s with heap := h' } := fun h' hs => k h' s.toks (fun b x hb e => hs b x hb e) (next_state R ho hK hw hb fun b x hb e => hs b x hb e).1
  generalize hds : ([] : List D) = l at x
  cases x with
  | list a b q e =>
    subst hds
    exact wpAny_pyNext_list_end hh a (PlainList.isList b) (by simpa using drop_nil e) fin
  | tup a b q e =>
    subst hds
    exact wpAny_pyNext_tuple_end hh a ⟨_, b, rfl, _, rfl⟩ (by simpa using drop_nil e) fin
  | rng a =>
    rename_i x y
    refine wpAny_pyNext_range_end hh a ?_ fin
    rcases Int.lt_or_le x y with q | q
    · rw [rngL_cons q] at hds; cases hds
    · omega
  | llist a b q =>
    refine el14 (R.objs _ _ _ a b) fun vs hp hr hl _ => ?_
    refine wpAny_pyNext_list_end hh q (PlainList.isList hp) ?_ fin
    have := drop_nil hds.symm
    rw [List.getElem?_eq_none_iff] at this
    simp; rw [hr.length]; exact this
  | keys a b q =>
    rename_i kk p es i
    refine el14 (R.objs _ _ _ a b) fun kvs hp hr hl _ => ?_
    have hlen := hr.length
    rw [← hlen] at q
    refine wpAny_pyNext_dict_end hh q hp ?_ fin
    have := drop_nil (List.map_eq_nil_iff.mp hds.symm)
    rw [List.getElem?_eq_none_iff] at this ⊢
    rw [hlen]; exact this
  | vals a b q =>
    rename_i kk p es i
    refine el14 (R.objs _ _ _ a b) fun kvs hp hr hl _ => ?_
    have hlen := hr.length
    rw [← hlen] at q
    refine wpAny_pyNext_values_end hh q hp ?_ fin
    have := drop_nil (List.map_eq_nil_iff.mp hds.symm)
    rw [List.getElem?_eq_none_iff] at this ⊢
    rw [hlen]; exact this

theorem iter_iter {I : Addr} {ds : List D} (x : ItAt c Z lk ads σ s.heap I ds) {Q : Value → Shared → Prop} {E : Value → Shared → Prop} (k : Q (.ref I) s) : wpAny (model c.prog c.w) A (pyIter (.ref I)) Q E s := by
  cases x with
  | list a _ _ _ => exact wpAny_pyIter_listiter a k
  | tup a _ _ _ => exact wpAny_pyIter_tupleiter a k
  | rng a => exact wpAny_pyIter_rangeiter a k
  | llist _ _ a => exact wpAny_pyIter_listiter a k
  | keys _ _ a => exact wpAny_pyIter_keyiter a k
  | vals _ _ a => exact wpAny_pyIter_valiter a k
end

end Mine
end
section
open PySem PySem.W PyProof.Rows PySem.SeqAt PySem.MeetsSeq
namespace Mine

section
variable {prog : Program} {w : World} {A : Around} {E : Value → Shared → Prop} {s : Shared} {env : Env}

noncomputable def testsOf (ifs : List Expr) (env : Env) : Sem Bool :=
  forIn ifs true fun c r => if r = true then do let ok ← isTrue c env (eval c env); pure (ForInStep.yield ok) else pure (ForInStep.yield r)

theorem compTurn_wp {elt target iter : Expr} {ifs : List Expr} {cs : List Comprehension} {scope : Scope} {pos : Pos} {depth : Nat} {it acc : Value} {Q : PySem.Fin → Shared → Prop} (hg : cs[depth]? = some ⟨target, iter, ifs, 0⟩)
    (hnext : ∀ g', cs[depth + 1]? = some g' → g'.is_async = 0 ∧ ∀ x, foldedSetIterable g'.iter env x = pure x)
    (h : wpAny (model prog w) A (pyNext it) (fun r s₁ => match r with
      | none => Q (.done .next) s₁
      | some v => wpAny (model prog w) A (letOwnedTupleGo target it v) (fun _ s₂ => wpAny (model prog w) A (assign target env v) (fun _ s₃ => wpAny (model prog w) A (testsOf ifs env) (fun ok s₄ =>
          if ok = true then (match cs[depth + 1]? with
            | some g' => wpAny (model prog w) A (eval g'.iter env) (fun x s₅ => wpAny (model prog w) A (pyIter x) (fun it' s₆ => wpAny (model prog w) A (runOwn (.compStart (.ListComp elt cs scope pos) (depth + 1) it' acc env) env) (fun _ s₇ =>
                Q (.again (.compLoop (.ListComp elt cs scope pos) depth it acc env)) s₇) E s₆) E s₅) E s₄
            | none => wpAny (model prog w) A (eval elt env) (fun x s₅ => wpAny (model prog w) A (call (.builtin "list.append") [acc, x]) (fun _ s₆ => Q (.again (.compLoop (.ListComp elt cs scope pos) depth it acc env)) s₆) E s₅) E s₄)
          else Q (.again (.compLoop (.ListComp elt cs scope pos) depth it acc env)) s₄) E s₃) E s₂) E s₁) E s) :
    wpAny (model prog w) A (compTurn (.ListComp elt cs scope pos) depth it acc env) Q E s := by
  unfold compTurn
  dsimp only
  rw [hg]
  dsimp only
  refine wpAny_bind (wpAny_standAt ?_)
  refine wpAny_bind ?_
  show wpAny (model prog w) A (pyNext it) _ E s
  refine wpAny_mono h (fun r s₁ h₁ => ?_) fun _ _ e => e
  cases r with
  | none => exact wpAny_pure h₁
  | some v =>
    refine wpAny_bind (wpAny_mono h₁ (fun _ s₂ h₂ => ?_) fun _ _ e => e)
    refine wpAny_bind (wpAny_mono h₂ (fun _ s₃ h₃ => ?_) fun _ _ e => e)
    refine wpAny_bind (wpAny_mono h₃ (fun ok s₄ h₄ => ?_) fun _ _ e => e)
    cases ok with
    | false =>
      simp only [Bool.false_eq_true, if_false] at h₄ ⊢
      exact wpAny_bind (wpAny_pure (wpAny_pure h₄))
    | true =>
      simp only [if_true] at h₄ ⊢
      cases hg' : cs[depth + 1]? with
      | none =>
        rw [hg'] at h₄
        dsimp only at h₄ ⊢
        exact wpAny_bind (wpAny_bind (wpAny_mono h₄ (fun x s₅ h₅ => wpAny_bind (wpAny_mono h₅ (fun _ s₆ h₆ => wpAny_pure (wpAny_pure h₆)) fun _ _ e => e)) fun _ _ e => e))
      | some g' =>
        rw [hg'] at h₄
        dsimp only at h₄ ⊢
        obtain ⟨ha, hf⟩ := hnext g' hg'
        refine wpAny_bind (wpAny_mono h₄ (fun x s₅ h₅ => ?_) fun _ _ e => e)
        refine wpAny_bind (wpAny_standAt ?_)
        simp only [ha, bne_self_eq_false, Bool.false_eq_true, if_false]
        rw [hf x]
        refine wpAny_bind (wpAny_pure (wpAny_bind (wpAny_holding (wpAny_mono h₅ (fun it' s₆ h₆ => ?_) fun _ _ e => e))))
        exact wpAny_bind (wpAny_mono h₆ (fun _ s₇ h₇ => wpAny_pure h₇) fun _ _ e => e)

theorem compLoop_wp {elt : Expr} {cs : List Comprehension} {scope : Scope} {pos : Pos} {depth : Nat} {it acc : Value} {R : Result → Shared → Prop} (I : Nat → Shared → Prop)
    (turn : ∀ n s, I n s → wpAny (model prog w) A (compTurn (.ListComp elt cs scope pos) depth it acc env) (fun fin s' => match fin with
      | .done f => R (.ok f) s'
      | .again c' => c' = .compLoop (.ListComp elt cs scope pos) depth it acc env ∧ ∃ m, m < n ∧ I m s') (notedBy (model prog w) A env fun e s' => R (.error e) s') s)
    (n : Nat) (h : I n s) : codeAny (model prog w) A (.compLoop (.ListComp elt cs scope pos) depth it acc env) R s := by
  refine codeAny_loop rfl I (fun n s hI => ?_) n h
  show wpAny _ _ ((compTurn (.ListComp elt cs scope pos) depth it acc env).onRaise (fun x => do noteFrame x env; theTreesLotGoes x)) _ _ s
  exact wpAny_noted (turn n s hI)

theorem compStart_wp {elt : Expr} {cs : List Comprehension} {scope : Scope} {pos : Pos} {depth : Nat} {it acc : Value} {R : Result → Shared → Prop} {g : Comprehension} (hg : cs[depth]? = some g) (hga : g.is_async = 0)
    (h0 : codeAny (model prog w) A (.compLoop (.ListComp elt cs scope pos) depth it acc env) R s)
    (h : wpAny (model prog w) A (pyIter it) (fun it' s' => codeAny (model prog w) A (.compLoop (.ListComp elt cs scope pos) depth it' acc env) R s')
      (notedBy (model prog w) A env fun x s' => R (.error x) s') s) :
    codeAny (model prog w) A (.compStart (.ListComp elt cs scope pos) depth it acc env) R s := by
  refine codeAny_of_tree ?_
  show wpAny _ _ ((compStart (.ListComp elt cs scope pos) depth it acc env).onRaise (fun x => do noteFrame x env; standAt theWindowsPlace)) _ _ s
  refine wpAny_notedAt ?_
  unfold compStart
  have hcl : clausesOf (.ListComp elt cs scope pos) = cs := rfl
  rw [hcl, hg]
  simp only [Option.elim_some, hga, bne_self_eq_false, Bool.false_eq_true, if_false]
  refine wpAny_bind (wpAny_askSetting (wpAny_ite ?_))
  split
  · first
      | exact wpAny_bind (wpAny_pure (wpAny_pure (And.intro rfl h0)))
      | exact wpAny_pure (And.intro rfl h0)
  · exact wpAny_bind (wpAny_rule (wpAny_bind (wpAny_standAt (wpAny_bind (wpAny_mono h (fun it' s' h' => wpAny_pure (And.intro rfl h')) fun _ _ x => x)))))
end

end Mine
end
section
open PySem PySem.W PyProof.Rows PySem.SeqAt PySem.MeetsSeq
namespace Mine

theorem EnvRel.monoS {c : Cst} {C : SC} {env : Env} {ρ : Loc} {Z Z' : List Addr} {ads ads' : Ads} {σ σ' : Store} {h h' : Heap} (V : EnvRel c C env ρ Z ads σ h) (hs : Sub ads ads')
    (hz : ∀ a o, ¬ WW Z ads σ a → Fz o → h.get? a = some o → h'.get? a = some o) (hW : ∀ a o, h.get? a = some o → WW Z' ads' σ' a → WW Z ads σ a)
    (hf : ∀ a o, FrA env a ∨ (∃ x, (x, a) ∈ env.cells) → h.get? a = some o → ∃ o', h'.get? a = some o' ∧ SO o o') (ho : ∀ a, ¬ Owned ads σ a → Heap.Has h a → ¬ Owned ads' σ' a) (hfr : ∀ a, a ∈ C.fr.filterMap (·.frame) → FrKeep h h' a) : EnvRel c C env ρ Z' ads' σ' h' where
  kind := V.kind
  names := V.names
  globals := V.globals
  builtins := V.builtins
  ns := by
    refine el12 (V.ns) fun m qp184 hm => ?_; obtain ⟨o, es, ep, ho, r⟩ := qp184
    refine el12 (hf _ _ (.inl (.inl rfl)) ho) fun o' ho' q' => ?_
    exact ⟨m, ⟨o', es, ep, ho', q'.1.trans r.1, r.2⟩, fun i y d a b e => let ⟨v, p, q⟩ := hm i y d a b e; ⟨v, p, Rep.mono hs hz hW _ _ q⟩⟩
  has := fun y b => by
    refine el22 (V.has y b) fun a' ov h1 qp185 => ?_; obtain ⟨o, ho, r⟩ := qp185
    exact ⟨a', ov, h1, ⟨o, SO.ex (hf _ _ (.inl (.inr ⟨y, h1⟩)) ho) (cell_nd r), r⟩⟩
  cell := fun i y d a b e q l => by
    refine el12 (V.cell i y d a b e q l) fun v qp186 h3 => ?_; obtain ⟨o, ho, r⟩ := qp186
    exact ⟨v, ⟨o, SO.ex (hf _ _ (.inl (.inr ⟨y, l⟩)) ho) (cell_nd r), r⟩, Rep.mono hs hz hW _ _ h3⟩
  apart := V.apart
  lown := ⟨ho _ V.lown.1 (let ⟨_, ⟨o, _, _, e, _⟩, _⟩ := V.ns; ⟨o, e⟩), V.lown.2⟩
  cown := fun y a e => by
    obtain ⟨h1, h2, ov, o, e1, hd⟩ := V.cown y a e
    exact ⟨ho a h1 ⟨o, e1⟩, h2, ov, o, SO.ex (hf a o (.inr ⟨y, e⟩) e1) (cell_nd hd), hd⟩
  frs := funFrames_mono V.frs hfr
  frn := fun a ha => ho a (V.frn a ha) (V.frHas' ha)
  hd := V.hd

theorem EnvRel.mono {c : Cst} {C : SC} {env : Env} {ρ : Loc} {Z Z' : List Addr} {ads ads' : Ads} {σ σ' : Store} {h h' : Heap} (V : EnvRel c C env ρ Z ads σ h) (hs : Sub ads ads')
    (hz : ∀ a o, ¬ WW Z ads σ a → Fz o → h.get? a = some o → h'.get? a = some o) (hW : ∀ a o, h.get? a = some o → WW Z' ads' σ' a → WW Z ads σ a)
    (hf : ∀ a o, FrA env a ∨ (∃ x, (x, a) ∈ env.cells) → h.get? a = some o → h'.get? a = some o) (ho : ∀ a, ¬ Owned ads σ a → Heap.Has h a → ¬ Owned ads' σ' a) (hfr : ∀ a, a ∈ C.fr.filterMap (·.frame) → FrKeep h h' a) : EnvRel c C env ρ Z' ads' σ' h' :=
  V.monoS hs hz hW (fun a o q e => SO.of (hf a o q e)) ho hfr

theorem EnvRel.frHas {c : Cst} {C : SC} {env : Env} {ρ : Loc} {Z : List Addr} {ads : Ads} {σ : Store} {h : Heap} (V : EnvRel c C env ρ Z ads σ h) {a : Addr} (x : FrA env a) : Heap.Has h a := by
  rcases x with rfl | ⟨x, e⟩
  · refine el12 (V.ns) fun m qp187 _ => ?_; obtain ⟨o, _, _, ho, _⟩ := qp187; exact ⟨o, ho⟩
  · obtain ⟨_, _, ov, o, ho, _⟩ := V.cown x a (mem_of_lookup e); exact ⟨o, ho⟩
theorem EnvRel.frFz {c : Cst} {C : SC} {env : Env} {ρ : Loc} {Z : List Addr} {ads : Ads} {σ : Store} {h : Heap} (V : EnvRel c C env ρ Z ads σ h) {a : Addr} (x : FrA env a) : ∀ o, h.get? a = some o → ¬ Fz o ∧ ¬ ItK o := by
  intro o e
  rcases x with rfl | ⟨x, e'⟩
  · refine el12 (V.ns) fun m hn _ => ?_
    refine ⟨ns_notFz hn o e, fun q => ?_⟩
    refine el33 (hn) fun o' es ep ho hd _ => ?_
    rw [ho] at e; cases e
    obtain ⟨_, vs, q⟩ := q; rw [hd] at q; cases q
  · obtain ⟨_, _, ov, hc⟩ := V.cown x a (mem_of_lookup e')
    refine ⟨cell_notFz hc o e, fun q => ?_⟩
    refine el12 (hc) fun o' ho hd => ?_
    rw [ho] at e; cases e
    obtain ⟨_, vs, q⟩ := q; rw [hd] at q; cases q
theorem EnvRel.frOwn {c : Cst} {C : SC} {env : Env} {ρ : Loc} {Z : List Addr} {ads : Ads} {σ : Store} {h : Heap} (V : EnvRel c C env ρ Z ads σ h) {a : Addr} (x : FrA env a) : ¬ Owned ads σ a := by
  rcases x with rfl | ⟨x, e⟩
  · exact V.lown.1
  · exact (V.cown x a (mem_of_lookup e)).1

structure ExtE (Y : Addr → Prop) (ads : Ads) (σ : Store) (s : Shared) (ads' : Ads) (σ' : Store) (s' : Shared) : Prop where
  pre : ∃ r, ads' = ads ++ r
  kept : ∀ b o, ¬ Owned ads σ b → ¬ Y b → s.heap.get? b = some o → ∃ o', s'.heap.get? b = some o' ∧ SO o o'
  own : ∀ b, Owned ads' σ' b → Owned ads σ b ∨ s.heap.get? b = none
  has : ∀ b, ¬ Y b → Heap.Has s.heap b → Heap.Has s'.heap b
  rest : ∃ h tk, s' = { s with heap := h, toks := tk }

theorem ExtY.last {Y : Addr → Prop} {ads ads' : Ads} {σ σ' : Store} {s s' : Shared} {I : Addr} {h : Heap} {tk : Nat} (x : ExtY Y ads σ s ads' σ' s') (hk : ∀ b o, b ≠ I → s'.heap.get? b = some o → h.get? b = some o) :
    ExtE (fun b => Y b ∨ b = I) ads σ s ads' σ' { s' with heap := h, toks := tk } :=
  ⟨x.pre, fun b o hn hy e => SO.thru (x.kept b o hn (fun q => hy (.inl q)) e) fun o' => hk b o' (fun q => hy (.inr q)), x.own, fun b hy e => (x.has b e).kept fun o => hk b o (fun q => hy (.inr q)), let ⟨_, _, e⟩ := x.rest; ⟨h, tk, by rw [e]⟩⟩
theorem ExtE.ext {Y : Addr → Prop} {Z : List Addr} {ads ads' ads'' : Ads} {σ σ' σ'' : Store} {s s' s'' : Shared} (x : Ext Z ads σ s ads' σ' s') (y : ExtE Y ads' σ' s' ads'' σ'' s'') (hY : ∀ b, Y b → s.heap.get? b = none) : Ext Z ads σ s ads'' σ'' s'' := by
  refine ⟨?_, fun b o hn e => ?_, fun b e => ?_, fun b e => y.has b (fun q => by obtain ⟨o, e⟩ := e; rw [hY b q] at e; cases e) (x.has b e), ?_⟩
  · obtain ⟨r, rfl⟩ := x.pre; obtain ⟨q, rfl⟩ := y.pre; exact ⟨r ++ q, by simp⟩
  · exact SO.then (x.kept b o hn e) fun o' e' => y.kept b o' (x.notOwned hn ⟨o, e⟩) (fun q => by rw [hY b q] at e; cases e) e'
  · rcases y.own b e with e | e
    · exact x.own b e
    · by_cases hb : Owned ads σ b
      · exact .inl hb
      · refine .inr ?_
        cases hs : s.heap.get? b with
        | none => rfl
        | some o => refine el12 (x.kept b o hb hs) fun o' q _ => ?_; rw [q] at e; cases e
  · refine el21 (x.rest) fun h tk qe188 => ?_; subst qe188; refine el21 (y.rest) fun h' tk' qe189 => ?_; subst qe189; exact ⟨h', tk', rfl⟩

noncomputable def AccAt (c : Cst) (Z : List Addr) (ads : Ads) (σ : Store) (h : Heap) (acc : Addr) (out : List D) : Prop := ∃ vs, h.PlainList acc (List.toArray vs) ∧ RepL c.X ads (WW (acc :: Z) ads σ) h out vs ∧ out.length ≤ lim

section
variable {c : Cst} {A : Around} {Z : List Addr} {lk : Nat → Nat} {s : Shared} {ads : Ads} {σ σ' : Store} {n : Nat} {C C₁ : SC} {cenv : Env} {acc : Addr}

noncomputable def YC (acc : Addr) (cenv : Env) (b : Addr) : Prop := b = acc ∨ (FrA cenv b ∧ cenv.locals ≤ b)
noncomputable def OwnS (S : Str → Prop) (cenv : Env) : Prop := ∀ x, S x → ∀ a, cenv.cells.lookup x = some a → cenv.locals ≤ a

structure CInv (c : Cst) (C : SC) (cenv : Env) (ρ : Loc) (Z : List Addr) (lk : Nat → Nat) (acc : Addr) (ads : Ads) (σ : Store) (s : Shared) (out : List D) : Prop where
  R : c.R (acc :: Z) lk s.heap ads σ
  V : EnvRel c C cenv ρ (acc :: Z) ads σ s.heap
  acc : AccAt c Z ads σ s.heap acc out

theorem CInv.yHas {ρ : Loc} {out : List D} (x : CInv c C cenv ρ Z lk acc ads σ s out) {b : Addr} (y : YC acc cenv b) : Heap.Has s.heap b := by
  rcases y with rfl | y
  · refine el12 (x.acc) fun vs qp190 _ => ?_; obtain ⟨m, h⟩ := qp190; exact ⟨_, h⟩
  · exact x.V.frHas y.1
theorem CInv.yFz {ρ : Loc} {out : List D} (x : CInv c C cenv ρ Z lk acc ads σ s out) : ∀ b o, YC acc cenv b → s.heap.get? b = some o → Fz o → WW (acc :: Z) ads σ b := by
  rintro b o (rfl | y) e hz
  · exact .inl List.mem_cons_self
  · exact absurd hz (x.V.frFz y.1 o e).1
theorem CInv.yOwn {ρ : Loc} {out : List D} (x : CInv c C cenv ρ Z lk acc ads σ s out) : ∀ b, YC acc cenv b → ¬ Owned ads σ b := by
  rintro b (rfl | y)
  · exact x.R.zown _ List.mem_cons_self
  · exact x.V.frOwn y.1

theorem CInv.ext {ρ : Loc} {out : List D} {ads' : Ads} {s' : Shared} (x : CInv c C cenv ρ Z lk acc ads σ s out) (e : Ext (acc :: Z) ads σ s ads' σ' s') (R' : c.R (acc :: Z) lk s'.heap ads' σ') : CInv c C cenv ρ Z lk acc ads' σ' s' out := by
  refine ⟨R', x.V.ext e, ?_⟩
  refine el13 (x.acc) fun vs qp191 r l => ?_; obtain ⟨m, h⟩ := qp191
  exact ⟨vs, ⟨m, SO.ex (e.kept _ _ (x.R.zown _ List.mem_cons_self) h) (Fz.nd (.inl ⟨_, _, rfl⟩))⟩, e.repL r, l⟩

theorem ItAt.extY {ρ : Loc} {out : List D} {ads' : Ads} {s' : Shared} {I : Addr} {ds : List D} (x : ItAt c (acc :: Z) lk ads σ s.heap I ds) (V : CInv c C cenv ρ Z lk acc ads σ s out) (hI : ¬ WW (acc :: Z) ads σ I) (e : ExtY (YC acc cenv) ads σ s ads' σ' s') (hl : Lk σ σ') :
    ItAt c (acc :: Z) lk ads' σ' s'.heap I ds := by
  refine el12 (x.obj) fun o ho hK => ?_
  refine x.mono e.sub hl (fun o' q => SO.ex (e.kept I o' (fun z => hI (.inr z)) (fun y => ?_) q) (ItK.nd (by rw [ho] at q; cases q; exact hK))) (fun a o hw hz q => SO.ex (e.kept a o (fun z => hw (.inr z)) (fun y => hw (V.yFz a o y q hz)) q) hz.nd) (fun a o q hw => ?_)
  · rcases y with rfl | y
    · exact hI (.inl List.mem_cons_self)
    · exact (V.V.frFz y.1 o ho).2 hK
  · rcases hw with hw | hw
    · exact .inl hw
    · rcases e.own a hw with z | z
      · exact .inr z
      · rw [q] at z; cases z
end

end Mine
end
section
open PySem PySem.W PyProof.Rows PySem.SeqAt PySem.MeetsSeq
namespace Mine

noncomputable def SimI (c : Cst) (n : Nat) (C : SC) (e : Expr) (f : Loc → Store → Option (List D × Store × Option Nat)) : Prop :=
  ∀ (A : Around) (Z : List Addr) (lk : Nat → Nat) (s : Shared) (ads : Ads) (ρ : Loc) (σ : Store) (env : Env) (l : List D) (σ' : Store) (u : Option Nat), f ρ σ = some (l, σ', u) → Room A n C.fr → c.R Z lk s.heap ads σ → EnvRel c C env ρ Z ads σ s.heap →
    ∀ (Q : Value → Shared → Prop) (E : Value → Shared → Prop), (∀ I s' ads' lk', (∀ k, u ≠ some k → lk' k = lk k) → Ext Z ads σ s ads' σ' s' → c.R Z lk' s'.heap ads' σ' → ItAt c Z lk' ads' σ' s'.heap I l → s.heap.get? I = none → ¬ WW Z ads' σ' I → c.h₀.get? I = none → Q (.ref I) s') →
      wpAny (model c.prog c.w) A (eval e env) (fun x s₁ => wpAny (model c.prog c.w) A (pyIter x) Q E s₁) E s
noncomputable def SimC (c : Cst) (n : Nat) (C : SC) (es : List Expr) (f : Loc → Store → Option (Bool × Store)) : Prop :=
  ∀ (A : Around) (Z : List Addr) (lk : Nat → Nat) (s : Shared) (ads : Ads) (ρ : Loc) (σ : Store) (env : Env) (b : Bool) (σ' : Store), f ρ σ = some (b, σ') → Room A n C.fr → c.R Z lk s.heap ads σ → EnvRel c C env ρ Z ads σ s.heap →
    YieldsB c A (testsOf es env) Z lk s ads σ b σ'

section
variable {c : Cst} {A : Around} {Z : List Addr} {lk : Nat → Nat} {s : Shared} {ads : Ads} {σ σ' : Store} {n : Nat} {C C₁ : SC} {cenv : Env} {acc : Addr}

theorem testsFalse {prog : Program} {w : World} {E : Value → Shared → Prop} {env : Env} {Q : Bool → Shared → Prop} : ∀ (es : List Expr), Q false s → wpAny (model prog w) A (forIn es false fun c r => if r = true then do let ok ← isTrue c env (eval c env); pure (ForInStep.yield ok) else pure (ForInStep.yield r)) Q E s
  | [], h => by rw [List.forIn_nil]; exact wpAny_pure h
  | e :: es, h => by
    rw [List.forIn_cons]
    simp only [Bool.false_eq_true, if_false]
    exact wpAny_bind (wpAny_pure (testsFalse es h))
theorem simC_nil {F : Env'} : SimC c n C [] (evc F []) := fun A Z lk s ads ρ σ env b σ' hf hA R V Q E k => by
  cases hf
  unfold testsOf
  rw [List.forIn_nil]; exact wpAny_pure (k s ads Ext.refl R)
theorem simC_cons {F : Env'} {x : E} {xs : List E} {e : Expr} {es : List Expr} (S : SimT c n C e (ev F x)) (SC' : SimC c n C es (evc F xs)) : SimC c n C (e :: es) (evc F (x :: xs)) :=
  fun A Z lk s ads ρ σ env b σ' hf hA R V => bd2 hf fun d σ1 h1 hf => bd1 hf fun t h2 h3 Q E k => by
    unfold testsOf
    rw [List.forIn_cons]
    refine wpAny_bind (wpAny_bind (S A Z lk s ads ρ σ env d σ1 t h1 h2 hA R V _ _ fun s1 ads1 x1 R1 => wpAny_pure ?_))
    cases t with
    | false => cases h3; exact testsFalse es (k s1 ads1 x1 R1)
    | true => exact SC' A Z lk s1 ads1 ρ σ1 env b σ' h3 hA R1 (V.ext x1) Q E fun s2 ads2 x2 R2 => k s2 ads2 (x1.trans x2) R2

structure BindOk (S : Str → Prop) (C C₁ : SC) (t : Nat) (x : Str) : Prop where
  own : S x
  names : C₁.names = C.names
  fr : C₁.fr = C.fr
  comp : C₁.comp = C.comp
  slots : C₁.slots = (t, x) :: C.slots
  kind : C.names.lookup x = some .local ∨ C.names.lookup x = some .cell
  new : ∀ (j : Nat) (y : Str), C.slots.lookup j = some y → y ≠ x
theorem BindOk.look {S : Str → Prop} {t : Nat} {x : Str} (b : BindOk S C C₁ t x) : ∀ (j : Nat) (y : Str), C₁.slots.lookup j = some y → (j = t ∧ y = x) ∨ (j ≠ t ∧ y ≠ x ∧ C.slots.lookup j = some y) := by
  intro j y e
  rw [b.slots, List.lookup_cons] at e
  by_cases hj : j = t
  · subst hj; simp only [beq_self_eq_true] at e; cases e; exact .inl ⟨rfl, rfl⟩
  · have : (j == t) = false := by simpa using hj
    rw [this] at e
    exact .inr ⟨hj, b.new j y e, e⟩

theorem EnvRel.forget {S : Str → Prop} {env : Env} {ρ : Loc} {t : Nat} {x : Str} {d : D} {h : Heap} (b : BindOk S C C₁ t x) (V : EnvRel c C₁ env (ρ.set t (some d)) Z ads σ h) (hnot : ∀ y, C.slots.lookup t ≠ some y) : EnvRel c C env ρ Z ads σ h where
  kind := V.kind
  names := V.names.trans b.names
  globals := V.globals
  builtins := V.builtins
  ns := by
    refine el12 (V.ns) fun m hn hm => ?_
    refine ⟨m, hn, fun i y d' h1 h2 h3 => ?_⟩
    have hi : i ≠ t := fun q => hnot y (q ▸ h1)
    refine hm i y d' ?_ (b.names ▸ h2) (by rw [List.getElem?_set_ne (fun q => hi q.symm)]; exact h3)
    rw [b.slots, List.lookup_cons, show (i == t) = false by simpa using hi]; exact h1
  has := fun y h => V.has y (b.names ▸ h)
  cell := fun i y d' a h1 h2 h3 h4 => by
    have hi : i ≠ t := fun q => hnot y (q ▸ h1)
    refine V.cell i y d' a ?_ (b.names ▸ h2) (by rw [List.getElem?_set_ne (fun q => hi q.symm)]; exact h3) h4
    rw [b.slots, List.lookup_cons, show (i == t) = false by simpa using hi]; exact h1
  apart := V.apart
  lown := V.lown
  cown := V.cown
  frs := b.fr ▸ V.frs
  frn := b.fr ▸ V.frn
  hd := fun q => b.fr ▸ V.hd (b.comp ▸ q)

theorem append_acc {ρ : Loc} {out : List D} {d : D} {v : Value} (x : CInv c C cenv ρ Z lk acc ads σ s out) (hb : c.h₀.get? acc = none) (r : c.P (acc :: Z) ads σ s.heap d v) (hl : out.length + 1 ≤ lim) {Q : Value → Shared → Prop} {E : Value → Shared → Prop}
    (k : ∀ s', ExtY (YC acc cenv) ads σ s ads σ s' → CInv c C cenv ρ Z lk acc ads σ s' (out ++ [d]) → Q .none s') : wpAny (model c.prog c.w) A (call (.builtin "list.append") [.ref acc, v]) Q E s := by
  refine el13 (x.acc) fun vs qp201 hr hlim => ?_; obtain ⟨m, hg⟩ := qp201
  refine call_meets F.slot_list_append ⟨_, hg, rfl⟩ F.entry_list_append (F.args_list_append_2 _ _) (list_append acc vs.toArray m v (size_lim hlim hr.length)) ⟨hg, ?_⟩
  have hn := Heap.get?_update_self (Obj.mapSeq fun x => x.push v) hg rfl
  have hk : ∀ b o, b ≠ acc → s.heap.get? b = some o → (s.heap.update acc (Obj.mapSeq fun x => x.push v)).get? b = some o := fun b o hb e => ((Heap.SameBut.update s.heap acc _).2 b hb).trans e
  have hh : Heap.Has (s.heap.update acc (Obj.mapSeq fun x => x.push v)) acc := ⟨_, hn⟩
  have hz : ∀ a o, ¬ WW (acc :: Z) ads σ a → Fz o → s.heap.get? a = some o → (s.heap.update acc (Obj.mapSeq fun x => x.push v)).get? a = some o := fun a o hw _ e => hk a o (fun q => hw (.inl (q ▸ List.mem_cons_self))) e
  have hfk : ∀ a, a ∈ C.fr.filterMap (·.frame) → FrKeep s.heap (s.heap.update acc (Obj.mapSeq fun x => x.push v)) a := fun a _ o e hnf => by
    by_cases q : a = acc
    · subst q; rw [hg] at e; cases e; refine el21 (hnf) fun es ep z => ?_; cases z
    · exact ⟨o, hk a o q e, hnf⟩
  refine k _ (ExtY.one hk (.inl rfl) hh) ⟨x.R.asideSet hb hk hh, x.V.mono (Sub.refl _) hz (fun _ _ _ w => w) (fun a o hf e => hk a o (fun q => ?_) e) (fun a h _ => h) hfk, vs ++ [v], ⟨_, by simpa [Obj.mapSeq] using hn⟩, RepL.mono (Sub.refl _) hz (fun _ _ _ w => w) _ _ (hr.append (RepL.one r)), by simpa using hl⟩
  subst q
  have : ¬ Fz { cls := .type "list", data := .seq vs.toArray m } := by
    rcases hf with hf | ⟨y, hf⟩
    · exact (x.V.frFz hf _ hg).1
    · obtain ⟨_, _, ov, hc⟩ := x.V.cown y a hf
      exact cell_notFz hc _ hg
  exact this (.inl ⟨_, _, rfl⟩)

inductive GOk (c : Cst) (n : Nat) (F : Env') (S : Str → Prop) : SC → List G → List Comprehension → SC → Prop
  | nil {C : SC} : GOk c n F S C [] [] C
  | cons {C C₁ C₂ : SC} {t : Nat} {x : Str} {px : Pos} {it : It} {iter : Expr} {ifs : List E} {cifs : List Expr} {gs : List G} {cs : List Comprehension} : BindOk S C C₁ t x → (∀ y, C.slots.lookup t ≠ some y) → SimI c n C iter (evi F it) → SimC c n C₁ cifs (evc F ifs) →
      (∀ env v, foldedSetIterable iter env v = pure v) → GOk c n F S C₁ gs cs C₂ → GOk c n F S C (.mk [t] false it ifs :: gs) (⟨.Name x px, iter, cifs, 0⟩ :: cs) C₂

noncomputable def bodyG (F : Env') (t : Nat) (ifs : List E) (gs : List G) (fe : Loc → Store → Option (D × Store)) (ρ : Loc) (d : D) (σ : Store) : Option (List D × Store) := (evc F ifs (ρ.set t (some d)) σ).bind fun q => bif q.1 then evg F gs fe (ρ.set t (some d)) q.2 else some ([], q.2)

theorem relk {lk' : Nat → Nat} {h : Heap} (R : c.R Z lk h ads σ) (e : ∀ (k : Nat) (o : O), σ[k]? = some o → o.locked = true → lk' k = lk k) : c.R Z lk' h ads σ where
  len := R.len
  keep := R.keep
  objs k p o a b := by
    have := R.objs k p o a b
    cases o with
    | ldict es => 
      have q := e k _ b rfl
      unfold ObjAt at this ⊢
      rw [q]; exact this
    | _ => exact this
  apart := R.apart
  new := R.new
  zlt := R.zlt
  alt := R.alt
  zown := R.zown
end

end Mine
end
section
open PySem PySem.W PyProof.Rows PySem.SeqAt PySem.MeetsSeq
namespace Mine

section
variable {c : Cst} {A : Around} {Z : List Addr} {lk : Nat → Nat} {s : Shared} {ads : Ads} {σ σ' : Store} {n : Nat} {C C₁ : SC} {cenv : Env} {acc : Addr} {S : Str → Prop}

theorem owned_swap {k : Nat} {o o' : O} (ho : σ[k]? = some o) (h1 : o.live = true) (h2 : o'.live = true) : ∀ b, Owned ads (σ.set k o') b ↔ Owned ads σ b := by
  have hkl : k < σ.length := (List.getElem?_eq_some_iff.mp ho).1
  intro b
  constructor
  · rintro ⟨j, q, x, a, c, d, e⟩
    by_cases hj : k = j
    · subst hj; exact ⟨k, q, o, a, ho, h1, e⟩
    · rw [List.getElem?_set_ne hj] at c; exact ⟨j, q, x, a, c, d, e⟩
  · rintro ⟨j, q, x, a, c, d, e⟩
    by_cases hj : k = j
    · subst hj; exact ⟨k, q, o', a, List.getElem?_set_self hkl, h2, e⟩
    · exact ⟨j, q, x, a, by rw [List.getElem?_set_ne hj]; exact c, d, e⟩

theorem Rel.view {h : Heap} {k : Nat} {o o' : O} (R : c.R Z lk h ads σ) (ho : σ[k]? = some o) (h1 : o.live = true) (h2 : o'.live = true)
    (hn : ∀ p, ObjAt c.prog c.w c.X ads (WW Z ads σ) lk h k p o → ObjAt c.prog c.w c.X ads (WW Z ads σ) lk h k p o') : c.R Z lk h ads (σ.set k o') := by
  have hkl : k < ads.length := by rw [R.len]; exact (List.getElem?_eq_some_iff.mp ho).1
  have hp := List.getElem?_eq_getElem hkl
  have hw : WW Z ads (σ.set k o') = WW Z ads σ := by funext b; exact propext (or_congr Iff.rfl (owned_swap ho h1 h2 b))
  refine R.put hp ho h1 (fun _ _ _ _ e => e) (R.alt _ _ _ hp ho h1) ?_
  rw [hw]; exact hn _ (R.objs _ _ _ hp ho)

theorem Rel.unlock {h : Heap} {k : Nat} {σ2 : Store} (R : c.R Z lk h ads σ) (e : Mine.unlock σ k = some σ2) : c.R Z lk h ads σ2 ∧ ∀ b, Owned ads σ2 b ↔ Owned ads σ b := by
  refine bd1 e fun o' hu e => bd1 hu fun o ho hu => ?_
  rw [← Option.some.inj e]
  cases o
  case llist => exact Option.some.inj hu ▸ ⟨Rel.view R ho rfl rfl fun p x => x, owned_swap ho rfl rfl⟩
  case ldict => exact Option.some.inj hu ▸ ⟨Rel.view R ho rfl rfl fun p x => el12 x fun kvs h h4 => ⟨kvs, let ⟨o, es', h1, h2, h3, r⟩ := h; ⟨o, es', _, h1, h2, h3, r⟩, h4⟩, owned_swap ho rfl rfl⟩
  all_goals exact no_el hu

theorem unlockO_rel {h : Heap} {lk' : Nat → Nat} {u : Option Nat} (R : c.R Z lk' h ads σ) (hlk : ∀ k, u ≠ some k → lk' k = lk k) (h3 : unlockO σ u = some σ') : c.R Z lk h ads σ' ∧ ∀ b, Owned ads σ' b ↔ Owned ads σ b := by
  cases u with
  | none => exact Option.some.inj h3 ▸ ⟨relk R fun k o _ _ => (hlk k (fun q => nomatch q)).symm, fun b => Iff.rfl⟩
  | some kk =>
    have q := Rel.unlock R h3
    refine ⟨relk q.1 fun k o e hl => (hlk k fun z => ?_).symm, q.2⟩
    rw [Option.some.inj z] at h3
    refine bd1 h3 fun o' hu h3 => bd1 hu fun o2 ho2 hu => ?_
    rw [← Option.some.inj h3, List.getElem?_set_self (List.getElem?_eq_some_iff.mp ho2).1] at e
    rw [← Option.some.inj e, (unlO_locked hu).2] at hl; cases hl

theorem CInv.sameOwn {ρ : Loc} {out : List D} {σ2 : Store} {lk' : Nat → Nat} (x : CInv c C cenv ρ Z lk acc ads σ s out) (R' : c.R (acc :: Z) lk' s.heap ads σ2) (ho : ∀ b, Owned ads σ2 b ↔ Owned ads σ b) : CInv c C cenv ρ Z lk' acc ads σ2 s out := by
  have hw : ∀ a, WW (acc :: Z) ads σ2 a → WW (acc :: Z) ads σ a := fun a w => w.imp id (ho a).mp
  refine ⟨R', x.V.mono (Sub.refl _) (fun _ _ _ _ e => e) (fun a _ _ w => hw a w) (fun _ _ _ e => e) (fun a h _ q => h ((ho a).mp q)) (fun _ _ => FrKeep.same fun _ e => e), ?_⟩
  refine el13 (x.acc) fun vs h1 r l => ?_
  exact ⟨vs, h1, RepL.mono (Sub.refl _) (fun _ _ _ _ e => e) (fun a _ _ w => hw a w) _ _ r, l⟩

theorem CInv.stepI {ρ : Loc} {out : List D} {I : Addr} {o : Obj} {h' : Heap} {tk : Nat} (x : CInv c C cenv ρ Z lk acc ads σ s out) (ho : s.heap.get? I = some o) (hK : ItK o) (hw : ¬ WW (acc :: Z) ads σ I)
    (hk : ∀ b o, b ≠ I → s.heap.get? b = some o → h'.get? b = some o) (R' : c.R (acc :: Z) lk h' ads σ) : CInv c C cenv ρ Z lk acc ads σ { s with heap := h', toks := tk } out := by
  have hz : ∀ a o, ¬ WW (acc :: Z) ads σ a → Fz o → s.heap.get? a = some o → h'.get? a = some o := fun a o' _ hf e => hk a o' (fun q => by subst q; rw [ho] at e; cases e; exact hK.notFz hf) e
  refine ⟨R', x.V.mono (Sub.refl _) hz (fun _ _ _ w => w) (fun a o' hf e => hk a o' (fun q => ?_) e) (fun a h _ => h) (fun a _ o' e hnf => ⟨o', hk a o' (fun q => by subst q; rw [ho] at e; cases e; obtain ⟨_, vs, z⟩ := hK; refine el21 (hnf) fun es ep y => ?_; rw [z] at y; cases y) e, hnf⟩), ?_⟩
  · subst q
    rcases hf with hf | ⟨y, hf⟩
    · rw [ho] at e; cases e; exact (x.V.frFz hf _ ho).2 hK
    · obtain ⟨_, _, ov, o2, h2, hd⟩ := x.V.cown y a hf
      rw [ho] at h2; cases h2
      obtain ⟨_, vs, q⟩ := hK; rw [hd] at q; cases q
  · refine el13 (x.acc) fun vs qp193 r l => ?_; obtain ⟨m, h1⟩ := qp193
    exact ⟨vs, ⟨m, hk _ _ (fun q => hw (.inl (q ▸ List.mem_cons_self))) h1⟩, RepL.mono (Sub.refl _) hz (fun _ _ _ w => w) _ _ r, l⟩

theorem CInv.store {ρ : Loc} {out : List D} {t : Nat} {x : Str} {d : D} {a : Addr} {h' : Heap} {tk : Nat} (b : BindOk S C C₁ t x) (I : CInv c C cenv ρ Z lk acc ads σ s out) (ha : FrA cenv a) (hk : ∀ b o, b ≠ a → s.heap.get? b = some o → h'.get? b = some o)
    (R' : c.R (acc :: Z) lk h' ads σ) (V' : EnvRel c C₁ cenv (ρ.set t (some d)) (acc :: Z) ads σ h') : CInv c C₁ cenv (ρ.set t (some d)) Z lk acc ads σ { s with heap := h', toks := tk } out := by
  refine ⟨R', V', ?_⟩
  refine el13 (I.acc) fun vs qp194 r l => ?_; obtain ⟨m, h1⟩ := qp194
  have hne : acc ≠ a := fun q => by subst q; exact (I.V.frFz ha _ h1).1 (.inl ⟨_, _, rfl⟩)
  exact ⟨vs, ⟨m, hk _ _ hne h1⟩, RepL.mono (Sub.refl _) (fun b o _ hf e => hk b o (fun q => by subst q; exact (I.V.frFz ha _ e).1 hf) e) (fun _ _ _ w => w) _ _ r, l⟩

theorem CInv.forget {ρ : Loc} {out : List D} {t : Nat} {x : Str} {d : D} (b : BindOk S C C₁ t x) (hnot : ∀ y, C.slots.lookup t ≠ some y) (I : CInv c C₁ cenv (ρ.set t (some d)) Z lk acc ads σ s out) : CInv c C cenv ρ Z lk acc ads σ s out :=
  ⟨I.R, I.V.forget b hnot, I.acc⟩

theorem drop_get {α : Type} {l : List α} {i : Nat} {x : α} {r : List α} (e : l.drop i = x :: r) : l[i]? = some x ∧ l.drop (i + 1) = r := drop_cons e

noncomputable def BodyOk (c : Cst) (n : Nat) (S : Str → Prop) (F : Env') (elt : Expr) (csAll : List Comprehension) (scope : Scope) (pos : Pos) (fe : Loc → Store → Option (D × Store)) (gs : List G) (C₁ : SC) (depth : Nat) : Prop :=
  ∀ (A : Around), Room A n C₁.fr → ∀ (Z : List Addr) (lk : Nat → Nat) (s : Shared) (ads : Ads) (ρ : Loc) (σ : Store) (r : List D) (σ' : Store) (acc : Addr) (out : List D) (cenv : Env) (Q : Shared → Prop) (E : Value → Shared → Prop), OwnS S cenv → c.h₀.get? acc = none → evg F gs fe ρ σ = some (r, σ') →
    CInv c C₁ cenv ρ Z lk acc ads σ s out → out.length + r.length ≤ lim → (∀ s' ads', ExtY (YC acc cenv) ads σ s ads' σ' s' → CInv c C₁ cenv ρ Z lk acc ads' σ' s' (out ++ r) → Q s') →
    (match csAll[depth + 1]? with
      | some g' => wpAny (model c.prog c.w) A (eval g'.iter cenv) (fun x s₅ => wpAny (model c.prog c.w) A (pyIter x) (fun it' s₆ => wpAny (model c.prog c.w) A (runOwn (.compStart (.ListComp elt csAll scope pos) (depth + 1) it' (.ref acc) cenv) cenv) (fun _ s₇ => Q s₇) E s₆) E s₅) E s
      | none => wpAny (model c.prog c.w) A (eval elt cenv) (fun x s₅ => wpAny (model c.prog c.w) A (call (.builtin "list.append") [.ref acc, x]) (fun _ s₆ => Q s₆) E s₅) E s)

theorem comp_turns {F : Env'} (hF : LkF F.F) {elt : Expr} {csAll : List Comprehension} {scope : Scope} {pos : Pos} {fe : Loc → Store → Option (D × Store)} (hfe : ∀ ρ σ, LkO σ s2 (fe ρ σ))
    {gs : List G} {C C₁ : SC} {t : Nat} {x : Str} {px : Pos} {iter : Expr} {ifs : List E} {cifs : List Expr} {depth : Nat} (hg : csAll[depth]? = some ⟨.Name x px, iter, cifs, 0⟩)
    (hnext : ∀ env g', csAll[depth + 1]? = some g' → g'.is_async = 0 ∧ ∀ v, foldedSetIterable g'.iter env v = pure v)
    (hb : BindOk S C C₁ t x) (hnot : ∀ y, C.slots.lookup t ≠ some y) (hC : SimC c n C₁ cifs (evc F ifs)) (hB : BodyOk c n S F elt csAll scope pos fe gs C₁ depth)
    {A : Around} (hA : Room A n C₁.fr) {Z : List Addr} {lk : Nat → Nat} {s : Shared} {ads : Ads} {ρ : Loc} {σ : Store} {l rs : List D} {σ' : Store} {acc : Addr} {out : List D} {I : Addr} {cenv : Env} {R : Result → Shared → Prop} (hS : OwnS S cenv) (hacc : c.h₀.get? acc = none)
    (hov : overL (bodyG F t ifs gs fe ρ) l σ = some (rs, σ')) (hinv : CInv c C cenv ρ Z lk acc ads σ s out) (hlen : out.length + rs.length ≤ lim) (hit : ItAt c (acc :: Z) lk ads σ s.heap I l) (hIw : ¬ WW (acc :: Z) ads σ I) (hIb : c.h₀.get? I = none)
    (hR : ∀ s' ads', ExtE (fun b => YC acc cenv b ∨ b = I) ads σ s ads' σ' s' → CInv c C cenv ρ Z lk acc ads' σ' s' (out ++ rs) → R (.ok .next) s') :
    codeAny (model c.prog c.w) A (.compLoop (.ListComp elt csAll scope pos) depth (.ref I) (.ref acc) cenv) R s := by
  let Inv : Nat → Shared → Prop := fun m s₁ => ∃ l₁ ads₁ σ₁ out₁ rs₁, l₁.length = m ∧ overL (bodyG F t ifs gs fe ρ) l₁ σ₁ = some (rs₁, σ') ∧ out₁ ++ rs₁ = out ++ rs ∧ CInv c C cenv ρ Z lk acc ads₁ σ₁ s₁ out₁ ∧ ItAt c (acc :: Z) lk ads₁ σ₁ s₁.heap I l₁ ∧ ¬ WW (acc :: Z) ads₁ σ₁ I ∧
    ExtY (fun b => YC acc cenv b ∨ b = I) ads σ s ads₁ σ₁ s₁
  refine compLoop_wp Inv (fun m s₁ hI => ?_) l.length ⟨l, ads, σ, out, rs, rfl, hov, rfl, hinv, hit, hIw, ExtY.refl⟩
  refine el57 (hI) fun l₁ ads₁ σ₁ out₁ rs₁ hm hov htot hinv hit hIw hX => ?_
  refine el12 (hit.obj) fun oI hoI hKI => ?_
  refine compTurn_wp hg (hnext cenv) ?_
  refine hide fun H kk => ?_
  cases l₁ with
  | nil =>
    cases (show some ([], σ₁) = some (rs₁, σ') from hov)
    refine kk ?_
    refine next_end hA.handled hinv.R hit hIw hIb fun h' tk hk R' => ?_
    have hinv' := hinv.stepI (tk := tk) hoI hKI hIw hk R'
    refine hR _ ads₁ ⟨hX.pre, fun b o hn hy e => SO.thru (hX.kept b o hn hy e) fun o' => hk b o' (fun q => hy (.inr q)), hX.own, fun b hy e => (hX.has b e).kept fun o => hk b o (fun q => hy (.inr q)), let ⟨_, _, e⟩ := hX.rest; ⟨h', tk, by rw [e]⟩⟩ ?_
    rw [← htot, List.append_nil]; exact hinv'
  | cons d l₂ =>
    refine bd2 hov fun r σ₂ hbody hov => bd2 hov fun rs₂ σ₃ hrest hov => ?_
    cases hov
    refine kk ?_
    refine next_item hinv.R hit hIw hIb fun v h₂ tk hk R₂ rv hit₂ => ?_
    have i2 := hinv.stepI (tk := tk) hoI hKI hIw hk R₂
    have hasI : Heap.Has h₂ I := let ⟨o, e, _⟩ := hit₂.obj; ⟨o, e⟩
    have x2 : ExtY (fun b => YC acc cenv b ∨ b = I) ads₁ σ₁ s₁ ads₁ σ₁ { s₁ with heap := h₂, toks := tk } := ExtY.one hk (.inr rfl) hasI
    dsimp only
    show wpAny _ A (pure ()) _ _ _
    refine wpAny_pure ?_
    refine wpAny_assign_Name (store_sound i2.R i2.V hb.names hb.fr hb.comp hb.look hb.kind rv fun a h₃ tk₃ ha hac hal hk₃ R₃ V₃ => ?_)
    have i3 := i2.store (tk := tk₃) hb ha hk₃ R₃ V₃
    have hasA : Heap.Has h₃ a := i3.V.frHas ha
    have y3 : ExtY (YC acc cenv) ads₁ σ₁ { s₁ with heap := h₂, toks := tk } ads₁ σ₁ { s₁ with heap := h₃, toks := tk₃ } := ExtY.one hk₃ (.inr ⟨ha, hb.kind.elim (fun q => Nat.le_of_eq (hal q).symm) fun q => hS x hb.own a (hac q)⟩) hasA
    have it3 := hit₂.extY i2 hIw y3 (Lk.refl _)
    refine bd2 hbody fun b σt ht hbody => ?_
    refine hC A (acc :: Z) lk _ ads₁ _ σ₁ cenv b σt ht hA i3.R i3.V _ _ fun s₄ ads₄ x4 R₄ => ?_
    have i4 := i3.ext x4 R₄
    have y4 : ExtY (YC acc cenv) ads₁ σ₁ _ ads₄ σt s₄ := ExtY.of_ext x4 i3.yOwn
    have it4 := it3.extY i3 hIw y4 (lk_evc hF ifs _ _ _ ht)
    have hIw4 : ¬ WW (acc :: Z) ads₄ σt I := by refine el12 (it3.obj) fun o e _ => ?_; exact fun q => hIw (x4.ww I o e q)
    have hYown : ∀ b, YC acc cenv b ∨ b = I → ¬ Owned ads₁ σ₁ b := fun b q => q.elim (hinv.yOwn b) fun z => z ▸ fun y => hIw (.inr y)
    have toI : ∀ {ads' σ' s' s''}, ExtY (YC acc cenv) ads₁ σ₁ s'' ads' σ' s' → ExtY (fun b => YC acc cenv b ∨ b = I) ads₁ σ₁ s'' ads' σ' s' := fun z => z.mono (fun _ => .inl) hYown
    -- what is left of the turn
    have fin : ∀ s' ads' σz, σz = σ₂ → ExtY (YC acc cenv) ads₄ σt s₄ ads' σz s' → Lk σt σz → CInv c C₁ cenv (ρ.set t (some d)) Z lk acc ads' σz s' (out₁ ++ r) →
        (Code.compLoop (.ListComp elt csAll scope pos) depth (.ref I) (.ref acc) cenv) = .compLoop (.ListComp elt csAll scope pos) depth (.ref I) (.ref acc) cenv ∧ ∃ m', m' < m ∧ Inv m' s' := by
      intro s' ads' σz hz y5 hl5 i5
      subst hz
      refine ⟨rfl, l₂.length, ?_, l₂, ads', σz, out₁ ++ r, rs₂, rfl, hrest, ?_, i5.forget hb hnot, ?_, ?_, ?_⟩
      · rw [← hm]; simp
      · rw [← htot, List.append_assoc]
      · exact it4.extY i4 hIw4 y5 hl5
      · intro q
        rcases q with q | q
        · exact hIw4 (.inl q)
        · exact y5.notOwned (fun z => hIw4 (.inr z)) (let ⟨o, e, _⟩ := it4.obj; ⟨o, e⟩) q
      · exact ((hX.trans x2).trans (toI y3)).trans (toI (y4.trans y5))
    refine ite_b (fun hb => ?_) (fun hb => ?_)
    · have hl2 : out₁.length + r.length ≤ lim := by
        have := congrArg List.length htot
        simp only [List.length_append] at this
        omega
      exact hB A hA Z lk s₄ ads₄ _ σt r σ₂ acc out₁ cenv _ _ hS hacc (cond_t hb hbody) i4 hl2 fun s' ads' y5 i5 => fin s' ads' σ₂ rfl y5 (lk_evg hF gs hfe _ _ _ (cond_t hb hbody)) i5
    · exact sm2 (cond_f hb hbody) fun z1 z2 => fin s₄ ads₄ _ z2 ExtY.refl (Lk.refl _) (by rw [← z1, List.append_nil]; exact i4)

theorem body_nil {F : Env'} {elt : Expr} {csAll : List Comprehension} {scope : Scope} {pos : Pos} {fe : Loc → Store → Option (D × Store)} {C₁ : SC} {depth : Nat} (hnone : csAll[depth + 1]? = none) (hE : Sim c n C₁ elt fe) : BodyOk c n S F elt csAll scope pos fe [] C₁ depth := by
  intro A hA Z lk s ads ρ σ r σ' acc out cenv Q E hS hacc hev hinv hlen k
  rw [hnone]
  refine bd2 hev fun d σ1 h1 h2 => ?_
  cases h2
  refine hE A (acc :: Z) lk s ads ρ σ cenv d _ h1 hA hinv.R hinv.V _ _ fun v s1 ads1 x1 R1 r1 => ?_
  have i1 := hinv.ext x1 R1
  exact append_acc i1 hacc r1 (by simpa using hlen) fun s2 y2 i2 => k s2 ads1 ((ExtY.of_ext x1 hinv.yOwn).trans y2) i2

theorem body_cons {F : Env'} (hF : LkF F.F) {elt : Expr} {csAll : List Comprehension} {scope : Scope} {pos : Pos} {fe : Loc → Store → Option (D × Store)} (hfe : ∀ ρ σ, LkO σ s2 (fe ρ σ)) {C C₁ : SC} {depth : Nat} {gs : List G}
    {t : Nat} {x : Str} {px : Pos} {it : It} {iter : Expr} {ifs : List E} {cifs : List Expr} (hsome : csAll[depth + 1]? = some ⟨.Name x px, iter, cifs, 0⟩)
    (hnext : ∀ env g', csAll[depth + 1 + 1]? = some g' → g'.is_async = 0 ∧ ∀ v, foldedSetIterable g'.iter env v = pure v)
    (hb : BindOk S C C₁ t x) (hnot : ∀ y, C.slots.lookup t ≠ some y) (hI : SimI c n C iter (evi F it)) (hC : SimC c n C₁ cifs (evc F ifs)) (hB : BodyOk c n S F elt csAll scope pos fe gs C₁ (depth + 1)) :
    BodyOk c n S F elt csAll scope pos fe (.mk [t] false it ifs :: gs) C depth := by
  intro A hA Z lk s ads ρ σ r σ' acc out cenv Q E hS hacc hev hinv hlen k
  rw [hsome]
  dsimp only
  refine bd3 hev fun l σ1 u h1 hev => bd2 hev fun r' σ2 h2 hev => bd1 hev fun σ3 h3 hev => ?_
  cases hev
  have h2' : overL (bodyG F t ifs gs fe ρ) l σ1 = some (r', σ2) := h2
  refine hI A (acc :: Z) lk s ads ρ σ cenv l σ1 u h1 hA hinv.R hinv.V _ _ fun J s₅ ads₅ lk' hlk x5 R5 it5 hJ hJw hJb => ?_
  have i5 : CInv c C cenv ρ Z lk' acc ads₅ σ1 s₅ out := ⟨R5, hinv.V.ext x5, by
    refine el13 (hinv.acc) fun vs qp199 r l => ?_; obtain ⟨m, h⟩ := qp199
    exact ⟨vs, ⟨m, SO.ex (x5.kept _ _ (hinv.R.zown _ List.mem_cons_self) h) (Fz.nd (.inl ⟨_, _, rfl⟩))⟩, x5.repL r, l⟩⟩
  have loop : ∀ R : Result → Shared → Prop, (∀ s' ads', ExtE (fun b => YC acc cenv b ∨ b = J) ads₅ σ1 s₅ ads' σ2 s' → CInv c C cenv ρ Z lk' acc ads' σ2 s' (out ++ r') → R (.ok .next) s') →
      codeAny (model c.prog c.w) A (.compLoop (.ListComp elt csAll scope pos) (depth + 1) (.ref J) (.ref acc) cenv) R s₅ :=
    fun R hR => comp_turns hF hfe hsome hnext hb hnot hC hB (hb.fr ▸ hA) hS hacc h2' i5 hlen it5 hJw hJb hR
  refine wpAny_runOwn ?_
  refine compStart_wp hsome rfl (loop _ ?_) (iter_iter it5 (loop _ ?_))
  all_goals
    intro s' ads' xe i6
    dsimp only
    obtain ⟨R7, ho7⟩ := unlockO_rel i6.R hlk h3
    have i7 := i6.sameOwn R7 ho7
    refine k s' ads' ?_ i7
    obtain ⟨rr, hr⟩ := x5.pre
    refine ⟨?_, fun b o hn hy e => ?_, fun b e => (Classical.em (YC acc cenv b)).elim (fun hy => i7.yHas hy) (fun hy => xe.has b (fun q => q.elim hy fun z => by obtain ⟨o, e⟩ := e; rw [z, hJ] at e; cases e) (x5.has b e)), fun b e => ?_, ?_⟩
    · obtain ⟨q, hq⟩ := xe.pre; exact ⟨rr ++ q, by rw [hq, hr]; simp⟩
    · exact SO.then (x5.kept b o hn e) fun o' e' => xe.kept b o' (x5.notOwned hn ⟨o, e⟩) (fun q => q.elim hy fun z => by rw [z, hJ] at e; cases e) e'
    · rcases xe.own b ((ho7 b).mp e) with e | e
      · exact x5.own b e
      · by_cases hbo : Owned ads σ b
        · exact .inl hbo
        · refine .inr ?_
          cases hs : s.heap.get? b with
          | none => rfl
          | some o => refine el12 (x5.kept b o hbo hs) fun o' q _ => ?_; rw [q] at e; cases e
    · refine el21 (x5.rest) fun h tk e => ?_; refine el21 (xe.rest) fun h' tk' e' => ?_; exact ⟨h', tk', by rw [e', e]⟩

theorem body_all {F : Env'} (hF : LkF F.F) {elt : Expr} {csAll : List Comprehension} {scope : Scope} {pos : Pos} {fe : Loc → Store → Option (D × Store)} (hfe : ∀ ρ σ, LkO σ s2 (fe ρ σ)) :
    ∀ {gs : List G} {cs : List Comprehension} {C₁ C₂ : SC} {depth : Nat}, GOk c n F S C₁ gs cs C₂ → csAll.drop (depth + 1) = cs → Sim c n C₂ elt fe →
      BodyOk c n S F elt csAll scope pos fe gs C₁ depth ∧ ∀ env g', csAll[depth + 1]? = some g' → g'.is_async = 0 ∧ ∀ v, foldedSetIterable g'.iter env v = pure v := by
  intro gs cs C₁ C₂ depth hG
  induction hG generalizing depth with
  | nil =>
    intro hd hE
    have := drop_nil hd
    exact ⟨body_nil this hE, fun env g' e => by rw [this] at e; cases e⟩
  | cons hb hnot hI hC hf hG ih =>
    intro hd hE
    obtain ⟨h1, h2⟩ := drop_cons hd
    obtain ⟨hB, hnext⟩ := ih (depth := depth + 1) h2 hE
    refine ⟨body_cons hF hfe h1 hnext hb hnot hI hC hB, fun env g' e => ?_⟩
    rw [h1] at e; cases e
    exact ⟨rfl, hf env⟩
end

end Mine
end
section
open PySem PySem.W PyProof.Rows PySem.SeqAt PySem.MeetsSeq
namespace Mine

noncomputable def clFrom (cells : List (Str × Addr)) : List (Str × NameKind) → List (Str × Addr) → List (Str × Addr)
  | [], acc => acc
  | (n, k) :: r, acc => if k == .free then clFrom cells r ((n, (cells.lookup n).getD 0) :: acc) else clFrom cells r acc

theorem clFrom_append (cells : List (Str × Addr)) : ∀ (names : List (Str × NameKind)) (acc : List (Str × Addr)), clFrom cells names acc = clFrom cells names [] ++ acc
  | [], acc => rfl
  | (n, k) :: r, acc => by
    unfold clFrom
    split
    · rw [clFrom_append cells r, clFrom_append cells r [_]]; simp
    · exact clFrom_append cells r acc
theorem cellsFrom_append : ∀ (names : List (Str × NameKind)) (m : Nat) (acc : List (Str × Addr)), cellsFrom m names acc = cellsFrom m names [] ++ acc
  | [], m, acc => rfl
  | (n, k) :: r, m, acc => by
    unfold cellsFrom
    split
    · rw [cellsFrom_append r, cellsFrom_append r _ [_]]; simp
    · exact cellsFrom_append r m acc
theorem clFrom_mem {cells : List (Str × Addr)} : ∀ {names : List (Str × NameKind)} {x : Str} {a : Addr}, (x, a) ∈ clFrom cells names [] → (x, NameKind.free) ∈ names ∧ a = (cells.lookup x).getD 0
  | [], _, _, h => by cases h
  | (n, k) :: r, x, a, h => by
    unfold clFrom at h
    split at h
    · rename_i hk
      rw [clFrom_append] at h
      rcases List.mem_append.mp h with h | h
      · obtain ⟨h1, h2⟩ := clFrom_mem h; exact ⟨List.mem_cons_of_mem _ h1, h2⟩
      · rcases List.mem_singleton.mp h with h
        cases h
        rw [beq_iff_eq.mp hk]; exact ⟨List.mem_cons_self, rfl⟩
    · obtain ⟨h1, h2⟩ := clFrom_mem h; exact ⟨List.mem_cons_of_mem _ h1, h2⟩
theorem mem_clFrom {cells : List (Str × Addr)} : ∀ {names : List (Str × NameKind)} {x : Str}, (x, NameKind.free) ∈ names → ∃ a, (x, a) ∈ clFrom cells names []
  | [], _, h => by cases h
  | (n, k) :: r, x, h => by
    unfold clFrom
    rcases List.mem_cons.mp h with h | h
    · cases h
      rw [if_pos (beq_self_eq_true _), clFrom_append]
      exact ⟨_, List.mem_append_right _ List.mem_cons_self⟩
    · obtain ⟨a, h⟩ := mem_clFrom (cells := cells) h
      split
      · rw [clFrom_append]; exact ⟨a, List.mem_append_left _ h⟩
      · exact ⟨a, h⟩
theorem cellsFrom_mem : ∀ {names : List (Str × NameKind)} {m : Nat} {x : Str} {a : Addr}, (x, a) ∈ cellsFrom m names [] → (x, NameKind.cell) ∈ names
  | [], _, _, _, h => by cases h
  | (n, k) :: r, m, x, a, h => by
    unfold cellsFrom at h
    split at h
    · rename_i hk
      rw [cellsFrom_append] at h
      rcases List.mem_append.mp h with h | h
      · exact List.mem_cons_of_mem _ (cellsFrom_mem h)
      · rcases List.mem_singleton.mp h with h
        cases h
        rw [beq_iff_eq.mp hk]; exact List.mem_cons_self
    · exact List.mem_cons_of_mem _ (cellsFrom_mem h)
theorem mem_cellsFrom : ∀ {names : List (Str × NameKind)} {m : Nat} {x : Str}, (x, NameKind.cell) ∈ names → ∃ a, (x, a) ∈ cellsFrom m names []
  | [], _, _, h => by cases h
  | (n, k) :: r, m, x, h => by
    unfold cellsFrom
    rcases List.mem_cons.mp h with h | h
    · cases h
      rw [if_pos (beq_self_eq_true _), cellsFrom_append]
      exact ⟨_, List.mem_append_right _ List.mem_cons_self⟩
    · split
      · obtain ⟨a, h⟩ := mem_cellsFrom (m := m + 1) h
        rw [cellsFrom_append]; exact ⟨a, List.mem_append_left _ h⟩
      · exact mem_cellsFrom (m := m) h

theorem lookup_of_mem {α : Type} : ∀ {l : List (Str × α)} {x : Str} {a : α}, (x, a) ∈ l → ∃ b, l.lookup x = some b
  | (y, b) :: r, x, a, h => by
    rw [List.lookup_cons]
    by_cases hx : x = y
    · subst hx; simp
    · rw [show (x == y) = false by simpa using hx]
      rcases List.mem_cons.mp h with h | h
      · cases h; exact absurd rfl hx
      · exact lookup_of_mem h
theorem lookup_none {α : Type} {l : List (Str × α)} {x : Str} (h : ∀ a, (x, a) ∉ l) : l.lookup x = none := by
  cases e : l.lookup x with
  | none => rfl
  | some a => exact absurd (mem_of_lookup e) (h a)
theorem nodup_kind {names : List (Str × NameKind)} (h : (names.map (·.1)).Nodup) : ∀ {x : Str} {k k' : NameKind}, (x, k) ∈ names → (x, k') ∈ names → k = k' := by
  induction names with
  | nil => intro _ _ _ h; cases h
  | cons y r ih =>
    intro x k k' h1 h2
    rw [List.map_cons, List.nodup_cons] at h
    rcases List.mem_cons.mp h1 with h1 | h1 <;> rcases List.mem_cons.mp h2 with h2 | h2
    · rw [← h1] at h2; cases h2; rfl
    · exact absurd (List.mem_map.mpr ⟨_, h2, rfl⟩) (by rw [← h1] at h; exact h.1)
    · exact absurd (List.mem_map.mpr ⟨_, h1, rfl⟩) (by rw [← h2] at h; exact h.1)
    · exact ih h.2 h1 h2
theorem clFrom_apart {cells : List (Str × Addr)} (hp : cells.Pairwise fun x y => x.2 ≠ y.2) : ∀ {names : List (Str × NameKind)}, (names.map (·.1)).Nodup → (∀ x, (x, NameKind.free) ∈ names → ∃ a, cells.lookup x = some a) → (clFrom cells names []).Pairwise fun x y => x.2 ≠ y.2
  | [], _, _ => List.Pairwise.nil
  | (n, k) :: r, hn, hc => by
    rw [List.map_cons, List.nodup_cons] at hn
    have ih := clFrom_apart hp hn.2 fun x hx => hc x (List.mem_cons_of_mem _ hx)
    unfold clFrom
    split
    · rename_i hk
      rw [clFrom_append, List.pairwise_append]
      refine ⟨ih, List.pairwise_singleton _ _, fun p h1 q h2 => ?_⟩
      rcases List.mem_singleton.mp h2 with rfl
      obtain ⟨h3, h4⟩ := clFrom_mem (x := p.1) (a := p.2) h1
      obtain ⟨a, ha⟩ := hc p.1 (List.mem_cons_of_mem _ h3)
      obtain ⟨b, hb⟩ := hc n (by rw [beq_iff_eq.mp hk]; exact List.mem_cons_self)
      rw [h4, ha]
      simp only [Option.getD_some, hb]
      intro e
      subst e
      have := name_of_addr hp (mem_of_lookup ha) (mem_of_lookup hb)
      exact hn.1 (List.mem_map.mpr ⟨_, h3, this⟩)
    · exact ih

section
variable {M : Model} {A : Around} {E : Value → Shared → Prop} {s : Shared}
theorem closureFor_eq {scope : Scope} {env : Env} (h : ∀ x, (x, NameKind.free) ∈ scope.names → ∃ a, env.cells.lookup x = some a) : closureFor scope env = pure (clFrom env.cells scope.names []) := by
  have key : ∀ (names : List (Str × NameKind)) (acc : List (Str × Addr)), (∀ x, (x, NameKind.free) ∈ names → ∃ a, env.cells.lookup x = some a) →
      (forIn names acc (fun (x : Str × NameKind) (cs : List (Str × Addr)) => match x with
        | (name, kind) => if (kind == NameKind.free) = true then (do let __do_lift ← cellOf env name; pure (ForInStep.yield ((name, __do_lift) :: cs))) else pure (ForInStep.yield cs) : Str × NameKind → List (Str × Addr) → Sem (ForInStep (List (Str × Addr))))) = pure (clFrom env.cells names acc) := by
    intro names
    induction names with
    | nil => intro acc _; rfl
    | cons y r ih =>
      intro acc hh
      obtain ⟨n, k⟩ := y
      rw [List.forIn_cons]
      unfold clFrom
      by_cases hk : (k == NameKind.free) = true
      · obtain ⟨a, ha⟩ := hh n (by rw [← beq_iff_eq.mp hk]; exact List.mem_cons_self)
        simp only [hk, if_true]
        unfold cellOf
        rw [ha]
        exact ih _ fun x hx => hh x (List.mem_cons_of_mem _ hx)
      · have hk' : (k == NameKind.free) = false := by simpa using hk
        simp only [hk', Bool.false_eq_true, if_false]
        exact ih _ fun x hx => hh x (List.mem_cons_of_mem _ hx)
  unfold closureFor
  have := key scope.names [] h
  dsimp only
  rw [this]
  rfl

theorem newEnv_comp {scope : Scope} {cl : List (Str × Addr)} {env : Env} {Q : Env → Shared → Prop}
    (hQ : Q (newEnv scope s.heap.objs.size env.globals (cellsFrom (s.heap.objs.size + 1) scope.names cl) env.qual none .none (some env) builtinsNs) { s with heap := pushCells (s.heap.push { cls := .type "dict", data := .dict #[] }) scope.names }) :
    wpAny M A (newFunctionEnv scope env.globals cl [] env.qual none .none (some env)) Q E s := by
  simp only [newFunctionEnv, Option.isSome_some, if_true]
  refine wpAny_bind (wpAny_alloc ?_)
  refine wpAny_bind (wpAny_layCells _ (fun name kind cells => by cases hkc : kind == NameKind.cell <;> simp [hkc]) _ _ _ _ ?_)
  rw [show ({ s with heap := s.heap.push { cls := .type "dict", data := .dict #[] } } : Shared).heap.objs.size = s.heap.objs.size + 1 from Heap.size_push ..]
  rw [List.forIn_nil]
  exact wpAny_bind (wpAny_pure (wpAny_pure hQ))
end

end Mine
end
section
open PySem PySem.W PyProof.Rows PySem.SeqAt PySem.MeetsSeq
namespace Mine

structure CompOk (C : SC) (scope : Scope) (C₀ : SC) : Prop where
  kind : scope.kind = .function
  nodup : (scope.names.map (·.1)).Nodup
  free : ∀ x, (x, NameKind.free) ∈ scope.names → C.names.lookup x = some .cell
  fr : C₀.fr = C.fr
  comp : C₀.comp = true
  names : C₀.names = scope.names.map fun (p : Str × NameKind) => if p.2 == .free then (p.1, NameKind.cell) else p
  slots : ∀ (i : Nat) (x : Str), C₀.slots.lookup i = some x → C.slots.lookup i = some x ∧ (x, NameKind.free) ∈ scope.names
noncomputable def ownNames (scope : Scope) (x : Str) : Prop := (x, NameKind.local) ∈ scope.names ∨ (x, NameKind.cell) ∈ scope.names

section
variable {c : Cst} {A : Around} {Z : List Addr} {lk : Nat → Nat} {s : Shared} {ads : Ads} {σ σ' : Store} {n : Nat} {C C₀ : SC} {env : Env} {acc : Addr} {scope : Scope} {ρ : Loc}

noncomputable def compEnv' (scope : Scope) (env : Env) (L : Addr) : Env :=
  { newEnv scope L env.globals (cellsFrom (L + 1) scope.names (clFrom env.cells scope.names [])) env.qual none .none (some env) builtinsNs with scope := relabel scope env }

theorem relabel_names (V : EnvRel c C env ρ Z ads σ s.heap) (K : CompOk C scope C₀) : (relabel scope env).names = C₀.names := by
  rw [K.names]
  unfold relabel
  dsimp only
  apply List.map_congr_left
  intro p hp
  obtain ⟨n, k⟩ := p
  dsimp only
  by_cases hk : k = .free
  · subst hk
    have : env.kindOf n = some .cell := by unfold Env.kindOf; rw [V.names]; exact K.free n hp
    rw [this, V.kind]; rfl
  · have : (k == NameKind.free) = false := by simpa using hk
    rw [this]; rfl

theorem lookup_map_kind {f : NameKind → NameKind} : ∀ {names : List (Str × NameKind)} {x : Str}, (names.map fun p => (p.1, f p.2)).lookup x = (names.lookup x).map f
  | [], _ => rfl
  | (n, k) :: r, x => by
    rw [List.map_cons, List.lookup_cons, List.lookup_cons]
    cases x == n
    · exact lookup_map_kind
    · rfl
theorem lookup_eq_of_mem {α : Type} : ∀ {l : List (Str × α)} {x : Str} {a : α}, (l.map (·.1)).Nodup → (x, a) ∈ l → l.lookup x = some a
  | (y, b) :: r, x, a, hn, h => by
    rw [List.map_cons, List.nodup_cons] at hn
    rw [List.lookup_cons]
    by_cases hx : x = y
    · subst hx
      simp only [beq_self_eq_true]
      rcases List.mem_cons.mp h with h | h
      · cases h; rfl
      · exact absurd (List.mem_map.mpr ⟨_, h, rfl⟩) hn.1
    · rw [show (x == y) = false by simpa using hx]
      rcases List.mem_cons.mp h with h | h
      · cases h; exact absurd rfl hx
      · exact lookup_eq_of_mem hn.2 h

theorem comp_env (R : c.R Z lk s.heap ads σ) (V : EnvRel c C env ρ Z ads σ s.heap) (K : CompOk C scope C₀) :
    EnvRel c C₀ (compEnv' scope env s.heap.objs.size) ρ Z ads σ (pushCells (s.heap.push { cls := .type "dict", data := .dict #[] }) scope.names) ∧
    c.R Z lk (pushCells (s.heap.push { cls := .type "dict", data := .dict #[] }) scope.names) ads σ ∧
    (∀ b o, s.heap.get? b = some o → (pushCells (s.heap.push { cls := .type "dict", data := .dict #[] }) scope.names).get? b = some o) ∧
    OwnS (ownNames scope) (compEnv' scope env s.heap.objs.size) := by
  have hk : ∀ b o, s.heap.get? b = some o → (pushCells (s.heap.push { cls := .type "dict", data := .dict #[] }) scope.names).get? b = some o := fun b o e => pushCells_keeps _ _ b o (Heap.get?_push_of_some _ e)
  have ok := cellsFrom_ok scope.names (s.heap.push { cls := .type "dict", data := .dict #[] }) (s.heap.objs.size + 1) [] ⟨fun _ _ hm => (nomatch hm), List.Pairwise.nil⟩ (by rw [Heap.size_push]; exact Nat.le_refl _)
  rw [Heap.size_push] at ok
  have hfree : ∀ x, (x, NameKind.free) ∈ scope.names → ∃ a, env.cells.lookup x = some a := fun x hx => let ⟨a, _, h, _⟩ := V.has x (K.free x hx); ⟨a, h⟩
  have hcells : (compEnv' scope env s.heap.objs.size).cells = cellsFrom (s.heap.objs.size + 1) scope.names [] ++ clFrom env.cells scope.names [] := cellsFrom_append _ _ _
  have hclm : ∀ x a, (x, a) ∈ clFrom env.cells scope.names [] → env.cells.lookup x = some a := fun x a h => by
    obtain ⟨h1, h2⟩ := clFrom_mem h
    obtain ⟨b, hb⟩ := hfree x h1
    rw [hb] at h2; rw [hb, h2]; rfl
  have hlt : ∀ x a, (x, a) ∈ clFrom env.cells scope.names [] → a < s.heap.objs.size := fun x a h => by
    obtain ⟨_, _, ov, o, ho, _⟩ := V.cown x a (mem_of_lookup (hclm x a h))
    exact Heap.lt_size ho
  have hlookF : ∀ x, (x, NameKind.free) ∈ scope.names → (compEnv' scope env s.heap.objs.size).cells.lookup x = env.cells.lookup x := fun x hx => by
    rw [hcells, List.lookup_append]
    rw [lookup_none (l := cellsFrom (s.heap.objs.size + 1) scope.names []) fun a h => nomatch nodup_kind K.nodup hx (cellsFrom_mem h)]
    obtain ⟨a, ha⟩ := mem_clFrom (cells := env.cells) hx
    obtain ⟨b, hb⟩ := lookup_of_mem ha
    rw [hb, hclm x b (mem_of_lookup hb)]; rfl
  have hlookC : ∀ x, (x, NameKind.cell) ∈ scope.names → ∃ a, (compEnv' scope env s.heap.objs.size).cells.lookup x = some a ∧ (x, a) ∈ cellsFrom (s.heap.objs.size + 1) scope.names [] := fun x hx => by
    rw [hcells, List.lookup_append]
    obtain ⟨a, ha⟩ := mem_cellsFrom (m := s.heap.objs.size + 1) hx
    obtain ⟨b, hb⟩ := lookup_of_mem ha
    exact ⟨b, by rw [hb]; rfl, mem_of_lookup hb⟩
  have hC0 : C₀.names = scope.names.map fun p => (p.1, if p.2 == .free then NameKind.cell else p.2) := by
    rw [K.names]; apply List.map_congr_left; intro p _
    split <;> rfl
  have hc0 : ∀ x, C₀.names.lookup x = some .cell → (x, NameKind.free) ∈ scope.names ∨ (x, NameKind.cell) ∈ scope.names := fun x hx => by
    rw [hC0, lookup_map_kind (f := fun k => if k == .free then NameKind.cell else k)] at hx
    refine el12 (Option.map_eq_some_iff.mp hx) fun k h1 h2 => ?_
    have hm := mem_of_lookup h1
    by_cases hk : k = .free
    · subst hk; exact .inl hm
    · rw [show (k == NameKind.free) = false by simpa using hk] at h2
      simp only [Bool.false_eq_true, if_false] at h2
      subst h2; exact .inr hm
  have hNs : (pushCells (s.heap.push { cls := .type "dict", data := .dict #[] }) scope.names).Ns s.heap.objs.size fun _ => none := (Heap.Ns.new s.heap (.type "dict")).keeps (pushCells_keeps _ _)
  have hcell : ∀ x a, (x, a) ∈ (compEnv' scope env s.heap.objs.size).cells → ¬ Owned ads σ a ∧ c.h₀.get? a = none ∧ ∃ ov, (pushCells (s.heap.push { cls := .type "dict", data := .dict #[] }) scope.names).IsCell a ov := fun x a h => by
    rw [hcells] at h
    rcases List.mem_append.mp h with h | h
    · obtain ⟨h1, h2⟩ := ok.empty x a h
      have hn : s.heap.get? a = none := by
        cases e : s.heap.get? a with
        | none => rfl
        | some o => exact absurd (Heap.lt_size e) (Nat.not_lt.mpr (Nat.le_trans (Nat.le_succ _) h2))
      exact ⟨fun q => R.fresh_ww hn (.inr q), R.fresh_base hn, _, h1⟩
    · obtain ⟨h1, h2, ov, o, ho, hd⟩ := V.cown x a (mem_of_lookup (hclm x a h))
      exact ⟨h1, h2, ov, o, hk a o ho, hd⟩
  refine ⟨⟨K.kind, relabel_names V K, V.globals, V.builtins, ⟨_, hNs, fun i x d h1 h2 h3 => ?_⟩, fun x hx => ?_, fun i x d a h1 h2 h3 h4 => ?_, ?_, ⟨fun q => R.fresh_ww (get_size _) (.inr q), R.fresh_base (get_size _)⟩, hcell, K.fr.symm ▸ funFrames_mono V.frs (fun a _ => FrKeep.same fun o e => hk a o e), K.fr.symm ▸ V.frn, fun q => by rw [K.comp] at q; cases q⟩, R.grow hk, hk, fun x hx a ha => ?_⟩
  · obtain ⟨_, h5⟩ := K.slots i x h1
    rw [hC0, lookup_map_kind (f := fun k => if k == .free then NameKind.cell else k), lookup_eq_of_mem K.nodup h5] at h2
    cases h2
  · rcases hc0 x hx with h | h
    · obtain ⟨a, ov, h1, o, ho, hd⟩ := V.has x (K.free x h)
      exact ⟨a, ov, (hlookF x h).trans h1, o, hk a o ho, hd⟩
    · refine el12 (hlookC x h) fun a h1 h2 => ?_
      exact ⟨a, _, h1, (ok.empty x a h2).1⟩
  · obtain ⟨h5, h6⟩ := K.slots i x h1
    rw [hlookF x h6] at h4
    refine el12 (V.cell i x d a h5 (K.free x h6) h3 h4) fun v qp46 r => ?_; obtain ⟨o, ho, hd⟩ := qp46
    exact ⟨v, ⟨o, hk a o ho, hd⟩, Rep.mono (Sub.refl _) (fun b o _ _ e => hk b o e) (fun _ _ _ w => w) _ _ r⟩
  · rw [hcells, List.pairwise_append]
    refine ⟨ok.apart, clFrom_apart V.apart K.nodup hfree, fun p hp q hq e => ?_⟩
    have h1 := (ok.empty p.1 p.2 hp).2
    have h2 := hlt q.1 q.2 hq
    rw [e] at h1
    exact absurd h2 (Nat.not_lt.mpr (Nat.le_trans (Nat.le_succ _) h1))
  · show s.heap.objs.size ≤ a
    rcases hx with hx | hx
    · exfalso
      rw [hcells, List.lookup_append] at ha
      have e1 := lookup_none (x := x) (l := cellsFrom (s.heap.objs.size + 1) scope.names []) fun b h => nomatch nodup_kind K.nodup hx (cellsFrom_mem h)
      have e2 := lookup_none (x := x) (l := clFrom env.cells scope.names []) fun b h => nomatch nodup_kind K.nodup hx (clFrom_mem h).1
      rw [e1, e2] at ha
      cases ha
    · refine el12 (hlookC x hx) fun b h1 h2 => ?_
      rw [h1] at ha; cases ha
      exact Nat.le_trans (Nat.le_succ _) (ok.empty x a h2).2

theorem Rel.adopt {h : Heap} {a : Addr} {l : List D} (R : c.R (a :: Z) lk h ads σ) (x : AccAt c Z ads σ h a l) (hb : c.h₀.get? a = none) (haZ : a ∉ Z) : c.R Z lk h (ads ++ [(a, a)]) (σ ++ [.list l]) := by
  have hlen := R.len
  have hget : ∀ {j : Nat} {q : Addr × Addr}, (ads ++ [(a, a)])[j]? = some q → (j = σ.length ∧ q = (a, a)) ∨ (j < σ.length ∧ ads[j]? = some q) := fun e => R.get_last (o := .list l) e
  have hown : ∀ b, Owned (ads ++ [(a, a)]) (σ ++ [.list l]) b → WW (a :: Z) ads σ b := by
    rintro b ⟨j, q, y, h1, h2, h3, h4⟩
    rcases hget h1 with ⟨rfl, rfl⟩ | ⟨hj, h1⟩
    · rcases h4 with rfl | rfl <;> exact .inl List.mem_cons_self
    · rcases getS_last h2 with ⟨rfl, rfl⟩ | ⟨_, h2⟩
      · exact absurd hj (Nat.lt_irrefl _)
      · exact .inr ⟨j, q, y, h1, h2, h3, h4⟩
  have hw : ∀ b (o : Obj), h.get? b = some o → WW Z (ads ++ [(a, a)]) (σ ++ [.list l]) b → WW (a :: Z) ads σ b := fun b _ _ q => q.elim (fun q => .inl (List.mem_cons_of_mem _ q)) (hown b)
  refine el13 (x) fun vs hp hr hl => ?_
  have hh : Heap.Has h a := let ⟨m, e⟩ := hp; ⟨_, e⟩
  have hne : ∀ (j : Nat) (q : Addr × Addr) (y : O), ads[j]? = some q → σ[j]? = some y → y.live = true → q.1 ≠ a ∧ q.2 ≠ a := fun j q y h1 h2 h3 =>
    ⟨fun e => R.zown a List.mem_cons_self ⟨j, q, y, h1, h2, h3, .inl e.symm⟩, fun e => R.zown a List.mem_cons_self ⟨j, q, y, h1, h2, h3, .inr e.symm⟩⟩
  refine ⟨by simp [hlen], R.keep, fun j q y h1 h2 => ?_, fun j j' q q' y y' h1 h1' h2 h2' l1 l2 hjj => ?_, fun j q h1 => ?_, fun b hb => R.zlt b (List.mem_cons_of_mem _ hb), fun j q y h1 h2 h3 => ?_, fun b hz q => ?_⟩
  · rcases hget h1 with ⟨rfl, rfl⟩ | ⟨hj, h1⟩
    · rcases getS_last h2 with ⟨_, rfl⟩ | ⟨hj, _⟩
      · exact ⟨vs, hp, RepL.mono (Sub.append _ _) (fun _ _ _ _ e => e) hw _ _ hr, hl, rfl⟩
      · exact absurd hj (Nat.lt_irrefl _)
    · rcases getS_last h2 with ⟨rfl, rfl⟩ | ⟨_, h2⟩
      · exact absurd hj (Nat.lt_irrefl _)
      · exact (R.objs j q y h1 h2).mono (Sub.append _ _) (fun _ _ _ _ e => e) hw (fun _ _ e => e) (fun _ _ e => e)
  · rcases hget h1 with ⟨rfl, rfl⟩ | ⟨hj, h1⟩ <;> rcases hget h1' with ⟨rfl, rfl⟩ | ⟨hj', h1'⟩
    · exact absurd rfl hjj
    · rcases getS_last h2' with ⟨rfl, rfl⟩ | ⟨_, h2'⟩
      · exact absurd hj' (Nat.lt_irrefl _)
      · have := hne j' q' y' h1' h2' l2; exact ⟨Ne.symm this.1, Ne.symm this.2, Ne.symm this.1, Ne.symm this.2⟩
    · rcases getS_last h2 with ⟨rfl, rfl⟩ | ⟨_, h2⟩
      · exact absurd hj (Nat.lt_irrefl _)
      · have := hne j q y h1 h2 l1; exact ⟨this.1, this.1, this.2, this.2⟩
    · rcases getS_last h2 with ⟨rfl, rfl⟩ | ⟨_, h2⟩
      · exact absurd hj (Nat.lt_irrefl _)
      · rcases getS_last h2' with ⟨rfl, rfl⟩ | ⟨_, h2'⟩
        · exact absurd hj' (Nat.lt_irrefl _)
        · exact R.apart j j' q q' y y' h1 h1' h2 h2' l1 l2 hjj
  · rcases hget h1 with ⟨rfl, rfl⟩ | ⟨hj, h1⟩
    · exact ⟨hb, hb⟩
    · exact R.new j q h1
  · rcases hget h1 with ⟨rfl, rfl⟩ | ⟨hj, h1⟩
    · exact ⟨hh, hh⟩
    · rcases getS_last h2 with ⟨rfl, rfl⟩ | ⟨_, h2⟩
      · exact absurd hj (Nat.lt_irrefl _)
      · exact R.alt j q y h1 h2 h3
  · rcases q with ⟨j, q, y, h1, h2, h3, h4⟩
    rcases hget h1 with ⟨rfl, rfl⟩ | ⟨hj, h1⟩
    · rcases h4 with rfl | rfl <;> exact haZ hz
    · rcases getS_last h2 with ⟨rfl, rfl⟩ | ⟨_, h2⟩
      · exact absurd hj (Nat.lt_irrefl _)
      · exact R.zown b (List.mem_cons_of_mem _ hz) ⟨j, q, y, h1, h2, h3, h4⟩

theorem sim_compG {F : Env'} (hF : LkF F.F) {eltx : E} {elt : Expr} {cs : List Comprehension} {pos : Pos} {m : Bool} {t : Nat} {x : Str} {px : Pos} {it : It} {iter : Expr} {ifs : List E} {cifs : List Expr} {gs : List G} {C₁ C₂ : SC} (K : CompOk C scope C₀)
    (hI : SimI c n C iter (evi F it)) (hf : ∀ env v, foldedSetIterable iter env v = pure v) (hb : BindOk (ownNames scope) C₀ C₁ t x) (hnot : ∀ y, C₀.slots.lookup t ≠ some y) (hC : SimC c n C₁ cifs (evc F ifs)) (hG : GOk c n F (ownNames scope) C₁ gs cs C₂) (hE : Sim c n C₂ elt (ev F eltx))
    (hA : Room A n C.fr) (R : c.R Z lk s.heap ads σ) (V : EnvRel c C env ρ Z ads σ s.heap) {l : List D} {d : D} (hev : evg F (.mk [t] false it ifs :: gs) (ev F eltx) ρ σ = some (l, σ')) (hl : l.length ≤ lim) {use : Option (Value → Sem Unit)} {Q : Value → Shared → Prop} {E : Value → Shared → Prop}
    (k : ∀ acc s' ads' L h'', s.heap.get? acc = none → s.heap.get? L = none → (∃ mm, s'.heap.Ns L mm) → acc ≠ L → Ext Z ads σ s ads' σ' s' → c.R (acc :: Z) lk s'.heap ads' σ' → AccAt c Z ads' σ' s'.heap acc l → c.h₀.get? acc = none → acc ∉ Z → ¬ Owned ads' σ' L → c.h₀.get? L = none → L ∉ acc :: Z → compPost (model c.prog c.w) A E use Q (.ref acc) L (.ok h'') s') :
    wpAny (model c.prog c.w) A (comprehension (.ListComp elt (⟨.Name x px, iter, cifs, 0⟩ :: cs) scope pos) scope env (firstIterPos (⟨.Name x px, iter, cifs, 0⟩ :: cs) pos) (newList []) false (firstIter (⟨.Name x px, iter, cifs, 0⟩ :: cs) env) use) Q E s := by
  have hfree : ∀ x, (x, NameKind.free) ∈ scope.names → ∃ a, env.cells.lookup x = some a := fun x hx => let ⟨a, _, h, _⟩ := V.has x (K.free x hx); ⟨a, h⟩
  obtain ⟨hB, hnext⟩ := body_all (scope := scope) (pos := pos) (csAll := ⟨.Name x px, iter, cifs, 0⟩ :: cs) (depth := 0) hF (fun ρ σ => lk_ev hF eltx ρ σ) hG rfl hE
  refine wpAny_comprehension_free (g := ⟨.Name x px, iter, cifs, 0⟩) (gs := cs) rfl (hf env) (closureFor_eq hfree) K.kind (fun y hy hl => ?_) ?_
  · have := lookup_eq_of_mem K.nodup (show (y.1, y.2) ∈ scope.names from hy)
    rw [this, hl]
  refine bd3 hev fun li σ1 u h1 hev => bd2 hev fun r' σ2 h2 hev => bd1 hev fun σ3 h3 hev => ?_
  cases hev
  have h2' : overL (bodyG F t ifs gs (ev F eltx) ρ) li σ1 = some (r', σ2) := h2
  show wpAny _ A (eval iter env) _ E s
  refine hI A Z lk s ads ρ σ env li σ1 u h1 hA R V _ _ fun I s₂ ads₂ lk' hlk x2 R2 it2 hIf hIw hIb => ?_
  refine wpAny_newList ?_ (by simp)
  have V2 := V.ext x2
  -- the list to be filled
  have hk3 : ∀ b o, s₂.heap.get? b = some o → (s₂.heap.push { cls := .type "list", data := .seq #[] }).get? b = some o := fun b o e => Heap.get?_push_of_some _ e
  have R3 : c.R (s₂.heap.objs.size :: Z) lk' (s₂.heap.push { cls := .type "list", data := .seq #[] }) ads₂ σ1 := R2.aside (get_size _) hk3 (has_push _)
  have hWz : ∀ a o, s₂.heap.get? a = some o → WW (s₂.heap.objs.size :: Z) ads₂ σ1 a → WW Z ads₂ σ1 a := fun a o e w => by
    rcases w with w | w
    · rcases List.mem_cons.mp w with rfl | w
      · rw [get_size] at e; cases e
      · exact .inl w
    · exact .inr w
  have V3 : EnvRel c C env ρ (s₂.heap.objs.size :: Z) ads₂ σ1 (s₂.heap.push { cls := .type "list", data := .seq #[] }) := V2.mono (Sub.refl _) (fun a o _ _ e => hk3 a o e) hWz (fun a o _ e => hk3 a o e) (fun a h _ => h) (fun a _ => FrKeep.same fun o e => hk3 a o e)
  have it3 : ItAt c (s₂.heap.objs.size :: Z) lk' ads₂ σ1 (s₂.heap.push { cls := .type "list", data := .seq #[] }) I li := it2.mono (Sub.refl _) (Lk.refl _) (fun o e => hk3 I o e) (fun a o _ _ e => hk3 a o e) hWz
  refine newEnv_comp ?_
  have hst : ({ s₂ with heap := s₂.heap.push { cls := .type "list", data := .seq #[] } } : Shared).heap = s₂.heap.push { cls := .type "list", data := .seq #[] } := rfl
  generalize hs3 : ({ s₂ with heap := s₂.heap.push { cls := .type "list", data := .seq [].toArray } } : Shared) = s₃
  have hs3h : s₃.heap = s₂.heap.push { cls := .type "list", data := .seq #[] } := by rw [← hs3]
  rw [← hs3h] at R3 V3 it3
  refine el04 (comp_env R3 V3 K) fun V4 R4 hk4 hS => ?_
  have hbacc : c.h₀.get? s₂.heap.objs.size = none := R2.fresh_base (get_size _)
  have hIne : I ≠ s₂.heap.objs.size := fun q => by refine el12 (it2.obj) fun o e _ => ?_; rw [q, get_size] at e; cases e
  have hIw3 : ¬ WW (s₂.heap.objs.size :: Z) ads₂ σ1 I := fun w => by
    rcases w with w | w
    · rcases List.mem_cons.mp w with w | w
      · exact hIne w
      · exact hIw (.inl w)
    · exact hIw (.inr w)
  let s₄ : Shared := { s₃ with heap := pushCells (s₃.heap.push { cls := .type "dict", data := .dict #[] }) scope.names }
  have hacc3 : s₃.heap.get? s₂.heap.objs.size = some { cls := .type "list", data := .seq #[] } := by rw [hs3h]; exact Heap.get?_push_size _ rfl
  have i4 : CInv c C₀ (compEnv' scope env s₃.heap.objs.size) ρ Z lk' s₂.heap.objs.size ads₂ σ1 s₄ [] := ⟨R4, V4, [], ⟨0, hk4 _ _ hacc3⟩, rfl, by simp⟩
  have it4 : ItAt c (s₂.heap.objs.size :: Z) lk' ads₂ σ1 s₄.heap I li := it3.mono (Sub.refl _) (Lk.refl _) (fun o e => hk4 I o e) (fun a o _ _ e => hk4 a o e) (fun _ _ _ w => w)
  have x4 : Ext Z ads σ s ads₂ σ1 s₄ := by
    refine x2.trans ?_
    have : s₄ = { s₂ with heap := s₄.heap, toks := s₂.toks } := by
      subst hs3
      rfl
    rw [this]
    exact Ext.more fun b o e => hk4 b o (by rw [hs3h]; exact hk3 b o e)
  have fresh : ∀ b, s₂.heap.get? b = none → s.heap.get? b = none := fun b h => by
    cases e : s.heap.get? b with
    | none => rfl
    | some o => obtain ⟨o', q⟩ := x2.has b ⟨o, e⟩; rw [h] at q; cases q
  have big : ∀ b, s₂.heap.objs.size ≤ b → s₂.heap.get? b = none := fun b h => by
    cases e : s₂.heap.get? b with
    | none => rfl
    | some o => exact absurd (Heap.lt_size e) (Nat.not_lt.mpr h)
  have hsz : s₃.heap.objs.size = s₂.heap.objs.size + 1 := by rw [hs3h, Heap.size_push]
  have hY : ∀ b, (YC s₂.heap.objs.size (compEnv' scope env s₃.heap.objs.size) b ∨ b = I) → s.heap.get? b = none := by
    rintro b ((rfl | ⟨_, h⟩) | rfl)
    · exact fresh _ (get_size _)
    · refine fresh _ (big _ ?_)
      have h : s₃.heap.objs.size ≤ b := h
      rw [hsz] at h
      exact Nat.le_trans (Nat.le_succ _) h
    · exact hIf
  have loop : ∀ R : Result → Shared → Prop, (∀ s' ads', ExtE (fun b => YC s₂.heap.objs.size (compEnv' scope env s₃.heap.objs.size) b ∨ b = I) ads₂ σ1 s₄ ads' σ2 s' → CInv c C₀ (compEnv' scope env s₃.heap.objs.size) ρ Z lk' s₂.heap.objs.size ads' σ2 s' ([] ++ r') → R (.ok .next) s') →
      codeAny (model c.prog c.w) A (.compLoop (.ListComp elt (⟨.Name x px, iter, cifs, 0⟩ :: cs) scope pos) 0 (.ref I) (.ref s₂.heap.objs.size) (compEnv' scope env s₃.heap.objs.size)) R s₄ :=
    fun R hR => comp_turns hF (fun ρ σ => lk_ev hF eltx ρ σ) rfl hnext hb hnot hC hB (by rw [hb.fr, K.fr]; exact hA) hS hbacc h2' i4 (by simpa using hl) it4 hIw3 hIb hR
  refine compStart_wp (g := ⟨.Name x px, iter, cifs, 0⟩) rfl rfl (loop _ ?_) (iter_iter it4 (loop _ ?_))
  all_goals
    intro s' ads' xe i6
    obtain ⟨R7, ho7⟩ := unlockO_rel i6.R hlk h3
    have i7 := i6.sameOwn R7 ho7
    have x7 : Ext Z ads σ s ads' σ' s' := by
      have := ExtE.ext x4 xe hY
      exact ⟨this.pre, this.kept, fun b e => this.own b ((ho7 b).mp e), this.has, this.rest⟩
    refine k s₂.heap.objs.size s' ads' s₃.heap.objs.size .next (fresh _ (get_size _)) (fresh _ (big _ (by rw [hsz]; exact Nat.le_succ _))) (let ⟨mm, h, _⟩ := i7.V.ns; ⟨mm, h⟩) (by rw [hsz]; exact Nat.ne_of_lt (Nat.lt_succ_self _)) x7 R7 (by simpa using i7.acc) hbacc ?_ i7.V.lown.1 i7.V.lown.2 ?_
    · intro hz
      obtain ⟨o, e⟩ := R2.zlt _ hz
      rw [get_size] at e; cases e
    · intro hz
      obtain ⟨o, e⟩ := R3.zlt _ hz
      rw [get_size] at e; cases e

theorem comp_leave {l : List D} {ads' : Ads} {s' : Shared} {L : Addr} {h' : Heap} (hacc : s.heap.get? acc = none) (hL : s.heap.get? L = none) (hn : ∃ mm, s'.heap.Ns L mm) (hne : acc ≠ L) (x : Ext Z ads σ s ads' σ' s') (R : c.R (acc :: Z) lk s'.heap ads' σ') (a : AccAt c Z ads' σ' s'.heap acc l)
    (ho : ¬ Owned ads' σ' L) (hb : c.h₀.get? L = none) (hz : L ∉ acc :: Z) (hs : Heap.SameBut L s'.heap h') : Ext Z ads σ s ads' σ' { s' with heap := h' } ∧ c.R (acc :: Z) lk h' ads' σ' ∧ AccAt c Z ads' σ' h' acc l := by
  have hk : ∀ b o, b ≠ L → s'.heap.get? b = some o → h'.get? b = some o := fun b o q e => (hs.2 b q).trans e
  obtain ⟨mm, hn⟩ := hn
  have hFz := ns_notFz hn
  refine ⟨⟨x.pre, fun b o hn e => SO.thru (x.kept b o hn e) fun o' => hk b o' (fun q => by rw [q, hL] at e; cases e), x.own, fun b e => (x.has b e).kept fun o => hk b o (fun q => by obtain ⟨o, e⟩ := e; rw [q, hL] at e; cases e), let ⟨_, tk, e⟩ := x.rest; ⟨h', tk, by rw [e]⟩⟩,
    R.quiet (fun b => b = L) (fun b o q e => hk b o q e) (fun b q => q ▸ ⟨ho, hb, hFz, .inl hz⟩), ?_⟩
  refine el13 (a) fun vs qp49 r hl => ?_; obtain ⟨m, h1⟩ := qp49
  exact ⟨vs, ⟨m, hk _ _ hne h1⟩, RepL.mono (Sub.refl _) (fun b o _ hf e => hk b o (fun q => by subst q; exact hFz o e hf) e) (fun _ _ _ w => w) _ _ r, hl⟩

theorem acc_rep {h : Heap} {l : List D} (R : c.R (acc :: Z) lk h ads σ) (a : AccAt c Z ads σ h acc l) (hz : acc ∉ Z) : c.P Z ads σ h (.list l) (.ref acc) := by
  refine el13 (a) fun vs hp r hl => ?_
  refine ⟨acc, vs, rfl, hp, fun w => ?_, hl, RepL.mono (Sub.refl _) (fun _ _ _ _ e => e) (fun b _ _ w => w.imp (List.mem_cons_of_mem _) id) _ _ r⟩
  rcases w with w | w
  · exact hz w
  · exact R.zown _ List.mem_cons_self w

theorem comp_done' {acc : Addr} {m : Bool} {l : List D} {d : D} {σ₂ : Store} (R : c.R (acc :: Z) lk s.heap ads σ) (a : AccAt c Z ads σ s.heap acc l) (hz : acc ∉ Z) (hb : c.h₀.get? acc = none) (e : (bif m then some (D.ref σ.length, σ ++ [O.list l]) else some (D.list l, σ)) = some (d, σ₂)) {ads₀ : Ads} {σ₀ : Store} {s₀ : Shared}
    (hf : s₀.heap.get? acc = none) (x : Ext Z ads₀ σ₀ s₀ ads σ s) : ∃ ads', Ext Z ads₀ σ₀ s₀ ads' σ₂ s ∧ c.R Z lk s.heap ads' σ₂ ∧ c.P Z ads' σ₂ s.heap d (.ref acc) ∧ ∀ b, Owned ads' σ₂ b → Owned ads σ b ∨ b = acc := by
  cases m
  case true =>
    cases e
    have ho : ∀ b, Owned (ads ++ [(acc, acc)]) (σ ++ [.list l]) b → Owned ads σ b ∨ b = acc := by
      rintro b ⟨j, q, y, h1, h2, h3, h4⟩
      rcases R.get_last (o := .list l) h1 with ⟨rfl, rfl⟩ | ⟨hj, h1⟩
      · rcases h4 with rfl | rfl <;> exact .inr rfl
      · rcases getS_last h2 with ⟨rfl, rfl⟩ | ⟨_, h2⟩
        · exact absurd hj (Nat.lt_irrefl _)
        · exact .inl ⟨j, q, y, h1, h2, h3, h4⟩
    refine ⟨ads ++ [(acc, acc)], ⟨?_, x.kept, fun b e => ?_, x.has, x.rest⟩, Rel.adopt R a hb hz, rep_last (p := (acc, acc)) R.len, ho⟩
    · obtain ⟨r, rfl⟩ := x.pre; exact ⟨r ++ [(acc, acc)], by simp⟩
    · rcases ho b e with e | rfl
      · exact x.own b e
      · exact .inr hf
  case false =>
    cases e
    exact ⟨ads, x, R.back, acc_rep R a hz, fun b q => .inl q⟩

theorem sim_comp {F : Env'} (hF : LkF F.F) {eltx : E} {elt : Expr} {cs : List Comprehension} {pos : Pos} {m : Bool} {t : Nat} {x : Str} {px : Pos} {it : It} {iter : Expr} {ifs : List E} {cifs : List Expr} {gs : List G} {C₁ C₂ : SC} (K : CompOk C scope C₀)
    (hI : SimI c n C iter (evi F it)) (hf : ∀ env v, foldedSetIterable iter env v = pure v) (hb : BindOk (ownNames scope) C₀ C₁ t x) (hnot : ∀ y, C₀.slots.lookup t ≠ some y) (hC : SimC c n C₁ cifs (evc F ifs)) (hG : GOk c n F (ownNames scope) C₁ gs cs C₂) (hE : Sim c n C₂ elt (ev F eltx))
    (hna : firstAsync (⟨.Name x px, iter, cifs, 0⟩ :: cs) = false) : Sim c n C (.ListComp elt (⟨.Name x px, iter, cifs, 0⟩ :: cs) scope pos) (ev F (.comp m eltx (.mk [t] false it ifs :: gs))) := by
  intro A Z lk s ads ρ σ env d σ' hev hA R V Q E k
  refine bd2 hev fun l σ1 h1 hev => bd1 hev fun d1 h2 hev => if_el h2 fun hl h2 => ?_
  cases h2
  rw [eval_ListComp, hna]
  refine sim_compG (d := d) (m := m) hF K hI hf hb hnot hC hG hE hA R V h1 hl fun acc s' ads' L h'' hacc hL hn hne x1 R1 a1 hb1 hz1 ho hLb hLz => ?_
  obtain ⟨mm, hn'⟩ := hn
  refine ⟨mm, hn', fun h' hs => ?_⟩
  refine el03 (comp_leave hacc hL ⟨mm, hn'⟩ hne x1 R1 a1 ho hLb hLz hs) fun x2 R2 a2 => ?_
  refine el14 (comp_done' (s := { s' with heap := h' }) R2 a2 hz1 hb1 hev hacc x2) fun ads2 x3 R3 r3 _ => ?_
  exact k _ _ ads2 x3 R3 r3
end

end Mine
end
section
open PySem PySem.W PyProof.Rows PySem.SeqAt PySem.MeetsSeq
namespace Mine

section
variable {c : Cst} {A : Around} {Z : List Addr} {lk : Nat → Nat} {s : Shared} {ads : Ads} {σ σ' : Store} {n : Nat} {C C₀ : SC} {env : Env} {acc : Addr} {scope : Scope} {ρ : Loc}

theorem iter_tree {d : D} {v : Value} {l : List D} (R : c.R Z lk s.heap ads σ) (r : c.P Z ads σ s.heap d v) (hl : treeOf d = some l) {Q : Value → Shared → Prop} {E : Value → Shared → Prop}
    (k : ∀ h', (∀ b o, s.heap.get? b = some o → h'.get? b = some o) → c.R Z lk h' ads σ → ItAt c Z lk ads σ h' s.heap.objs.size l → Q (.ref s.heap.objs.size) { s with heap := h' }) : wpAny (model c.prog c.w) A (pyIter v) Q E s := by
  have hk : ∀ x b o, s.heap.get? b = some o → (s.heap.push x).get? b = some o := fun x b o e => Heap.get?_push_of_some _ e
  have hm : ∀ x l vs, c.PL Z ads σ s.heap l vs → c.PL Z ads σ (s.heap.push x) l vs := fun x l vs hr => RepL.mono (Sub.refl _) (fun _ _ _ _ e => hk x _ _ e) (fun _ _ _ w => w) _ _ hr
  cases d
  case list =>
    refine el25 r fun a vs ha hp hw _ hr => Exists.elim hp fun m hp => ?_
    have hl' := Option.some.inj hl
    subst hl'; subst ha
    exact wpAny_pyIter_list (PlainList.isList ⟨m, hp⟩) (k _ (hk _) (R.grow (hk _)) (.list (i := 0) ⟨_, Heap.get?_push_size _ rfl, rfl, rfl⟩ ⟨m, hk _ _ _ hp⟩ hw (hm _ _ _ hr)))
  case tup =>
    refine el35 r fun a vs m ha hp hw _ hr => ?_
    have hl' := Option.some.inj hl
    subst hl'; subst ha
    exact wpAny_pyIter_tuple ⟨_, hp, rfl, m, rfl⟩ (k _ (hk _) (R.grow (hk _)) (.tup (i := 0) ⟨_, Heap.get?_push_size _ rfl, rfl, rfl⟩ (hk _ _ _ hp) hw (hm _ _ _ hr)))
  case rng =>
    refine el44 r fun a t u x ha hp hw hok => ?_
    have hl' := Option.some.inj hl
    subst hl'; subst ha
    refine wpAny_pyIter_range hp (range_small hok) ?_
    rw [range_size]
    exact k _ (hk _) (R.grow (hk _)) (.rng (Heap.get?_push_size _ rfl))
  all_goals exact no_el hl

theorem fresh_iter (x : Ext Z ads σ s ads' σ' s') : s.heap.get? s'.heap.objs.size = none := by
  cases e : s.heap.get? s'.heap.objs.size with
  | none => rfl
  | some o => obtain ⟨o', q⟩ := x.has _ ⟨o, e⟩; rw [get_size] at q; cases q

theorem simI_e {F : Env'} {x : E} {e : Expr} (S : Sim c n C e (ev F x)) : SimI c n C e (evi F (.e x)) :=
  fun A Z lk s ads ρ σ env l σ' u hf hA R V => bd2 hf fun d1 σ1 h1 hf => bd1 hf fun l1 hm hf => sm3 hf fun e1 e2 e3 Q E k => by
    subst e1; subst e2
    exact S A Z lk s ads ρ σ env d1 σ1 h1 hA R V _ _ fun v s1 ads1 x1 R1 r1 => iter_tree R1 r1 hm fun h' hk R' it =>
      k _ _ ads1 lk (fun _ _ => rfl) (x1.trans (Ext.more (tk := s1.toks) hk)) R' it (fresh_iter x1) (R1.fresh_ww (get_size _)) (R1.fresh_base (get_size _))

theorem ObjAt.relock {prog : Program} {w : World} {X : Txt} {W : Addr → Prop} {lk lk' : Nat → Nat} {h : Heap} {k : Nat} {p : Addr × Addr} {o : O} (hne : ∀ es, o = .ldict es → lk' k = lk k) (x : ObjAt prog w X ads W lk h k p o) : ObjAt prog w X ads W lk' h k p o := by
  cases o with
  | ldict es => unfold ObjAt; rw [hne es rfl]; exact x
  | _ => exact x
theorem Rel.relock {h : Heap} {lk' : Nat → Nat} (R : c.R Z lk h ads σ) (hne : ∀ (k : Nat) es, σ[k]? = some (.ldict es) → lk' k = lk k) : c.R Z lk' h ads σ :=
  ⟨R.len, R.keep, fun k p o hp ho => ObjAt.relock (fun es e => hne k es (e ▸ ho)) (R.objs k p o hp ho), R.apart, R.new, R.zlt, R.alt, R.zown⟩
theorem Rel.lockDict {h : Heap} {k : Nat} {p : Addr × Addr} {es : List (Int × D)} (R : c.R Z lk h ads σ) (hp : ads[k]? = some p) (ho : σ[k]? = some (.dict es)) :
    ∃ ep kvs, c.R Z (fun j => if j = k then ep else lk j) h ads (σ.set k (.ldict es)) ∧ h.DictAt (intKind c.prog c.w) p.1 kvs ep ∧ kvs.length = es.length := by
  refine el14 (R.objs k p _ hp ho) fun kvs qp209 hr hl e => ?_; obtain ⟨o, es', ep, r⟩ := qp209
  have hat : h.DictAt (intKind c.prog c.w) p.1 kvs ep := ⟨o, es', r⟩
  refine ⟨ep, kvs, ?_, hat, hr.length⟩
  have R1 : c.R Z (fun j => if j = k then ep else lk j) h ads σ := R.relock fun j es2 hj => by
    have : j ≠ k := fun q => by subst q; rw [ho] at hj; cases hj
    simp [this]
  have hw : WW Z ads (σ.set k (.ldict es)) = WW Z ads σ := by funext b; exact propext (or_congr Iff.rfl (owned_swap ho rfl rfl b))
  refine R1.put hp ho rfl (fun _ _ _ _ e => e) (R.alt _ _ _ hp ho rfl) ?_
  rw [hw]
  refine ⟨kvs, ?_, hr, hl, e⟩
  simp only [if_true]; exact hat

theorem simI_vals {F : Env'} {x : E} {o : Expr} {apos pos : Pos} (B0 : Base c) (S : Sim c n C o (ev F x)) (ho : ∀ name env whole, attributeBase o name env whole = whole) (hline : (apos.endLine == pos.line) = true) :
    SimI c n C (.Call (.Attribute o "values" apos) [] [] pos) (evi F (.vals x)) :=
  fun A Z lk s ads ρ σ env l σ' u hf hA R V => bd2 hf fun d1 σ1 h1 hf => bd1 hf fun k₀ hk₀ hf => bd1 hf fun es hes hf => bd1 hes fun ox ho2 hes => sm3 hf fun e1 e2 e3 Q E k => by
    subst e1; subst e2; subst e3
    rw [show d1 = _ from asRef_inv hk₀] at h1
    rw [oDict_inv hes] at ho2
    refine wpAny_Call_method_late (ho _ _ _) (few_of rfl (by simp)) hline rfl (S A Z lk s ads ρ σ env _ σ1 h1 hA R V _ _ fun ov s1 ads1 x1 R1 r1 => ?_)
    refine el12 (r1) fun p hp qe211 => ?_; subst qe211
    refine el23 (Rel.lockDict R1 hp ho2) fun ep kvs R2 hat hlen => ?_
    refine el22 (hat) fun ob es' hg hob => ?_
    have hof : s1.heap.DictOf (intKind c.prog c.w) p.1 kvs := ⟨ob, es', ep, hg, hob⟩
    refine ⟨"dict", "dict.values", PySem.F.plainAttrs_dict, PySem.F.slot_dict_values, PySem.F.type_dict_values, Heap.DictOf.typeIs hof, fun b q => ⟨ob, by cases q; exact hg, hob.1.2.1⟩, ?_⟩
    refine Calls.callWith_builtin (noStars_any (es := []) (env := env) (pos := pos) rfl) (evalArgs_plainL (es := []) (env := env) (pos := pos) rfl ?_)
    refine wpAny_pure ?_
    refine call_meetsIn PySem.F.slot_dict_values (Heap.DictOf.typeIs hof) PySem.F.entry_dict_values (PySem.F.args_dict_values_1 _) (meets_dict_values (intKind c.prog c.w) p.1 (Rel.dict_ne B0 R1 hp)) ⟨⟨_, hof⟩, ?_⟩
    let ov : Obj := { cls := .type "dict_values", data := .fields #[.ref p.1] }
    have hk1 : ∀ b o, s1.heap.get? b = some o → (s1.heap.push ov).get? b = some o := fun b o e => Heap.get?_push_of_some _ e
    refine wpAny_pyIter_values ⟨_, Heap.get?_push_size _ rfl, rfl, rfl⟩ (⟨ob, es', hk1 _ _ hg, hob⟩ : (s1.heap.push ov).DictAt (intKind c.prog c.w) p.1 kvs ep) ?_
    have x2 : Ext Z ads σ s ads1 σ1 { s1 with heap := s1.heap.push ov } := x1.trans (Ext.more (tk := s1.toks) hk1)
    let oi : Obj := { cls := .type "dict_valueiterator", data := .fields #[.ref p.1, .int 0 0, .int kvs.length 0, .int ep 0] }
    have hk2 : ∀ b o, (s1.heap.push ov).get? b = some o → ((s1.heap.push ov).push oi).get? b = some o := fun b o e => Heap.get?_push_of_some _ e
    have x3 : Ext Z ads σ s ads1 σ1 { s1 with heap := (s1.heap.push ov).push oi } := x2.trans (Ext.more (tk := s1.toks) hk2)
    have hown := owned_swap (ads := ads1) (o' := .ldict es) ho2 rfl rfl
    have hww : WW Z ads1 (σ1.set k₀ (.ldict es)) = WW Z ads1 σ1 := by funext b; exact propext (or_congr Iff.rfl (hown b))
    refine k _ _ ads1 (fun j => if j = k₀ then ep else lk j) (fun j hj => by have : j ≠ k₀ := fun q => hj (by rw [q]); simp [this]) ⟨x3.pre, x3.kept, fun b q => x3.own b ((hown b).mp q), x3.has, x3.rest⟩ ((R2.grow hk1).grow hk2) ?_ (fresh_iter x2) ?_ ?_
    · refine .vals (i := 0) hp (List.getElem?_set_self (List.getElem?_eq_some_iff.mp ho2).1) ⟨_, Heap.get?_push_size _ rfl, rfl, ?_⟩
      simp only [if_true, hlen]; rfl
    · rw [hww]; exact (R1.grow hk1).fresh_ww (get_size _)
    · exact (R1.grow hk1).fresh_base (get_size _)
end

end Mine
end
section
open PySem PySem.W PyProof.Rows PySem.SeqAt PySem.MeetsSeq
set_option maxRecDepth 100000
namespace Mine

structure ClsOk (c : Cst) : Prop where
  inj : ∀ a b, a < 7 → b < 7 → c.X.an a = c.X.an b → a = b
  get : ∀ i, i < 2 → plainGet c.K (c.X.ca i) "x" = true
  set : ∀ i, i < 2 → findIn c.K (.ref (c.X.ca i)) "__setattr__" = some (some (.builtin "object.__setattr__")) ∧ plainOver c.K (c.X.ca i) = true
  hd : hasDictIn c.K (c.X.ca 0) = true
  isC : isClsIn c.K (c.X.ca 1) = true
  at0 : ∀ a, a < 4 → findIn c.K (.ref (c.X.ca 0)) (c.X.an a) = some none
  slot : ∀ i, i < 3 → ∃ p, findIn c.K (.ref (c.X.ca 1)) (c.X.an (4 + i)) = some (some (.ref p)) ∧ specialIn c.K (.ref p) "__get__" = some (some (.builtin "member_descriptor.__get__")) ∧ takesIn c.K (.ref p) = some true ∧
    slotIn c.K p (c.X.ca 1) = some i ∧ typeIn c.K (.ref p) = some (.type "member_descriptor")
  make : ∀ i, i < 2 → makesIn c.K (c.X.ca i) = true ∧ ∃ fI, c.X.fv (1000 + i) = some fI ∧ findIn c.K (.ref (c.X.ca i)) "__init__" = some (some (.ref fI)) ∧ typeIn c.K (.ref fI) = some (.type "function")

section
variable {c : Cst} {A : Around} {Z : List Addr} {lk : Nat → Nat} {s : Shared} {ads : Ads} {σ σ' : Store} {n : Nat} {C C₀ : SC} {env : Env} {ρ : Loc} {W : Addr → Prop} {h : Heap}

theorem look_mem : ∀ {as : List (Nat × D)} {a : Nat} {d : D}, as.lookup a = some d → (a, d) ∈ as
  | [], _, _, q => by cases q
  | (b, x) :: r, a, d, q => by
    rw [List.lookup_cons] at q
    by_cases hb : a = b
    · subst hb; simp only [beq_self_eq_true] at q; cases q; exact .head _
    · have hb' : (a == b) = false := by simpa using hb
      rw [hb'] at q; exact .tail _ (look_mem q)
theorem Rep.handed {X : Txt} {d : D} {v : Value} (r : Rep X ads W h d v) : handedIn v = true := by
  cases d
  · cases r; rfl
  · cases r; rfl
  · obtain ⟨t, rfl⟩ := r; rfl
  · refine el22 (r) fun a vs qe51 _ => ?_; subst qe51; rfl
  · refine el32 (r) fun a vs m qe52 _ => ?_; subst qe52; rfl
  · refine el42 (r) fun a t u x qe53 _ => ?_; subst qe53; rfl
  · refine el12 (r) fun p _ qe54 => ?_; subst qe54; rfl
  · refine el12 (r) fun a _ qe55 => ?_; subst qe55; rfl

theorem isStr_str (x y : Str) (t : Tok) : (Value.str x t).isStr y = (x == y) := rfl
theorem AttrsL.look {X : Txt} {P : Params} {a : Nat} (hinj : ∀ b, b < 4 → X.an b = X.an a → b = a) : ∀ {as : List (Nat × D)} {es : List DictEntry}, AttrsL X ads W h P as es → (∀ e ∈ as, e.1 < 4) → ∀ {d : D}, as.lookup a = some d → ∃ v, getL (X.an a) es = some (some v) ∧ Rep X ads W h d v
  | [], _, _, _, _, q => by cases q
  | (b, d₁) :: r, _, x, hlt, d, q => by
    refine el33 (x) fun v t q' qe56 h1 h2 => ?_; subst qe56
    rw [List.lookup_cons] at q
    by_cases hb : a = b
    · subst hb
      simp only [beq_self_eq_true] at q; cases q
      refine ⟨v, ?_, h1⟩
      unfold getL
      rw [List.find?_cons]
      simp [Value.isStr]
    · have hb' : (a == b) = false := by simpa using hb
      rw [hb'] at q
      refine el12 (AttrsL.look hinj h2 (fun e he => hlt e (.tail _ he)) q) fun v' h3 h4 => ?_
      refine ⟨v', ?_, h4⟩
      have hne : (X.an b == X.an a) = false := by
        rw [beq_eq_false_iff_ne]; intro z; exact hb (hinj b (hlt _ (.head _)) z).symm
      unfold getL at h3 ⊢
      rw [List.find?_cons]
      simp only [isStr_str, hne]
      cases hq : List.find? (fun x => x.key.isStr (X.an a)) q' with
      | some e => rw [hq] at h3; exact h3
      | none => rw [hq] at h3; dsimp only at h3; split at h3 <;> cases h3
theorem AttrsL.miss {X : Txt} {P : Params} {name : Str} : ∀ {as : List (Nat × D)} {es : List DictEntry}, AttrsL X ads W h P as es → (∀ e ∈ as, X.an e.1 ≠ name) → getL name es = some none
  | [], _, x, _ => by cases x; rfl
  | (b, d₁) :: r, _, x, hlt => by
    refine el33 (x) fun v t q' qe57 h1 h2 => ?_; subst qe57
    have h3 := AttrsL.miss h2 fun e he => hlt e (.tail _ he)
    have hne : (X.an b == name) = false := by
      rw [beq_eq_false_iff_ne]; exact hlt _ (.head _)
    unfold getL at h3 ⊢
    rw [List.find?_cons, List.any_cons]
    simp only [isStr_str, hne, DictEntry.refKey, Bool.false_or]
    exact h3

theorem keepsIn (B0 : Base c) (R : c.R Z lk h ads σ) : c.K.In h := fun a o e => R.keep a o (B0.K a o e)

theorem getAttr_sound {o : D} {ov : Value} {a : Nat} {d : D} {expr : Bool} (B0 : Base c) (CO : ClsOk c) (R : c.R Z lk s.heap ads σ) (r : c.P Z ads σ s.heap o ov) (hg : Mine.getAttr σ o a = some d) : Yields c A (PySem.getAttr ov (c.X.an a) expr) Z lk s ads σ d σ := by
  intro Q E k
  have KX := keepsIn B0 R
  refine bd1 hg fun k₀ hk₀ hg => bd2 hg fun cl as ho hg => bd1 ho fun ox ho hox => ?_
  rw [asRef_inv hk₀] at r
  rw [oInst_inv hox] at ho
  refine el12 r fun p hp hv => ?_
  subst hv
  clear hk₀ hox
  have hob := R.objs _ _ _ hp ho
  match cl, hob with
  | 0, hob =>
    refine el26 (hob) fun es m g1 g2 hr hn hl hlt => ?_
    have ha4 : a < 4 := by
      exact hlt _ (look_mem hg)
    refine el12 (hr.look (fun b hb q => CO.inj b a (by omega) (by omega) q) hlt hg) fun v h1 h2 => ?_
    have I : InstAt s.heap p.1 (instObj (c.X.ca 0) p.2) (c.X.ca 0) (some (dictOf es m)) := ⟨g1, rfl, rfl, g2⟩
    exact get_value KX I (plainGet_of (CO.get 0 (by omega))).1 (findObj_own CO.hd (CO.at0 a ha4) rfl h1) (Rep.handed h2) (k _ _ ads (Ext.tok _) R h2)
  | 1, hob =>
    refine el16 (hob) fun sl g1 g2 hs hr hn hlt => ?_
    obtain ⟨l1, l2⟩ := hlt _ (look_mem hg)
    dsimp only at l1 l2
    obtain ⟨i, rfl⟩ : ∃ i, a = 4 + i := ⟨a - 4, by omega⟩
    have hi : i < 3 := by omega
    refine el15 (CO.slot i hi) fun q f1 f2 f3 f4 f5 => ?_
    have I : InstAt s.heap p.1 { cls := .ref (c.X.ca 1), dict := some p.2, data := .plain, slots := sl } (c.X.ca 1) (some emptyDict) := ⟨g1, rfl, rfl, g2⟩
    have hv := hr i hi
    rw [hg] at hv
    refine el12 (hv) fun v h1 h2 => ?_
    obtain ⟨ga, gk⟩ := plainGet_of (CO.get 1 (by omega))
    exact get_bind KX I ga (findObj_data CO.isC f1 f2 f3) gk (wpAny_call (slot_get (s := { s with toks := s.toks + 1 }) KX I f4 h1 (handed_on (Rep.handed h2) (k _ _ ads (Ext.tok _) R h2))))
  | _ + 2, hob => exact hob.elim


theorem wpAny_Attr {o : Expr} {name : Str} {pos : Pos} {prog : Program} {w : World} {Q : Value → Shared → Prop} {E : Value → Shared → Prop} (hb : attributeBase o name env (eval o env) = eval o env)
    (h : wpAny (model prog w) A (eval o env) (fun ov s₁ => wpAny (model prog w) A (PySem.getAttr ov name true) Q E s₁) E s) : wpAny (model prog w) A (eval (.Attribute o name pos) env) Q E s := by
  rw [arm_eval_Attribute, hb]
  exact wpAny_bind (wpAny_mono h (fun ov s₁ h₁ => wpAny_bind (wpAny_standAt (wpAny_bind (wpAny_holding (wpAny_mono h₁ (fun r s₂ h₂ => wpAny_bind (wpAny_letTemporaryGo (wpAny_pure h₂))) fun _ _ x => x))))) fun _ _ x => x)

theorem sim_attr {F : Env'} {x : E} {a : Nat} {o : Expr} {name : Str} {pos : Pos} (B0 : Base c) (CO : ClsOk c) (S : Sim c n C o (ev F x)) (ho : ∀ name env whole, attributeBase o name env whole = whole) (hn : name = c.X.an a) : Sim c n C (.Attribute o name pos) (ev F (.attr x a)) :=
  fun A Z lk s ads ρ σ env d σ' hf hA R V => bd2 hf fun d1 σ1 h1 hf => bd1 hf fun d2 h2 hf => Yields.cast hf fun Q E k => by
    subst hn
    exact wpAny_Attr (ho _ _ _) (S A Z lk s ads ρ σ env d1 σ1 h1 hA R V _ _ fun ov s1 ads1 x1 R1 r1 => getAttr_sound B0 CO R1 r1 h2 _ _ fun v s2 ads2 x2 R2 r2 => k v s2 ads2 (x1.trans x2) R2 r2)

theorem osa_own1 {K : Frag} {prog : Program} {w : World} {x Cl dx : Addr} {ox : Obj} {name : Str} {tk : Tok} {v : Value} {es : List DictEntry} {m : Nat} {Q : Result → Shared → Prop} (X : K.In s.heap) (I : InstAt s.heap x ox Cl (some (dictOf es m))) (hd : ox.dict = some dx)
    (hp : plainOver K Cl = true) (ht : takerIn K Cl name = some none) (hh : hasDictIn K Cl = true) (hl : (getL name es).isSome = true) (hz : es.length < 1000)
    (h : Q (.ok (.ret .none)) { s with heap := s.heap.update dx (Obj.putName name (PyData.keyHash w.params name) (.str name s.toks) v), toks := s.toks + 1 }) : codeAny (model prog w) A (.call (.builtin "object.__setattr__") ⟨[.ref x, .str name tk, v], []⟩) Q s := by
  refine osa_open X I hp ht fun b => ?_
  refine el12 (any_some hh) fun cd hc hd' => ?_
  have D : s.heap.get? dx = some (dictOf es m) := by have := I.dict; rw [hd] at this; exact this
  have D' : (s.heap.update dx (Obj.putName name (PyData.keyHash w.params name) (.str name s.toks) v)).get? dx = some (dictOf (putL name (PyData.keyHash w.params name) (.str name s.toks) v es) (putN name es m)) := by
    rw [← putName_dict]; exact Heap.get?_update_self _ D (by rw [putName_dict]; rfl)
  obtain ⟨hx, hcl, hn, -⟩ := I
  obtain ⟨oc, odi, oda, osl⟩ := ox
  dsimp only at hcl hd
  subst hcl hd
  have hput : (putL name (PyData.keyHash w.params name) (.str name s.toks) v es).length ≤ 1000 := by
    have : ∀ (hsh : Int) (ky : Value) (l : List DictEntry), (putL name hsh ky v l).length ≤ l.length + 1 := by
      intro hsh ky l
      induction l with
      | nil => simp [putL]
      | cons e r ih => unfold putL; split <;> simp <;> omega
    have := this (PyData.keyHash w.params name) (.str name s.toks) es
    omega
  refine wpAny_bind (wpAny_pure (wpAny_bind (wpAny_bind (wpAny_loadPart hx (wpAny_bind ((looks_clsIn X hc).here ?_))))))
  rw [hd']
  refine wpAny_pure (a := some dx) (wpAny_bind (wpAny_pure (wpAny_bind ?_)))
  unfold nsSet
  refine wpAny_bind (wpAny_bind (wpAny_askSetting (wpAny_pure (wpAny_bind (wpAny_mkText (wpAny_bind (wpAny_loadPart D ?_)))))))
  have hno : (!es.toArray.any (·.key.isStr name) && es.toArray.any (·.refKey)) = false := by
    simp only [List.any_toArray]
    unfold getL at hl
    split at hl
    · rename_i en he
      rw [List.any_eq_true.mpr ⟨en, List.mem_of_find?_eq_some he, List.find?_some he⟩]; rfl
    · split at hl
      · cases hl
      · rename_i z; rw [Bool.not_eq_true] at z; rw [z, Bool.and_false]
  dsimp only [dictOf]
  rw [aRefKeyMayBeTheName_at, hno]
  refine wpAny_updatePart D ?_
  refine wpAny_bind (wpAny_lookBehind D' (pastItsLine_dict (by rw [List.size_toArray, sizeLine_eq]; omega)) ?_)
  exact wpAny_pure h
theorem osa_own {K : Frag} {prog : Program} {w : World} {x Cl dx : Addr} {ox : Obj} {name : Str} {v : Value} {es : List DictEntry} {m : Nat} {Q : Unit → Shared → Prop} {E : Value → Shared → Prop} (X : K.In s.heap) (I : InstAt s.heap x ox Cl (some (dictOf es m))) (hd : ox.dict = some dx)
    (hs : findIn K (.ref Cl) "__setattr__" = some (some (.builtin "object.__setattr__"))) (hp : plainOver K Cl = true) (ht : takerIn K Cl name = some none) (hh : hasDictIn K Cl = true) (hl : (getL name es).isSome = true) (hz : es.length < 1000)
    (h : Q () { s with heap := s.heap.update dx (Obj.putName name (PyData.keyHash w.params name) (.str name (s.toks + 1)) v), toks := s.toks + 2 }) : wpAny (model prog w) A (PySem.setAttr (.ref x) name v) Q E s :=
  set_plain X I hs (osa_own1 (s := { s with toks := s.toks + 1 }) X I hd hp ht hh hl hz h)

theorem slot_own1 {K : Frag} {prog : Program} {w : World} {x Cl p : Addr} {ox : Obj} {od : Option Obj} {i : Nat} {v : Value} {R : Result → Shared → Prop} (X : K.In s.heap) (I : InstAt s.heap x ox Cl od) (hp : slotIn K p Cl = some i) (hi : i < 1000)
    (h : R (.ok (.ret .none)) { s with heap := s.heap.update x fun o => { o with slots := (o.slots ++ Array.replicate (i + 1 - o.slots.size) none).setIfInBounds i (some v) } }) :
    codeAny (model prog w) A (.call (.builtin "member_descriptor.__set__") ⟨[.ref p, .ref x, v], []⟩) R s := by
  obtain ⟨nm, tn, owner, behind, tb, d, sl, cd, ho, hc, hm, hb, rfl⟩ := slot_of X hp
  obtain ⟨hh, g, dr, t, os⟩ := s
  have L0 := I.type (M := model prog w)
  have L1 := looks_mroIn (M := model prog w) X hm
  have L2 : Looks (model prog w) hh (Builtin.Slots.slotNamesOf (.ref Cl)) cd.slotNames := (looks_clsIn X hc).andThen .now
  have hx := I.at_
  dsimp only at ho hx L0 L1
  have f0 := looks_field (M := model prog w) ho 0 (v := .str nm tn) rfl
  have f1 := looks_field (M := model prog w) ho 1 (v := owner) rfl
  have f3 := looks_field (M := model prog w) ho 3 (v := .builtin "proto.slot#set") rfl
  have f4 := looks_field (M := model prog w) ho 4 (v := .int behind tb) rfl
  refine codeAny_call_builtin KF.slot_mset.plain KF.entry_mset (KF.slot_mset.check _ _ _ _ _ _ _ _ ⟨_, ho, rfl⟩ (KF.args_mset _ _ _) ?_)
  unfold Builtin.«member_descriptor.__set__» Builtin.Getset_descriptor.descrSet Builtin.Getset_descriptor.descrStoreThrough Builtin.Getset_descriptor.descrCheckInstance Builtin.Getset_descriptor.descrNameAndClass isInstance
  have f5 : Looks (model prog w) hh (Builtin.Getset_descriptor.descrItself (.ref p)) [.ref p] := ((Looks.ld (part := none) ho).andThen .now).andThen (Looks.of_pure (by kernel_rfl))
  repeat lk
  refine ⟨Code.quiet_builtin _ (by decide +kernel), codeAny_builtin KF.entry_slotset ?_⟩
  unfold Builtin.«proto.slot#set» Builtin.Slots.target
  repeat lk
  rw [if_neg hb]
  refine wpAny_pure (wpAny_bind ?_)
  unfold setSlotAt
  dsimp only
  rw [if_neg (by rw [sizeLine_eq]; omega)]
  exact wpAny_updatePart hx (wpAny_pure h)

theorem AttrsL.put {X : Txt} {P : Params} {a : Nat} {d : D} {v : Value} {t : Tok} (hinj : ∀ b, b < 4 → X.an b = X.an a → b = a) (rv : Rep X ads W h d v) : ∀ {as : List (Nat × D)} {es : List DictEntry}, AttrsL X ads W h P as es → (∀ e ∈ as, e.1 < 4) →
    AttrsL X ads W h P (putAttr a d as) (putL (X.an a) (PyData.keyHash P (X.an a)) (.str (X.an a) t) v es)
  | [], _, x, _ => by cases x; exact ⟨v, t, [], rfl, rv, rfl⟩
  | (b, d₁) :: r, _, x, hlt => by
    refine el33 (x) fun v₁ t₁ q qe62 h1 h2 => ?_; subst qe62
    unfold putAttr putL
    by_cases hb : b = a
    · subst hb
      simp only [beq_self_eq_true, if_true, isStr_str]
      exact ⟨v, t₁, q, rfl, rv, h2⟩
    · have hb' : (b == a) = false := by simpa using hb
      have hne : (X.an b == X.an a) = false := by rw [beq_eq_false_iff_ne]; exact fun z => hb (hinj b (hlt _ (.head _)) z)
      simp only [hb', isStr_str, hne, Bool.false_eq_true, if_false]
      exact ⟨v₁, t₁, _, rfl, h1, AttrsL.put hinj rv h2 fun e he => hlt e (.tail _ he)⟩
theorem putAttr_keys {a : Nat} {d : D} {P : Nat → Prop} (ha : P a) : ∀ {as : List (Nat × D)}, (∀ e ∈ as, P e.1) → ∀ e ∈ putAttr a d as, P e.1
  | [], _, e, he => by rw [putAttr, List.mem_singleton] at he; subst he; exact ha
  | (b, x) :: r, hl, e, he => by
    unfold putAttr at he
    split at he
    · rcases List.mem_cons.mp he with rfl | he
      · exact ha
      · exact hl e (.tail _ he)
    · rcases List.mem_cons.mp he with rfl | he
      · exact hl _ (.head _)
      · exact putAttr_keys ha (fun e he => hl e (.tail _ he)) e he
theorem putAttr_len {a : Nat} {d : D} : ∀ (as : List (Nat × D)), (putAttr a d as).length ≤ as.length + 1
  | [] => by simp [putAttr]
  | (b, x) :: r => by unfold putAttr; split <;> simp; have := putAttr_len (a := a) (d := d) r; omega
theorem putAttr_look {a b : Nat} {d : D} : ∀ (as : List (Nat × D)), (putAttr a d as).lookup b = if b = a then some d else as.lookup b
  | [] => by
    unfold putAttr; rw [List.lookup_cons]
    by_cases hb : b = a
    · subst hb; simp
    · have : (b == a) = false := by simpa using hb
      simp [this, hb]
  | (e, x) :: r => by
    unfold putAttr
    by_cases he : e = a
    · subst he
      simp only [beq_self_eq_true, if_true]
      rw [List.lookup_cons, List.lookup_cons]
      by_cases hb : b = e
      · subst hb; simp
      · have : (b == e) = false := by simpa using hb
        simp [this, hb]
    · have he' : (e == a) = false := by simpa using he
      simp only [he', Bool.false_eq_true, if_false]
      rw [List.lookup_cons, List.lookup_cons]
      by_cases hb : b = e
      · subst hb; simp [he]
      · have : (b == e) = false := by simpa using hb
        simp only [this]
        exact putAttr_look r

theorem AttrsL.keys {X : Txt} {P : Params} : ∀ {as : List (Nat × D)} {es : List DictEntry}, AttrsL X ads W h P as es → es.length = as.length ∧ ∀ name, (getL name es).isSome = true
  | [], _, x => by cases x; exact ⟨rfl, fun _ => rfl⟩
  | (b, d₁) :: r, _, x => by
    refine el33 (x) fun v t q' qe63 h1 h2 => ?_; subst qe63
    obtain ⟨h3, h4⟩ := AttrsL.keys h2
    refine ⟨by simp [h3], fun name => ?_⟩
    have := h4 name
    unfold getL at this ⊢
    rw [List.find?_cons, List.any_cons]
    dsimp only [isStr_str]
    cases X.an b == name with
    | true => rfl
    | false => exact this

theorem attrOk_el {c a n : Nat} {H : Prop} (e : attrOk c a n = true) (k0 : c = 0 → a < 4 → n < 8 → H) (k1 : c = 1 → 4 ≤ a → a < 7 → H) : H := by
  unfold attrOk at e
  rcases Bool.or_eq_true_iff.mp e with e | e
  · have := Bool.and_eq_true_iff.mp e; have h2 := Bool.and_eq_true_iff.mp this.2
    exact k0 (of_decide_eq_true this.1) (of_decide_eq_true h2.1) (of_decide_eq_true h2.2)
  · have := Bool.and_eq_true_iff.mp e; have h2 := Bool.and_eq_true_iff.mp this.2
    exact k1 (of_decide_eq_true this.1) (of_decide_eq_true h2.1) (of_decide_eq_true h2.2)
theorem setAttr0 {d : D} {v : Value} {a k₀ : Nat} {p : Addr × Addr} {as : List (Nat × D)} (B0 : Base c) (CO : ClsOk c) (R : c.R Z lk s.heap ads σ) (hp : ads[k₀]? = some p) (ho : σ[k₀]? = some (.inst 0 as)) (rv : c.P Z ads σ s.heap d v) (hc : a < 4) (hc2 : as.length < 8) {Q : Unit → Shared → Prop} {E : Value → Shared → Prop}
    (k : ∀ s', Ext Z ads σ s ads (σ.set k₀ (.inst 0 (putAttr a d as))) s' → c.R Z lk s'.heap ads (σ.set k₀ (.inst 0 (putAttr a d as))) → Q () s') : wpAny (model c.prog c.w) A (PySem.setAttr (.ref p.1) (c.X.an a) v) Q E s := by
  have KX := keepsIn B0 R
  refine el26 (R.objs _ _ _ hp ho) fun es m g1 g2 hr hn hl hlt => ?_
  have I : InstAt s.heap p.1 (instObj (c.X.ca 0) p.2) (c.X.ca 0) (some (dictOf es m)) := ⟨g1, rfl, rfl, g2⟩
  have ht : takerIn c.K (c.X.ca 0) (c.X.an a) = some none := by unfold takerIn; rw [CO.at0 a hc]; rfl
  refine osa_own KX I rfl (CO.set 0 (by omega)).1 (CO.set 0 (by omega)).2 ht CO.hd (hr.keys.2 _) (by rw [hr.keys.1]; omega) ?_
  have hown := owned_swap (ads := ads) (o' := .inst 0 (putAttr a d as)) ho rfl rfl
  have hww : WW Z ads (σ.set k₀ (.inst 0 (putAttr a d as))) = WW Z ads σ := by funext b; exact propext (or_congr Iff.rfl (hown b))
  let f := Obj.putName (c.X.an a) (PyData.keyHash c.w.params (c.X.an a)) (.str (c.X.an a) (s.toks + 1)) v
  have hk : ∀ b x, b ≠ p.2 → s.heap.get? b = some x → (s.heap.update p.2 f).get? b = some x := fun b x hb e => (Heap.get?_update_ne _ _ _ _ hb).trans e
  have hnew : (s.heap.update p.2 f).get? p.2 = some (dictOf (putL (c.X.an a) (PyData.keyHash c.w.params (c.X.an a)) (.str (c.X.an a) (s.toks + 1)) v es) (putN (c.X.an a) es m)) := by
    rw [← putName_dict]; exact Heap.get?_update_self _ g2 (by show (Obj.putName _ _ _ _ _).isFreed = false; rw [putName_dict]; rfl)
  have hmine : ∀ b, b = p.2 → Owned ads σ b := fun b hb => ⟨k₀, p, _, hp, ho, rfl, .inr hb⟩
  have hz : ∀ a o, ¬ WW Z ads σ a → Fz o → s.heap.get? a = some o → (s.heap.update p.2 f).get? a = some o := fun a o hw _ e => hk a o (fun q => hw (.inr (hmine a q))) e
  refine k _ ⟨⟨[], by simp⟩, fun b o hb e => SO.of (hk b o (fun q => hb (hmine b q)) e), fun b e => .inl ((hown b).mp e), fun b ⟨o, e⟩ => (Classical.em (b = p.2)).elim (fun q => by subst q; exact ⟨_, hnew⟩) (fun q => ⟨o, hk b o q e⟩), ⟨_, _, rfl⟩⟩ ?_
  refine R.put hp ho rfl (fun b x _ h1 e => hk b x h1 e) ⟨⟨_, hk _ _ hn g1⟩, ⟨_, hnew⟩⟩ ?_
  rw [hww]
  refine ⟨_, _, hk _ _ hn g1, hnew, AttrsL.mono (Sub.refl _) hz (fun _ _ _ w => w) _ _ (AttrsL.put (fun b hb q => CO.inj b a (by omega) (by omega) q) rv hr hlt), hn, ?_, putAttr_keys (P := fun a => a < 4) hc hlt⟩
  have := putAttr_len (a := a) (d := d) as; omega
theorem setAttr1 {d : D} {v : Value} {a k₀ : Nat} {p : Addr × Addr} {as : List (Nat × D)} (B0 : Base c) (CO : ClsOk c) (R : c.R Z lk s.heap ads σ) (hp : ads[k₀]? = some p) (ho : σ[k₀]? = some (.inst 1 as)) (rv : c.P Z ads σ s.heap d v) (hc : 4 ≤ a) (hc2 : a < 7) {Q : Unit → Shared → Prop} {E : Value → Shared → Prop}
    (k : ∀ s', Ext Z ads σ s ads (σ.set k₀ (.inst 1 (putAttr a d as))) s' → c.R Z lk s'.heap ads (σ.set k₀ (.inst 1 (putAttr a d as))) → Q () s') : wpAny (model c.prog c.w) A (PySem.setAttr (.ref p.1) (c.X.an a) v) Q E s := by
  have KX := keepsIn B0 R
  refine el16 (R.objs _ _ _ hp ho) fun sl g1 g2 hs hr hn hlt => ?_
  obtain ⟨i, rfl⟩ : ∃ i, a = 4 + i := ⟨a - 4, by omega⟩
  have hi : i < 3 := by omega
  refine el15 (CO.slot i hi) fun q f1 f2 f3 f4 f5 => ?_
  have I : InstAt s.heap p.1 { cls := .ref (c.X.ca 1), dict := some p.2, data := .plain, slots := sl } (c.X.ca 1) (some emptyDict) := ⟨g1, rfl, rfl, g2⟩
  have ht : takerIn c.K (c.X.ca 1) (c.X.an (4 + i)) = some (some (.ref q)) := by unfold takerIn; rw [f1]; show (takesIn c.K (.ref q)).map _ = _; rw [f3]; rfl
  refine set_plain KX I (CO.set 1 (by omega)).1 (osa_descr (s := { s with toks := s.toks + 1 }) KF.slot_mset KX I (CO.set 1 (by omega)).2 ht f5 (slot_own1 (s := { s with toks := s.toks + 1 }) KX I f4 (by omega) ?_))
  have hown := owned_swap (ads := ads) (o' := .inst 1 (putAttr (4 + i) d as)) ho rfl rfl
  have hww : WW Z ads (σ.set k₀ (.inst 1 (putAttr (4 + i) d as))) = WW Z ads σ := by funext b; exact propext (or_congr Iff.rfl (hown b))
  let f : Obj → Obj := fun o => { o with slots := (o.slots ++ Array.replicate (i + 1 - o.slots.size) none).setIfInBounds i (some v) }
  have hk : ∀ b x, b ≠ p.1 → s.heap.get? b = some x → (s.heap.update p.1 f).get? b = some x := fun b x hb e => (Heap.get?_update_ne _ _ _ _ hb).trans e
  have hnew : (s.heap.update p.1 f).get? p.1 = some { cls := .ref (c.X.ca 1), dict := some p.2, data := .plain, slots := (sl ++ Array.replicate (i + 1 - sl.size) none).setIfInBounds i (some v) } := Heap.get?_update_self _ g1 rfl
  have hmine : ∀ b, b = p.1 → Owned ads σ b := fun b hb => ⟨k₀, p, _, hp, ho, rfl, .inl hb⟩
  have hz : ∀ a o, ¬ WW Z ads σ a → Fz o → s.heap.get? a = some o → (s.heap.update p.1 f).get? a = some o := fun a o hw _ e => hk a o (fun q => hw (.inr (hmine a q))) e
  refine k _ ⟨⟨[], by simp⟩, fun b o hb e => SO.of (hk b o (fun q => hb (hmine b q)) e), fun b e => .inl ((hown b).mp e), fun b ⟨o, e⟩ => (Classical.em (b = p.1)).elim (fun q => by subst q; exact ⟨_, hnew⟩) (fun q => ⟨o, hk b o q e⟩), ⟨_, _, rfl⟩⟩ ?_
  refine R.put hp ho rfl (fun b x h1 _ e => hk b x h1 e) ⟨⟨_, hnew⟩, ⟨_, hk _ _ (Ne.symm hn) g2⟩⟩ ?_
  rw [hww]
  refine ⟨_, hnew, hk _ _ (Ne.symm hn) g2, ?_, fun j hj => ?_, hn, putAttr_keys (P := fun a => 4 ≤ a ∧ a < 7) ⟨by omega, by omega⟩ hlt⟩
  · simp; omega
  · rw [putAttr_look]
    by_cases hji : j = i
    · subst hji
      rw [if_pos rfl]
      refine ⟨v, ?_, Rep.mono (Sub.refl _) hz (fun _ _ _ w => w) _ _ rv⟩
      have hlt' : j < (sl ++ Array.replicate (j + 1 - sl.size) none).size := by rw [Array.size_append, Array.size_replicate]; omega
      rw [Array.getElem?_setIfInBounds, if_pos rfl, if_pos hlt']
      rfl
    · rw [if_neg (by omega)]
      have h0 := optRep.mono (Sub.refl _) hz (fun _ _ _ w => w) _ _ (hr j hj)
      have he : ((sl ++ Array.replicate (i + 1 - sl.size) none).setIfInBounds i (some v))[j]?.join = sl[j]?.join := by
        rw [Array.getElem?_setIfInBounds, if_neg (fun q => hji q.symm), Array.getElem?_append]
        split
        · rfl
        · rename_i hlt'
          have h1 : sl[j]? = none := Array.getElem?_eq_none (by omega)
          rw [h1, Array.getElem?_replicate]
          split <;> rfl
      rw [he]; exact h0
theorem setAttr_sound {o d : D} {ov v : Value} {a : Nat} (B0 : Base c) (CO : ClsOk c) (R : c.R Z lk s.heap ads σ) (r : c.P Z ads σ s.heap o ov) (rv : c.P Z ads σ s.heap d v) (hg : Mine.setAttr σ o a d = some σ') {Q : Unit → Shared → Prop} {E : Value → Shared → Prop}
    (k : ∀ s', Ext Z ads σ s ads σ' s' → c.R Z lk s'.heap ads σ' → Q () s') : wpAny (model c.prog c.w) A (PySem.setAttr ov (c.X.an a) v) Q E s :=
  bd1 hg fun k₀ hk₀ hg => bd2 hg fun cl as ho hg => bd1 ho fun ox ho hox => if_el hg fun hc hg => by
    rw [asRef_inv hk₀] at r
    rw [oInst_inv hox] at ho
    rw [← Option.some.inj hg] at k
    exact el12 r fun p hp hv => hv ▸ attrOk_el hc (fun h0 h1 h2 => by cases h0; exact setAttr0 B0 CO R hp ho rv h1 h2 k) (fun h0 h1 h2 => by cases h0; exact setAttr1 B0 CO R hp ho rv h1 h2 k)
end

end Mine
end
section
open PySem PySem.W PyProof.Rows PySem.SeqAt PySem.MeetsSeq
set_option maxRecDepth 100000
namespace Mine

section
variable {c : Cst} {A : Around} {Z : List Addr} {lk : Nat → Nat} {s : Shared} {ads : Ads} {σ σ' : Store} {n : Nat} {C C₀ : SC} {env : Env} {ρ : Loc} {W : Addr → Prop} {h : Heap}

theorem asLT_full {d : D} {v : Value} {l : List D} (R : c.R Z lk h ads σ) (r : c.P Z ads σ h d v) (e : asLT σ d = some l) :
    ∃ a o T vs m, v = .ref a ∧ (T = "list" ∨ T = "tuple") ∧ h.get? a = some o ∧ o.cls = .type T ∧ o.data = .seq (List.toArray vs) m ∧ c.PL Z ads σ h l vs ∧ l.length ≤ lim := by
  cases d
  case tup => exact el35 r fun a vs m h1 h2 _ h4 h5 => ⟨a, _, "tuple", vs, m, h1, .inr rfl, h2, rfl, rfl, Option.some.inj e ▸ h5, Option.some.inj e ▸ h4⟩
  case list => exact el24 (asList_at (σ := σ) R r e) fun a vs h1 h2 h3 h4 => Exists.elim h2 fun m h2 => ⟨a, _, "list", vs, m, h1, .inl rfl, h2, rfl, rfl, h3, h4⟩
  case ref => exact el24 (asList_at (σ := σ) R r e) fun a vs h1 h2 h3 h4 => Exists.elim h2 fun m h2 => ⟨a, _, "list", vs, m, h1, .inl rfl, h2, rfl, rfl, h3, h4⟩
  all_goals exact no_el e

theorem star_sound {d : D} {v : Value} {l : List D} (R : c.R Z lk s.heap ads σ) (r : c.P Z ads σ s.heap d v) (e : asLT σ d = some l) {Q : List Value → Shared → Prop} {E : Value → Shared → Prop}
    (k : ∀ vs s', Ext Z ads σ s ads σ s' → c.R Z lk s'.heap ads σ → c.PL Z ads σ s'.heap l vs → Q vs s') : StarOf (model c.prog c.w) A E v Q s := by
  refine el57 (asLT_full R r e) fun a o T vs m qe4 hT ho hc hd hr hl => ?_; subst qe4
  have hT' : s.TypeIs (.ref a) T := ⟨o, ho, hc⟩
  have z : wpAny (model c.prog c.w) A (collect (.ref a)) Q E s := by
    refine wpAny_collect_seq a hT ho hc hd (fun h' hk => ?_) (size_lim hl hr.length)
    exact k _ _ (Ext.more (tk := s.toks) hk) (R.grow hk) (RepL.mono (Sub.refl _) (fun _ _ _ _ e => hk _ _ e) (fun _ _ _ w => w) _ _ hr)
  unfold StarOf notIterableAtAll
  rcases hT with rfl | rfl
  · exact wpAny_bind (wpAny_specialOf hT' PySem.F.slot_list_iter.lookup (wpAny_pure ⟨rfl, z⟩))
  · exact wpAny_bind (wpAny_specialOf hT' PySem.F.slot_tuple_iter.lookup (wpAny_pure ⟨rfl, z⟩))

theorem simL_star {F : Env'} {x : E} {xs : List E} {e : Expr} {p : Pos} {es : List Expr} (S : Sim c n C e (ev F x)) (SL : SimL c n C es (evs F xs)) : SimL c n C (.Starred e p :: es) (evs F (.star x :: xs)) := by
  intro A Z lk s ads ρ σ env ds σ' pos hf hA R V Q E k
  refine bd2 hf fun d1 σ1 h1 hf => ?_
  refine bd1 hf fun l h2 hf => ?_
  refine bd2 hf fun r σ2 h3 hf => ?_
  cases hf
  refine items_star (S A Z lk s ads ρ σ env d1 σ1 h1 hA R V _ _ fun v s1 ads1 x1 R1 r1 => ?_)
  refine star_sound R1 r1 h2 fun vs s2 x2 R2 r2 => ?_
  refine SL A Z lk s2 ads1 ρ σ1 env r σ2 pos h3 hA R2 ((V.ext x1).ext x2) _ _ fun ws s3 ads3 x3 R3 r3 => ?_
  exact k _ s3 ads3 ((x1.trans x2).trans x3) R3 (RepL.append (x3.repL r2) r3)

noncomputable def SimA (c : Cst) (n : Nat) (C : SC) (es : List Expr) (f : Loc → Store → Option (List D × Store)) : Prop :=
  ∀ (A : Around) (Z : List Addr) (lk : Nat → Nat) (s : Shared) (ads : Ads) (ρ : Loc) (σ : Store) (env : Env) (ds : List D) (σ' : Store) (pos : Pos) (fv : Value), f ρ σ = some (ds, σ') → Room A n C.fr → c.R Z lk s.heap ads σ → EnvRel c C env ρ Z ads σ s.heap →
    ∀ (Q : Args → Shared → Prop) (E : Value → Shared → Prop), (∀ v s' ads', Ext Z ads σ s ads' σ' s' → c.R Z lk s'.heap ads' σ' → c.PL Z ads' σ' s'.heap ds v → Q ⟨v, []⟩ s') → wpAny (model c.prog c.w) A (evalArgs fv true (backTo pos (starEach es env)) []) Q E s
theorem simA_cons {F : Env'} {xs : List E} {e : Expr} {es : List Expr} (SL : SimL c n C (e :: es) (evs F xs)) (he : isStarred e = false) : SimA c n C (e :: es) (evs F xs) := by
  intro A Z lk s ads ρ σ env ds σ' pos fv hf hA R V Q E k
  have h := SL A Z lk s ads ρ σ env ds σ' pos hf hA R V (fun vs s' => Q ⟨vs, []⟩ s') E k
  rw [starEach_cons he] at h ⊢
  exact Calls.evalArgs_plain h
theorem simA_lone {F : Env'} {x : E} {e : Expr} {p : Pos} (S : Sim c n C e (ev F x)) : SimA c n C [.Starred e p] (evs F [.star x]) := by
  intro A Z lk s ads ρ σ env ds σ' pos fv hf hA R V Q E k
  refine bd2 hf fun d1 σ1 h1 hf => ?_
  refine bd1 hf fun l h2 hf => ?_
  cases hf
  refine ks_lone (S A Z lk s ads ρ σ env d1 σ1 h1 hA R V _ _ fun v s1 ads1 x1 R1 r1 => ?_)
  refine star_sound R1 r1 h2 fun vs s2 x2 R2 r2 => ?_
  exact k _ s2 ads1 (x1.trans x2) R2 (by rw [List.append_nil]; exact r2)

structure MethOk (c : Cst) (f : Nat) (nm : Str) (fa : Addr) : Prop where
  fv : c.X.fv f = some fa
  find : findIn c.K (.ref (c.X.ca 0)) nm = some (some (.ref fa))
  isFn : typeIn c.K (.ref fa) = some (.type "function")
  fnIn : fnIn c.K fa = true
  get : specialIn c.K (.ref fa) "__get__" = some (some (.builtin "function.__get__"))
  takes : takesIn c.K (.ref fa) = some false
  copied : copiedNames.contains nm = false
  ne : ∀ a, a < 4 → c.X.an a ≠ nm

theorem isInst_at {d : D} {v : Value} (R : c.R Z lk h ads σ) (r : c.P Z ads σ h d v) (e : isInst σ d = true) (nm : Str) (hne : ∀ a, a < 4 → c.X.an a ≠ nm) :
    ∃ (p : Addr × Addr) (es : List DictEntry) (m : Nat), v = .ref p.1 ∧ InstAt h p.1 (instObj (c.X.ca 0) p.2) (c.X.ca 0) (some (dictOf es m)) ∧ getL nm es = some none := by
  refine Exists.elim (Option.isSome_iff_exists.mp e) fun u e => bd1 e fun k₀ hk₀ e => bd2 e fun cl as ho e => bd1 ho fun ox ho hox => if_el e fun h0 _ => ?_
  rw [asRef_inv hk₀] at r
  rw [oInst_inv hox, show cl = 0 from h0] at ho
  exact el12 r fun p hp hv => el26 (R.objs _ _ _ hp ho) fun es m g1 g2 hr hn hl hlt => ⟨p, es, m, hv, ⟨g1, rfl, rfl, g2⟩, hr.miss fun e he => hne _ (hlt e he)⟩

theorem sim_umeth {F : Env'} {f : Nat} {fa : Addr} {x : E} {xs : List E} {o : Expr} {es : List Expr} {name : Str} {apos pos : Pos} (B0 : Base c) (CO : ClsOk c) (M : MethOk c f name fa) (FO : FunOk c n F.F) (S : Sim c n C o (ev F x)) (SL : SimL c n C es (evs F xs))
    (hs : noStars es = true) (hl : es.length < 20) (ho : ∀ name env whole, attributeBase o name env whole = whole) (hline : (apos.endLine == pos.line) = true) : Sim c n C (.Call (.Attribute o name apos) es [] pos) (ev F (.umeth x f xs)) := by
  intro A Z lk s ads ρ σ env d σ' hf hA R V Q E k
  refine bd2 hf fun d1 σ1 h1 hf => ?_
  refine cond_el hf fun hi hf => ?_
  refine bd2 hf fun l σ2 h2 h3 => ?_
  rw [arm_eval_Call, ho _ _ _]
  refine wpAny_bind (S A Z lk s ads ρ σ env d1 σ1 h1 hA R V _ _ fun ov s1 ads1 x1 R1 r1 => wpAny_bind (wpAny_standAt ?_))
  have hform : methodCallForm (es.length + ([] : List Keyword).length) (backTo pos (starEach es env)) (backToKw pos (keywordEach [] env)) = true := few_of hs hl
  have hpos : methodCallPos true o env apos pos = pure pos := by unfold methodCallPos; simp [hline]
  unfold methodCall
  rw [hform]
  refine el33 (isInst_at R1 r1 hi name M.ne) fun p es' m qe11 I hgl => ?_; subst qe11
  obtain ⟨ga, gk⟩ := plainGet_of (CO.get 0 (by omega))
  refine wpAny_bind (wpAny_holding (method_fn (keepsIn B0 R1) I ga gk M.find M.isFn (by show (lookIn name (dictOf es' m)).map _ = _; rw [lookIn_dict, hgl]; rfl) ?_))
  refine wpAny_bind (wpAny_of_eq hpos ?_)
  refine callWith_Ks B0 R1 (B0.fnK f fa M.fv) hs (SL A Z lk s1 ads1 ρ σ1 env l σ2 pos h2 hA R1 (V.ext x1) _ _ fun vs s2 ads2 x2 R2 r2 => ⟨keepsIn B0 R2, ?_⟩)
  refine wpAny_call (FO f _ σ2 d σ' h3 fa M.fv A Z lk s2 ads2 _ C.fr hA.toF ((V.ext x1).ext x2).frs ((V.ext x1).ext x2).frn R2 ⟨_, vs, rfl, x2.rep r1, r2⟩ _ fun v s3 ads3 x3 R3 r3 => ?_)
  exact k v s3 ads3 ((x1.trans x2).trans x3) R3 r3

theorem stars_any {es : List Expr} {pos : Pos} (h : es.any isStarred = true) : (backTo pos (starEach es env)).any (·.1) = true := by
  induction es with
  | nil => cases h
  | cons e es ih =>
    rw [List.any_cons] at h
    cases he : isStarred e with
    | false =>
      rw [he, Bool.false_or] at h
      rw [starEach_cons he]
      show (false || (backTo pos (starEach es env)).any (·.1)) = true
      rw [ih h]; rfl
    | true =>
      cases e <;> first | exact Bool.noConfusion he | rfl

theorem sim_umeth_star {F : Env'} {f : Nat} {fa : Addr} {x : E} {xs : List E} {o : Expr} {es : List Expr} {name : Str} {apos pos : Pos} (B0 : Base c) (CO : ClsOk c) (M : MethOk c f name fa) (FO : FunOk c n F.F) (S : Sim c n C o (ev F x)) (SL : SimA c n C es (evs F xs))
    (hs : es.any isStarred = true) (ho : ∀ name env whole, attributeBase o name env whole = whole) :
    Sim c n C (.Call (.Attribute o name apos) es [] pos) (ev F (.umeth x f xs)) := by
  intro A Z lk s ads ρ σ env d σ' hf hA R V Q E k
  refine bd2 hf fun d1 σ1 h1 hf => ?_
  refine cond_el hf fun hi hf => ?_
  refine bd2 hf fun l σ2 h2 h3 => ?_
  rw [arm_eval_Call, ho _ _ _]
  refine wpAny_bind (S A Z lk s ads ρ σ env d1 σ1 h1 hA R V _ _ fun ov s1 ads1 x1 R1 r1 => wpAny_bind (wpAny_standAt ?_))
  have hform : methodCallForm (es.length + ([] : List Keyword).length) (backTo pos (starEach es env)) (backToKw pos (keywordEach [] env)) = false := by
    unfold methodCallForm
    have := stars_any (env := env) (pos := pos) hs
    rw [List.any_eq_true] at this
    refine el12 (this) fun y hy hy' => ?_
    rw [Bool.and_eq_false_iff]; left
    rw [Bool.and_eq_false_iff]; left
    rw [List.all_eq_false]
    exact ⟨y, hy, by simp [hy']⟩
  unfold methodCall
  rw [hform]
  refine el33 (isInst_at R1 r1 hi name M.ne) fun p es' m qe14 I hgl => ?_; subst qe14
  obtain ⟨ga, gk⟩ := plainGet_of (CO.get 0 (by omega))
  have KX := keepsIn B0 R1
  have hfo : findObj c.K (c.X.ca 0) (some (dictOf es' m)) name = some (.bind (.builtin "function.__get__") (.ref fa)) := findObj_fn CO.hd M.find M.get M.takes M.copied (by rw [lookIn_dict, hgl])
  refine wpAny_bind (wpAny_holding (wpAny_bind (get_bind KX I ga hfo gk (wpAny_call (fn_get (s := { s1 with toks := s1.toks + 1 }) KX M.isFn (handed_on rfl (wpAny_pure ?_)))))))
  refine wpAny_bind (wpAny_pure ?_)
  let mo := methodObj (.ref fa) (.ref p.1)
  have hk1 : ∀ b o, s1.heap.get? b = some o → (s1.heap.push mo).get? b = some o := fun b o e => Heap.get?_push_of_some _ e
  have x2 : Ext Z ads1 σ1 s1 ads1 σ1 { s1 with heap := s1.heap.push mo, toks := s1.toks + 1 } := Ext.more hk1
  have R2 := R1.grow hk1
  have hq : (s1.heap.push mo).get? s1.heap.objs.size = some mo := Heap.get?_push_size _ rfl
  have hqo : ¬ Owned ads1 σ1 s1.heap.objs.size := fun q => R1.fresh_ww (get_size _) (.inr q)
  refine ks_call (P := MethP c.K s1.heap.objs.size fa (.ref p.1)) (stars_any hs) (keeps_M M.fnIn) ?_
  refine SL A Z lk _ ads1 ρ σ1 env l σ2 pos _ h2 hA R2 ((V.ext x1).ext x2) _ _ fun vs s3 ads3 x3 R3 r3 => ?_
  have hq3 := SO.ex (x3.kept _ _ hqo hq) (fun _ _ q => by cases q)
  refine ⟨⟨hq3, keepsIn B0 R3⟩, wpAny_call (method_call hq3 ?_)⟩
  refine FO f _ σ2 d σ' h3 fa M.fv A Z lk s3 ads3 _ C.fr hA.toF (((V.ext x1).ext x2).ext x3).frs (((V.ext x1).ext x2).ext x3).frn R3 ⟨_, vs, rfl, x3.rep (x2.rep r1), r3⟩ _ fun v s4 ads4 x4 R4 r4 => ?_
  exact k v s4 ads4 (((x1.trans x2).trans x3).trans x4) R4 r4
end

end Mine
end
section
open PySem PySem.W PyProof.Rows PySem.SeqAt PySem.MeetsSeq
set_option maxRecDepth 100000
namespace Mine

section
variable {c : Cst} {A : Around} {Z : List Addr} {lk : Nat → Nat} {s : Shared} {ads : Ads} {σ σ' : Store} {n : Nat} {C C₀ : SC} {env : Env} {ρ : Loc} {W : Addr → Prop} {h : Heap}

theorem under_type (a : Addr) (vs : List Value) : (A.under (.builtin "type.__call__" ⟨.ref a :: vs, []⟩)).depth = A.depth + 1 ∧ (A.under (.builtin "type.__call__" ⟨.ref a :: vs, []⟩)).units = A.units + 1 ∧ (A.under (.builtin "type.__call__" ⟨.ref a :: vs, []⟩)).handled = A.handled := ⟨rfl, rfl, rfl⟩

theorem under_frames {a : Addr} {vs : List Value} {l : List Env} (e : A.frames = some l) : (A.under (.builtin "type.__call__" ⟨.ref a :: vs, []⟩)).frames = some l := by
  show pushEnvs [] A.frames = some l
  rw [e]; rfl
theorem sim_new {F : Env'} {i : Nat} {xs : List E} {es : List Expr} {id : Str} {np pos : Pos} (B0 : Base c) (CO : ClsOk c) (hi : i < 2) (FO : FunOk c n F.F) (FN : ∀ l σ d σ', F.F (1000 + i) l σ = some (d, σ') → d = .none) (SL : SimL c n C es (evs F xs)) (hs : noStars es = true)
    (hk : C.names.lookup id = some .globalImplicit) (hg : c.gl id = some (.ref (c.X.ca i))) (hd : (id == ("__debug__" : Str)) = false) :
    Sim c n C (.Call (.Name id np) es [] pos) (ev F (.new i xs)) := by
  intro A Z lk s ads ρ σ env d σ' hf hA R V Q E k
  refine bd2 hf fun l σ1 h1 hf => ?_
  refine bd2 hf fun d0 σ2 h2 hf => ?_
  cases hf
  obtain ⟨mk, fI, hfI, hfind, hty⟩ := CO.make i hi
  refine wpAny_Call_NameR (load_global B0 R V hk hg hd ?_)
  refine callWith_Ks B0 R (B0.clK i hi) hs (SL A Z lk s ads ρ σ env l σ1 pos h1 hA R V _ _ fun vs s1 ads1 x1 R1 r1 => ⟨keepsIn B0 R1, ?_⟩)
  have KX := keepsIn B0 R1
  obtain ⟨h1', g1, dr1, t1, os1⟩ := s1
  refine wpAny_call (make_core (makes_of KX mk) (looks_findIn KX hfind) (fun self => bind_fn KX self hty) (.inl (by rfl)) ?_)
  dsimp only at R1 r1 KX
  let h2' := (h1'.push emptyDict).push (instObj (c.X.ca i) h1'.objs.size)
  let p : Addr × Addr := (h1'.objs.size + 1, h1'.objs.size)
  have hk1 : ∀ b o, h1'.get? b = some o → h2'.get? b = some o := fun b o e => Heap.get?_push_of_some _ (Heap.get?_push_of_some _ e)
  have hp1 : h1'.get? p.1 = none := by
    cases e : h1'.get? p.1 with
    | none => rfl
    | some o => exact absurd (Heap.lt_size e) (by show ¬ (h1'.objs.size + 1 < h1'.objs.size); omega)
  have hp2 : h1'.get? p.2 = none := get_size _
  have hz1 : (h1'.push emptyDict).objs.size = h1'.objs.size + 1 := Heap.size_push _ _
  have hg1 : h2'.get? p.1 = some (instObj (c.X.ca i) h1'.objs.size) := by
    have : h2'.get? (h1'.push emptyDict).objs.size = some (instObj (c.X.ca i) h1'.objs.size) := Heap.get?_push_size _ rfl
    rw [hz1] at this; exact this
  have hg2 : h2'.get? p.2 = some emptyDict := Heap.get?_push_of_some _ (Heap.get?_push_size _ rfl)
  have R2 : c.R Z lk h2' (ads1 ++ [p]) (σ1 ++ [.inst i []]) := by
    refine R1.add hk1 hp1 hp2 ⟨_, hg1⟩ ⟨_, hg2⟩ ?_
    match i, hi with
    | 0, _ => exact ⟨[], 0, hg1, hg2, rfl, by simp [p], by simp, by simp⟩
    | 1, _ => exact ⟨#[], hg1, hg2, by simp, fun j hj => by simp [optRep], by simp [p], by simp⟩
  have hlen : ads1.length = σ1.length := R1.len
  have hpk : (ads1 ++ [p])[σ1.length]? = some p := by rw [← hlen]; simp
  have hown := R1.owned_add (p := p) (o := .inst i []) hp1 hp2
  have x2 : Ext Z ads1 σ1 ⟨h1', g1, dr1, t1, os1⟩ (ads1 ++ [p]) (σ1 ++ [.inst i []]) ⟨h2', g1, dr1, t1, os1⟩ := ⟨⟨[p], rfl⟩, fun b o _ e => SO.of (hk1 b o e), hown, fun b ⟨o, e⟩ => ⟨o, hk1 b o e⟩, ⟨_, _, rfl⟩⟩
  obtain ⟨u1, u2, u3⟩ := under_type (A := A) (c.X.ca i) vs
  have hA' : RoomF (A.under (.builtin "type.__call__" ⟨.ref (c.X.ca i) :: vs, []⟩)) n C.fr := ⟨by have := hA.depth; omega, by have := hA.units; omega, by rw [u3]; exact hA.handled, under_frames hA.frames⟩
  refine FO _ _ _ d0 _ h2 fI hfI _ Z lk ⟨h2', g1, dr1, t1, os1⟩ _ _ C.fr hA' ((V.ext x1).ext x2).frs ((V.ext x1).ext x2).frn R2 ⟨_, vs, rfl, (⟨p, hpk, rfl⟩ : c.P Z (ads1 ++ [p]) (σ1 ++ [.inst i []]) h2' (.ref σ1.length) (.ref p.1)), x2.repL r1⟩ _ fun v s3 ads3 x3 R3 r3 => ?_
  have := FN _ _ _ _ h2; subst this
  cases r3
  refine ⟨rfl, ?_⟩
  refine k _ s3 ads3 ((x1.trans x2).trans x3) R3 ⟨p, x3.sub _ _ hpk, rfl⟩
end

end Mine
end
section
open PySem PySem.W PyProof.Rows PySem.SeqAt PySem.MeetsSeq
set_option maxRecDepth 100000
namespace Mine

namespace NX
theorem slot_ga : Slot "list_iterator" "__getattribute__" "object.__getattribute__" :=
  .of (owner := "object") (n := "__getattribute__") (by rw [typeLookup_type, builtinLookup_eq_fast]; kernel_rfl) (by decide +kernel) (by decide +kernel) (by decide +kernel)
    (by first | exact .inl (by decide +kernel) | exact .inr (by decide +kernel)) (by rw [isSubtype_type]; kernel_rfl)
theorem entry_ga : entryFor table "object.__getattribute__" = some Builtin.«object.__getattribute__» := entryFor_of_tree (by kernel_rfl)
theorem args_ga (a b : Value) : argsOk "object.__getattribute__" ⟨[a, b], []⟩ := by unfold argsOk; kernel_rfl
theorem no_ga : typeLookup (.type "list_iterator") "__getattr__" = pure none := by rw [typeLookup_type, builtinLookup_eq_fast]; kernel_rfl
theorem type_next : typeOf (.builtin "list_iterator.__next__") = pure (.type "wrapper_descriptor") := by show builtinType _ = _; rw [builtinType_eq_fast]; kernel_rfl
theorem slot_get : Slot "wrapper_descriptor" "__get__" "wrapper_descriptor.__get__" :=
  .of (owner := "wrapper_descriptor") (n := "__get__") (by rw [typeLookup_type, builtinLookup_eq_fast]; kernel_rfl) (by decide +kernel) (by decide +kernel) (by decide +kernel)
    (by first | exact .inl (by decide +kernel) | exact .inr (by decide +kernel)) (by rw [isSubtype_type]; kernel_rfl)
theorem no_set : typeLookup (.type "wrapper_descriptor") "__set__" = pure none := by rw [typeLookup_type, builtinLookup_eq_fast]; kernel_rfl
theorem no_del : typeLookup (.type "wrapper_descriptor") "__delete__" = pure none := by rw [typeLookup_type, builtinLookup_eq_fast]; kernel_rfl
theorem entry_get : entryFor table "wrapper_descriptor.__get__" = some Builtin.«wrapper_descriptor.__get__» := entryFor_of_tree (by kernel_rfl)
theorem args_get (a b c : Value) : argsOk "wrapper_descriptor.__get__" ⟨[a, b, c], []⟩ := by unfold argsOk; kernel_rfl
theorem sub_li : isSubtype (.type "list_iterator") (.type "list_iterator") = pure true := by rw [isSubtype_type]; kernel_rfl

section
variable {prog : Program} {w : World} {A : Around} {E : Value → Shared → Prop} {s : Shared}

theorem run_get {I l : Addr} {i : Nat} {P : Fin → Shared → Prop} {tp : Value} (hI : s.heap.IsListIter I l i)
    (h : P (.done (.ret (.ref s.heap.objs.size))) { s with heap := s.heap.push { cls := .type "method-wrapper", data := .fields #[.builtin "list_iterator.__next__", .ref I] } }) :
    wpAny (model prog w) A (Builtin.«wrapper_descriptor.__get__» ⟨[.builtin "list_iterator.__next__", .ref I, tp], []⟩) P E s := by
  obtain ⟨hp, g, d, tk, os⟩ := s
  refine el13 (hI) fun o ho hc hd => ?_
  have hT : (⟨hp, g, d, tk, os⟩ : Shared).TypeIs (.ref I) "list_iterator" := ⟨o, ho, hc⟩
  have f1 := sub_li
  unfold Builtin.«wrapper_descriptor.__get__»
  repeat (any_goals (first | assumption | wp_step))
  have e : ".".intercalate ("list_iterator.__next__".cutAt '.').dropLast = "list_iterator" := by first | decide +kernel | kernel_rfl
  rw [e]
  refine wpAny_of_eq f1 ?_
  simp only [Bool.not_true, Bool.false_eq_true, if_false]
  refine wpAny_pure ?_
  refine wpAny_bind ?_
  exact wpAny_newObj_type (wpAny_pure h)

set_option maxHeartbeats 2000000 in
theorem getAttr_next {I l : Addr} {i : Nat} {Q : Value → Shared → Prop} (hI : s.heap.IsListIter I l i) (hdict : ∀ o, s.heap.get? I = some o → o.dict = none)
    (h : Q (.ref s.heap.objs.size) { s with heap := s.heap.push { cls := .type "method-wrapper", data := .fields #[.builtin "list_iterator.__next__", .ref I] }, toks := s.toks + 1 }) :
    wpAny (model prog w) A (PySem.getAttr (.ref I) "__next__" true) Q E s := by
  refine el13 (hI) fun o ho hc hd => ?_
  have hI' : s.heap.IsListIter I l i := ⟨o, ho, hc, hd⟩
  have hdo := hdict o ho
  obtain ⟨oc, od, oda, osl⟩ := o
  dsimp only at hc hd hdo
  subst hc hd hdo
  obtain ⟨hp, g, d, tk, os⟩ := s
  have hT : ∀ tk', (⟨hp, g, d, tk', os⟩ : Shared).TypeIs (.ref I) "list_iterator" := fun _ => ⟨_, ho, rfl⟩
  have f1 := sub_li
  have f3 := slot_ga.lookup
  have f4 := slot_ga.bind (.ref I)
  have f5 := no_ga
  have f6 := PySem.slot_listiter_next.lookup
  have f7 := type_next
  have f8 := slot_get.lookup
  have f9 := no_set
  have f10 := no_del
  unfold PySem.getAttr getAttrBy
  refine wpAny_bind (wpAny_mkText (wpAny_holding (wpAny_bind ?_)))
  repeat (any_goals (first | assumption | exact hT _ | wp_step))
  refine codeAny_call_builtin slot_ga.plain entry_ga (slot_ga.check _ _ _ _ _ _ _ _ (hT _) (args_ga _ _) ?_)
  unfold Builtin.«object.__getattribute__» Builtin.ObjectAttr.find Builtin.ObjectAttr.getOf Builtin.ObjectAttr.dataDescriptor? Builtin.ObjectAttr.ownThenClass Builtin.ObjectAttr.inOwnDict
  repeat (any_goals (first | assumption | exact hT _ | wp_step))
  refine codeAny_call_builtin slot_get.plain entry_get (slot_get.check _ _ _ _ _ _ _ _ type_next (args_get _ _ _) ?_)
  refine run_get (s := ⟨hp, g, d, tk + 1, os⟩) hI' ?_
  refine wpAny_pure ?_
  show wpAny _ _ (handedOut (.ref _)) _ _ _
  exact handed_on rfl h
end
end NX

section
variable {c : Cst} {A : Around} {Z : List Addr} {lk : Nat → Nat} {s : Shared} {ads : Ads} {σ σ' : Store} {n : Nat} {C C₀ : SC} {env : Env} {ρ : Loc} {W : Addr → Prop} {h : Heap}
theorem sim_nextOf {F : Env'} {x : E} {o : Expr} {pos : Pos} (S : Sim c n C o (ev F x)) (ho : ∀ name env whole, attributeBase o name env whole = whole) : Sim c n C (.Attribute o "__next__" pos) (ev F (.nextOf x)) := by
  intro A Z lk s ads ρ σ env d σ' hf hA R V
  refine bd2 hf fun d1 σ1 h1 hf => bd1 hf fun k₀ hk₀ hf => bd2 hf fun l i hk hf => bd1 hk fun ox hk hox => if_el hf fun h0 hf => Yields.cast hf fun Q E k => ?_
  rw [show d1 = _ from asRef_inv hk₀] at h1
  rw [oIter_inv hox, show i = 0 from h0] at hk
  refine wpAny_Attr (ho _ _ _) (S A Z lk s ads ρ σ env _ _ h1 hA R V _ _ fun ov s1 ads1 x1 R1 r1 => ?_)
  refine el12 (r1) fun p hp qe252 => ?_; subst qe252
  refine el14 (R1.objs _ _ _ hp hk) fun q hq hit hpp hz => ?_
  refine el12 (hz rfl) fun o0 ho0 hd0 => ?_
  refine NX.getAttr_next hit (fun o e => by rw [ho0] at e; cases e; exact hd0) ?_
  let ob : Obj := { cls := .type "method-wrapper", data := .fields #[.builtin "list_iterator.__next__", .ref p.1] }
  have hk' : ∀ b o, s1.heap.get? b = some o → (s1.heap.push ob).get? b = some o := fun b o e => Heap.get?_push_of_some _ e
  refine k _ _ (ads1 ++ [(s1.heap.objs.size, s1.heap.objs.size)]) (x1.trans (ext_add (tk := s1.toks + 1) R1 (get_size _) (get_size _) hk')) ?_ (rep_last (p := (s1.heap.objs.size, s1.heap.objs.size)) R1.len)
  exact R1.add hk' (get_size _) (get_size _) (has_push _) (has_push _) ⟨p, Sub.append _ _ _ _ hp, Heap.get?_push_size _ rfl, rfl⟩
end

end Mine
end
section
open PySem PySem.W PyProof.Rows PySem.SeqAt PySem.MeetsSeq
set_option maxRecDepth 100000
namespace Mine

noncomputable def FlRep (c : Cst) (Z : List Addr) (ads : Ads) (σ : Store) (h : Heap) : Fl → Flow → Prop
  | .next, f => f = .next
  | .brk, f => f = .brk
  | .cont, f => f = .cont
  | .ret d, f => ∃ v, f = .ret v ∧ c.P Z ads σ h d v

noncomputable def YieldsS (c : Cst) (C : SC) (A : Around) (t : Sem Flow) (Z : List Addr) (lk : Nat → Nat) (s : Shared) (ads : Ads) (σ : Store) (env : Env) (fl : Fl) (ρ' : Loc) (σ' : Store) : Prop :=
  ∀ (Q : Flow → Shared → Prop) (E : Value → Shared → Prop), (∀ f s' ads', ExtY (FrA env) ads σ s ads' σ' s' → c.R Z lk s'.heap ads' σ' → EnvRel c C env ρ' Z ads' σ' s'.heap → FlRep c Z ads' σ' s'.heap fl f → Q f s') → wpAny (model c.prog c.w) A t Q E s

noncomputable def SimS (c : Cst) (n : Nat) (C : SC) (st : Stmt) (f : Loc → Store → Option (Fl × Loc × Store)) : Prop :=
  ∀ (A : Around) (Z : List Addr) (lk : Nat → Nat) (s : Shared) (ads : Ads) (ρ : Loc) (σ : Store) (env : Env) (fl : Fl) (ρ' : Loc) (σ' : Store), f ρ σ = some (fl, ρ', σ') → Room A n C.fr → c.R Z lk s.heap ads σ → EnvRel c C env ρ Z ads σ s.heap →
    YieldsS c C A (exec st env) Z lk s ads σ env fl ρ' σ'
noncomputable def SimSS (c : Cst) (n : Nat) (C : SC) (sts : List Stmt) (f : Loc → Store → Option (Fl × Loc × Store)) : Prop :=
  ∀ (A : Around) (Z : List Addr) (lk : Nat → Nat) (s : Shared) (ads : Ads) (ρ : Loc) (σ : Store) (env : Env) (fl : Fl) (ρ' : Loc) (σ' : Store), f ρ σ = some (fl, ρ', σ') → Room A n C.fr → c.R Z lk s.heap ads σ → EnvRel c C env ρ Z ads σ s.heap →
    YieldsS c C A (execs sts env) Z lk s ads σ env fl ρ' σ'
noncomputable def SimG (c : Cst) (n : Nat) (C : SC) (t : Expr) (f : D → Loc → Store → Option (Loc × Store)) : Prop :=
  ∀ (A : Around) (Z : List Addr) (lk : Nat → Nat) (s : Shared) (ads : Ads) (ρ : Loc) (σ : Store) (env : Env) (d : D) (v : Value) (ρ' : Loc) (σ' : Store), f d ρ σ = some (ρ', σ') → Room A n C.fr → c.R Z lk s.heap ads σ → EnvRel c C env ρ Z ads σ s.heap → c.P Z ads σ s.heap d v →
    ∀ (Q : Unit → Shared → Prop) (E : Value → Shared → Prop), (∀ s' ads', ExtY (FrA env) ads σ s ads' σ' s' → c.R Z lk s'.heap ads' σ' → EnvRel c C env ρ' Z ads' σ' s'.heap → Q () s') → wpAny (model c.prog c.w) A (assign t env v) Q E s

section
variable {c : Cst} {A : Around} {Z : List Addr} {lk : Nat → Nat} {s : Shared} {ads : Ads} {σ σ' : Store} {n : Nat} {C C₀ : SC} {env : Env} {ρ : Loc} {W : Addr → Prop} {h : Heap}

theorem EnvRel.fr (V : EnvRel c C env ρ Z ads σ h) : ∀ b o, FrA env b → h.get? b = some o → Fz o → WW Z ads σ b := fun b o y e hz => absurd hz (V.frFz y o e).1
theorem EnvRel.toY {s' : Shared} {ads' : Ads} (V : EnvRel c C env ρ Z ads σ s.heap) (x : Ext Z ads σ s ads' σ' s') : ExtY (FrA env) ads σ s ads' σ' s' := ExtY.of_ext x fun b y => V.frOwn y

structure SlotOk (C : SC) (i : Nat) (x : Str) : Prop where
  slot : C.slots.lookup i = some x
  kind : C.names.lookup x = some .local ∨ C.names.lookup x = some .cell
  one : ∀ (j : Nat) (y : Str), C.slots.lookup j = some y → (j = i ∧ y = x) ∨ (j ≠ i ∧ y ≠ x)
theorem store_name {i : Nat} {x : Str} {d : D} {v : Value} (R : c.R Z lk s.heap ads σ) (V : EnvRel c C env ρ Z ads σ s.heap) (hs : SlotOk C i x) (rv : c.P Z ads σ s.heap d v) {Q : Unit → Shared → Prop} {E : Value → Shared → Prop}
    (k : ∀ s', ExtY (FrA env) ads σ s ads σ s' → c.R Z lk s'.heap ads σ → EnvRel c C env (ρ.set i (some d)) Z ads σ s'.heap → Q () s') : wpAny (model c.prog c.w) A (storeName env x v) Q E s := by
  refine store_sound R V rfl rfl rfl (fun j y e => (hs.one j y e).imp id fun q => ⟨q.1, q.2, e⟩) hs.kind rv fun a h' tk ha _ _ hk R' V' => ?_
  exact k _ (ExtY.one hk ha (V'.frHas ha)) R' V'

theorem simG_name {F : Env'} {i : Nat} {x : Str} {pos : Pos} (hs : SlotOk C i x) : SimG c n C (.Name x pos) (assignT F (.name i)) := by
  intro A Z lk s ads ρ σ env d v ρ' σ' hf hA R V rv Q E k
  dsimp only [assignT] at hf; cases hf
  exact wpAny_assign_Name (store_name R V hs rv fun s' x R' V' => k s' ads x R' V')

theorem simG_attr {F : Env'} {x : E} {a : Nat} {o : Expr} {name : Str} {pos : Pos} (B0 : Base c) (CO : ClsOk c) (S : Sim c n C o (ev F x)) (hn : name = c.X.an a) : SimG c n C (.Attribute o name pos) (assignT F (.attr x a)) := by
  subst hn
  intro A Z lk s ads ρ σ env d v ρ' σ' hf hA R V rv Q E k
  refine bd2 hf fun d1 σ1 h1 hf => ?_
  refine bd1 hf fun σ2 h2 hf => ?_
  cases hf
  rw [PySem.assign_Attribute]
  refine wpAny_bind (wpAny_holding (S A Z lk s ads ρ σ env d1 σ1 h1 hA R V _ _ fun ov s1 ads1 x1 R1 r1 => wpAny_bind (wpAny_standAt (wpAny_bind (wpAny_holding ?_)))))
  refine setAttr_sound B0 CO R1 r1 (x1.rep rv) h2 fun s2 x2 R2 => wpAny_release ?_
  exact k s2 ads1 (V.toY (x1.trans x2)) R2 ((V.ext x1).ext x2)

theorem simS_expr {F : Env'} {W : Nat} {x : E} {e : Expr} {pos : Pos} (S : Sim c n C e (ev F x)) (hs : ∀ env, swapsWith e none pos.line env = pure false) : SimS c n C (.Expr e pos) (ex F W (.expr x)) := by
  intro A Z lk s ads ρ σ env fl ρ' σ' hf hA R V Q E k
  refine bd2 hf fun d1 σ1 h1 hf => ?_
  cases hf
  exact wpAny_Expr_any (S A Z lk s ads _ σ env d1 _ h1 hA R V _ _ fun v s1 ads1 x1 R1 r1 => k .next s1 ads1 (V.toY x1) R1 (V.ext x1) rfl) (by unfold interactive; rw [V.kind]; rfl) (hs env)

theorem simS_ret {F : Env'} {W : Nat} {x : E} {e : Expr} {pos : Pos} (S : Sim c n C e (ev F x)) : SimS c n C (.Return (some e) pos) (ex F W (.ret x)) := by
  intro A Z lk s ads ρ σ env fl ρ' σ' hf hA R V Q E k
  refine bd2 hf fun d1 σ1 h1 hf => ?_
  cases hf
  exact wpAny_Return_some (S A Z lk s ads _ σ env d1 _ h1 hA R V _ _ fun v s1 ads1 x1 R1 r1 => k (.ret v) s1 ads1 (V.toY x1) R1 (V.ext x1) ⟨v, rfl, r1⟩)

theorem simS_brk {F : Env'} {W : Nat} {pos : Pos} : SimS c n C (.Break pos) (ex F W .brk) := by
  intro A Z lk s ads ρ σ env fl ρ' σ' hf hA R V Q E k
  dsimp only [ex] at hf; cases hf
  exact wpAny_Break (k .brk s ads ExtY.refl R V rfl)
theorem simS_cont {F : Env'} {W : Nat} {pos : Pos} : SimS c n C (.Continue pos) (ex F W .cont) := by
  intro A Z lk s ads ρ σ env fl ρ' σ' hf hA R V Q E k
  dsimp only [ex] at hf; cases hf
  exact wpAny_Continue (k .cont s ads ExtY.refl R V rfl)
theorem simS_pass {F : Env'} {W : Nat} {pos : Pos} : SimS c n C (.Pass pos) (ex F W .pass) := by
  intro A Z lk s ads ρ σ env fl ρ' σ' hf hA R V Q E k
  dsimp only [ex] at hf; cases hf
  exact wpAny_Pass (k .next s ads ExtY.refl R V rfl)
theorem simS_bad {F : Env'} {W : Nat} {st : Stmt} : SimS c n C st (ex F W .bad) := by
  intro A Z lk s ads ρ σ env fl ρ' σ' hf
  dsimp only [ex] at hf; cases hf

theorem simSS_nil {F : Env'} {W : Nat} : SimSS c n C [] (exs F W []) := by
  intro A Z lk s ads ρ σ env fl ρ' σ' hf hA R V Q E k
  dsimp only [exs] at hf; cases hf
  exact wpAny_execs_nil (k .next s ads ExtY.refl R V rfl)

theorem exs_cons {F : Env'} {W : Nat} {x : S} {xs : List S} {ρ ρ' : Loc} {fl : Fl} (hf : exs F W (x :: xs) ρ σ = some (fl, ρ', σ')) : (∃ ρ1 σ1, ex F W x ρ σ = some (.next, ρ1, σ1) ∧ exs F W xs ρ1 σ1 = some (fl, ρ', σ')) ∨ (ex F W x ρ σ = some (fl, ρ', σ') ∧ fl ≠ .next) := by
  refine bd3 hf fun f ρ1 σ1 h1 hf => ?_
  cases f
  case next => exact .inl ⟨ρ1, σ1, h1, hf⟩
  all_goals exact .inr ⟨h1.trans hf, sm3 hf fun q _ _ => q ▸ (fun z => nomatch z)⟩

theorem simSS_cons {F : Env'} {W : Nat} {x : S} {xs : List S} {st : Stmt} {sts : List Stmt} (S1 : SimS c n C st (ex F W x)) (S2 : SimSS c n C sts (exs F W xs)) : SimSS c n C (st :: sts) (exs F W (x :: xs)) := by
  intro A Z lk s ads ρ σ env fl ρ' σ' hf hA R V Q E k
  refine wpAny_execs_cons ?_
  rcases exs_cons hf with ⟨ρ1, σ1, h1, h2⟩ | ⟨h1, hne⟩
  · refine S1 A Z lk s ads ρ σ env .next ρ1 σ1 h1 hA R V _ _ fun f s1 ads1 x1 R1 V1 hfl => ?_
    cases hfl
    exact S2 A Z lk s1 ads1 ρ1 σ1 env fl ρ' σ' h2 hA R1 V1 _ _ fun f s2 ads2 x2 R2 V2 hfl => k f s2 ads2 (x1.trans x2) R2 V2 hfl
  · refine S1 A Z lk s ads ρ σ env fl ρ' σ' h1 hA R V _ _ fun f s1 ads1 x1 R1 V1 hfl => ?_
    have key := k f s1 ads1 x1 R1 V1 hfl
    cases fl with
    | next => exact absurd rfl hne
    | brk => cases hfl; exact key
    | cont => cases hfl; exact key
    | ret d => obtain ⟨v, rfl, _⟩ := hfl; exact key

theorem simS_if {F : Env'} {W : Nat} {x : E} {e : Expr} {xs ys : List S} {as bs : List Stmt} {pos : Pos} (S : SimT c n C e (ev F x)) (Sa : SimSS c n C as (exs F W xs)) (Sb : SimSS c n C bs (exs F W ys)) : SimS c n C (.If e as bs pos) (ex F W (.ife x xs ys)) := by
  intro A Z lk s ads ρ σ env fl ρ' σ' hf hA R V Q E k
  dsimp only [ex, test] at hf
  refine bd2 hf fun t σ1 h1 hf => ?_
  refine bd2 h1 fun d1 σ2 h2 h1 => ?_
  refine bd1 h1 fun t' h3 h1 => ?_
  cases h1
  refine wpAny_If (S A Z lk s ads ρ σ env d1 _ t h2 h3 hA R V _ _ fun s1 ads1 x1 R1 => ?_)
  have V1 := V.ext x1
  have y1 := V.toY x1
  cases t with
  | true => exact Sa A Z lk s1 ads1 ρ _ env fl ρ' σ' hf hA R1 V1 _ _ fun f s2 ads2 x2 R2 V2 hfl => k f s2 ads2 (y1.trans x2) R2 V2 hfl
  | false => exact Sb A Z lk s1 ads1 ρ _ env fl ρ' σ' hf hA R1 V1 _ _ fun f s2 ads2 x2 R2 V2 hfl => k f s2 ads2 (y1.trans x2) R2 V2 hfl
end

end Mine
end
section
open PySem PySem.W PyProof.Rows PySem.SeqAt PySem.MeetsSeq
set_option maxRecDepth 100000
namespace Mine

section
variable {c : Cst} {A : Around} {Z : List Addr} {lk : Nat → Nat} {s : Shared} {ads : Ads} {σ σ' : Store} {n : Nat} {C C₀ : SC} {env : Env} {ρ : Loc} {W : Addr → Prop} {h : Heap}

theorem freeze_sound {i : Nat} {k₀ : Nat} {l : List D} {x : Str} (hs : SlotOk C i x) (R : c.R Z lk s.heap ads σ) (V : EnvRel c C env ρ Z ads σ s.heap) (hi : ρ[i]? = some (some (.ref k₀))) (ho : σ[k₀]? = some (.list l)) :
    ExtY (FrA env) ads σ s ads (σ.set k₀ .dead) s ∧ c.R Z lk s.heap ads (σ.set k₀ .dead) ∧ EnvRel c C env (ρ.set i (some (.list l))) Z ads (σ.set k₀ .dead) s.heap := by
  have hkl : k₀ < ads.length := by rw [R.len]; exact (List.getElem?_eq_some_iff.mp ho).1
  have hp := List.getElem?_eq_getElem hkl
  generalize ads[k₀] = p at hp
  have hown : ∀ b, Owned ads (σ.set k₀ .dead) b → Owned ads σ b := Rel.owned_set hp ho rfl
  have hww : ∀ b, WW Z ads (σ.set k₀ .dead) b → WW Z ads σ b := fun b w => w.imp id (hown b)
  refine el14 (R.objs _ _ _ hp ho) fun vs hpl hr hl hpp => ?_
  have R' : c.R Z lk s.heap ads (σ.set k₀ .dead) := R.put hp ho rfl (fun _ _ _ _ e => e) (R.alt _ _ _ hp ho rfl) trivial
  have hz : ¬ WW Z ads (σ.set k₀ .dead) p.1 := by
    rintro (w | ⟨j, q, o, h1, h2, h3, h4⟩)
    · exact R.zown _ w ⟨k₀, p, _, hp, ho, rfl, .inl rfl⟩
    · by_cases hj : k₀ = j
      · subst hj; rw [List.getElem?_set_self (List.getElem?_eq_some_iff.mp ho).1] at h2; cases h2; cases h3
      · rw [List.getElem?_set_ne hj] at h2
        have := R.apart k₀ j p q _ o hp h1 ho h2 rfl h3 hj
        rcases h4 with h4 | h4
        · exact this.1 h4
        · exact this.2.1 h4
  have rnew : c.P Z ads (σ.set k₀ .dead) s.heap (.list l) (.ref p.1) := ⟨p.1, vs, rfl, hpl, hz, hl, RepL.mono (Sub.refl _) (fun _ _ _ _ e => e) (fun a _ _ w => hww a w) _ _ hr⟩
  have V' : EnvRel c C env ρ Z ads (σ.set k₀ .dead) s.heap := V.mono (Sub.refl _) (fun _ _ _ _ e => e) (fun a _ _ w => hww a w) (fun _ _ _ e => e) (fun a h _ q => h (hown a q)) (fun _ _ => FrKeep.same fun _ e => e)
  refine ⟨⟨⟨[], by simp⟩, fun _ _ _ _ e => SO.of e, fun _ e => e, fun b e => .inl (hown b e), ⟨_, _, rfl⟩⟩, R', ?_⟩
  refine ⟨V'.kind, V'.names, V'.globals, V'.builtins, ?_, V'.has, ?_, V'.apart, V'.lown, V'.cown, V'.frs, V'.frn, V'.hd⟩
  · refine el12 (V'.ns) fun m hm hv => ?_
    refine ⟨m, hm, fun j y d a b e => ?_⟩
    rcases loc_set e with ⟨rfl, rfl⟩ | ⟨h1, h2⟩
    · refine el12 (hv _ y (.ref k₀) a b hi) fun v e1 r1 => ?_
      refine el12 (r1) fun p' hp' qe220 => ?_; subst qe220
      rw [hp] at hp'; cases hp'
      exact ⟨_, e1, rnew⟩
    · exact hv j y d a b h2
  · intro j y d a b e q l'
    rcases loc_set q with ⟨rfl, rfl⟩ | ⟨h1, h2⟩
    · refine el12 (V'.cell _ y (.ref k₀) a b e hi l') fun v e1 r1 => ?_
      refine el12 (r1) fun p' hp' qe221 => ?_; subst qe221
      rw [hp] at hp'; cases hp'
      exact ⟨_, e1, rnew⟩
    · exact V'.cell j y d a b e h2 l'

theorem simSS_freeze {F : Env'} {W : Nat} {i : Nat} {xs : List S} {sts : List Stmt} {x : Str} (hs : SlotOk C i x) (S2 : SimSS c n C sts (exs F W xs)) : SimSS c n C sts (exs F W (.freeze i :: xs)) := by
  intro A Z lk s ads ρ σ env fl ρ' σ' hf hA R V Q E k
  refine bd3 hf fun f ρ1 σ1 h1 h2 => bd1 h1 fun d hi h1 => bd1 h1 fun k₀ hk₀ h1 => bd1 h1 fun l ho h1 => bd1 ho fun ox ho hox => sm3 h1 fun e1 e2 e3 => ?_
  subst e1; subst e2; subst e3
  have hi := getV_inv hi
  rw [asRef_inv hk₀] at hi
  rw [oList_inv hox] at ho
  exact el03 (freeze_sound hs R V hi ho) fun y R1 V1 => S2 A Z lk s ads _ _ env fl ρ' σ' h2 hA R1 V1 _ _ fun f s2 ads2 x2 R2 V2 hfl => k f s2 ads2 (y.trans x2) R2 V2 hfl

theorem simS_while {F : Env'} {W : Nat} {x : E} {e : Expr} {xs ys : List S} {as bs : List Stmt} {pos : Pos} (S : SimT c n C e (ev F x)) (Sa : SimSS c n C as (exs F W xs)) (Sb : SimSS c n C bs (exs F W ys)) : SimS c n C (.While e as bs pos) (ex F W (.whil x xs ys)) := by
  intro A Z lk s ads ρ σ env fl ρ' σ' hf hA R V Q E k
  dsimp only [ex] at hf
  refine wpAny_While ?_
  let Inv : Nat → Shared → Prop := fun m s₁ => ∃ ads₁ ρ₁ σ₁, whileL (test F x) (exs F W xs) (exs F W ys) m ρ₁ σ₁ = some (fl, ρ', σ') ∧ c.R Z lk s₁.heap ads₁ σ₁ ∧ EnvRel c C env ρ₁ Z ads₁ σ₁ s₁.heap ∧ ExtY (FrA env) ads σ s ads₁ σ₁ s₁
  refine codeAny_whileLoop Inv (fun m s₁ hI => ?_) W ⟨ads, ρ, σ, hf, R, V, ExtY.refl⟩
  refine el34 (hI) fun ads₁ ρ₁ σ₁ hw R₁ V₁ X₁ => ?_
  cases m with
  | zero => exact no_el hw
  | succ m =>
    refine bd2 hw fun t σ2 ht hw => bd2 ht fun d σ3 h1 ht => bd1 ht fun t' h2 ht => ?_
    refine sm2 ht fun q1 q2 => ?_
    subst q1; subst q2
    refine S A Z lk s₁ ads₁ ρ₁ σ₁ env d σ3 t' h1 h2 hA R₁ V₁ _ _ fun s2 ads2 x2 R2 => ?_
    have V2 := V₁.ext x2
    have X2 := X₁.trans (V₁.toY x2)
    cases t' with
    | true =>
      rw [if_pos rfl]
      refine bd3 hw fun fl3 ρ3 σ3 hb hw => Sa A Z lk s2 ads2 ρ₁ _ env _ _ _ hb hA R2 V2 _ _ fun f s3 ads3 x3 R3 V3 hfl => ?_
      cases fl3 with
      | next => cases hfl; exact ⟨m, Nat.lt_succ_self _, ads3, ρ3, σ3, hw, R3, V3, X2.trans x3⟩
      | cont => cases hfl; exact ⟨m, Nat.lt_succ_self _, ads3, ρ3, σ3, hw, R3, V3, X2.trans x3⟩
      | brk => cases hfl; cases hw; exact k .next s3 ads3 (X2.trans x3) R3 V3 rfl
      | ret d => cases hw; exact el12 hfl fun v hv r => hv ▸ k (.ret v) s3 ads3 (X2.trans x3) R3 V3 ⟨v, rfl, r⟩
    | false =>
      rw [if_neg Bool.false_ne_true]
      exact Sb A Z lk s2 ads2 ρ₁ _ env fl ρ' σ' hw hA R2 V2 _ _ fun f s3 ads3 x3 R3 V3 hfl => k f s3 ads3 (X2.trans x3) R3 V3 hfl

theorem simS_assign {F : Env'} {W : Nat} {t : T} {x : E} {te e : Expr} {pos : Pos} (S : Sim c n C e (ev F x)) (G : SimG c n C te (assignT F t)) (he : ∀ env, (assignEach [te] env).map (·.2) = [assign te env])
    (hs : ∀ env : Env, env.scope.names = C.names → swapsWith e (some te) pos.line env = pure false) (hw : ∀ env : Env, env.scope.names = C.names → env.scope.kind = .function → swappedStores [te] e env = pure none) : SimS c n C (.Assign [te] e pos) (ex F W (.assign t x)) := by
  intro A Z lk s ads ρ σ env fl ρ' σ' hf hA R V Q E k
  refine bd2 hf fun d1 σ1 h1 hf => bd2 hf fun ρ2 σ2 h2 hf => ?_
  cases hf
  refine wpAny_Assign_stores (S A Z lk s ads ρ σ env d1 σ1 h1 hA R V _ _ fun v s1 ads1 x1 R1 r1 => ?_) (hs env V.names) (hw env V.names V.kind)
  rw [he]
  exact G A Z lk s1 ads1 ρ σ1 env d1 v _ _ h2 hA R1 (V.ext x1) r1 _ _ fun s2 ads2 x2 R2 V2 => k .next s2 ads2 ((V.toY x1).trans x2) R2 V2 rfl

theorem simS_assign2 {F : Env'} {W : Nat} {t u : T} {x : E} {te ue e : Expr} {pos : Pos} (S : Sim c n C e (ev F x)) (G : SimG c n C te (assignT F t)) (G' : SimG c n C ue (assignT F u))
    (he : ∀ env, (assignEach [te, ue] env).map (·.2) = [assign te env, assign ue env]) (hw : ∀ env : Env, swappedStores [te, ue] e env = pure none) : SimS c n C (.Assign [te, ue] e pos) (ex F W (.assign2 t u x)) := by
  intro A Z lk s ads ρ σ env fl ρ' σ' hf hA R V Q E k
  refine bd2 hf fun d1 σ1 h1 hf => ?_
  refine bd2 hf fun ρ2 σ2 h2 hf => ?_
  refine bd2 hf fun ρ3 σ3 h3 hf => ?_
  cases hf
  refine wpAny_Assign_two (S A Z lk s ads ρ σ env d1 σ1 h1 hA R V _ _ fun v s1 ads1 x1 R1 r1 => ?_) (he env) (hw env)
  refine G A Z lk s1 ads1 ρ σ1 env d1 v ρ2 σ2 h2 hA R1 (V.ext x1) r1 _ _ fun s2 ads2 x2 R2 V2 => ?_
  refine G' A Z lk s2 ads2 ρ2 σ2 env d1 v _ _ h3 hA R2 V2 (x2.rep (V.ext x1).fr r1) _ _ fun s3 ads3 x3 R3 V3 => k .next s3 ads3 (((V.toY x1).trans x2).trans x3) R3 V3 rfl

theorem simS_aug {F : Env'} {W : Nat} {x y : E} {a : Nat} {op : Operator} {o e : Expr} {name : Str} {tpos pos : Pos} (B0 : Base c) (CO : ClsOk c) (So : Sim c n C o (ev F x)) (Se : Sim c n C e (ev F y)) (hn : name = c.X.an a)
    (hop : ∀ (A : Around) Z lk s ads σ i j iv jv r, c.R Z lk s.heap ads σ → binOp op (.int i) (.int j) = some r → c.P Z ads σ s.heap (.int i) iv → c.P Z ads σ s.heap (.int j) jv → Yields c A (inplaceOp op iv jv) Z lk s ads σ r σ) :
    SimS c n C (.AugAssign (.Attribute o name tpos) op e pos) (ex F W (.aug x a op y)) := by
  subst hn
  intro A Z lk s ads ρ σ env fl ρ' σ' hf hA R V Q E k
  refine bd2 hf fun d1 σ1 h1 hf => ?_
  refine bd1 hf fun d2 h2 hf => ?_
  refine bd2 hf fun d3 σ3 h3 hf => ?_
  refine bd1 hf fun i hi hf => bd1 hf fun j hj hf => ?_
  rw [show d2 = _ from asI_inv hi] at h2
  rw [show d3 = _ from asI_inv hj] at h3
  refine bd1 hf fun r h4 hf => ?_
  refine bd1 hf fun σ5 h5 hf => ?_
  cases hf
  refine wpAny_AugAssign_AttributeAny (So A Z lk s ads _ σ env d1 σ1 h1 hA R V _ _ fun ov s1 ads1 x1 R1 r1 => ?_)
  refine getAttr_sound B0 CO R1 r1 h2 _ _ fun old s2 ads2 x2 R2 r2 => ?_
  refine Se A Z lk s2 ads2 _ σ1 env _ σ3 h3 hA R2 ((V.ext x1).ext x2) _ _ fun v s3 ads3 x3 R3 r3 => ?_
  refine hop A Z lk s3 ads3 σ3 _ _ old v r R3 h4 (x3.rep r2) r3 _ _ fun new s4 ads4 x4 R4 r4 => ?_
  refine setAttr_sound B0 CO R4 (x4.rep (x3.rep (x2.rep r1))) r4 h5 fun s5 x5 R5 => ?_
  have x : Ext Z ads σ s ads4 _ s5 := (((x1.trans x2).trans x3).trans x4).trans x5
  exact k .next s5 ads4 (V.toY x) R5 (V.ext x) rfl
end

end Mine
end
section
open PySem PySem.W PyProof.Rows PySem.SeqAt PySem.MeetsSeq
set_option maxRecDepth 100000
namespace Mine

theorem LkO.two {α β : Type} {σ : Store} {st : α → Store} {l : List β} {f : β → β → Option α} (x : ∀ d e, LkO σ st (f d e)) : LkO σ st (Mine.two l f) := by
  unfold Mine.two; split
  · exact x _ _
  · exact LkO.none
theorem lk_assignT {X : Env'} (hF : LkF X.F) : ∀ (t : T) (d : D) (ρ : Loc) (σ : Store), LkO σ s2 (assignT X t d ρ σ)
  | .name i, d, ρ, σ => .some (.refl _)
  | .sub o i, d, ρ, σ => (lk_ev hF o ρ σ).bind fun p => (lk_ev hF i ρ p.2).bind fun q => LkO.bind (st := id) lk_setItem fun _ => .some (.refl _)
  | .attr o a, d, ρ, σ => (lk_ev hF o ρ σ).bind fun p => LkO.bind (st := id) lk_setAttr fun _ => .some (.refl _)
  | .tup [t, u], d, ρ, σ => .gd fun l => .two fun a b => (lk_assignT hF t a ρ σ).bind fun p => lk_assignT hF u b p.1 p.2
  | .tup [], d, ρ, σ => .none
  | .tup [_], d, ρ, σ => .none
  | .tup (_ :: _ :: _ :: _), d, ρ, σ => .none

theorem lk_aft {f : Loc → Store → Option (Fl × Loc × Store)} (hf : ∀ ρ σ, LkO σ s3 (f ρ σ)) (r : Fl × Loc × Store) : LkO r.2.2 s3 (aft f r) := by
  obtain ⟨fl, ρ, σ⟩ := r
  cases fl
  case next => exact hf ρ σ
  case cont => exact hf ρ σ
  case brk => exact .some (.refl _)
  case ret => exact .some (.refl _)
theorem lk_forL {body : Loc → Store → Option (Fl × Loc × Store)} {asg : D → Loc → Store → Option (Loc × Store)} (hb : ∀ ρ σ, LkO σ s3 (body ρ σ)) (ha : ∀ d ρ σ, LkO σ s2 (asg d ρ σ)) : ∀ (l : List D) (ρ : Loc) (σ : Store), LkO σ s3 (forL body asg l ρ σ)
  | [], _, _ => .some (.refl _)
  | d :: ds, ρ, σ => (ha d ρ σ).bind fun p => (hb p.1 p.2).bind fun q => lk_aft (lk_forL hb ha ds) q
theorem lk_whileL {test : Loc → Store → Option (Bool × Store)} {body orelse : Loc → Store → Option (Fl × Loc × Store)} (ht : ∀ ρ σ, LkO σ s2 (test ρ σ)) (hb : ∀ ρ σ, LkO σ s3 (body ρ σ)) (ho : ∀ ρ σ, LkO σ s3 (orelse ρ σ)) : ∀ (n : Nat) (ρ : Loc) (σ : Store), LkO σ s3 (whileL test body orelse n ρ σ)
  | 0, _, _ => .none
  | n + 1, ρ, σ => (ht ρ σ).bind fun p => .cond ((hb ρ p.2).bind fun q => lk_aft (lk_whileL ht hb ho n) q) (ho ρ p.2)
theorem lk_test {X : Env'} (hF : LkF X.F) (c : E) (ρ : Loc) (σ : Store) : LkO σ s2 (test X c ρ σ) := (lk_ev hF c ρ σ).bind fun p => .gd fun _ => .some (.refl _)
theorem lockO_open {o : O} {p : List D × O} (e : lockO o = some p) : o.locked = false := by cases o <;> first | rfl | exact no_el e
theorem lk_forD {f : List D → Loc → Store → Option (Fl × Loc × Store)} (hf : ∀ l ρ σ, LkO σ s3 (f l ρ σ)) (x : D) (ρ : Loc) (σ : Store) : LkO σ s3 (forD f x ρ σ) := by
  cases x
  case list => exact hf _ _ _
  case tup => exact hf _ _ _
  case rng => exact hf _ _ _
  case ref k =>
    intro r e
    refine bd2 e fun l σ1 h1 e => bd3 e fun fl ρ2 σ2 h2 e => bd1 e fun σ3 h3 e => ?_
    rw [← Option.some.inj e]
    refine bd2 h1 fun l' o' ho h1 => bd1 ho fun o ho hl => ?_
    refine Lk.lockD (o' := o') ho (lockO_open hl) (sm2 h1 fun _ q => ?_) h3
    rw [show σ.set k o' = σ1 from q]
    exact hf l ρ σ1 _ h2
  all_goals exact .none
theorem lk_nextIt {σ : Store} {x : D} : LkO σ s3 (nextIt σ x) := .gd fun k => .gd fun j => .gd' fun p hp => .gd fun xs => by
  have key : ∀ o, Lk σ (σ.set j o) := fun o => bd1 hp fun ox ho hl => .set ho (oIter_inv hl ▸ rfl)
  split
  · exact .some (key _)
  · exact .some (key _)

mutual
theorem lk_ex {X : Env'} (hF : LkF X.F) (W : Nat) : ∀ (x : S) (ρ : Loc) (σ : Store), LkO σ s3 (ex X W x ρ σ)
  | .expr x, ρ, σ => (lk_ev hF x ρ σ).bind fun p => .some (.refl _)
  | .assign t x, ρ, σ => (lk_ev hF x ρ σ).bind fun p => (lk_assignT hF t _ ρ p.2).bind fun q => .some (.refl _)
  | .assign2 t u x, ρ, σ => (lk_ev hF x ρ σ).bind fun p => (lk_assignT hF t _ ρ p.2).bind fun q => (lk_assignT hF u _ q.1 q.2).bind fun r => .some (.refl _)
  | .aug o a op x, ρ, σ => (lk_ev hF o ρ σ).bind fun p => .gd fun _ => (lk_ev hF x ρ p.2).bind fun q => .gd fun _ => .gd fun _ => .gd fun _ => LkO.bind (st := id) lk_setAttr fun _ => .some (.refl _)
  | .ret x, ρ, σ => (lk_ev hF x ρ σ).bind fun p => .some (.refl _)
  | .ife c a b, ρ, σ => (lk_test hF c ρ σ).bind fun p => .cond (lk_exs hF W a ρ p.2) (lk_exs hF W b ρ p.2)
  | .ifNone i x a, ρ, σ => (lk_ev hF x ρ σ).bind fun p => .gd fun _ => .cond (lk_exs hF W a _ p.2) (.some (.refl _))
  | .whil c b o, ρ, σ => lk_whileL (lk_test hF c) (lk_exs hF W b) (lk_exs hF W o) W ρ σ
  | .fore t it b, ρ, σ => (lk_ev hF it ρ σ).bind fun p => lk_forD (lk_forL (lk_exs hF W b) (lk_assignT hF t)) p.1 ρ p.2
  | .brk, ρ, σ => .some (.refl _)
  | .cont, ρ, σ => .some (.refl _)
  | .pass, ρ, σ => .some (.refl _)
  | .del o i, ρ, σ => (lk_ev hF o ρ σ).bind fun p => (lk_ev hF i ρ p.2).bind fun q => .gd fun _ => .gd fun _ => .gd' fun es hl => .ite (.some (bd1 hl fun o ho hl => .set ho (oDict_inv hl ▸ rfl))) .none
  | .tryPlain b, ρ, σ => lk_exs hF W b ρ σ
  | .tryNext i f h, ρ, σ => (lk_ev hF f ρ σ).bind fun p => LkO.bind (st := s3) lk_nextIt fun q => by
    obtain ⟨j, o, σ1⟩ := q
    cases o
    case none => exact lk_exs hF W h ρ σ1
    case some => exact .some (.refl _)
  | .bad, ρ, σ => .none
  | .freeze i, ρ, σ => .gd fun _ => .gd fun _ => .gd' fun es hl => .some (bd1 hl fun o ho hl => .set ho (oList_inv hl ▸ rfl))
theorem lk_exs {X : Env'} (hF : LkF X.F) (W : Nat) : ∀ (xs : List S) (ρ : Loc) (σ : Store), LkO σ s3 (exs X W xs ρ σ)
  | [], ρ, σ => .some (.refl _)
  | x :: xs, ρ, σ => (lk_ex hF W x ρ σ).bind fun q => by
    obtain ⟨fl, ρ1, σ1⟩ := q
    cases fl
    case next => exact lk_exs hF W xs ρ1 σ1
    all_goals exact .some (.refl _)
end

theorem lk_callF (P : Prog') : ∀ n, LkF (callF P n)
  | 0, f, args, σ, d, σ', e => no_el e
  | n + 1, f, args, σ, d, σ', e => bd1 e fun fn _ e => bd1 e fun ρ _ e => bd3 e fun fl ρ1 σ1 h e => by
    have q := lk_exs (X := ⟨P.globs, callF P n⟩) (lk_callF P n) P.W fn.body ρ σ _ h
    cases fl
    case next => exact sm2 e fun _ z => z ▸ q
    case ret => exact sm2 e fun _ z => z ▸ q
    all_goals exact no_el e
end Mine
end
section
open PySem PySem.W PyProof.Rows PySem.SeqAt PySem.MeetsSeq
set_option maxRecDepth 100000
namespace Mine

section
variable {c : Cst} {A : Around} {Z : List Addr} {lk : Nat → Nat} {s : Shared} {ads : Ads} {σ σ' : Store} {n : Nat} {C C₀ : SC} {env : Env} {ρ : Loc} {W : Addr → Prop} {h : Heap}

theorem ItAt.extF {ads' : Ads} {s' : Shared} {I : Addr} {ds : List D} (x : ItAt c Z lk ads σ s.heap I ds) (V : EnvRel c C env ρ Z ads σ s.heap) (hI : ¬ WW Z ads σ I) (e : ExtY (FrA env) ads σ s ads' σ' s') (hl : Lk σ σ') : ItAt c Z lk ads' σ' s'.heap I ds := by
  refine el12 (x.obj) fun o ho hK => ?_
  refine x.mono e.sub hl (fun o' q => SO.ex (e.kept I o' (fun z => hI (.inr z)) (fun y => (V.frFz y o ho).2 hK) q) (ItK.nd (by rw [ho] at q; cases q; exact hK))) (fun a o hw hz q => SO.ex (e.kept a o (fun z => hw (.inr z)) (fun y => hw (V.fr a o y q hz)) q) hz.nd) (fun a o q hw => ?_)
  rcases hw with hw | hw
  · exact .inl hw
  · rcases e.own a hw with z | z
    · exact .inr z
    · rw [q] at z; cases z
theorem ww_extF {ads' : Ads} {s' : Shared} {I : Addr} {ds : List D} {Y : Addr → Prop} (x : ItAt c Z lk ads σ s.heap I ds) (hI : ¬ WW Z ads σ I) (e : ExtY Y ads σ s ads' σ' s') : ¬ WW Z ads' σ' I := by
  refine el12 (x.obj) fun o ho hK => ?_
  rintro (w | w)
  · exact hI (.inl w)
  · rcases e.own I w with z | z
    · exact hI (.inr z)
    · rw [ho] at z; cases z

theorem EnvRel.stepI {I : Addr} {o : Obj} {h h' : Heap} (V : EnvRel c C env ρ Z ads σ h) (ho : h.get? I = some o) (hK : ItK o) (hk : ∀ b o, b ≠ I → h.get? b = some o → h'.get? b = some o) : EnvRel c C env ρ Z ads σ h' := by
  have hz : ∀ a o, ¬ WW Z ads σ a → Fz o → h.get? a = some o → h'.get? a = some o := fun a o' _ hf e => hk a o' (fun q => by subst q; rw [ho] at e; cases e; exact hK.notFz hf) e
  refine V.mono (Sub.refl _) hz (fun _ _ _ w => w) (fun a o' hf e => hk a o' (fun q => ?_) e) (fun a h _ => h) (fun a _ o' e hnf => ⟨o', hk a o' (fun q => by subst q; rw [ho] at e; cases e; obtain ⟨_, vs, z⟩ := hK; refine el21 (hnf) fun es ep y => ?_; rw [z] at y; cases y) e, hnf⟩)
  subst q
  rcases hf with hf | ⟨y, hf⟩
  · rw [ho] at e; cases e; exact (V.frFz hf _ ho).2 hK
  · obtain ⟨_, _, ov, o2, h2, hd⟩ := V.cown y a hf
    rw [ho] at h2; cases h2
    obtain ⟨_, vs, q⟩ := hK; rw [hd] at q; cases q

theorem letOwned_plain {target : Expr} {I : Addr} {v : Value} {o : Obj} {M : Model} {Q : Unit → Shared → Prop} {E : Value → Shared → Prop} (ho : s.heap.get? I = some o) (hK : ItK o) (k : Q () s) : wpAny M A (letOwnedTupleGo target (.ref I) v) Q E s := by
  have key : ∀ a, wpAny M A (do
      let o ← load I
      match o.cls, o.data with
      | .type n, .fields vs =>
        if ["enumerate", "zip", "dict_itemiterator", "dict_reverseitemiterator", "odict_iterator", "itertools.zip_longest", "itertools.pairwise"].contains n && vs[0]? == some (rawInt a) then
          rule "for.unpacks-the-owned-tuple"
          updateField I 0 .none
      | _, _ => pure () : Sem Unit) Q E s := by
    intro a
    refine wpAny_bind (wpAny_load ho ?_)
    obtain ⟨hc, vs, hd⟩ := hK
    rw [hd]
    rcases hc with hc | hc | hc | hc | hc <;> (rw [hc]; exact wpAny_pure k)
  unfold letOwnedTupleGo
  split
  · cases v <;> first | exact key _ | exact wpAny_pure k
  · cases v <;> first | exact key _ | exact wpAny_pure k
  · exact wpAny_pure k

theorem for_turns {F : Env'} (hF : LkF F.F) {W : Nat} {t : T} {te : Expr} {xs : List S} {as : List Stmt} (G : SimG c n C te (assignT F t)) (Sa : SimSS c n C as (exs F W xs)) {I : Addr} {l : List D} {fl : Fl} {ρ' : Loc} {R₀ : Result → Shared → Prop} (hA : Room A n C.fr)
    (hfo : forL (exs F W xs) (assignT F t) l ρ σ = some (fl, ρ', σ')) (R : c.R Z lk s.heap ads σ) (V : EnvRel c C env ρ Z ads σ s.heap) (hit : ItAt c Z lk ads σ s.heap I l) (hIw : ¬ WW Z ads σ I) (hIb : c.h₀.get? I = none)
    (k : ∀ f s' ads', ExtE (fun b => FrA env b ∨ b = I) ads σ s ads' σ' s' → c.R Z lk s'.heap ads' σ' → EnvRel c C env ρ' Z ads' σ' s'.heap → FlRep c Z ads' σ' s'.heap fl f → R₀ (.ok f) s') :
    codeAny (model c.prog c.w) A (.forLoop te (.ref I) as [] env) R₀ s := by
  let Inv : Nat → Shared → Prop := fun m s₁ => ∃ l₁ ads₁ ρ₁ σ₁, l₁.length = m ∧ forL (exs F W xs) (assignT F t) l₁ ρ₁ σ₁ = some (fl, ρ', σ') ∧ c.R Z lk s₁.heap ads₁ σ₁ ∧ EnvRel c C env ρ₁ Z ads₁ σ₁ s₁.heap ∧ ItAt c Z lk ads₁ σ₁ s₁.heap I l₁ ∧ ¬ WW Z ads₁ σ₁ I ∧ ExtY (fun b => FrA env b ∨ b = I) ads σ s ads₁ σ₁ s₁
  refine codeAny_forLoop_any Inv (fun m s₁ hI => ?_) l.length ⟨l, ads, ρ, σ, rfl, hfo, R, V, hit, hIw, ExtY.refl⟩
  refine el47 (hI) fun l₁ ads₁ ρ₁ σ₁ hm hw R₁ V₁ it₁ hIw₁ X₁ => ?_
  refine el12 (it₁.obj) fun oI hoI hKI => ?_
  refine hide fun H kk => ?_
  cases l₁ with
  | nil =>
    cases hw
    refine kk ?_
    refine next_end hA.handled R₁ it₁ hIw₁ hIb fun h' tk hk R' => ?_
    have V' := V₁.stepI hoI hKI hk
    refine wpAny_execs_nil (k .next _ ads₁ ⟨X₁.pre, fun b o hn hy e => SO.thru (X₁.kept b o hn hy e) fun o' => hk b o' (fun q => hy (.inr q)), X₁.own, fun b hy e => (X₁.has b e).kept fun o => hk b o (fun q => hy (.inr q)), let ⟨_, _, e⟩ := X₁.rest; ⟨h', tk, by rw [e]⟩⟩ R' V' rfl)
  | cons d l₂ =>
    refine kk ?_
    refine next_item R₁ it₁ hIw₁ hIb fun v h₂ tk hk R₂ rv it₂ => ?_
    have V₂ := V₁.stepI hoI hKI hk
    refine el12 (it₂.obj) fun oI2 hoI2 hKI2 => ?_
    have hYown : ∀ b, FrA env b ∨ b = I → ¬ Owned ads₁ σ₁ b := fun b q => q.elim (fun y => V₁.frOwn y) fun z => z ▸ fun y => hIw₁ (.inr y)
    have x2 : ExtY (fun b => FrA env b ∨ b = I) ads₁ σ₁ s₁ ads₁ σ₁ { s₁ with heap := h₂, toks := tk } := ExtY.one hk (.inr rfl) ⟨oI2, hoI2⟩
    dsimp only
    refine letOwned_plain (s := { s₁ with heap := h₂, toks := tk }) hoI2 hKI2 ?_
    refine bd2 hw fun ρ3 σ3 ha hw => G A Z lk _ ads₁ ρ₁ σ₁ env d v ρ3 σ3 ha hA R₂ V₂ rv _ _ fun s3 ads3 x3 R3 V3 => ?_
    have it3 := it₂.extF V₂ hIw₁ x3 (lk_assignT hF t _ _ _ _ ha)
    have hIw3 := ww_extF it₂ hIw₁ x3
    have X3 := (X₁.trans x2).trans (x3.mono (fun _ => .inl) hYown)
    refine bd3 hw fun fl4 ρ4 σ4 hb hw => Sa A Z lk s3 ads3 ρ3 σ3 env _ _ _ hb hA R3 V3 _ _ fun f s4 ads4 x4 R4 V4 hfl => ?_
    have it4 := it3.extF V3 hIw3 x4 (lk_exs hF W xs _ _ _ hb)
    have hIw4 := ww_extF it3 hIw3 x4
    have X4 := X3.trans (x4.mono (fun _ => .inl) fun b q => q.elim (fun y => V3.frOwn y) fun z => z ▸ fun y => hIw3 (.inr y))
    cases fl4 with
    | next => cases hfl; exact ⟨l₂.length, hm ▸ Nat.lt_succ_self _, l₂, ads4, ρ4, σ4, rfl, hw, R4, V4, it4, hIw4, X4⟩
    | cont => cases hfl; exact ⟨l₂.length, hm ▸ Nat.lt_succ_self _, l₂, ads4, ρ4, σ4, rfl, hw, R4, V4, it4, hIw4, X4⟩
    | brk => cases hfl; cases hw; exact k .next s4 ads4 ⟨X4.pre, X4.kept, X4.own, fun b _ e => X4.has b e, X4.rest⟩ R4 V4 rfl
    | ret d => cases hw; exact el12 hfl fun v hv r => hv ▸ k (.ret v) s4 ads4 ⟨X4.pre, X4.kept, X4.own, fun b _ e => X4.has b e, X4.rest⟩ R4 V4 ⟨v, rfl, r⟩
end

end Mine
end
section
open PySem PySem.W PyProof.Rows PySem.SeqAt PySem.MeetsSeq
set_option maxRecDepth 100000
namespace Mine

section
variable {c : Cst} {A : Around} {Z : List Addr} {lk : Nat → Nat} {s : Shared} {ads : Ads} {σ σ' : Store} {n : Nat} {C C₀ : SC} {env : Env} {ρ : Loc} {W : Addr → Prop} {h : Heap}

theorem ExtE.toY {I : Addr} {ads₁ ads' : Ads} {σ₁ : Store} {s₁ s' : Shared} {ρ' : Loc} (x : Ext Z ads σ s ads₁ σ₁ s₁) (y : ExtE (fun b => FrA env b ∨ b = I) ads₁ σ₁ s₁ ads' σ' s') (hI : s.heap.get? I = none) (V' : EnvRel c C env ρ' Z ads' σ' s'.heap) : ExtY (FrA env) ads σ s ads' σ' s' := by
  refine ⟨?_, fun b o hn hy e => ?_, fun b e => ?_, fun b e => ?_, ?_⟩
  · obtain ⟨r, rfl⟩ := x.pre; obtain ⟨q, rfl⟩ := y.pre; exact ⟨r ++ q, by simp⟩
  · refine SO.then (x.kept b o hn e) fun o' e' => y.kept b o' (x.notOwned hn ⟨o, e⟩) (fun q => ?_) e'
    rcases q with q | q
    · exact hy q
    · subst q; rw [hI] at e; cases e
  · by_cases hb : FrA env b
    · exact V'.frHas hb
    · refine y.has b (fun q => ?_) (x.has b e)
      rcases q with q | q
      · exact hb q
      · subst q; obtain ⟨o, e⟩ := e; rw [hI] at e; cases e
  · rcases y.own b e with e | e
    · exact x.own b e
    · by_cases hb : Owned ads σ b
      · exact .inl hb
      · refine .inr ?_
        cases hs : s.heap.get? b with
        | none => rfl
        | some o => obtain ⟨o', q, _⟩ := x.kept b o hb hs; rw [q] at e; cases e
  · obtain ⟨h, tk, rfl⟩ := x.rest; obtain ⟨h', tk', rfl⟩ := y.rest; exact ⟨h', tk', rfl⟩

theorem FlRep.swap {fl : Fl} {f : Flow} {σ2 : Store} (ho : ∀ b, Owned ads σ2 b ↔ Owned ads σ b) (x : FlRep c Z ads σ h fl f) : FlRep c Z ads σ2 h fl f := by
  cases fl with
  | ret d => obtain ⟨v, e, r⟩ := x; exact ⟨v, e, Rep.mono (Sub.refl _) (fun _ _ _ _ e => e) (fun a _ _ w => w.imp id (ho a).mp) _ _ r⟩
  | _ => exact x
theorem EnvRel.swap {σ2 : Store} (ho : ∀ b, Owned ads σ2 b ↔ Owned ads σ b) (V : EnvRel c C env ρ Z ads σ h) : EnvRel c C env ρ Z ads σ2 h :=
  V.mono (Sub.refl _) (fun _ _ _ _ e => e) (fun a _ _ w => w.imp id (ho a).mp) (fun _ _ _ e => e) (fun a h _ q => h ((ho a).mp q)) (fun _ _ => FrKeep.same fun _ e => e)

theorem simS_for {F : Env'} (B0 : Base c) (hF : LkF F.F) {W : Nat} {t : T} {te : Expr} {x : E} {e : Expr} {xs : List S} {as : List Stmt} {pos : Pos} (S : Sim c n C e (ev F x)) (G : SimG c n C te (assignT F t)) (Sa : SimSS c n C as (exs F W xs)) (hfs : ∀ env v, foldedSetIterable e env v = pure v) :
    SimS c n C (.For te e as [] pos) (ex F W (.fore t x xs)) := by
  intro A Z lk s ads ρ σ env fl ρ' σ' hf hA R V Q E k
  refine bd2 hf fun d1 σ1 h1 hf => ?_
  refine wpAny_For (S A Z lk s ads ρ σ env d1 σ1 h1 hA R V _ _ fun v s1 ads1 x1 R1 r1 => ?_) (fun v => hfs env v)
  refine hide fun H kk => ?_
  have tree : ∀ l, treeOf d1 = some l → forL (exs F W xs) (assignT F t) l ρ σ1 = some (fl, ρ', σ') → H := by
    intro l hl hw
    refine kk ?_
    refine iter_tree R1 r1 hl fun h' hk R' it => ?_
    have x2 : Ext Z ads σ s ads1 σ1 { s1 with heap := h' } := x1.trans (Ext.more (tk := s1.toks) hk)
    refine for_turns hF G Sa (s := { s1 with heap := h' }) hA hw R' (V.ext x2) it (R1.fresh_ww (get_size _)) (R1.fresh_base (get_size _)) fun f s3 ads3 x3 R3 V3 hfl => ?_
    exact k f s3 ads3 (x3.toY x2 (fresh_iter x1) V3) R3 V3 hfl
  cases d1
  case list => exact tree _ rfl hf
  case tup => exact tree _ rfl hf
  case rng => exact tree _ rfl hf
  case ref k₀ =>
    refine bd2 hf fun l σ2 h2 hf => bd3 hf fun f2 ρ2 σ3 h3 hf => bd1 hf fun σ4 h4 hf => bd2 h2 fun l' o' ho0 h2 => bd1 ho0 fun ox ho1 hl => sm2 h2 fun q1 q2 => el12 r1 fun p hp hv => ?_
    cases hf
    subst q1; subst q2; subst hv
    cases ox
    case list =>
      cases hl
      have ho := ho1
      clear ho0
      refine el14 (R1.objs _ _ _ hp ho) fun vs hpl hr hlim hpp => ?_
      have hown := owned_swap (ads := ads1) (o' := .llist l') ho rfl rfl
      have R2 : c.R Z lk s1.heap ads1 (σ1.set k₀ (.llist l')) := Rel.view R1 ho rfl rfl fun p x => x
      let oi : Obj := { cls := .type "list_iterator", data := .fields #[.ref p.1, .int 0 0] }
      have hk : ∀ b o, s1.heap.get? b = some o → (s1.heap.push oi).get? b = some o := fun b o e => Heap.get?_push_of_some _ e
      refine kk ?_
      refine wpAny_pyIter_list (PlainList.isList hpl) ?_
      have x2 : Ext Z ads σ s ads1 σ1 { s1 with heap := s1.heap.push oi } := x1.trans (Ext.more (tk := s1.toks) hk)
      have V2 : EnvRel c C env ρ Z ads1 (σ1.set k₀ (.llist l')) (s1.heap.push oi) := (V.ext x2).swap hown
      have x2' : Ext Z ads σ s ads1 (σ1.set k₀ (.llist l')) { s1 with heap := s1.heap.push oi } := ⟨x2.pre, x2.kept, fun b q => x2.own b ((hown b).mp q), x2.has, x2.rest⟩
      have hww : ¬ WW Z ads1 (σ1.set k₀ (.llist l')) s1.heap.objs.size := fun w => R1.fresh_ww (get_size _) (w.imp id (hown _).mp)
      refine for_turns hF G Sa (s := { s1 with heap := s1.heap.push oi }) hA h3 (R2.grow hk) V2 (.llist (i := 0) hp (List.getElem?_set_self (List.getElem?_eq_some_iff.mp ho).1) ⟨_, Heap.get?_push_size _ rfl, rfl, rfl⟩) hww (R1.fresh_base (get_size _)) fun f s3 ads3 x3 R3 V3 hfl => ?_
      obtain ⟨R4, ho4⟩ := R3.unlock h4
      have y := x3.toY x2' (fresh_iter x1) V3
      exact k f s3 ads3 ⟨y.pre, y.kept, y.has, fun b q => y.own b ((ho4 b).mp q), y.rest⟩ R4 (V3.swap ho4) (hfl.swap ho4)
    case dict es =>
      cases hl
      have ho := ho1
      clear ho0
      refine el23 (Rel.lockDict R1 hp ho) fun ep kvs R2 hat hlen => ?_
      have hown := owned_swap (ads := ads1) (o' := .ldict es) ho rfl rfl
      let oi : Obj := { cls := .type "dict_keyiterator", data := .fields #[.ref p.1, .int 0 0, .int kvs.length 0, .int ep 0] }
      have hk : ∀ b o, s1.heap.get? b = some o → (s1.heap.push oi).get? b = some o := fun b o e => Heap.get?_push_of_some _ e
      refine kk ?_
      refine wpAny_pyIter_dict (Rel.dict_ne B0 R1 hp) hat ?_
      have x2 : Ext Z ads σ s ads1 σ1 { s1 with heap := s1.heap.push oi } := x1.trans (Ext.more (tk := s1.toks) hk)
      have V2 : EnvRel c C env ρ Z ads1 (σ1.set k₀ (.ldict es)) (s1.heap.push oi) := (V.ext x2).swap hown
      have x2' : Ext Z ads σ s ads1 (σ1.set k₀ (.ldict es)) { s1 with heap := s1.heap.push oi } := ⟨x2.pre, x2.kept, fun b q => x2.own b ((hown b).mp q), x2.has, x2.rest⟩
      have hww : ¬ WW Z ads1 (σ1.set k₀ (.ldict es)) s1.heap.objs.size := fun w => R1.fresh_ww (get_size _) (w.imp id (hown _).mp)
      have hit : ItAt c Z (fun j => if j = k₀ then ep else lk j) ads1 (σ1.set k₀ (.ldict es)) (s1.heap.push oi) s1.heap.objs.size (es.map fun e => .int e.1) := by
        refine .keys (i := 0) hp (List.getElem?_set_self (List.getElem?_eq_some_iff.mp ho).1) ⟨_, Heap.get?_push_size _ rfl, rfl, ?_⟩
        show oi.data = _
        simp only [if_true, oi, hlen]; rfl
      refine for_turns hF G Sa (s := { s1 with heap := s1.heap.push oi }) hA h3 (R2.grow hk) V2 hit hww (R1.fresh_base (get_size _)) fun f s3 ads3 x3 R3 V3 hfl => ?_
      obtain ⟨R4, ho4⟩ := R3.unlock h4
      have y := x3.toY x2' (fresh_iter x1) V3
      have hlast := lk_forL (lk_exs hF W xs) (lk_assignT hF t) _ _ _ _ h3 k₀ _ (List.getElem?_set_self (List.getElem?_eq_some_iff.mp ho).1) rfl
      have hσ4 : σ' = σ3.set k₀ (.dict es) := by
        unfold unlock at h4; rw [show σ3[k₀]? = _ from hlast] at h4; exact (Option.some.inj h4).symm
      have R5 : c.R Z lk s3.heap ads3 σ' := R4.relock fun j es2 hj => by
        have : j ≠ k₀ := fun q => by
          subst q
          rw [hσ4, List.getElem?_set_self (List.getElem?_eq_some_iff.mp hlast).1] at hj; cases hj
        simp [this]
      exact k f s3 ads3 ⟨y.pre, y.kept, y.has, fun b q => y.own b ((ho4 b).mp q), y.rest⟩ R5 (V3.swap ho4) (hfl.swap ho4)
    all_goals exact no_el hl
  all_goals exact no_el hf
end

end Mine
end
section
open PySem PySem.W PyProof.Rows PySem.SeqAt PySem.MeetsSeq
set_option maxRecDepth 100000
namespace Mine

section
variable {c : Cst} {A : Around} {Z : List Addr} {lk : Nat → Nat} {s : Shared} {ads : Ads} {σ σ' : Store} {n : Nat} {C C₀ : SC} {env : Env} {ρ : Loc} {W : Addr → Prop} {h : Heap}

theorem PairsL.put {X : Txt} {i : Int} {d : D} {v : Value} (r : Rep X ads W h d v) {es : List (Int × D)} {kvs : List (Int × Value)} (x : PairsL X ads W h es kvs) : PairsL X ads W h (dictPut i d es) (stored kvs i v) := by
  have hany : ∀ {es : List (Int × D)} {kvs : List (Int × Value)}, PairsL X ads W h es kvs → (es.any fun e => e.1 == i) = kvs.any fun kv => decide (kv.1 = i) := by
    intro es
    induction es with
    | nil => intro kvs x; cases x; rfl
    | cons e es ih =>
      intro kvs x
      obtain ⟨j, d'⟩ := e
      refine el23 (x) fun v' q qe241 _ h2 => ?_; subst qe241
      simp only [List.any_cons, ih h2]
      congr 1
  have hmap : ∀ {es : List (Int × D)} {kvs : List (Int × Value)}, PairsL X ads W h es kvs → PairsL X ads W h (es.map fun e => if e.1 == i then (i, d) else e) (kvs.map fun kv => if kv.1 = i then (kv.1, v) else kv) := by
    intro es
    induction es with
    | nil => intro kvs x; cases x; rfl
    | cons e es ih =>
      intro kvs x
      obtain ⟨j, d'⟩ := e
      refine el23 (x) fun v' q qe242 h1 h2 => ?_; subst qe242
      simp only [List.map_cons]
      by_cases hj : j = i
      · subst hj
        simp only [beq_self_eq_true, if_true]
        exact ⟨v, _, rfl, r, ih h2⟩
      · have hj' : (j == i) = false := by simpa using hj
        simp only [hj', Bool.false_eq_true, if_false, hj]
        exact ⟨v', _, rfl, h1, ih h2⟩
  have happ : ∀ {es : List (Int × D)} {kvs : List (Int × Value)}, PairsL X ads W h es kvs → PairsL X ads W h (es ++ [(i, d)]) (kvs ++ [(i, v)]) := by
    intro es
    induction es with
    | nil => intro kvs x; cases x; exact ⟨v, [], rfl, r, rfl⟩
    | cons e es ih =>
      intro kvs x
      obtain ⟨j, d'⟩ := e
      refine el23 (x) fun v' q qe243 h1 h2 => ?_; subst qe243
      exact ⟨v', _, rfl, h1, ih h2⟩
  unfold dictPut stored
  rw [hany x]
  split
  · exact hmap x
  · exact happ x
theorem PairsL.del {X : Txt} {i : Int} : ∀ {es : List (Int × D)} {kvs : List (Int × Value)}, PairsL X ads W h es kvs → PairsL X ads W h (dictDel i es) (without kvs i)
  | [], _, x => by cases x; rfl
  | (j, d') :: es, _, x => by
    refine el23 (x) fun v' q qe244 h1 h2 => ?_; subst qe244
    have ih := PairsL.del (i := i) h2
    unfold dictDel without at ih ⊢
    rw [List.filter_cons, List.filter_cons]
    by_cases hj : j = i
    · subst hj; simp only [beq_self_eq_true, Bool.not_true, Bool.false_eq_true, if_false, ne_eq, not_true, decide_false]; exact ih
    · have hj' : (j == i) = false := by simpa using hj
      simp only [hj', Bool.not_false, if_true, ne_eq, hj, not_false_iff, decide_true]
      exact ⟨v', _, rfl, h1, ih⟩
theorem dictPut_len (i : Int) (d : D) (es : List (Int × D)) : (dictPut i d es).length ≤ es.length + 1 := by
  unfold dictPut; split <;> simp

theorem put_dict {k : Nat} {p : Addr × Addr} {es es' : List (Int × D)} {kvs' : List (Int × Value)} {h' : Heap} {tk : Nat} (R : c.R Z lk s.heap ads σ) (hp : ads[k]? = some p) (ho : σ[k]? = some (.dict es))
    (hs : Heap.SameBut p.1 s.heap h') (hn : h'.DictOf (intKind c.prog c.w) p.1 kvs') (hr : PairsL c.X ads (WW Z ads σ) s.heap es' kvs') (hl : es'.length ≤ lim) :
    Ext Z ads σ s ads (σ.set k (.dict es')) { s with heap := h', toks := tk } ∧ c.R Z lk h' ads (σ.set k (.dict es')) := by
  have hown := Rel.owned_set (o' := .dict es') hp ho rfl
  have hpp : p.2 = p.1 := (R.objs k p _ hp ho).choose_spec.2.2.2
  have hk : ∀ b x, b ≠ p.1 → s.heap.get? b = some x → h'.get? b = some x := fun b x hb e => (hs.2 b hb).trans e
  have hmine : ∀ b, b = p.1 → Owned ads σ b := fun b hb => ⟨k, p, _, hp, ho, rfl, .inl hb⟩
  have hhas : Heap.Has h' p.1 := let ⟨o, _, _, e, _⟩ := hn; ⟨o, e⟩
  refine ⟨⟨⟨[], by simp⟩, fun b o hb e => SO.of (hk b o (fun q => hb (hmine b q)) e), fun b e => .inl (hown b e), fun b ⟨o, e⟩ => (Classical.em (b = p.1)).elim (fun q => by subst q; exact hhas) (fun q => ⟨o, hk b o q e⟩), ⟨_, _, rfl⟩⟩, ?_⟩
  refine R.put hp ho rfl (fun b x h1 _ e => hk b x h1 e) ⟨hhas, hpp ▸ hhas⟩ ⟨kvs', hn, ?_, hl, hpp⟩
  exact PairsL.mono (Sub.refl _) (fun a o hw _ e => hk a o (fun q => hw (.inr (hmine a q))) e) (fun a _ _ x => x.imp id (hown a)) _ _ hr

theorem setItem_sound {o i d : D} {ov iv v : Value} (R : c.R Z lk s.heap ads σ) (ro : c.P Z ads σ s.heap o ov) (ri : c.P Z ads σ s.heap i iv) (rv : c.P Z ads σ s.heap d v) (hg : Mine.setItem σ o i d = some σ') {Q : Unit → Shared → Prop} {E : Value → Shared → Prop}
    (k : ∀ s', Ext Z ads σ s ads σ' s' → c.R Z lk s'.heap ads σ' → Q () s') : wpAny (model c.prog c.w) A (PySem.setItem ov iv v) Q E s := by
  refine bd1 hg fun k₀ hk₀ hg => int_el ri hg fun i₀ t ht hg => bd1 hg fun es hes hg => bd1 hes fun ox ho hox => if_el hg fun hlen hg => ?_
  subst ht
  rw [asRef_inv hk₀] at ro
  rw [oDict_inv hox] at ho
  rw [← Option.some.inj hg] at k
  refine el12 ro fun p hp hv => el14 (R.objs _ _ _ hp ho) fun kvs hd hr hl hpp => ?_
  subst hv
  have hkk : (intKind c.prog c.w).is i₀ (.int i₀ t) = true := by simp [intKind, Value.isInt]
  exact wpAny_setItem_pairs hkk hd (fun h' hd' hs => (put_dict (tk := s.toks + 1) R hp ho hs hd' (hr.put rv) (by have := dictPut_len i₀ d es; omega)).elim fun x R' => k _ x R') (by rw [hr.length]; unfold lim at hlen; unfold sizeLine; omega)

theorem simG_sub {F : Env'} {x y : E} {o i : Expr} {pos : Pos} (S1 : Sim c n C o (ev F x)) (S2 : Sim c n C i (ev F y)) : SimG c n C (.Subscript o i pos) (assignT F (.sub x y)) := by
  intro A Z lk s ads ρ σ env d v ρ' σ' hf hA R V rv Q E k
  refine bd2 hf fun d1 σ1 h1 hf => ?_
  refine bd2 hf fun d2 σ2 h2 hf => ?_
  refine bd1 hf fun σ3 h3 hf => ?_
  cases hf
  rw [assign_Subscript]
  refine wpAny_bind (wpAny_holding (S1 A Z lk s ads ρ σ env d1 σ1 h1 hA R V _ _ fun ov s1 ads1 x1 R1 r1 => wpAny_bind (wpAny_holding ?_)))
  refine S2 A Z lk s1 ads1 ρ σ1 env d2 σ2 h2 hA R1 (V.ext x1) _ _ fun iv s2 ads2 x2 R2 r2 => wpAny_bind (wpAny_standAt (wpAny_bind (wpAny_holding ?_)))
  refine setItem_sound R2 (x2.rep r1) r2 (x2.rep (x1.rep rv)) h3 fun s3 x3 R3 => wpAny_release ?_
  have x := (x1.trans x2).trans x3
  exact k s3 ads2 (V.toY x) R3 (V.ext x)

theorem two_el {α β : Type} {l : List α} {f : α → α → Option β} {r : β} {H : Prop} (e : two l f = some r) (k : ∀ a b, l = [a, b] → f a b = some r → H) : H := by
  cases l with
  | nil => exact no_el e
  | cons a l =>
    cases l with
    | nil => exact no_el e
    | cons b l =>
      cases l with
      | nil => exact k a b rfl e
      | cons => exact no_el e
theorem simG_tup2 {F : Env'} {t u : T} {te ue : Expr} {x1 : Nat} {pos : Pos} (G1 : SimG c n C te (assignT F t)) (G2 : SimG c n C ue (assignT F u)) (he : ∀ env, assignEach [te, ue] env = [(false, assign te env), (false, assign ue env)]) : SimG c n C (.Tuple [te, ue] x1 pos) (assignT F (.tup [t, u])) := by
  intro A Z lk s ads ρ σ env d v ρ' σ' hf hA R V rv Q E k
  refine bd1 hf fun l hl hf => two_el hf fun a b hab hf => bd2 hf fun ρ1 σ1 h1 hf => ?_
  rw [asTu_inv hl, hab] at rv
  refine el35 rv fun ad vs m hv hp hw _ hr => el23 hr fun va vs' hvs ra hr2 => el23 hr2 fun vb vs'' hvs' rb hr3 => ?_
  subst hv; subst hvs; subst hvs'; cases hr3
  refine wpAny_assign_Tuple hA.handled ⟨_, hp, rfl, m, rfl⟩ (by rw [he]; rfl) (by rw [he]; rfl) fun h' hx => ?_
  rw [he]
  have hk : ∀ b o, s.heap.get? b = some o → h'.get? b = some o := fun b o e => hx b o (fun q => by rw [q, get_size] at e; cases e) e
  have x0 : Ext Z ads σ s ads σ { s with heap := h' } := Ext.more (tk := s.toks) hk
  have V0 := V.ext x0
  exact wpAny_bind (wpAny_holding (G1 A Z lk { s with heap := h' } ads ρ σ env a va ρ1 σ1 h1 hA (R.grow hk) V0 (x0.rep ra) _ _ fun s2 ads2 x2 R2 V2 =>
    wpAny_bind (wpAny_holding (G2 A Z lk s2 ads2 ρ1 σ1 env b vb ρ' σ' hf hA R2 V2 (x2.rep V0.fr (x0.rep rb)) _ _ fun s3 ads3 x3 R3 V3 => wpAny_pure (k s3 ads3 (((V.toY x0).trans x2).trans x3) R3 V3)))))

theorem inplace_add (A : Around) (Z lk s ads σ i j iv jv r) (R : c.R Z lk s.heap ads σ) (h : binOp .Add (.int i) (.int j) = some r) (ri : c.P Z ads σ s.heap (.int i) iv) (rj : c.P Z ads σ s.heap (.int j) jv) : Yields c A (inplaceOp .Add iv jv) Z lk s ads σ r σ := by
  intro Q E k
  cases h
  obtain ⟨t, rfl⟩ := ri
  obtain ⟨u, rfl⟩ := rj
  exact PySem.AutoIntOps.iadd_0 (k _ _ ads (Ext.tok _) R ⟨_, rfl⟩)
theorem inplace_sub (A : Around) (Z lk s ads σ i j iv jv r) (R : c.R Z lk s.heap ads σ) (h : binOp .Sub (.int i) (.int j) = some r) (ri : c.P Z ads σ s.heap (.int i) iv) (rj : c.P Z ads σ s.heap (.int j) jv) : Yields c A (inplaceOp .Sub iv jv) Z lk s ads σ r σ := by
  intro Q E k
  cases h
  obtain ⟨t, rfl⟩ := ri
  obtain ⟨u, rfl⟩ := rj
  exact PySem.AutoIntOps.isub_0 (k _ _ ads (Ext.tok _) R ⟨_, rfl⟩)
end

end Mine
end
section
open PySem PySem.W PyProof.Rows PySem.SeqAt PySem.MeetsSeq
set_option maxRecDepth 100000
namespace Mine

section
variable {c : Cst} {A : Around} {Z : List Addr} {lk : Nat → Nat} {s : Shared} {ads : Ads} {σ σ' : Store} {n : Nat} {C C₀ : SC} {env : Env} {ρ : Loc} {W : Addr → Prop} {h : Heap} {scope : Scope}

theorem simS_ifNone {F : Env'} {W : Nat} {i : Nat} {nm : Str} {x : E} {e : Expr} {xs : List S} {as : List Stmt} {p1 p2 p3 p4 pos : Pos} {kn : Nat} (B0 : Base c) (hs : SlotOk C i nm) (S1 : Sim c n C e (ev F x)) (Sa : SimSS c n C as (exs F W xs)) :
    SimS c n C (.If (.Compare (.NamedExpr (.Name nm p1) e p2) [.Is] [.Constant .none kn p3] p4) as [] pos) (ex F W (.ifNone i x xs)) := by
  intro A Z lk s ads ρ σ env fl ρ' σ' hf hA R V Q E k
  refine bd2 hf fun d1 σ1 h1 hf => ?_
  refine bd1 hf fun t h2 hf => ?_
  refine wpAny_If (wpAny_isTrue_Compare1 (wpAny_NamedExpr (S1 A Z lk s ads ρ σ env d1 σ1 h1 hA R V _ _ fun v s1 ads1 x1 R1 r1 => ?_)) rfl)
  have V1 := V.ext x1
  refine wpAny_assign_Name (store_name R1 V1 hs r1 fun s2 x2 R2 V2 => ?_)
  refine wpAny_pure ?_
  have r2 : c.P Z ads1 σ1 s2.heap d1 v := x2.rep V1.fr r1
  refine cmp_sound (n := n) B0 hA R2 r2 (show c.P Z ads1 σ1 s2.heap .none .none from rfl) h2 _ _ fun v3 s3 ads3 x3 R3 r3 => ?_
  cases r3
  refine wpAny_truthy_bool ?_
  have V3 := V2.ext x3
  have y3 := ((V.toY x1).trans x2).trans (V2.toY x3)
  cases t with
  | true =>
    rw [if_pos rfl]
    exact Sa A Z lk s3 ads3 _ _ env fl ρ' σ' hf hA R3 V3 _ _ fun f s4 ads4 x4 R4 V4 hfl => k f s4 ads4 (y3.trans x4) R4 V4 hfl
  | false =>
    rw [if_neg Bool.false_ne_true]
    cases hf
    exact wpAny_execs_nil (k .next s3 ads3 y3 R3 V3 rfl)

theorem simS_assign_comp {F : Env'} (hF : LkF F.F) {W : Nat} {i : Nat} {nm : Str} {np : Pos} {eltx : E} {elt : Expr} {cs : List Comprehension} {cpos pos : Pos} {m : Bool} {t : Nat} {x : Str} {px : Pos} {it : It} {iter : Expr} {ifs : List E} {cifs : List Expr} {gs : List G} {C₁ C₂ : SC} (hs : SlotOk C i nm) (K : CompOk C scope C₀)
    (hI : SimI c n C iter (evi F it)) (hf : ∀ env v, foldedSetIterable iter env v = pure v) (hb : BindOk (ownNames scope) C₀ C₁ t x) (hnot : ∀ y, C₀.slots.lookup t ≠ some y) (hC : SimC c n C₁ cifs (evc F ifs)) (hG : GOk c n F (ownNames scope) C₁ gs cs C₂) (hE : Sim c n C₂ elt (ev F eltx))
    (hna : firstAsync (⟨.Name x px, iter, cifs, 0⟩ :: cs) = false)
    (hsw : ∀ env : Env, env.scope.names = C.names → env.scope.kind = .function → swapsWith (.ListComp elt (⟨.Name x px, iter, cifs, 0⟩ :: cs) scope cpos) (some (.Name nm np)) pos.line env = pure true) :
    SimS c n C (.Assign [.Name nm np] (.ListComp elt (⟨.Name x px, iter, cifs, 0⟩ :: cs) scope cpos) pos) (ex F W (.assign (.name i) (.comp m eltx (.mk [t] false it ifs :: gs)))) := by
  intro A Z lk s ads ρ σ env fl ρ' σ' hev hA R V Q E k
  refine bd2 hev fun d σ1 hev2 hfin => bd2 hfin fun ρ2 σ2 h5 hfin => ?_
  clear hev
  cases h5; cases hfin
  refine bd2 hev2 fun l σ3 h1 hev => bd1 hev fun d1 h2 hev => if_el h2 fun hl h2 => ?_
  cases h2
  have he : exec (.Assign [.Name nm np] (.ListComp elt (⟨.Name x px, iter, cifs, 0⟩ :: cs) scope cpos) pos) env = (do
      standAt pos
      if ← swapsWith (.ListComp elt (⟨.Name x px, iter, cifs, 0⟩ :: cs) scope cpos) (some (.Name nm np)) pos.line env then do
        evalThenUse (.ListComp elt (⟨.Name x px, iter, cifs, 0⟩ :: cs) scope cpos) env fun v => assignAll v ((assignEach [.Name nm np] env).map (·.2))
        pure .next
      else do
        let v ← eval (.ListComp elt (⟨.Name x px, iter, cifs, 0⟩ :: cs) scope cpos) env
        assignStores env v (← swappedStores [.Name nm np] (.ListComp elt (⟨.Name x px, iter, cifs, 0⟩ :: cs) scope cpos) env) ((assignEach [.Name nm np] env).map (·.2))) := rfl
  rw [he, hsw env V.names V.kind]
  refine wpAny_bind (wpAny_standAt (wpAny_bind (wpAny_pure ?_)))
  rw [if_pos rfl]
  refine wpAny_bind ?_
  have he2 : evalThenUse (.ListComp elt (⟨.Name x px, iter, cifs, 0⟩ :: cs) scope cpos) env (fun v => assignAll v ((assignEach [.Name nm np] env).map (·.2))) = (do
      let _ ← comprehension (.ListComp elt (⟨.Name x px, iter, cifs, 0⟩ :: cs) scope cpos) scope env (firstIterPos (⟨.Name x px, iter, cifs, 0⟩ :: cs) cpos) (newList []) (firstAsync (⟨.Name x px, iter, cifs, 0⟩ :: cs)) (firstIter (⟨.Name x px, iter, cifs, 0⟩ :: cs) env) (some fun v => assignAll v ((assignEach [.Name nm np] env).map (·.2)))) := rfl
  rw [he2, hna]
  refine wpAny_bind ?_
  refine sim_compG (d := d) (m := m) hF K hI hf hb hnot hC hG hE hA R V h1 hl fun acc s' ads' L h'' hacc hL hn hne x1 R1 a1 hb1 hz1 ho hLb hLz => ?_
  refine el14 (comp_done' (s := s') R1 a1 hz1 hb1 hev hacc x1) fun ads2 x3 R3 r3 hoo => ?_
  show wpAny _ A (assign (.Name nm np) env (.ref acc)) _ _ _
  refine wpAny_assign_Name (store_name R3 (V.ext x3) hs r3 fun s4 x4 R4 V4 => ?_)
  obtain ⟨mm, hmm⟩ := hn
  have V3 := V.ext x3
  have hLfr : ¬ FrA env L := fun q => by obtain ⟨o, e⟩ := V.frHas q; rw [hL] at e; cases e
  have hacL : ¬ Owned ads2 σ1 L := by
    intro q
    rcases hoo L q with z | z
    · exact ho z
    · exact hne z.symm
  refine el32 (hmm) fun oL esL epL hoL rL => ?_
  refine el12 (x4.kept L _ hacL hLfr hoL) fun oL' hoL4 qL => ?_
  refine ⟨mm, ⟨oL', esL, epL, hoL4, qL.1.trans rL.1, rL.2⟩, fun h' hsb => ?_⟩
  have hk : ∀ b o, b ≠ L → s4.heap.get? b = some o → h'.get? b = some o := fun b o q e => (hsb.2 b q).trans e
  have hFzL : ∀ o, s4.heap.get? L = some o → ¬ Fz o := ns_notFz (m := mm) ⟨oL', esL, epL, hoL4, qL.1.trans rL.1, rL.2⟩
  have R5 : c.R Z lk h' ads2 σ1 := R4.quiet (fun b => b = L) (fun b o q e => hk b o q e) (fun b q => by subst q; exact ⟨hacL, hLb, hFzL, .inl fun z => hLz (List.mem_cons_of_mem _ z)⟩)
  have V5 : EnvRel c C env (ρ.set i (some d)) Z ads2 σ1 h' := by
    refine V4.mono (Sub.refl _) (fun a o _ hf e => hk a o (fun q => by subst q; exact hFzL o e hf) e) (fun _ _ _ w => w) (fun a o hf e => hk a o (fun q => ?_) e) (fun _ h _ => h) (fun a ha o e hnf => ⟨o, hk a o (fun q => by subst q; obtain ⟨o2, e2⟩ := V.frHas' ha; rw [hL] at e2; cases e2) e, hnf⟩)
    subst q
    rcases hf with hf | ⟨y, hf⟩
    · exact hLfr hf
    · obtain ⟨_, _, ov, o2, h2, hd⟩ := V.cown y a hf
      rw [hL] at h2; cases h2
  refine wpAny_pure (wpAny_pure ?_)
  have y4 := (V.toY x3).trans x4
  refine k .next _ ads2 ⟨y4.pre, fun b o hn hy e => SO.thru (y4.kept b o hn hy e) fun o' => hk b o' (fun q => by subst q; rw [hL] at e; cases e), fun b e => (y4.has b e).kept fun o => hk b o (fun q => by subst q; obtain ⟨o, e⟩ := e; rw [hL] at e; cases e), y4.own, let ⟨_, tk, e⟩ := y4.rest; ⟨h', tk, by rw [e]⟩⟩ R5 V5 rfl
end

end Mine
end
section
open PySem PySem.W PyProof.Rows PySem.SeqAt PySem.MeetsSeq
set_option maxRecDepth 100000
namespace Mine
namespace NX
section
variable {prog : Program} {w : World} {A : Around} {E : Value → Shared → Prop} {s : Shared}

theorem check_next {it l : Addr} {i : Nat} {Q : Unit → Shared → Prop} (hit : s.heap.IsListIter it l i) (h : Q () s) : wpAny (model prog w) A (checkBoundCall "list_iterator.__next__" ⟨[.ref it], []⟩) Q E s := by
  exact wpAny_of_eq (a := ()) (by kernel_rfl) h

theorem quiet_next {as : Args} : (Code.builtin "list_iterator.__next__" as).quiet = true := Code.quiet_builtin _ (by decide +kernel)

theorem call_next {mw it l : Addr} {i : Nat} {Q : Value → Shared → Prop} (hm : s.heap.get? mw = some { cls := .type "method-wrapper", data := .fields #[.builtin "list_iterator.__next__", .ref it] }) (hit : s.heap.IsListIter it l i)
    (tree : wpAny (model prog w) (A.in1) (Builtin.«list_iterator.__next__» ⟨[.ref it], []⟩) (fun fin s' => match fin with | .done (.ret v) => Q v s' | _ => False) E s) : wpAny (model prog w) A (call (.ref mw) []) Q E s := by
  refine wpAny_call (codeAny_of_tree ?_)
  show wpAny _ A.in1 (callAny (.ref mw) ⟨[], []⟩) _ _ s
  dsimp only [callAny]
  refine wpAny_bind (wpAny_load hm ?_)
  dsimp only [show (Value.type "method-wrapper" == Value.type "method" || Value.type "method-wrapper" == Value.type "builtin_function_or_method" || Value.type "method-wrapper" == Value.type "method-wrapper") = true by decide, if_true]
  refine KFB.if_so (by decide) ?_
  refine wpAny_bind (check_next hit ?_)
  refine wpAny_bind (wpAny_pure (wpAny_pure ⟨quiet_next, codeAny_builtin entry_listiter_next ?_⟩))
  refine wpAny_mono tree (fun fin s' z => ?_) fun _ _ z => z
  rcases fin with (_ | _ | _ | _) | _ <;> first | exact z | exact z.elim

theorem tree_item {it l : Addr} {i : Nat} {items : Array Value} {x : Value} {Q : Fin → Shared → Prop} (hit : s.heap.IsListIter it l i) (hl : s.heap.IsList l items) (hx : items[i]? = some x)
    (hQ : ∀ h', h'.IsListIter it l (i + 1) → Heap.SameBut it s.heap h' → Q (.done (.ret x)) { s with heap := h' }) : wpAny (model prog w) A (Builtin.«list_iterator.__next__» ⟨[.ref it], []⟩) Q E s := by
  (first | refine el04 (id hit) fun o ho hc hd => ?_ | refine el13 (id hit) fun o ho hc hd => ?_ | refine el22 (id hit) fun o ho hc hd => ?_ | refine el31 (id hit) fun o ho hc hd => ?_)
  obtain ⟨ol, hol, _, nl, hdl⟩ := hl
  show wpAny _ _ (field (.ref it) 0 >>= _) _ _ s
  refine wpAny_bind (wpAny_field ho hd (x := .ref l) rfl ?_)
  show wpAny _ _ (if (Value.ref l == Value.none) = true then _ else _) _ _ s
  rw [if_neg (show ¬ ((Value.ref l == Value.none) = true) from Bool.false_ne_true)]
  show wpAny _ _ (field (.ref it) 1 >>= _) _ _ s
  refine wpAny_bind (wpAny_field ho hd (x := .int i 0) rfl ?_)
  show wpAny _ _ (seqItems? (.ref l) >>= _) _ _ s
  refine wpAny_bind (wpAny_seqItems hol hdl ?_)
  simp only [Int.toNat_natCast, hx]
  refine wpAny_bind (wpAny_setField ho hd (by simp) (wpAny_pure (hQ _ ?_ (Heap.SameBut.update ..))))
  exact ⟨_, Heap.get?_update_self _ ho (Obj.isFreed_of_fields (Obj.data_mapFields hd _)), (Obj.cls_mapFields ..).trans hc, by
    rw [Obj.data_mapFields hd]; simp [rawInt]⟩

theorem tree_end {it l : Addr} {i : Nat} {items : Array Value} {Q : Fin → Shared → Prop} (hh : A.handled = none) (hit : s.heap.IsListIter it l i) (hl : s.heap.IsList l items) (hx : items[i]? = none)
    (hQ : ∀ h' e t, s.heap.get? e = none → Heap.ExtBut it s.heap h' → (∃ o, h'.get? it = some o) → h'.get? e = some { cls := .type "StopIteration", data := .fields #[.ref t, .none, .none, .none, .bool false, .none] } → E (.ref e) { s with heap := h' }) : wpAny (model prog w) A (Builtin.«list_iterator.__next__» ⟨[.ref it], []⟩) Q E s := by
  (first | refine el04 (id hit) fun o ho hc hd => ?_ | refine el13 (id hit) fun o ho hc hd => ?_ | refine el22 (id hit) fun o ho hc hd => ?_ | refine el31 (id hit) fun o ho hc hd => ?_)
  obtain ⟨ol, hol, _, nl, hdl⟩ := hl
  show wpAny _ _ (field (.ref it) 0 >>= _) _ _ s
  refine wpAny_bind (wpAny_field ho hd (x := .ref l) rfl ?_)
  show wpAny _ _ (if (Value.ref l == Value.none) = true then _ else _) _ _ s
  rw [if_neg (show ¬ ((Value.ref l == Value.none) = true) from Bool.false_ne_true)]
  show wpAny _ _ (field (.ref it) 1 >>= _) _ _ s
  refine wpAny_bind (wpAny_field ho hd (x := .int i 0) rfl ?_)
  show wpAny _ _ (seqItems? (.ref l) >>= _) _ _ s
  refine wpAny_bind (wpAny_seqItems hol hdl ?_)
  simp only [Int.toNat_natCast, hx]
  refine wpAny_bind (wpAny_rule (wpAny_bind (wpAny_setField ho hd (by simp) ?_)))
  show wpAny _ _ (newExc (.type "StopIteration") [] >>= _) _ _ _
  refine wpAny_bind ?_
  dsimp only [newExc, newTuple]
  refine wpAny_bind (wpAny_newObj_type ?_ (by size_fits))
  refine wpAny_bind (m := firstArgMember _ _) (wpAny_of_eq (a := Value.none) (by first | rfl | (dsimp only [firstArgMember]; rfl)) ?_)
  refine wpAny_newObj_type ?_ (by size_fits)
  dsimp only [raiseNew]
  refine wpAny_bind (wpAny_handled ?_)
  rw [hh]
  refine wpAny_bind (wpAny_pure (wpAny_throw ?_))
  refine hQ _ _ _ ?_ (((Heap.SameBut.update ..).extBut.push _).push _) ⟨_, Heap.get?_push_of_some _ (Heap.get?_push_of_some _ (Heap.get?_update_self _ ho (Obj.isFreed_of_fields (Obj.data_mapFields hd _))))⟩ (Heap.get?_push_size _ rfl)
  refine Heap.get?_none_of_le ?_
  simp
end
end NX
end Mine
end
section
open PySem PySem.W PyProof.Rows PySem.SeqAt PySem.MeetsSeq
set_option maxRecDepth 100000
namespace Mine

noncomputable def SimH (c : Cst) (C : SC) (e : Expr) (f : Loc → Store → Option (D × Store)) : Prop :=
  ∀ (A : Around) (Z : List Addr) (lk : Nat → Nat) (s : Shared) (ads : Ads) (ρ : Loc) (σ : Store) (env : Env) (d : D) (σ' : Store), f ρ σ = some (d, σ') → A.units + 1000 ≤ 9900 → c.R Z lk s.heap ads σ → EnvRel c C env ρ Z ads σ s.heap →
    Yields c A (eval e env) Z lk s ads σ d σ'

section
variable {c : Cst} {A : Around} {Z : List Addr} {lk : Nat → Nat} {s : Shared} {ads : Ads} {σ σ' : Store} {n : Nat} {C C₀ : SC} {env : Env} {ρ : Loc} {W : Addr → Prop} {h : Heap}

theorem simH_var {F : Env'} {i : Nat} {x : Str} {pos : Pos} (hs : C.slots.lookup i = some x) (hk : C.names.lookup x = some .local ∨ C.names.lookup x = some .cell) (hd : (x == ("__debug__" : Str)) = false) :
    SimH c C (.Name x pos) (ev F (.var i)) :=
  fun A Z lk s ads ρ σ env d σ' hf _ R V => bd1 hf fun d' h1 e => Yields.cast e fun Q E k => wpAny_Name (cell_or_local V hs hk (getV_inv h1) rfl fun v r => k v s ads Ext.refl R r) hd

theorem simH_pop {F : Env'} {x : E} {o : Expr} {apos pos : Pos} (B0 : Base c) (S : SimH c C o (ev F x))
    (ho : ∀ name env whole, attributeBase o name env whole = whole) (hline : (apos.endLine == pos.line) = true) : SimH c C (.Call (.Attribute o "pop" apos) [] [] pos) (ev F (.bmeth x .pop [])) := by
  intro A Z lk s ads ρ σ env d σ' hf hA R V Q E k
  refine bd2 hf fun d1 σ1 h1 h2 => cond_el h2 fun hr h2 => bd2 h2 fun l σ2 h3 h4 => ?_
  cases h3
  exact wpAny_Call_method_late (ho _ _ _) (few_of (es := []) rfl (by decide)) hline rfl (S A Z lk s ads ρ σ env d1 σ1 h1 hA R V _ _ fun ov s1 ads1 x1 R1 r1 =>
    ⟨bmType .pop, bmId .pop, bm_plain .pop, bm_slot .pop, bm_typeOf .pop, (recv_type R1 r1 hr).1, (recv_type R1 r1 hr).2, Calls.callWith_builtin (noStars_any (es := []) rfl) (evalArgs_plainL (es := []) rfl (wpAny_pure (bmeth_sound B0 hA R1 r1 (show c.PL Z ads1 _ s1.heap [] [] from rfl) h4 _ _ fun v s3 ads3 x3 R3 r3 => k v s3 ads3 (x1.trans x3) R3 r3)))⟩)

theorem del_sound {k₀ : Nat} {i₀ : Int} {es : List (Int × D)} {ov iv : Value} (R : c.R Z lk s.heap ads σ) (ro : c.P Z ads σ s.heap (.ref k₀) ov) (ri : c.P Z ads σ s.heap (.int i₀) iv) (ho : σ[k₀]? = some (.dict es)) (hh : dictHas i₀ es = true) {Q : Unit → Shared → Prop} {E : Value → Shared → Prop}
    (k : ∀ s', Ext Z ads σ s ads (σ.set k₀ (.dict (dictDel i₀ es))) s' → c.R Z lk s'.heap ads (σ.set k₀ (.dict (dictDel i₀ es))) → Q () s') : wpAny (model c.prog c.w) A (PySem.delItem ov iv) Q E s := by
  obtain ⟨p, hp, rfl⟩ := ro
  obtain ⟨t, rfl⟩ := ri
  obtain ⟨kvs, hd, hr, hl, hpp⟩ := R.objs _ _ _ hp ho
  have hkk : (intKind c.prog c.w).is i₀ (.int i₀ t) = true := by simp [intKind, Value.isInt]
  have hsz : kvs.length ≤ sizeLine := by rw [hr.length]; unfold lim at hl; unfold sizeLine; omega
  have hv : (valueAt kvs i₀).isSome = true := (has_any hr).trans hh
  unfold PySem.delItem
  try with_reducible refine wpAny_holding ?_
  refine wpAny_bind (wpAny_sequenceKey hd.typeIs (by decide) ?_)
  refine wpAny_bind (wpAny_callSpecial?_slot (name := Str.ofString "__delitem__") hd.typeIs PySem.F.slot_dict_delitem
    (call_meetsIn PySem.F.slot_dict_delitem hd.typeIs PySem.F.entry_dict_delitem (PySem.F.args_dict_delitem_2 _ _) (meets_dict_delitem_pairs (intKind c.prog c.w) p.1 hkk) ⟨kvs, hd, hsz, hv, fun h' hmm hs => ?_⟩))
  obtain ⟨x, R'⟩ := put_dict (tk := s.toks + 1) R hp ho hs hmm hr.del (by unfold dictDel; have := List.length_filter_le (fun e : Int × D => !(e.1 == i₀)) es; omega)
  exact wpAny_pure (k _ x R')

theorem handler_sound {F : Env'} {W : Nat} (B0 : Base c) {x y z : E} {de pe qe : Expr} {p1 p2 p4 p5 : Pos} (Sd : SimH c C de (ev F x)) (Sp : SimH c C pe (ev F y)) (Sq : SimH c C (.Call qe [] [] p4) (ev F z))
    {fl : Fl} {ρ' : Loc} (hf : exs F W [.del x y, .expr z] ρ σ = some (fl, ρ', σ')) (hA : A.units + 1000 ≤ 9900) (R : c.R Z lk s.heap ads σ) (V : EnvRel c C env ρ Z ads σ s.heap) :
    YieldsS c C A (execs [.Delete [.Subscript de pe p1] p2, .Expr (.Call qe [] [] p4) p5] env) Z lk s ads σ env fl ρ' σ' := by
  intro Q E k
  refine bd3 hf fun f1 ρ1 σ1 he hf => bd2 he fun d1 σ2 h1 he => bd2 he fun d2 σ3 h2 he => bd1 he fun k₀ hk₀ he => bd1 he fun i₀ hi₀ he => bd1 he fun es hes he => bd1 hes fun ox ho hox => if_el he fun hh he => sm3 he fun q1 q2 q3 => ?_
  subst q1; subst q2; subst q3
  rw [show d1 = _ from asRef_inv hk₀] at h1
  rw [show d2 = _ from asI_inv hi₀] at h2
  rw [oDict_inv hox] at ho
  refine bd3 hf fun f2 ρ2 σ4 he hf => bd2 he fun d3 σ5 h3 he => sm3 he fun q1 q2 q3 => ?_
  subst q1; subst q2; subst q3
  cases hf
  refine wpAny_execs_cons (wpAny_Delete (wpAny_deleteEach_cons (wpAny_delete_Subscript ?_)))
  refine Sd A Z lk s ads ρ σ env _ σ2 h1 hA R V _ _ fun ov s1 ads1 x1 R1 r1 => ?_
  refine Sp A Z lk s1 ads1 ρ σ2 env _ σ3 h2 hA R1 (V.ext x1) _ _ fun iv s2 ads2 x2 R2 r2 => ?_
  refine del_sound R2 (x2.rep r1) r2 ho hh fun s3 x3 R3 => ?_
  refine wpAny_deleteEach_nil ?_
  have x := (x1.trans x2).trans x3
  have V3 := V.ext x
  exact wpAny_execs_cons (wpAny_Expr_any (Sq A Z lk s3 ads2 ρ _ env d3 _ h3 hA R3 V3 _ _ fun v s4 ads4 x4 R4 r4 => wpAny_execs_nil (k .next s4 ads4 (V.toY (x.trans x4)) R4 (V3.ext x4) rfl)) (by unfold interactive; rw [V.kind]; rfl) rfl)
end
end Mine
end
section
open PySem PySem.W PyProof.Rows PySem.SeqAt PySem.MeetsSeq
set_option maxRecDepth 100000
namespace Mine

structure Noted (fs : List Addr) (e : Addr) (cls : Value) (h h' : Heap) : Prop where
  kept : ∀ b o, b ≠ e → h.get? b = some o → ∃ o', h'.get? b = some o' ∧ o'.data = o.data ∧ (b ∉ fs → o' = o)
  exc : ∃ oe vs tb otb tvs, h'.get? e = some oe ∧ oe.cls = cls ∧ oe.data = .fields vs ∧ vs[1]? = some (.ref tb) ∧ h.get? tb = none ∧ tb ≠ e ∧ h'.get? tb = some otb ∧ otb.data = .fields tvs ∧ 3 < tvs.size

section
variable {M : Model} {A : Around} {E : Value → Shared → Prop} {s : Shared} {base : Heap} {env : Env} {outer : List Env}

theorem Noted.flight {fs : List Addr} {e : Addr} {cls : Value} {h : Heap} {Q : Unit → Shared → Prop} (x : Noted fs e cls h s.heap) (k : ∀ h', Noted fs e cls h h' → Q () { s with heap := h' }) : wpAny M A (setFlight (.ref e) none) Q E s := by
  obtain ⟨oe, vs, tb, otb, tvs, h1, h2, h3, h4, h5, h6, h7, h8, h9⟩ := x.exc
  refine wpAny_setFlight_none h1 h3 h4 h7 h8 h9 (k _ ?_)
  have hd := Obj.data_mapFields h8 (·.setIfInBounds 3 Value.none)
  refine ⟨fun b o hb ho => ?_, oe, vs, tb, _, _, (Heap.get?_update_other _ _ h6).trans h1, h2, h3, h4, h5, h6, Heap.get?_update_self _ h7 (Obj.isFreed_of_fields hd), hd, by simpa using h9⟩
  (first | refine el03 (x.kept b o hb ho) fun o' e' r => ?_ | refine el12 (x.kept b o hb ho) fun o' e' r => ?_ | refine el21 (x.kept b o hb ho) fun o' e' r => ?_)
  exact ⟨o', (Heap.get?_update_other _ _ (fun q => by rw [← q, h5] at ho; cases ho)).trans e', r⟩

theorem note_sound {L e : Addr} {oe : Obj} {vs : Array Value} {Q : Unit → Shared → Prop}
    (hfr : A.frames = some (env :: outer)) (hl : s.heap.FunFrames base (env :: outer)) (hf : env.frame = some L)
    (he : s.heap.get? e = some oe) (hd : oe.data = .fields vs) (h1 : vs[1]? = some .none)
    (k : ∀ h', Noted ((env :: outer).filterMap (·.frame)) e oe.cls s.heap h' → Q () { s with heap := h' }) : wpAny M A (noteFrame (.ref e) env) Q E s := by
  have hsz : 1 < vs.size := (Array.getElem?_eq_some_iff.mp h1).1
  have hene : e ∉ (env :: outer).filterMap (·.frame) := fun hm => by
    obtain ⟨_, o, ho, hnf⟩ := hl.mem hm
    rw [he] at ho; injection ho with ho; subst ho; exact hnf vs hd
  unfold noteFrame
  rw [hf]
  refine wpAny_bind (wpAny_field he hd h1 ?_)
  rw [if_neg (show ¬ ((Value.none != Value.none) = true) by decide)]
  refine wpAny_bind (wpAny_frameOf_fun hfr hl hf fun h₁ hs₁ => ?_)
  refine wpAny_bind (wpAny_entryPlaceOf fun pl hpl => ?_)
  unfold EntryCells.newEntry newFields
  refine wpAny_bind (wpAny_newObj_type ?_ (hpl.sizeOk5 _ _ _ _ _))
  have he₁ : h₁.get? e = some oe := (hs₁.2.1 e hene).trans he
  have he₂ := Heap.get?_push_of_some (h := h₁) { cls := .type "traceback", dict := none, data := .fields ([Value.none, .ref L, .none, rawInt L, .none] ++ (if pl.isEmpty then List.replicate 6 Value.none else pl)).toArray } he₁
  refine wpAny_setField he₂ hd hsz (k _ ?_)
  have hTe : h₁.objs.size ≠ e := Nat.ne_of_gt (Heap.lt_size he₁)
  have hd₃ := Obj.data_mapFields hd (·.setIfInBounds 1 (Value.ref h₁.objs.size))
  have he₃ := Heap.get?_update_self (Obj.mapFields (·.setIfInBounds 1 (Value.ref h₁.objs.size))) he₂ (Obj.isFreed_of_fields hd₃)
  have hT₃ := (Heap.get?_update_other (h₁.push { cls := .type "traceback", dict := none, data := .fields ([Value.none, .ref L, .none, rawInt L, .none] ++ (if pl.isEmpty then List.replicate 6 Value.none else pl)).toArray })
    (Obj.mapFields (·.setIfInBounds 1 (Value.ref h₁.objs.size))) (Ne.symm hTe)).trans (Heap.get?_push_size h₁ rfl)
  refine ⟨fun b o hb ho => ?_, _, _, h₁.objs.size, _, _, he₃, Obj.cls_mapFields .., hd₃, by simp [hsz], ?_, hTe, hT₃, rfl, by simp only [List.size_toArray, List.length_append, List.length_cons, List.length_nil] <;> omega⟩
  · obtain ⟨sl, q⟩ := hs₁.2.2 b o ho
    refine ⟨_, (Heap.get?_update_other _ _ (fun z => hb z.symm)).trans (Heap.get?_push_of_some _ q), rfl, fun hn => ?_⟩
    have := hs₁.2.1 b hn
    rw [q, ho] at this
    exact Option.some.inj this
  · refine Heap.get?_none_of_le ?_
    rw [hs₁.1]; exact Nat.le_refl _
end

theorem stop_exc : isSubtype (.type "StopIteration") (.type "BaseException") = pure true := by rw [isSubtype_type]; kernel_rfl
theorem stop_tuple : isSubtype (.type ((Manifest.find? "StopIteration").elim "type" fun x => x.metatype)) (.type "tuple") = pure false := by rw [isSubtype_type]; kernel_rfl
theorem stop_stop : isSubtype (.type "StopIteration") (.type "StopIteration") = pure true := by rw [isSubtype_type]; kernel_rfl
theorem boot_stop : bootBuiltins "StopIteration" = some (.type "StopIteration") := by kernel_rfl
end Mine
end
section
open PySem PySem.W PyProof.Rows PySem.SeqAt PySem.MeetsSeq
set_option maxRecDepth 100000
namespace Mine

theorem callWith_mw {M : Model} {A : Around} {E : Value → Shared → Prop} {s : Shared} {pos : Pos} {mw it : Addr} {Q : Value → Shared → Prop} (hm : s.heap.get? mw = some { cls := .type "method-wrapper", data := .fields #[.builtin "list_iterator.__next__", .ref it] })
    (h : wpAny M A (call (.ref mw) []) Q E s) : wpAny M A (callWith pos (.ref mw) [] [] []) Q E s := by
  unfold callWith
  refine wpAny_bind (wpAny_holding (evalArgs_plainL (es := []) (env := default) (pos := pos) rfl ?_))
  show wpAny _ _ (spliced []) _ _ _
  refine wpAny_pure (wpAny_bind (wpAny_standAt ?_))
  dsimp only [List.any_nil, Bool.or_false]
  refine wpAny_bind (m := keeperOf (.ref mw)) ?_
  unfold keeperOf
  refine wpAny_bind (wpAny_load hm ?_)
  dsimp only [show (Value.type "method-wrapper" != Value.type "method") = true by decide, show (Value.type "method-wrapper" == Value.type "builtin_function_or_method" || Value.type "method-wrapper" == Value.type "method-wrapper") = true by decide, if_true]
  refine wpAny_pure ?_
  exact wpAny_bind (wpAny_mono h (fun r s₂ hr => wpAny_bind (wpAny_holding (wpAny_point (wpAny_pure hr)))) fun _ _ x => x)

section
variable {c : Cst} {A : Around} {Z : List Addr} {lk : Nat → Nat} {s : Shared} {ads : Ads} {σ σ' : Store} {n : Nat} {C C₀ : SC} {env : Env} {ρ : Loc} {W : Addr → Prop} {h : Heap}

theorem noted_state {e : Addr} {j l m : Nat} {p : Addr × Addr} {h2 h3 : Heap} {tk : Nat} (R : c.R Z lk s.heap ads σ) (V : EnvRel c C env ρ Z ads σ s.heap) (hp : ads[j]? = some p) (hj : σ[j]? = some (.iter l m)) (hx : Heap.ExtBut p.1 s.heap h2) (hi : Heap.Has h2 p.1)
    (he : s.heap.get? e = none) {oe : Obj} (hoe : h2.get? e = some oe) (hfz : ¬ Fz oe) {cls : Value} (N : Noted (C.fr.filterMap (·.frame)) e cls h2 h3) :
    Ext Z ads σ s ads (σ.set j .dead) { s with heap := h3, toks := tk } ∧ c.R Z lk h3 ads (σ.set j .dead) ∧ EnvRel c C env ρ Z ads (σ.set j .dead) h3 := by
  have hown := Rel.owned_set (o' := .dead) hp hj rfl
  refine el14 (R.objs _ _ _ hp hj) fun q hq hit hpp _ => ?_
  have hmine : ∀ b, b = p.1 → Owned ads σ b := fun b hb => ⟨j, p, _, hp, hj, rfl, .inl hb⟩
  have hne : ∀ b o, s.heap.get? b = some o → b ≠ e := fun b o q z => by rw [z, he] at q; cases q
  have R2 : c.R Z lk h2 ads (σ.set j .dead) := R.put hp hj rfl (fun b x h1 _ q => hx b x h1 q) ⟨hi, hpp ▸ hi⟩ trivial
  have heo : ¬ Owned ads (σ.set j .dead) e := fun q => R.fresh_ww he (.inr (hown e q))
  have hfr2 : ∀ b, b ∈ C.fr.filterMap (·.frame) → ∃ o, s.heap.get? b = some o ∧ IsD o ∧ h2.get? b = some o := fun b hb => by
    refine el12 (V.frs.2 b hb) fun o ho hd => ?_
    exact ⟨o, ho, hd, hx b o (fun q => V.frn b hb (hmine b q)) ho⟩
  have hbase : ∀ b, b ∈ C.fr.filterMap (·.frame) → c.h₀.get? b = none := fun b hb => (V.frs.1.mem hb).1
  have hso : ∀ b o, b ≠ e → h2.get? b = some o → ∃ o', h3.get? b = some o' ∧ SO o o' := fun b o hb ho => by
    refine el13 (N.kept b o hb ho) fun o' e' hd hn => ?_
    refine ⟨o', e', hd, fun hnd => hn fun hm => ?_⟩
    refine el13 (hfr2 b hm) fun o2 _ qp262 e2 => ?_; obtain ⟨es, ep, z⟩ := qp262
    rw [ho] at e2; cases e2
    exact hnd es ep z
  have hhas : ∀ b, Heap.Has h2 b → Heap.Has h3 b := fun b ⟨o, ho⟩ => by
    by_cases hb : b = e
    · refine el52 (N.exc) fun oe _ _ _ _ h1 _ => ?_; exact ⟨oe, hb ▸ h1⟩
    · refine el12 (N.kept b o hb ho) fun o' e' _ => ?_; exact ⟨o', e'⟩
  have R3 : c.R Z lk h3 ads (σ.set j .dead) := by
    refine R2.quiet (fun b => b ∈ C.fr.filterMap (·.frame) ∨ b = e) (fun b o hb ho => ?_) (fun b hb => ?_)
    · refine el13 (N.kept b o (fun q => hb (.inr q)) ho) fun o' e' _ hn => ?_
      rw [e', hn fun q => hb (.inl q)]
    · rcases hb with hb | rfl
      · refine el13 (hfr2 b hb) fun o ho qp263 h2b => ?_; obtain ⟨es, ep, z⟩ := qp263
        refine ⟨fun q => V.frn b hb (hown b q), hbase b hb, fun o' e' hf => ?_, .inr (hhas b ⟨o, h2b⟩)⟩
        rw [h2b] at e'; cases e'
        exact hf.nd es ep z
      · exact ⟨heo, R.fresh_base he, fun o' e' hf => by rw [hoe] at e'; cases e'; exact hfz hf, .inr (hhas _ ⟨_, hoe⟩)⟩
  have hk3 : ∀ b o, ¬ Owned ads σ b → s.heap.get? b = some o → ∃ o', h3.get? b = some o' ∧ SO o o' := fun b o hb ho => hso b o (hne b o ho) (hx b o (fun q => hb (hmine b q)) ho)
  have x : Ext Z ads σ s ads (σ.set j .dead) { s with heap := h3, toks := tk } :=
    ⟨⟨[], by simp⟩, hk3, fun b q => .inl (hown b q), fun b ⟨o, ho⟩ => hhas b ((Classical.em (b = p.1)).elim (fun q => q ▸ hi) (fun q => ⟨o, hx b o q ho⟩)), ⟨_, _, rfl⟩⟩
  exact ⟨x, R3, V.ext x⟩

theorem simS_tryNext {F : Env'} {W : Nat} (B0 : Base c) (hco : C.comp = false) {i : Nat} {nm : Str} (hs : SlotOk C i nm) {f x y z : E} {fe fi de pe qe : Expr} {q1 q2 q3 q4 q5 q6 q7 q8 p1 p2 p4 p5 : Pos}
    (S1 : Sim c n C (.Subscript fe fi q1) (ev F f)) (Sd : SimH c C de (ev F x)) (Sp : SimH c C pe (ev F y)) (Sq : SimH c C (.Call qe [] [] p4) (ev F z))
    (hstop : C.names.lookup (Str.ofString "StopIteration") = some .globalImplicit) (hgl : c.gl (Str.ofString "StopIteration") = none)
    (hw : ∀ env : Env, env.scope.names = C.names → env.scope.kind = .function → swappedStores [.Name nm q2] (.Call (.Subscript fe fi q1) [] [] q3) env = pure none) :
    SimS c n C (.Try [.Assign [.Name nm q2] (.Call (.Subscript fe fi q1) [] [] q3) q4, .Break q5] [.ExceptHandler (some (.Name "StopIteration" q6)) none [.Delete [.Subscript de pe p1] p2, .Expr (.Call qe [] [] p4) p5] q7] [] [] q8) (ex F W (.tryNext i f [.del x y, .expr z])) := by
  intro A Z lk s ads ρ σ env fl ρ' σ' hf hA R V Q E k
  refine bd2 hf fun d1 σ1 h1 hf => ?_
  refine bd3 hf fun j0 od σ2 hn hf => bd1 hn fun k₀ hk₀ hn => bd1 hn fun j hk0 hn => bd1 hk0 fun oa hk0 hoa => bd2 hn fun l m hj hn => bd1 hj fun ob hj hob => bd1 hn fun xs hxs hn => ?_
  rw [show d1 = _ from asRef_inv hk₀] at h1
  rw [oNext_inv hoa] at hk0
  rw [oIter_inv hob] at hj
  refine wpAny_Try_except (wpAny_execs_cons (wpAny_Assign_stores ?_ rfl (hw env V.names V.kind)))
  refine Call_ (S1 A Z lk s ads ρ σ env (.ref k₀) σ1 h1 hA R V _ _ fun ov s1 ads1 x1 R1 r1 => ?_)
  have V1 := V.ext x1
  refine el12 (r1) fun p hp qe265 => ?_; subst qe265
  refine el13 (R1.objs _ _ _ hp hk0) fun q hq hmw hpp => ?_
  refine el14 (R1.objs _ _ _ hq hj) fun r hr hit hqq _ => ?_
  refine el24 (asList_at R1 (show c.P Z ads1 σ1 s1.heap (.ref l) (.ref r.1) from ⟨r, hr, rfl⟩) hxs) fun la vs hla hpl hrl hlim => ?_
  cases hla
  refine callWith_mw hmw (NX.call_next hmw hit ?_)
  refine hide fun H kk => ?_
  cases hd : xs[m]? with
  | some d =>
    rw [show xs[(l, m).2]? = some d from hd] at hn
    refine sm3 hn fun z1 z2 z3 => ?_
    subst z2; subst z3; subst z1
    cases hf
    refine kk ?_
    refine el12 (hrl.get hd) fun v hv rv => ?_
    refine NX.tree_item hit (PlainList.isList hpl) (by simpa using hv) fun h' hit' hsb => ?_
    have hk' : ∀ b o, b ≠ q.1 → s1.heap.get? b = some o → h'.get? b = some o := fun b o hb e => (hsb.2 b hb).trans e
    have hhas : Heap.Has h' q.1 := let ⟨o, e, _⟩ := hit'; ⟨o, e⟩
    have hown := Rel.owned_set (o' := .iter l (m + 1)) hq hj rfl
    have hmine : ∀ b, b = q.1 → Owned ads1 σ1 b := fun b hb => ⟨j, q, _, hq, hj, rfl, .inl hb⟩
    have R2 : c.R Z lk h' ads1 (σ1.set j (.iter l (m + 1))) := R1.put hq hj rfl (fun b x h1 _ e => hk' b x h1 e) ⟨hhas, hqq ▸ hhas⟩ ⟨r, hr, hit', hqq, fun z => by omega⟩
    have x2 : Ext Z ads1 σ1 s1 ads1 (σ1.set j (.iter l (m + 1))) { s1 with heap := h' } :=
      ⟨⟨[], by simp⟩, fun b o hb e => SO.of (hk' b o (fun q => hb (hmine b q)) e), fun b e => .inl (hown b e), fun b ⟨o, e⟩ => (Classical.em (b = q.1)).elim (fun q => by subst q; exact hhas) (fun q => ⟨o, hk' b o q e⟩), ⟨_, s1.toks, rfl⟩⟩
    have V2 := V1.ext x2
    show wpAny _ A (assignAll v ((assignEach [.Name nm q2] env).map (·.2))) _ _ _
    show wpAny _ A (assign (.Name nm q2) env v) _ _ _
    refine wpAny_assign_Name (store_name R2 V2 hs (x2.rep rv) fun s3 x3 R3 V3 => ?_)
    refine wpAny_execs_cons (wpAny_Break ?_)
    exact k .brk s3 ads1 (((V.toY x1).trans (V1.toY x2)).trans x3) R3 V3 rfl
  | none =>
    have hnone := hd
    rw [show xs[(l, m).2]? = none from hd] at hn
    refine sm3 hn fun z1 z2 z3 => ?_
    subst z2; subst z3; subst z1
    have hlen := hrl.length
    refine kk ?_
    refine NX.tree_end hA.handled hit (PlainList.isList hpl) (by
      rw [List.getElem?_eq_none_iff] at hnone
      simp; omega) fun h2 e t he hx2 hi2 hoe => ?_
    obtain ⟨outer, hfr⟩ := V1.hd hco
    have hmine : ∀ b, b = q.1 → Owned ads1 σ1 b := fun b hb => ⟨j, q, _, hq, hj, rfl, .inl hb⟩
    have hff : FF h2 c.h₀ C.fr := funFrames_mono V1.frs fun a ha => FrKeep.same fun o e => hx2 a o (fun z => V1.frn a ha (hmine a z)) e
    obtain ⟨_, ⟨L, _, hL, _⟩, _⟩ : h2.FunFrames c.h₀ (env :: outer) := hfr ▸ hff.1
    have hfz : ¬ Fz { cls := .type "StopIteration", data := .fields #[.ref t, .none, .none, .none, .bool false, .none] } := fun z => by
      rcases z with ⟨xs, n, z⟩ | ⟨z, _⟩
      · cases z
      · exact absurd (show Value.type "StopIteration" = Value.type "range" from z) (by decide)
    refine note_sound (base := c.h₀) (hA.frames.trans (by rw [hfr])) (hfr ▸ hff.1) hL hoe rfl rfl fun h3 N3 => ?_
    refine N3.flight (s := { s1 with heap := h3 }) fun h4 N4 => ?_
    refine wpAny_handleBy_builtin (T := "StopIteration") (X := "StopIteration") (b := true) stop_exc stop_tuple stop_stop ?_
    rw [← hfr] at N4
    refine el03 (noted_state (tk := s1.toks) R1 V1 hq hj hx2 hi2 he hoe hfz N4) fun x4 R4 V4 => ?_
    refine load_builtin B0 R4 V4 hstop hgl boot_stop (by decide) (by decide) ⟨rfl, ?_, ?_⟩
    · refine el53 (N4.exc) fun oe _ _ _ _ h1 h2 _ => ?_
      exact ⟨oe, h1, h2⟩
    · rw [if_pos rfl]
      refine N4.flight (s := { s1 with heap := h4 }) fun h5 N5 => ?_
      refine el03 (noted_state (tk := s1.toks) R1 V1 hq hj hx2 hi2 he hoe hfz N5) fun x5 R5 V5 => ?_
      exact handler_sound B0 (p1 := p1) (p2 := p2) (p4 := p4) (p5 := p5) Sd Sp Sq hf (by have := hA.units; simp; omega) R5 V5 _ _ fun f s6 ads6 x6 R6 V6 hfl => k f s6 ads6 (((V.toY x1).trans (V1.toY x5)).trans x6) R6 V6 hfl
end
end Mine
end
section
open PySem PySem.W PyProof.Rows PySem.SeqAt PySem.MeetsSeq
set_option maxRecDepth 100000
namespace Mine

theorem simS_tryPlain {c : Cst} {n : Nat} {C : SC} {F : Env'} {W : Nat} {xs : List S} {as : List Stmt} {h₀ : ExceptHandler} {hs : List ExceptHandler} {pos : Pos} (Sb : SimSS c n C as (exs F W xs)) : SimS c n C (.Try as (h₀ :: hs) [] [] pos) (ex F W (.tryPlain xs)) := by
  intro A Z lk s ads ρ σ env fl ρ' σ' hf hA R V Q E k
  dsimp only [ex] at hf
  refine wpAny_Try_except (Sb A Z lk s ads ρ σ env fl ρ' σ' hf hA R V _ _ fun f s1 ads1 x1 R1 V1 hfl => ?_)
  have key := k f s1 ads1 x1 R1 V1 hfl
  cases fl with
  | next => cases hfl; exact wpAny_execs_nil key
  | brk => cases hfl; exact key
  | cont => cases hfl; exact key
  | ret d => refine el12 (hfl) fun v qe42 _ => ?_; subst qe42; exact key

noncomputable def BindsF (c : Cst) (fn : Fn) (fd : FuncData) (ps : List Str) : Prop :=
  ∀ (args : List D) (ρ : Loc) (vals : List Value) (A : Around) (Z : List Addr) (lk : Nat → Nat) (s : Shared) (ads : Ads) (σ : Store), bindA fn args = some ρ → c.R Z lk s.heap ads σ → c.PL Z ads σ s.heap args vals →
    ∀ (Q : List (Str × Value) → Shared → Prop) (E : Value → Shared → Prop), (∀ s' ws ds, (∀ b o, s.heap.get? b = some o → s'.heap.get? b = some o) → (∃ h tk, s' = { s with heap := h, toks := tk }) → c.PL Z ads σ s'.heap ds ws → ρ = ds.map some ++ List.replicate (fn.ns - ps.length) .none → ds.length = ps.length → Q (ps.zip ws) s') →
      wpAny (model c.prog c.w) A (bindArgs fd ⟨vals, []⟩) Q E s

structure FdOk (c : Cst) (P : Prog') (fn : Fn) (fa : Addr) (fd : FuncData) (body : List Stmt) (ps : List Str) (slots : List (Nat × Str)) : Prop where
  obj : ∃ o, c.h₀.get? fa = some o ∧ o.data = .func fd
  code : c.h₀.CodeRec fd.code fd.qualname
  bd : fd.body = .stmts body
  clo : fd.closure = []
  co : fd.scope.isCoroutine = false
  gen : fd.scope.isGenerator = false
  kind : fd.scope.kind = .function
  glob : fd.globals = mainGlobals
  bu : fd.builtins = builtinsNs
  nodup : (fd.scope.names.map (·.1)).Nodup
  pnd : ps.Nodup
  pk : ∀ x ∈ ps, fd.scope.names.lookup x = some .local ∨ fd.scope.names.lookup x = some .cell
  sl : ∀ i x, slots.lookup i = some x → i < ps.length → ps[i]? = some x
  bind : BindsF c fn fd ps
  sim : ∀ n fr, FunOk c n (callF P n) → SimSS c n ⟨fd.scope.names, slots, fr, false⟩ body (exs ⟨P.globs, callF P n⟩ P.W fn.body)

section
variable {kindOf : Str → Option NameKind}
theorem bindL_none : ∀ {ps : List Str} {ws : List Value} {m : Str → Option Value} {x : Str}, x ∉ ps → bindL kindOf (ps.zip ws) m x = m x
  | [], _, _, _, _ => rfl
  | p :: ps, [], _, _, _ => rfl
  | p :: ps, w :: ws, m, x, h => by
    show bindL kindOf (ps.zip ws) _ x = _
    rw [bindL_none (fun q => h (List.mem_cons_of_mem _ q))]
    split
    · exact if_neg (fun q : x = p => h (by rw [q]; exact List.mem_cons_self))
    · rfl
theorem bindC_none : ∀ {ps : List Str} {ws : List Value} {m : Str → Option Value} {x : Str}, x ∉ ps → bindC kindOf (ps.zip ws) m x = m x
  | [], _, _, _, _ => rfl
  | p :: ps, [], _, _, _ => rfl
  | p :: ps, w :: ws, m, x, h => by
    show bindC kindOf (ps.zip ws) _ x = _
    rw [bindC_none (fun q => h (List.mem_cons_of_mem _ q))]
    split
    · rfl
    · exact if_neg (fun q : x = p => h (by rw [q]; exact List.mem_cons_self))
theorem bindL_at : ∀ {ps : List Str} {ws : List Value} {m : Str → Option Value} {i : Nat} {x : Str} {v : Value}, ps.Nodup → ps[i]? = some x → ws[i]? = some v → kindOf x = some .local → bindL kindOf (ps.zip ws) m x = some v
  | [], _, _, i, _, _, _, h, _, _ => by simp at h
  | p :: ps, [], _, i, _, _, _, _, h, _ => by simp at h
  | p :: ps, w :: ws, m, i, x, v, hn, h1, h2, hk => by
    show bindL kindOf (ps.zip ws) _ x = _
    cases i with
    | zero =>
      simp at h1 h2; subst h1 h2
      rw [bindL_none (List.nodup_cons.mp hn).1, if_pos hk, if_pos rfl]
    | succ i => simp at h1 h2; exact bindL_at (List.nodup_cons.mp hn).2 h1 h2 hk
theorem bindC_at : ∀ {ps : List Str} {ws : List Value} {m : Str → Option Value} {i : Nat} {x : Str} {v : Value}, ps.Nodup → ps[i]? = some x → ws[i]? = some v → kindOf x ≠ some .local → bindC kindOf (ps.zip ws) m x = some v
  | [], _, _, i, _, _, _, h, _, _ => by simp at h
  | p :: ps, [], _, i, _, _, _, _, h, _ => by simp at h
  | p :: ps, w :: ws, m, i, x, v, hn, h1, h2, hk => by
    show bindC kindOf (ps.zip ws) _ x = _
    cases i with
    | zero =>
      simp at h1 h2; subst h1 h2
      rw [bindC_none (List.nodup_cons.mp hn).1, if_neg hk, if_pos rfl]
    | succ i => simp at h1 h2; exact bindC_at (List.nodup_cons.mp hn).2 h1 h2 hk
end

theorem cells_nodup : ∀ {names : List (Str × NameKind)} {m : Nat}, (names.map (·.1)).Nodup → ((cellsFrom m names []).map (·.1)).Nodup
  | [], _, _ => List.nodup_nil
  | (x, k) :: r, m, h => by
    obtain ⟨h1, h2⟩ := List.nodup_cons.mp h
    unfold cellsFrom
    split
    · rw [cellsFrom_append, List.map_append]
      refine List.nodup_append.mpr ⟨cells_nodup h2, by simp, fun a ha b hb => ?_⟩
      simp at hb
      subst hb
      intro q
      refine el12 (List.mem_map.mp ha) fun qp43 hy qe44 => ?_; obtain ⟨y, ad⟩ := qp43; subst qe44
      exact h1 (q ▸ List.mem_map.mpr ⟨_, cellsFrom_mem hy, rfl⟩)
    · exact cells_nodup h2

theorem new_above {s : Shared} {a : Addr} (h : s.heap.objs.size ≤ a) : s.heap.get? a = none := Heap.get?_none_of_le h

section
variable {c : Cst} {P : Prog'} {n : Nat}

theorem call_env {fn : Fn} {fa : Addr} {fd : FuncData} {body : List Stmt} {ps : List Str} {slots : List (Nat × Str)} (K : FdOk c P fn fa fd body ps slots) {A : Around} {Z : List Addr} {lk : Nat → Nat} {s s₁ : Shared} {ads : Ads} {σ : Store} {ρ : Loc} {ds : List D} {ws : List Value} {fr : List Env}
    (R : c.R Z lk s.heap ads σ) (hr : c.PL Z ads σ s.heap ds ws) (hρ : ρ = ds.map some ++ List.replicate (fn.ns - ps.length) .none) (hl : ds.length = ps.length) (hff : FF s.heap c.h₀ fr) (hfn : ∀ a, a ∈ fr.filterMap (·.frame) → ¬ Owned ads σ a)
    (env : Env) (he : env = callEnvC fd s.heap.objs.size fa) (x : InCallC s env.locals (bindL env.kindOf (ps.zip ws) fun _ => none) env.cells (bindC env.kindOf (ps.zip ws) fun _ => none) s₁) :
    EnvRel c ⟨fd.scope.names, slots, env :: fr, false⟩ env ρ Z ads σ s₁.heap ∧ c.R Z lk s₁.heap ads σ := by
  have hk := x.toInCall.keep
  have R1 : c.R Z lk s₁.heap ads σ := R.grow hk
  have hLoc : env.locals = s.heap.objs.size := by rw [he]; rfl
  have hcs : env.cells = cellsFrom (s.heap.objs.size + 1) fd.scope.names [] := by rw [he]; rfl
  have hko : ∀ y, env.kindOf y = fd.scope.names.lookup y := fun y => by rw [he]; rfl
  have hnd : (env.cells.map (·.1)).Nodup := by rw [hcs]; exact cells_nodup K.nodup
  have hfresh : ∀ y a, (y, a) ∈ env.cells → s.heap.get? a = none := fun y a h => Heap.get?_none_of_le (Nat.le_of_lt (hLoc ▸ x.above y a h))
  have hLn : s.heap.get? env.locals = none := by rw [hLoc]; exact get_size _
  have hget : ∀ i y d, slots.lookup i = some y → ρ[i]? = some (some d) → ps[i]? = some y ∧ ∃ v, ws[i]? = some v ∧ c.P Z ads σ s₁.heap d v := fun i y d h1 h2 => by
    have hi : i < ds.length := by
      rcases Nat.lt_or_ge i ds.length with q | q
      · exact q
      · rw [hρ, List.getElem?_append_right (by simpa using q)] at h2
        rw [List.getElem?_replicate] at h2
        split at h2 <;> cases h2
    rw [hρ, List.getElem?_append_left (by simpa using hi), List.getElem?_map] at h2
    refine el12 (Option.map_eq_some_iff.mp h2) fun d' h3 h4 => ?_
    cases h4
    refine el12 (hr.get h3) fun v h5 h6 => ?_
    exact ⟨K.sl i y h1 (hl ▸ hi), v, h5, Rep.mono (Sub.refl _) (fun b o _ _ e => hk b o e) (fun _ _ _ w => w) _ _ h6⟩
  have hcell : ∀ y a, (y, a) ∈ env.cells → env.cells.lookup y = some a := fun y a h => lookup_eq_of_mem hnd h
  have hns := x.toInCall.ns
  refine ⟨⟨by rw [he]; exact K.kind, by rw [he]; rfl, by rw [he]; exact K.glob, by rw [he]; exact K.bu, ⟨_, hns, fun i y d h1 h2 h3 => ?_⟩, fun y hy => ?_, fun i y d a h1 h2 h3 h4 => ?_, x.apart, ⟨fun q => R.fresh_ww hLn (.inr q), R.fresh_base hLn⟩, fun y a h => ⟨fun q => R.fresh_ww (hfresh y a h) (.inr q), R.fresh_base (hfresh y a h), _, x.cell y a (hcell y a h)⟩, ?_, ?_, fun _ => ⟨fr, rfl⟩⟩, R1⟩
  · obtain ⟨h4, v, h5, h6⟩ := hget i y d h1 h3
    exact ⟨v, bindL_at K.pnd h4 h5 ((hko y).trans h2), h6⟩
  · obtain ⟨a, ha⟩ := mem_cellsFrom (m := s.heap.objs.size + 1) (mem_of_lookup hy)
    rw [← hcs] at ha
    exact ⟨a, _, hcell y a ha, x.cell y a (hcell y a ha)⟩
  · obtain ⟨h5, v, h6, h7⟩ := hget i y d h1 h3
    have := x.cell y a h4
    rw [bindC_at K.pnd h5 h6 (by rw [hko y]; rw [h2]; exact fun q => by cases q)] at this
    exact ⟨v, this, h7⟩
  · have hd : ∃ o, s₁.heap.get? env.locals = some o ∧ IsD o := by refine el33 (hns) fun o es ep h1 h2 _ => ?_; exact ⟨o, h1, es, ep, h2⟩
    have hfrm : env.frame = some env.locals := by rw [he]; rfl
    have hrest := funFrames_mono hff fun a _ => FrKeep.same fun o e => hk a o e
    have hkm : env.scope.kind ≠ .module := by rw [he]; show fd.scope.kind ≠ _; rw [K.kind]; exact fun q => by cases q
    refine ⟨⟨hkm, ⟨env.locals, hd.choose, hfrm, R.fresh_base hLn, hd.choose_spec.1, fun vs q => ?_⟩, hrest.1⟩, fun a ha => ?_⟩
    · obtain ⟨_, es, ep, z⟩ := hd.choose_spec
      rw [z] at q; cases q
    · rw [List.filterMap_cons, hfrm] at ha
      rcases List.mem_cons.mp ha with rfl | ha
      · exact hd
      · exact hrest.2 a ha
  · intro a ha
    have hfrm : env.frame = some env.locals := by rw [he]; rfl
    rw [List.filterMap_cons, hfrm] at ha
    rcases List.mem_cons.mp ha with rfl | ha
    · exact fun q => R.fresh_ww hLn (.inr q)
    · exact hfn a ha

theorem funOk_step (B0 : Base c) (hP : ∀ f fa, c.X.fv f = some fa → ∃ fn fd body ps slots, P.fns f = some fn ∧ FdOk c P fn fa fd body ps slots) (ih : FunOk c n (callF P n)) : FunOk c (n + 1) (callF P (n + 1)) := by
  intro f args σ d σ' hf fa hfa A Z lk s ads vals fr hA hff hfn R hr Rz k
  refine el52 (hP f fa hfa) fun fn fd body ps slots hfn' K => ?_
  refine bd1 hf fun fn2 hfn2 hf => ?_
  cases hfn2.symm.trans hfn'
  refine bd1 hf fun ρ hb hf => bd3 hf fun fl ρ' σ2 hex hf => ?_
  have hfl : (fl = .ret d ∨ (fl = .next ∧ d = .none)) ∧ σ2 = σ' := by
    cases fl
    case ret => exact sm2 hf fun e1 e2 => ⟨.inl (congrArg Fl.ret e1), e2⟩
    case next => exact sm2 hf fun e1 e2 => ⟨.inr ⟨rfl, e1.symm⟩, e2⟩
    all_goals exact no_el hf
  obtain ⟨hfl, hσ⟩ := hfl
  rw [hσ] at hex
  clear hf hfn2 hσ
  refine el12 (K.obj) fun o ho hod => ?_
  have hcode : s.heap.CodeRec fd.code fd.qualname := by
    refine el43 (K.code) fun c' o' vs' t' h1 h2 h3 => ?_
    exact ⟨c', o', vs', t', h1, R.keep _ _ h2, h3⟩
  have hdep := hA.depth
  have hun := hA.units
  refine codeAny_call_function (by unfold recursionLimit; omega) (R.keep _ _ ho) hod K.co K.gen K.bd hcode ?_
  rw [K.clo]
  refine K.bind args ρ vals A.in1 Z lk s ads σ hb R hr _ _ fun s1 ws ds hk1 hs1 hr1 hρ hlen => ?_
  have R1 : c.R Z lk s1.heap ads σ := R.grow hk1
  have hff1 : FF s1.heap c.h₀ fr := funFrames_mono hff fun a _ => FrKeep.same fun o e => hk1 a o e
  refine wpAny_newFunctionEnv_cells K.kind (fun x hx => ?_) fun env he s2 x2 => ?_
  · have hm : x.1 ∈ ps := (List.of_mem_zip hx).1
    rcases K.pk x.1 hm with q | q
    · exact .inl q
    · refine .inr ⟨q, ?_⟩
      obtain ⟨a, ha⟩ := mem_cellsFrom (m := s1.heap.objs.size + 1) (mem_of_lookup q)
      obtain ⟨b, hb⟩ := lookup_of_mem ha
      rw [hb]; rfl
  · obtain ⟨V2, R2⟩ := call_env K (A := A) R1 hr1 hρ hlen hff1 hfn env he x2
    refine ⟨(B0.nolimit.keeps R.keep).keeps fun b o e => x2.toInCall.keep b o (hk1 b o e), codeAny_func ?_⟩
    refine K.sim n (env :: fr) ih (A.deeper env) Z lk s2 ads ρ σ env fl ρ' σ' hex ⟨by show A.depth + 1 + 4 * n + 10 ≤ 999; omega, by rw [Around.deeper_units]; omega, hA.handled, by show A.frames.map (env :: ·) = _; rw [hA.frames]; rfl⟩ R2 V2 _ _ fun fv s3 ads3 x3 R3 V3 hfv => ?_
    have hFr : ∀ b, FrA env b → s.heap.get? b = none := fun b hb => by
      have h1 : s1.heap.get? b = none := by
        rcases hb with rfl | ⟨y, hy⟩
        · rw [he]; exact get_size _
        · refine Heap.get?_none_of_le (Nat.le_of_lt ?_)
          have := x2.above y b (mem_of_lookup hy)
          rw [he] at this; exact this
      cases e : s.heap.get? b with
      | none => rfl
      | some o => rw [hk1 b o e] at h1; cases h1
    have hk2 : ∀ b o, s.heap.get? b = some o → s2.heap.get? b = some o := fun b o e => x2.toInCall.keep b o (hk1 b o e)
    have X : Ext Z ads σ s ads3 σ' s3 := by
      refine ⟨x3.pre, fun b o hn e => x3.kept b o hn (fun q => by rw [hFr b q] at e; cases e) (hk2 b o e), fun b e => ?_, fun b ⟨o, e⟩ => x3.has b ⟨o, hk2 b o e⟩, ?_⟩
      · rcases x3.own b e with q | q
        · exact .inl q
        · refine .inr ?_
          cases e' : s.heap.get? b with
          | none => rfl
          | some o => rw [hk2 b o e'] at q; cases q
      · refine el21 (x3.rest) fun h tk e3 => ?_
        refine el21 (hs1) fun h1 tk1 e1 => ?_
        refine el21 (x2.toInCall.same) fun h2 tk2 e2 => ?_
        exact ⟨h, tk, by rw [e3, e2, e1]⟩
    rcases hfl with rfl | ⟨rfl, rfl⟩
    · refine el12 (hfv) fun v qe45 rv => ?_; subst qe45
      exact k v s3 ads3 X R3 rv
    · cases hfv
      exact k .none s3 ads3 X R3 rfl

theorem funOk_all (B0 : Base c) (hP : ∀ f fa, c.X.fv f = some fa → ∃ fn fd body ps slots, P.fns f = some fn ∧ FdOk c P fn fa fd body ps slots) : ∀ n, FunOk c n (callF P n)
  | 0 => fun f args σ d σ' hf => no_el hf
  | n + 1 => funOk_step B0 hP (funOk_all B0 hP n)
end
end Mine
end
section
open PySem PySem.W PyProof.Rows PySem.SeqAt PySem.MeetsSeq
set_option maxRecDepth 100000
namespace Mine

section
variable {c : Cst} {fn : Fn} {fd : FuncData} {ps : List Str}

theorem binds_plain (hs : fn.star = false) (hd : fn.dn = 0) (hnp : 0 < fn.np) (hps : ps.length = fn.np) (h : ∀ vals : List Value, vals.length = fn.np → bindArgs fd ⟨vals, []⟩ = pure (ps.zip vals)) : BindsF c fn fd ps := by
  intro args ρ vals A Z lk s ads σ hb R hr Q E k
  unfold bindA at hb
  simp only [hs, hd, Bool.false_eq_true, if_false] at hb
  have key : args.length = fn.np ∧ ρ = args.map some ++ List.replicate (fn.ns - fn.np) .none := by
    by_cases h1 : args.length > lim
    · rw [if_pos h1] at hb
      split at hb
      · rename_i q; simp at q; omega
      · cases hb
    · rw [if_neg h1, if_neg (show ¬ (args.length < fn.np ∧ fn.np ≤ args.length + 0) by omega)] at hb
      split at hb
      · rename_i q; cases hb; exact ⟨q, rfl⟩
      · cases hb
  obtain ⟨h1, h2⟩ := key
  rw [h vals (by rw [hr.length, h1])]
  refine wpAny_pure (k s vals args (fun _ _ e => e) ⟨s.heap, s.toks, rfl⟩ hr ?_ (by rw [h1, hps]))
  rw [h2, hps]

theorem binds_star (hs : fn.star = true) (hd : fn.dn = 0) (hnp : 0 < fn.np) (hps : ps.length = fn.np + 1) (h : ∀ vals : List Value, fn.np ≤ vals.length → bindArgs fd ⟨vals, []⟩ = (newTuple (vals.drop fn.np) >>= fun t => pure (ps.zip (vals.take fn.np ++ [t])))) : BindsF c fn fd ps := by
  intro args ρ vals A Z lk s ads σ hb R hr Q E k
  unfold bindA at hb
  simp only [hs, hd, if_true] at hb
  have key : args.length ≤ lim ∧ fn.np ≤ args.length ∧ ρ = (args.take fn.np ++ [D.tup (args.drop fn.np)]).map some ++ List.replicate (fn.ns - (fn.np + 1)) .none := by
    by_cases h1 : args.length > lim
    · rw [if_pos h1] at hb
      split at hb
      · rename_i q; simp at q; omega
      · cases hb
    · rw [if_neg h1, if_neg (show ¬ (args.length < fn.np ∧ fn.np ≤ args.length + 0) by omega)] at hb
      split at hb
      · rename_i q; cases hb; exact ⟨Nat.le_of_not_lt h1, q, rfl⟩
      · cases hb
  refine el03 (key) fun h0 h1 h2 => ?_
  have hlen := hr.length
  rw [h vals (by omega)]
  have hdr := hr.drop fn.np
  have hld : (args.drop fn.np).length ≤ lim := by rw [List.length_drop]; omega
  refine wpAny_bind ?_
  unfold newTuple
  refine wpAny_newObj_type ?_ ?_
  · have hk : ∀ b o, s.heap.get? b = some o → (s.heap.push { cls := .type "tuple", data := .seq (vals.drop fn.np).toArray }).get? b = some o := fun b o e => Heap.get?_push_of_some _ e
    refine wpAny_pure (k _ (vals.take fn.np ++ [.ref s.heap.objs.size]) (args.take fn.np ++ [.tup (args.drop fn.np)]) hk ⟨_, s.toks, rfl⟩ ?_ ?_ ?_)
    · exact RepL.append (RepL.mono (Sub.refl _) (fun b o _ _ e => hk b o e) (fun _ _ _ w => w) _ _ (hr.take _)) (RepL.one (newTuple_rep R hdr hld))
    · rw [h2, hps]
    · simp [hps]; omega
  · exact size_lim hld hdr.length

theorem binds_dflt {T : Addr} {o : Obj} {m : Nat} (B0 : Base c) (hs : fn.star = false) (hd : fn.dn = 1) (hnp : fn.np = 2) (hps : ps.length = 2) (hT : fd.defaults = .ref T) (ho : c.h₀.get? T = some o) (hod : o.data = .seq #[.none] m)
    (h1 : ∀ v, ∃ k : Option (Array Value) → Sem (List (Str × Value)), bindArgs fd ⟨[v], []⟩ = seqItems? fd.defaults >>= k ∧ k (some #[.none]) = pure (ps.zip [v, .none]))
    (h2 : ∀ v u, ∃ k : Option (Array Value) → Sem (List (Str × Value)), bindArgs fd ⟨[v, u], []⟩ = seqItems? fd.defaults >>= k ∧ k (some #[.none]) = pure (ps.zip [v, u])) : BindsF c fn fd ps := by
  intro args ρ vals A Z lk s ads σ hb R hr Q E k
  have hTs := R.keep _ _ ho
  unfold bindA at hb
  simp only [hs, hd, hnp, Bool.false_eq_true, if_false] at hb
  match args, hr with
  | [], hr =>
    simp [lim] at hb
  | [a], hr =>
    refine el12 (one_arg hr) fun v qe266 rv => ?_; subst qe266
    simp [lim] at hb
    refine el12 (h1 v) fun k1 e1 e2 => ?_
    rw [e1, hT]
    refine wpAny_bind (wpAny_seqItems hTs hod ?_)
    rw [e2]
    refine wpAny_pure (k s [v, .none] [a, .none] (fun _ _ e => e) ⟨s.heap, s.toks, rfl⟩ ⟨v, _, rfl, rv, .none, [], rfl, rfl, rfl⟩ ?_ (by simp [hps]))
    rw [← hb, hps]; rfl
  | [a, b], hr =>
    refine el23 (two_args hr) fun v u qe267 rv ru => ?_; subst qe267
    simp [lim] at hb
    refine el12 (h2 v u) fun k1 e1 e2 => ?_
    rw [e1, hT]
    refine wpAny_bind (wpAny_seqItems hTs hod ?_)
    rw [e2]
    refine wpAny_pure (k s [v, u] [a, b] (fun _ _ e => e) ⟨s.heap, s.toks, rfl⟩ hr ?_ (by simp [hps]))
    rw [← hb, hps]; rfl
  | a :: b :: d :: r, hr =>
    exfalso
    by_cases h1 : (a :: b :: d :: r).length > lim
    · rw [if_pos h1] at hb; simp at hb
    · rw [if_neg h1, if_neg (by simp)] at hb
      simp at hb
end
end Mine
end
section
open PySem PySem.W PyProof.Rows PySem.SeqAt PySem.MeetsSeq
set_option maxRecDepth 100000
namespace Mine

theorem nodup_of {l : List Str} (h : decide l.Nodup = true) : l.Nodup := of_decide_eq_true h
theorem nodupN_of {l : List Nat} (h : decide l.Nodup = true) : l.Nodup := of_decide_eq_true h

theorem lookupN_mem {α : Type} : ∀ {l : List (Nat × α)} {i : Nat} {x : α}, l.lookup i = some x → (i, x) ∈ l
  | (j, y) :: r, i, x, h => by
    rw [List.lookup_cons] at h
    cases hb : i == j with
    | true => rw [hb] at h; cases h; rw [beq_iff_eq.mp hb]; exact List.mem_cons_self
    | false => rw [hb] at h; exact List.mem_cons_of_mem _ (lookupN_mem h)
theorem lookupN_of_mem {α : Type} : ∀ {l : List (Nat × α)} {i : Nat} {x : α}, (l.map (·.1)).Nodup → (i, x) ∈ l → l.lookup i = some x
  | (j, y) :: r, i, x, hn, h => by
    obtain ⟨h1, h2⟩ := List.nodup_cons.mp hn
    rw [List.lookup_cons]
    rcases List.mem_cons.mp h with e | h'
    · cases e; simp
    · have : (i == j) = false := by
        rw [beq_eq_false_iff_ne]
        intro q
        exact h1 (List.mem_map.mpr ⟨_, h', q⟩)
      rw [this]; exact lookupN_of_mem h2 h'
theorem snd_inj {α : Type} : ∀ {l : List (Nat × α)} {i j : Nat} {x : α}, (l.map (·.2)).Nodup → (i, x) ∈ l → (j, x) ∈ l → i = j
  | (k, y) :: r, i, j, x, hn, h1, h2 => by
    obtain ⟨n1, n2⟩ := List.nodup_cons.mp hn
    rcases List.mem_cons.mp h1 with e | h1 <;> rcases List.mem_cons.mp h2 with e' | h2
    · cases e; cases e'; rfl
    · cases e; exact absurd (List.mem_map.mpr ⟨_, h2, rfl⟩) n1
    · cases e'; exact absurd (List.mem_map.mpr ⟨_, h1, rfl⟩) n1
    · exact snd_inj n2 h1 h2

noncomputable def tabOk (l : List (Nat × Str)) : Bool := decide (l.map (·.1)).Nodup && decide (l.map (·.2)).Nodup
theorem slotOk_of {C : SC} {i : Nat} {x : Str} (ht : tabOk C.slots = true) (hs : C.slots.lookup i = some x) (hk : C.names.lookup x = some .local ∨ C.names.lookup x = some .cell) : SlotOk C i x := by
  obtain ⟨h1, h2⟩ := Bool.and_eq_true_iff.mp ht
  refine ⟨hs, hk, fun j y e => ?_⟩
  by_cases hj : j = i
  · subst hj; rw [hs] at e; cases e; exact .inl ⟨rfl, rfl⟩
  · exact .inr ⟨hj, fun q => by subst q; exact hj (snd_inj (of_decide_eq_true h2) (lookupN_mem e) (lookupN_mem hs))⟩

noncomputable def compSC (C : SC) (scope : Scope) : SC := ⟨scope.names.map fun (p : Str × NameKind) => if p.2 == .free then (p.1, NameKind.cell) else p, C.slots.filter fun p => scope.names.any fun q => q.1 == p.2 && q.2 == .free, C.fr, true⟩
noncomputable def compOkB (C : SC) (scope : Scope) : Bool := (scope.kind == .function) && decide (scope.names.map (·.1)).Nodup && (scope.names.all fun p => !(p.2 == .free) || C.names.lookup p.1 == some .cell) && decide (C.slots.map (·.1)).Nodup
theorem compOk_of {C : SC} {scope : Scope} (h : compOkB C scope = true) : CompOk C scope (compSC C scope) := by
  unfold compOkB at h
  simp only [Bool.and_eq_true, decide_eq_true_eq, List.all_eq_true, beq_iff_eq] at h
  obtain ⟨⟨⟨h1, h2⟩, h3⟩, h4⟩ := h
  refine ⟨h1, h2, fun x hx => ?_, rfl, rfl, rfl, fun i x e => ?_⟩
  · have := h3 _ hx
    simpa using this
  · have hm := lookupN_mem e
    obtain ⟨m1, m2⟩ := List.mem_filter.mp hm
    refine ⟨lookupN_of_mem h4 m1, ?_⟩
    refine el12 (List.any_eq_true.mp m2) fun q q1 q2 => ?_
    simp only [Bool.and_eq_true, beq_iff_eq] at q2
    obtain ⟨a, b⟩ := q
    obtain ⟨rfl, rfl⟩ := q2
    exact q1
noncomputable def bindSC (C : SC) (t : Nat) (x : Str) : SC := ⟨C.names, (t, x) :: C.slots, C.fr, C.comp⟩
noncomputable def bindOkB (scope : Scope) (C : SC) (t : Nat) (x : Str) : Bool := (scope.names.any fun q => q.1 == x && (q.2 == .local || q.2 == .cell)) && (C.names.lookup x == some .local || C.names.lookup x == some .cell) && (C.slots.all fun p => !(p.2 == x)) && C.slots.all fun p => !(p.1 == t)
theorem bindOk_of {scope : Scope} {C : SC} {t : Nat} {x : Str} (h : bindOkB scope C t x = true) : BindOk (ownNames scope) C (bindSC C t x) t x ∧ ∀ y, C.slots.lookup t ≠ some y := by
  unfold bindOkB at h
  simp only [Bool.and_eq_true, Bool.or_eq_true, List.all_eq_true, beq_iff_eq, List.any_eq_true] at h
  obtain ⟨⟨⟨⟨⟨a, b⟩, h1, rfl, h2⟩, h3⟩, h4⟩, h5⟩ := h
  refine ⟨⟨?_, rfl, rfl, rfl, rfl, h3, fun j y e q => ?_⟩, fun y e => ?_⟩
  · rcases h2 with h2 | h2
    · dsimp only at h2; subst h2; exact .inl h1
    · dsimp only at h2; subst h2; exact .inr h1
  · have := h4 _ (lookupN_mem e)
    simp [q] at this
  · have := h5 _ (lookupN_mem e)
    simp at this

theorem swaps_cell {C : SC} {elt : Expr} {cs : List Comprehension} {scope : Scope} {p np : Pos} {nm : Str} {line : Nat} (h : C.names.lookup nm = some .cell) : ∀ env : Env, env.scope.names = C.names → swapsWith (.ListComp elt cs scope p) (some (.Name nm np)) line env = pure false := by
  intro env he
  show (pure (env.blockKind == .function && env.kindOf nm == some .local && np.line == p.line && !(scope.names.any fun (n, k) => n == nm && (k == .local || k == .cell))) : Sem Bool) = pure false
  have : env.kindOf nm = some .cell := by unfold Env.kindOf; rw [he, h]
  rw [this, show ((some NameKind.cell : Option NameKind) == some .local) = false from rfl]
  simp
theorem swaps_local {C : SC} {elt : Expr} {cs : List Comprehension} {scope : Scope} {p np : Pos} {nm : Str} {line : Nat} (h : C.names.lookup nm = some .local) (h2 : (np.line == p.line && !(scope.names.any fun (n, k) => n == nm && (k == .local || k == .cell))) = true) :
    ∀ env : Env, env.scope.names = C.names → env.scope.kind = .function → swapsWith (.ListComp elt cs scope p) (some (.Name nm np)) line env = pure true := by
  intro env he hk
  show (pure (env.blockKind == .function && env.kindOf nm == some .local && np.line == p.line && !(scope.names.any fun (n, k) => n == nm && (k == .local || k == .cell))) : Sem Bool) = pure true
  have h1 : env.kindOf nm = some .local := by unfold Env.kindOf; rw [he, h]
  have h3 : env.blockKind = .function := by unfold Env.blockKind; rw [hk]; rfl
  rw [h1, h3]
  obtain ⟨a, b⟩ := Bool.and_eq_true_iff.mp h2
  rw [a, b]; rfl

section
variable {c : Cst} {n : Nat} {C : SC} {F : Env'} {S : Str → Prop}
theorem gOk_cons {scope : Scope} {C₂ : SC} {t : Nat} {x : Str} {px : Pos} {it : It} {iter : Expr} {ifs : List E} {cifs : List Expr} {gs : List G} {cs : List Comprehension} (h : bindOkB scope C t x = true) (hI : SimI c n C iter (evi F it)) (hC : SimC c n (bindSC C t x) cifs (evc F ifs))
    (hf : ∀ env v, foldedSetIterable iter env v = pure v) (hG : GOk c n F (ownNames scope) (bindSC C t x) gs cs C₂) : GOk c n F (ownNames scope) C (.mk [t] false it ifs :: gs) (⟨.Name x px, iter, cifs, 0⟩ :: cs) C₂ :=
  .cons (bindOk_of h).1 (bindOk_of h).2 hI hC hf hG

theorem sim_compB (hF : LkF F.F) {scope : Scope} {eltx : E} {elt : Expr} {cs : List Comprehension} {pos : Pos} {m : Bool} {t : Nat} {x : Str} {px : Pos} {it : It} {iter : Expr} {ifs : List E} {cifs : List Expr} {gs : List G} {C₂ : SC} (hK : compOkB C scope = true) (hb : bindOkB scope (compSC C scope) t x = true)
    (hf : ∀ env v, foldedSetIterable iter env v = pure v) (hna : firstAsync (⟨.Name x px, iter, cifs, 0⟩ :: cs) = false)
    (hI : SimI c n C iter (evi F it)) (hC : SimC c n (bindSC (compSC C scope) t x) cifs (evc F ifs)) (hG : GOk c n F (ownNames scope) (bindSC (compSC C scope) t x) gs cs C₂) (hE : Sim c n C₂ elt (ev F eltx)) :
    Sim c n C (.ListComp elt (⟨.Name x px, iter, cifs, 0⟩ :: cs) scope pos) (ev F (.comp m eltx (.mk [t] false it ifs :: gs))) :=
  sim_comp hF (compOk_of hK) hI hf (bindOk_of hb).1 (bindOk_of hb).2 hC hG hE hna

theorem simS_assign_compB (hF : LkF F.F) {W : Nat} {i : Nat} {nm : Str} {np : Pos} {scope : Scope} {eltx : E} {elt : Expr} {cs : List Comprehension} {cpos pos : Pos} {m : Bool} {t : Nat} {x : Str} {px : Pos} {it : It} {iter : Expr} {ifs : List E} {cifs : List Expr} {gs : List G} {C₂ : SC} (hs : SlotOk C i nm)
    (hK : compOkB C scope = true) (hb : bindOkB scope (compSC C scope) t x = true) (hf : ∀ env v, foldedSetIterable iter env v = pure v) (hna : firstAsync (⟨.Name x px, iter, cifs, 0⟩ :: cs) = false)
    (hsw : ∀ env : Env, env.scope.names = C.names → env.scope.kind = .function → swapsWith (.ListComp elt (⟨.Name x px, iter, cifs, 0⟩ :: cs) scope cpos) (some (.Name nm np)) pos.line env = pure true)
    (hI : SimI c n C iter (evi F it)) (hC : SimC c n (bindSC (compSC C scope) t x) cifs (evc F ifs)) (hG : GOk c n F (ownNames scope) (bindSC (compSC C scope) t x) gs cs C₂) (hE : Sim c n C₂ elt (ev F eltx)) :
    SimS c n C (.Assign [.Name nm np] (.ListComp elt (⟨.Name x px, iter, cifs, 0⟩ :: cs) scope cpos) pos) (ex F W (.assign (.name i) (.comp m eltx (.mk [t] false it ifs :: gs)))) :=
  simS_assign_comp hF hs (compOk_of hK) hI hf (bindOk_of hb).1 (bindOk_of hb).2 hC hG hE hna hsw
end
end Mine
end
section
open PySem PySem.W PyProof.Rows PySem.SeqAt PySem.MeetsSeq
set_option maxRecDepth 100000
namespace Mine

theorem Rel.quietZ {prog : Program} {w : World} {X : Txt} {h₀ : Heap} {Z : List Addr} {lk : Nat → Nat} {h h' : Heap} {ads : Ads} {σ : Store} (R : Rel prog w X h₀ Z lk h ads σ) (Y : Addr → Prop) (hk : ∀ b o, ¬ Y b → h.get? b = some o → h'.get? b = some o)
    (hY : ∀ b, Y b → ¬ Owned ads σ b ∧ h₀.get? b = none ∧ (b ∈ Z ∨ ∀ o, h.get? b = some o → ¬ Fz o) ∧ (b ∉ Z ∨ Heap.Has h' b)) : Rel prog w X h₀ Z lk h' ads σ where
  len := R.len
  keep b o e := hk b o (fun y => by rw [(hY b y).2.1] at e; cases e) (R.keep b o e)
  objs k p o a b := (R.objs k p o a b).mono (Sub.refl _) (fun c o hw hz e => hk c o (fun y => (hY c y).2.2.1.elim (fun q => hw (.inl q)) (fun q => q o e hz)) e) (fun _ _ _ x => x)
    (fun hl x e => hk _ x (fun y => (hY _ y).1 ⟨k, p, o, a, b, hl, .inl rfl⟩) e) (fun hl x e => hk _ x (fun y => (hY _ y).1 ⟨k, p, o, a, b, hl, .inr rfl⟩) e)
  apart := R.apart
  new := R.new
  zlt a e := (Classical.em (Y a)).elim (fun y => (hY a y).2.2.2.elim (fun q => absurd e q) id) (fun y => (R.zlt a e).kept fun o => hk a o y)
  alt k p o e f l := ⟨(R.alt k p o e f l).1.kept fun x => hk _ x fun y => (hY _ y).1 ⟨k, p, o, e, f, l, .inl rfl⟩, (R.alt k p o e f l).2.kept fun x => hk _ x fun y => (hY _ y).1 ⟨k, p, o, e, f, l, .inr rfl⟩⟩
  zown := R.zown

structure ZSt (c : Cst) (Z : List Addr) (ads : Ads) (σ : Store) (h : Heap) (z TI TO i1 i2 l1 l2 : Addr) (vs1 vs2 : List Value) (k : Nat) (ds1 ds2 : List D) : Prop where
  ap : ZipApart z TI TO i1 i2 l1 l2
  zip : IsZip h z TI TO .none
  ti : IsPair h TI (.ref i1) (.ref i2)
  to : ∃ a b, IsPair h TO a b
  h1 : h.IsListIter i1 l1 k
  h2 : h.IsListIter i2 l2 k
  p1 : h.PlainList l1 vs1.toArray
  p2 : h.PlainList l2 vs2.toArray
  w1 : ¬ WW Z ads σ l1
  w2 : ¬ WW Z ads σ l2
  r1 : c.PL Z ads σ h ds1 (vs1.drop k)
  r2 : c.PL Z ads σ h ds2 (vs2.drop k)

noncomputable def Ch (z TO i1 i2 : Addr) (b : Addr) : Prop := b = z ∨ b = TO ∨ b = i1 ∨ b = i2

section
variable {c : Cst} {A : Around} {Z Z' : List Addr} {lk : Nat → Nat} {s : Shared} {ads ads' : Ads} {σ σ' : Store} {n : Nat} {C C₁ C₂ : SC} {cenv : Env} {acc : Addr} {S : Str → Prop} {h h' : Heap} {z TI TO i1 i2 l1 l2 : Addr} {vs1 vs2 : List Value} {k : Nat} {ds1 ds2 : List D}

theorem ZSt.mono (x : ZSt c Z ads σ h z TI TO i1 i2 l1 l2 vs1 vs2 k ds1 ds2) (hs : Sub ads ads') (hk5 : ∀ b o, (Ch z TO i1 i2 b ∨ b = TI) → h.get? b = some o → h'.get? b = some o) (hz : ∀ a o, ¬ WW Z ads σ a → Fz o → h.get? a = some o → h'.get? a = some o) (hW : ∀ a o, h.get? a = some o → WW Z' ads' σ' a → WW Z ads σ a) :
    ZSt c Z' ads' σ' h' z TI TO i1 i2 l1 l2 vs1 vs2 k ds1 ds2 := by
  obtain ⟨m1, q1⟩ := x.p1
  obtain ⟨m2, q2⟩ := x.p2
  refine el21 (x.to) fun a b t => ?_
  refine el12 (x.h1) fun o1 e1 f1 => ?_
  refine el12 (x.h2) fun o2 e2 f2 => ?_
  exact ⟨x.ap, hk5 _ _ (.inl (.inl rfl)) x.zip, hk5 _ _ (.inr rfl) x.ti, ⟨a, b, hk5 _ _ (.inl (.inr (.inl rfl))) t⟩, ⟨o1, hk5 _ _ (.inl (.inr (.inr (.inl rfl)))) e1, f1⟩, ⟨o2, hk5 _ _ (.inl (.inr (.inr (.inr rfl)))) e2, f2⟩,
    ⟨m1, hz _ _ x.w1 (.inl ⟨_, _, rfl⟩) q1⟩, ⟨m2, hz _ _ x.w2 (.inl ⟨_, _, rfl⟩) q2⟩, fun q => x.w1 (hW _ _ q1 q), fun q => x.w2 (hW _ _ q2 q), RepL.mono hs hz hW _ _ x.r1, RepL.mono hs hz hW _ _ x.r2⟩

theorem ZSt.kinds (x : ZSt c Z ads σ h z TI TO i1 i2 l1 l2 vs1 vs2 k ds1 ds2) : ∀ b o, Ch z TO i1 i2 b ∨ b = TI → h.get? b = some o → ((∃ vs, o.data = .fields vs) ∨ ∃ xs m, o.data = .seq xs m) ∧ Nd o ∧ o.cls ≠ .type "list" ∧ ((b = TO ∨ b = TI) ∨ ¬ Fz o) := by
  refine el21 (x.to) fun a b' t => ?_
  refine el13 (x.h1) fun o1 e1 f1 g1 => ?_
  refine el13 (x.h2) fun o2 e2 f2 g2 => ?_
  have zz := x.zip
  have ti := x.ti
  rintro b o ((rfl | rfl | rfl | rfl) | rfl) e
  · rw [zz] at e; cases e
    refine ⟨.inl ⟨_, rfl⟩, (fun es ep q => (by cases q)), (show Value.type "zip" ≠ Value.type "list" by decide), .inr fun q => ?_⟩
    rcases q with ⟨_, _, q⟩ | ⟨q, _⟩
    · cases q
    · exact absurd (show Value.type "zip" = Value.type "range" from q) (by decide)
  · rw [t] at e; cases e
    exact ⟨.inr ⟨_, _, rfl⟩, (fun es ep q => (by cases q)), (show Value.type "tuple" ≠ Value.type "list" by decide), .inl (.inl rfl)⟩
  · rw [e1] at e; cases e
    refine ⟨.inl ⟨_, g1⟩, (fun es ep q => (by rw [g1] at q; cases q)), (by rw [f1]; decide), .inr (ItK.notFz ⟨.inl f1, _, g1⟩)⟩
  · rw [e2] at e; cases e
    refine ⟨.inl ⟨_, g2⟩, (fun es ep q => (by rw [g2] at q; cases q)), (by rw [f2]; decide), .inr (ItK.notFz ⟨.inl f2, _, g2⟩)⟩
  · rw [ti] at e; cases e
    exact ⟨.inr ⟨_, _, rfl⟩, (fun es ep q => (by cases q)), (show Value.type "tuple" ≠ Value.type "list" by decide), .inl (.inr rfl)⟩
theorem ZSt.has (x : ZSt c Z ads σ h z TI TO i1 i2 l1 l2 vs1 vs2 k ds1 ds2) : ∀ b, Ch z TO i1 i2 b ∨ b = TI → Heap.Has h b := by
  refine el21 (x.to) fun a b' t => ?_
  refine el13 (x.h1) fun o1 e1 f1 g1 => ?_
  refine el13 (x.h2) fun o2 e2 f2 g2 => ?_
  rintro b ((rfl | rfl | rfl | rfl) | rfl)
  · exact ⟨_, x.zip⟩
  · exact ⟨_, t⟩
  · exact ⟨_, e1⟩
  · exact ⟨_, e2⟩
  · exact ⟨_, x.ti⟩

structure ZInv (c : Cst) (C : SC) (cenv : Env) (ρ : Loc) (Z : List Addr) (lk : Nat → Nat) (acc : Addr) (ads : Ads) (σ : Store) (s : Shared) (out : List D) (z TI TO i1 i2 l1 l2 : Addr) (vs1 vs2 : List Value) (k : Nat) (ds1 ds2 : List D) : Prop where
  inv : CInv c C cenv ρ Z lk acc ads σ s out
  st : ZSt c (acc :: Z) ads σ s.heap z TI TO i1 i2 l1 l2 vs1 vs2 k ds1 ds2
  own : ∀ b, Ch z TO i1 i2 b ∨ b = TI → ¬ Owned ads σ b ∧ c.h₀.get? b = none
  toZ : TO ∈ Z

theorem ZInv.accNe {ρ : Loc} {out : List D} (x : ZInv c C cenv ρ Z lk acc ads σ s out z TI TO i1 i2 l1 l2 vs1 vs2 k ds1 ds2) : ∀ b, Ch z TO i1 i2 b ∨ b = TI → b ≠ acc := fun b hb q => by
  refine el12 (x.inv.acc) fun vs qp268 _ => ?_; obtain ⟨m, hg⟩ := qp268
  exact (x.st.kinds b _ hb (q ▸ hg)).2.2.1 rfl
theorem ZInv.frNe {ρ : Loc} {out : List D} (x : ZInv c C cenv ρ Z lk acc ads σ s out z TI TO i1 i2 l1 l2 vs1 vs2 k ds1 ds2) : ∀ b, Ch z TO i1 i2 b ∨ b = TI → ¬ (FrA cenv b ∨ ∃ y, (y, b) ∈ cenv.cells) := fun b hb q => by
  obtain ⟨o, ho⟩ := x.st.has b hb
  obtain ⟨hk, _⟩ := x.st.kinds b o hb ho
  have hcell : ∀ y, (y, b) ∈ cenv.cells → False := fun y hy => by
    obtain ⟨_, _, ov, o', ho', hd⟩ := x.inv.V.cown y b hy
    rw [ho] at ho'; cases ho'
    rcases hk with ⟨vs, e⟩ | ⟨xs, m, e⟩ <;> rw [hd] at e <;> cases e
  rcases q with (rfl | ⟨y, hy⟩) | ⟨y, hy⟩
  · refine el12 (x.inv.V.ns) fun m qp269 _ => ?_; obtain ⟨o', es, ep, ho', hd, _⟩ := qp269
    rw [ho] at ho'; cases ho'
    rcases hk with ⟨vs, e⟩ | ⟨xs, m, e⟩ <;> rw [hd] at e <;> cases e
  · exact hcell y (mem_of_lookup hy)
  · exact hcell y hy

theorem ZInv.step {ρ : Loc} {out : List D} {tk : Nat} (x : ZInv c C cenv ρ Z lk acc ads σ s out z TI TO i1 i2 l1 l2 vs1 vs2 k ds1 ds2) (hk : ∀ b o, ¬ Ch z TO i1 i2 b → s.heap.get? b = some o → h'.get? b = some o) (hh : ∀ b, Ch z TO i1 i2 b → Heap.Has h' b) :
    CInv c C cenv ρ Z lk acc ads σ { s with heap := h', toks := tk } out ∧ (∀ a o, ¬ WW (acc :: Z) ads σ a → Fz o → s.heap.get? a = some o → h'.get? a = some o) := by
  have hz : ∀ a o, ¬ WW (acc :: Z) ads σ a → Fz o → s.heap.get? a = some o → h'.get? a = some o := fun a o hw hf e => hk a o (fun q => by
    rcases (x.st.kinds a o (.inl q) e).2.2.2 with (y | y) | y
    · exact hw (.inl (List.mem_cons_of_mem _ (y ▸ x.toZ)))
    · rcases q with q | q | q | q
      · exact x.st.ap.TIz (y.symm.trans q)
      · exact x.st.ap.TITO (y.symm.trans q)
      · exact x.st.ap.TIi1 (y.symm.trans q)
      · exact x.st.ap.TIi2 (y.symm.trans q)
    · exact y hf) e
  have R' : c.R (acc :: Z) lk h' ads σ := x.inv.R.quietZ (Ch z TO i1 i2) hk fun b hb => ⟨(x.own b (.inl hb)).1, (x.own b (.inl hb)).2, (Classical.em (b = TO)).elim (fun q => .inl (List.mem_cons_of_mem _ (q ▸ x.toZ))) (fun q => .inr fun o e hf => by
    rcases (x.st.kinds b o (.inl hb) e).2.2.2 with (y | y) | y
    · exact q y
    · rcases hb with q | q | q | q
      · exact x.st.ap.TIz (y.symm.trans q)
      · exact x.st.ap.TITO (y.symm.trans q)
      · exact x.st.ap.TIi1 (y.symm.trans q)
      · exact x.st.ap.TIi2 (y.symm.trans q)
    · exact y hf), .inr (hh b hb)⟩
  refine ⟨⟨R', x.inv.V.mono (Sub.refl _) hz (fun _ _ _ w => w) (fun a o hf e => hk a o (fun q => x.frNe a (.inl q) hf) e) (fun a h _ => h) (fun a ha o e hd => ⟨o, hk a o (fun q => ?_) e, hd⟩), ?_⟩, hz⟩
  · refine el21 (hd) fun es ep z => ?_
    exact (x.st.kinds a o (.inl q) e).2.1 es ep z
  · refine el13 (x.inv.acc) fun vs qp270 r l => ?_; obtain ⟨m, h1⟩ := qp270
    exact ⟨vs, ⟨m, hk _ _ (fun q => x.accNe acc (.inl q) rfl) h1⟩, RepL.mono (Sub.refl _) hz (fun _ _ _ w => w) _ _ r, l⟩

theorem ZSt.extY {ρ : Loc} {out : List D} {s' : Shared} (x : ZInv c C cenv ρ Z lk acc ads σ s out z TI TO i1 i2 l1 l2 vs1 vs2 k ds1 ds2) (e : ExtY (YC acc cenv) ads σ s ads' σ' s') : ZSt c (acc :: Z) ads' σ' s'.heap z TI TO i1 i2 l1 l2 vs1 vs2 k ds1 ds2 := by
  refine x.st.mono e.sub (fun b o hb q => SO.ex (e.kept b o (x.own b hb).1 (fun y => ?_) q) (x.st.kinds b o hb q).2.1) (fun a o hw hz q => SO.ex (e.kept a o (fun z => hw (.inr z)) (fun y => hw (x.inv.yFz a o y q hz)) q) hz.nd) (fun a o q hw => ?_)
  · rcases y with y | y
    · exact x.accNe b hb y
    · exact x.frNe b hb (.inl y.1)
  · rcases hw with hw | hw
    · exact .inl hw
    · rcases e.own a hw with z | z
      · exact .inr z
      · rw [q] at z; cases z
theorem ZInv.extY {ρ ρ' : Loc} {out out' : List D} {s' : Shared} (x : ZInv c C cenv ρ Z lk acc ads σ s out z TI TO i1 i2 l1 l2 vs1 vs2 k ds1 ds2) (e : ExtY (YC acc cenv) ads σ s ads' σ' s') (i : CInv c C₁ cenv ρ' Z lk acc ads' σ' s' out') :
    ZInv c C₁ cenv ρ' Z lk acc ads' σ' s' out' z TI TO i1 i2 l1 l2 vs1 vs2 k ds1 ds2 :=
  ⟨i, ZSt.extY x e, fun b hb => ⟨e.notOwned (x.own b hb).1 (x.st.has b hb), (x.own b hb).2⟩, x.toZ⟩
end
end Mine
end
section
open PySem PySem.W PyProof.Rows PySem.SeqAt PySem.MeetsSeq
set_option maxRecDepth 100000
namespace Mine

noncomputable def bodyZ (F : Env') (t u : Nat) (ifs : List E) (fe : Loc → Store → Option (D × Store)) (ρ : Loc) (d : D) (σ : Store) : Option (List D × Store) := (bindG ρ [t, u] true d).bind fun ρ' => (evc F ifs ρ' σ).bind fun q => bif q.1 then evg F [] fe ρ' q.2 else some ([], q.2)

section
variable {c : Cst} {n : Nat} {S : Str → Prop}

theorem Rel.last {prog : Program} {w : World} {X : Txt} {h₀ : Heap} {Z Z' : List Addr} {lk : Nat → Nat} {h h' : Heap} {ads : Ads} {σ : Store} (R : Rel prog w X h₀ Z lk h ads σ) (hsub : ∀ a, a ∈ Z' → a ∈ Z) (Y : Addr → Prop) (hk : ∀ b o, ¬ Y b → h.get? b = some o → h'.get? b = some o)
    (hY : ∀ b, Y b → ¬ Owned ads σ b ∧ h₀.get? b = none ∧ (b ∈ Z ∨ ∀ o, h.get? b = some o → ¬ Fz o) ∧ b ∉ Z') : Rel prog w X h₀ Z' lk h' ads σ where
  len := R.len
  keep b o e := hk b o (fun y => by rw [(hY b y).2.1] at e; cases e) (R.keep b o e)
  objs k p o a b := (R.objs k p o a b).mono (Sub.refl _) (fun c o hw hz e => hk c o (fun y => (hY c y).2.2.1.elim (fun q => hw (.inl q)) (fun q => q o e hz)) e) (fun a _ _ x => x.imp (hsub a) id)
    (fun hl x e => hk _ x (fun y => (hY _ y).1 ⟨k, p, o, a, b, hl, .inl rfl⟩) e) (fun hl x e => hk _ x (fun y => (hY _ y).1 ⟨k, p, o, a, b, hl, .inr rfl⟩) e)
  apart := R.apart
  new := R.new
  zlt a e := (R.zlt a (hsub a e)).kept fun o => hk a o fun y => (hY a y).2.2.2 e
  alt k p o e f l := ⟨(R.alt k p o e f l).1.kept fun x => hk _ x fun y => (hY _ y).1 ⟨k, p, o, e, f, l, .inl rfl⟩, (R.alt k p o e f l).2.kept fun x => hk _ x fun y => (hY _ y).1 ⟨k, p, o, e, f, l, .inr rfl⟩⟩
  zown a e := R.zown a (hsub a e)

theorem ZInv.last {Z : List Addr} {lk : Nat → Nat} {s : Shared} {ads : Ads} {σ : Store} {C : SC} {cenv : Env} {acc : Addr} {h' : Heap} {z TI TO i1 i2 l1 l2 : Addr} {vs1 vs2 : List Value} {k : Nat} {ds1 ds2 : List D} {ρ : Loc} {out : List D} {tk : Nat}
    (x : ZInv c C cenv ρ (TO :: Z) lk acc ads σ s out z TI TO i1 i2 l1 l2 vs1 vs2 k ds1 ds2) (hk : ∀ b o, ¬ Ch z TO i1 i2 b → s.heap.get? b = some o → h'.get? b = some o) (hn : ∀ b, Ch z TO i1 i2 b → b ∉ Z) :
    CInv c C cenv ρ Z lk acc ads σ { s with heap := h', toks := tk } out := by
  have hTI : ∀ a, Ch z TO i1 i2 a → a ≠ TI := fun a q y => by
    rcases q with q | q | q | q
    · exact x.st.ap.TIz (y.symm.trans q)
    · exact x.st.ap.TITO (y.symm.trans q)
    · exact x.st.ap.TIi1 (y.symm.trans q)
    · exact x.st.ap.TIi2 (y.symm.trans q)
  have hsub : ∀ a, a ∈ acc :: Z → a ∈ acc :: TO :: Z := fun a q => by
    rcases List.mem_cons.mp q with rfl | q
    · exact List.mem_cons_self
    · exact List.mem_cons_of_mem _ (List.mem_cons_of_mem _ q)
  have hww : ∀ a (o : Obj), s.heap.get? a = some o → WW (acc :: Z) ads σ a → WW (acc :: TO :: Z) ads σ a := fun a _ _ w => w.imp (hsub a) id
  have hFz : ∀ a o, Ch z TO i1 i2 a → s.heap.get? a = some o → a ∈ acc :: TO :: Z ∨ ¬ Fz o := fun a o q e => by
    rcases (x.st.kinds a o (.inl q) e).2.2.2 with (y | y) | y
    · exact .inl (y ▸ List.mem_cons_of_mem _ List.mem_cons_self)
    · exact absurd y (hTI a q)
    · exact .inr y
  have hz : ∀ a o, ¬ WW (acc :: TO :: Z) ads σ a → Fz o → s.heap.get? a = some o → h'.get? a = some o := fun a o hw hf e => hk a o (fun q => (hFz a o q e).elim (fun y => hw (.inl y)) (fun y => y hf)) e
  have R' : c.R (acc :: Z) lk h' ads σ := Rel.last x.inv.R hsub (Ch z TO i1 i2) hk fun b hb => ⟨(x.own b (.inl hb)).1, (x.own b (.inl hb)).2, ?_, fun q => ?_⟩
  · refine ⟨R', x.inv.V.mono (Sub.refl _) hz hww (fun a o hf e => hk a o (fun q => x.frNe a (.inl q) hf) e) (fun a h _ => h) (fun a ha o e hd => ⟨o, hk a o (fun q => ?_) e, hd⟩), ?_⟩
    · refine el21 (hd) fun es ep z => ?_
      exact (x.st.kinds a o (.inl q) e).2.1 es ep z
    · refine el13 (x.inv.acc) fun vs qp15 r l => ?_; obtain ⟨m, h1⟩ := qp15
      exact ⟨vs, ⟨m, hk _ _ (fun q => x.accNe acc (.inl q) rfl) h1⟩, RepL.mono (Sub.refl _) hz hww _ _ r, l⟩
  · obtain ⟨o, ho⟩ := x.st.has b (.inl hb)
    rcases hFz b o hb ho with q | q
    · exact .inl q
    · exact .inr fun o' e => by rw [ho] at e; cases e; exact q
  · rcases List.mem_cons.mp q with q | q
    · exact x.accNe b (.inl hb) q
    · exact hn b hb q

theorem zipL_cases (a b : List D) : zipL a b = [] ∧ (a = [] ∨ b = []) ∨ ∃ x y a' b', a = x :: a' ∧ b = y :: b' ∧ zipL a b = .tup [x, y] :: zipL a' b' := by
  cases a with
  | nil => exact .inl ⟨rfl, .inl rfl⟩
  | cons x a' =>
    cases b with
    | nil => exact .inl ⟨rfl, .inr rfl⟩
    | cons y b' => exact .inr ⟨x, y, a', b', rfl, rfl, rfl⟩

theorem zip_turn {F : Env'} {elt : Expr} {fe : Loc → Store → Option (D × Store)} {C C₁ C₂ : SC} {t u : Nat} {x y : Str} {px py pt : Pos} {kn : Nat} {ifs : List E} {cifs : List Expr}
    (hb : BindOk S C C₁ t x) (hnot : ∀ y, C.slots.lookup t ≠ some y) (hb2 : BindOk S C₁ C₂ u y) (hnot2 : ∀ y, C₁.slots.lookup u ≠ some y) (hC : SimC c n C₂ cifs (evc F ifs)) (hE : Sim c n C₂ elt fe)
    {A : Around} (hA : Room A n C.fr) {Z : List Addr} {lk : Nat → Nat} {s : Shared} {ads : Ads} {ρ : Loc} {σ σ₂ : Store} {r : List D} {acc : Addr} {out : List D} {cenv : Env} {z TI TO i1 i2 l1 l2 : Addr} {vs1 vs2 : List Value} {k : Nat} {d1 d2 : D} {f1 f2 : List D} {Q0 Q : Shared → Prop} {E : Value → Shared → Prop} (hS : OwnS S cenv) (hacc : c.h₀.get? acc = none)
    (hbody : bodyZ F t u ifs fe ρ (.tup [d1, d2]) σ = some (r, σ₂)) (hinv : ZInv c C cenv ρ (TO :: Z) lk acc ads σ s out z TI TO i1 i2 l1 l2 vs1 vs2 k (d1 :: f1) (d2 :: f2)) (hlen : out.length + r.length ≤ lim)
    (hQ : ∀ s' ads', ExtY (fun b => YC acc cenv b ∨ Ch z TO i1 i2 b) ads σ s ads' σ₂ s' → ZInv c C cenv ρ (TO :: Z) lk acc ads' σ₂ s' (out ++ r) z TI TO i1 i2 l1 l2 vs1 vs2 (k + 1) f1 f2 → Q s') :
    wpAny (model c.prog c.w) A (pyNext (.ref z)) (fun r s₁ => match r with
      | none => Q0 s₁
      | some v => wpAny (model c.prog c.w) A (letOwnedTupleGo (.Tuple [.Name x px, .Name y py] kn pt) (.ref z) v) (fun _ s₂ => wpAny (model c.prog c.w) A (assign (.Tuple [.Name x px, .Name y py] kn pt) cenv v) (fun _ s₃ => wpAny (model c.prog c.w) A (testsOf cifs cenv) (fun ok s₄ =>
          if ok = true then wpAny (model c.prog c.w) A (eval elt cenv) (fun x s₅ => wpAny (model c.prog c.w) A (call (.builtin "list.append") [.ref acc, x]) (fun _ s₆ => Q s₆) E s₅) E s₄ else Q s₄) E s₃) E s₂) E s₁) E s := by
  refine el21 (hinv.st.to) fun ta tb hto => ?_
  refine el23 (hinv.st.r1) fun v1 w1 hv1 rv1 rr1 => ?_
  refine el23 (hinv.st.r2) fun v2 w2 hv2 rv2 rr2 => ?_
  obtain ⟨g1, g1'⟩ := drop_cons hv1
  obtain ⟨g2, g2'⟩ := drop_cons hv2
  refine wpAny_pyNext_zip_item hinv.st.ap hinv.st.zip hinv.st.ti hto hinv.st.h1 hinv.st.h2 (PlainList.isList hinv.st.p1) (PlainList.isList hinv.st.p2) (by simpa using g1) (by simpa using g2) fun h₂ hz2 hto2 hi1 hi2 hT hsz hk => ?_
  refine wpAny_letOwnedTupleGo_zip hz2 fun h₃ hz3 hs3 => ?_
  have hTne : s.heap.objs.size ≠ z := Nat.ne_of_gt (Heap.lt_size hinv.st.zip)
  have hT3 : IsPair h₃ s.heap.objs.size v1 v2 := (hs3.2 _ hTne).trans hT
  have he : assignEach [.Name x px, .Name y py] cenv = [(false, assign (.Name x px) cenv), (false, assign (.Name y py) cenv)] := rfl
  refine wpAny_assign_Tuple hA.handled ⟨_, hT3, rfl, 0, rfl⟩ (by rw [he]; rfl) (by rw [he]; rfl) fun h₄ hx4 => ?_
  rw [he]
  have hk3 : ∀ b o, b ≠ z → h₂.get? b = some o → h₄.get? b = some o := fun b o q e => hx4 b o (fun z => by
    have e3 : h₃.get? b = some o := (hs3.2 b q).trans e
    rw [z] at e3
    rw [show ({ s with heap := h₃ } : Shared).heap.objs.size = h₃.objs.size from rfl, get_size] at e3; cases e3) ((hs3.2 b q).trans e)
  have hk4 : ∀ b o, ¬ Ch z TO i1 i2 b → s.heap.get? b = some o → h₄.get? b = some o := fun b o q e => hk3 b o (fun y => q (.inl y)) (hk b o (fun y => q (.inl y)) (fun y => q (.inr (.inl y))) (fun y => q (.inr (.inr (.inl y)))) (fun y => q (.inr (.inr (.inr y)))) e)
  have hz4 : IsZip h₄ z TI TO .none := hx4 _ _ (Nat.ne_of_lt (Heap.lt_size hz3)) hz3
  have hto4 : IsPair h₄ TO v1 v2 := hk3 _ _ hinv.st.ap.TOz hto2
  refine el12 (hi1) fun o1 q1 q1' => ?_
  refine el12 (hi2) fun o2 q2 q2' => ?_
  have hi14 : h₄.IsListIter i1 l1 (k + 1) := ⟨o1, hk3 _ _ hinv.st.ap.i1z q1, q1'⟩
  have hi24 : h₄.IsListIter i2 l2 (k + 1) := ⟨o2, hk3 _ _ hinv.st.ap.i2z q2, q2'⟩
  have hhas : ∀ b, Ch z TO i1 i2 b → Heap.Has h₄ b := by
    rintro b (rfl | rfl | rfl | rfl)
    · exact ⟨_, hz4⟩
    · exact ⟨_, hto4⟩
    · exact ⟨_, hi14.choose_spec.1⟩
    · exact ⟨_, hi24.choose_spec.1⟩
  obtain ⟨i4, hz⟩ := hinv.step (tk := s.toks) hk4 hhas
  have hww : ∀ a (o : Obj), s.heap.get? a = some o → WW (acc :: TO :: Z) ads σ a → WW (acc :: TO :: Z) ads σ a := fun _ _ _ w => w
  obtain ⟨m1, p1⟩ := hinv.st.p1
  obtain ⟨m2, p2⟩ := hinv.st.p2
  have Z4 : ZInv c C cenv ρ (TO :: Z) lk acc ads σ { s with heap := h₄, toks := s.toks } out z TI TO i1 i2 l1 l2 vs1 vs2 (k + 1) f1 f2 :=
    ⟨i4, ⟨hinv.st.ap, hz4, hk4 _ _ (fun q => by
      rcases q with q | q | q | q
      · exact hinv.st.ap.TIz q
      · exact hinv.st.ap.TITO q
      · exact hinv.st.ap.TIi1 q
      · exact hinv.st.ap.TIi2 q) hinv.st.ti, ⟨_, _, hto4⟩, hi14, hi24, ⟨m1, hz _ _ hinv.st.w1 (.inl ⟨_, _, rfl⟩) p1⟩, ⟨m2, hz _ _ hinv.st.w2 (.inl ⟨_, _, rfl⟩) p2⟩, hinv.st.w1, hinv.st.w2,
      by rw [g1']; exact RepL.mono (Sub.refl _) hz hww _ _ rr1, by rw [g2']; exact RepL.mono (Sub.refl _) hz hww _ _ rr2⟩, hinv.own, hinv.toZ⟩
  have x4 : ExtY (fun b => YC acc cenv b ∨ Ch z TO i1 i2 b) ads σ s ads σ { s with heap := h₄, toks := s.toks } :=
    ⟨⟨[], by simp⟩, fun b o _ hy e => SO.of (hk4 b o (fun q => hy (.inr q)) e), fun b ⟨o, e⟩ => (Classical.em (Ch z TO i1 i2 b)).elim (hhas b) (fun q => ⟨o, hk4 b o q e⟩), fun _ e => .inl e, ⟨_, _, rfl⟩⟩
  have rv1' : c.P (acc :: TO :: Z) ads σ h₄ d1 v1 := Rep.mono (Sub.refl _) hz hww _ _ rv1
  have rv2' : c.P (acc :: TO :: Z) ads σ h₄ d2 v2 := Rep.mono (Sub.refl _) hz hww _ _ rv2
  show wpAny _ A (holding [v2] (assign (.Name x px) cenv v1) >>= fun _ => assignInOrder [assign (.Name y py) cenv] [v2]) _ _ _
  refine wpAny_bind (wpAny_holding (wpAny_assign_Name (store_sound (s := { s with heap := h₄, toks := s.toks }) i4.R i4.V hb.names hb.fr hb.comp hb.look hb.kind rv1' fun a h₅ tk₅ ha hac hal hk₅ R₅ V₅ => ?_)))
  have i5 := i4.store (tk := tk₅) hb ha hk₅ R₅ V₅
  have y5 : ExtY (YC acc cenv) ads σ { s with heap := h₄, toks := s.toks } ads σ { s with heap := h₅, toks := tk₅ } := ExtY.one hk₅ (.inr ⟨ha, hb.kind.elim (fun q => Nat.le_of_eq (hal q).symm) fun q => hS x hb.own a (hac q)⟩) (i5.V.frHas ha)
  have Z5 := Z4.extY y5 i5
  show wpAny _ A (holding [] (assign (.Name y py) cenv v2) >>= fun _ => pure ()) _ _ _
  refine wpAny_bind (wpAny_holding (wpAny_assign_Name (store_sound (s := { s with heap := h₅, toks := tk₅ }) i5.R i5.V hb2.names hb2.fr hb2.comp hb2.look hb2.kind (y5.rep i4.yFz rv2') fun a6 h₆ tk₆ ha6 hac6 hal6 hk₆ R₆ V₆ => wpAny_pure ?_)))
  have i6 := i5.store (tk := tk₆) hb2 ha6 hk₆ R₆ V₆
  have y6 : ExtY (YC acc cenv) ads σ { s with heap := h₅, toks := tk₅ } ads σ { s with heap := h₆, toks := tk₆ } := ExtY.one hk₆ (.inr ⟨ha6, hb2.kind.elim (fun q => Nat.le_of_eq (hal6 q).symm) fun q => hS y hb2.own a6 (hac6 q)⟩) (i6.V.frHas ha6)
  have Z6 := Z5.extY y6 i6
  refine bd2 hbody fun b σt ht hbody => ?_
  have hA2 : Room A n C₂.fr := by rw [hb2.fr, hb.fr]; exact hA
  refine hC A (acc :: TO :: Z) lk _ ads _ σ cenv b σt ht hA2 i6.R i6.V _ _ fun s₇ ads₇ x7 R₇ => ?_
  have i7 := i6.ext x7 R₇
  have y7 : ExtY (YC acc cenv) ads σ _ ads₇ σt s₇ := ExtY.of_ext x7 i6.yOwn
  have Z7 := Z6.extY y7 i7
  have hYown : ∀ b, YC acc cenv b ∨ Ch z TO i1 i2 b → ¬ Owned ads σ b := fun b q => q.elim (hinv.inv.yOwn b) fun z => (hinv.own b (.inl z)).1
  have toI : ∀ {ads' σ' s' s''}, ExtY (YC acc cenv) ads σ s'' ads' σ' s' → ExtY (fun b => YC acc cenv b ∨ Ch z TO i1 i2 b) ads σ s'' ads' σ' s' := fun z => z.mono (fun _ => .inl) hYown
  have fin : ∀ s' ads' σz, σz = σ₂ → ExtY (YC acc cenv) ads₇ σt s₇ ads' σz s' → CInv c C₂ cenv ((ρ.set t (some d1)).set u (some d2)) (TO :: Z) lk acc ads' σz s' (out ++ r) → Q s' := by
    intro s' ads' σz hz y8 i8
    subst hz
    exact hQ s' ads' (x4.trans (toI ((y5.trans y6).trans (y7.trans y8)))) (Z7.extY y8 ((i8.forget hb2 hnot2).forget hb hnot))
  refine ite_b (fun hb => ?_) (fun hb => ?_)
  · refine bd2 (cond_t hb hbody) fun d3 σ8 h8 hbody => sm2 hbody fun z1 z2 => ?_
    subst z1
    show wpAny _ A (eval elt cenv) _ _ _
    refine hE A (acc :: TO :: Z) lk s₇ ads₇ _ σt cenv d3 _ h8 hA2 i7.R i7.V _ _ fun v s8 ads8 x8 R8 r8 => ?_
    have i8 := i7.ext x8 R8
    exact append_acc i8 hacc r8 hlen fun s9 y9 i9 => fin s9 ads8 _ z2 ((ExtY.of_ext x8 i7.yOwn).trans y9) i9
  · exact sm2 (cond_f hb hbody) fun z1 z2 => fin s₇ ads₇ _ z2 ExtY.refl (by rw [← z1, List.append_nil]; exact i7)

theorem zip_turns {F : Env'} (hF : LkF F.F) {elt : Expr} {scope : Scope} {pos : Pos} {fe : Loc → Store → Option (D × Store)} {C C₁ C₂ : SC} {t u : Nat} {x y : Str} {px py pt : Pos} {kn : Nat} {iter : Expr} {ifs : List E} {cifs : List Expr}
    (hb : BindOk S C C₁ t x) (hnot : ∀ y, C.slots.lookup t ≠ some y) (hb2 : BindOk S C₁ C₂ u y) (hnot2 : ∀ y, C₁.slots.lookup u ≠ some y) (hC : SimC c n C₂ cifs (evc F ifs)) (hE : Sim c n C₂ elt fe)
    {A : Around} (hA : Room A n C.fr) {Z : List Addr} {lk : Nat → Nat} {s : Shared} {ads : Ads} {ρ : Loc} {σ : Store} {rs : List D} {σ' : Store} {acc : Addr} {out : List D} {cenv : Env} {z TI TO i1 i2 l1 l2 : Addr} {vs1 vs2 : List Value} {ds1 ds2 : List D} {R : Result → Shared → Prop} (hS : OwnS S cenv) (hacc : c.h₀.get? acc = none)
    (hov : overL (bodyZ F t u ifs fe ρ) (zipL ds1 ds2) σ = some (rs, σ')) (hinv : ZInv c C cenv ρ (TO :: Z) lk acc ads σ s out z TI TO i1 i2 l1 l2 vs1 vs2 0 ds1 ds2) (hZ : ∀ b, Ch z TO i1 i2 b → b ∉ Z) (hlen : out.length + rs.length ≤ lim)
    (hR : ∀ s' ads', ExtE (fun b => YC acc cenv b ∨ Ch z TO i1 i2 b) ads σ s ads' σ' s' → CInv c C cenv ρ Z lk acc ads' σ' s' (out ++ rs) → R (.ok .next) s') :
    codeAny (model c.prog c.w) A (.compLoop (.ListComp elt [⟨.Tuple [.Name x px, .Name y py] kn pt, iter, cifs, 0⟩] scope pos) 0 (.ref z) (.ref acc) cenv) R s := by
  let Inv : Nat → Shared → Prop := fun m s₁ => ∃ k e1 e2 ads₁ σ₁ out₁ rs₁, e1.length = m ∧ overL (bodyZ F t u ifs fe ρ) (zipL e1 e2) σ₁ = some (rs₁, σ') ∧ out₁ ++ rs₁ = out ++ rs ∧ ZInv c C cenv ρ (TO :: Z) lk acc ads₁ σ₁ s₁ out₁ z TI TO i1 i2 l1 l2 vs1 vs2 k e1 e2 ∧
    ExtY (fun b => YC acc cenv b ∨ Ch z TO i1 i2 b) ads σ s ads₁ σ₁ s₁
  refine compLoop_wp Inv (fun m s₁ hI => ?_) ds1.length ⟨0, ds1, ds2, ads, σ, out, rs, rfl, hov, rfl, hinv, ExtY.refl⟩
  refine hide fun H0 k0 => ?_
  obtain ⟨k, e1, e2, ads₁, σ₁, out₁, rs₁, hm, hov, htot, hinv, hX⟩ := hI
  refine k0 ?_
  refine compTurn_wp rfl (by intro g' h; cases h) ?_
  refine el21 (hinv.st.to) fun ta tb hto => ?_
  refine hide fun H kk => ?_
  have hl1 := hinv.st.r1.length
  have hl2 := hinv.st.r2.length
  rcases zipL_cases e1 e2 with ⟨hz, hemp⟩ | ⟨d1, d2, f1, f2, rfl, rfl, hz⟩
  · rw [hz] at hov
    cases hov
    refine kk ?_
    refine wpAny_pyNext_zip_end hA.handled hinv.st.ap hinv.st.zip hinv.st.ti hto hinv.st.h1 hinv.st.h2 (PlainList.isList hinv.st.p1) (PlainList.isList hinv.st.p2) ?_ fun h' hk => ?_
    · rcases hemp with rfl | rfl
      · refine .inl ?_
        simp only [List.length_nil, List.length_drop] at hl1
        simp; omega
      · refine .inr ?_
        simp only [List.length_nil, List.length_drop] at hl2
        simp; omega
    · have hk' : ∀ b o, ¬ Ch z TO i1 i2 b → s₁.heap.get? b = some o → h'.get? b = some o := fun b o q e => hk b o (fun y => q (.inl y)) (fun y => q (.inr (.inl y))) (fun y => q (.inr (.inr (.inl y)))) (fun y => q (.inr (.inr (.inr y)))) e
      have i' := hinv.last (tk := s₁.toks) hk' hZ
      refine hR _ ads₁ ⟨hX.pre, fun b o hn hy e => SO.thru (hX.kept b o hn hy e) fun o' => hk' b o' (fun q => hy (.inr q)), hX.own, fun b hy e => (hX.has b e).kept fun o => hk' b o (fun q => hy (.inr q)), let ⟨_, _, e⟩ := hX.rest; ⟨h', s₁.toks, by rw [e]⟩⟩ ?_
      rw [← htot, List.append_nil]; exact i'
  · rw [hz] at hov
    refine bd2 hov fun r σ₂ hbody hov => bd2 hov fun rs₂ σ₃ hrest hov => ?_
    cases hov
    have hl2 : out₁.length + r.length ≤ lim := by
      have := congrArg List.length htot
      simp only [List.length_append] at this
      omega
    refine kk ?_
    refine zip_turn hb hnot hb2 hnot2 hC hE hA hS hacc hbody hinv hl2 fun s' ads' x8 z8 => ⟨rfl, f1.length, ?_, k + 1, f1, f2, ads', σ₂, out₁ ++ r, rs₂, rfl, hrest, ?_, z8, hX.trans x8⟩
    · rw [← hm]; exact Nat.lt_succ_self _
    · rw [← htot, List.append_assoc]
end
end Mine
end
section
open PySem PySem.W PyProof.Rows PySem.SeqAt PySem.MeetsSeq
set_option maxRecDepth 100000
namespace Mine
theorem ne_addr {a b : Nat} (h : a ≠ b) : (id a : Addr) ≠ b := h
theorem zip_apart {N a1 a2 : Nat} (h1 : a1 < N) (h2 : a2 < N) : ZipApart (N + 4) (N + 2) (N + 3) N (N + 1) a1 a2 :=
  ⟨ne_addr (by omega), ne_addr (by omega), ne_addr (by omega), ne_addr (by omega), ne_addr (by omega), ne_addr (by omega), ne_addr (by omega), ne_addr (by omega), ne_addr (by omega), ne_addr (by omega), ne_addr (by omega), ne_addr (by omega), ne_addr (by omega), ne_addr (by omega), ne_addr (by omega), ne_addr (by omega), ne_addr (by omega), ne_addr (by omega)⟩
section
variable {c : Cst} {A : Around} {Z : List Addr} {lk : Nat → Nat} {s : Shared} {ads : Ads} {σ σ' : Store} {n : Nat} {C C₀ : SC} {env : Env} {scope : Scope} {ρ : Loc}

theorem sim_compZ {F : Env'} (hF : LkF F.F) (B0 : Base c) {eltx : E} {elt : Expr} {pos zpos zp : Pos} {m : Bool} {t u : Nat} {x y : Str} {px py pt : Pos} {kn : Nat} {ax bx : E} {ae be : Expr} {ifs : List E} {cifs : List Expr} {C₁ C₂ : SC} (K : CompOk C scope C₀)
    (Sa : Sim c n C ae (ev F ax)) (Sb : Sim c n C be (ev F bx)) (hsa : isStarred ae = false) (hsb : isStarred be = false) (hxa : isStar ax = false) (hxb : isStar bx = false) (hk : C.names.lookup (Str.ofString "zip") = some .globalImplicit) (hg : c.gl (Str.ofString "zip") = none)
    (hb : BindOk (ownNames scope) C₀ C₁ t x) (hnot : ∀ y, C₀.slots.lookup t ≠ some y) (hb2 : BindOk (ownNames scope) C₁ C₂ u y) (hnot2 : ∀ y, C₁.slots.lookup u ≠ some y) (hC : SimC c n C₂ cifs (evc F ifs)) (hE : Sim c n C₂ elt (ev F eltx))
    (hf : ∀ env v, foldedSetIterable (.Call (.Name (Str.ofString "zip") zp) [ae, be] [] zpos) env v = pure v) (hna : firstAsync [⟨.Tuple [.Name x px, .Name y py] kn pt, .Call (.Name (Str.ofString "zip") zp) [ae, be] [] zpos, cifs, 0⟩] = false) :
    Sim c n C (.ListComp elt [⟨.Tuple [.Name x px, .Name y py] kn pt, .Call (.Name (Str.ofString "zip") zp) [ae, be] [] zpos, cifs, 0⟩] scope pos) (ev F (.comp m eltx [.mk [t, u] true (.zip ax bx) ifs])) := by
  intro A Z lk s ads ρ σ env d σ' hev hA R V Q E k
  refine bd2 hev fun l σ9 hg1 hev => ?_
  refine bd1 hev fun dd h2 hev => if_el h2 fun hl h2 => ?_
  cases h2
  refine bd3 hg1 fun li σ1 uu h1 hg1 => bd2 h1 fun da σa ha h1 => bd2 h1 fun db σb hbb h1 => bd1 h1 fun la hla h1 => bd1 h1 fun lb hlb h1 => sm3 h1 fun z1 z2 z3 => bd2 hg1 fun r' σ2 h2o hg1 => bd1 hg1 fun σ3 h3 hg1 => ?_
  refine hide fun H kk => ?_
  rw [show da = _ from asLi_inv hla] at ha
  rw [show db = _ from asLi_inv hlb] at hbb
  have z2' := z2.symm
  subst z1; subst z2'; subst z3
  clear h1
  cases h3
  cases hg1
  have h2' : overL (bodyZ F t u ifs (ev F eltx) ρ) (zipL la lb) σ1 = some (r', σ2) := h2o
  refine kk ?_
  have hfree : ∀ x, (x, NameKind.free) ∈ scope.names → ∃ a, env.cells.lookup x = some a := fun x hx => let ⟨a, _, h, _⟩ := V.has x (K.free x hx); ⟨a, h⟩
  rw [eval_ListComp, hna]
  refine wpAny_comprehension_free (g := ⟨.Tuple [.Name x px, .Name y py] kn pt, .Call (.Name (Str.ofString "zip") zp) [ae, be] [] zpos, cifs, 0⟩) (gs := []) rfl (hf env) (closureFor_eq hfree) K.kind (fun y hy hl => ?_) ?_
  · have := lookup_eq_of_mem K.nodup (show (y.1, y.2) ∈ scope.names from hy)
    rw [this, hl]
  show wpAny _ A (eval (.Call (.Name (Str.ofString "zip") zp) [ae, be] [] zpos) env) _ E s
  refine wpAny_Call_NameR (load_builtin B0 R V hk hg (show bootBuiltins (Str.ofString "zip") = some (.type "zip") by kernel_rfl) (by decide) (by decide) ?_)
  refine PyProof.Rows.callWith_type (noStars_any (by simp [noStars, hsa, hsb])) (evalArgs_plainL (by simp [noStars, hsa, hsb]) ?_)
  have hevs : evs F [ax, bx] ρ σ = some ([.list la, .list lb], σ1) := by
    rw [evs_cons hxa, ha]
    show (evs F [bx] ρ σa).bind _ = _
    rw [evs_cons hxb, hbb]
    rfl
  have SL : SimL c n C [ae, be] (evs F [ax, bx]) := simL_cons Sa (simL_cons Sb simL_nil hxb hsb) hxa hsa
  refine SL A Z lk s ads ρ σ env _ σ1 zpos hevs hA R V _ _ fun vs s1 ads1 x1 R1 r1 => ?_
  refine el23 (two_args r1) fun v1 v2 qe281 rv1 rv2 => ?_; subst qe281
  refine el25 (rv1) fun a1 vs1 qe282 qp283 w1 _ rr1 => ?_; subst qe282; obtain ⟨m1, p1⟩ := qp283
  refine el25 (rv2) fun a2 vs2 qe284 qp285 w2 _ rr2 => ?_; subst qe284; obtain ⟨m2, p2⟩ := qp285
  refine call_zip_2 (PlainList.isList ⟨m1, p1⟩) (PlainList.isList ⟨m2, p2⟩) fun h' hz hti hto hi1 hi2 hsz hkz => ?_
  refine wpAny_pyIter_zip hz ?_
  refine wpAny_newList ?_ (by simp)
  have V1 := V.ext x1
  generalize hN : s1.heap.objs.size = N at hz hti hto hi1 hi2 hsz
  have hfr : ∀ b : Nat, N ≤ b → s1.heap.get? b = none := fun b hb => Heap.get?_none_of_le (by rw [hN]; exact hb)
  have hlt : ∀ (b : Addr) (o : Obj), s1.heap.get? b = some o → (b : Nat) < N := fun b o e => by rw [← hN]; exact Heap.lt_size e
  have Rz : c.R ((N + 3) :: Z) lk h' ads1 σ1 := R1.aside (hfr (N + 3) (by omega)) hkz ⟨_, hto⟩
  have hk3 : ∀ b o, h'.get? b = some o → (h'.push { cls := .type "list", data := .seq #[] }).get? b = some o := fun b o e => Heap.get?_push_of_some _ e
  have R3 : c.R (h'.objs.size :: (N + 3) :: Z) lk (h'.push { cls := .type "list", data := .seq #[] }) ads1 σ1 := Rz.aside (get_size _) hk3 (has_push _)
  have hWz : ∀ a o, s1.heap.get? a = some o → WW (h'.objs.size :: (N + 3) :: Z) ads1 σ1 a → WW Z ads1 σ1 a := fun a o e w => by
    rcases w with w | w
    · rcases List.mem_cons.mp w with rfl | w
      · have e2 := hkz _ _ e; rw [get_size] at e2; cases e2
      · rcases List.mem_cons.mp w with rfl | w
        · rw [hfr (N + 3) (by omega)] at e; cases e
        · exact .inl w
    · exact .inr w
  have hk03 : ∀ b o, s1.heap.get? b = some o → (h'.push { cls := .type "list", data := .seq #[] }).get? b = some o := fun b o e => hk3 b o (hkz b o e)
  have V3 : EnvRel c C env ρ (h'.objs.size :: (N + 3) :: Z) ads1 σ1 (h'.push { cls := .type "list", data := .seq #[] }) := V1.mono (Sub.refl _) (fun a o _ _ e => hk03 a o e) hWz (fun a o _ e => hk03 a o e) (fun a h _ => h) (fun a _ => FrKeep.same fun o e => hk03 a o e)
  refine newEnv_comp ?_
  generalize hs3 : ({ s1 with heap := h'.push { cls := .type "list", data := .seq [].toArray } } : Shared) = s₃
  have hs3' : ({ ({ s1 with heap := h' } : Shared) with heap := h'.push { cls := .type "list", data := .seq [].toArray } } : Shared) = s₃ := hs3
  have hs3h : s₃.heap = h'.push { cls := .type "list", data := .seq #[] } := by rw [← hs3]
  rw [← hs3h] at R3 V3
  refine el04 (comp_env R3 V3 K) fun V4 R4 hk4 hS => ?_
  have hbacc : c.h₀.get? h'.objs.size = none := Rz.fresh_base (get_size _)
  let s₄ : Shared := { s₃ with heap := pushCells (s₃.heap.push { cls := .type "dict", data := .dict #[] }) scope.names }
  have hacc3 : s₃.heap.get? h'.objs.size = some { cls := .type "list", data := .seq #[] } := by rw [hs3h]; exact Heap.get?_push_size _ rfl
  have i4 : CInv c C₀ (compEnv' scope env s₃.heap.objs.size) ρ ((N + 3) :: Z) lk h'.objs.size ads1 σ1 s₄ [] := ⟨R4, V4, [], ⟨0, hk4 _ _ hacc3⟩, rfl, by simp⟩
  have hk34 : ∀ b o, h'.get? b = some o → s₄.heap.get? b = some o := fun b o e => hk4 b o (by rw [hs3h]; exact hk3 b o e)
  have hk04 : ∀ b o, s1.heap.get? b = some o → s₄.heap.get? b = some o := fun b o e => hk34 b o (hkz b o e)
  have la1 := hlt _ _ p1
  have la2 := hlt _ _ p2
  have hch : ∀ b : Addr, Ch (N + 4) (N + 3) N (N + 1) b ∨ b = N + 2 → s1.heap.get? b = none := by
    rintro b ((q | q | q | q) | q) <;> rw [q]
    · exact hfr (N + 4) (by omega)
    · exact hfr (N + 3) (by omega)
    · exact hfr N (by omega)
    · exact hfr (N + 1) (by omega)
    · exact hfr (N + 2) (by omega)
  have ap : ZipApart (N + 4) (N + 2) (N + 3) N (N + 1) a1 a2 := zip_apart la1 la2
  have hww : ∀ a o, s1.heap.get? a = some o → WW (h'.objs.size :: (N + 3) :: Z) ads1 σ1 a → WW Z ads1 σ1 a := hWz
  refine el12 (hi1) fun o1 q1 q1' => ?_
  refine el12 (hi2) fun o2 q2 q2' => ?_
  have Z4 : ZInv c C₀ (compEnv' scope env s₃.heap.objs.size) ρ ((N + 3) :: Z) lk h'.objs.size ads1 σ1 s₄ [] (N + 4) (N + 2) (N + 3) N (N + 1) a1 a2 vs1 vs2 0 la lb :=
    ⟨i4, ⟨ap, hk34 _ _ hz, hk34 _ _ hti, ⟨_, _, hk34 _ _ hto⟩, ⟨o1, hk34 _ _ q1, q1'⟩, ⟨o2, hk34 _ _ q2, q2'⟩, ⟨m1, hk04 _ _ p1⟩, ⟨m2, hk04 _ _ p2⟩, fun q => w1 (hww _ _ p1 q), fun q => w2 (hww _ _ p2 q),
      RepL.mono (Sub.refl _) (fun a o _ _ e => hk04 a o e) hww _ _ rr1, RepL.mono (Sub.refl _) (fun a o _ _ e => hk04 a o e) hww _ _ rr2⟩,
      fun b hb => ⟨fun q => R1.fresh_ww (hch b hb) (.inr q), R1.fresh_base (hch b hb)⟩, List.mem_cons_self⟩
  have hZ : ∀ b, Ch (N + 4) (N + 3) N (N + 1) b → b ∉ Z := fun b hb q => by
    obtain ⟨o, e⟩ := R1.zlt b q
    rw [hch b (.inl hb)] at e; cases e
  have x4 : Ext Z ads σ s ads1 σ1 s₄ := by
    refine x1.trans ?_
    have : s₄ = { s1 with heap := s₄.heap, toks := s1.toks } := by
      subst hs3
      rfl
    rw [this]
    exact Ext.more hk04
  have fresh : ∀ b, s1.heap.get? b = none → s.heap.get? b = none := fun b h => by
    cases e : s.heap.get? b with
    | none => rfl
    | some o => obtain ⟨o', q⟩ := x1.has b ⟨o, e⟩; rw [h] at q; cases q
  have hacc1 : s1.heap.get? h'.objs.size = none := by
    cases e : s1.heap.get? h'.objs.size with
    | none => rfl
    | some o => have e2 := hkz _ _ e; rw [get_size] at e2; cases e2
  have hL1 : ∀ b, s₃.heap.objs.size ≤ b → s1.heap.get? b = none := fun b hb => by
    cases e : s1.heap.get? b with
    | none => rfl
    | some o =>
      have := Heap.lt_size (show s₃.heap.get? b = some o by rw [hs3h]; exact hk03 b o e)
      exact absurd this (Nat.not_lt.mpr hb)
  have hY : ∀ b, (YC h'.objs.size (compEnv' scope env s₃.heap.objs.size) b ∨ Ch (N + 4) (N + 3) N (N + 1) b) → s.heap.get? b = none := by
    rintro b ((rfl | ⟨_, h⟩) | h)
    · exact fresh _ hacc1
    · exact fresh _ (hL1 b h)
    · exact fresh _ (hch b (.inl h))
  have loop : ∀ R : Result → Shared → Prop, (∀ s' ads', ExtE (fun b => YC h'.objs.size (compEnv' scope env s₃.heap.objs.size) b ∨ Ch (N + 4) (N + 3) N (N + 1) b) ads1 σ1 s₄ ads' σ2 s' → CInv c C₀ (compEnv' scope env s₃.heap.objs.size) ρ Z lk h'.objs.size ads' σ2 s' ([] ++ r') → R (.ok .next) s') →
      codeAny (model c.prog c.w) A (.compLoop (.ListComp elt [⟨.Tuple [.Name x px, .Name y py] kn pt, .Call (.Name (Str.ofString "zip") zp) [ae, be] [] zpos, cifs, 0⟩] scope pos) 0 (.ref (N + 4)) (.ref h'.objs.size) (compEnv' scope env s₃.heap.objs.size)) R s₄ :=
    fun R hR => zip_turns hF hb hnot hb2 hnot2 hC hE (by rw [K.fr]; exact hA) hS hbacc h2' Z4 hZ (by simpa using hl) hR
  refine compStart_wp (g := ⟨.Tuple [.Name x px, .Name y py] kn pt, .Call (.Name (Str.ofString "zip") zp) [ae, be] [] zpos, cifs, 0⟩) rfl rfl (loop _ ?_) (wpAny_pyIter_zip (hk34 _ _ hz) (loop _ ?_))
  all_goals
    intro s' ads' xe i6
    have x7 : Ext Z ads σ s ads' σ2 s' := ExtE.ext x4 xe hY
    refine el12 (i6.V.ns) fun mm hn' _ => ?_
    refine ⟨mm, hn', fun h5 hs5 => ?_⟩
    have hLn : s.heap.get? s₃.heap.objs.size = none := fresh _ (hL1 _ (Nat.le_refl _))
    have haccL : h'.objs.size ≠ s₃.heap.objs.size := by rw [hs3h, Heap.size_push]; exact Nat.ne_of_lt (Nat.lt_succ_self _)
    obtain ⟨x8, R8, a8⟩ := comp_leave (L := s₃.heap.objs.size) (fresh _ hacc1) hLn ⟨mm, hn'⟩ haccL x7 i6.R (by simpa using i6.acc) i6.V.lown.1 i6.V.lown.2 (by
      intro hz
      rcases List.mem_cons.mp hz with q | q
      · exact haccL q.symm
      · obtain ⟨o, e⟩ := R1.zlt _ q
        rw [hL1 _ (Nat.le_refl _)] at e; cases e) hs5
    obtain ⟨ads9, x9, R9, r9, _⟩ := comp_done' (s := { s' with heap := h5 }) R8 a8 (fun q => by
      obtain ⟨o, e⟩ := R1.zlt _ q
      rw [hacc1] at e; cases e) hbacc hev (fresh _ hacc1) x8
    exact k _ _ ads9 x9 R9 r9

theorem sim_compZB {F : Env'} (hF : LkF F.F) (B0 : Base c) {eltx : E} {elt : Expr} {pos zpos zp : Pos} {m : Bool} {t u : Nat} {x y : Str} {px py pt : Pos} {kn : Nat} {ax bx : E} {ae be : Expr} {ifs : List E} {cifs : List Expr}
    (hK : compOkB C scope = true) (hb : bindOkB scope (compSC C scope) t x = true) (hb2 : bindOkB scope (bindSC (compSC C scope) t x) u y = true)
    (hsa : isStarred ae = false) (hsb : isStarred be = false) (hxa : isStar ax = false) (hxb : isStar bx = false) (hk : C.names.lookup (Str.ofString "zip") = some .globalImplicit) (hg : c.gl (Str.ofString "zip") = none)
    (hf : ∀ env v, foldedSetIterable (.Call (.Name (Str.ofString "zip") zp) [ae, be] [] zpos) env v = pure v) (hna : firstAsync [⟨.Tuple [.Name x px, .Name y py] kn pt, .Call (.Name (Str.ofString "zip") zp) [ae, be] [] zpos, cifs, 0⟩] = false)
    (Sa : Sim c n C ae (ev F ax)) (Sb : Sim c n C be (ev F bx)) (hC : SimC c n (bindSC (bindSC (compSC C scope) t x) u y) cifs (evc F ifs)) (hE : Sim c n (bindSC (bindSC (compSC C scope) t x) u y) elt (ev F eltx)) :
    Sim c n C (.ListComp elt [⟨.Tuple [.Name x px, .Name y py] kn pt, .Call (.Name (Str.ofString "zip") zp) [ae, be] [] zpos, cifs, 0⟩] scope pos) (ev F (.comp m eltx [.mk [t, u] true (.zip ax bx) ifs])) :=
  sim_compZ hF B0 (compOk_of hK) Sa Sb hsa hsb hxa hxb hk hg (bindOk_of hb).1 (bindOk_of hb).2 (bindOk_of hb2).1 (bindOk_of hb2).2 hC hE hf hna
end
end Mine
end
section
open PySem PySem.W PyProof.Rows PySem.SeqAt PySem.MeetsSeq
set_option maxRecDepth 100000
namespace Mine
theorem all_n {α : Type} {p : α → Prop} : ∀ x ∈ ([] : List α), p x := fun x h => absurd h List.not_mem_nil
theorem all_c {α : Type} {p : α → Prop} {a : α} {l : List α} (h : p a) (k : ∀ x ∈ l, p x) : ∀ x ∈ a :: l, p x := fun x hx => (List.mem_cons.mp hx).elim (fun e => e ▸ h) (k x)
theorem lk_all {α : Type} {l : List (Nat × α)} {Q : Nat → α → Prop} (h : ∀ p ∈ l, Q p.1 p.2) : ∀ f a, l.lookup f = some a → Q f a := by
  intro f a e
  induction l with
  | nil => cases e
  | cons p l ih =>
    rw [List.lookup_cons] at e
    split at e
    · rename_i hf
      cases e
      rw [eq_of_beq hf]
      exact h _ List.mem_cons_self
    · exact ih (fun q hq => h q (List.mem_cons_of_mem _ hq)) e
theorem valsD {α : Type} {n : Nat} {P : List α → Prop} (h : ∀ a l, n ≤ l.length → P (a :: l)) : ∀ l, n + 1 ≤ l.length → P l := fun l e => by
  cases l with
  | nil => cases e
  | cons a l => exact h a l (Nat.le_of_succ_le_succ e)
theorem valsS1 {α : Type} {P : List α → Prop} (h : ∀ a r, P (a :: r)) : ∀ l, 1 ≤ l.length → P l := valsD fun a l _ => h a l
theorem valsS2 {α : Type} {P : List α → Prop} (h : ∀ a b r, P (a :: b :: r)) : ∀ l, 2 ≤ l.length → P l := valsD fun a => valsS1 (P := fun l => P (a :: l)) (h a)
theorem vals0 {α : Type} {P : List α → Prop} (h : P []) : ∀ l, l.length = 0 → P l := fun l e => by rw [List.eq_nil_of_length_eq_zero e]; exact h
theorem valsC {α : Type} {n : Nat} {P : List α → Prop} (h : ∀ a l, l.length = n → P (a :: l)) : ∀ l, l.length = n + 1 → P l := fun l e => by
  cases l with
  | nil => cases e
  | cons a l => exact h a l (Nat.succ.inj e)
theorem vals1 {α : Type} {P : List α → Prop} (h : ∀ a, P [a]) : ∀ l, l.length = 1 → P l := valsC fun a => vals0 (P := fun l => P (a :: l)) (h a)
theorem vals2 {α : Type} {P : List α → Prop} (h : ∀ a b, P [a, b]) : ∀ l, l.length = 2 → P l := valsC fun a => vals1 (P := fun l => P (a :: l)) (h a)
theorem vals3 {α : Type} {P : List α → Prop} (h : ∀ a b c, P [a, b, c]) : ∀ l, l.length = 3 → P l := valsC fun a => vals2 (P := fun l => P (a :: l)) (h a)
theorem fdOk_of {c : Cst} {P : Prog'} {fn : Fn} {fa : Addr} {fd : FuncData} {body : List Stmt} {ps : List Str} {slots : List (Nat × Str)} (obj : ∃ o, c.h₀.get? fa = some o ∧ o.data = .func fd) (code : c.h₀.CodeRec fd.code fd.qualname)
    (bd : fd.body = .stmts body) (clo : fd.closure = []) (co : fd.scope.isCoroutine = false) (gen : fd.scope.isGenerator = false) (kind : fd.scope.kind = .function) (glob : fd.globals = mainGlobals) (bu : fd.builtins = builtinsNs)
    (nd : decide (fd.scope.names.map (·.1)).Nodup = true) (pn : decide ps.Nodup = true) (pk : (ps.all fun x => fd.scope.names.lookup x == some .local || fd.scope.names.lookup x == some .cell) = true)
    (sl : (slots.all fun p => decide (ps.length ≤ p.1) || ps[p.1]? == some p.2) = true) (bind : BindsF c fn fd ps)
    (sim : ∀ n fr, FunOk c n (callF P n) → SimSS c n ⟨fd.scope.names, slots, fr, false⟩ body (exs ⟨P.globs, callF P n⟩ P.W fn.body)) : FdOk c P fn fa fd body ps slots :=
  ⟨obj, code, bd, clo, co, gen, kind, glob, bu, of_decide_eq_true nd, of_decide_eq_true pn, fun x hx => by
    have := List.all_eq_true.mp pk x hx
    simpa [Bool.or_eq_true] using this, fun i x h hi => by
    have := List.all_eq_true.mp sl _ (lookupN_mem h)
    simp only [Bool.or_eq_true, decide_eq_true_eq, beq_iff_eq] at this
    rcases this with q | q
    · omega
    · exact q, bind, sim⟩

mutual
noncomputable def nrS : S → Bool
  | .ret _ => false
  | .expr _ => true
  | .assign _ _ => true
  | .bad => true
  | .ife _ a b => nrSS a && nrSS b
  | _ => false
noncomputable def nrSS : List S → Bool
  | [] => true
  | x :: xs => nrS x && nrSS xs
end
mutual
theorem nr_ex {X : Env'} {W : Nat} : ∀ (x : S) {ρ ρ' : Loc} {σ σ' : Store} {fl : Fl}, nrS x = true → ex X W x ρ σ = some (fl, ρ', σ') → fl = .next
  | .expr e, ρ, ρ', σ, σ', fl, h, he => bd1 he fun _ _ he => sm3 he fun q _ _ => q.symm
  | .assign t e, ρ, ρ', σ, σ', fl, h, he => bd1 he fun _ _ he => bd1 he fun _ _ he => sm3 he fun q _ _ => q.symm
  | .bad, ρ, ρ', σ, σ', fl, h, he => no_el he
  | .ife c a b, ρ, ρ', σ, σ', fl, h, he => bd2 he fun t σ1 _ he => by
    have h := Bool.and_eq_true_iff.mp (show (nrSS a && nrSS b) = true from h)
    cases t with
    | true => exact nr_exs a h.1 he
    | false => exact nr_exs b h.2 he
  | .ret _, _, _, _, _, _, h, _ => Bool.noConfusion h
  | .assign2 _ _ _, _, _, _, _, _, h, _ => Bool.noConfusion h
  | .aug _ _ _ _, _, _, _, _, _, h, _ => Bool.noConfusion h
  | .ifNone _ _ _, _, _, _, _, _, h, _ => Bool.noConfusion h
  | .whil _ _ _, _, _, _, _, _, h, _ => Bool.noConfusion h
  | .fore _ _ _, _, _, _, _, _, h, _ => Bool.noConfusion h
  | .brk, _, _, _, _, _, h, _ => Bool.noConfusion h
  | .cont, _, _, _, _, _, h, _ => Bool.noConfusion h
  | .pass, _, _, _, _, _, h, _ => Bool.noConfusion h
  | .del _ _, _, _, _, _, _, h, _ => Bool.noConfusion h
  | .tryPlain _, _, _, _, _, _, h, _ => Bool.noConfusion h
  | .tryNext _ _ _, _, _, _, _, _, h, _ => Bool.noConfusion h
  | .freeze _, _, _, _, _, _, h, _ => Bool.noConfusion h
theorem nr_exs {X : Env'} {W : Nat} : ∀ (xs : List S) {ρ ρ' : Loc} {σ σ' : Store} {fl : Fl}, nrSS xs = true → exs X W xs ρ σ = some (fl, ρ', σ') → fl = .next
  | [], ρ, ρ', σ, σ', fl, h, he => sm3 he fun q _ _ => q.symm
  | x :: xs, ρ, ρ', σ, σ', fl, h, he => by
    have h := Bool.and_eq_true_iff.mp (show (nrS x && nrSS xs) = true from h)
    rcases exs_cons he with ⟨ρ1, σ1, h1, h2⟩ | ⟨h1, hne⟩
    · exact nr_exs xs h.2 h2
    · exact nr_ex x h.1 h1
end
theorem nr_callF {P : Prog'} {n f : Nat} {fn : Fn} {l : List D} {σ σ' : Store} {d : D} (hf : P.fns f = some fn) (hn : nrSS fn.body = true) (h : callF P n f l σ = some (d, σ')) : d = .none := by
  cases n with
  | zero => exact no_el h
  | succ n =>
    refine bd1 h fun fn2 hf2 h => bd1 h fun ρ hb h => bd3 h fun fl ρ1 σ1 e h => ?_
    cases hf2.symm.trans hf
    cases nr_exs _ hn e
    exact sm2 h fun q _ => q.symm
end Mine
end
section
open PySem PySem.W PyProof.Rows
namespace Mine
namespace P02
noncomputable def bad : Stmt := .Pass ⟨0, 0, 0, 0⟩
noncomputable def stm (p : Program) (i : Nat) : Stmt := p.main.body.getD i bad
noncomputable def inC (s : Stmt) (j : Nat) : Stmt := match s with
  | .ClassDef _ _ _ b _ _ _ _ _ _ _ => b.getD j bad
  | _ => bad
noncomputable def fO (s : Stmt) (q : Str) (df md : Value) (code : Addr) : Obj := match s with
  | .FunctionDef n a b _ _ _ sc _ _ _ => { cls := .type "function", data := .func { name := n, qualname := q, params := a, body := .stmts b, scope := sc, globals := 3, closure := [], defaults := df, kwdefaults := .none, pyModule := md, code := .ref code } }
  | _ => { cls := .none }
noncomputable def cO (n q file : Str) (t line na fl r u : Nat) (m : Bool) : Obj := { cls := .type "code", data := .fields #[.str n t, .str q (t + 1), .str file (t + 2), .int line 0, .int na 0, .int 0 0, .int 0 0, .int fl 0, .ref r, .bool true, .int 181 0, .ref (r + 1), .none,
  bif m then .ref (r + 2) else .none, bif m then .ref (r + 3) else .none, .ref (bif m then r + 4 else r + 2), .int u 0, .int line 0, .str file (u + 1)] }
noncomputable def dE (P : Params) (e : Str × Nat × Value) : DictEntry := ⟨PyData.keyHash P e.1, .str e.1 e.2.1, e.2.2⟩
noncomputable def dO (P : Params) (es : List (Str × Nat × Value)) (n : Nat) : Obj := { cls := .type "dict", data := .dict (es.map (dE P)).toArray n }
noncomputable def mdS : Value := .str "cpy313.statistics" 194
noncomputable def mdG : Value := .str "cpy313.graphlib" 230
noncomputable def mdL : Value := .str "law_dn0070_02" 412
noncomputable def file : Str := "/claim/cut.py"
noncomputable def g3a : List (Str × Nat × Value) := [("__name__", 165, mdL), ("__doc__", 166, .none), ("__package__", 167, .none), ("__loader__", 168, .builtin "__main__.__loader__#opaque"), ("__spec__", 169, .none), ("__annotations__", 170, .ref 6), ("__builtins__", 171, .ref 4), ("__file__", 173, .str file 172), ("__cached__", 174, .none)]
noncomputable def g3b : List (Str × Nat × Value) := [("_wall", 193, .ref 21), ("StatisticsError", 213, .ref 31), ("median_low", 221, .ref 41), ("median_high", 229, .ref 48), ("_NODE_OUT", 234, .int (-1) 233), ("_NODE_DONE", 237, .int (-2) 236), ("_NodeInfo", 274, .ref 67), ("CycleError", 292, .ref 82)]
noncomputable def g3c : List (Str × Nat × Value) := [("TopologicalSorter", 411, .ref 164), ("_law_orders", 419, .ref 173), ("_law_rows", 425, .ref 178), ("_law_sorter", 435, .ref 185), ("_law_lets_through", 446, .ref 192), ("law", 452, .ref 197)]
noncomputable def g3 : List (Str × Nat × Value) := g3a ++ (g3b ++ g3c)
noncomputable def k41 (p : Program) : Frag := [(40, cO "median_low" "median_low" file 214 7 1 3 35 219 true), (41, fO (stm p 3) "median_low" .none mdS 40),
  (47, cO "median_high" "median_high" file 222 16 1 3 42 227 true), (48, fO (stm p 4) "median_high" .none mdS 47)]
noncomputable def k62 (p : Program) : Frag := [(62, cO "__init__" "_NodeInfo.__init__" file 254 28 2 3 57 259 true), (63, fO (inC (stm p 8) 1) "_NodeInfo.__init__" .none mdG 62)]
noncomputable def d66 : List (Str × Nat × Value) := [("__module__", 245, mdG), ("__firstlineno__", 249, .int 25 248), ("__slots__", 253, .ref 56), ("__init__", 261, .ref 63), ("__static_attributes__", 265, .ref 64), ("node", 267, .ref 68), ("npredecessors", 269, .ref 69), ("successors", 271, .ref 70), ("__doc__", 272, .none)]
noncomputable def k67 : Frag := [(67, { cls := .type "type", data := .cls { name := "_NodeInfo", bases := [.type "object"], mro := [.ref 67, .type "object"], ns := 66, qualname := "_NodeInfo", hasDict := false, slotNames := ["node", "npredecessors", "successors"] }, slots := #[none, none, some (.str "_NodeInfo" 238), some (.str "_NodeInfo" 246), some (.builtin "object.__new__"), some (.bool false)] })]
noncomputable def sO (n : Str) (t : Nat) (i : Int) : Obj := { cls := .type "member_descriptor", data := .fields #[.str n t, .ref 67, .builtin "proto.slot", .builtin "proto.slot#set", .int i 0] }
noncomputable def k68 : Frag := [(68, sO "node" 266 2), (69, sO "npredecessors" 268 1), (70, sO "successors" 270 0), (93, { cls := .type "tuple", data := .seq #[.none] })]
noncomputable def mO (n q : Str) (p : Program) (i t line na fl r u : Nat) (m : Bool) (df : Value) : Frag :=
  [(bif m then r + 5 else r + 3, cO n q file t line na fl r u m), (bif m then r + 6 else r + 4, fO (inC (stm p 10) i) q df mdG (bif m then r + 5 else r + 3))]
noncomputable def k100 (p : Program) : Frag := mO "__init__" "TopologicalSorter.__init__" p 0 305 36 2 3 94 312 true (.ref 93)
noncomputable def k107 (p : Program) : Frag := mO "_get_nodeinfo" "TopologicalSorter._get_nodeinfo" p 1 315 45 2 3 101 321 true .none
noncomputable def k114 (p : Program) : Frag := mO "add" "TopologicalSorter.add" p 2 324 50 2 7 108 333 true .none
noncomputable def k119 (p : Program) : Frag := mO "prepare" "TopologicalSorter.prepare" p 3 336 59 1 3 115 339 false .none
noncomputable def k126 (p : Program) : Frag := mO "get_ready" "TopologicalSorter.get_ready" p 4 342 67 1 3 120 349 true .none
noncomputable def k133 (p : Program) : Frag := mO "is_active" "TopologicalSorter.is_active" p 5 352 78 1 3 127 356 true .none
noncomputable def k147 (p : Program) : Frag := mO "done" "TopologicalSorter.done" p 7 366 86 1 7 141 377 true .none
noncomputable def k154 (p : Program) : Frag := mO "_find_cycle" "TopologicalSorter._find_cycle" p 8 380 109 1 3 148 390 true .none
noncomputable def d163a : List (Str × Nat × Value) := [("__module__", 300, mdG), ("__firstlineno__", 304, .int 34 303), ("__init__", 314, .ref 100), ("_get_nodeinfo", 323, .ref 107), ("add", 335, .ref 114), ("prepare", 341, .ref 119), ("get_ready", 351, .ref 126), ("is_active", 358, .ref 133)]
noncomputable def d163b : List (Str × Nat × Value) := [("__bool__", 365, .ref 140), ("done", 379, .ref 147), ("_find_cycle", 392, .ref 154), ("static_order", 399, .ref 161), ("__static_attributes__", 404, .ref 162), ("__dict__", 406, .ref 165), ("__weakref__", 408, .ref 166), ("__doc__", 409, .none)]
noncomputable def k164 : Frag := [(164, { cls := .type "type", data := .cls { name := "TopologicalSorter", bases := [.type "object"], mro := [.ref 164, .type "object"], ns := 163, qualname := "TopologicalSorter" }, slots := #[none, none, some (.str "TopologicalSorter" 293), some (.str "TopologicalSorter" 301), some (.builtin "object.__new__"), some (.bool true)] })]
noncomputable def lO (n : Str) (p : Program) (i t line na r u : Nat) (m : Bool) : Frag :=
  [(bif m then r + 5 else r + 3, cO n n file t line na 3 r u m), (bif m then r + 6 else r + 4, fO (stm p i) n .none mdL (bif m then r + 5 else r + 3))]
noncomputable def kL (p : Program) : Frag := lO "_law_orders" p 12 414 141 1 169 417 false ++ (lO "_law_rows" p 13 420 145 1 174 423 false ++ (lO "_law_sorter" p 14 426 155 1 179 433 true ++ (lO "_law_lets_through" p 15 436 161 2 186 444 true ++ lO "law" p 16 447 170 1 193 450 false)))
noncomputable def prg : Program := PySem.Challenge.pw_dn0070_02
noncomputable def K (P : Params) : Frag := (3, dO P g3 23) :: (k41 prg ++ (k62 prg ++ ((66, dO P d66 5) :: (k67 ++ (k68 ++ (k100 prg ++ (k107 prg ++ (k114 prg ++ (k119 prg ++ (k126 prg ++ (k133 prg ++ (k147 prg ++ (k154 prg ++ ((163, dO P (d163a ++ d163b) 4) :: (k164 ++ kL prg)))))))))))))))
noncomputable def at_ : List Addr := [3, 40, 41, 47, 48, 62, 63, 66, 67, 68, 69, 70, 93, 99, 100, 106, 107, 113, 114, 118, 119, 125, 126, 132, 133, 146, 147, 153, 154, 163, 164, 172, 173, 177, 178, 184, 185, 191, 192, 196, 197]
theorem atK (P : Params) : at_ = (K P).map (·.1) := by kernel_rfl
end P02
end Mine
end
section
open PySem PySem.W PyProof.Rows
set_option maxRecDepth 100000
namespace Mine
namespace P02
noncomputable def qv : Program := view prg [0, 2, 3, 4, 6, 7, 8, 9, 10, 12, 13, 14, 15, 16]
noncomputable def lo : List Str := ["_NodeInfo"]
noncomputable def Xt (s : Shared) : Bool := xlAt qv [] s && recOk (RowW.records PySem.Challenge.rw_dn0070_02.row.toRowW) s
noncomputable def lhs (w : World) := (openEnds treeTable prg w 3024).map (fun s => (openSeen qv lo (importedModules prg.main.body) Xt true s, at_.map s.heap.get?))
noncomputable def rhs (w : World) := some (openGood qv lo, (K w.params).map fun p => some p.2)
noncomputable def both {α β : Sort _} (_ : α) (_ : β) : Bool := true
set_option maxHeartbeats 8000000 in
theorem twins : both lhs rhs = true := by k_qdec
end P02
end Mine
end
section
open PySem PySem.W PyProof.Rows
set_option maxRecDepth 100000
namespace Mine
namespace P02
set_option maxHeartbeats 8000000 in
theorem lr (w : World) : PySem.W.Fast.tw8912812810505865544 w = PySem.W.Fast.tw4798113344179070851 w := by kernel_rfl
theorem left (w : World) : lhs w = rhs w := by
  rw [PySem.W.Fast.te8912812810505865544, PySem.W.Fast.te4798113344179070851]
  exact lr w
end P02
end Mine
end
section
open PySem PySem.W PyProof.Rows
set_option maxRecDepth 100000
namespace Mine
namespace P02
noncomputable def hk : Hook := kHook K at_ atK
theorem topH {d : DefRec} {kwd : List (Str × Expr)} (h1 : defOf qv PySem.Challenge.rw_dn0070_02.row.name = some (d, kwd)) (h2 : PySem.Challenge.rw_dn0070_02.row.prog.theDef PySem.Challenge.rw_dn0070_02.row.name = some (d.params, d.body, d.scope)) (h3 : kwWritten? d.params.kwonlyargs d.params.kw_defaults = some kwd)
    (walk : WalkO qv lo (XL qv []) hk.says PySem.Challenge.rw_dn0070_02.row.toRowW d kwd fun f vs => call f vs) : PySem.Challenge.rw_dn0070_02.Holds := by
  w_on
  o_law
  refine PySem.W.holds_open (q := qv) (loose := lo) (Xt := Xt) (XP := XL qv []) (Yf := hk.obs) (Ya := hk.val) (YP := hk.says) (N := 3024) left hk.of hk.keeps (fun s e => xl_of s (Bool.and_eq_true_iff.mp e).1) XL.keeps h1 h2 h3 (fun s e => recFacts_of (Bool.and_eq_true_iff.mp e).2) (by rfl) (by first | assumption | decide +kernel) (by decide +kernel) ⟨rfl, rfl, rfl, rfl, rfl, by decide +kernel⟩ ?hw walk
  case hw => w_witness2
end P02
end Mine
end
section
open PySem
namespace Mine
namespace P02
noncomputable def f_median_low : Fn := ⟨1, 0, false, 2, [.assign (.name 0) (.bi .sorted [.var 0]), .assign (.name 1) (.bi .len [.var 0]), .ife (.cmp .Eq (.var 1) (.int 0)) [.bad] [], .ife (.cmp .Eq (.bin .Mod (.var 1) (.int 2)) (.int 1)) [.ret (.idx (.var 0) (.bin .FloorDiv (.var 1) (.int 2)))] [.ret (.idx (.var 0) (.bin .Sub (.bin .FloorDiv (.var 1) (.int 2)) (.int 1)))]]⟩
noncomputable def f_median_high : Fn := ⟨1, 0, false, 2, [.assign (.name 0) (.bi .sorted [.var 0]), .assign (.name 1) (.bi .len [.var 0]), .ife (.cmp .Eq (.var 1) (.int 0)) [.bad] [], .ret (.idx (.var 0) (.bin .FloorDiv (.var 1) (.int 2)))]⟩
noncomputable def f_init_NodeInfo : Fn := ⟨2, 0, false, 2, [.assign (.attr (.var 0) 4) (.var 1), .assign (.attr (.var 0) 5) (.int 0), .assign (.attr (.var 0) 6) (.list true [])]⟩
noncomputable def f_init_TopologicalSorter : Fn := ⟨2, 1, false, 4, [.assign (.attr (.var 0) 0) (.dict0), .assign (.attr (.var 0) 1) (E.none), .assign (.attr (.var 0) 2) (.int 0), .assign (.attr (.var 0) 3) (.int 0), .ife (.cmp .IsNot (.var 1) (E.none)) [.bad] []]⟩
noncomputable def f_get_nodeinfo : Fn := ⟨2, 0, false, 3, [.ifNone 2 (.bmeth (.attr (.var 0) 0) .get [.var 1]) [.assign2 (.sub (.attr (.var 0) 0) (.var 1)) (.name 2) (.new 1 [.var 1])], .ret (.var 2)]⟩
noncomputable def f_add : Fn := ⟨2, 0, true, 6, [.ife (.cmp .IsNot (.attr (.var 0) 1) (E.none)) [.bad] [], .assign (.name 3) (.umeth (.var 0) 3 [.var 1]), .aug (.var 3) 5 .Add (.bi .len [.var 2]), .fore (.name 4) (.var 2) [.assign (.name 5) (.umeth (.var 0) 3 [.var 4]), .expr (.bmeth (.attr (.var 5) 6) .append [.var 1])]]⟩
noncomputable def f_prepare : Fn := ⟨1, 0, false, 3, [.ife (.cmp .IsNot (.attr (.var 0) 1) (E.none)) [.bad] [], .assign (.attr (.var 0) 1) (.comp true (.attr (.var 2) 4) [.mk [2] false (.vals (.attr (.var 0) 0)) [.cmp .Eq (.attr (.var 2) 5) (.int 0)]]), .assign (.name 1) (.umeth (.var 0) 9 []), .ife (.var 1) [.bad] []]⟩
noncomputable def f_get_ready : Fn := ⟨1, 0, false, 4, [.ife (.cmp .Is (.attr (.var 0) 1) (E.none)) [.bad] [], .assign (.name 1) (.bi .tuple [.attr (.var 0) 1]), .assign (.name 2) (.attr (.var 0) 0), .fore (.name 3) (.var 1) [.assign (.attr (.idx (.var 2) (.var 3)) 5) (.glob 0)], .expr (.bmeth (.attr (.var 0) 1) .clear []), .aug (.var 0) 2 .Add (.bi .len [.var 1]), .ret (.var 1)]⟩
noncomputable def f_is_active : Fn := ⟨1, 0, false, 1, [.ife (.cmp .Is (.attr (.var 0) 1) (E.none)) [.bad] [], .ret (.or (.cmp .Lt (.attr (.var 0) 3) (.attr (.var 0) 2)) (.bi .bool [.attr (.var 0) 1]))]⟩
noncomputable def f_done : Fn := ⟨1, 0, true, 8, [.ife (.cmp .Is (.attr (.var 0) 1) (E.none)) [.bad] [], .assign (.name 2) (.attr (.var 0) 0), .fore (.name 3) (.var 1) [.ifNone 4 (.bmeth (.var 2) .get [.var 3]) [.bad], .assign (.name 5) (.attr (.var 4) 5), .ife (.cmp .NotEq (.var 5) (.glob 0)) [.ife (.cmp .GtE (.var 5) (.int 0)) [.bad] [.ife (.cmp .Eq (.var 5) (.glob 1)) [.bad] [.bad]]] [], .assign (.attr (.var 4) 5) (.glob 1), .fore (.name 6) (.attr (.var 4) 6) [.assign (.name 7) (.idx (.var 2) (.var 6)), .aug (.var 7) 5 .Sub (.int 1), .ife (.cmp .Eq (.attr (.var 7) 5) (.int 0)) [.expr (.bmeth (.attr (.var 0) 1) .append [.var 6])] []], .aug (.var 0) 3 .Add (.int 1)]]⟩
noncomputable def f_find_cycle : Fn := ⟨1, 0, false, 7, [.assign (.name 1) (.attr (.var 0) 0), .assign (.name 2) (.list true []), .assign (.name 3) (.list true []), .assign (.name 4) (.bi .set []), .assign (.name 5) (.dict0), .fore (.name 6) (.var 1) [.ife (.cmp .In (.var 6) (.var 4)) [.cont] [], .whil (.bool true) [.ife (.cmp .In (.var 6) (.var 4)) [.ife (.cmp .In (.var 6) (.var 5)) [.bad] []] [.expr (.bmeth (.var 4) .add [.var 6]), .expr (.bmeth (.var 3) .append [.nextOf (.bi .iter [.attr (.idx (.var 1) (.var 6)) 6])]), .assign (.sub (.var 5) (.var 6)) (.bi .len [.var 2]), .expr (.bmeth (.var 2) .append [.var 6])], .whil (.var 2) [.tryNext 6 (.idx (.var 3) (.neg (.int 1))) [.del (.var 5) (.bmeth (.var 2) .pop []), .expr (.bmeth (.var 3) .pop [])]] [.brk]] []], .ret (E.none)]⟩
noncomputable def f_law_orders : Fn := ⟨1, 0, false, 4, [.ife (.cmp .Eq (.var 0) (.list false [])) [.ret (.list false [.list false []])] [], .ret (.comp false (.bin .Add (.list false [.var 1]) (.var 3)) [.mk [1] false (.e (.var 0)) [], .mk [3] false (.e (.call 20 [.comp false (.var 2) [.mk [2] false (.e (.var 0)) [.cmp .NotEq (.var 2) (.var 1)]]])) []])]⟩
noncomputable def f_law_rows : Fn := ⟨1, 0, false, 7, [.assign (.name 1) (.list false [.int 0, .int 1, .int 2, .int 3]), .assign (.name 2) (.list true [.var 1]), .whil (.cmp .NotEq (.var 1) (.list false [.int 3, .int 2, .int 1, .int 0])) [.assign (.name 3) (.comp false (.var 6) [.mk [6] false (.e (.bi .range [.int 3])) [.cmp .Lt (.idx (.var 1) (.var 6)) (.idx (.var 1) (.bin .Add (.var 6) (.int 1)))]]), .assign (.tup [(.name 0), (.name 4)]) (.bi .divmod [.var 0, .bi .len [.var 3]]), .assign (.name 5) (.idx (.var 3) (.var 4)), .assign (.name 1) (.bin .Add (.bin .Add (.slice (.var 1) .none (some (.var 5))) (.list false [.idx (.var 1) (.bin .Add (.var 5) (.int 1)), .idx (.var 1) (.var 5)])) (.slice (.var 1) (some (.bin .Add (.var 5) (.int 2))) .none)), .expr (.bmeth (.var 2) .append [.var 1])] [], .freeze 2, .ret (.var 2)]⟩
noncomputable def f_law_sorter : Fn := ⟨1, 0, false, 4, [.assign (.name 1) (.new 0 []), .fore (.tup [(.name 2), (.name 3)]) (.var 0) [.expr (.umeth (.var 1) 4 [.var 2, .star (.var 3)])], .expr (.umeth (.var 1) 5 []), .ret (.var 1)]⟩
noncomputable def f_law_lets_through : Fn := ⟨2, 0, false, 5, [.assign (.name 2) (.call 22 [.var 0]), .assign (.name 3) (.list true []), .fore (.name 4) (.var 1) [.expr (.bmeth (.var 3) .extend [.umeth (.var 2) 6 []]), .ife (.cmp .NotIn (.var 4) (.var 3)) [.ret (.bool false)] [], .expr (.umeth (.var 2) 8 [.var 4])], .ret (.not (.umeth (.var 2) 7 []))]⟩
noncomputable def f_law : Fn := ⟨1, 0, false, 30, [.assign (.name 1) (.int 7), .fore (.name 2) (.var 0) [.assign (.name 1) (.bin .Add (.bin .Mult (.var 1) (.int 61)) (.var 2))], .assign (.name 3) (.call 21 [.bi .abs [.var 1]]), .assign (.name 4) (.or (.comp false (.bin .Mod (.var 16) (.int 7)) [.mk [16] false (.e (.var 0)) []]) (.list false [.int 1, .int 3, .int 4])), .assign (.name 5) (.list true []), .fore (.name 6) (.bi .range [.int 4]) [.expr (.bmeth (.var 5) .append [.comp false (.bi .len [.comp false (.var 18) [.mk [18] false (.e (.var 4)) [.cmp .Lt (.bmeth (.idx (.var 3) (.var 18)) .index [.var 6]) (.bmeth (.idx (.var 3) (.var 18)) .index [.var 17])]]]) [.mk [17] false (.e (.bi .range [.int 4])) []]])], .freeze 5, .assign (.name 7) (.comp true (.tup [.var 19, .list false []]) [.mk [19] false (.e (.bi .range [.int 4])) []]), .expr (.bmeth (.var 7) .extend [.comp false (.tup [.var 21, .list false [.var 20]]) [.mk [20] false (.e (.bi .range [.int 4])) [], .mk [21] false (.e (.bi .range [.int 4])) [.cmp .Gt (.idx (.idx (.var 5) (.var 20)) (.var 21)) (.idx (.idx (.var 5) (.var 21)) (.var 20))]]]), .freeze 7, .tryPlain [.assign (.name 8) (.call 22 [.var 7])], .assign (.name 9) (.call 20 [.list false [.int 0, .int 1, .int 2, .int 3]]), .assign (.name 10) (.comp false (.bi .sum [.comp false (.idx (.idx (.var 5) (.idx (.var 22) (.var 23))) (.idx (.var 22) (.var 24))) [.mk [23] false (.e (.bi .range [.int 4])) [], .mk [24] false (.e (.bi .range [.var 23])) []]]) [.mk [22] false (.e (.var 9)) []]), .assign (.name 11) (.comp false (.var 25) [.mk [25] false (.e (.var 9)) [.call 23 [.var 7, .var 25]]]), .ife (.cmp .NotEq (.var 11) (.comp false (.var 26) [.mk [26, 27] true (.zip (.var 9) (.var 10)) [.cmp .Eq (.var 27) (.bi .min [.var 10])]])) [.ret (.bool false)] [], .assign (.name 12) (.call 0 [.var 4]), .assign (.name 13) (.call 1 [.var 4]), .ife (.cmp .NotEq (.comp false (.var 28) [.mk [28] false (.e (.bi .range [.int 7])) [.cmp .In (.idx (.var 3) (.var 28)) (.var 11)]]) (.bi .list [.bi .range [.var 12, .bin .Add (.var 13) (.int 1)]])) [.ret (.bool false)] [], .ife (.cmp .NotEq (.var 4) (.or (.comp false (.bin .Mod (.var 29) (.int 7)) [.mk [29] false (.e (.var 0)) []]) (.list false [.int 1, .int 3, .int 4]))) [.ret (.bool false)] [], .assign (.name 14) (.list true []), .assign (.name 15) (.umeth (.var 8) 6 []), .whil (.cmp .Gt (.bi .len [.var 15]) (.int 0)) [.expr (.bmeth (.var 14) .extend [.var 15]), .expr (.umeth (.var 8) 8 [.star (.var 15)]), .assign (.name 15) (.umeth (.var 8) 6 [])] [], .freeze 14, .ret (.cmp .In (.var 14) (.var 11))]⟩
noncomputable def fnsL : List (Nat × Fn) := [(0, f_median_low), (1, f_median_high), (3, f_get_nodeinfo), (4, f_add), (5, f_prepare), (6, f_get_ready), (7, f_is_active), (8, f_done), (9, f_find_cycle), (20, f_law_orders), (21, f_law_rows), (22, f_law_sorter), (23, f_law_lets_through), (40, f_law), (1000, f_init_TopologicalSorter), (1001, f_init_NodeInfo)]
noncomputable def fns (k : Nat) : Option Fn := fnsL.lookup k
noncomputable def globs (k : Nat) : Option D := [(0, D.int (-1)), (1, D.int (-2)), (2, D.fn 0), (3, D.fn 1)].lookup k
noncomputable def P : Prog' := ⟨fns, globs, 1000⟩
end P02
end Mine
end
section
open PySem PySem.W PyProof.Rows PySem.SeqAt PySem.MeetsSeq
set_option maxRecDepth 100000
namespace Mine
namespace P02

noncomputable def fvL : List (Nat × Addr) := [(0, 41), (1, 48), (3, 107), (4, 114), (5, 119), (6, 126), (7, 133), (8, 147), (9, 154), (20, 173), (21, 178), (22, 185), (23, 192), (40, 197), (1000, 100), (1001, 63)]
noncomputable def fv (k : Nat) : Option Addr := fvL.lookup k
noncomputable def ca : Nat → Addr
  | 0 => 164
  | _ => 67
noncomputable def an : Nat → Str
  | 0 => "_node2info"
  | 1 => "_ready_nodes"
  | 2 => "_npassedout"
  | 3 => "_nfinished"
  | 4 => "node"
  | 5 => "npredecessors"
  | 6 => "successors"
  | _ => ""
noncomputable def X : Txt := ⟨fv, ca, an⟩
noncomputable def esAt (K : Frag) (a : Addr) : Array DictEntry := match K.lookup a with
  | some o => (match o.data with
    | .dict es _ => es
    | _ => #[])
  | none => #[]
noncomputable def gl (P : Params) (x : Str) : Option Value := nsFind (esAt (K P) 3) x
noncomputable abbrev cc (w : World) (h : Heap) : Cst := ⟨PySem.Challenge.rw_dn0070_02.row.prog, w, h, X, gl w.params, K w.params⟩

section
variable {w : World} {h : Heap}

theorem glAt (KX : (K w.params).In h) : h.Ns mainGlobals (gl w.params) := by
  refine ⟨_, _, _, KX 3 _ rfl, rfl, ?_, fun _ => rfl⟩
  intro e he
  have he' : e ∈ g3.map (dE w.params) := List.mem_toArray.mp he
  obtain ⟨x, _, rfl⟩ := List.mem_map.mp he'
  exact ⟨_, _, rfl⟩

theorem base (KX : (K w.params).In h) (hb : ∃ mb, h.Ns builtinsNs mb ∧ ∀ x : Str, x ≠ "__name__" → mb x = bootBuiltins x) (hn : h.NoLimit) (hm : Heap.Has h sysModules) : Base (cc w h) where
  g := glAt KX
  b := hb
  nolimit := hn
  mods := hm
  K := KX
  fnK := lk_all (l := fvL) (all_c rfl (all_c rfl (all_c rfl (all_c rfl (all_c rfl (all_c rfl (all_c rfl (all_c rfl (all_c rfl (all_c rfl (all_c rfl (all_c rfl (all_c rfl (all_c rfl (all_c rfl (all_c rfl all_n))))))))))))))))
  clK := fun i hi => by
    match i, hi with
    | 0, _ => rfl
    | 1, _ => rfl

theorem cls : ClsOk (cc w h) where
  inj := by
    intro a b ha hb e
    have : ∀ a < 7, ∀ b < 7, an a = an b → a = b := by decide
    exact this a ha b hb e
  get := fun i hi => by match i, hi with
    | 0, _ => rfl
    | 1, _ => rfl
  set := fun i hi => by match i, hi with
    | 0, _ => exact ⟨rfl, rfl⟩
    | 1, _ => exact ⟨rfl, rfl⟩
  hd := rfl
  isC := rfl
  at0 := fun a ha => by match a, ha with
    | 0, _ => rfl
    | 1, _ => rfl
    | 2, _ => rfl
    | 3, _ => rfl
  slot := fun i hi => by match i, hi with
    | 0, _ => exact ⟨_, rfl, rfl, rfl, rfl, rfl⟩
    | 1, _ => exact ⟨_, rfl, rfl, rfl, rfl, rfl⟩
    | 2, _ => exact ⟨_, rfl, rfl, rfl, rfl, rfl⟩
  make := fun i hi => by match i, hi with
    | 0, _ => exact ⟨rfl, _, rfl, rfl, rfl⟩
    | 1, _ => exact ⟨rfl, _, rfl, rfl, rfl⟩

theorem meth_ne (nm : Str) (h : (List.range 4).all (fun a => an a != nm) = true) : ∀ a, a < 4 → an a ≠ nm := fun a ha q => by
  have := List.all_eq_true.mp h a (List.mem_range.mpr ha)
  rw [q] at this; simp at this
theorem m3 : MethOk (cc w h) 3 "_get_nodeinfo" 107 := ⟨rfl, rfl, rfl, rfl, rfl, rfl, rfl, meth_ne _ (by decide)⟩
theorem m4 : MethOk (cc w h) 4 "add" 114 := ⟨rfl, rfl, rfl, rfl, rfl, rfl, rfl, meth_ne _ (by decide)⟩
theorem m5 : MethOk (cc w h) 5 "prepare" 119 := ⟨rfl, rfl, rfl, rfl, rfl, rfl, rfl, meth_ne _ (by decide)⟩
theorem m6 : MethOk (cc w h) 6 "get_ready" 126 := ⟨rfl, rfl, rfl, rfl, rfl, rfl, rfl, meth_ne _ (by decide)⟩
theorem m7 : MethOk (cc w h) 7 "is_active" 133 := ⟨rfl, rfl, rfl, rfl, rfl, rfl, rfl, meth_ne _ (by decide)⟩
theorem m8 : MethOk (cc w h) 8 "done" 147 := ⟨rfl, rfl, rfl, rfl, rfl, rfl, rfl, meth_ne _ (by decide)⟩
theorem m9 : MethOk (cc w h) 9 "_find_cycle" 154 := ⟨rfl, rfl, rfl, rfl, rfl, rfl, rfl, meth_ne _ (by decide)⟩
end
end P02
end Mine
end
section
open PySem PySem.W PyProof.Rows PySem.SeqAt PySem.MeetsSeq
set_option maxRecDepth 100000
namespace Mine
theorem inplace_add' {c : Cst} : ∀ (A : Around) Z lk s ads σ i j iv jv r, c.R Z lk s.heap ads σ → binOp .Add (.int i) (.int j) = some r → c.P Z ads σ s.heap (.int i) iv → c.P Z ads σ s.heap (.int j) jv → Yields c A (inplaceOp .Add iv jv) Z lk s ads σ r σ := fun A Z lk s ads σ i j iv jv r R h a b => inplace_add A Z lk s ads σ i j iv jv r R h a b
theorem inplace_sub' {c : Cst} : ∀ (A : Around) Z lk s ads σ i j iv jv r, c.R Z lk s.heap ads σ → binOp .Sub (.int i) (.int j) = some r → c.P Z ads σ s.heap (.int i) iv → c.P Z ads σ s.heap (.int j) jv → Yields c A (inplaceOp .Sub iv jv) Z lk s ads σ r σ := fun A Z lk s ads σ i j iv jv r R h a b => inplace_sub A Z lk s ads σ i j iv jv r R h a b
namespace P02
noncomputable def fd0 : FuncData := PySem.Calls.docDef "" { posonlyargs := [], args := [], vararg := none, kwonlyargs := [], kw_defaults := [], kwarg := none, defaults := [] } [] { kind := .function, names := [], isGenerator := false, isCoroutine := false } .none .none .none
noncomputable def fdAt (K : Frag) (a : Addr) : FuncData := match K.lookup a with
  | some o => (match o.data with
    | .func fd => fd
    | _ => fd0)
  | none => fd0
noncomputable def bdAt (fd : FuncData) : List Stmt := match fd.body with
  | .stmts b => b
  | _ => []
theorem initNone (n i : Nat) (hi : i < 2) (l : List D) (σ : Store) (d : D) (σ' : Store) (h : callF P n (1000 + i) l σ = some (d, σ')) : d = .none := by
  match i, hi with
  | 0, _ => exact nr_callF (f := 1000) (fn := f_init_TopologicalSorter) rfl rfl h
  | 1, _ => exact nr_callF (f := 1001) (fn := f_init_NodeInfo) rfl rfl h

end P02
end Mine
end
section
open PySem PySem.W PyProof.Rows PySem.SeqAt PySem.MeetsSeq
set_option maxRecDepth 100000
namespace Mine
namespace P02
section
variable {w : World} {h : Heap}
noncomputable def sl_0 : List (Nat × Str) := [(0, "data"), (1, "n")]
set_option maxHeartbeats 4000000 in
theorem sim_0 (B0 : Base (cc w h)) (n : Nat) (fr : List Env) (ih : FunOk (cc w h) n (callF P n)) : SimSS (cc w h) n ⟨(fdAt (K w.params) 41).scope.names, sl_0, fr, false⟩ (bdAt (fdAt (K w.params) 41)) (exs ⟨P.globs, callF P n⟩ P.W f_median_low.body) := by
  have hF : LkF (callF P n) := lk_callF P n
  have CO := cls (w := w) (h := h)
  have FN := initNone n
  conv in bdAt _ => whnf
  conv in (fdAt _ _).scope.names => whnf
  conv in (Fn.body _) => whnf
  unfold sl_0
  repeat' (first
    | with_reducible exact simSS_nil
    | with_reducible exact simL_nil
    | with_reducible exact simC_nil
    | with_reducible exact simO_none
    | with_reducible exact simS_bad
    | with_reducible exact simS_brk
    | with_reducible exact simS_cont
    | with_reducible exact simS_pass
    | with_reducible exact sim_int
    | with_reducible exact sim_none
    | with_reducible exact sim_bool
    | with_reducible exact sim_dict0
    | with_reducible exact GOk.nil
    | with_reducible apply simSS_freeze
    | with_reducible refine simSS_cons ?_ ?_
    | with_reducible refine simS_expr ?_ ?_
    | with_reducible refine simS_ret ?_
    | with_reducible refine simS_ifNone B0 ?_ ?_ ?_
    | with_reducible refine simS_if ?_ ?_ ?_
    | with_reducible refine simS_while ?_ ?_ ?_
    | with_reducible refine simS_for B0 hF ?_ ?_ ?_ ?_
    | with_reducible refine simS_tryNext B0 ?_ ?_ ?_ ?_ ?_ ?_ ?_ ?_ ?_
    | with_reducible refine simS_tryPlain ?_
    | ((with_reducible apply simS_assign_compB hF); case hsw => exact swaps_local rfl rfl)
    | with_reducible refine simS_assign ?_ ?_ ?_ ?_ ?_
    | with_reducible refine simS_assign2 ?_ ?_ ?_ ?_ ?_
    | with_reducible refine simS_aug B0 CO ?_ ?_ ?_ ?_
    | with_reducible refine simG_name ?_
    | with_reducible refine simG_attr B0 CO ?_ ?_
    | with_reducible refine simG_sub ?_ ?_
    | with_reducible refine simG_tup2 ?_ ?_ ?_
    | with_reducible apply slotOk_of
    | with_reducible refine simT_cmp B0 ?_ ?_ ?_
    | with_reducible refine simT_not ?_
    | with_reducible refine simT_and ?_ ?_
    | with_reducible refine simT_or ?_ ?_
    | with_reducible refine simT_value ?_ ?_
    | with_reducible refine sim_var ?_ ?_ ?_
    | with_reducible refine simH_var ?_ ?_ ?_
    | with_reducible refine simH_pop B0 ?_ ?_ ?_
    | ((with_reducible apply sim_glob B0); (case hg => rfl); (case hv => rfl); (case hr => exact fun _ _ _ => ⟨_, rfl⟩))
    | with_reducible refine sim_bin ?_ ?_
    | with_reducible refine sim_neg ?_
    | with_reducible refine sim_not ?_
    | with_reducible refine sim_and ?_ ?_
    | with_reducible refine sim_or ?_ ?_
    | with_reducible refine sim_ite ?_ ?_ ?_
    | with_reducible refine sim_cmp B0 ?_ ?_ ?_
    | with_reducible refine sim_list ?_
    | with_reducible refine sim_tup ?_
    | with_reducible refine sim_slice ?_ ?_ ?_
    | with_reducible refine sim_idx ?_ ?_ ?_
    | with_reducible refine simO_some ?_
    | with_reducible apply sim_call B0 ih
    | with_reducible refine sim_bi B0 ?_ ?_ ?_ ?_ ?_ ?_ ?_
    | ((with_reducible refine sim_new B0 CO ?lt ih ?fn ?_ ?_ ?_ ?_ ?_); (case lt => decide); case fn => exact FN _ (by decide))
    | with_reducible refine sim_bmeth B0 ?_ ?_ ?_ ?_ ?_ ?_ ?_
    | with_reducible refine sim_umeth B0 CO m3 ih ?_ ?_ ?_ ?_ ?_ ?_
    | ((with_reducible refine sim_umeth B0 CO m4 ih ?_ ?_ ?ns ?_ ?_ ?_); case ns => rfl)
    | with_reducible refine sim_umeth B0 CO m5 ih ?_ ?_ ?_ ?_ ?_ ?_
    | with_reducible refine sim_umeth B0 CO m6 ih ?_ ?_ ?_ ?_ ?_ ?_
    | with_reducible refine sim_umeth B0 CO m7 ih ?_ ?_ ?_ ?_ ?_ ?_
    | ((with_reducible refine sim_umeth B0 CO m8 ih ?_ ?_ ?ns ?_ ?_ ?_); case ns => rfl)
    | with_reducible refine sim_umeth B0 CO m9 ih ?_ ?_ ?_ ?_ ?_ ?_
    | with_reducible refine sim_umeth_star B0 CO m4 ih ?_ ?_ ?_ ?_
    | with_reducible refine sim_umeth_star B0 CO m8 ih ?_ ?_ ?_ ?_
    | with_reducible refine sim_attr B0 CO ?_ ?_ ?_
    | with_reducible refine sim_nextOf ?_ ?_
    | with_reducible apply sim_compB hF
    | with_reducible refine sim_compZB hF B0 ?_ ?_ ?_ ?_ ?_ ?_ ?_ ?_ ?_ ?_ ?_ ?_ ?_ ?_ ?_
    | with_reducible apply gOk_cons
    | with_reducible refine simC_cons ?_ ?_
    | (with_reducible refine simI_vals B0 ?_ ?_ ?_)
    | with_reducible refine simI_e ?_
    | with_reducible refine simL_star ?_ ?_
    | with_reducible refine simL_cons ?_ ?_ ?_ ?_
    | with_reducible refine simA_lone ?_
    | with_reducible refine simA_cons ?_ ?_
    | rfl
    | exact .inl rfl
    | exact .inr rfl
    | decide
    | (intros; rfl)
    | exact swaps_cell rfl
    | exact inplace_add'
    | exact inplace_sub'
    | (intro a b s p; exact ⟨(by intro q; injection q), (by intro q; injection q)⟩)
    | (intro a b d s p q; injection q))

end
end P02
end Mine
end
section
open PySem PySem.W PyProof.Rows PySem.SeqAt PySem.MeetsSeq
set_option maxRecDepth 100000
namespace Mine
namespace P02
section
variable {w : World} {h : Heap}
noncomputable def sl_1 : List (Nat × Str) := [(0, "data"), (1, "n")]
set_option maxHeartbeats 4000000 in
theorem sim_1 (B0 : Base (cc w h)) (n : Nat) (fr : List Env) (ih : FunOk (cc w h) n (callF P n)) : SimSS (cc w h) n ⟨(fdAt (K w.params) 48).scope.names, sl_1, fr, false⟩ (bdAt (fdAt (K w.params) 48)) (exs ⟨P.globs, callF P n⟩ P.W f_median_high.body) := by
  have hF : LkF (callF P n) := lk_callF P n
  have CO := cls (w := w) (h := h)
  have FN := initNone n
  conv in bdAt _ => whnf
  conv in (fdAt _ _).scope.names => whnf
  conv in (Fn.body _) => whnf
  unfold sl_1
  repeat' (first
    | with_reducible exact simSS_nil
    | with_reducible exact simL_nil
    | with_reducible exact simC_nil
    | with_reducible exact simO_none
    | with_reducible exact simS_bad
    | with_reducible exact simS_brk
    | with_reducible exact simS_cont
    | with_reducible exact simS_pass
    | with_reducible exact sim_int
    | with_reducible exact sim_none
    | with_reducible exact sim_bool
    | with_reducible exact sim_dict0
    | with_reducible exact GOk.nil
    | with_reducible apply simSS_freeze
    | with_reducible refine simSS_cons ?_ ?_
    | with_reducible refine simS_expr ?_ ?_
    | with_reducible refine simS_ret ?_
    | with_reducible refine simS_ifNone B0 ?_ ?_ ?_
    | with_reducible refine simS_if ?_ ?_ ?_
    | with_reducible refine simS_while ?_ ?_ ?_
    | with_reducible refine simS_for B0 hF ?_ ?_ ?_ ?_
    | with_reducible refine simS_tryNext B0 ?_ ?_ ?_ ?_ ?_ ?_ ?_ ?_ ?_
    | with_reducible refine simS_tryPlain ?_
    | ((with_reducible apply simS_assign_compB hF); case hsw => exact swaps_local rfl rfl)
    | with_reducible refine simS_assign ?_ ?_ ?_ ?_ ?_
    | with_reducible refine simS_assign2 ?_ ?_ ?_ ?_ ?_
    | with_reducible refine simS_aug B0 CO ?_ ?_ ?_ ?_
    | with_reducible refine simG_name ?_
    | with_reducible refine simG_attr B0 CO ?_ ?_
    | with_reducible refine simG_sub ?_ ?_
    | with_reducible refine simG_tup2 ?_ ?_ ?_
    | with_reducible apply slotOk_of
    | with_reducible refine simT_cmp B0 ?_ ?_ ?_
    | with_reducible refine simT_not ?_
    | with_reducible refine simT_and ?_ ?_
    | with_reducible refine simT_or ?_ ?_
    | with_reducible refine simT_value ?_ ?_
    | with_reducible refine sim_var ?_ ?_ ?_
    | with_reducible refine simH_var ?_ ?_ ?_
    | with_reducible refine simH_pop B0 ?_ ?_ ?_
    | ((with_reducible apply sim_glob B0); (case hg => rfl); (case hv => rfl); (case hr => exact fun _ _ _ => ⟨_, rfl⟩))
    | with_reducible refine sim_bin ?_ ?_
    | with_reducible refine sim_neg ?_
    | with_reducible refine sim_not ?_
    | with_reducible refine sim_and ?_ ?_
    | with_reducible refine sim_or ?_ ?_
    | with_reducible refine sim_ite ?_ ?_ ?_
    | with_reducible refine sim_cmp B0 ?_ ?_ ?_
    | with_reducible refine sim_list ?_
    | with_reducible refine sim_tup ?_
    | with_reducible refine sim_slice ?_ ?_ ?_
    | with_reducible refine sim_idx ?_ ?_ ?_
    | with_reducible refine simO_some ?_
    | with_reducible apply sim_call B0 ih
    | with_reducible refine sim_bi B0 ?_ ?_ ?_ ?_ ?_ ?_ ?_
    | ((with_reducible refine sim_new B0 CO ?lt ih ?fn ?_ ?_ ?_ ?_ ?_); (case lt => decide); case fn => exact FN _ (by decide))
    | with_reducible refine sim_bmeth B0 ?_ ?_ ?_ ?_ ?_ ?_ ?_
    | with_reducible refine sim_umeth B0 CO m3 ih ?_ ?_ ?_ ?_ ?_ ?_
    | ((with_reducible refine sim_umeth B0 CO m4 ih ?_ ?_ ?ns ?_ ?_ ?_); case ns => rfl)
    | with_reducible refine sim_umeth B0 CO m5 ih ?_ ?_ ?_ ?_ ?_ ?_
    | with_reducible refine sim_umeth B0 CO m6 ih ?_ ?_ ?_ ?_ ?_ ?_
    | with_reducible refine sim_umeth B0 CO m7 ih ?_ ?_ ?_ ?_ ?_ ?_
    | ((with_reducible refine sim_umeth B0 CO m8 ih ?_ ?_ ?ns ?_ ?_ ?_); case ns => rfl)
    | with_reducible refine sim_umeth B0 CO m9 ih ?_ ?_ ?_ ?_ ?_ ?_
    | with_reducible refine sim_umeth_star B0 CO m4 ih ?_ ?_ ?_ ?_
    | with_reducible refine sim_umeth_star B0 CO m8 ih ?_ ?_ ?_ ?_
    | with_reducible refine sim_attr B0 CO ?_ ?_ ?_
    | with_reducible refine sim_nextOf ?_ ?_
    | with_reducible apply sim_compB hF
    | with_reducible refine sim_compZB hF B0 ?_ ?_ ?_ ?_ ?_ ?_ ?_ ?_ ?_ ?_ ?_ ?_ ?_ ?_ ?_
    | with_reducible apply gOk_cons
    | with_reducible refine simC_cons ?_ ?_
    | (with_reducible refine simI_vals B0 ?_ ?_ ?_)
    | with_reducible refine simI_e ?_
    | with_reducible refine simL_star ?_ ?_
    | with_reducible refine simL_cons ?_ ?_ ?_ ?_
    | with_reducible refine simA_lone ?_
    | with_reducible refine simA_cons ?_ ?_
    | rfl
    | exact .inl rfl
    | exact .inr rfl
    | decide
    | (intros; rfl)
    | exact swaps_cell rfl
    | exact inplace_add'
    | exact inplace_sub'
    | (intro a b s p; exact ⟨(by intro q; injection q), (by intro q; injection q)⟩)
    | (intro a b d s p q; injection q))

end
end P02
end Mine
end
section
open PySem PySem.W PyProof.Rows PySem.SeqAt PySem.MeetsSeq
set_option maxRecDepth 100000
namespace Mine
namespace P02
section
variable {w : World} {h : Heap}
noncomputable def sl_3 : List (Nat × Str) := [(0, "self"), (1, "node"), (2, "result")]
set_option maxHeartbeats 4000000 in
theorem sim_3 (B0 : Base (cc w h)) (n : Nat) (fr : List Env) (ih : FunOk (cc w h) n (callF P n)) : SimSS (cc w h) n ⟨(fdAt (K w.params) 107).scope.names, sl_3, fr, false⟩ (bdAt (fdAt (K w.params) 107)) (exs ⟨P.globs, callF P n⟩ P.W f_get_nodeinfo.body) := by
  have hF : LkF (callF P n) := lk_callF P n
  have CO := cls (w := w) (h := h)
  have FN := initNone n
  conv in bdAt _ => whnf
  conv in (fdAt _ _).scope.names => whnf
  conv in (Fn.body _) => whnf
  unfold sl_3
  repeat' (first
    | with_reducible exact simSS_nil
    | with_reducible exact simL_nil
    | with_reducible exact simC_nil
    | with_reducible exact simO_none
    | with_reducible exact simS_bad
    | with_reducible exact simS_brk
    | with_reducible exact simS_cont
    | with_reducible exact simS_pass
    | with_reducible exact sim_int
    | with_reducible exact sim_none
    | with_reducible exact sim_bool
    | with_reducible exact sim_dict0
    | with_reducible exact GOk.nil
    | with_reducible apply simSS_freeze
    | with_reducible refine simSS_cons ?_ ?_
    | with_reducible refine simS_expr ?_ ?_
    | with_reducible refine simS_ret ?_
    | with_reducible refine simS_ifNone B0 ?_ ?_ ?_
    | with_reducible refine simS_if ?_ ?_ ?_
    | with_reducible refine simS_while ?_ ?_ ?_
    | with_reducible refine simS_for B0 hF ?_ ?_ ?_ ?_
    | with_reducible refine simS_tryNext B0 ?_ ?_ ?_ ?_ ?_ ?_ ?_ ?_ ?_
    | with_reducible refine simS_tryPlain ?_
    | ((with_reducible apply simS_assign_compB hF); case hsw => exact swaps_local rfl rfl)
    | with_reducible refine simS_assign ?_ ?_ ?_ ?_ ?_
    | with_reducible refine simS_assign2 ?_ ?_ ?_ ?_ ?_
    | with_reducible refine simS_aug B0 CO ?_ ?_ ?_ ?_
    | with_reducible refine simG_name ?_
    | with_reducible refine simG_attr B0 CO ?_ ?_
    | with_reducible refine simG_sub ?_ ?_
    | with_reducible refine simG_tup2 ?_ ?_ ?_
    | with_reducible apply slotOk_of
    | with_reducible refine simT_cmp B0 ?_ ?_ ?_
    | with_reducible refine simT_not ?_
    | with_reducible refine simT_and ?_ ?_
    | with_reducible refine simT_or ?_ ?_
    | with_reducible refine simT_value ?_ ?_
    | with_reducible refine sim_var ?_ ?_ ?_
    | with_reducible refine simH_var ?_ ?_ ?_
    | with_reducible refine simH_pop B0 ?_ ?_ ?_
    | ((with_reducible apply sim_glob B0); (case hg => rfl); (case hv => rfl); (case hr => exact fun _ _ _ => ⟨_, rfl⟩))
    | with_reducible refine sim_bin ?_ ?_
    | with_reducible refine sim_neg ?_
    | with_reducible refine sim_not ?_
    | with_reducible refine sim_and ?_ ?_
    | with_reducible refine sim_or ?_ ?_
    | with_reducible refine sim_ite ?_ ?_ ?_
    | with_reducible refine sim_cmp B0 ?_ ?_ ?_
    | with_reducible refine sim_list ?_
    | with_reducible refine sim_tup ?_
    | with_reducible refine sim_slice ?_ ?_ ?_
    | with_reducible refine sim_idx ?_ ?_ ?_
    | with_reducible refine simO_some ?_
    | with_reducible apply sim_call B0 ih
    | with_reducible refine sim_bi B0 ?_ ?_ ?_ ?_ ?_ ?_ ?_
    | ((with_reducible refine sim_new B0 CO ?lt ih ?fn ?_ ?_ ?_ ?_ ?_); (case lt => decide); case fn => exact FN _ (by decide))
    | with_reducible refine sim_bmeth B0 ?_ ?_ ?_ ?_ ?_ ?_ ?_
    | with_reducible refine sim_umeth B0 CO m3 ih ?_ ?_ ?_ ?_ ?_ ?_
    | ((with_reducible refine sim_umeth B0 CO m4 ih ?_ ?_ ?ns ?_ ?_ ?_); case ns => rfl)
    | with_reducible refine sim_umeth B0 CO m5 ih ?_ ?_ ?_ ?_ ?_ ?_
    | with_reducible refine sim_umeth B0 CO m6 ih ?_ ?_ ?_ ?_ ?_ ?_
    | with_reducible refine sim_umeth B0 CO m7 ih ?_ ?_ ?_ ?_ ?_ ?_
    | ((with_reducible refine sim_umeth B0 CO m8 ih ?_ ?_ ?ns ?_ ?_ ?_); case ns => rfl)
    | with_reducible refine sim_umeth B0 CO m9 ih ?_ ?_ ?_ ?_ ?_ ?_
    | with_reducible refine sim_umeth_star B0 CO m4 ih ?_ ?_ ?_ ?_
    | with_reducible refine sim_umeth_star B0 CO m8 ih ?_ ?_ ?_ ?_
    | with_reducible refine sim_attr B0 CO ?_ ?_ ?_
    | with_reducible refine sim_nextOf ?_ ?_
    | with_reducible apply sim_compB hF
    | with_reducible refine sim_compZB hF B0 ?_ ?_ ?_ ?_ ?_ ?_ ?_ ?_ ?_ ?_ ?_ ?_ ?_ ?_ ?_
    | with_reducible apply gOk_cons
    | with_reducible refine simC_cons ?_ ?_
    | (with_reducible refine simI_vals B0 ?_ ?_ ?_)
    | with_reducible refine simI_e ?_
    | with_reducible refine simL_star ?_ ?_
    | with_reducible refine simL_cons ?_ ?_ ?_ ?_
    | with_reducible refine simA_lone ?_
    | with_reducible refine simA_cons ?_ ?_
    | rfl
    | exact .inl rfl
    | exact .inr rfl
    | decide
    | (intros; rfl)
    | exact swaps_cell rfl
    | exact inplace_add'
    | exact inplace_sub'
    | (intro a b s p; exact ⟨(by intro q; injection q), (by intro q; injection q)⟩)
    | (intro a b d s p q; injection q))

end
end P02
end Mine
end
section
open PySem PySem.W PyProof.Rows PySem.SeqAt PySem.MeetsSeq
set_option maxRecDepth 100000
namespace Mine
namespace P02
section
variable {w : World} {h : Heap}
noncomputable def sl_4 : List (Nat × Str) := [(0, "self"), (1, "node"), (2, "predecessors"), (3, "nodeinfo"), (4, "pred"), (5, "pred_info")]
set_option maxHeartbeats 4000000 in
theorem sim_4 (B0 : Base (cc w h)) (n : Nat) (fr : List Env) (ih : FunOk (cc w h) n (callF P n)) : SimSS (cc w h) n ⟨(fdAt (K w.params) 114).scope.names, sl_4, fr, false⟩ (bdAt (fdAt (K w.params) 114)) (exs ⟨P.globs, callF P n⟩ P.W f_add.body) := by
  have hF : LkF (callF P n) := lk_callF P n
  have CO := cls (w := w) (h := h)
  have FN := initNone n
  conv in bdAt _ => whnf
  conv in (fdAt _ _).scope.names => whnf
  conv in (Fn.body _) => whnf
  unfold sl_4
  repeat' (first
    | with_reducible exact simSS_nil
    | with_reducible exact simL_nil
    | with_reducible exact simC_nil
    | with_reducible exact simO_none
    | with_reducible exact simS_bad
    | with_reducible exact simS_brk
    | with_reducible exact simS_cont
    | with_reducible exact simS_pass
    | with_reducible exact sim_int
    | with_reducible exact sim_none
    | with_reducible exact sim_bool
    | with_reducible exact sim_dict0
    | with_reducible exact GOk.nil
    | with_reducible apply simSS_freeze
    | with_reducible refine simSS_cons ?_ ?_
    | with_reducible refine simS_expr ?_ ?_
    | with_reducible refine simS_ret ?_
    | with_reducible refine simS_ifNone B0 ?_ ?_ ?_
    | with_reducible refine simS_if ?_ ?_ ?_
    | with_reducible refine simS_while ?_ ?_ ?_
    | with_reducible refine simS_for B0 hF ?_ ?_ ?_ ?_
    | with_reducible refine simS_tryNext B0 ?_ ?_ ?_ ?_ ?_ ?_ ?_ ?_ ?_
    | with_reducible refine simS_tryPlain ?_
    | ((with_reducible apply simS_assign_compB hF); case hsw => exact swaps_local rfl rfl)
    | with_reducible refine simS_assign ?_ ?_ ?_ ?_ ?_
    | with_reducible refine simS_assign2 ?_ ?_ ?_ ?_ ?_
    | with_reducible refine simS_aug B0 CO ?_ ?_ ?_ ?_
    | with_reducible refine simG_name ?_
    | with_reducible refine simG_attr B0 CO ?_ ?_
    | with_reducible refine simG_sub ?_ ?_
    | with_reducible refine simG_tup2 ?_ ?_ ?_
    | with_reducible apply slotOk_of
    | with_reducible refine simT_cmp B0 ?_ ?_ ?_
    | with_reducible refine simT_not ?_
    | with_reducible refine simT_and ?_ ?_
    | with_reducible refine simT_or ?_ ?_
    | with_reducible refine simT_value ?_ ?_
    | with_reducible refine sim_var ?_ ?_ ?_
    | with_reducible refine simH_var ?_ ?_ ?_
    | with_reducible refine simH_pop B0 ?_ ?_ ?_
    | ((with_reducible apply sim_glob B0); (case hg => rfl); (case hv => rfl); (case hr => exact fun _ _ _ => ⟨_, rfl⟩))
    | with_reducible refine sim_bin ?_ ?_
    | with_reducible refine sim_neg ?_
    | with_reducible refine sim_not ?_
    | with_reducible refine sim_and ?_ ?_
    | with_reducible refine sim_or ?_ ?_
    | with_reducible refine sim_ite ?_ ?_ ?_
    | with_reducible refine sim_cmp B0 ?_ ?_ ?_
    | with_reducible refine sim_list ?_
    | with_reducible refine sim_tup ?_
    | with_reducible refine sim_slice ?_ ?_ ?_
    | with_reducible refine sim_idx ?_ ?_ ?_
    | with_reducible refine simO_some ?_
    | with_reducible apply sim_call B0 ih
    | with_reducible refine sim_bi B0 ?_ ?_ ?_ ?_ ?_ ?_ ?_
    | ((with_reducible refine sim_new B0 CO ?lt ih ?fn ?_ ?_ ?_ ?_ ?_); (case lt => decide); case fn => exact FN _ (by decide))
    | with_reducible refine sim_bmeth B0 ?_ ?_ ?_ ?_ ?_ ?_ ?_
    | with_reducible refine sim_umeth B0 CO m3 ih ?_ ?_ ?_ ?_ ?_ ?_
    | ((with_reducible refine sim_umeth B0 CO m4 ih ?_ ?_ ?ns ?_ ?_ ?_); case ns => rfl)
    | with_reducible refine sim_umeth B0 CO m5 ih ?_ ?_ ?_ ?_ ?_ ?_
    | with_reducible refine sim_umeth B0 CO m6 ih ?_ ?_ ?_ ?_ ?_ ?_
    | with_reducible refine sim_umeth B0 CO m7 ih ?_ ?_ ?_ ?_ ?_ ?_
    | ((with_reducible refine sim_umeth B0 CO m8 ih ?_ ?_ ?ns ?_ ?_ ?_); case ns => rfl)
    | with_reducible refine sim_umeth B0 CO m9 ih ?_ ?_ ?_ ?_ ?_ ?_
    | with_reducible refine sim_umeth_star B0 CO m4 ih ?_ ?_ ?_ ?_
    | with_reducible refine sim_umeth_star B0 CO m8 ih ?_ ?_ ?_ ?_
    | with_reducible refine sim_attr B0 CO ?_ ?_ ?_
    | with_reducible refine sim_nextOf ?_ ?_
    | with_reducible apply sim_compB hF
    | with_reducible refine sim_compZB hF B0 ?_ ?_ ?_ ?_ ?_ ?_ ?_ ?_ ?_ ?_ ?_ ?_ ?_ ?_ ?_
    | with_reducible apply gOk_cons
    | with_reducible refine simC_cons ?_ ?_
    | (with_reducible refine simI_vals B0 ?_ ?_ ?_)
    | with_reducible refine simI_e ?_
    | with_reducible refine simL_star ?_ ?_
    | with_reducible refine simL_cons ?_ ?_ ?_ ?_
    | with_reducible refine simA_lone ?_
    | with_reducible refine simA_cons ?_ ?_
    | rfl
    | exact .inl rfl
    | exact .inr rfl
    | decide
    | (intros; rfl)
    | exact swaps_cell rfl
    | exact inplace_add'
    | exact inplace_sub'
    | (intro a b s p; exact ⟨(by intro q; injection q), (by intro q; injection q)⟩)
    | (intro a b d s p q; injection q))

end
end P02
end Mine
end
section
open PySem PySem.W PyProof.Rows PySem.SeqAt PySem.MeetsSeq
set_option maxRecDepth 100000
namespace Mine
namespace P02
section
variable {w : World} {h : Heap}
noncomputable def sl_5 : List (Nat × Str) := [(0, "self"), (1, "cycle")]
set_option maxHeartbeats 4000000 in
theorem sim_5 (B0 : Base (cc w h)) (n : Nat) (fr : List Env) (ih : FunOk (cc w h) n (callF P n)) : SimSS (cc w h) n ⟨(fdAt (K w.params) 119).scope.names, sl_5, fr, false⟩ (bdAt (fdAt (K w.params) 119)) (exs ⟨P.globs, callF P n⟩ P.W f_prepare.body) := by
  have hF : LkF (callF P n) := lk_callF P n
  have CO := cls (w := w) (h := h)
  have FN := initNone n
  conv in bdAt _ => whnf
  conv in (fdAt _ _).scope.names => whnf
  conv in (Fn.body _) => whnf
  unfold sl_5
  repeat' (first
    | with_reducible exact simSS_nil
    | with_reducible exact simL_nil
    | with_reducible exact simC_nil
    | with_reducible exact simO_none
    | with_reducible exact simS_bad
    | with_reducible exact simS_brk
    | with_reducible exact simS_cont
    | with_reducible exact simS_pass
    | with_reducible exact sim_int
    | with_reducible exact sim_none
    | with_reducible exact sim_bool
    | with_reducible exact sim_dict0
    | with_reducible exact GOk.nil
    | with_reducible apply simSS_freeze
    | with_reducible refine simSS_cons ?_ ?_
    | with_reducible refine simS_expr ?_ ?_
    | with_reducible refine simS_ret ?_
    | with_reducible refine simS_ifNone B0 ?_ ?_ ?_
    | with_reducible refine simS_if ?_ ?_ ?_
    | with_reducible refine simS_while ?_ ?_ ?_
    | with_reducible refine simS_for B0 hF ?_ ?_ ?_ ?_
    | with_reducible refine simS_tryNext B0 ?_ ?_ ?_ ?_ ?_ ?_ ?_ ?_ ?_
    | with_reducible refine simS_tryPlain ?_
    | ((with_reducible apply simS_assign_compB hF); case hsw => exact swaps_local rfl rfl)
    | with_reducible refine simS_assign ?_ ?_ ?_ ?_ ?_
    | with_reducible refine simS_assign2 ?_ ?_ ?_ ?_ ?_
    | with_reducible refine simS_aug B0 CO ?_ ?_ ?_ ?_
    | with_reducible refine simG_name ?_
    | with_reducible refine simG_attr B0 CO ?_ ?_
    | with_reducible refine simG_sub ?_ ?_
    | with_reducible refine simG_tup2 ?_ ?_ ?_
    | with_reducible apply slotOk_of
    | with_reducible refine simT_cmp B0 ?_ ?_ ?_
    | with_reducible refine simT_not ?_
    | with_reducible refine simT_and ?_ ?_
    | with_reducible refine simT_or ?_ ?_
    | with_reducible refine simT_value ?_ ?_
    | with_reducible refine sim_var ?_ ?_ ?_
    | with_reducible refine simH_var ?_ ?_ ?_
    | with_reducible refine simH_pop B0 ?_ ?_ ?_
    | ((with_reducible apply sim_glob B0); (case hg => rfl); (case hv => rfl); (case hr => exact fun _ _ _ => ⟨_, rfl⟩))
    | with_reducible refine sim_bin ?_ ?_
    | with_reducible refine sim_neg ?_
    | with_reducible refine sim_not ?_
    | with_reducible refine sim_and ?_ ?_
    | with_reducible refine sim_or ?_ ?_
    | with_reducible refine sim_ite ?_ ?_ ?_
    | with_reducible refine sim_cmp B0 ?_ ?_ ?_
    | with_reducible refine sim_list ?_
    | with_reducible refine sim_tup ?_
    | with_reducible refine sim_slice ?_ ?_ ?_
    | with_reducible refine sim_idx ?_ ?_ ?_
    | with_reducible refine simO_some ?_
    | with_reducible apply sim_call B0 ih
    | with_reducible refine sim_bi B0 ?_ ?_ ?_ ?_ ?_ ?_ ?_
    | ((with_reducible refine sim_new B0 CO ?lt ih ?fn ?_ ?_ ?_ ?_ ?_); (case lt => decide); case fn => exact FN _ (by decide))
    | with_reducible refine sim_bmeth B0 ?_ ?_ ?_ ?_ ?_ ?_ ?_
    | with_reducible refine sim_umeth B0 CO m3 ih ?_ ?_ ?_ ?_ ?_ ?_
    | ((with_reducible refine sim_umeth B0 CO m4 ih ?_ ?_ ?ns ?_ ?_ ?_); case ns => rfl)
    | with_reducible refine sim_umeth B0 CO m5 ih ?_ ?_ ?_ ?_ ?_ ?_
    | with_reducible refine sim_umeth B0 CO m6 ih ?_ ?_ ?_ ?_ ?_ ?_
    | with_reducible refine sim_umeth B0 CO m7 ih ?_ ?_ ?_ ?_ ?_ ?_
    | ((with_reducible refine sim_umeth B0 CO m8 ih ?_ ?_ ?ns ?_ ?_ ?_); case ns => rfl)
    | with_reducible refine sim_umeth B0 CO m9 ih ?_ ?_ ?_ ?_ ?_ ?_
    | with_reducible refine sim_umeth_star B0 CO m4 ih ?_ ?_ ?_ ?_
    | with_reducible refine sim_umeth_star B0 CO m8 ih ?_ ?_ ?_ ?_
    | with_reducible refine sim_attr B0 CO ?_ ?_ ?_
    | with_reducible refine sim_nextOf ?_ ?_
    | with_reducible apply sim_compB hF
    | with_reducible refine sim_compZB hF B0 ?_ ?_ ?_ ?_ ?_ ?_ ?_ ?_ ?_ ?_ ?_ ?_ ?_ ?_ ?_
    | with_reducible apply gOk_cons
    | with_reducible refine simC_cons ?_ ?_
    | (with_reducible refine simI_vals B0 ?_ ?_ ?_)
    | with_reducible refine simI_e ?_
    | with_reducible refine simL_star ?_ ?_
    | with_reducible refine simL_cons ?_ ?_ ?_ ?_
    | with_reducible refine simA_lone ?_
    | with_reducible refine simA_cons ?_ ?_
    | rfl
    | exact .inl rfl
    | exact .inr rfl
    | decide
    | (intros; rfl)
    | exact swaps_cell rfl
    | exact inplace_add'
    | exact inplace_sub'
    | (intro a b s p; exact ⟨(by intro q; injection q), (by intro q; injection q)⟩)
    | (intro a b d s p q; injection q))

end
end P02
end Mine
end
section
open PySem PySem.W PyProof.Rows PySem.SeqAt PySem.MeetsSeq
set_option maxRecDepth 100000
namespace Mine
namespace P02
section
variable {w : World} {h : Heap}
noncomputable def sl_6 : List (Nat × Str) := [(0, "self"), (1, "result"), (2, "n2i"), (3, "node")]
set_option maxHeartbeats 4000000 in
theorem sim_6 (B0 : Base (cc w h)) (n : Nat) (fr : List Env) (ih : FunOk (cc w h) n (callF P n)) : SimSS (cc w h) n ⟨(fdAt (K w.params) 126).scope.names, sl_6, fr, false⟩ (bdAt (fdAt (K w.params) 126)) (exs ⟨P.globs, callF P n⟩ P.W f_get_ready.body) := by
  have hF : LkF (callF P n) := lk_callF P n
  have CO := cls (w := w) (h := h)
  have FN := initNone n
  conv in bdAt _ => whnf
  conv in (fdAt _ _).scope.names => whnf
  conv in (Fn.body _) => whnf
  unfold sl_6
  repeat' (first
    | with_reducible exact simSS_nil
    | with_reducible exact simL_nil
    | with_reducible exact simC_nil
    | with_reducible exact simO_none
    | with_reducible exact simS_bad
    | with_reducible exact simS_brk
    | with_reducible exact simS_cont
    | with_reducible exact simS_pass
    | with_reducible exact sim_int
    | with_reducible exact sim_none
    | with_reducible exact sim_bool
    | with_reducible exact sim_dict0
    | with_reducible exact GOk.nil
    | with_reducible apply simSS_freeze
    | with_reducible refine simSS_cons ?_ ?_
    | with_reducible refine simS_expr ?_ ?_
    | with_reducible refine simS_ret ?_
    | with_reducible refine simS_ifNone B0 ?_ ?_ ?_
    | with_reducible refine simS_if ?_ ?_ ?_
    | with_reducible refine simS_while ?_ ?_ ?_
    | with_reducible refine simS_for B0 hF ?_ ?_ ?_ ?_
    | with_reducible refine simS_tryNext B0 ?_ ?_ ?_ ?_ ?_ ?_ ?_ ?_ ?_
    | with_reducible refine simS_tryPlain ?_
    | ((with_reducible apply simS_assign_compB hF); case hsw => exact swaps_local rfl rfl)
    | with_reducible refine simS_assign ?_ ?_ ?_ ?_ ?_
    | with_reducible refine simS_assign2 ?_ ?_ ?_ ?_ ?_
    | with_reducible refine simS_aug B0 CO ?_ ?_ ?_ ?_
    | with_reducible refine simG_name ?_
    | with_reducible refine simG_attr B0 CO ?_ ?_
    | with_reducible refine simG_sub ?_ ?_
    | with_reducible refine simG_tup2 ?_ ?_ ?_
    | with_reducible apply slotOk_of
    | with_reducible refine simT_cmp B0 ?_ ?_ ?_
    | with_reducible refine simT_not ?_
    | with_reducible refine simT_and ?_ ?_
    | with_reducible refine simT_or ?_ ?_
    | with_reducible refine simT_value ?_ ?_
    | with_reducible refine sim_var ?_ ?_ ?_
    | with_reducible refine simH_var ?_ ?_ ?_
    | with_reducible refine simH_pop B0 ?_ ?_ ?_
    | ((with_reducible apply sim_glob B0); (case hg => rfl); (case hv => rfl); (case hr => exact fun _ _ _ => ⟨_, rfl⟩))
    | with_reducible refine sim_bin ?_ ?_
    | with_reducible refine sim_neg ?_
    | with_reducible refine sim_not ?_
    | with_reducible refine sim_and ?_ ?_
    | with_reducible refine sim_or ?_ ?_
    | with_reducible refine sim_ite ?_ ?_ ?_
    | with_reducible refine sim_cmp B0 ?_ ?_ ?_
    | with_reducible refine sim_list ?_
    | with_reducible refine sim_tup ?_
    | with_reducible refine sim_slice ?_ ?_ ?_
    | with_reducible refine sim_idx ?_ ?_ ?_
    | with_reducible refine simO_some ?_
    | with_reducible apply sim_call B0 ih
    | with_reducible refine sim_bi B0 ?_ ?_ ?_ ?_ ?_ ?_ ?_
    | ((with_reducible refine sim_new B0 CO ?lt ih ?fn ?_ ?_ ?_ ?_ ?_); (case lt => decide); case fn => exact FN _ (by decide))
    | with_reducible refine sim_bmeth B0 ?_ ?_ ?_ ?_ ?_ ?_ ?_
    | with_reducible refine sim_umeth B0 CO m3 ih ?_ ?_ ?_ ?_ ?_ ?_
    | ((with_reducible refine sim_umeth B0 CO m4 ih ?_ ?_ ?ns ?_ ?_ ?_); case ns => rfl)
    | with_reducible refine sim_umeth B0 CO m5 ih ?_ ?_ ?_ ?_ ?_ ?_
    | with_reducible refine sim_umeth B0 CO m6 ih ?_ ?_ ?_ ?_ ?_ ?_
    | with_reducible refine sim_umeth B0 CO m7 ih ?_ ?_ ?_ ?_ ?_ ?_
    | ((with_reducible refine sim_umeth B0 CO m8 ih ?_ ?_ ?ns ?_ ?_ ?_); case ns => rfl)
    | with_reducible refine sim_umeth B0 CO m9 ih ?_ ?_ ?_ ?_ ?_ ?_
    | with_reducible refine sim_umeth_star B0 CO m4 ih ?_ ?_ ?_ ?_
    | with_reducible refine sim_umeth_star B0 CO m8 ih ?_ ?_ ?_ ?_
    | with_reducible refine sim_attr B0 CO ?_ ?_ ?_
    | with_reducible refine sim_nextOf ?_ ?_
    | with_reducible apply sim_compB hF
    | with_reducible refine sim_compZB hF B0 ?_ ?_ ?_ ?_ ?_ ?_ ?_ ?_ ?_ ?_ ?_ ?_ ?_ ?_ ?_
    | with_reducible apply gOk_cons
    | with_reducible refine simC_cons ?_ ?_
    | (with_reducible refine simI_vals B0 ?_ ?_ ?_)
    | with_reducible refine simI_e ?_
    | with_reducible refine simL_star ?_ ?_
    | with_reducible refine simL_cons ?_ ?_ ?_ ?_
    | with_reducible refine simA_lone ?_
    | with_reducible refine simA_cons ?_ ?_
    | rfl
    | exact .inl rfl
    | exact .inr rfl
    | decide
    | (intros; rfl)
    | exact swaps_cell rfl
    | exact inplace_add'
    | exact inplace_sub'
    | (intro a b s p; exact ⟨(by intro q; injection q), (by intro q; injection q)⟩)
    | (intro a b d s p q; injection q))

end
end P02
end Mine
end
section
open PySem PySem.W PyProof.Rows PySem.SeqAt PySem.MeetsSeq
set_option maxRecDepth 100000
namespace Mine
namespace P02
section
variable {w : World} {h : Heap}
noncomputable def sl_7 : List (Nat × Str) := [(0, "self")]
set_option maxHeartbeats 4000000 in
theorem sim_7 (B0 : Base (cc w h)) (n : Nat) (fr : List Env) (ih : FunOk (cc w h) n (callF P n)) : SimSS (cc w h) n ⟨(fdAt (K w.params) 133).scope.names, sl_7, fr, false⟩ (bdAt (fdAt (K w.params) 133)) (exs ⟨P.globs, callF P n⟩ P.W f_is_active.body) := by
  have hF : LkF (callF P n) := lk_callF P n
  have CO := cls (w := w) (h := h)
  have FN := initNone n
  conv in bdAt _ => whnf
  conv in (fdAt _ _).scope.names => whnf
  conv in (Fn.body _) => whnf
  unfold sl_7
  repeat' (first
    | with_reducible exact simSS_nil
    | with_reducible exact simL_nil
    | with_reducible exact simC_nil
    | with_reducible exact simO_none
    | with_reducible exact simS_bad
    | with_reducible exact simS_brk
    | with_reducible exact simS_cont
    | with_reducible exact simS_pass
    | with_reducible exact sim_int
    | with_reducible exact sim_none
    | with_reducible exact sim_bool
    | with_reducible exact sim_dict0
    | with_reducible exact GOk.nil
    | with_reducible apply simSS_freeze
    | with_reducible refine simSS_cons ?_ ?_
    | with_reducible refine simS_expr ?_ ?_
    | with_reducible refine simS_ret ?_
    | with_reducible refine simS_ifNone B0 ?_ ?_ ?_
    | with_reducible refine simS_if ?_ ?_ ?_
    | with_reducible refine simS_while ?_ ?_ ?_
    | with_reducible refine simS_for B0 hF ?_ ?_ ?_ ?_
    | with_reducible refine simS_tryNext B0 ?_ ?_ ?_ ?_ ?_ ?_ ?_ ?_ ?_
    | with_reducible refine simS_tryPlain ?_
    | ((with_reducible apply simS_assign_compB hF); case hsw => exact swaps_local rfl rfl)
    | with_reducible refine simS_assign ?_ ?_ ?_ ?_ ?_
    | with_reducible refine simS_assign2 ?_ ?_ ?_ ?_ ?_
    | with_reducible refine simS_aug B0 CO ?_ ?_ ?_ ?_
    | with_reducible refine simG_name ?_
    | with_reducible refine simG_attr B0 CO ?_ ?_
    | with_reducible refine simG_sub ?_ ?_
    | with_reducible refine simG_tup2 ?_ ?_ ?_
    | with_reducible apply slotOk_of
    | with_reducible refine simT_cmp B0 ?_ ?_ ?_
    | with_reducible refine simT_not ?_
    | with_reducible refine simT_and ?_ ?_
    | with_reducible refine simT_or ?_ ?_
    | with_reducible refine simT_value ?_ ?_
    | with_reducible refine sim_var ?_ ?_ ?_
    | with_reducible refine simH_var ?_ ?_ ?_
    | with_reducible refine simH_pop B0 ?_ ?_ ?_
    | ((with_reducible apply sim_glob B0); (case hg => rfl); (case hv => rfl); (case hr => exact fun _ _ _ => ⟨_, rfl⟩))
    | with_reducible refine sim_bin ?_ ?_
    | with_reducible refine sim_neg ?_
    | with_reducible refine sim_not ?_
    | with_reducible refine sim_and ?_ ?_
    | with_reducible refine sim_or ?_ ?_
    | with_reducible refine sim_ite ?_ ?_ ?_
    | with_reducible refine sim_cmp B0 ?_ ?_ ?_
    | with_reducible refine sim_list ?_
    | with_reducible refine sim_tup ?_
    | with_reducible refine sim_slice ?_ ?_ ?_
    | with_reducible refine sim_idx ?_ ?_ ?_
    | with_reducible refine simO_some ?_
    | with_reducible apply sim_call B0 ih
    | with_reducible refine sim_bi B0 ?_ ?_ ?_ ?_ ?_ ?_ ?_
    | ((with_reducible refine sim_new B0 CO ?lt ih ?fn ?_ ?_ ?_ ?_ ?_); (case lt => decide); case fn => exact FN _ (by decide))
    | with_reducible refine sim_bmeth B0 ?_ ?_ ?_ ?_ ?_ ?_ ?_
    | with_reducible refine sim_umeth B0 CO m3 ih ?_ ?_ ?_ ?_ ?_ ?_
    | ((with_reducible refine sim_umeth B0 CO m4 ih ?_ ?_ ?ns ?_ ?_ ?_); case ns => rfl)
    | with_reducible refine sim_umeth B0 CO m5 ih ?_ ?_ ?_ ?_ ?_ ?_
    | with_reducible refine sim_umeth B0 CO m6 ih ?_ ?_ ?_ ?_ ?_ ?_
    | with_reducible refine sim_umeth B0 CO m7 ih ?_ ?_ ?_ ?_ ?_ ?_
    | ((with_reducible refine sim_umeth B0 CO m8 ih ?_ ?_ ?ns ?_ ?_ ?_); case ns => rfl)
    | with_reducible refine sim_umeth B0 CO m9 ih ?_ ?_ ?_ ?_ ?_ ?_
    | with_reducible refine sim_umeth_star B0 CO m4 ih ?_ ?_ ?_ ?_
    | with_reducible refine sim_umeth_star B0 CO m8 ih ?_ ?_ ?_ ?_
    | with_reducible refine sim_attr B0 CO ?_ ?_ ?_
    | with_reducible refine sim_nextOf ?_ ?_
    | with_reducible apply sim_compB hF
    | with_reducible refine sim_compZB hF B0 ?_ ?_ ?_ ?_ ?_ ?_ ?_ ?_ ?_ ?_ ?_ ?_ ?_ ?_ ?_
    | with_reducible apply gOk_cons
    | with_reducible refine simC_cons ?_ ?_
    | (with_reducible refine simI_vals B0 ?_ ?_ ?_)
    | with_reducible refine simI_e ?_
    | with_reducible refine simL_star ?_ ?_
    | with_reducible refine simL_cons ?_ ?_ ?_ ?_
    | with_reducible refine simA_lone ?_
    | with_reducible refine simA_cons ?_ ?_
    | rfl
    | exact .inl rfl
    | exact .inr rfl
    | decide
    | (intros; rfl)
    | exact swaps_cell rfl
    | exact inplace_add'
    | exact inplace_sub'
    | (intro a b s p; exact ⟨(by intro q; injection q), (by intro q; injection q)⟩)
    | (intro a b d s p q; injection q))

end
end P02
end Mine
end
section
open PySem PySem.W PyProof.Rows PySem.SeqAt PySem.MeetsSeq
set_option maxRecDepth 100000
namespace Mine
namespace P02
section
variable {w : World} {h : Heap}
noncomputable def sl_8 : List (Nat × Str) := [(0, "self"), (1, "nodes"), (2, "n2i"), (3, "node"), (4, "nodeinfo"), (5, "stat"), (6, "successor"), (7, "successor_info")]
set_option maxHeartbeats 4000000 in
theorem sim_8 (B0 : Base (cc w h)) (n : Nat) (fr : List Env) (ih : FunOk (cc w h) n (callF P n)) : SimSS (cc w h) n ⟨(fdAt (K w.params) 147).scope.names, sl_8, fr, false⟩ (bdAt (fdAt (K w.params) 147)) (exs ⟨P.globs, callF P n⟩ P.W f_done.body) := by
  have hF : LkF (callF P n) := lk_callF P n
  have CO := cls (w := w) (h := h)
  have FN := initNone n
  conv in bdAt _ => whnf
  conv in (fdAt _ _).scope.names => whnf
  conv in (Fn.body _) => whnf
  unfold sl_8
  repeat' (first
    | with_reducible exact simSS_nil
    | with_reducible exact simL_nil
    | with_reducible exact simC_nil
    | with_reducible exact simO_none
    | with_reducible exact simS_bad
    | with_reducible exact simS_brk
    | with_reducible exact simS_cont
    | with_reducible exact simS_pass
    | with_reducible exact sim_int
    | with_reducible exact sim_none
    | with_reducible exact sim_bool
    | with_reducible exact sim_dict0
    | with_reducible exact GOk.nil
    | with_reducible apply simSS_freeze
    | with_reducible refine simSS_cons ?_ ?_
    | with_reducible refine simS_expr ?_ ?_
    | with_reducible refine simS_ret ?_
    | with_reducible refine simS_ifNone B0 ?_ ?_ ?_
    | with_reducible refine simS_if ?_ ?_ ?_
    | with_reducible refine simS_while ?_ ?_ ?_
    | with_reducible refine simS_for B0 hF ?_ ?_ ?_ ?_
    | with_reducible refine simS_tryNext B0 ?_ ?_ ?_ ?_ ?_ ?_ ?_ ?_ ?_
    | with_reducible refine simS_tryPlain ?_
    | ((with_reducible apply simS_assign_compB hF); case hsw => exact swaps_local rfl rfl)
    | with_reducible refine simS_assign ?_ ?_ ?_ ?_ ?_
    | with_reducible refine simS_assign2 ?_ ?_ ?_ ?_ ?_
    | with_reducible refine simS_aug B0 CO ?_ ?_ ?_ ?_
    | with_reducible refine simG_name ?_
    | with_reducible refine simG_attr B0 CO ?_ ?_
    | with_reducible refine simG_sub ?_ ?_
    | with_reducible refine simG_tup2 ?_ ?_ ?_
    | with_reducible apply slotOk_of
    | with_reducible refine simT_cmp B0 ?_ ?_ ?_
    | with_reducible refine simT_not ?_
    | with_reducible refine simT_and ?_ ?_
    | with_reducible refine simT_or ?_ ?_
    | with_reducible refine simT_value ?_ ?_
    | with_reducible refine sim_var ?_ ?_ ?_
    | with_reducible refine simH_var ?_ ?_ ?_
    | with_reducible refine simH_pop B0 ?_ ?_ ?_
    | ((with_reducible apply sim_glob B0); (case hg => rfl); (case hv => rfl); (case hr => exact fun _ _ _ => ⟨_, rfl⟩))
    | with_reducible refine sim_bin ?_ ?_
    | with_reducible refine sim_neg ?_
    | with_reducible refine sim_not ?_
    | with_reducible refine sim_and ?_ ?_
    | with_reducible refine sim_or ?_ ?_
    | with_reducible refine sim_ite ?_ ?_ ?_
    | with_reducible refine sim_cmp B0 ?_ ?_ ?_
    | with_reducible refine sim_list ?_
    | with_reducible refine sim_tup ?_
    | with_reducible refine sim_slice ?_ ?_ ?_
    | with_reducible refine sim_idx ?_ ?_ ?_
    | with_reducible refine simO_some ?_
    | with_reducible apply sim_call B0 ih
    | with_reducible refine sim_bi B0 ?_ ?_ ?_ ?_ ?_ ?_ ?_
    | ((with_reducible refine sim_new B0 CO ?lt ih ?fn ?_ ?_ ?_ ?_ ?_); (case lt => decide); case fn => exact FN _ (by decide))
    | with_reducible refine sim_bmeth B0 ?_ ?_ ?_ ?_ ?_ ?_ ?_
    | with_reducible refine sim_umeth B0 CO m3 ih ?_ ?_ ?_ ?_ ?_ ?_
    | ((with_reducible refine sim_umeth B0 CO m4 ih ?_ ?_ ?ns ?_ ?_ ?_); case ns => rfl)
    | with_reducible refine sim_umeth B0 CO m5 ih ?_ ?_ ?_ ?_ ?_ ?_
    | with_reducible refine sim_umeth B0 CO m6 ih ?_ ?_ ?_ ?_ ?_ ?_
    | with_reducible refine sim_umeth B0 CO m7 ih ?_ ?_ ?_ ?_ ?_ ?_
    | ((with_reducible refine sim_umeth B0 CO m8 ih ?_ ?_ ?ns ?_ ?_ ?_); case ns => rfl)
    | with_reducible refine sim_umeth B0 CO m9 ih ?_ ?_ ?_ ?_ ?_ ?_
    | with_reducible refine sim_umeth_star B0 CO m4 ih ?_ ?_ ?_ ?_
    | with_reducible refine sim_umeth_star B0 CO m8 ih ?_ ?_ ?_ ?_
    | with_reducible refine sim_attr B0 CO ?_ ?_ ?_
    | with_reducible refine sim_nextOf ?_ ?_
    | with_reducible apply sim_compB hF
    | with_reducible refine sim_compZB hF B0 ?_ ?_ ?_ ?_ ?_ ?_ ?_ ?_ ?_ ?_ ?_ ?_ ?_ ?_ ?_
    | with_reducible apply gOk_cons
    | with_reducible refine simC_cons ?_ ?_
    | (with_reducible refine simI_vals B0 ?_ ?_ ?_)
    | with_reducible refine simI_e ?_
    | with_reducible refine simL_star ?_ ?_
    | with_reducible refine simL_cons ?_ ?_ ?_ ?_
    | with_reducible refine simA_lone ?_
    | with_reducible refine simA_cons ?_ ?_
    | rfl
    | exact .inl rfl
    | exact .inr rfl
    | decide
    | (intros; rfl)
    | exact swaps_cell rfl
    | exact inplace_add'
    | exact inplace_sub'
    | (intro a b s p; exact ⟨(by intro q; injection q), (by intro q; injection q)⟩)
    | (intro a b d s p q; injection q))

end
end P02
end Mine
end
section
open PySem PySem.W PyProof.Rows PySem.SeqAt PySem.MeetsSeq
set_option maxRecDepth 100000
namespace Mine
namespace P02
section
variable {w : World} {h : Heap}
noncomputable def sl_9 : List (Nat × Str) := [(0, "self"), (1, "n2i"), (2, "stack"), (3, "itstack"), (4, "seen"), (5, "node2stacki"), (6, "node")]
set_option maxHeartbeats 4000000 in
theorem sim_9 (B0 : Base (cc w h)) (n : Nat) (fr : List Env) (ih : FunOk (cc w h) n (callF P n)) : SimSS (cc w h) n ⟨(fdAt (K w.params) 154).scope.names, sl_9, fr, false⟩ (bdAt (fdAt (K w.params) 154)) (exs ⟨P.globs, callF P n⟩ P.W f_find_cycle.body) := by
  have hF : LkF (callF P n) := lk_callF P n
  have CO := cls (w := w) (h := h)
  have FN := initNone n
  conv in bdAt _ => whnf
  conv in (fdAt _ _).scope.names => whnf
  conv in (Fn.body _) => whnf
  unfold sl_9
  repeat' (first
    | with_reducible exact simSS_nil
    | with_reducible exact simL_nil
    | with_reducible exact simC_nil
    | with_reducible exact simO_none
    | with_reducible exact simS_bad
    | with_reducible exact simS_brk
    | with_reducible exact simS_cont
    | with_reducible exact simS_pass
    | with_reducible exact sim_int
    | with_reducible exact sim_none
    | with_reducible exact sim_bool
    | with_reducible exact sim_dict0
    | with_reducible exact GOk.nil
    | with_reducible apply simSS_freeze
    | with_reducible refine simSS_cons ?_ ?_
    | with_reducible refine simS_expr ?_ ?_
    | with_reducible refine simS_ret ?_
    | with_reducible refine simS_ifNone B0 ?_ ?_ ?_
    | with_reducible refine simS_if ?_ ?_ ?_
    | with_reducible refine simS_while ?_ ?_ ?_
    | with_reducible refine simS_for B0 hF ?_ ?_ ?_ ?_
    | with_reducible refine simS_tryNext B0 ?_ ?_ ?_ ?_ ?_ ?_ ?_ ?_ ?_
    | with_reducible refine simS_tryPlain ?_
    | ((with_reducible apply simS_assign_compB hF); case hsw => exact swaps_local rfl rfl)
    | with_reducible refine simS_assign ?_ ?_ ?_ ?_ ?_
    | with_reducible refine simS_assign2 ?_ ?_ ?_ ?_ ?_
    | with_reducible refine simS_aug B0 CO ?_ ?_ ?_ ?_
    | with_reducible refine simG_name ?_
    | with_reducible refine simG_attr B0 CO ?_ ?_
    | with_reducible refine simG_sub ?_ ?_
    | with_reducible refine simG_tup2 ?_ ?_ ?_
    | with_reducible apply slotOk_of
    | with_reducible refine simT_cmp B0 ?_ ?_ ?_
    | with_reducible refine simT_not ?_
    | with_reducible refine simT_and ?_ ?_
    | with_reducible refine simT_or ?_ ?_
    | with_reducible refine simT_value ?_ ?_
    | with_reducible refine sim_var ?_ ?_ ?_
    | with_reducible refine simH_var ?_ ?_ ?_
    | with_reducible refine simH_pop B0 ?_ ?_ ?_
    | ((with_reducible apply sim_glob B0); (case hg => rfl); (case hv => rfl); (case hr => exact fun _ _ _ => ⟨_, rfl⟩))
    | with_reducible refine sim_bin ?_ ?_
    | with_reducible refine sim_neg ?_
    | with_reducible refine sim_not ?_
    | with_reducible refine sim_and ?_ ?_
    | with_reducible refine sim_or ?_ ?_
    | with_reducible refine sim_ite ?_ ?_ ?_
    | with_reducible refine sim_cmp B0 ?_ ?_ ?_
    | with_reducible refine sim_list ?_
    | with_reducible refine sim_tup ?_
    | with_reducible refine sim_slice ?_ ?_ ?_
    | with_reducible refine sim_idx ?_ ?_ ?_
    | with_reducible refine simO_some ?_
    | with_reducible apply sim_call B0 ih
    | with_reducible refine sim_bi B0 ?_ ?_ ?_ ?_ ?_ ?_ ?_
    | ((with_reducible refine sim_new B0 CO ?lt ih ?fn ?_ ?_ ?_ ?_ ?_); (case lt => decide); case fn => exact FN _ (by decide))
    | with_reducible refine sim_bmeth B0 ?_ ?_ ?_ ?_ ?_ ?_ ?_
    | with_reducible refine sim_umeth B0 CO m3 ih ?_ ?_ ?_ ?_ ?_ ?_
    | ((with_reducible refine sim_umeth B0 CO m4 ih ?_ ?_ ?ns ?_ ?_ ?_); case ns => rfl)
    | with_reducible refine sim_umeth B0 CO m5 ih ?_ ?_ ?_ ?_ ?_ ?_
    | with_reducible refine sim_umeth B0 CO m6 ih ?_ ?_ ?_ ?_ ?_ ?_
    | with_reducible refine sim_umeth B0 CO m7 ih ?_ ?_ ?_ ?_ ?_ ?_
    | ((with_reducible refine sim_umeth B0 CO m8 ih ?_ ?_ ?ns ?_ ?_ ?_); case ns => rfl)
    | with_reducible refine sim_umeth B0 CO m9 ih ?_ ?_ ?_ ?_ ?_ ?_
    | with_reducible refine sim_umeth_star B0 CO m4 ih ?_ ?_ ?_ ?_
    | with_reducible refine sim_umeth_star B0 CO m8 ih ?_ ?_ ?_ ?_
    | with_reducible refine sim_attr B0 CO ?_ ?_ ?_
    | with_reducible refine sim_nextOf ?_ ?_
    | with_reducible apply sim_compB hF
    | with_reducible refine sim_compZB hF B0 ?_ ?_ ?_ ?_ ?_ ?_ ?_ ?_ ?_ ?_ ?_ ?_ ?_ ?_ ?_
    | with_reducible apply gOk_cons
    | with_reducible refine simC_cons ?_ ?_
    | (with_reducible refine simI_vals B0 ?_ ?_ ?_)
    | with_reducible refine simI_e ?_
    | with_reducible refine simL_star ?_ ?_
    | with_reducible refine simL_cons ?_ ?_ ?_ ?_
    | with_reducible refine simA_lone ?_
    | with_reducible refine simA_cons ?_ ?_
    | rfl
    | exact .inl rfl
    | exact .inr rfl
    | decide
    | (intros; rfl)
    | exact swaps_cell rfl
    | exact inplace_add'
    | exact inplace_sub'
    | (intro a b s p; exact ⟨(by intro q; injection q), (by intro q; injection q)⟩)
    | (intro a b d s p q; injection q))

end
end P02
end Mine
end
section
open PySem PySem.W PyProof.Rows PySem.SeqAt PySem.MeetsSeq
set_option maxRecDepth 100000
namespace Mine
namespace P02
section
variable {w : World} {h : Heap}
noncomputable def sl_20 : List (Nat × Str) := [(0, "row")]
set_option maxHeartbeats 4000000 in
theorem sim_20 (B0 : Base (cc w h)) (n : Nat) (fr : List Env) (ih : FunOk (cc w h) n (callF P n)) : SimSS (cc w h) n ⟨(fdAt (K w.params) 173).scope.names, sl_20, fr, false⟩ (bdAt (fdAt (K w.params) 173)) (exs ⟨P.globs, callF P n⟩ P.W f_law_orders.body) := by
  have hF : LkF (callF P n) := lk_callF P n
  have CO := cls (w := w) (h := h)
  have FN := initNone n
  conv in bdAt _ => whnf
  conv in (fdAt _ _).scope.names => whnf
  conv in (Fn.body _) => whnf
  unfold sl_20
  repeat' (first
    | with_reducible exact simSS_nil
    | with_reducible exact simL_nil
    | with_reducible exact simC_nil
    | with_reducible exact simO_none
    | with_reducible exact simS_bad
    | with_reducible exact simS_brk
    | with_reducible exact simS_cont
    | with_reducible exact simS_pass
    | with_reducible exact sim_int
    | with_reducible exact sim_none
    | with_reducible exact sim_bool
    | with_reducible exact sim_dict0
    | with_reducible exact GOk.nil
    | with_reducible apply simSS_freeze
    | with_reducible refine simSS_cons ?_ ?_
    | with_reducible refine simS_expr ?_ ?_
    | with_reducible refine simS_ret ?_
    | with_reducible refine simS_ifNone B0 ?_ ?_ ?_
    | with_reducible refine simS_if ?_ ?_ ?_
    | with_reducible refine simS_while ?_ ?_ ?_
    | with_reducible refine simS_for B0 hF ?_ ?_ ?_ ?_
    | with_reducible refine simS_tryNext B0 ?_ ?_ ?_ ?_ ?_ ?_ ?_ ?_ ?_
    | with_reducible refine simS_tryPlain ?_
    | ((with_reducible apply simS_assign_compB hF); case hsw => exact swaps_local rfl rfl)
    | with_reducible refine simS_assign ?_ ?_ ?_ ?_ ?_
    | with_reducible refine simS_assign2 ?_ ?_ ?_ ?_ ?_
    | with_reducible refine simS_aug B0 CO ?_ ?_ ?_ ?_
    | with_reducible refine simG_name ?_
    | with_reducible refine simG_attr B0 CO ?_ ?_
    | with_reducible refine simG_sub ?_ ?_
    | with_reducible refine simG_tup2 ?_ ?_ ?_
    | with_reducible apply slotOk_of
    | with_reducible refine simT_cmp B0 ?_ ?_ ?_
    | with_reducible refine simT_not ?_
    | with_reducible refine simT_and ?_ ?_
    | with_reducible refine simT_or ?_ ?_
    | with_reducible refine simT_value ?_ ?_
    | with_reducible refine sim_var ?_ ?_ ?_
    | with_reducible refine simH_var ?_ ?_ ?_
    | with_reducible refine simH_pop B0 ?_ ?_ ?_
    | ((with_reducible apply sim_glob B0); (case hg => rfl); (case hv => rfl); (case hr => exact fun _ _ _ => ⟨_, rfl⟩))
    | with_reducible refine sim_bin ?_ ?_
    | with_reducible refine sim_neg ?_
    | with_reducible refine sim_not ?_
    | with_reducible refine sim_and ?_ ?_
    | with_reducible refine sim_or ?_ ?_
    | with_reducible refine sim_ite ?_ ?_ ?_
    | with_reducible refine sim_cmp B0 ?_ ?_ ?_
    | with_reducible refine sim_list ?_
    | with_reducible refine sim_tup ?_
    | with_reducible refine sim_slice ?_ ?_ ?_
    | with_reducible refine sim_idx ?_ ?_ ?_
    | with_reducible refine simO_some ?_
    | with_reducible apply sim_call B0 ih
    | with_reducible refine sim_bi B0 ?_ ?_ ?_ ?_ ?_ ?_ ?_
    | ((with_reducible refine sim_new B0 CO ?lt ih ?fn ?_ ?_ ?_ ?_ ?_); (case lt => decide); case fn => exact FN _ (by decide))
    | with_reducible refine sim_bmeth B0 ?_ ?_ ?_ ?_ ?_ ?_ ?_
    | with_reducible refine sim_umeth B0 CO m3 ih ?_ ?_ ?_ ?_ ?_ ?_
    | ((with_reducible refine sim_umeth B0 CO m4 ih ?_ ?_ ?ns ?_ ?_ ?_); case ns => rfl)
    | with_reducible refine sim_umeth B0 CO m5 ih ?_ ?_ ?_ ?_ ?_ ?_
    | with_reducible refine sim_umeth B0 CO m6 ih ?_ ?_ ?_ ?_ ?_ ?_
    | with_reducible refine sim_umeth B0 CO m7 ih ?_ ?_ ?_ ?_ ?_ ?_
    | ((with_reducible refine sim_umeth B0 CO m8 ih ?_ ?_ ?ns ?_ ?_ ?_); case ns => rfl)
    | with_reducible refine sim_umeth B0 CO m9 ih ?_ ?_ ?_ ?_ ?_ ?_
    | with_reducible refine sim_umeth_star B0 CO m4 ih ?_ ?_ ?_ ?_
    | with_reducible refine sim_umeth_star B0 CO m8 ih ?_ ?_ ?_ ?_
    | with_reducible refine sim_attr B0 CO ?_ ?_ ?_
    | with_reducible refine sim_nextOf ?_ ?_
    | with_reducible apply sim_compB hF
    | with_reducible refine sim_compZB hF B0 ?_ ?_ ?_ ?_ ?_ ?_ ?_ ?_ ?_ ?_ ?_ ?_ ?_ ?_ ?_
    | with_reducible apply gOk_cons
    | with_reducible refine simC_cons ?_ ?_
    | (with_reducible refine simI_vals B0 ?_ ?_ ?_)
    | with_reducible refine simI_e ?_
    | with_reducible refine simL_star ?_ ?_
    | with_reducible refine simL_cons ?_ ?_ ?_ ?_
    | with_reducible refine simA_lone ?_
    | with_reducible refine simA_cons ?_ ?_
    | rfl
    | exact .inl rfl
    | exact .inr rfl
    | decide
    | (intros; rfl)
    | exact swaps_cell rfl
    | exact inplace_add'
    | exact inplace_sub'
    | (intro a b s p; exact ⟨(by intro q; injection q), (by intro q; injection q)⟩)
    | (intro a b d s p q; injection q))

end
end P02
end Mine
end
section
open PySem PySem.W PyProof.Rows PySem.SeqAt PySem.MeetsSeq
set_option maxRecDepth 100000
namespace Mine
namespace P02
section
variable {w : World} {h : Heap}
noncomputable def sl_21 : List (Nat × Str) := [(0, "number"), (1, "row"), (2, "rows"), (3, "places"), (4, "rest"), (5, "k")]
set_option maxHeartbeats 4000000 in
theorem sim_21 (B0 : Base (cc w h)) (n : Nat) (fr : List Env) (ih : FunOk (cc w h) n (callF P n)) : SimSS (cc w h) n ⟨(fdAt (K w.params) 178).scope.names, sl_21, fr, false⟩ (bdAt (fdAt (K w.params) 178)) (exs ⟨P.globs, callF P n⟩ P.W f_law_rows.body) := by
  have hF : LkF (callF P n) := lk_callF P n
  have CO := cls (w := w) (h := h)
  have FN := initNone n
  conv in bdAt _ => whnf
  conv in (fdAt _ _).scope.names => whnf
  conv in (Fn.body _) => whnf
  unfold sl_21
  repeat' (first
    | with_reducible exact simSS_nil
    | with_reducible exact simL_nil
    | with_reducible exact simC_nil
    | with_reducible exact simO_none
    | with_reducible exact simS_bad
    | with_reducible exact simS_brk
    | with_reducible exact simS_cont
    | with_reducible exact simS_pass
    | with_reducible exact sim_int
    | with_reducible exact sim_none
    | with_reducible exact sim_bool
    | with_reducible exact sim_dict0
    | with_reducible exact GOk.nil
    | with_reducible apply simSS_freeze
    | with_reducible refine simSS_cons ?_ ?_
    | with_reducible refine simS_expr ?_ ?_
    | with_reducible refine simS_ret ?_
    | with_reducible refine simS_ifNone B0 ?_ ?_ ?_
    | with_reducible refine simS_if ?_ ?_ ?_
    | with_reducible refine simS_while ?_ ?_ ?_
    | with_reducible refine simS_for B0 hF ?_ ?_ ?_ ?_
    | with_reducible refine simS_tryNext B0 ?_ ?_ ?_ ?_ ?_ ?_ ?_ ?_ ?_
    | with_reducible refine simS_tryPlain ?_
    | ((with_reducible apply simS_assign_compB hF); case hsw => exact swaps_local rfl rfl)
    | with_reducible refine simS_assign ?_ ?_ ?_ ?_ ?_
    | with_reducible refine simS_assign2 ?_ ?_ ?_ ?_ ?_
    | with_reducible refine simS_aug B0 CO ?_ ?_ ?_ ?_
    | with_reducible refine simG_name ?_
    | with_reducible refine simG_attr B0 CO ?_ ?_
    | with_reducible refine simG_sub ?_ ?_
    | with_reducible refine simG_tup2 ?_ ?_ ?_
    | with_reducible apply slotOk_of
    | with_reducible refine simT_cmp B0 ?_ ?_ ?_
    | with_reducible refine simT_not ?_
    | with_reducible refine simT_and ?_ ?_
    | with_reducible refine simT_or ?_ ?_
    | with_reducible refine simT_value ?_ ?_
    | with_reducible refine sim_var ?_ ?_ ?_
    | with_reducible refine simH_var ?_ ?_ ?_
    | with_reducible refine simH_pop B0 ?_ ?_ ?_
    | ((with_reducible apply sim_glob B0); (case hg => rfl); (case hv => rfl); (case hr => exact fun _ _ _ => ⟨_, rfl⟩))
    | with_reducible refine sim_bin ?_ ?_
    | with_reducible refine sim_neg ?_
    | with_reducible refine sim_not ?_
    | with_reducible refine sim_and ?_ ?_
    | with_reducible refine sim_or ?_ ?_
    | with_reducible refine sim_ite ?_ ?_ ?_
    | with_reducible refine sim_cmp B0 ?_ ?_ ?_
    | with_reducible refine sim_list ?_
    | with_reducible refine sim_tup ?_
    | with_reducible refine sim_slice ?_ ?_ ?_
    | with_reducible refine sim_idx ?_ ?_ ?_
    | with_reducible refine simO_some ?_
    | with_reducible apply sim_call B0 ih
    | with_reducible refine sim_bi B0 ?_ ?_ ?_ ?_ ?_ ?_ ?_
    | ((with_reducible refine sim_new B0 CO ?lt ih ?fn ?_ ?_ ?_ ?_ ?_); (case lt => decide); case fn => exact FN _ (by decide))
    | with_reducible refine sim_bmeth B0 ?_ ?_ ?_ ?_ ?_ ?_ ?_
    | with_reducible refine sim_umeth B0 CO m3 ih ?_ ?_ ?_ ?_ ?_ ?_
    | ((with_reducible refine sim_umeth B0 CO m4 ih ?_ ?_ ?ns ?_ ?_ ?_); case ns => rfl)
    | with_reducible refine sim_umeth B0 CO m5 ih ?_ ?_ ?_ ?_ ?_ ?_
    | with_reducible refine sim_umeth B0 CO m6 ih ?_ ?_ ?_ ?_ ?_ ?_
    | with_reducible refine sim_umeth B0 CO m7 ih ?_ ?_ ?_ ?_ ?_ ?_
    | ((with_reducible refine sim_umeth B0 CO m8 ih ?_ ?_ ?ns ?_ ?_ ?_); case ns => rfl)
    | with_reducible refine sim_umeth B0 CO m9 ih ?_ ?_ ?_ ?_ ?_ ?_
    | with_reducible refine sim_umeth_star B0 CO m4 ih ?_ ?_ ?_ ?_
    | with_reducible refine sim_umeth_star B0 CO m8 ih ?_ ?_ ?_ ?_
    | with_reducible refine sim_attr B0 CO ?_ ?_ ?_
    | with_reducible refine sim_nextOf ?_ ?_
    | with_reducible apply sim_compB hF
    | with_reducible refine sim_compZB hF B0 ?_ ?_ ?_ ?_ ?_ ?_ ?_ ?_ ?_ ?_ ?_ ?_ ?_ ?_ ?_
    | with_reducible apply gOk_cons
    | with_reducible refine simC_cons ?_ ?_
    | (with_reducible refine simI_vals B0 ?_ ?_ ?_)
    | with_reducible refine simI_e ?_
    | with_reducible refine simL_star ?_ ?_
    | with_reducible refine simL_cons ?_ ?_ ?_ ?_
    | with_reducible refine simA_lone ?_
    | with_reducible refine simA_cons ?_ ?_
    | rfl
    | exact .inl rfl
    | exact .inr rfl
    | decide
    | (intros; rfl)
    | exact swaps_cell rfl
    | exact inplace_add'
    | exact inplace_sub'
    | (intro a b s p; exact ⟨(by intro q; injection q), (by intro q; injection q)⟩)
    | (intro a b d s p q; injection q))

end
end P02
end Mine
end
section
open PySem PySem.W PyProof.Rows PySem.SeqAt PySem.MeetsSeq
set_option maxRecDepth 100000
namespace Mine
namespace P02
section
variable {w : World} {h : Heap}
noncomputable def sl_22 : List (Nat × Str) := [(0, "needs"), (1, "sorter"), (2, "one"), (3, "ahead")]
set_option maxHeartbeats 4000000 in
theorem sim_22 (B0 : Base (cc w h)) (n : Nat) (fr : List Env) (ih : FunOk (cc w h) n (callF P n)) : SimSS (cc w h) n ⟨(fdAt (K w.params) 185).scope.names, sl_22, fr, false⟩ (bdAt (fdAt (K w.params) 185)) (exs ⟨P.globs, callF P n⟩ P.W f_law_sorter.body) := by
  have hF : LkF (callF P n) := lk_callF P n
  have CO := cls (w := w) (h := h)
  have FN := initNone n
  conv in bdAt _ => whnf
  conv in (fdAt _ _).scope.names => whnf
  conv in (Fn.body _) => whnf
  unfold sl_22
  repeat' (first
    | with_reducible exact simSS_nil
    | with_reducible exact simL_nil
    | with_reducible exact simC_nil
    | with_reducible exact simO_none
    | with_reducible exact simS_bad
    | with_reducible exact simS_brk
    | with_reducible exact simS_cont
    | with_reducible exact simS_pass
    | with_reducible exact sim_int
    | with_reducible exact sim_none
    | with_reducible exact sim_bool
    | with_reducible exact sim_dict0
    | with_reducible exact GOk.nil
    | with_reducible apply simSS_freeze
    | with_reducible refine simSS_cons ?_ ?_
    | with_reducible refine simS_expr ?_ ?_
    | with_reducible refine simS_ret ?_
    | with_reducible refine simS_ifNone B0 ?_ ?_ ?_
    | with_reducible refine simS_if ?_ ?_ ?_
    | with_reducible refine simS_while ?_ ?_ ?_
    | with_reducible refine simS_for B0 hF ?_ ?_ ?_ ?_
    | with_reducible refine simS_tryNext B0 ?_ ?_ ?_ ?_ ?_ ?_ ?_ ?_ ?_
    | with_reducible refine simS_tryPlain ?_
    | ((with_reducible apply simS_assign_compB hF); case hsw => exact swaps_local rfl rfl)
    | with_reducible refine simS_assign ?_ ?_ ?_ ?_ ?_
    | with_reducible refine simS_assign2 ?_ ?_ ?_ ?_ ?_
    | with_reducible refine simS_aug B0 CO ?_ ?_ ?_ ?_
    | with_reducible refine simG_name ?_
    | with_reducible refine simG_attr B0 CO ?_ ?_
    | with_reducible refine simG_sub ?_ ?_
    | with_reducible refine simG_tup2 ?_ ?_ ?_
    | with_reducible apply slotOk_of
    | with_reducible refine simT_cmp B0 ?_ ?_ ?_
    | with_reducible refine simT_not ?_
    | with_reducible refine simT_and ?_ ?_
    | with_reducible refine simT_or ?_ ?_
    | with_reducible refine simT_value ?_ ?_
    | with_reducible refine sim_var ?_ ?_ ?_
    | with_reducible refine simH_var ?_ ?_ ?_
    | with_reducible refine simH_pop B0 ?_ ?_ ?_
    | ((with_reducible apply sim_glob B0); (case hg => rfl); (case hv => rfl); (case hr => exact fun _ _ _ => ⟨_, rfl⟩))
    | with_reducible refine sim_bin ?_ ?_
    | with_reducible refine sim_neg ?_
    | with_reducible refine sim_not ?_
    | with_reducible refine sim_and ?_ ?_
    | with_reducible refine sim_or ?_ ?_
    | with_reducible refine sim_ite ?_ ?_ ?_
    | with_reducible refine sim_cmp B0 ?_ ?_ ?_
    | with_reducible refine sim_list ?_
    | with_reducible refine sim_tup ?_
    | with_reducible refine sim_slice ?_ ?_ ?_
    | with_reducible refine sim_idx ?_ ?_ ?_
    | with_reducible refine simO_some ?_
    | with_reducible apply sim_call B0 ih
    | with_reducible refine sim_bi B0 ?_ ?_ ?_ ?_ ?_ ?_ ?_
    | ((with_reducible refine sim_new B0 CO ?lt ih ?fn ?_ ?_ ?_ ?_ ?_); (case lt => decide); case fn => exact FN _ (by decide))
    | with_reducible refine sim_bmeth B0 ?_ ?_ ?_ ?_ ?_ ?_ ?_
    | with_reducible refine sim_umeth B0 CO m3 ih ?_ ?_ ?_ ?_ ?_ ?_
    | ((with_reducible refine sim_umeth B0 CO m4 ih ?_ ?_ ?ns ?_ ?_ ?_); case ns => rfl)
    | with_reducible refine sim_umeth B0 CO m5 ih ?_ ?_ ?_ ?_ ?_ ?_
    | with_reducible refine sim_umeth B0 CO m6 ih ?_ ?_ ?_ ?_ ?_ ?_
    | with_reducible refine sim_umeth B0 CO m7 ih ?_ ?_ ?_ ?_ ?_ ?_
    | ((with_reducible refine sim_umeth B0 CO m8 ih ?_ ?_ ?ns ?_ ?_ ?_); case ns => rfl)
    | with_reducible refine sim_umeth B0 CO m9 ih ?_ ?_ ?_ ?_ ?_ ?_
    | with_reducible refine sim_umeth_star B0 CO m4 ih ?_ ?_ ?_ ?_
    | with_reducible refine sim_umeth_star B0 CO m8 ih ?_ ?_ ?_ ?_
    | with_reducible refine sim_attr B0 CO ?_ ?_ ?_
    | with_reducible refine sim_nextOf ?_ ?_
    | with_reducible apply sim_compB hF
    | with_reducible refine sim_compZB hF B0 ?_ ?_ ?_ ?_ ?_ ?_ ?_ ?_ ?_ ?_ ?_ ?_ ?_ ?_ ?_
    | with_reducible apply gOk_cons
    | with_reducible refine simC_cons ?_ ?_
    | (with_reducible refine simI_vals B0 ?_ ?_ ?_)
    | with_reducible refine simI_e ?_
    | with_reducible refine simL_star ?_ ?_
    | with_reducible refine simL_cons ?_ ?_ ?_ ?_
    | with_reducible refine simA_lone ?_
    | with_reducible refine simA_cons ?_ ?_
    | rfl
    | exact .inl rfl
    | exact .inr rfl
    | decide
    | (intros; rfl)
    | exact swaps_cell rfl
    | exact inplace_add'
    | exact inplace_sub'
    | (intro a b s p; exact ⟨(by intro q; injection q), (by intro q; injection q)⟩)
    | (intro a b d s p q; injection q))

end
end P02
end Mine
end
section
open PySem PySem.W PyProof.Rows PySem.SeqAt PySem.MeetsSeq
set_option maxRecDepth 100000
namespace Mine
namespace P02
section
variable {w : World} {h : Heap}
noncomputable def sl_23 : List (Nat × Str) := [(0, "needs"), (1, "order"), (2, "sorter"), (3, "out"), (4, "one")]
set_option maxHeartbeats 4000000 in
theorem sim_23 (B0 : Base (cc w h)) (n : Nat) (fr : List Env) (ih : FunOk (cc w h) n (callF P n)) : SimSS (cc w h) n ⟨(fdAt (K w.params) 192).scope.names, sl_23, fr, false⟩ (bdAt (fdAt (K w.params) 192)) (exs ⟨P.globs, callF P n⟩ P.W f_law_lets_through.body) := by
  have hF : LkF (callF P n) := lk_callF P n
  have CO := cls (w := w) (h := h)
  have FN := initNone n
  conv in bdAt _ => whnf
  conv in (fdAt _ _).scope.names => whnf
  conv in (Fn.body _) => whnf
  unfold sl_23
  repeat' (first
    | with_reducible exact simSS_nil
    | with_reducible exact simL_nil
    | with_reducible exact simC_nil
    | with_reducible exact simO_none
    | with_reducible exact simS_bad
    | with_reducible exact simS_brk
    | with_reducible exact simS_cont
    | with_reducible exact simS_pass
    | with_reducible exact sim_int
    | with_reducible exact sim_none
    | with_reducible exact sim_bool
    | with_reducible exact sim_dict0
    | with_reducible exact GOk.nil
    | with_reducible apply simSS_freeze
    | with_reducible refine simSS_cons ?_ ?_
    | with_reducible refine simS_expr ?_ ?_
    | with_reducible refine simS_ret ?_
    | with_reducible refine simS_ifNone B0 ?_ ?_ ?_
    | with_reducible refine simS_if ?_ ?_ ?_
    | with_reducible refine simS_while ?_ ?_ ?_
    | with_reducible refine simS_for B0 hF ?_ ?_ ?_ ?_
    | with_reducible refine simS_tryNext B0 ?_ ?_ ?_ ?_ ?_ ?_ ?_ ?_ ?_
    | with_reducible refine simS_tryPlain ?_
    | ((with_reducible apply simS_assign_compB hF); case hsw => exact swaps_local rfl rfl)
    | with_reducible refine simS_assign ?_ ?_ ?_ ?_ ?_
    | with_reducible refine simS_assign2 ?_ ?_ ?_ ?_ ?_
    | with_reducible refine simS_aug B0 CO ?_ ?_ ?_ ?_
    | with_reducible refine simG_name ?_
    | with_reducible refine simG_attr B0 CO ?_ ?_
    | with_reducible refine simG_sub ?_ ?_
    | with_reducible refine simG_tup2 ?_ ?_ ?_
    | with_reducible apply slotOk_of
    | with_reducible refine simT_cmp B0 ?_ ?_ ?_
    | with_reducible refine simT_not ?_
    | with_reducible refine simT_and ?_ ?_
    | with_reducible refine simT_or ?_ ?_
    | with_reducible refine simT_value ?_ ?_
    | with_reducible refine sim_var ?_ ?_ ?_
    | with_reducible refine simH_var ?_ ?_ ?_
    | with_reducible refine simH_pop B0 ?_ ?_ ?_
    | ((with_reducible apply sim_glob B0); (case hg => rfl); (case hv => rfl); (case hr => exact fun _ _ _ => ⟨_, rfl⟩))
    | with_reducible refine sim_bin ?_ ?_
    | with_reducible refine sim_neg ?_
    | with_reducible refine sim_not ?_
    | with_reducible refine sim_and ?_ ?_
    | with_reducible refine sim_or ?_ ?_
    | with_reducible refine sim_ite ?_ ?_ ?_
    | with_reducible refine sim_cmp B0 ?_ ?_ ?_
    | with_reducible refine sim_list ?_
    | with_reducible refine sim_tup ?_
    | with_reducible refine sim_slice ?_ ?_ ?_
    | with_reducible refine sim_idx ?_ ?_ ?_
    | with_reducible refine simO_some ?_
    | with_reducible apply sim_call B0 ih
    | with_reducible refine sim_bi B0 ?_ ?_ ?_ ?_ ?_ ?_ ?_
    | ((with_reducible refine sim_new B0 CO ?lt ih ?fn ?_ ?_ ?_ ?_ ?_); (case lt => decide); case fn => exact FN _ (by decide))
    | with_reducible refine sim_bmeth B0 ?_ ?_ ?_ ?_ ?_ ?_ ?_
    | with_reducible refine sim_umeth B0 CO m3 ih ?_ ?_ ?_ ?_ ?_ ?_
    | ((with_reducible refine sim_umeth B0 CO m4 ih ?_ ?_ ?ns ?_ ?_ ?_); case ns => rfl)
    | with_reducible refine sim_umeth B0 CO m5 ih ?_ ?_ ?_ ?_ ?_ ?_
    | with_reducible refine sim_umeth B0 CO m6 ih ?_ ?_ ?_ ?_ ?_ ?_
    | with_reducible refine sim_umeth B0 CO m7 ih ?_ ?_ ?_ ?_ ?_ ?_
    | ((with_reducible refine sim_umeth B0 CO m8 ih ?_ ?_ ?ns ?_ ?_ ?_); case ns => rfl)
    | with_reducible refine sim_umeth B0 CO m9 ih ?_ ?_ ?_ ?_ ?_ ?_
    | with_reducible refine sim_umeth_star B0 CO m4 ih ?_ ?_ ?_ ?_
    | with_reducible refine sim_umeth_star B0 CO m8 ih ?_ ?_ ?_ ?_
    | with_reducible refine sim_attr B0 CO ?_ ?_ ?_
    | with_reducible refine sim_nextOf ?_ ?_
    | with_reducible apply sim_compB hF
    | with_reducible refine sim_compZB hF B0 ?_ ?_ ?_ ?_ ?_ ?_ ?_ ?_ ?_ ?_ ?_ ?_ ?_ ?_ ?_
    | with_reducible apply gOk_cons
    | with_reducible refine simC_cons ?_ ?_
    | (with_reducible refine simI_vals B0 ?_ ?_ ?_)
    | with_reducible refine simI_e ?_
    | with_reducible refine simL_star ?_ ?_
    | with_reducible refine simL_cons ?_ ?_ ?_ ?_
    | with_reducible refine simA_lone ?_
    | with_reducible refine simA_cons ?_ ?_
    | rfl
    | exact .inl rfl
    | exact .inr rfl
    | decide
    | (intros; rfl)
    | exact swaps_cell rfl
    | exact inplace_add'
    | exact inplace_sub'
    | (intro a b s p; exact ⟨(by intro q; injection q), (by intro q; injection q)⟩)
    | (intro a b d s p q; injection q))

end
end P02
end Mine
end
section
open PySem PySem.W PyProof.Rows PySem.SeqAt PySem.MeetsSeq
set_option maxRecDepth 100000
namespace Mine
namespace P02
section
variable {w : World} {h : Heap}
noncomputable def sl_40 : List (Nat × Str) := [(0, "script"), (1, "number"), (2, "x"), (3, "rows"), (4, "times"), (5, "more"), (6, "a"), (7, "needs"), (8, "sorter"), (9, "orders"), (10, "ways"), (11, "passed"), (12, "low"), (13, "high"), (14, "out"), (15, "group")]
set_option maxHeartbeats 4000000 in
theorem sim_40 (B0 : Base (cc w h)) (n : Nat) (fr : List Env) (ih : FunOk (cc w h) n (callF P n)) : SimSS (cc w h) n ⟨(fdAt (K w.params) 197).scope.names, sl_40, fr, false⟩ (bdAt (fdAt (K w.params) 197)) (exs ⟨P.globs, callF P n⟩ P.W f_law.body) := by
  have hF : LkF (callF P n) := lk_callF P n
  have CO := cls (w := w) (h := h)
  have FN := initNone n
  conv in bdAt _ => whnf
  conv in (fdAt _ _).scope.names => whnf
  conv in (Fn.body _) => whnf
  unfold sl_40
  repeat' (first
    | with_reducible exact simSS_nil
    | with_reducible exact simL_nil
    | with_reducible exact simC_nil
    | with_reducible exact simO_none
    | with_reducible exact simS_bad
    | with_reducible exact simS_brk
    | with_reducible exact simS_cont
    | with_reducible exact simS_pass
    | with_reducible exact sim_int
    | with_reducible exact sim_none
    | with_reducible exact sim_bool
    | with_reducible exact sim_dict0
    | with_reducible exact GOk.nil
    | with_reducible apply simSS_freeze
    | with_reducible refine simSS_cons ?_ ?_
    | with_reducible refine simS_expr ?_ ?_
    | with_reducible refine simS_ret ?_
    | with_reducible refine simS_ifNone B0 ?_ ?_ ?_
    | with_reducible refine simS_if ?_ ?_ ?_
    | with_reducible refine simS_while ?_ ?_ ?_
    | with_reducible refine simS_for B0 hF ?_ ?_ ?_ ?_
    | with_reducible refine simS_tryNext B0 ?_ ?_ ?_ ?_ ?_ ?_ ?_ ?_ ?_
    | with_reducible refine simS_tryPlain ?_
    | ((with_reducible apply simS_assign_compB hF); case hsw => exact swaps_local rfl rfl)
    | with_reducible refine simS_assign ?_ ?_ ?_ ?_ ?_
    | with_reducible refine simS_assign2 ?_ ?_ ?_ ?_ ?_
    | with_reducible refine simS_aug B0 CO ?_ ?_ ?_ ?_
    | with_reducible refine simG_name ?_
    | with_reducible refine simG_attr B0 CO ?_ ?_
    | with_reducible refine simG_sub ?_ ?_
    | with_reducible refine simG_tup2 ?_ ?_ ?_
    | with_reducible apply slotOk_of
    | with_reducible refine simT_cmp B0 ?_ ?_ ?_
    | with_reducible refine simT_not ?_
    | with_reducible refine simT_and ?_ ?_
    | with_reducible refine simT_or ?_ ?_
    | with_reducible refine simT_value ?_ ?_
    | with_reducible refine sim_var ?_ ?_ ?_
    | with_reducible refine simH_var ?_ ?_ ?_
    | with_reducible refine simH_pop B0 ?_ ?_ ?_
    | ((with_reducible apply sim_glob B0); (case hg => rfl); (case hv => rfl); (case hr => exact fun _ _ _ => ⟨_, rfl⟩))
    | with_reducible refine sim_bin ?_ ?_
    | with_reducible refine sim_neg ?_
    | with_reducible refine sim_not ?_
    | with_reducible refine sim_and ?_ ?_
    | with_reducible refine sim_or ?_ ?_
    | with_reducible refine sim_ite ?_ ?_ ?_
    | with_reducible refine sim_cmp B0 ?_ ?_ ?_
    | with_reducible refine sim_list ?_
    | with_reducible refine sim_tup ?_
    | with_reducible refine sim_slice ?_ ?_ ?_
    | with_reducible refine sim_idx ?_ ?_ ?_
    | with_reducible refine simO_some ?_
    | with_reducible apply sim_call B0 ih
    | with_reducible refine sim_bi B0 ?_ ?_ ?_ ?_ ?_ ?_ ?_
    | ((with_reducible refine sim_new B0 CO ?lt ih ?fn ?_ ?_ ?_ ?_ ?_); (case lt => decide); case fn => exact FN _ (by decide))
    | with_reducible refine sim_bmeth B0 ?_ ?_ ?_ ?_ ?_ ?_ ?_
    | with_reducible refine sim_umeth B0 CO m3 ih ?_ ?_ ?_ ?_ ?_ ?_
    | ((with_reducible refine sim_umeth B0 CO m4 ih ?_ ?_ ?ns ?_ ?_ ?_); case ns => rfl)
    | with_reducible refine sim_umeth B0 CO m5 ih ?_ ?_ ?_ ?_ ?_ ?_
    | with_reducible refine sim_umeth B0 CO m6 ih ?_ ?_ ?_ ?_ ?_ ?_
    | with_reducible refine sim_umeth B0 CO m7 ih ?_ ?_ ?_ ?_ ?_ ?_
    | ((with_reducible refine sim_umeth B0 CO m8 ih ?_ ?_ ?ns ?_ ?_ ?_); case ns => rfl)
    | with_reducible refine sim_umeth B0 CO m9 ih ?_ ?_ ?_ ?_ ?_ ?_
    | with_reducible refine sim_umeth_star B0 CO m4 ih ?_ ?_ ?_ ?_
    | with_reducible refine sim_umeth_star B0 CO m8 ih ?_ ?_ ?_ ?_
    | with_reducible refine sim_attr B0 CO ?_ ?_ ?_
    | with_reducible refine sim_nextOf ?_ ?_
    | with_reducible apply sim_compB hF
    | with_reducible refine sim_compZB hF B0 ?_ ?_ ?_ ?_ ?_ ?_ ?_ ?_ ?_ ?_ ?_ ?_ ?_ ?_ ?_
    | with_reducible apply gOk_cons
    | with_reducible refine simC_cons ?_ ?_
    | (with_reducible refine simI_vals B0 ?_ ?_ ?_)
    | with_reducible refine simI_e ?_
    | with_reducible refine simL_star ?_ ?_
    | with_reducible refine simL_cons ?_ ?_ ?_ ?_
    | with_reducible refine simA_lone ?_
    | with_reducible refine simA_cons ?_ ?_
    | rfl
    | exact .inl rfl
    | exact .inr rfl
    | decide
    | (intros; rfl)
    | exact swaps_cell rfl
    | exact inplace_add'
    | exact inplace_sub'
    | (intro a b s p; exact ⟨(by intro q; injection q), (by intro q; injection q)⟩)
    | (intro a b d s p q; injection q))

end
end P02
end Mine
end
section
open PySem PySem.W PyProof.Rows PySem.SeqAt PySem.MeetsSeq
set_option maxRecDepth 100000
namespace Mine
namespace P02
section
variable {w : World} {h : Heap}
noncomputable def sl_1000 : List (Nat × Str) := [(0, "self"), (1, "graph"), (2, "node"), (3, "predecessors")]
set_option maxHeartbeats 4000000 in
theorem sim_1000 (B0 : Base (cc w h)) (n : Nat) (fr : List Env) (ih : FunOk (cc w h) n (callF P n)) : SimSS (cc w h) n ⟨(fdAt (K w.params) 100).scope.names, sl_1000, fr, false⟩ (bdAt (fdAt (K w.params) 100)) (exs ⟨P.globs, callF P n⟩ P.W f_init_TopologicalSorter.body) := by
  have hF : LkF (callF P n) := lk_callF P n
  have CO := cls (w := w) (h := h)
  have FN := initNone n
  conv in bdAt _ => whnf
  conv in (fdAt _ _).scope.names => whnf
  conv in (Fn.body _) => whnf
  unfold sl_1000
  repeat' (first
    | with_reducible exact simSS_nil
    | with_reducible exact simL_nil
    | with_reducible exact simC_nil
    | with_reducible exact simO_none
    | with_reducible exact simS_bad
    | with_reducible exact simS_brk
    | with_reducible exact simS_cont
    | with_reducible exact simS_pass
    | with_reducible exact sim_int
    | with_reducible exact sim_none
    | with_reducible exact sim_bool
    | with_reducible exact sim_dict0
    | with_reducible exact GOk.nil
    | with_reducible apply simSS_freeze
    | with_reducible refine simSS_cons ?_ ?_
    | with_reducible refine simS_expr ?_ ?_
    | with_reducible refine simS_ret ?_
    | with_reducible refine simS_ifNone B0 ?_ ?_ ?_
    | with_reducible refine simS_if ?_ ?_ ?_
    | with_reducible refine simS_while ?_ ?_ ?_
    | with_reducible refine simS_for B0 hF ?_ ?_ ?_ ?_
    | with_reducible refine simS_tryNext B0 ?_ ?_ ?_ ?_ ?_ ?_ ?_ ?_ ?_
    | with_reducible refine simS_tryPlain ?_
    | ((with_reducible apply simS_assign_compB hF); case hsw => exact swaps_local rfl rfl)
    | with_reducible refine simS_assign ?_ ?_ ?_ ?_ ?_
    | with_reducible refine simS_assign2 ?_ ?_ ?_ ?_ ?_
    | with_reducible refine simS_aug B0 CO ?_ ?_ ?_ ?_
    | with_reducible refine simG_name ?_
    | with_reducible refine simG_attr B0 CO ?_ ?_
    | with_reducible refine simG_sub ?_ ?_
    | with_reducible refine simG_tup2 ?_ ?_ ?_
    | with_reducible apply slotOk_of
    | with_reducible refine simT_cmp B0 ?_ ?_ ?_
    | with_reducible refine simT_not ?_
    | with_reducible refine simT_and ?_ ?_
    | with_reducible refine simT_or ?_ ?_
    | with_reducible refine simT_value ?_ ?_
    | with_reducible refine sim_var ?_ ?_ ?_
    | with_reducible refine simH_var ?_ ?_ ?_
    | with_reducible refine simH_pop B0 ?_ ?_ ?_
    | ((with_reducible apply sim_glob B0); (case hg => rfl); (case hv => rfl); (case hr => exact fun _ _ _ => ⟨_, rfl⟩))
    | with_reducible refine sim_bin ?_ ?_
    | with_reducible refine sim_neg ?_
    | with_reducible refine sim_not ?_
    | with_reducible refine sim_and ?_ ?_
    | with_reducible refine sim_or ?_ ?_
    | with_reducible refine sim_ite ?_ ?_ ?_
    | with_reducible refine sim_cmp B0 ?_ ?_ ?_
    | with_reducible refine sim_list ?_
    | with_reducible refine sim_tup ?_
    | with_reducible refine sim_slice ?_ ?_ ?_
    | with_reducible refine sim_idx ?_ ?_ ?_
    | with_reducible refine simO_some ?_
    | with_reducible apply sim_call B0 ih
    | with_reducible refine sim_bi B0 ?_ ?_ ?_ ?_ ?_ ?_ ?_
    | ((with_reducible refine sim_new B0 CO ?lt ih ?fn ?_ ?_ ?_ ?_ ?_); (case lt => decide); case fn => exact FN _ (by decide))
    | with_reducible refine sim_bmeth B0 ?_ ?_ ?_ ?_ ?_ ?_ ?_
    | with_reducible refine sim_umeth B0 CO m3 ih ?_ ?_ ?_ ?_ ?_ ?_
    | ((with_reducible refine sim_umeth B0 CO m4 ih ?_ ?_ ?ns ?_ ?_ ?_); case ns => rfl)
    | with_reducible refine sim_umeth B0 CO m5 ih ?_ ?_ ?_ ?_ ?_ ?_
    | with_reducible refine sim_umeth B0 CO m6 ih ?_ ?_ ?_ ?_ ?_ ?_
    | with_reducible refine sim_umeth B0 CO m7 ih ?_ ?_ ?_ ?_ ?_ ?_
    | ((with_reducible refine sim_umeth B0 CO m8 ih ?_ ?_ ?ns ?_ ?_ ?_); case ns => rfl)
    | with_reducible refine sim_umeth B0 CO m9 ih ?_ ?_ ?_ ?_ ?_ ?_
    | with_reducible refine sim_umeth_star B0 CO m4 ih ?_ ?_ ?_ ?_
    | with_reducible refine sim_umeth_star B0 CO m8 ih ?_ ?_ ?_ ?_
    | with_reducible refine sim_attr B0 CO ?_ ?_ ?_
    | with_reducible refine sim_nextOf ?_ ?_
    | with_reducible apply sim_compB hF
    | with_reducible refine sim_compZB hF B0 ?_ ?_ ?_ ?_ ?_ ?_ ?_ ?_ ?_ ?_ ?_ ?_ ?_ ?_ ?_
    | with_reducible apply gOk_cons
    | with_reducible refine simC_cons ?_ ?_
    | (with_reducible refine simI_vals B0 ?_ ?_ ?_)
    | with_reducible refine simI_e ?_
    | with_reducible refine simL_star ?_ ?_
    | with_reducible refine simL_cons ?_ ?_ ?_ ?_
    | with_reducible refine simA_lone ?_
    | with_reducible refine simA_cons ?_ ?_
    | rfl
    | exact .inl rfl
    | exact .inr rfl
    | decide
    | (intros; rfl)
    | exact swaps_cell rfl
    | exact inplace_add'
    | exact inplace_sub'
    | (intro a b s p; exact ⟨(by intro q; injection q), (by intro q; injection q)⟩)
    | (intro a b d s p q; injection q))

end
end P02
end Mine
end
section
open PySem PySem.W PyProof.Rows PySem.SeqAt PySem.MeetsSeq
set_option maxRecDepth 100000
namespace Mine
namespace P02
section
variable {w : World} {h : Heap}
noncomputable def sl_1001 : List (Nat × Str) := [(0, "self"), (1, "node")]
set_option maxHeartbeats 4000000 in
theorem sim_1001 (B0 : Base (cc w h)) (n : Nat) (fr : List Env) (ih : FunOk (cc w h) n (callF P n)) : SimSS (cc w h) n ⟨(fdAt (K w.params) 63).scope.names, sl_1001, fr, false⟩ (bdAt (fdAt (K w.params) 63)) (exs ⟨P.globs, callF P n⟩ P.W f_init_NodeInfo.body) := by
  have hF : LkF (callF P n) := lk_callF P n
  have CO := cls (w := w) (h := h)
  have FN := initNone n
  conv in bdAt _ => whnf
  conv in (fdAt _ _).scope.names => whnf
  conv in (Fn.body _) => whnf
  unfold sl_1001
  repeat' (first
    | with_reducible exact simSS_nil
    | with_reducible exact simL_nil
    | with_reducible exact simC_nil
    | with_reducible exact simO_none
    | with_reducible exact simS_bad
    | with_reducible exact simS_brk
    | with_reducible exact simS_cont
    | with_reducible exact simS_pass
    | with_reducible exact sim_int
    | with_reducible exact sim_none
    | with_reducible exact sim_bool
    | with_reducible exact sim_dict0
    | with_reducible exact GOk.nil
    | with_reducible apply simSS_freeze
    | with_reducible refine simSS_cons ?_ ?_
    | with_reducible refine simS_expr ?_ ?_
    | with_reducible refine simS_ret ?_
    | with_reducible refine simS_ifNone B0 ?_ ?_ ?_
    | with_reducible refine simS_if ?_ ?_ ?_
    | with_reducible refine simS_while ?_ ?_ ?_
    | with_reducible refine simS_for B0 hF ?_ ?_ ?_ ?_
    | with_reducible refine simS_tryNext B0 ?_ ?_ ?_ ?_ ?_ ?_ ?_ ?_ ?_
    | with_reducible refine simS_tryPlain ?_
    | ((with_reducible apply simS_assign_compB hF); case hsw => exact swaps_local rfl rfl)
    | with_reducible refine simS_assign ?_ ?_ ?_ ?_ ?_
    | with_reducible refine simS_assign2 ?_ ?_ ?_ ?_ ?_
    | with_reducible refine simS_aug B0 CO ?_ ?_ ?_ ?_
    | with_reducible refine simG_name ?_
    | with_reducible refine simG_attr B0 CO ?_ ?_
    | with_reducible refine simG_sub ?_ ?_
    | with_reducible refine simG_tup2 ?_ ?_ ?_
    | with_reducible apply slotOk_of
    | with_reducible refine simT_cmp B0 ?_ ?_ ?_
    | with_reducible refine simT_not ?_
    | with_reducible refine simT_and ?_ ?_
    | with_reducible refine simT_or ?_ ?_
    | with_reducible refine simT_value ?_ ?_
    | with_reducible refine sim_var ?_ ?_ ?_
    | with_reducible refine simH_var ?_ ?_ ?_
    | with_reducible refine simH_pop B0 ?_ ?_ ?_
    | ((with_reducible apply sim_glob B0); (case hg => rfl); (case hv => rfl); (case hr => exact fun _ _ _ => ⟨_, rfl⟩))
    | with_reducible refine sim_bin ?_ ?_
    | with_reducible refine sim_neg ?_
    | with_reducible refine sim_not ?_
    | with_reducible refine sim_and ?_ ?_
    | with_reducible refine sim_or ?_ ?_
    | with_reducible refine sim_ite ?_ ?_ ?_
    | with_reducible refine sim_cmp B0 ?_ ?_ ?_
    | with_reducible refine sim_list ?_
    | with_reducible refine sim_tup ?_
    | with_reducible refine sim_slice ?_ ?_ ?_
    | with_reducible refine sim_idx ?_ ?_ ?_
    | with_reducible refine simO_some ?_
    | with_reducible apply sim_call B0 ih
    | with_reducible refine sim_bi B0 ?_ ?_ ?_ ?_ ?_ ?_ ?_
    | ((with_reducible refine sim_new B0 CO ?lt ih ?fn ?_ ?_ ?_ ?_ ?_); (case lt => decide); case fn => exact FN _ (by decide))
    | with_reducible refine sim_bmeth B0 ?_ ?_ ?_ ?_ ?_ ?_ ?_
    | with_reducible refine sim_umeth B0 CO m3 ih ?_ ?_ ?_ ?_ ?_ ?_
    | ((with_reducible refine sim_umeth B0 CO m4 ih ?_ ?_ ?ns ?_ ?_ ?_); case ns => rfl)
    | with_reducible refine sim_umeth B0 CO m5 ih ?_ ?_ ?_ ?_ ?_ ?_
    | with_reducible refine sim_umeth B0 CO m6 ih ?_ ?_ ?_ ?_ ?_ ?_
    | with_reducible refine sim_umeth B0 CO m7 ih ?_ ?_ ?_ ?_ ?_ ?_
    | ((with_reducible refine sim_umeth B0 CO m8 ih ?_ ?_ ?ns ?_ ?_ ?_); case ns => rfl)
    | with_reducible refine sim_umeth B0 CO m9 ih ?_ ?_ ?_ ?_ ?_ ?_
    | with_reducible refine sim_umeth_star B0 CO m4 ih ?_ ?_ ?_ ?_
    | with_reducible refine sim_umeth_star B0 CO m8 ih ?_ ?_ ?_ ?_
    | with_reducible refine sim_attr B0 CO ?_ ?_ ?_
    | with_reducible refine sim_nextOf ?_ ?_
    | with_reducible apply sim_compB hF
    | with_reducible refine sim_compZB hF B0 ?_ ?_ ?_ ?_ ?_ ?_ ?_ ?_ ?_ ?_ ?_ ?_ ?_ ?_ ?_
    | with_reducible apply gOk_cons
    | with_reducible refine simC_cons ?_ ?_
    | (with_reducible refine simI_vals B0 ?_ ?_ ?_)
    | with_reducible refine simI_e ?_
    | with_reducible refine simL_star ?_ ?_
    | with_reducible refine simL_cons ?_ ?_ ?_ ?_
    | with_reducible refine simA_lone ?_
    | with_reducible refine simA_cons ?_ ?_
    | rfl
    | exact .inl rfl
    | exact .inr rfl
    | decide
    | (intros; rfl)
    | exact swaps_cell rfl
    | exact inplace_add'
    | exact inplace_sub'
    | (intro a b s p; exact ⟨(by intro q; injection q), (by intro q; injection q)⟩)
    | (intro a b d s p q; injection q))

end
end P02
end Mine
end
section
open PySem PySem.W PyProof.Rows PySem.SeqAt PySem.MeetsSeq
set_option maxRecDepth 100000
namespace Mine
namespace P02
section
variable {w : World} {h : Heap}
theorem fd_0 (KX : (K w.params).In h) (B0 : Base (cc w h)) : FdOk (cc w h) P f_median_low 41 (fdAt (K w.params) 41) (bdAt (fdAt (K w.params) 41)) ["data"] sl_0 := by
  refine fdOk_of ⟨_, KX 41 _ rfl, rfl⟩ ?code ?bd ?clo ?co ?gen ?kind ?glob ?bu ?nd ?pn ?pk ?sl ?bind fun n fr ih => sim_0 B0 n fr ih
  case bind =>
    refine binds_plain rfl rfl (by decide) rfl (fun vals hv => ?_)
    revert hv; revert vals
    refine vals1 (fun v0 => ?_)
    conv in fdAt _ _ => whnf
    rfl
  case code => exact ⟨40, _, _, _, rfl, KX 40 _ rfl, rfl, rfl⟩
  case pn => rfl
  case sl => rfl
  case bd => rfl
  all_goals (conv in fdAt _ _ => whnf)
  all_goals rfl
theorem fd_1 (KX : (K w.params).In h) (B0 : Base (cc w h)) : FdOk (cc w h) P f_median_high 48 (fdAt (K w.params) 48) (bdAt (fdAt (K w.params) 48)) ["data"] sl_1 := by
  refine fdOk_of ⟨_, KX 48 _ rfl, rfl⟩ ?code ?bd ?clo ?co ?gen ?kind ?glob ?bu ?nd ?pn ?pk ?sl ?bind fun n fr ih => sim_1 B0 n fr ih
  case bind =>
    refine binds_plain rfl rfl (by decide) rfl (fun vals hv => ?_)
    revert hv; revert vals
    refine vals1 (fun v0 => ?_)
    conv in fdAt _ _ => whnf
    rfl
  case code => exact ⟨47, _, _, _, rfl, KX 47 _ rfl, rfl, rfl⟩
  case pn => rfl
  case sl => rfl
  case bd => rfl
  all_goals (conv in fdAt _ _ => whnf)
  all_goals rfl
theorem fd_3 (KX : (K w.params).In h) (B0 : Base (cc w h)) : FdOk (cc w h) P f_get_nodeinfo 107 (fdAt (K w.params) 107) (bdAt (fdAt (K w.params) 107)) ["self", "node"] sl_3 := by
  refine fdOk_of ⟨_, KX 107 _ rfl, rfl⟩ ?code ?bd ?clo ?co ?gen ?kind ?glob ?bu ?nd ?pn ?pk ?sl ?bind fun n fr ih => sim_3 B0 n fr ih
  case bind =>
    refine binds_plain rfl rfl (by decide) rfl (fun vals hv => ?_)
    revert hv; revert vals
    refine vals2 (fun v0 v1 => ?_)
    conv in fdAt _ _ => whnf
    rfl
  case code => exact ⟨106, _, _, _, rfl, KX 106 _ rfl, rfl, rfl⟩
  case pn => rfl
  case sl => rfl
  case bd => rfl
  all_goals (conv in fdAt _ _ => whnf)
  all_goals rfl
theorem fd_4 (KX : (K w.params).In h) (B0 : Base (cc w h)) : FdOk (cc w h) P f_add 114 (fdAt (K w.params) 114) (bdAt (fdAt (K w.params) 114)) ["self", "node", "predecessors"] sl_4 := by
  refine fdOk_of ⟨_, KX 114 _ rfl, rfl⟩ ?code ?bd ?clo ?co ?gen ?kind ?glob ?bu ?nd ?pn ?pk ?sl ?bind fun n fr ih => sim_4 B0 n fr ih
  case bind =>
    refine binds_star rfl rfl (by decide) rfl (fun vals hv => ?_)
    revert hv; revert vals
    refine valsS2 (fun v0 v1 r => ?_)
    conv in fdAt _ _ => whnf
    cases r with
    | nil => rfl
    | cons a r => rfl
  case code => exact ⟨113, _, _, _, rfl, KX 113 _ rfl, rfl, rfl⟩
  case pn => rfl
  case sl => rfl
  case bd => rfl
  all_goals (conv in fdAt _ _ => whnf)
  all_goals rfl
theorem fd_5 (KX : (K w.params).In h) (B0 : Base (cc w h)) : FdOk (cc w h) P f_prepare 119 (fdAt (K w.params) 119) (bdAt (fdAt (K w.params) 119)) ["self"] sl_5 := by
  refine fdOk_of ⟨_, KX 119 _ rfl, rfl⟩ ?code ?bd ?clo ?co ?gen ?kind ?glob ?bu ?nd ?pn ?pk ?sl ?bind fun n fr ih => sim_5 B0 n fr ih
  case bind =>
    refine binds_plain rfl rfl (by decide) rfl (fun vals hv => ?_)
    revert hv; revert vals
    refine vals1 (fun v0 => ?_)
    conv in fdAt _ _ => whnf
    rfl
  case code => exact ⟨118, _, _, _, rfl, KX 118 _ rfl, rfl, rfl⟩
  case pn => rfl
  case sl => rfl
  case bd => rfl
  all_goals (conv in fdAt _ _ => whnf)
  all_goals rfl
theorem fd_6 (KX : (K w.params).In h) (B0 : Base (cc w h)) : FdOk (cc w h) P f_get_ready 126 (fdAt (K w.params) 126) (bdAt (fdAt (K w.params) 126)) ["self"] sl_6 := by
  refine fdOk_of ⟨_, KX 126 _ rfl, rfl⟩ ?code ?bd ?clo ?co ?gen ?kind ?glob ?bu ?nd ?pn ?pk ?sl ?bind fun n fr ih => sim_6 B0 n fr ih
  case bind =>
    refine binds_plain rfl rfl (by decide) rfl (fun vals hv => ?_)
    revert hv; revert vals
    refine vals1 (fun v0 => ?_)
    conv in fdAt _ _ => whnf
    rfl
  case code => exact ⟨125, _, _, _, rfl, KX 125 _ rfl, rfl, rfl⟩
  case pn => rfl
  case sl => rfl
  case bd => rfl
  all_goals (conv in fdAt _ _ => whnf)
  all_goals rfl
theorem fd_7 (KX : (K w.params).In h) (B0 : Base (cc w h)) : FdOk (cc w h) P f_is_active 133 (fdAt (K w.params) 133) (bdAt (fdAt (K w.params) 133)) ["self"] sl_7 := by
  refine fdOk_of ⟨_, KX 133 _ rfl, rfl⟩ ?code ?bd ?clo ?co ?gen ?kind ?glob ?bu ?nd ?pn ?pk ?sl ?bind fun n fr ih => sim_7 B0 n fr ih
  case bind =>
    refine binds_plain rfl rfl (by decide) rfl (fun vals hv => ?_)
    revert hv; revert vals
    refine vals1 (fun v0 => ?_)
    conv in fdAt _ _ => whnf
    rfl
  case code => exact ⟨132, _, _, _, rfl, KX 132 _ rfl, rfl, rfl⟩
  case pn => rfl
  case sl => rfl
  case bd => rfl
  all_goals (conv in fdAt _ _ => whnf)
  all_goals rfl
theorem fd_8 (KX : (K w.params).In h) (B0 : Base (cc w h)) : FdOk (cc w h) P f_done 147 (fdAt (K w.params) 147) (bdAt (fdAt (K w.params) 147)) ["self", "nodes"] sl_8 := by
  refine fdOk_of ⟨_, KX 147 _ rfl, rfl⟩ ?code ?bd ?clo ?co ?gen ?kind ?glob ?bu ?nd ?pn ?pk ?sl ?bind fun n fr ih => sim_8 B0 n fr ih
  case bind =>
    refine binds_star rfl rfl (by decide) rfl (fun vals hv => ?_)
    revert hv; revert vals
    refine valsS1 (fun v0 r => ?_)
    conv in fdAt _ _ => whnf
    cases r with
    | nil => rfl
    | cons a r => rfl
  case code => exact ⟨146, _, _, _, rfl, KX 146 _ rfl, rfl, rfl⟩
  case pn => rfl
  case sl => rfl
  case bd => rfl
  all_goals (conv in fdAt _ _ => whnf)
  all_goals rfl
theorem fd_9 (KX : (K w.params).In h) (B0 : Base (cc w h)) : FdOk (cc w h) P f_find_cycle 154 (fdAt (K w.params) 154) (bdAt (fdAt (K w.params) 154)) ["self"] sl_9 := by
  refine fdOk_of ⟨_, KX 154 _ rfl, rfl⟩ ?code ?bd ?clo ?co ?gen ?kind ?glob ?bu ?nd ?pn ?pk ?sl ?bind fun n fr ih => sim_9 B0 n fr ih
  case bind =>
    refine binds_plain rfl rfl (by decide) rfl (fun vals hv => ?_)
    revert hv; revert vals
    refine vals1 (fun v0 => ?_)
    conv in fdAt _ _ => whnf
    rfl
  case code => exact ⟨153, _, _, _, rfl, KX 153 _ rfl, rfl, rfl⟩
  case pn => rfl
  case sl => rfl
  case bd => rfl
  all_goals (conv in fdAt _ _ => whnf)
  all_goals rfl
theorem fd_20 (KX : (K w.params).In h) (B0 : Base (cc w h)) : FdOk (cc w h) P f_law_orders 173 (fdAt (K w.params) 173) (bdAt (fdAt (K w.params) 173)) ["row"] sl_20 := by
  refine fdOk_of ⟨_, KX 173 _ rfl, rfl⟩ ?code ?bd ?clo ?co ?gen ?kind ?glob ?bu ?nd ?pn ?pk ?sl ?bind fun n fr ih => sim_20 B0 n fr ih
  case bind =>
    refine binds_plain rfl rfl (by decide) rfl (fun vals hv => ?_)
    revert hv; revert vals
    refine vals1 (fun v0 => ?_)
    conv in fdAt _ _ => whnf
    rfl
  case code => exact ⟨172, _, _, _, rfl, KX 172 _ rfl, rfl, rfl⟩
  case pn => rfl
  case sl => rfl
  case bd => rfl
  all_goals (conv in fdAt _ _ => whnf)
  all_goals rfl
theorem fd_21 (KX : (K w.params).In h) (B0 : Base (cc w h)) : FdOk (cc w h) P f_law_rows 178 (fdAt (K w.params) 178) (bdAt (fdAt (K w.params) 178)) ["number"] sl_21 := by
  refine fdOk_of ⟨_, KX 178 _ rfl, rfl⟩ ?code ?bd ?clo ?co ?gen ?kind ?glob ?bu ?nd ?pn ?pk ?sl ?bind fun n fr ih => sim_21 B0 n fr ih
  case bind =>
    refine binds_plain rfl rfl (by decide) rfl (fun vals hv => ?_)
    revert hv; revert vals
    refine vals1 (fun v0 => ?_)
    conv in fdAt _ _ => whnf
    rfl
  case code => exact ⟨177, _, _, _, rfl, KX 177 _ rfl, rfl, rfl⟩
  case pn => rfl
  case sl => rfl
  case bd => rfl
  all_goals (conv in fdAt _ _ => whnf)
  all_goals rfl
theorem fd_22 (KX : (K w.params).In h) (B0 : Base (cc w h)) : FdOk (cc w h) P f_law_sorter 185 (fdAt (K w.params) 185) (bdAt (fdAt (K w.params) 185)) ["needs"] sl_22 := by
  refine fdOk_of ⟨_, KX 185 _ rfl, rfl⟩ ?code ?bd ?clo ?co ?gen ?kind ?glob ?bu ?nd ?pn ?pk ?sl ?bind fun n fr ih => sim_22 B0 n fr ih
  case bind =>
    refine binds_plain rfl rfl (by decide) rfl (fun vals hv => ?_)
    revert hv; revert vals
    refine vals1 (fun v0 => ?_)
    conv in fdAt _ _ => whnf
    rfl
  case code => exact ⟨184, _, _, _, rfl, KX 184 _ rfl, rfl, rfl⟩
  case pn => rfl
  case sl => rfl
  case bd => rfl
  all_goals (conv in fdAt _ _ => whnf)
  all_goals rfl
theorem fd_23 (KX : (K w.params).In h) (B0 : Base (cc w h)) : FdOk (cc w h) P f_law_lets_through 192 (fdAt (K w.params) 192) (bdAt (fdAt (K w.params) 192)) ["needs", "order"] sl_23 := by
  refine fdOk_of ⟨_, KX 192 _ rfl, rfl⟩ ?code ?bd ?clo ?co ?gen ?kind ?glob ?bu ?nd ?pn ?pk ?sl ?bind fun n fr ih => sim_23 B0 n fr ih
  case bind =>
    refine binds_plain rfl rfl (by decide) rfl (fun vals hv => ?_)
    revert hv; revert vals
    refine vals2 (fun v0 v1 => ?_)
    conv in fdAt _ _ => whnf
    rfl
  case code => exact ⟨191, _, _, _, rfl, KX 191 _ rfl, rfl, rfl⟩
  case pn => rfl
  case sl => rfl
  case bd => rfl
  all_goals (conv in fdAt _ _ => whnf)
  all_goals rfl
theorem fd_40 (KX : (K w.params).In h) (B0 : Base (cc w h)) : FdOk (cc w h) P f_law 197 (fdAt (K w.params) 197) (bdAt (fdAt (K w.params) 197)) ["script"] sl_40 := by
  refine fdOk_of ⟨_, KX 197 _ rfl, rfl⟩ ?code ?bd ?clo ?co ?gen ?kind ?glob ?bu ?nd ?pn ?pk ?sl ?bind fun n fr ih => sim_40 B0 n fr ih
  case bind =>
    refine binds_plain rfl rfl (by decide) rfl (fun vals hv => ?_)
    revert hv; revert vals
    refine vals1 (fun v0 => ?_)
    conv in fdAt _ _ => whnf
    rfl
  case code => exact ⟨196, _, _, _, rfl, KX 196 _ rfl, rfl, rfl⟩
  case pn => rfl
  case sl => rfl
  case bd => rfl
  all_goals (conv in fdAt _ _ => whnf)
  all_goals rfl
theorem fd_1000 (KX : (K w.params).In h) (B0 : Base (cc w h)) : FdOk (cc w h) P f_init_TopologicalSorter 100 (fdAt (K w.params) 100) (bdAt (fdAt (K w.params) 100)) ["self", "graph"] sl_1000 := by
  refine fdOk_of ⟨_, KX 100 _ rfl, rfl⟩ ?code ?bd ?clo ?co ?gen ?kind ?glob ?bu ?nd ?pn ?pk ?sl ?bind fun n fr ih => sim_1000 B0 n fr ih
  case bind =>
    refine binds_dflt (T := 93) (m := 0) B0 rfl rfl rfl rfl rfl (KX 93 _ rfl) rfl (fun v => ?_) (fun v u => ?_)
    · conv in fdAt _ _ => whnf
      exact ⟨_, rfl, rfl⟩
    · conv in fdAt _ _ => whnf
      exact ⟨_, rfl, rfl⟩
  case code => exact ⟨99, _, _, _, rfl, KX 99 _ rfl, rfl, rfl⟩
  case pn => rfl
  case sl => rfl
  case bd => rfl
  all_goals (conv in fdAt _ _ => whnf)
  all_goals rfl
theorem fd_1001 (KX : (K w.params).In h) (B0 : Base (cc w h)) : FdOk (cc w h) P f_init_NodeInfo 63 (fdAt (K w.params) 63) (bdAt (fdAt (K w.params) 63)) ["self", "node"] sl_1001 := by
  refine fdOk_of ⟨_, KX 63 _ rfl, rfl⟩ ?code ?bd ?clo ?co ?gen ?kind ?glob ?bu ?nd ?pn ?pk ?sl ?bind fun n fr ih => sim_1001 B0 n fr ih
  case bind =>
    refine binds_plain rfl rfl (by decide) rfl (fun vals hv => ?_)
    revert hv; revert vals
    refine vals2 (fun v0 v1 => ?_)
    conv in fdAt _ _ => whnf
    rfl
  case code => exact ⟨62, _, _, _, rfl, KX 62 _ rfl, rfl, rfl⟩
  case pn => rfl
  case sl => rfl
  case bd => rfl
  all_goals (conv in fdAt _ _ => whnf)
  all_goals rfl
end
end P02
end Mine
end
section
open PySem PySem.W PyProof.Rows PySem.SeqAt PySem.MeetsSeq
set_option maxRecDepth 100000
namespace Mine
namespace P02
section
variable {w : World} {h : Heap}
theorem allFd (KX : (K w.params).In h) (B0 : Base (cc w h)) : ∀ f fa, (cc w h).X.fv f = some fa → ∃ fn fd body ps slots, P.fns f = some fn ∧ FdOk (cc w h) P fn fa fd body ps slots := lk_all (l := fvL) (all_c ⟨_, _, _, _, _, rfl, fd_0 KX B0⟩ (all_c ⟨_, _, _, _, _, rfl, fd_1 KX B0⟩ (all_c ⟨_, _, _, _, _, rfl, fd_3 KX B0⟩ (all_c ⟨_, _, _, _, _, rfl, fd_4 KX B0⟩ (all_c ⟨_, _, _, _, _, rfl, fd_5 KX B0⟩ (all_c ⟨_, _, _, _, _, rfl, fd_6 KX B0⟩ (all_c ⟨_, _, _, _, _, rfl, fd_7 KX B0⟩ (all_c ⟨_, _, _, _, _, rfl, fd_8 KX B0⟩ (all_c ⟨_, _, _, _, _, rfl, fd_9 KX B0⟩ (all_c ⟨_, _, _, _, _, rfl, fd_20 KX B0⟩ (all_c ⟨_, _, _, _, _, rfl, fd_21 KX B0⟩ (all_c ⟨_, _, _, _, _, rfl, fd_22 KX B0⟩ (all_c ⟨_, _, _, _, _, rfl, fd_23 KX B0⟩ (all_c ⟨_, _, _, _, _, rfl, fd_40 KX B0⟩ (all_c ⟨_, _, _, _, _, rfl, fd_1000 KX B0⟩ (all_c ⟨_, _, _, _, _, rfl, fd_1001 KX B0⟩ all_n))))))))))))))))

theorem run_law (KX : (K w.params).In h) (hb : ∃ mb, h.Ns builtinsNs mb ∧ ∀ x : Str, x ≠ "__name__" → mb x = bootBuiltins x) (hn : h.NoLimit) (hm : Heap.Has h sysModules) {s : Shared} (hs : s.heap = h) {l : Addr} {vs : List Value} {xs : List Int} (hl : h.PlainList l vs.toArray) (hv : IntsAre vs xs) (hx : xs.length ≤ lim)
    {σ' : Store} (hlaw : callF P 30 40 [.list (xs.map .int)] [] = some (.bool true, σ')) {Q : Value → Shared → Prop} {E : Value → Shared → Prop}
    (k : ∀ s', (∀ b o, h.get? b = some o → s'.heap.get? b = some o) → (∃ h' tk, s' = { s with heap := h', toks := tk }) → Q (.bool true) s') :
    wpAny (model PySem.Challenge.rw_dn0070_02.row.prog w) callerA (call (.ref 197) [.ref l]) Q E s := by
  subst hs
  have B0 : Base (cc w s.heap) := base KX hb hn hm
  have FO := funOk_all B0 (allFd KX B0) 30
  have R : (cc w s.heap).R [] (fun _ => 0) s.heap [] [] :=
    { len := rfl, keep := fun b o e => e, objs := fun k p o a => by simp at a, apart := fun k k' p p' o o' a => by simp at a, new := fun k p a => by simp at a, zlt := fun a ha => by simp at ha, alt := fun k p o a => by simp at a, zown := fun a ha => by simp at ha }
  have hnw : ¬ WW [] [] [] l := by
    rintro (q | ⟨k, p, o, a, _⟩)
    · simp at q
    · simp at a
  have hlen : vs.length = xs.length := hv.length
  refine wpAny_call (FO 40 [.list (xs.map .int)] [] (.bool true) σ' hlaw 197 rfl callerA [] (fun _ => 0) s [] [.ref l] [] ⟨by decide, by decide, rfl, rfl⟩ ⟨trivial, fun a ha => by simp at ha⟩ (fun a ha => by simp at ha) R ?_ _ fun v s' ads' x R' r => ?_)
  · exact ⟨_, [], rfl, ⟨l, vs, rfl, hl, hnw, by simpa using hx, repL_ints hv⟩, rfl⟩
  · cases r
    exact k s' R'.keep x.rest
end
theorem holds (hlaw : ∀ xs : List Int, xs.length ≤ 63 → ∃ σ', callF P 30 40 [.list (xs.map .int)] [] = some (.bool true, σ')) : PySem.Challenge.rw_dn0070_02.Holds := by
  refine topH rfl rfl rfl ?_
  intro w s₀ s₁ mg mb G Y fa o pm cd doc dV kV ho hd hcd hD hmg hg args vals as hpre hlay hrd hwl hlo
  have KX := kIn_of Y
  have T := G.T
  clear hd hcd hD
  wrow_args hpre hlay hrd hwl hlo
  rename_i xs hs hlay0 hL1 hr1 hl2 b1 b2 l vs b3 hL ra w1 r0 hI hr hlen htr
  have hfa : fa = 197 := by
    have e : mg (Str.ofString "law") = some (.ref fa) := hmg
    obtain ⟨o1, es1, ep1, g1, d1, _, f1⟩ := T.g
    obtain ⟨o2, es2, ep2, g2, d2, _, f2⟩ := glAt KX
    rw [g1] at g2; cases g2
    rw [d1] at d2; cases d2
    have : gl w.params (Str.ofString "law") = some (.ref fa) := (f2 _).symm.trans ((f1 _).trans e)
    have q : gl w.params (Str.ofString "law") = some (.ref 197) := rfl
    rw [q] at this
    injection this with this
    injection this with this
    exact this.symm
  subst hfa
  have hpl : s₁.heap.PlainList l vs.toArray := by
    obtain ⟨o', e', hc', n', hd'⟩ := hL
    have w1' : Well w.params s₁.heap (.ref l) (.list (ofPys (xs.map PyData.int))) := w1
    cases w1' with
    | list hg _ =>
      rw [hg] at e'
      cases e'
      cases hd'
      exact ⟨_, hg⟩
  obtain ⟨σ', hl⟩ := hlaw xs (by omega)
  refine run_law KX ⟨mb, T.b, T.builtins⟩ T.nolimit ?_ rfl hpl hI (by unfold lim; omega) hl fun s' hk hs' => ?_
  · obtain ⟨mm, ⟨o, _, _, e, _⟩, _⟩ := (T.seer (by decide +kernel)).mods
    exact ⟨o, e⟩
  · obtain ⟨h', tk, rfl⟩ := hs'
    refine GoodW.toG ⟨.inl ⟨_, .bool true, [], rfl, fun _ => rfl, .bool _, ?_, fun _ => ⟨List.nodup_nil, fun a ha => by simp at ha⟩⟩, hk, rfl, hg⟩
    refine postW_of (r := PySem.Challenge.rw_dn0070_02.row.toRowW) (X := true) ?_ ?_ rfl
    · first | rfl | decide | simp [WShape.has]
    · show WTm.value _ (.eq .res (.lit (.bool true))) _ = _
      simp [WTm.value, PySem.W.same]

end P02
end Mine
end
section
open PySem
set_option maxRecDepth 100000
namespace Mine
theorem bnd {α β : Type} {x : Option α} {f : α → Option β} {a : α} {r : Option β} (h : x = some a) (k : f a = r) : x.bind f = r := by rw [h]; exact k
theorem set_at {σ σ' : Store} {k c a : Nat} {v : D} {as : List (Nat × D)} (h : σ[k]? = some (.inst c as)) (ok : attrOk c a as.length = true) (hs : σ.set k (.inst c (putAttr a v as)) = σ') : setAttr σ (.ref k) a v = some σ' :=
  bnd (a := k) rfl (bnd (a := (c, as)) (bnd h rfl) ((if_pos ok).trans (congrArg some hs)))
theorem onList_at {σ σ' : Store} {k : Nat} {d : D} {l l' : List D} {f : List D → Option (D × List D)} (h : σ[k]? = some (.list l)) (hf : f l = some (d, l')) (hs : σ.set k (.list l') = σ') : onList σ (.ref k) f = some (d, σ') :=
  bnd (a := k) rfl (bnd (a := l) (bnd h rfl) (bnd hf (congrArg (fun x => some (d, x)) hs)))
theorem app_at {σ σ' : Store} {k : Nat} {d : D} {l : List D} (h : σ[k]? = some (.list l)) (hw : l.length < 1000) (hs : σ.set k (.list (l ++ [d])) = σ') : bmeth .append σ (.ref k) [d] = some (.none, σ') := onList_at h (if_pos (by unfold lim; omega)) hs
theorem recv_at {σ : Store} {k : Nat} {l : List D} (h : σ[k]? = some (.list l)) : (asList σ (.ref k)).isSome = true := congrArg Option.isSome (bnd (f := oList') h rfl)
theorem recvD_at {σ : Store} {k : Nat} {l : List (Int × D)} (h : σ[k]? = some (.dict l)) : (asDict σ (.ref k)).isSome = true := congrArg Option.isSome (bnd (f := oDict') h rfl)
theorem ev_bmeth {X : Env'} {o : E} {m : BM} {args : List E} {r : Loc} {s s1 s2 : Store} {d : D} {l : List D} {q : D × Store} (h1 : ev X o r s = some (d, s1)) (h2 : recvOk m s1 d = true) (h3 : evs X args r s1 = some (l, s2)) (h4 : bmeth m s2 d l = some q) : ev X (.bmeth o m args) r s = some q := bnd h1 (by
  show (bif recvOk m s1 d then (evs X args r s1).bind fun q => bmeth m q.2 d q.1 else .none) = _
  rw [h2]; exact bnd h3 h4)
namespace P02

theorem get_off (a b : Store) (k : Nat) : (a ++ b)[a.length + k]? = b[k]? := by
  rw [List.getElem?_append_right (by omega), Nat.add_sub_cancel_left]
theorem get_off0 (a b : Store) : (a ++ b)[a.length]? = b[0]? := get_off a b 0
theorem set_off (a b : Store) (k : Nat) (o : O) : (a ++ b).set (a.length + k) o = a ++ b.set k o := by
  rw [List.set_append_right _ _ (by omega), Nat.add_sub_cancel_left]
theorem set_off0 (a b : Store) (o : O) : (a ++ b).set a.length o = a ++ b.set 0 o := set_off a b 0 o

end P02
end Mine
end
section
open PySem
set_option maxRecDepth 100000
namespace Mine
local macro_rules | `(tactic| walk_at "mini") => `(tactic| repeat' (first | exact Mine.P02.set_off _ _ _ _ | exact Mine.P02.set_off0 _ _ _ | rfl | exact Mine.P02.get_off _ _ _ | exact Mine.P02.get_off0 _ _ | apply set_at | apply onList_at | apply ev_bmeth | apply recv_at | apply recvD_at | apply bnd))
namespace P02
structure St where
  n0 : Int
  n1 : Int
  n2 : Int
  n3 : Int
  s0 : List D
  s1 : List D
  s2 : List D
  s3 : List D
  rd : List D
  p : Int
  f : Int

noncomputable def TT (L : Nat) (t : St) (g : Store) : Store :=
  .inst 0 [(0, .ref (L + 1)), (1, .ref (L + 10)), (2, .int t.p), (3, .int t.f)] ::
  .dict [(0, .ref (L + 2)), (1, .ref (L + 4)), (2, .ref (L + 6)), (3, .ref (L + 8))] ::
  .inst 1 [(4, .int 0), (5, .int t.n0), (6, .ref (L + 3))] :: .list t.s0 ::
  .inst 1 [(4, .int 1), (5, .int t.n1), (6, .ref (L + 5))] :: .list t.s1 ::
  .inst 1 [(4, .int 2), (5, .int t.n2), (6, .ref (L + 7))] :: .list t.s2 ::
  .inst 1 [(4, .int 3), (5, .int t.n3), (6, .ref (L + 9))] :: .list t.s3 ::
  .list t.rd :: g

noncomputable def fin (r : Option (Fl × Loc × Store)) : Option (D × Store) := r.bind retOf
theorem call_eq {n f : Nat} {args : List D} {s : Store} {fn : Fn} {r : Loc} (h1 : P.fns f = some fn) (h2 : bindA fn args = some r) : callF P (n + 1) f args s = fin (exs ⟨P.globs, callF P n⟩ 1000 fn.body r s) := by
  show ((P.fns f).bind fun fn => (bindA fn args).bind fun ρ => (exs ⟨P.globs, callF P n⟩ P.W fn.body ρ s).bind retOf) = _
  rw [h1, Option.bind_some, h2]; rfl

theorem exs_next {X : Env'} {W : Nat} {x : S} {xs : List S} {r r' : Loc} {s s' : Store} (h : ex X W x r s = some (.next, r', s')) : exs X W (x :: xs) r s = exs X W xs r' s' := by
  show (ex X W x r s).bind _ = _
  rw [h]; rfl
theorem exs_ret {X : Env'} {W : Nat} {x : S} {xs : List S} {r r' : Loc} {s s' : Store} {d : D} (h : ex X W x r s = some (.ret d, r', s')) : exs X W (x :: xs) r s = some (.ret d, r', s') := by
  show (ex X W x r s).bind _ = _
  rw [h]; rfl

theorem exs_c {X : Env'} {W : Nat} {x : S} {xs : List S} {r r' : Loc} {s s' : Store} {R : Option (Fl × Loc × Store)} (h : ex X W x r s = some (.next, r', s')) (k : exs X W xs r' s' = R) : exs X W (x :: xs) r s = R := bnd h k
theorem call_of {n f : Nat} {args : List D} {s s' : Store} {fn : Fn} {r r' : Loc} {d : D} (h1 : P.fns f = some fn) (h2 : bindA fn args = some r) (h3 : exs ⟨P.globs, callF P n⟩ 1000 fn.body r s = some (.ret d, r', s')) : callF P (n + 1) f args s = some (d, s') := bnd h1 (bnd h2 (bnd h3 rfl))
theorem call_no {n f : Nat} {args : List D} {s s' : Store} {fn : Fn} {r r' : Loc} (h1 : P.fns f = some fn) (h2 : bindA fn args = some r) (h3 : exs ⟨P.globs, callF P n⟩ 1000 fn.body r s = some (.next, r', s')) : callF P (n + 1) f args s = some (.none, s') := bnd h1 (bnd h2 (bnd h3 rfl))
theorem ret_of {X : Env'} {W : Nat} {e : E} {xs : List S} {r : Loc} {s s' : Store} {d : D} (h : ev X e r s = some (d, s')) : exs X W (.ret e :: xs) r s = some (.ret d, r, s') := bnd (bnd h rfl) rfl
theorem asg_of {X : Env'} {W i : Nat} {e : E} {r : Loc} {s s' : Store} {d : D} (h : ev X e r s = some (d, s')) : ex X W (.assign (.name i) e) r s = some (.next, r.set i (some d), s') := bnd h rfl
theorem ife_of {X : Env'} {W : Nat} {c : E} {a b : List S} {r : Loc} {s s' : Store} {t : Bool} {R : Option (Fl × Loc × Store)} (h : test X c r s = some (t, s')) (k1 : t = true → exs X W a r s' = R) (k2 : t = false → exs X W b r s' = R) : ex X W (.ife c a b) r s = R := by
  refine bnd h ?_
  cases t
  · exact k2 rfl
  · exact k1 rfl

theorem for_tup {X : Env'} {W : Nat} {t : T} {e : E} {b : List S} {l : List D} {r : Loc} {s s' : Store} {R : Option (Fl × Loc × Store)} (h : ev X e r s = some (.tup l, s')) (k : forL (exs X W b) (assignT X t) l r s' = R) : ex X W (.fore t e b) r s = R := bnd h k
theorem for_list {X : Env'} {W : Nat} {t : T} {e : E} {b : List S} {l : List D} {r : Loc} {s s' : Store} {R : Option (Fl × Loc × Store)} (h : ev X e r s = some (.list l, s')) (k : forL (exs X W b) (assignT X t) l r s' = R) : ex X W (.fore t e b) r s = R := bnd h k
theorem for_ref {X : Env'} {W : Nat} {t : T} {e : E} {b : List S} {k : Nat} {o o' : O} {l : List D} {fl : Fl} {r r' : Loc} {s s1 s2 s3 s4 : Store} (h : ev X e r s = some (.ref k, s1)) (hg : s1[k]? = some o) (hl : lockO o = some (l, o')) (hs : s1.set k o' = s2) (hf : forL (exs X W b) (assignT X t) l r s2 = some (fl, r', s3)) (hg' : s3[k]? = some o') (hu : unlO o' = some o) (hs' : s3.set k o = s4) : ex X W (.fore t e b) r s = some (fl, r', s4) :=
  bnd h (bnd (a := (l, s2)) (bnd (bnd hg hl) (congrArg (fun x => some (l, x)) hs)) (bnd hf (bnd (a := s4) (bnd (bnd hg' hu) (congrArg some hs')) rfl)))

noncomputable def isNode (d : D) : Prop := d = .int 0 ∨ d = .int 1 ∨ d = .int 2 ∨ d = .int 3

noncomputable def St.setN (t : St) (d : D) (v : Int) : St := match d with
  | .int 0 => { t with n0 := v }
  | .int 1 => { t with n1 := v }
  | .int 2 => { t with n2 := v }
  | .int 3 => { t with n3 := v }
  | _ => t

variable {n : Nat} {s0 g : Store} {t : St}

theorem ready_one {X : Env'} (hX : X.globs 0 = some (.int (-1))) {d : D} (hd : isNode d) (t : St) (a b : Option D) :
    exs X 1000 [.assign (.attr (.idx (.var 2) (.var 3)) 5) (.glob 0)] [a, b, some (.ref (s0.length + 1)), some d] (s0 ++ TT s0.length t g) = some (.next, [a, b, some (.ref (s0.length + 1)), some d], s0 ++ TT s0.length (t.setN d (-1)) g) := by
  refine bnd (a := (.next, [a, b, some (.ref (s0.length + 1)), some d], s0 ++ TT s0.length (t.setN d (-1)) g)) (bnd (bnd hX rfl) ?_) rfl
  rcases hd with rfl | rfl | rfl | rfl <;> walk_at "mini"
theorem forL_cons {body : Loc → Store → Option (Fl × Loc × Store)} {asg : D → Loc → Store → Option (Loc × Store)} {d : D} {l : List D} {r r1 r2 : Loc} {s s1 s2 : Store} {R : Option (Fl × Loc × Store)} (h1 : asg d r s = some (r1, s1)) (h2 : body r1 s1 = some (.next, r2, s2)) (h3 : forL body asg l r2 s2 = R) : forL body asg (d :: l) r s = R :=
  bnd h1 (bnd h2 h3)
theorem ready_loop {X : Env'} (hX : X.globs 0 = some (.int (-1))) : ∀ (l : List D) (t : St) (a b c : Option D), (∀ d ∈ l, isNode d) →
    ∃ c', forL (exs X 1000 [.assign (.attr (.idx (.var 2) (.var 3)) 5) (.glob 0)]) (assignT X (.name 3)) l [a, b, some (.ref (s0.length + 1)), c] (s0 ++ TT s0.length t g) = some (.next, [a, b, some (.ref (s0.length + 1)), c'], s0 ++ TT s0.length (l.foldl (fun t d => t.setN d (-1)) t) g)
  | [], t, a, b, c, _ => ⟨c, rfl⟩
  | d :: l, t, a, b, c, h => Exists.elim (ready_loop hX l (t.setN d (-1)) a b (some d) fun x hx => h x (List.mem_cons_of_mem _ hx)) fun c' ih => ⟨c', forL_cons rfl (ready_one hX (h d List.mem_cons_self) t a b) ih⟩
end P02
section
open PySem
set_option maxRecDepth 100000
namespace P02
variable {n : Nat} {s0 g : Store} {t : St}

noncomputable def St.outs (t : St) (l : List D) : St := l.foldl (fun t d => t.setN d (-1)) t
theorem setN_rd (t : St) (d : D) (v : Int) : (t.setN d v).rd = t.rd ∧ (t.setN d v).p = t.p ∧ (t.setN d v).f = t.f ∧ (t.setN d v).s0 = t.s0 ∧ (t.setN d v).s1 = t.s1 ∧ (t.setN d v).s2 = t.s2 ∧ (t.setN d v).s3 = t.s3 := by
  unfold St.setN; split <;> exact ⟨rfl, rfl, rfl, rfl, rfl, rfl, rfl⟩
theorem outs_rd : ∀ (l : List D) (t : St), (t.outs l).rd = t.rd ∧ (t.outs l).p = t.p ∧ (t.outs l).f = t.f ∧ (t.outs l).s0 = t.s0 ∧ (t.outs l).s1 = t.s1 ∧ (t.outs l).s2 = t.s2 ∧ (t.outs l).s3 = t.s3
  | [], t => ⟨rfl, rfl, rfl, rfl, rfl, rfl, rfl⟩
  | d :: l, t => by
    have a := outs_rd l (t.setN d (-1))
    have b := setN_rd t d (-1)
    unfold St.outs at a ⊢
    rw [List.foldl_cons]
    obtain ⟨a1, a2, a3, a4, a5, a6, a7⟩ := a
    obtain ⟨b1, b2, b3, b4, b5, b6, b7⟩ := b
    exact ⟨a1.trans b1, a2.trans b2, a3.trans b3, a4.trans b4, a5.trans b5, a6.trans b6, a7.trans b7⟩

noncomputable def St.taken (t : St) : St := { (t.outs t.rd) with rd := [], p := t.p + t.rd.length }

theorem get_ready_eq (hr : ∀ d ∈ t.rd, isNode d) : callF P (n + 1) 6 [.ref s0.length] (s0 ++ TT s0.length t g) = some (.tup t.rd, s0 ++ TT s0.length t.taken g) := by
  obtain ⟨c', hl⟩ := ready_loop (s0 := s0) (g := g) (X := ⟨P.globs, callF P n⟩) rfl t.rd t (some (.ref s0.length)) (some (.tup t.rd)) .none hr
  have hp := (outs_rd t.rd t).2.1
  apply call_of (fn := f_get_ready) (r := [some (.ref s0.length), .none, .none, .none]) rfl rfl
  refine exs_c (r' := [some (.ref s0.length), .none, .none, .none]) (s' := s0 ++ TT s0.length t g) (by walk_at "mini") ?_
  refine exs_c (r' := [some (.ref s0.length), some (.tup t.rd), .none, .none]) (s' := s0 ++ TT s0.length t g) (by walk_at "mini") ?_
  refine exs_c (r' := [some (.ref s0.length), some (.tup t.rd), some (.ref (s0.length + 1)), .none]) (s' := s0 ++ TT s0.length t g) (by walk_at "mini") ?_
  refine exs_c (r' := [some (.ref s0.length), some (.tup t.rd), some (.ref (s0.length + 1)), c']) (s' := s0 ++ TT s0.length (t.outs t.rd) g) (for_tup rfl hl) ?_
  refine exs_c (r' := [some (.ref s0.length), some (.tup t.rd), some (.ref (s0.length + 1)), c']) (s' := s0 ++ TT s0.length { (t.outs t.rd) with rd := [] } g) (by walk_at "mini") ?_
  refine exs_c (r' := [some (.ref s0.length), some (.tup t.rd), some (.ref (s0.length + 1)), c']) (s' := s0 ++ TT s0.length t.taken g) (by
    unfold St.taken; rw [← hp]; walk_at "mini") ?_
  exact ret_of rfl

theorem is_active_eq : callF P (n + 1) 7 [.ref s0.length] (s0 ++ TT s0.length t g) = some (.bool (decide (t.f < t.p) || !t.rd.isEmpty), s0 ++ TT s0.length t g) := by
  have h1 : ev ⟨P.globs, callF P n⟩ (.cmp .Lt (.attr (.var 0) 3) (.attr (.var 0) 2)) [some (.ref s0.length)] (s0 ++ TT s0.length t g) = some (.bool (decide (t.f < t.p)), s0 ++ TT s0.length t g) := by walk_at "mini"
  have h2 : ev ⟨P.globs, callF P n⟩ (.bi .bool [.attr (.var 0) 1]) [some (.ref s0.length)] (s0 ++ TT s0.length t g) = some (.bool (!t.rd.isEmpty), s0 ++ TT s0.length t g) := by walk_at "mini"
  apply call_of (fn := f_is_active) (r := [some (.ref s0.length)]) rfl rfl
  refine exs_c (r' := [some (.ref s0.length)]) (s' := s0 ++ TT s0.length t g) (by walk_at "mini") (ret_of (bnd h1 (bnd rfl ?_)))
  by_cases h : t.f < t.p
  · rw [decide_eq_true h]; rfl
  · rw [decide_eq_false h]; exact h2

noncomputable def St.getN (t : St) (d : D) : Int := match d with
  | .int 0 => t.n0
  | .int 1 => t.n1
  | .int 2 => t.n2
  | .int 3 => t.n3
  | _ => 0
noncomputable def St.tell (t : St) (d : D) : St := if (t.setN d (t.getN d - 1)).getN d = 0 then { (t.setN d (t.getN d - 1)) with rd := t.rd ++ [d] } else t.setN d (t.getN d - 1)
noncomputable def St.sucs (t : St) (d : D) : List D := match d with
  | .int 0 => t.s0
  | .int 1 => t.s1
  | .int 2 => t.s2
  | .int 3 => t.s3
  | _ => []
noncomputable def TG (L : Nat) (t : St) (o0 o1 o2 o3 : O) (g : Store) : Store :=
  .inst 0 [(0, .ref (L + 1)), (1, .ref (L + 10)), (2, .int t.p), (3, .int t.f)] ::
  .dict [(0, .ref (L + 2)), (1, .ref (L + 4)), (2, .ref (L + 6)), (3, .ref (L + 8))] ::
  .inst 1 [(4, .int 0), (5, .int t.n0), (6, .ref (L + 3))] :: o0 ::
  .inst 1 [(4, .int 1), (5, .int t.n1), (6, .ref (L + 5))] :: o1 ::
  .inst 1 [(4, .int 2), (5, .int t.n2), (6, .ref (L + 7))] :: o2 ::
  .inst 1 [(4, .int 3), (5, .int t.n3), (6, .ref (L + 9))] :: o3 ::
  .list t.rd :: g

noncomputable def tellBody : List S := [.assign (.name 7) (.idx (.var 2) (.var 6)), .aug (.var 7) 5 .Sub (.int 1), .ife (.cmp .Eq (.attr (.var 7) 5) (.int 0)) [.expr (.bmeth (.attr (.var 0) 1) .append [.var 6])] []]
noncomputable def nodeIx : D → Nat
  | .int 1 => 1
  | .int 2 => 2
  | .int 3 => 3
  | _ => 0
theorem app_lim {l : List D} {d : D} (hw : l.length < 1000) : (if l.length < lim then some (D.none, l ++ [d]) else .none) = some (D.none, l ++ [d]) := if_pos (by unfold lim; omega)
theorem tell_one {X : Env'} {x : D} (hx : isNode x) {t : St} {o0 o1 o2 o3 : O} {a b c d r7 : Option D} (hw : t.rd.length < 1000) :
    exs X 1000 tellBody [some (.ref s0.length), a, some (.ref (s0.length + 1)), b, c, d, some x, r7] (s0 ++ TG s0.length t o0 o1 o2 o3 g) =
      some (.next, [some (.ref s0.length), a, some (.ref (s0.length + 1)), b, c, d, some x, some (.ref (s0.length + (2 + 2 * nodeIx x)))], s0 ++ TG s0.length (t.tell x) o0 o1 o2 o3 g) := by
  have e0 : ex X 1000 (.assign (.name 7) (.idx (.var 2) (.var 6))) [some (.ref s0.length), a, some (.ref (s0.length + 1)), b, c, d, some x, r7] (s0 ++ TG s0.length t o0 o1 o2 o3 g) = some (.next, [some (.ref s0.length), a, some (.ref (s0.length + 1)), b, c, d, some x, some (.ref (s0.length + (2 + 2 * nodeIx x)))], s0 ++ TG s0.length t o0 o1 o2 o3 g) := by
    rcases hx with rfl | rfl | rfl | rfl <;> walk_at "mini"
  have e1 : ex X 1000 (.aug (.var 7) 5 .Sub (.int 1)) [some (.ref s0.length), a, some (.ref (s0.length + 1)), b, c, d, some x, some (.ref (s0.length + (2 + 2 * nodeIx x)))] (s0 ++ TG s0.length t o0 o1 o2 o3 g) = some (.next, [some (.ref s0.length), a, some (.ref (s0.length + 1)), b, c, d, some x, some (.ref (s0.length + (2 + 2 * nodeIx x)))], s0 ++ TG s0.length (t.setN x (t.getN x - 1)) o0 o1 o2 o3 g) := by
    rcases hx with rfl | rfl | rfl | rfl <;> walk_at "mini"
  have e2 : test X (.cmp .Eq (.attr (.var 7) 5) (.int 0)) [some (.ref s0.length), a, some (.ref (s0.length + 1)), b, c, d, some x, some (.ref (s0.length + (2 + 2 * nodeIx x)))] (s0 ++ TG s0.length (t.setN x (t.getN x - 1)) o0 o1 o2 o3 g) = some ((t.setN x (t.getN x - 1)).getN x == 0, s0 ++ TG s0.length (t.setN x (t.getN x - 1)) o0 o1 o2 o3 g) := by
    rcases hx with rfl | rfl | rfl | rfl <;> walk_at "mini"
  refine exs_c e0 (exs_c e1 (exs_c (ife_of e2 ?_ ?_) rfl))
  · intro hz
    have hz := eq_of_beq hz
    have hrd := (setN_rd t x (t.getN x - 1)).1
    unfold St.tell
    rw [if_pos hz, ← hrd]
    have hg : (s0 ++ TG s0.length (t.setN x (t.getN x - 1)) o0 o1 o2 o3 g)[s0.length + 10]? = some (.list (t.setN x (t.getN x - 1)).rd) := get_off _ _ 10
    exact exs_c (bnd (a := (.none, s0 ++ TG s0.length { t.setN x (t.getN x - 1) with rd := (t.setN x (t.getN x - 1)).rd ++ [x] } o0 o1 o2 o3 g)) (ev_bmeth (d := .ref (s0.length + 10)) (s1 := s0 ++ TG s0.length (t.setN x (t.getN x - 1)) o0 o1 o2 o3 g) (by walk_at "mini") (recv_at hg) rfl (app_at hg (hrd ▸ hw) (set_off _ _ 10 _))) rfl) rfl
  · intro hz
    unfold St.tell
    rw [if_neg (beq_eq_false_iff_ne.mp hz)]; rfl

theorem tell_loop {X : Env'} {o0 o1 o2 o3 : O} : ∀ (l : List D) (t : St) (a b c d r6 r7 : Option D), (∀ d ∈ l, isNode d) → t.rd.length + l.length < 1000 →
    ∃ r6' r7', forL (exs X 1000 tellBody) (assignT X (.name 6)) l
      [some (.ref s0.length), a, some (.ref (s0.length + 1)), b, c, d, r6, r7] (s0 ++ TG s0.length t o0 o1 o2 o3 g) = some (.next, [some (.ref s0.length), a, some (.ref (s0.length + 1)), b, c, d, r6', r7'], s0 ++ TG s0.length (l.foldl St.tell t) o0 o1 o2 o3 g)
  | [], t, a, b, c, d, r6, r7, _, _ => ⟨r6, r7, rfl⟩
  | x :: l, t, a, b, c, d, r6, r7, h, hlen => by
    have hx := h x List.mem_cons_self
    rw [List.length_cons] at hlen
    have hl2 : (t.tell x).rd.length + l.length < 1000 := by
      unfold St.tell
      have := (setN_rd t x (t.getN x - 1)).1
      split
      · rw [List.length_append]; simp only [List.length_cons, List.length_nil]; omega
      · rw [this]; omega
    exact el21 (tell_loop (X := X) (o0 := o0) (o1 := o1) (o2 := o2) (o3 := o3) l (t.tell x) a b c d (some x) (some (.ref (s0.length + (2 + 2 * nodeIx x)))) (fun y hy => h y (List.mem_cons_of_mem _ hy)) hl2) fun r6' r7'' ih =>
      ⟨r6', r7'', forL_cons rfl (tell_one hx (by omega)) ih⟩
end P02
end
section
open PySem
set_option maxRecDepth 100000
namespace P02
variable {n : Nat} {s0 g : Store} {t : St}

theorem tell_s (t : St) (d : D) : (t.tell d).s0 = t.s0 ∧ (t.tell d).s1 = t.s1 ∧ (t.tell d).s2 = t.s2 ∧ (t.tell d).s3 = t.s3 ∧ (t.tell d).p = t.p ∧ (t.tell d).f = t.f := by
  have h := setN_rd t d (t.getN d - 1)
  obtain ⟨a1, a2, a3, a4, a5, a6, a7⟩ := h
  unfold St.tell; split <;> exact ⟨a4, a5, a6, a7, a2, a3⟩
theorem tells_s : ∀ (l : List D) (t : St), (l.foldl St.tell t).s0 = t.s0 ∧ (l.foldl St.tell t).s1 = t.s1 ∧ (l.foldl St.tell t).s2 = t.s2 ∧ (l.foldl St.tell t).s3 = t.s3 ∧ (l.foldl St.tell t).p = t.p ∧ (l.foldl St.tell t).f = t.f
  | [], t => ⟨rfl, rfl, rfl, rfl, rfl, rfl⟩
  | d :: l, t => by
    obtain ⟨a1, a2, a3, a4, a5, a6⟩ := tells_s l (t.tell d)
    obtain ⟨b1, b2, b3, b4, b5, b6⟩ := tell_s t d
    rw [List.foldl_cons]
    exact ⟨a1.trans b1, a2.trans b2, a3.trans b3, a4.trans b4, a5.trans b5, a6.trans b6⟩

noncomputable def St.fin1 (t : St) (x : D) : St := let t2 := ((t.setN x (-2)).sucs x).foldl St.tell (t.setN x (-2)); { t2 with f := t2.f + 1 }

structure St.Ok (t : St) : Prop where
  a0 : ∀ d ∈ t.s0, isNode d
  a1 : ∀ d ∈ t.s1, isNode d
  a2 : ∀ d ∈ t.s2, isNode d
  a3 : ∀ d ∈ t.s3, isNode d
  l0 : t.s0.length < 10
  l1 : t.s1.length < 10
  l2 : t.s2.length < 10
  l3 : t.s3.length < 10

noncomputable def doneBody : List S := [.ifNone 4 (.bmeth (.var 2) .get [.var 3]) [.bad], .assign (.name 5) (.attr (.var 4) 5), .ife (.cmp .NotEq (.var 5) (.glob 0)) [.ife (.cmp .GtE (.var 5) (.int 0)) [.bad] [.ife (.cmp .Eq (.var 5) (.glob 1)) [.bad] [.bad]]] [], .assign (.attr (.var 4) 5) (.glob 1), .fore (.name 6) (.attr (.var 4) 6) [.assign (.name 7) (.idx (.var 2) (.var 6)), .aug (.var 7) 5 .Sub (.int 1), .ife (.cmp .Eq (.attr (.var 7) 5) (.int 0)) [.expr (.bmeth (.attr (.var 0) 1) .append [.var 6])] []], .aug (.var 0) 3 .Add (.int 1)]

theorem tell_for {X : Env'} {x : D} (hx : isNode x) {t : St} (hl : (t.sucs x).length < 10) (hn : ∀ d ∈ t.sucs x, isNode d) (hr : t.rd.length < 900) {a b d r6 r7 : Option D} :
    ∃ r6' r7', ex X 1000 (.fore (.name 6) (.attr (.var 4) 6) tellBody) [some (.ref s0.length), a, some (.ref (s0.length + 1)), b, some (.ref (s0.length + (2 + 2 * nodeIx x))), d, r6, r7] (s0 ++ TT s0.length t g) =
      some (.next, [some (.ref s0.length), a, some (.ref (s0.length + 1)), b, some (.ref (s0.length + (2 + 2 * nodeIx x))), d, r6', r7'], s0 ++ TT s0.length ((t.sucs x).foldl St.tell t) g) := by
  let lk (i : Nat) (l : List D) : O := if i = nodeIx x then .llist l else .list l
  refine el21 (tell_loop (X := X) (s0 := s0) (g := g) (o0 := lk 0 t.s0) (o1 := lk 1 t.s1) (o2 := lk 2 t.s2) (o3 := lk 3 t.s3) (t.sucs x) t a b (some (.ref (s0.length + (2 + 2 * nodeIx x)))) d r6 r7 hn (by omega)) fun r6' r7' hl => ⟨r6', r7', ?_⟩
  obtain ⟨ht1, ht2, ht3, ht4, _, _⟩ := tells_s (t.sucs x) t
  have e : TT s0.length ((t.sucs x).foldl St.tell t) g = TG s0.length ((t.sucs x).foldl St.tell t) (.list t.s0) (.list t.s1) (.list t.s2) (.list t.s3) g := by rw [← ht1, ← ht2, ← ht3, ← ht4]; rfl
  rw [e]
  refine for_ref (k := s0.length + (3 + 2 * nodeIx x)) (o := .list (t.sucs x)) (s1 := s0 ++ TT s0.length t g) (by rcases hx with rfl | rfl | rfl | rfl <;> walk_at "mini") (by rcases hx with rfl | rfl | rfl | rfl <;> exact get_off _ _ _) rfl (by rcases hx with rfl | rfl | rfl | rfl <;> exact set_off _ _ _ _) hl (by rcases hx with rfl | rfl | rfl | rfl <;> exact get_off _ _ _) rfl (by rcases hx with rfl | rfl | rfl | rfl <;> exact set_off _ _ _ _)

theorem done_one {X : Env'} (hX0 : X.globs 0 = some (.int (-1))) (hX1 : X.globs 1 = some (.int (-2))) {x : D} (hx : isNode x) (hn : t.getN x = -1) (ok : t.Ok) (hrd : t.rd.length < 900) {a r4 r5 r6 r7 : Option D} :
    ∃ r4' r5' r6' r7', exs X 1000 doneBody [some (.ref s0.length), a, some (.ref (s0.length + 1)), some x, r4, r5, r6, r7] (s0 ++ TT s0.length t g) =
      some (.next, [some (.ref s0.length), a, some (.ref (s0.length + 1)), some x, r4', r5', r6', r7'], s0 ++ TT s0.length (t.fin1 x) g) := by
  obtain ⟨hs1, hs2, hs3, hs4, hs5, hs6, hs7⟩ := setN_rd t x (-2)
  have hs : (t.setN x (-2)).sucs x = t.sucs x := by
    rcases hx with rfl | rfl | rfl | rfl <;> rfl
  have hsl : ((t.setN x (-2)).sucs x).length < 10 := by
    rw [hs]; rcases hx with rfl | rfl | rfl | rfl <;> first | exact ok.l0 | exact ok.l1 | exact ok.l2 | exact ok.l3
  have hsn : ∀ d ∈ (t.setN x (-2)).sucs x, isNode d := by
    rw [hs]; rcases hx with rfl | rfl | rfl | rfl <;> first | exact ok.a0 | exact ok.a1 | exact ok.a2 | exact ok.a3
  refine el21 (tell_for (X := X) (s0 := s0) (g := g) (a := a) (b := some x) (d := some (.int (-1))) (r6 := r6) (r7 := r7) hx hsl hsn (hs1 ▸ hrd)) fun r6' r7' hl => ⟨some (.ref (s0.length + (2 + 2 * nodeIx x))), some (.int (-1)), r6', r7', ?_⟩
  have e0 : ex X 1000 (.ifNone 4 (.bmeth (.var 2) .get [.var 3]) [.bad]) [some (.ref s0.length), a, some (.ref (s0.length + 1)), some x, r4, r5, r6, r7] (s0 ++ TT s0.length t g) = some (.next, [some (.ref s0.length), a, some (.ref (s0.length + 1)), some x, some (.ref (s0.length + (2 + 2 * nodeIx x))), r5, r6, r7], s0 ++ TT s0.length t g) := by
    rcases hx with rfl | rfl | rfl | rfl <;> walk_at "mini"
  have e1 : ex X 1000 (.assign (.name 5) (.attr (.var 4) 5)) [some (.ref s0.length), a, some (.ref (s0.length + 1)), some x, some (.ref (s0.length + (2 + 2 * nodeIx x))), r5, r6, r7] (s0 ++ TT s0.length t g) = some (.next, [some (.ref s0.length), a, some (.ref (s0.length + 1)), some x, some (.ref (s0.length + (2 + 2 * nodeIx x))), some (.int (t.getN x)), r6, r7], s0 ++ TT s0.length t g) := by
    rcases hx with rfl | rfl | rfl | rfl <;> walk_at "mini"
  rw [hn] at e1
  have e2 : ∀ r s, test X (.cmp .NotEq (.var 5) (.glob 0)) (some (.ref s0.length) :: a :: some (.ref (s0.length + 1)) :: some x :: some (.ref (s0.length + (2 + 2 * nodeIx x))) :: some (.int (-1)) :: r) s = some (false, s) := fun r s =>
    bnd (a := (.bool false, s)) (bnd (a := (.int (-1), s)) rfl (bnd (a := (.int (-1), s)) (bnd hX0 rfl) (bnd (a := false) rfl rfl))) rfl
  have e3 : ex X 1000 (.assign (.attr (.var 4) 5) (.glob 1)) [some (.ref s0.length), a, some (.ref (s0.length + 1)), some x, some (.ref (s0.length + (2 + 2 * nodeIx x))), some (.int (-1)), r6, r7] (s0 ++ TT s0.length t g) = some (.next, [some (.ref s0.length), a, some (.ref (s0.length + 1)), some x, some (.ref (s0.length + (2 + 2 * nodeIx x))), some (.int (-1)), r6, r7], s0 ++ TT s0.length (t.setN x (-2)) g) := by
    refine bnd (a := (.int (-2), s0 ++ TT s0.length t g)) (bnd hX1 rfl) ?_
    rcases hx with rfl | rfl | rfl | rfl <;> walk_at "mini"
  refine exs_c e0 (exs_c e1 (exs_c (ife_of (e2 _ _) (fun q => nomatch q) fun _ => rfl) (exs_c e3 (exs_c hl (exs_c ?_ rfl)))))
  unfold St.fin1
  walk_at "mini"
end P02
end
section
open PySem
set_option maxRecDepth 100000
theorem pop_at {σ σ' : Store} {k : Nat} {d : D} {l : List D} (h : σ[k]? = some (.list l)) (hl : l.getLast? = some d) (hs : σ.set k (.list l.dropLast) = σ') : bmeth .pop σ (.ref k) [] = some (d, σ') := onList_at h (bnd hl rfl) hs
theorem last_at {σ : Store} {k : Nat} {d : D} {l : List D} (h : σ[k]? = some (.list l)) (hl : l.getLast? = some d) : getItem σ (.ref k) (.int (-1)) = some d := bnd (a := -1) rfl (bnd (f := itemO (-1)) h hl)
theorem next_some {σ σ' : Store} {k j l m : Nat} {d : D} {xs : List D} (h1 : σ[k]? = some (.next j)) (h2 : σ[j]? = some (.iter l m)) (h3 : σ[l]? = some (.list xs)) (h4 : xs[m]? = some d) (hs : σ.set j (.iter l (m + 1)) = σ') : nextIt σ (.ref k) = some (j, some d, σ') :=
  bnd (a := k) rfl (bnd (a := j) (bnd h1 rfl) (bnd (a := (l, m)) (bnd h2 rfl) (bnd (a := xs) (bnd (f := oList') h3 rfl) (by
    show (match xs[m]? with | some d => some (j, some d, σ.set j (.iter l (m + 1))) | .none => some (j, .none, σ.set j .dead)) = _
    rw [h4, ← hs]))))
theorem next_none {σ σ' : Store} {k j l m : Nat} {xs : List D} (h1 : σ[k]? = some (.next j)) (h2 : σ[j]? = some (.iter l m)) (h3 : σ[l]? = some (.list xs)) (h4 : xs[m]? = .none) (hs : σ.set j .dead = σ') : nextIt σ (.ref k) = some (j, .none, σ') :=
  bnd (a := k) rfl (bnd (a := j) (bnd h1 rfl) (bnd (a := (l, m)) (bnd h2 rfl) (bnd (a := xs) (bnd (f := oList') h3 rfl) (by
    show (match xs[m]? with | some d => some (j, some d, σ.set j (.iter l (m + 1))) | .none => some (j, .none, σ.set j .dead)) = _
    rw [h4, ← hs]))))
namespace P02
variable {n : Nat} {s0 : Store} {t : St}

structure Dfs where
  node : Int
  stack : List Int
  ks : List Nat
  seen : List Int
  keys : List (Int × D)
  ob : List (Option (Nat × Nat))

noncomputable def obC (L : Nat) : Nat → List (Option (Nat × Nat)) → Store
  | _, [] => []
  | k, some (v, i) :: r => .iter (L + (3 + 2 * v)) i :: .next (L + (15 + 2 * k)) :: obC L (k + 1) r
  | k, .none :: r => .dead :: .next (L + (15 + 2 * k)) :: obC L (k + 1) r
noncomputable def obO (L : Nat) : Option (Nat × Nat) → O
  | some (v, i) => .iter (L + (3 + 2 * v)) i
  | .none => .dead
theorem obC_cons (L k : Nat) (e : Option (Nat × Nat)) (r : List (Option (Nat × Nat))) : obC L k (e :: r) = obO L e :: .next (L + (15 + 2 * k)) :: obC L (k + 1) r := by
  cases e <;> rfl
theorem obC_get (L : Nat) : ∀ (ob : List (Option (Nat × Nat))) (m j : Nat), (obC L m ob)[2 * j]? = ob[j]?.map (obO L)
  | [], m, j => by simp [obC]
  | e :: r, m, 0 => by rw [obC_cons]; simp
  | e :: r, m, j + 1 => by
    rw [obC_cons, show 2 * (j + 1) = 2 * j + 1 + 1 by omega, List.getElem?_cons_succ, List.getElem?_cons_succ, obC_get L r (m + 1) j, List.getElem?_cons_succ]
theorem obC_next (L : Nat) : ∀ (ob : List (Option (Nat × Nat))) (m j : Nat), j < ob.length → (obC L m ob)[2 * j + 1]? = some (.next (L + (15 + 2 * (m + j))))
  | [], m, j, h => by simp at h
  | e :: r, m, 0, h => by rw [obC_cons]; simp
  | e :: r, m, j + 1, h => by
    rw [obC_cons, show 2 * (j + 1) + 1 = 2 * j + 1 + 1 + 1 by omega, List.getElem?_cons_succ, List.getElem?_cons_succ, obC_next L r (m + 1) j (by simpa using h), show m + 1 + j = m + (j + 1) by omega]
theorem obC_set (L : Nat) (e : Option (Nat × Nat)) : ∀ (ob : List (Option (Nat × Nat))) (m j : Nat), (obC L m ob).set (2 * j) (obO L e) = obC L m (ob.set j e)
  | [], m, j => by simp [obC]
  | e' :: r, m, 0 => by rw [obC_cons]; simp [obC_cons]
  | e' :: r, m, j + 1 => by
    rw [obC_cons, show 2 * (j + 1) = 2 * j + 1 + 1 by omega, List.set_cons_succ, List.set_cons_succ, obC_set L e r (m + 1) j, List.set_cons_succ, obC_cons]
theorem obC_append (L : Nat) (e : Option (Nat × Nat)) : ∀ (ob : List (Option (Nat × Nat))) (m : Nat), obC L m (ob ++ [e]) = obC L m ob ++ [obO L e, .next (L + (15 + 2 * (m + ob.length)))]
  | [], m => by simp [obC_cons, obC]
  | e' :: r, m => by
    rw [List.cons_append, obC_cons, obC_cons, obC_append L e r (m + 1)]
    simp only [List.cons_append, List.length_cons]
    rw [show m + 1 + r.length = m + (r.length + 1) by omega]
theorem obC_length (L : Nat) : ∀ (ob : List (Option (Nat × Nat))) (m : Nat), (obC L m ob).length = 2 * ob.length
  | [], m => rfl
  | e :: r, m => by rw [obC_cons]; simp only [List.length_cons, obC_length L r (m + 1)]; omega

noncomputable def TD (L : Nat) (t : St) (d : Dfs) : Store :=
  .inst 0 [(0, .ref (L + 1)), (1, .ref (L + 10)), (2, .int t.p), (3, .int t.f)] ::
  .ldict [(0, .ref (L + 2)), (1, .ref (L + 4)), (2, .ref (L + 6)), (3, .ref (L + 8))] ::
  .inst 1 [(4, .int 0), (5, .int t.n0), (6, .ref (L + 3))] :: .list t.s0 ::
  .inst 1 [(4, .int 1), (5, .int t.n1), (6, .ref (L + 5))] :: .list t.s1 ::
  .inst 1 [(4, .int 2), (5, .int t.n2), (6, .ref (L + 7))] :: .list t.s2 ::
  .inst 1 [(4, .int 3), (5, .int t.n3), (6, .ref (L + 9))] :: .list t.s3 ::
  .list t.rd :: .list (d.stack.map .int) :: .list (d.ks.map fun k => .ref (L + (16 + 2 * k))) :: .set d.seen :: .dict d.keys :: obC L 0 d.ob

theorem td_get (L : Nat) (d : Dfs) (j : Nat) : (TD L t d)[15 + j]? = (obC L 0 d.ob)[j]? := by
  rw [Nat.add_comm]; simp [TD]
theorem td_set (L : Nat) (d : Dfs) (j : Nat) (o : O) : (TD L t d).set (15 + j) o = (TD L t d).take 15 ++ (obC L 0 d.ob).set j o := by
  rw [Nat.add_comm]; simp [TD]

noncomputable def St.suc (t : St) : Nat → List D
  | 0 => t.s0
  | 1 => t.s1
  | 2 => t.s2
  | _ => t.s3
theorem td_suc (L : Nat) (d : Dfs) {v : Nat} (hv : v < 4) : (TD L t d)[3 + 2 * v]? = some (.list (t.suc v)) := by
  match v, hv with
  | 0, _ => rfl
  | 1, _ => rfl
  | 2, _ => rfl
  | 3, _ => rfl

noncomputable def rho (L : Nat) (x : Option D) : Loc := [some (.ref L), some (.ref (L + 1)), some (.ref (L + 11)), some (.ref (L + 12)), some (.ref (L + 13)), some (.ref (L + 14)), x]

noncomputable def inner1 (t : St) (d : Dfs) : Option (Bool × Dfs) := (d.ks.getLast?).bind fun k => (d.stack.getLast?).bind fun x => ((d.ob[k]?).bind id).bind fun p => if p.1 < 4 then
    (match (t.suc p.1)[p.2]? with
      | some y => (asI y).bind fun y => some (true, { d with node := y, ob := d.ob.set k (some (p.1, p.2 + 1)) })
      | .none => if dictHas x d.keys then some (false, { d with ob := d.ob.set k .none, stack := d.stack.dropLast, ks := d.ks.dropLast, keys := dictDel x d.keys }) else .none)
  else .none

theorem ex_del {X : Env'} {W k : Nat} {o i : E} {r : Loc} {s s1 s2 s3 : Store} {y : Int} {es : List (Int × D)} (h1 : ev X o r s = some (.ref k, s1)) (h2 : ev X i r s1 = some (.int y, s2)) (h3 : s2[k]? = some (.dict es)) (h4 : dictHas y es = true) (hs : s2.set k (.dict (dictDel y es)) = s3) :
    ex X W (.del o i) r s = some (.next, r, s3) :=
  bnd h1 (bnd h2 (bnd (a := k) rfl (bnd (a := y) rfl (bnd (a := es) (bnd h3 rfl) ((if_pos h4).trans (congrArg (fun x => some (Fl.next, r, x)) hs))))))
theorem ex_expr {X : Env'} {W : Nat} {e : E} {r : Loc} {s s1 : Store} {d : D} (h1 : ev X e r s = some (d, s1)) : ex X W (.expr e) r s = some (.next, r, s1) := bnd h1 rfl
noncomputable def nextBody : List S := [.tryNext 6 (.idx (.var 3) (.neg (.int 1))) [.del (.var 5) (.bmeth (.var 2) .pop []), .expr (.bmeth (.var 3) .pop [])]]

theorem map_getLast {α β : Type} (f : α → β) (l : List α) : (l.map f).getLast? = l.getLast?.map f := by simp [List.getLast?_map]
theorem map_dropLast {α β : Type} (f : α → β) (l : List α) : (l.map f).dropLast = l.dropLast.map f := by simp [List.map_dropLast]

theorem td_ob (d : Dfs) (k : Nat) (e : Option (Nat × Nat)) : (s0 ++ TD s0.length t d).set (s0.length + (15 + 2 * k)) (obO s0.length e) = s0 ++ TD s0.length t { d with ob := d.ob.set k e } := by
  rw [set_off, td_set, obC_set]; rfl
theorem pop_stack {X : Env'} {d : Dfs} {x : Option D} {y : Int} (hy : d.stack.getLast? = some y) : ev X (.bmeth (.var 2) .pop []) (rho s0.length x) (s0 ++ TD s0.length t d) = some (.int y, s0 ++ TD s0.length t { d with stack := d.stack.dropLast }) := by
  have hg : (s0 ++ TD s0.length t d)[s0.length + 11]? = some (.list (d.stack.map .int)) := get_off _ _ 11
  exact ev_bmeth rfl (recv_at hg) rfl (pop_at hg (by rw [map_getLast, hy]; rfl) (by rw [map_dropLast]; exact set_off _ _ 11 _))
theorem pop_ks {X : Env'} {d : Dfs} {x : Option D} {k : Nat} (hk : d.ks.getLast? = some k) : ev X (.bmeth (.var 3) .pop []) (rho s0.length x) (s0 ++ TD s0.length t d) = some (.ref (s0.length + (16 + 2 * k)), s0 ++ TD s0.length t { d with ks := d.ks.dropLast }) := by
  have hg : (s0 ++ TD s0.length t d)[s0.length + 12]? = some (.list (d.ks.map fun k => .ref (s0.length + (16 + 2 * k)))) := get_off _ _ 12
  exact ev_bmeth rfl (recv_at hg) rfl (pop_at hg (by rw [map_getLast, hk]; rfl) (by rw [map_dropLast]; exact set_off _ _ 12 _))
theorem inner1_eq {X : Env'} {d : Dfs} {b : Bool} {d' : Dfs} (h : inner1 t d = some (b, d')) {x : Option D} :
    exs X 1000 nextBody (rho s0.length x) (s0 ++ TD s0.length t d) = some (if b then .brk else .next, rho s0.length (if b then some (.int d'.node) else x), s0 ++ TD s0.length t d') := by
  refine bd1 h fun k hk h => bd1 h fun y hy h => bd2 h fun v i hob h => bd1 hob fun oo hob hoo => if_el h fun hv h => ?_
  cases (show oo = some (v, i) from hoo)
  have hkl : k < d.ob.length := (List.getElem?_eq_some_iff.mp hob).1
  have g1 : (s0 ++ TD s0.length t d)[s0.length + 12]? = some (.list (d.ks.map fun k => .ref (s0.length + (16 + 2 * k)))) := get_off _ _ 12
  have g2 : (s0 ++ TD s0.length t d)[s0.length + (16 + 2 * k)]? = some (.next (s0.length + (15 + 2 * k))) := by
    rw [get_off, show 16 + 2 * k = 15 + (2 * k + 1) by omega, td_get, obC_next _ _ _ _ hkl, Nat.zero_add]
  have g3 : (s0 ++ TD s0.length t d)[s0.length + (15 + 2 * k)]? = some (.iter (s0.length + (3 + 2 * v)) i) := by
    rw [get_off, td_get, obC_get, hob]; rfl
  have g4 : (s0 ++ TD s0.length t d)[s0.length + (3 + 2 * v)]? = some (.list (t.suc v)) := (get_off _ _ _).trans (td_suc s0.length d hv)
  have hf : ev X (.idx (.var 3) (.neg (.int 1))) (rho s0.length x) (s0 ++ TD s0.length t d) = some (.ref (s0.length + (16 + 2 * k)), s0 ++ TD s0.length t d) :=
    bnd (a := (.ref (s0.length + 12), s0 ++ TD s0.length t d)) rfl (bnd (a := (.int (-1), s0 ++ TD s0.length t d)) rfl (bnd (last_at g1 (by rw [map_getLast, hk]; rfl)) rfl))
  cases hs : (t.suc v)[i]? with
  | some z =>
    rw [show (t.suc (v, i).1)[(v, i).2]? = some z from hs] at h
    refine bd1 h fun y' hy' h => sm2 h fun e1 e2 => ?_
    subst e1; subst e2
    rw [asI_inv hy'] at hs
    exact bnd (a := (.brk, rho s0.length (some (.int y')), _)) (bnd hf (bnd (next_some g2 g3 g4 hs (td_ob d k (some (v, i + 1)))) rfl)) rfl
  | none =>
    rw [show (t.suc (v, i).1)[(v, i).2]? = none from hs] at h
    refine if_el h fun hh h => sm2 h fun e1 e2 => ?_
    subst e1; subst e2
    refine exs_c (bnd hf (bnd (next_none g2 g3 g4 hs (td_ob d k .none)) ?_)) rfl
    exact exs_c (ex_del (o := .var 5) (k := s0.length + 14) rfl (pop_stack hy) (get_off _ _ 14) hh (set_off _ _ 14 _)) (exs_c (ex_expr (pop_ks (d := { d with ob := d.ob.set k .none, stack := d.stack.dropLast, keys := dictDel y d.keys }) hk)) rfl)
end P02
end
section
open PySem
set_option maxRecDepth 100000
theorem add_at {σ σ' : Store} {k : Nat} {i : Int} {es : List Int} (h : σ[k]? = some (.set es)) (hl : es.length < 1000) (hc : es.contains i = false) (hs : σ.set k (.set (es ++ [i])) = σ') : bmeth .add σ (.ref k) [.int i] = some (.none, σ') := by
  show ((σ[k]?).bind oSet).bind _ = _
  rw [h]
  show (if es.length < 1000 then some (D.none, σ.set k (.set (if es.contains i then es else es ++ [i]))) else .none) = _
  rw [if_pos hl, hc]
  exact congrArg (fun x => some (D.none, x)) hs
theorem recvS_at {σ : Store} {k : Nat} {l : List Int} (h : σ[k]? = some (.set l)) : recvOk .add σ (.ref k) = true := congrArg Option.isSome (bnd (a := k) (f := fun k => (σ[k]?).bind oSet) rfl (bnd (f := oSet) h rfl))
theorem len_at {σ : Store} {k : Nat} {l : List D} (h : σ[k]? = some (.list l)) : bltin .len σ [.ref k] = some (.int l.length, σ) := bnd (a := l) (bnd (f := oList') h rfl) rfl
theorem iter_at {σ : Store} {k : Nat} {l : List D} (h : σ[k]? = some (.list l)) : bltin .iter σ [.ref k] = some (.ref σ.length, σ ++ [.iter k 0]) := by
  show ((σ[k]?).bind oList).bind _ = _
  rw [h]; rfl
theorem setI_at {σ σ' : Store} {k : Nat} {i : Int} {v : D} {es : List (Int × D)} (h : σ[k]? = some (.dict es)) (hl : es.length < lim) (hs : σ.set k (.dict (dictPut i v es)) = σ') : setItem σ (.ref k) (.int i) v = some σ' :=
  bnd (a := k) rfl (bnd (a := i) rfl (bnd (a := es) (bnd h rfl) ((if_pos hl).trans (congrArg some hs))))
namespace P02
variable {n : Nat} {s0 : Store} {t : St}

noncomputable def innerF (t : St) : Nat → Dfs → Option (Bool × Dfs)
  | 0, _ => .none
  | m + 1, d => bif d.stack.isEmpty then some (false, d) else (inner1 t d).bind fun p => bif p.1 then some (true, p.2) else innerF t m p.2

theorem inner_eq {X : Env'} : ∀ (m : Nat) {d d' : Dfs} {b : Bool} {x : Option D}, innerF t m d = some (b, d') →
    whileL (test X (.var 2)) (exs X 1000 nextBody) (exs X 1000 [.brk]) m (rho s0.length x) (s0 ++ TD s0.length t d) = some (if b then .next else .brk, rho s0.length (if b then some (.int d'.node) else x), s0 ++ TD s0.length t d')
  | 0, d, d', b, x, h => no_el h
  | m + 1, d, d', b, x, h => by
    have hg : (s0 ++ TD s0.length t d)[s0.length + 11]? = some (.list (d.stack.map .int)) := get_off _ _ 11
    have ht : test X (.var 2) (rho s0.length x) (s0 ++ TD s0.length t d) = some (!d.stack.isEmpty, s0 ++ TD s0.length t d) := by
      refine bnd (a := (.ref (s0.length + 11), s0 ++ TD s0.length t d)) rfl (bnd (a := !d.stack.isEmpty) ?_ rfl)
      show (((s0 ++ TD s0.length t d)[s0.length + 11]?).bind oList').bind _ = _
      rw [hg]; cases d.stack <;> rfl
    refine bnd ht ?_
    have h : (bif d.stack.isEmpty then some (false, d) else (inner1 t d).bind fun p => bif p.1 then some (true, p.2) else innerF t m p.2) = some (b, d') := h
    cases hs : d.stack.isEmpty with
    | true => rw [hs] at h; exact sm2 h fun e1 e2 => by subst e1; subst e2; rfl
    | false =>
      rw [hs] at h
      refine bd2 h fun b1 d1 h1 h => bnd (inner1_eq h1) ?_
      cases b1 with
      | true => exact sm2 h fun e1 e2 => by subst e1; subst e2; rfl
      | false => exact inner_eq m h

noncomputable def isN (i : Int) : Bool := i == 0 || i == 1 || i == 2 || i == 3
noncomputable def pushD (d : Dfs) : Option Dfs := if isN d.node && decide (d.seen.length < 900) && decide (d.ks.length < 900) && decide (d.keys.length < 900) && decide (d.stack.length < 900) then
    some { d with seen := d.seen ++ [d.node], ob := d.ob ++ [some (d.node.toNat, 0)], ks := d.ks ++ [d.ob.length], keys := dictPut d.node (.int d.stack.length) d.keys, stack := d.stack ++ [d.node] }
  else .none

noncomputable def pushBody : List S := [.expr (.bmeth (.var 4) .add [.var 6]), .expr (.bmeth (.var 3) .append [.nextOf (.bi .iter [.attr (.idx (.var 1) (.var 6)) 6])]), .assign (.sub (.var 5) (.var 6)) (.bi .len [.var 2]), .expr (.bmeth (.var 2) .append [.var 6])]

theorem ev_nextOf {X : Env'} {a : E} {r : Loc} {s s1 : Store} {k l : Nat} (h : ev X a r s = some (.ref k, s1)) (h2 : s1[k]? = some (.iter l 0)) : ev X (.nextOf a) r s = some (.ref s1.length, s1 ++ [.next k]) :=
  bnd h (bnd (a := k) rfl (bnd (a := (l, 0)) (bnd h2 rfl) rfl))
theorem td_length (L : Nat) (d : Dfs) : (TD L t d).length = 15 + 2 * d.ob.length := by
  simp [TD, obC_length]; omega
theorem td_take (L : Nat) (d : Dfs) : TD L t d = (TD L t d).take 15 ++ obC L 0 d.ob := rfl

theorem isN_or {i : Int} (h : isN i = true) : i = 0 ∨ i = 1 ∨ i = 2 ∨ i = 3 := by
  unfold isN at h
  simp only [Bool.or_eq_true, beq_iff_eq] at h
  omega
theorem push_it {X : Env'} {d : Dfs} {y : Int} (hn : isN y = true) : ev X (.nextOf (.bi .iter [.attr (.idx (.var 1) (.var 6)) 6])) (rho s0.length (some (.int y))) (s0 ++ TD s0.length t d) = some (.ref (s0.length + (16 + 2 * d.ob.length)), s0 ++ TD s0.length t { d with ob := d.ob ++ [some (y.toNat, 0)] }) := by
  have hlen : (s0 ++ TD s0.length t d).length = s0.length + (15 + 2 * d.ob.length) := by rw [List.length_append, td_length]
  have q1 : ev X (.attr (.idx (.var 1) (.var 6)) 6) (rho s0.length (some (.int y))) (s0 ++ TD s0.length t d) = some (.ref (s0.length + (3 + 2 * y.toNat)), s0 ++ TD s0.length t d) := by
    rcases isN_or hn with rfl | rfl | rfl | rfl <;> walk_at "mini"
  have q2 : (s0 ++ TD s0.length t d)[s0.length + (3 + 2 * y.toNat)]? = some (.list (t.suc y.toNat)) := (get_off _ _ _).trans (td_suc s0.length d (by have := isN_or hn; omega))
  have r1 : ev X (.bi .iter [.attr (.idx (.var 1) (.var 6)) 6]) (rho s0.length (some (.int y))) (s0 ++ TD s0.length t d) = some (.ref (s0 ++ TD s0.length t d).length, (s0 ++ TD s0.length t d) ++ [.iter (s0.length + (3 + 2 * y.toNat)) 0]) :=
    bnd (a := ([.ref (s0.length + (3 + 2 * y.toNat))], s0 ++ TD s0.length t d)) (bnd q1 rfl) (iter_at q2)
  refine (ev_nextOf r1 (get_off0 _ _)).trans ?_
  rw [hlen, List.length_append, hlen, List.append_assoc, List.append_assoc, td_take, td_take s0.length { d with ob := d.ob ++ [some (y.toNat, 0)] }, obC_append, List.append_assoc, Nat.zero_add, show s0.length + (15 + 2 * d.ob.length) + [O.iter (s0.length + (3 + 2 * y.toNat)) 0].length = s0.length + (16 + 2 * d.ob.length) by simp only [List.length_cons, List.length_nil]; omega]
  rfl
theorem push_eq {X : Env'} {d d' : Dfs} (hs : d.seen.contains d.node = false) (h : pushD d = some d') :
    exs X 1000 pushBody (rho s0.length (some (.int d.node))) (s0 ++ TD s0.length t d) = some (.next, rho s0.length (some (.int d.node)), s0 ++ TD s0.length t d') := by
  refine if_el h fun hc h => ?_
  simp only [Bool.and_eq_true, decide_eq_true_eq] at hc
  obtain ⟨⟨⟨⟨hn, h1⟩, h2⟩, h3⟩, h4⟩ := hc
  rw [← Option.some.inj h]
  have g13 : (s0 ++ TD s0.length t d)[s0.length + 13]? = some (.set d.seen) := get_off _ _ 13
  have p1 : ev X (.bmeth (.var 4) .add [.var 6]) (rho s0.length (some (.int d.node))) (s0 ++ TD s0.length t d) = some (.none, s0 ++ TD s0.length t { d with seen := d.seen ++ [d.node] }) :=
    ev_bmeth rfl (recvS_at g13) rfl (add_at g13 (by omega) hs (set_off _ _ 13 _))
  refine exs_c (ex_expr p1) ?_
  have g12 : ∀ d1 : Dfs, (s0 ++ TD s0.length t d1)[s0.length + 12]? = some (.list (d1.ks.map fun k => .ref (s0.length + (16 + 2 * k)))) := fun d1 => get_off _ _ 12
  have g11 : ∀ d1 : Dfs, (s0 ++ TD s0.length t d1)[s0.length + 11]? = some (.list (d1.stack.map .int)) := fun d1 => get_off _ _ 11
  have p3 : ev X (.bmeth (.var 3) .append [.nextOf (.bi .iter [.attr (.idx (.var 1) (.var 6)) 6])]) (rho s0.length (some (.int d.node))) (s0 ++ TD s0.length t { d with seen := d.seen ++ [d.node] }) = some (.none, s0 ++ TD s0.length t { d with seen := d.seen ++ [d.node], ob := d.ob ++ [some (d.node.toNat, 0)], ks := d.ks ++ [d.ob.length] }) :=
    ev_bmeth rfl (recv_at (g12 _)) (bnd (push_it hn) rfl) (app_at (g12 _) (by rw [List.length_map]; show d.ks.length < 1000; omega) (by
      rw [show (d.ks.map fun k => D.ref (s0.length + (16 + 2 * k))) ++ [.ref (s0.length + (16 + 2 * d.ob.length))] = (d.ks ++ [d.ob.length]).map fun k => .ref (s0.length + (16 + 2 * k)) by simp]
      exact set_off _ _ 12 _))
  refine exs_c (ex_expr p3) ?_
  refine exs_c (r' := rho s0.length (some (.int d.node))) (s' := s0 ++ TD s0.length t { d with seen := d.seen ++ [d.node], ob := d.ob ++ [some (d.node.toNat, 0)], ks := d.ks ++ [d.ob.length], keys := dictPut d.node (.int d.stack.length) d.keys }) (bnd (a := (.int (d.stack.map D.int).length, s0 ++ TD s0.length t { d with seen := d.seen ++ [d.node], ob := d.ob ++ [some (d.node.toNat, 0)], ks := d.ks ++ [d.ob.length] })) (bnd (a := ([.ref (s0.length + 11)], s0 ++ TD s0.length t { d with seen := d.seen ++ [d.node], ob := d.ob ++ [some (d.node.toNat, 0)], ks := d.ks ++ [d.ob.length] })) rfl (len_at (g11 _))) ?_) ?_
  · rw [List.length_map]
    exact bnd (a := (rho s0.length (some (.int d.node)), _)) (bnd (a := (.ref (s0.length + 14), _)) rfl (bnd (a := (.int d.node, _)) rfl (bnd (setI_at (get_off _ _ 14) (by show d.keys.length < lim; unfold lim; omega) (set_off _ _ 14 _)) rfl))) rfl
  · refine exs_c (ex_expr (ev_bmeth rfl (recv_at (g11 _)) rfl (app_at (g11 _) (by rw [List.length_map]; show d.stack.length < 1000; omega) ?_))) rfl
    rw [show (d.stack.map D.int) ++ [.int d.node] = (d.stack ++ [d.node]).map .int by simp]
    exact set_off _ _ 11 _
end P02
end
section
open PySem
set_option maxRecDepth 100000
namespace P02
variable {n : Nat} {s0 : Store} {t : St}

noncomputable def enterD (d : Dfs) : Option Dfs := bif d.seen.contains d.node then (bif dictHas d.node d.keys then .none else some d) else pushD d
noncomputable def outer1 (t : St) (d : Dfs) : Option (Bool × Dfs) := (enterD d).bind fun d1 => innerF t 1000 d1
noncomputable def outerF (t : St) : Nat → Dfs → Option Dfs
  | 0, _ => .none
  | m + 1, d => (outer1 t d).bind fun p => bif p.1 then outerF t m p.2 else some p.2
noncomputable def outerBody : List S := [.ife (.cmp .In (.var 6) (.var 4)) [.ife (.cmp .In (.var 6) (.var 5)) [.bad] []] pushBody, .whil (.var 2) nextBody [.brk]]

theorem exs_brk {X : Env'} {W : Nat} {x : S} {xs : List S} {r r' : Loc} {s s' : Store} (h : ex X W x r s = some (.brk, r', s')) : exs X W (x :: xs) r s = some (.brk, r', s') := bnd h rfl
theorem in_seen {X : Env'} {d : Dfs} : test X (.cmp .In (.var 6) (.var 4)) (rho s0.length (some (.int d.node))) (s0 ++ TD s0.length t d) = some (d.seen.contains d.node, s0 ++ TD s0.length t d) := by
  refine bnd (a := (.bool (d.seen.contains d.node), s0 ++ TD s0.length t d)) (bnd (a := (.int d.node, s0 ++ TD s0.length t d)) rfl (bnd (a := (.ref (s0.length + 13), s0 ++ TD s0.length t d)) rfl (bnd (a := d.seen.contains d.node) ?_ rfl))) rfl
  show ((s0 ++ TD s0.length t d)[s0.length + 13]?).bind (inO (.int d.node)) = _
  rw [get_off]; rfl
theorem in_keys {X : Env'} {d : Dfs} : test X (.cmp .In (.var 6) (.var 5)) (rho s0.length (some (.int d.node))) (s0 ++ TD s0.length t d) = some (dictHas d.node d.keys, s0 ++ TD s0.length t d) := by
  refine bnd (a := (.bool (dictHas d.node d.keys), s0 ++ TD s0.length t d)) (bnd (a := (.int d.node, s0 ++ TD s0.length t d)) rfl (bnd (a := (.ref (s0.length + 14), s0 ++ TD s0.length t d)) rfl (bnd (a := dictHas d.node d.keys) ?_ rfl))) rfl
  show ((s0 ++ TD s0.length t d)[s0.length + 14]?).bind (inO (.int d.node)) = _
  rw [get_off]; rfl

theorem enter_eq {X : Env'} {d d' : Dfs} (h : enterD d = some d') :
    ex X 1000 (.ife (.cmp .In (.var 6) (.var 4)) [.ife (.cmp .In (.var 6) (.var 5)) [.bad] []] pushBody) (rho s0.length (some (.int d.node))) (s0 ++ TD s0.length t d) = some (.next, rho s0.length (some (.int d.node)), s0 ++ TD s0.length t d') := by
  unfold enterD at h
  refine ife_of in_seen (fun hs => ?_) fun hs => ?_
  · rw [hs] at h
    have h : (bif dictHas d.node d.keys then .none else some d) = some d' := h
    refine exs_c (ife_of in_keys (fun hk => ?_) fun hk => ?_) rfl
    · rw [hk] at h; exact no_el h
    · rw [hk] at h; rw [← Option.some.inj h]; rfl
  · rw [hs] at h; exact push_eq hs h

theorem outer1_eq {X : Env'} {d d' : Dfs} {b : Bool} (h : outer1 t d = some (b, d')) :
    ∃ x, exs X 1000 outerBody (rho s0.length (some (.int d.node))) (s0 ++ TD s0.length t d) = some (if b then .next else .brk, rho s0.length (if b then some (.int d'.node) else x), s0 ++ TD s0.length t d') :=
  bd1 h fun d1 h1 h => ⟨some (.int d.node), exs_c (enter_eq h1) (bnd (inner_eq (X := X) (s0 := s0) (x := some (.int d.node)) 1000 h) (by cases b <;> rfl))⟩

theorem outer_eq {X : Env'} : ∀ (m : Nat) {d d' : Dfs}, outerF t m d = some d' →
    ∃ x, whileL (test X (.bool true)) (exs X 1000 outerBody) (exs X 1000 []) m (rho s0.length (some (.int d.node))) (s0 ++ TD s0.length t d) = some (.next, rho s0.length x, s0 ++ TD s0.length t d')
  | 0, d, d', h => no_el h
  | m + 1, d, d', h => bd2 h fun b d1 h1 h => Exists.elim (outer1_eq (X := X) (s0 := s0) h1) fun x e => by
    cases b with
    | true => exact Exists.elim (outer_eq (X := X) m h) fun y ih => ⟨y, bnd (a := (true, s0 ++ TD s0.length t d)) rfl (bnd e ih)⟩
    | false => exact ⟨x, bnd (a := (true, s0 ++ TD s0.length t d)) rfl (bnd e (by rw [← Option.some.inj h]; rfl))⟩

noncomputable def findF (t : St) : List Int → Dfs → Option Dfs
  | [], d => some d
  | v :: l, d => bif d.seen.contains v then findF t l { d with node := v } else (outerF t 1000 { d with node := v }).bind fun d' => findF t l d'

noncomputable def forBody : List S := [.ife (.cmp .In (.var 6) (.var 4)) [.cont] [], .whil (.bool true) outerBody []]
theorem find_loop {X : Env'} : ∀ (l : List Int) {d d' : Dfs} {x : Option D}, findF t l d = some d' →
    ∃ y, forL (exs X 1000 forBody) (assignT X (.name 6)) (l.map .int) (rho s0.length x) (s0 ++ TD s0.length t d) = some (.next, rho s0.length y, s0 ++ TD s0.length t d')
  | [], d, d', x, h => ⟨x, by rw [← Option.some.inj h]; rfl⟩
  | v :: l, d, d', x, h => by
    have ha : assignT X (.name 6) (.int v) (rho s0.length x) (s0 ++ TD s0.length t d) = some (rho s0.length (some (.int v)), s0 ++ TD s0.length t { d with node := v }) := rfl
    have hs := in_seen (X := X) (s0 := s0) (t := t) (d := { d with node := v })
    have h : (bif d.seen.contains v then findF t l { d with node := v } else (outerF t 1000 { d with node := v }).bind fun d' => findF t l d') = some d' := h
    cases hc : d.seen.contains v with
    | true =>
      rw [hc] at h
      rw [show ({ d with node := v } : Dfs).seen.contains ({ d with node := v } : Dfs).node = true from hc] at hs
      exact Exists.elim (find_loop (X := X) (x := some (.int v)) l h) fun y ih => ⟨y, bnd ha (bnd (a := (Fl.cont, rho s0.length (some (.int v)), s0 ++ TD s0.length t { d with node := v })) (bnd (bnd hs rfl) rfl) ih)⟩
    | false =>
      rw [hc] at h
      rw [show ({ d with node := v } : Dfs).seen.contains ({ d with node := v } : Dfs).node = false from hc] at hs
      exact bd1 h fun d1 h1 h => Exists.elim (outer_eq (X := X) (s0 := s0) 1000 h1) fun z e => Exists.elim (find_loop (X := X) (x := z) l h) fun y ih => ⟨y, bnd ha (bnd (a := (Fl.next, rho s0.length z, s0 ++ TD s0.length t d1)) (bnd (bnd hs rfl) (bnd e rfl)) ih)⟩

noncomputable def d00 : Dfs := ⟨0, [], [], [], [], []⟩
noncomputable def gar (L : Nat) (d : Dfs) : Store := .list (d.stack.map .int) :: .list (d.ks.map fun k => .ref (L + (16 + 2 * k))) :: .set d.seen :: .dict d.keys :: obC L 0 d.ob

theorem TT_len (t : St) (g : Store) : (s0 ++ TT s0.length t g).length = s0.length + (11 + g.length) := by
  rw [List.length_append]; unfold TT; simp only [List.length_cons]; omega
theorem TT_app (t : St) (g : Store) (o : O) : (s0 ++ TT s0.length t g) ++ [o] = s0 ++ TT s0.length t (g ++ [o]) := List.append_assoc _ _ _
theorem new_at {X : Env'} {e : E} {r : Loc} {g : Store} {o : O} (h : ∀ s, ev X e r s = some (.ref s.length, s ++ [o])) : ev X e r (s0 ++ TT s0.length t g) = some (.ref (s0.length + (11 + g.length)), s0 ++ TT s0.length t (g ++ [o])) := by
  rw [h, TT_len, TT_app]
theorem find_cycle_eq {d' : Dfs} (h : findF t [0, 1, 2, 3] d00 = some d') : callF P (n + 1) 9 [.ref s0.length] (s0 ++ TT s0.length t []) = some (.none, s0 ++ TT s0.length t (gar s0.length d')) := by
  refine Exists.elim (find_loop (X := ⟨P.globs, callF P n⟩) (s0 := s0) (x := .none) [0, 1, 2, 3] h) fun y hl => ?_
  apply call_of (fn := f_find_cycle) (r := [some (.ref s0.length), .none, .none, .none, .none, .none, .none]) rfl rfl
  refine exs_c (r' := [some (.ref s0.length), some (.ref (s0.length + 1)), .none, .none, .none, .none, .none]) (s' := s0 ++ TT s0.length t []) (by walk_at "mini") ?_
  refine exs_c (r' := [some (.ref s0.length), some (.ref (s0.length + 1)), some (.ref (s0.length + 11)), .none, .none, .none, .none]) (s' := s0 ++ TT s0.length t [.list []]) (asg_of (new_at fun s => rfl)) ?_
  refine exs_c (r' := [some (.ref s0.length), some (.ref (s0.length + 1)), some (.ref (s0.length + 11)), some (.ref (s0.length + 12)), .none, .none, .none]) (s' := s0 ++ TT s0.length t [.list [], .list []]) (asg_of (new_at fun s => rfl)) ?_
  refine exs_c (r' := [some (.ref s0.length), some (.ref (s0.length + 1)), some (.ref (s0.length + 11)), some (.ref (s0.length + 12)), some (.ref (s0.length + 13)), .none, .none]) (s' := s0 ++ TT s0.length t [.list [], .list [], .set []]) (asg_of (new_at fun s => rfl)) ?_
  refine exs_c (r' := rho s0.length .none) (s' := s0 ++ TT s0.length t [.list [], .list [], .set [], .dict []]) (asg_of (new_at fun s => rfl)) ?_
  refine exs_c (for_ref (k := s0.length + 1) (s2 := s0 ++ TD s0.length t d00) rfl (get_off _ _ 1) rfl (set_off _ _ 1 _) hl (get_off _ _ 1) rfl (set_off _ _ 1 _)) (ret_of rfl)
end P02
end
section
open PySem
set_option maxRecDepth 100000
theorem getA_at {σ : Store} {k c a : Nat} {as : List (Nat × D)} {d : D} (h : σ[k]? = some (.inst c as)) (ha : as.lookup a = some d) : getAttr σ (.ref k) a = some d := by
  show ((σ[k]?).bind oInst).bind _ = _
  rw [h]; exact ha
theorem get_at {σ : Store} {k : Nat} {i : Int} {es : List (Int × D)} {d : D} (h : σ[k]? = some (.dict es)) (hd : (dictGet i es).getD .none = d) : bmeth .get σ (.ref k) [.int i] = some (d, σ) := by
  show ((σ[k]?).bind oDict').bind _ = _
  rw [h, ← hd]; rfl
theorem inst_at {σ : Store} {k : Nat} {as : List (Nat × D)} (h : σ[k]? = some (.inst 0 as)) : isInst σ (.ref k) = true := by
  show (((σ[k]?).bind oInst).bind _).isSome = true
  rw [h]; rfl
theorem ev_attr {X : Env'} {o : E} {a : Nat} {r : Loc} {s s1 : Store} {x d : D} (h : ev X o r s = some (x, s1)) (h2 : getAttr s1 x a = some d) : ev X (.attr o a) r s = some (d, s1) := bnd h (bnd h2 rfl)
theorem ev_umeth {X : Env'} {o : E} {f : Nat} {args : List E} {r : Loc} {s s1 s2 : Store} {x : D} {l : List D} {q : D × Store} (h1 : ev X o r s = some (x, s1)) (h2 : isInst s1 x = true) (h3 : evs X args r s1 = some (l, s2)) (h4 : X.F f (x :: l) s2 = some q) : ev X (.umeth o f args) r s = some q := bnd h1 (by
  show (bif isInst s1 x then (evs X args r s1).bind fun q => X.F f (x :: q.1) q.2 else .none) = _
  rw [h2]; exact bnd h3 h4)
theorem ev_new {X : Env'} {c : Nat} {args : List E} {r : Loc} {s s1 s2 : Store} {l : List D} {d0 : D} (h1 : evs X args r s = some (l, s1)) (h2 : X.F (1000 + c) (.ref s1.length :: l) (s1 ++ [.inst c []]) = some (d0, s2)) : ev X (.new c args) r s = some (.ref s1.length, s2) := bnd h1 (bnd h2 rfl)
theorem ev_call {X : Env'} {f : Nat} {args : List E} {r : Loc} {s s1 : Store} {l : List D} {q : Option (D × Store)} (h1 : evs X args r s = some (l, s1)) (h2 : X.F f l s1 = q) : ev X (.call f args) r s = q := bnd h1 h2
theorem ex_assign2 {X : Env'} {W : Nat} {tg ug : T} {e : E} {r r1 r2 : Loc} {s s1 s2 s3 : Store} {d : D} (h1 : ev X e r s = some (d, s1)) (h2 : assignT X tg d r s1 = some (r1, s2)) (h3 : assignT X ug d r1 s2 = some (r2, s3)) : ex X W (.assign2 tg ug e) r s = some (.next, r2, s3) := bnd h1 (bnd h2 (bnd h3 rfl))
theorem asg_sub {X : Env'} {o i : E} {r : Loc} {s s1 s2 s3 : Store} {x y d : D} (h1 : ev X o r s = some (x, s1)) (h2 : ev X i r s1 = some (y, s2)) (h3 : setItem s2 x y d = some s3) : assignT X (.sub o i) d r s = some (r, s3) := bnd h1 (bnd h2 (bnd h3 rfl))
theorem ifN_t {X : Env'} {W x : Nat} {e : E} {a : List S} {r : Loc} {s s1 : Store} {R : Option (Fl × Loc × Store)} (h : ev X e r s = some (.none, s1)) (k : exs X W a (r.set x (some .none)) s1 = R) : ex X W (.ifNone x e a) r s = R := bnd h k
theorem ifN_f {X : Env'} {W x j : Nat} {e : E} {a : List S} {r : Loc} {s s1 : Store} (h : ev X e r s = some (.ref j, s1)) : ex X W (.ifNone x e a) r s = some (.next, r.set x (some (.ref j)), s1) := bnd h rfl
theorem ex_assign {X : Env'} {W : Nat} {tg : T} {e : E} {r r' : Loc} {s s1 s2 : Store} {d : D} (h1 : ev X e r s = some (d, s1)) (h2 : assignT X tg d r s1 = some (r', s2)) : ex X W (.assign tg e) r s = some (.next, r', s2) := bnd h1 (bnd h2 rfl)
namespace P02
variable {n : Nat} {s0 : Store} {t : St}

theorem init_node {m : Nat} {i : Int} {s : Store} {k : Nat} (hk : s[k]? = some (.inst 1 [])) : callF P (m + 1) 1001 [.ref k, .int i] s = some (.none, (s.set k (.inst 1 [(4, .int i), (5, .int 0), (6, .ref s.length)])) ++ [.list []]) := by
  have hkl : k < s.length := (List.getElem?_eq_some_iff.mp hk).1
  apply call_no (fn := f_init_NodeInfo) (r := [some (.ref k), some (.int i)]) rfl rfl
  refine exs_c (r' := [some (.ref k), some (.int i)]) (ex_assign rfl (bnd (a := (.ref k, s)) rfl (bnd (set_at hk rfl rfl) rfl))) ?_
  refine exs_c (r' := [some (.ref k), some (.int i)]) (ex_assign rfl (bnd (a := (.ref k, s.set k (.inst 1 [(4, .int i)]))) rfl (bnd (set_at (List.getElem?_set_self hkl) rfl (List.set_set ..)) rfl))) ?_
  refine exs_c (r' := [some (.ref k), some (.int i)]) (s' := (s.set k (.inst 1 [(4, .int i), (5, .int 0), (6, .ref s.length)])) ++ [.list []]) (ex_assign (d := .ref s.length) (s1 := s.set k (.inst 1 [(4, .int i), (5, .int 0)]) ++ [.list []]) ?_ (bnd (a := (.ref k, _)) rfl (bnd (set_at (by rw [List.getElem?_append_left (by rw [List.length_set]; exact hkl)]; exact List.getElem?_set_self hkl) rfl ?_) rfl))) rfl
  · exact congrArg (fun x => some (D.ref x, s.set k (.inst 1 [(4, .int i), (5, .int 0)]) ++ [O.list []])) List.length_set
  · rw [List.set_append_left _ _ (by rw [List.length_set]; exact hkl), List.set_set]; rfl

section
variable {m : Nat} {i : Int} {at' : List (Nat × D)} {es : List (Int × D)} {rest : Store}
theorem node_get {X : Env'} {d : D} {r2 : Option D} (ha : at'.lookup 0 = some (.ref (s0.length + 1))) (hg : (dictGet i es).getD .none = d) :
    ev X (.bmeth (.attr (.var 0) 0) .get [.var 1]) [some (.ref s0.length), some (.int i), r2] (s0 ++ .inst 0 at' :: .dict es :: rest) = some (d, s0 ++ .inst 0 at' :: .dict es :: rest) :=
  ev_bmeth (ev_attr rfl (getA_at (get_off0 _ _) ha)) (recvD_at (get_off _ _ 1)) rfl (get_at (get_off _ _ 1) hg)
theorem node_new (ha : at'.lookup 0 = some (.ref (s0.length + 1))) (hg : dictGet i es = .none) (hany : es.any (fun e => e.1 == i) = false) (hlen : es.length < lim) :
    callF P (m + 2) 3 [.ref s0.length, .int i] (s0 ++ .inst 0 at' :: .dict es :: rest) = some (.ref (s0.length + (2 + rest.length)), s0 ++ (.inst 0 at' :: .dict (es ++ [(i, .ref (s0.length + (2 + rest.length)))]) :: (rest ++ [.inst 1 [(4, .int i), (5, .int 0), (6, .ref (s0.length + (3 + rest.length)))], .list []]))) := by
  have hl : (s0 ++ .inst 0 at' :: .dict es :: rest).length = s0.length + (2 + rest.length) := by simp only [List.length_append, List.length_cons]; omega
  have hn : ev ⟨P.globs, callF P (m + 1)⟩ (.new 1 [.var 1]) [some (.ref s0.length), some (.int i), some .none] (s0 ++ .inst 0 at' :: .dict es :: rest) = some (.ref (s0.length + (2 + rest.length)), s0 ++ .inst 0 at' :: .dict es :: (rest ++ [.inst 1 [(4, .int i), (5, .int 0), (6, .ref (s0.length + (3 + rest.length)))], .list []])) := by
    have q := init_node (m := m) (i := i) (s := (s0 ++ .inst 0 at' :: .dict es :: rest) ++ [.inst 1 []]) (k := (s0 ++ .inst 0 at' :: .dict es :: rest).length) (get_off0 _ _)
    refine (ev_new (s1 := s0 ++ .inst 0 at' :: .dict es :: rest) rfl q).trans ?_
    have hl2 : ((s0 ++ .inst 0 at' :: .dict es :: rest) ++ [O.inst 1 []]).length = s0.length + (3 + rest.length) := by rw [List.length_append, hl]; simp only [List.length_cons, List.length_nil]; omega
    rw [set_off0, hl2, hl, List.append_assoc, List.append_assoc]
    rfl
  have hp : dictPut i (.ref (s0.length + (2 + rest.length))) es = es ++ [(i, .ref (s0.length + (2 + rest.length)))] := by unfold dictPut; rw [hany]; rfl
  apply call_of (fn := f_get_nodeinfo) (r := [some (.ref s0.length), some (.int i), .none]) rfl rfl
  refine exs_c (r' := [some (.ref s0.length), some (.int i), some (.ref (s0.length + (2 + rest.length)))]) (ifN_t (node_get ha (by rw [hg]; rfl)) (exs_c (ex_assign2 hn (asg_sub (ev_attr rfl (getA_at (get_off0 _ _) ha)) rfl (setI_at (get_off _ _ 1) hlen ((congrArg (fun x => List.set _ _ (O.dict x)) hp).trans (set_off _ _ 1 _)))) rfl) rfl)) (ret_of rfl)

theorem node_old {k : Nat} (ha : at'.lookup 0 = some (.ref (s0.length + 1))) (hg : dictGet i es = some (.ref k)) :
    callF P (m + 1) 3 [.ref s0.length, .int i] (s0 ++ .inst 0 at' :: .dict es :: rest) = some (.ref k, s0 ++ .inst 0 at' :: .dict es :: rest) := by
  apply call_of (fn := f_get_nodeinfo) (r := [some (.ref s0.length), some (.int i), .none]) rfl rfl
  exact exs_c (r' := [some (.ref s0.length), some (.int i), some (.ref k)]) (ifN_f (node_get ha (by rw [hg]; rfl))) (ret_of rfl)
end
end P02
end
section
open PySem
set_option maxRecDepth 100000
theorem ex_aug {X : Env'} {W a : Nat} {o e : E} {op : Operator} {r : Loc} {s s1 s2 s3 : Store} {x d : D} {i j : Int} (h1 : ev X o r s = some (x, s1)) (h2 : getAttr s1 x a = some (.int i)) (h3 : ev X e r s1 = some (.int j, s2)) (h4 : binOp op (.int i) (.int j) = some d) (h5 : setAttr s2 x a d = some s3) :
    ex X W (.aug o a op e) r s = some (.next, r, s3) := bnd h1 (bnd h2 (bnd h3 (bnd (a := i) rfl (bnd (a := j) rfl (bnd h4 (bnd h5 rfl))))))
namespace P02
variable {n : Nat} {s0 : Store} {t : St}

noncomputable def at0 (L : Nat) : List (Nat × D) := [(0, .ref (L + 1)), (1, .none), (2, .int 0), (3, .int 0)]
theorem get_end (a b x y : O) (rest : Store) : (s0 ++ a :: b :: (rest ++ [x, y]))[s0.length + (2 + rest.length)]? = some x := by
  rw [get_off, show 2 + rest.length = rest.length + 1 + 1 by omega, List.getElem?_cons_succ, List.getElem?_cons_succ, get_off0]; rfl
theorem set_end (a b x y z : O) (rest : Store) : (s0 ++ a :: b :: (rest ++ [x, y])).set (s0.length + (2 + rest.length)) z = s0 ++ a :: b :: (rest ++ [z, y]) := by
  rw [set_off, show 2 + rest.length = rest.length + 1 + 1 by omega, List.set_cons_succ, List.set_cons_succ, set_off0]; rfl

theorem add_new {m : Nat} {i : Int} {es : List (Int × D)} {rest : Store} (hg : dictGet i es = .none) (hany : es.any (fun e => e.1 == i) = false) (hlen : es.length < lim) :
    callF P (m + 3) 4 [.ref s0.length, .int i] (s0 ++ .inst 0 (at0 s0.length) :: .dict es :: rest) = some (.none, s0 ++ (.inst 0 (at0 s0.length) :: .dict (es ++ [(i, .ref (s0.length + (2 + rest.length)))]) :: (rest ++ [.inst 1 [(4, .int i), (5, .int 0), (6, .ref (s0.length + (3 + rest.length)))], .list []]))) := by
  have hc := node_new (s0 := s0) (m := m) (rest := rest) (at' := at0 s0.length) rfl hg hany hlen
  apply call_no (fn := f_add) (r := [some (.ref s0.length), some (.int i), some (.tup []), .none, .none, .none]) rfl rfl
  refine exs_c (r' := [some (.ref s0.length), some (.int i), some (.tup []), .none, .none, .none]) (s' := s0 ++ .inst 0 (at0 s0.length) :: .dict es :: rest) (by walk_at "mini") ?_
  refine exs_c (asg_of (ev_umeth (X := ⟨P.globs, callF P (m + 2)⟩) (x := .ref s0.length) (l := [.int i]) rfl (inst_at (get_off0 _ _)) rfl hc)) ?_
  refine exs_c (ex_aug (x := .ref (s0.length + (2 + rest.length))) (i := 0) (j := 0) (d := .int 0) rfl (getA_at (get_end ..) rfl) rfl rfl (set_at (get_end ..) rfl (set_end ..))) ?_
  exact exs_c (for_tup (l := []) rfl rfl) rfl

noncomputable def T0 (L : Nat) (t : St) : Store :=
  .inst 0 (at0 L) ::
  .dict [(0, .ref (L + 2)), (1, .ref (L + 4)), (2, .ref (L + 6)), (3, .ref (L + 8))] ::
  [.inst 1 [(4, .int 0), (5, .int t.n0), (6, .ref (L + 3))], .list t.s0,
  .inst 1 [(4, .int 1), (5, .int t.n1), (6, .ref (L + 5))], .list t.s1,
  .inst 1 [(4, .int 2), (5, .int t.n2), (6, .ref (L + 7))], .list t.s2,
  .inst 1 [(4, .int 3), (5, .int t.n3), (6, .ref (L + 9))], .list t.s3]

noncomputable def St.edge (t : St) (a b : D) : St :=
  let t1 := t.setN b (t.getN b + 1)
  match a with
  | .int 0 => { t1 with s0 := t1.s0 ++ [b] }
  | .int 1 => { t1 with s1 := t1.s1 ++ [b] }
  | .int 2 => { t1 with s2 := t1.s2 ++ [b] }
  | .int 3 => { t1 with s3 := t1.s3 ++ [b] }
  | _ => t1

noncomputable def short (t : St) : Bool := decide (t.s0.length < 900) && decide (t.s1.length < 900) && decide (t.s2.length < 900) && decide (t.s3.length < 900)

theorem add_pair {m : Nat} {a b : D} (ha : isNode a) (hb : isNode b) (hs : short t = true) :
    callF P (m + 2) 4 [.ref s0.length, b, a] (s0 ++ T0 s0.length t) = some (.none, s0 ++ T0 s0.length (t.edge a b)) := by
  have go : ∀ x (t : St), isNode x → callF P (m + 1) 3 [.ref s0.length, x] (s0 ++ T0 s0.length t) = some (.ref (s0.length + (2 + 2 * nodeIx x)), s0 ++ T0 s0.length t) := by
    rintro x t (rfl | rfl | rfl | rfl)
    all_goals exact node_old rfl rfl
  have hu : ∀ x (t : St) k r, isNode x → getV (some (.ref s0.length) :: r) k = some x → ev ⟨P.globs, callF P (m + 1)⟩ (.umeth (.var 0) 3 [.var k]) (some (.ref s0.length) :: r) (s0 ++ T0 s0.length t) = some (.ref (s0.length + (2 + 2 * nodeIx x)), s0 ++ T0 s0.length t) := fun x t k r hx hk =>
    ev_umeth (X := ⟨P.globs, callF P (m + 1)⟩) (x := .ref s0.length) (l := [x]) rfl (inst_at (get_off0 _ _)) (bnd (a := (x, s0 ++ T0 s0.length t)) (bnd hk rfl) rfl) (go x t hx)
  have hsl := setN_rd t b (t.getN b + 1)
  simp only [short, Bool.and_eq_true, decide_eq_true_eq] at hs
  obtain ⟨⟨⟨q0, q1⟩, q2⟩, q3⟩ := hs
  apply call_no (fn := f_add) (r := [some (.ref s0.length), some b, some (.tup [a]), .none, .none, .none]) rfl rfl
  refine exs_c (r' := [some (.ref s0.length), some b, some (.tup [a]), .none, .none, .none]) (s' := s0 ++ T0 s0.length t) (by walk_at "mini") ?_
  refine exs_c (asg_of (hu b t 1 _ hb rfl)) ?_
  refine exs_c (r' := [some (.ref s0.length), some b, some (.tup [a]), some (.ref (s0.length + (2 + 2 * nodeIx b))), .none, .none]) (s' := s0 ++ T0 s0.length (t.setN b (t.getN b + 1))) (by
    rcases hb with rfl | rfl | rfl | rfl <;> walk_at "mini") ?_
  refine exs_c (r' := [some (.ref s0.length), some b, some (.tup [a]), some (.ref (s0.length + (2 + 2 * nodeIx b))), some a, some (.ref (s0.length + (2 + 2 * nodeIx a)))]) (s' := s0 ++ T0 s0.length (t.edge a b)) (for_tup (l := [a]) rfl (forL_cons rfl (exs_c (asg_of (hu a _ 4 _ ha rfl)) (exs_c (bnd (a := (.none, s0 ++ T0 s0.length (t.edge a b))) ?_ rfl) rfl)) rfl)) rfl
  have key : ∀ (t : St) (k : Nat) (l : List D) (s' : Store), (s0 ++ T0 s0.length t)[s0.length + (3 + 2 * nodeIx a)]? = some (.list l) → l.length < 1000 → (s0 ++ T0 s0.length t).set (s0.length + (3 + 2 * nodeIx a)) (.list (l ++ [b])) = s' → ev ⟨P.globs, callF P (m + 1)⟩ (.bmeth (.attr (.var 5) 6) .append [.var 1]) [some (.ref s0.length), some b, some (.tup [a]), some (.ref (s0.length + (2 + 2 * nodeIx b))), some a, some (.ref (s0.length + (2 + 2 * nodeIx a)))] (s0 ++ T0 s0.length t) = some (.none, s') := fun t k l s' hg hl hs =>
    ev_bmeth (d := .ref (s0.length + (3 + 2 * nodeIx a))) (s1 := s0 ++ T0 s0.length t) (by rcases ha with rfl | rfl | rfl | rfl <;> walk_at "mini") (recv_at hg) rfl (app_at hg hl hs)
  rcases ha with rfl | rfl | rfl | rfl
  · exact key _ 0 _ _ (get_off _ _ 3) (by rw [hsl.2.2.2.1]; omega) (set_off _ _ 3 _)
  · exact key _ 0 _ _ (get_off _ _ 5) (by rw [hsl.2.2.2.2.1]; omega) (set_off _ _ 5 _)
  · exact key _ 0 _ _ (get_off _ _ 7) (by rw [hsl.2.2.2.2.2.1]; omega) (set_off _ _ 7 _)
  · exact key _ 0 _ _ (get_off _ _ 9) (by rw [hsl.2.2.2.2.2.2]; omega) (set_off _ _ 9 _)
end P02
end
section
open PySem
set_option maxRecDepth 100000
theorem evc1 {X : Env'} {c : E} {r : Loc} {s s' : Store} {b : Bool} (h : ev X c r s = some (.bool b, s')) : evc X [c] r s = some (b, s') := bnd h (bnd (a := b) rfl (by cases b <;> rfl))
theorem over_c {f : D → Store → Option (List D × Store)} {d : D} {l r r' : List D} {s s1 s2 : Store} (h : f d s = some (r, s1)) (k : overL f l s1 = some (r', s2)) : overL f (d :: l) s = some (r ++ r', s2) := bnd h (bnd k rfl)
namespace P02
variable {n : Nat} {s0 : Store} {t : St}

noncomputable def one (i v : Int) : List D := if v = 0 then [.int i] else []
noncomputable def rdOf (t : St) : List D := one 0 t.n0 ++ (one 1 t.n1 ++ (one 2 t.n2 ++ one 3 t.n3))
noncomputable def St.prep (t : St) : St := { t with rd := rdOf t, p := 0, f := 0 }
noncomputable def T1 (L : Nat) (t : St) : Store := (T0 L t).set 1 (.ldict [(0, .ref (L + 2)), (1, .ref (L + 4)), (2, .ref (L + 6)), (3, .ref (L + 8))])

noncomputable def prepF (X : Env') (r : Loc) (d : D) (s : Store) : Option (List D × Store) := (bindG r [2] false d).bind fun r' => (evc X [.cmp .Eq (.attr (.var 2) 5) (.int 0)] r' s).bind fun q => bif q.1 then evg X [] (ev X (.attr (.var 2) 4)) r' q.2 else some ([], q.2)
theorem prep_one {X : Env'} {r : Loc} {d : D} {s : Store} {i n : Int} (h1 : ev X (.cmp .Eq (.attr (.var 2) 5) (.int 0)) (r.set 2 (some d)) s = some (.bool (n == 0), s)) (h2 : ev X (.attr (.var 2) 4) (r.set 2 (some d)) s = some (.int i, s)) : prepF X r d s = some (one i n, s) := by
  refine bnd (a := r.set 2 (some d)) rfl (bnd (evc1 h1) ?_)
  unfold one
  by_cases h : n = 0
  · rw [if_pos h, beq_iff_eq.mpr h]; exact bnd h2 rfl
  · rw [if_neg h, beq_eq_false_iff_ne.mpr h]; rfl
theorem prep_over {X : Env'} : overL (prepF X [some (.ref s0.length), .none, .none]) [.ref (s0.length + 2), .ref (s0.length + 4), .ref (s0.length + 6), .ref (s0.length + 8)] (s0 ++ T1 s0.length t) = some (rdOf t, s0 ++ T1 s0.length t) := by
  refine (over_c (prep_one (i := 0) (n := t.n0) ?_ ?_) (over_c (prep_one (i := 1) (n := t.n1) ?_ ?_) (over_c (prep_one (i := 2) (n := t.n2) ?_ ?_) (over_c (prep_one (i := 3) (n := t.n3) ?_ ?_) rfl)))).trans (by rw [List.append_nil]; rfl)
  all_goals walk_at "mini"

theorem one_len (i v : Int) : (one i v).length ≤ 1 := by unfold one; split <;> simp
theorem one_node {v : Int} {d : D} {i : Int} (h : d ∈ one i v) : d = .int i := by
  unfold one at h; split at h <;> simp at h; exact h

theorem prep_comp {X : Env'} : ev X (.comp true (.attr (.var 2) 4) [.mk [2] false (.vals (.attr (.var 0) 0)) [.cmp .Eq (.attr (.var 2) 5) (.int 0)]]) [some (.ref s0.length), .none, .none] (s0 ++ T0 s0.length t) = some (.ref (s0.length + 10), s0 ++ (T0 s0.length t ++ [.list (rdOf t)])) := by
  have hi : evi X (.vals (.attr (.var 0) 0)) [some (.ref s0.length), .none, .none] (s0 ++ T0 s0.length t) = some ([.ref (s0.length + 2), .ref (s0.length + 4), .ref (s0.length + 6), .ref (s0.length + 8)], s0 ++ T1 s0.length t, some (s0.length + 1)) := by
    refine bnd (a := (.ref (s0.length + 1), s0 ++ T0 s0.length t)) (by walk_at "mini") (bnd (a := s0.length + 1) rfl (bnd (a := [(0, .ref (s0.length + 2)), (1, .ref (s0.length + 4)), (2, .ref (s0.length + 6)), (3, .ref (s0.length + 8))]) (bnd (get_off _ _ 1) rfl) ?_))
    exact congrArg (fun x => some ([D.ref (s0.length + 2), .ref (s0.length + 4), .ref (s0.length + 6), .ref (s0.length + 8)], x, some (s0.length + 1))) (set_off _ _ 1 _)
  have hu : unlock (s0 ++ T1 s0.length t) (s0.length + 1) = some (s0 ++ T0 s0.length t) := bnd (bnd (get_off _ _ 1) rfl) (congrArg some (set_off _ _ 1 _))
  have hlen : (rdOf t).length ≤ lim := by
    have a := one_len 0 t.n0; have b := one_len 1 t.n1; have c := one_len 2 t.n2; have d := one_len 3 t.n3
    simp only [rdOf, List.length_append]; unfold lim; omega
  have hg : evg X [.mk [2] false (.vals (.attr (.var 0) 0)) [.cmp .Eq (.attr (.var 2) 5) (.int 0)]] (ev X (.attr (.var 2) 4)) [some (.ref s0.length), .none, .none] (s0 ++ T0 s0.length t) = some (rdOf t, s0 ++ T0 s0.length t) :=
    bnd hi (bnd prep_over (bnd hu rfl))
  refine bnd hg (bnd (show mkL (rdOf t) = some (.list (rdOf t)) from if_pos hlen) ?_)
  show some (D.ref (s0 ++ T0 s0.length t).length, (s0 ++ T0 s0.length t) ++ [O.list (rdOf t)]) = _
  rw [List.length_append, List.append_assoc]; rfl

theorem prepare_eq {m : Nat} {d' : Dfs} (h : findF t.prep [0, 1, 2, 3] d00 = some d') : callF P (m + 2) 5 [.ref s0.length] (s0 ++ T0 s0.length t) = some (.none, s0 ++ TT s0.length t.prep (gar s0.length d')) := by
  apply call_no (fn := f_prepare) (r := [some (.ref s0.length), .none, .none]) rfl rfl
  refine exs_c (r' := [some (.ref s0.length), .none, .none]) (s' := s0 ++ T0 s0.length t) (by walk_at "mini") ?_
  refine exs_c (r' := [some (.ref s0.length), .none, .none]) (s' := s0 ++ TT s0.length t.prep []) (ex_assign prep_comp (by walk_at "mini")) ?_
  refine exs_c (asg_of (ev_umeth (X := ⟨P.globs, callF P (m + 1)⟩) (x := .ref s0.length) (l := []) rfl (inst_at (get_off0 _ _)) rfl (find_cycle_eq h))) ?_
  exact exs_c (r' := [some (.ref s0.length), some .none, .none]) (ife_of (t := false) rfl (fun q => nomatch q) fun _ => rfl) rfl

noncomputable def four : List D := [.tup [.int 0, .list []], .tup [.int 1, .list []], .tup [.int 2, .list []], .tup [.int 3, .list []]]
noncomputable def pairD (p : D × D) : D := .tup [p.2, .list [p.1]]
noncomputable def edgesF : List (D × D) → St → Option St
  | [], t => some t
  | p :: r, t => if short t then edgesF r (t.edge p.1 p.2) else .none
noncomputable def st0 : St := ⟨0, 0, 0, 0, [], [], [], [], [], 0, 0⟩

noncomputable def addBody : List S := [.expr (.umeth (.var 1) 4 [.var 2, .star (.var 3)])]
theorem ev_add {X : Env'} {r : Loc} {s : Store} {L : Nat} {b : D} {l : List D} {q : D} {R : D × Store} (h1 : ev X (.var 1) r s = some (.ref L, s)) (hi : isInst s (.ref L) = true) (h2 : ev X (.var 2) r s = some (b, s)) (h3 : ev X (.var 3) r s = some (q, s)) (h4 : asLT s q = some l) (h5 : X.F 4 (.ref L :: b :: l) s = some R) :
    ev X (.umeth (.var 1) 4 [.var 2, .star (.var 3)]) r s = some R :=
  ev_umeth h1 hi (bnd h2 (bnd (a := (l ++ [], s)) (bnd h3 (bnd h4 (bnd (a := ([], s)) rfl rfl))) (by rw [List.append_nil]))) h5

theorem add_loop {m : Nat} {nd : D} : ∀ (ps : List (D × D)) {t t' : St} {x y : Option D}, (∀ p ∈ ps, isNode p.1 ∧ isNode p.2) → edgesF ps t = some t' →
    ∃ x' y', forL (exs ⟨P.globs, callF P (m + 3)⟩ 1000 addBody) (assignT ⟨P.globs, callF P (m + 3)⟩ (.tup [.name 2, .name 3])) (ps.map pairD) [some nd, some (.ref s0.length), x, y] (s0 ++ T0 s0.length t) = some (.next, [some nd, some (.ref s0.length), x', y'], s0 ++ T0 s0.length t')
  | [], t, t', x, y, _, h => ⟨x, y, by rw [← Option.some.inj h]; rfl⟩
  | p :: ps, t, t', x, y, hp, h => if_el h fun hs h => el21 (add_loop (m := m) (nd := nd) (x := some p.2) (y := some (.list [p.1])) ps (fun q hq => hp q (List.mem_cons_of_mem _ hq)) h) fun x' y' ih =>
    ⟨x', y', forL_cons (r1 := [some nd, some (.ref s0.length), some p.2, some (.list [p.1])]) rfl (exs_c (ex_expr (ev_add (X := ⟨P.globs, callF P (m + 3)⟩) (L := s0.length) rfl (inst_at (get_off0 _ _)) rfl rfl rfl (add_pair (s0 := s0) (m := m + 1) (hp p List.mem_cons_self).1 (hp p List.mem_cons_self).2 hs))) rfl) ih⟩

theorem new_sorter {m : Nat} {r : Loc} : ev ⟨P.globs, callF P (m + 3)⟩ (.new 0 []) r s0 = some (.ref s0.length, s0 ++ .inst 0 (at0 s0.length) :: .dict [] :: []) := by
  have hi : callF P (m + 3) 1000 [.ref s0.length] (s0 ++ [.inst 0 []]) = some (.none, s0 ++ .inst 0 (at0 s0.length) :: .dict [] :: []) := by
    apply call_no (fn := f_init_TopologicalSorter) (r := [some (.ref s0.length), some .none, .none, .none]) rfl rfl
    refine exs_c (r' := [some (.ref s0.length), some .none, .none, .none]) (s' := s0 ++ .inst 0 [(0, .ref (s0.length + 1))] :: .dict [] :: []) (ex_assign (d := .ref (s0.length + 1)) (s1 := s0 ++ .inst 0 [] :: .dict [] :: []) ?_ (by walk_at "mini")) ?_
    · show some (D.ref (s0 ++ [O.inst 0 []]).length, (s0 ++ [O.inst 0 []]) ++ [O.dict []]) = _
      rw [List.length_append, List.append_assoc]; rfl
    refine exs_c (r' := [some (.ref s0.length), some .none, .none, .none]) (s' := s0 ++ .inst 0 [(0, .ref (s0.length + 1)), (1, .none)] :: .dict [] :: []) (by walk_at "mini") ?_
    refine exs_c (r' := [some (.ref s0.length), some .none, .none, .none]) (s' := s0 ++ .inst 0 [(0, .ref (s0.length + 1)), (1, .none), (2, .int 0)] :: .dict [] :: []) (by walk_at "mini") ?_
    refine exs_c (r' := [some (.ref s0.length), some .none, .none, .none]) (s' := s0 ++ .inst 0 (at0 s0.length) :: .dict [] :: []) (by walk_at "mini") ?_
    exact exs_c (r' := [some (.ref s0.length), some .none, .none, .none]) (ife_of (t := false) rfl (fun q => nomatch q) fun _ => rfl) rfl
  exact ev_new rfl hi

theorem add_node {m : Nat} {nd : D} {i : Int} {es : List (Int × D)} {rest : Store} {x y : Option D} {l : List D} {R : Option (Fl × Loc × Store)} (h1 : dictGet i es = .none) (h2 : es.any (fun e => e.1 == i) = false) (h3 : es.length < lim)
    (k : forL (exs ⟨P.globs, callF P (m + 3)⟩ 1000 addBody) (assignT ⟨P.globs, callF P (m + 3)⟩ (.tup [.name 2, .name 3])) l [some nd, some (.ref s0.length), some (.int i), some (.list [])] (s0 ++ (.inst 0 (at0 s0.length) :: .dict (es ++ [(i, .ref (s0.length + (2 + rest.length)))]) :: (rest ++ [.inst 1 [(4, .int i), (5, .int 0), (6, .ref (s0.length + (3 + rest.length)))], .list []]))) = R) :
    forL (exs ⟨P.globs, callF P (m + 3)⟩ 1000 addBody) (assignT ⟨P.globs, callF P (m + 3)⟩ (.tup [.name 2, .name 3])) (.tup [.int i, .list []] :: l) [some nd, some (.ref s0.length), x, y] (s0 ++ .inst 0 (at0 s0.length) :: .dict es :: rest) = R :=
  forL_cons (r1 := [some nd, some (.ref s0.length), some (.int i), some (.list [])]) rfl (exs_c (ex_expr (ev_add (X := ⟨P.globs, callF P (m + 3)⟩) (L := s0.length) rfl (inst_at (get_off0 _ _)) rfl rfl rfl (add_new (s0 := s0) (m := m) (rest := rest) h1 h2 h3))) rfl) k

theorem sorter_eq {m : Nat} {ps : List (D × D)} {t' : St} {d' : Dfs} (hp : ∀ p ∈ ps, isNode p.1 ∧ isNode p.2) (he : edgesF ps st0 = some t') (hf : findF t'.prep [0, 1, 2, 3] d00 = some d') :
    callF P (m + 4) 22 [.list (four ++ ps.map pairD)] s0 = some (.ref s0.length, s0 ++ TT s0.length t'.prep (gar s0.length d')) := by
  refine el21 (add_loop (s0 := s0) (m := m) (nd := .list (four ++ ps.map pairD)) (x := some (.int 3)) (y := some (.list [])) ps hp he) fun x' y' hl => ?_
  apply call_of (fn := f_law_sorter) (r := [some (.list (four ++ ps.map pairD)), .none, .none, .none]) rfl rfl
  refine exs_c (asg_of new_sorter) (exs_c (r' := [some (.list (four ++ ps.map pairD)), some (.ref s0.length), x', y']) (s' := s0 ++ T0 s0.length t') (for_list (l := four ++ ps.map pairD) rfl ?_) ?_)
  · exact add_node (i := 0) rfl rfl (by show 0 < lim; decide) (add_node (i := 1) rfl rfl (by show 1 < lim; decide) (add_node (i := 2) rfl rfl (by show 2 < lim; decide) (add_node (i := 3) rfl rfl (by show 3 < lim; decide) hl)))
  · exact exs_c (ex_expr (ev_umeth (X := ⟨P.globs, callF P (m + 3)⟩) (x := .ref s0.length) (l := []) rfl (inst_at (get_off0 _ _)) rfl (prepare_eq (m := m + 1) hf))) (ret_of rfl)
end P02
end
section
open PySem
set_option maxRecDepth 100000
theorem ext_at {σ σ' : Store} {k : Nat} {l l' : List D} (h : σ[k]? = some (.list l)) (hl : l.length + l'.length ≤ lim) (hs : σ.set k (.list (l ++ l')) = σ') : bmeth .extend σ (.ref k) [.tup l'] = some (.none, σ') := by
  show onList σ (.ref k) _ = _
  exact onList_at h (if_pos hl) hs
theorem exs_r {X : Env'} {W : Nat} {x : S} {xs : List S} {r r' : Loc} {s s' : Store} {d : D} (h : ex X W x r s = some (.ret d, r', s')) : exs X W (x :: xs) r s = some (.ret d, r', s') := bnd h rfl
namespace P02
variable {n : Nat} {s0 g : Store} {t : St}

noncomputable def nodeB : D → Bool
  | .int i => isN i
  | _ => false
theorem node_of {d : D} (h : nodeB d = true) : isNode d := by
  unfold nodeB at h
  split at h
  · rename_i i
    unfold isN at h
    simp only [Bool.or_eq_true, beq_iff_eq] at h
    rcases h with ((rfl | rfl) | rfl) | rfl
    · exact .inl rfl
    · exact .inr (.inl rfl)
    · exact .inr (.inr (.inl rfl))
    · exact .inr (.inr (.inr rfl))
  · cases h
theorem nodes_of {l : List D} (h : l.all nodeB = true) : ∀ d ∈ l, isNode d := fun d hd => node_of (List.all_eq_true.mp h d hd)
noncomputable def okB (t : St) : Bool := t.s0.all nodeB && t.s1.all nodeB && t.s2.all nodeB && t.s3.all nodeB && decide (t.s0.length < 10) && decide (t.s1.length < 10) && decide (t.s2.length < 10) && decide (t.s3.length < 10) && decide (t.rd.length < 900)
theorem ok_of (h : okB t = true) : t.Ok ∧ t.rd.length < 900 := by
  simp only [okB, Bool.and_eq_true, decide_eq_true_eq] at h
  obtain ⟨⟨⟨⟨⟨⟨⟨⟨a, b⟩, c⟩, d⟩, e⟩, f⟩, g⟩, i⟩, j⟩ := h
  exact ⟨⟨nodes_of a, nodes_of b, nodes_of c, nodes_of d, e, f, g, i⟩, j⟩

noncomputable def doneF : List D → St → Option St
  | [], t => some t
  | x :: l, t => bif nodeB x && decide (t.getN x = -1) && okB t then doneF l (t.fin1 x) else .none
theorem done_loop {X : Env'} (hX0 : X.globs 0 = some (.int (-1))) (hX1 : X.globs 1 = some (.int (-2))) : ∀ (l : List D) {t t' : St} {a r3 r4 r5 r6 r7 : Option D}, doneF l t = some t' →
    ∃ q3 q4 q5 q6 q7, forL (exs X 1000 doneBody) (assignT X (.name 3)) l [some (.ref s0.length), a, some (.ref (s0.length + 1)), r3, r4, r5, r6, r7] (s0 ++ TT s0.length t g) = some (.next, [some (.ref s0.length), a, some (.ref (s0.length + 1)), q3, q4, q5, q6, q7], s0 ++ TT s0.length t' g)
  | [], t, t', a, r3, r4, r5, r6, r7, h => ⟨r3, r4, r5, r6, r7, by rw [← Option.some.inj h]; rfl⟩
  | x :: l, t, t', a, r3, r4, r5, r6, r7, h => cond_el h fun hc h => by
    simp only [Bool.and_eq_true, decide_eq_true_eq] at hc
    obtain ⟨⟨h1, h2⟩, h3⟩ := hc
    obtain ⟨ok, hr⟩ := ok_of h3
    obtain ⟨p4, p5, p6, p7, e⟩ := done_one (s0 := s0) (g := g) (a := a) (r4 := r4) (r5 := r5) (r6 := r6) (r7 := r7) hX0 hX1 (node_of h1) h2 ok hr
    obtain ⟨q3, q4, q5, q6, q7, ih⟩ := done_loop hX0 hX1 l (a := a) (r3 := some x) (r4 := p4) (r5 := p5) (r6 := p6) (r7 := p7) h
    exact ⟨q3, q4, q5, q6, q7, forL_cons rfl e ih⟩

theorem done_eq {l : List D} {t' : St} (hl : l.length < 1000) (h : doneF l t = some t') : callF P (n + 1) 8 (.ref s0.length :: l) (s0 ++ TT s0.length t g) = some (.none, s0 ++ TT s0.length t' g) := by
  obtain ⟨q3, q4, q5, q6, q7, hfor⟩ := done_loop (s0 := s0) (g := g) (X := ⟨P.globs, callF P n⟩) rfl rfl l (a := some (.tup l)) (r3 := .none) (r4 := .none) (r5 := .none) (r6 := .none) (r7 := .none) h
  apply call_no (fn := f_done) (r := [some (.ref s0.length), some (.tup l), .none, .none, .none, .none, .none, .none]) rfl (by
    unfold bindA
    have h1 : ¬ ((D.ref s0.length :: l).length > lim) := by rw [List.length_cons]; unfold lim; omega
    rw [if_neg h1]
    simp [f_done])
  refine exs_c (r' := [some (.ref s0.length), some (.tup l), .none, .none, .none, .none, .none, .none]) (s' := s0 ++ TT s0.length t g) (by walk_at "mini") ?_
  refine exs_c (r' := [some (.ref s0.length), some (.tup l), some (.ref (s0.length + 1)), .none, .none, .none, .none, .none]) (s' := s0 ++ TT s0.length t g) (by walk_at "mini") ?_
  exact exs_c (for_tup (l := l) rfl hfor) rfl

noncomputable def memD (x : D) (l : List D) : Bool := l.any fun d => nodeIx d == nodeIx x
theorem eqD_node {x y : D} (hx : isNode x) (hy : isNode y) : eqD deep y x = some (nodeIx y == nodeIx x) := by
  rcases hx with rfl | rfl | rfl | rfl <;> rcases hy with rfl | rfl | rfl | rfl <;> rfl
theorem eqs_node {x : D} (hx : isNode x) : ∀ (l : List D), (∀ d ∈ l, isNode d) → eqs x l = some (l.map fun d => nodeIx d == nodeIx x)
  | [], _ => rfl
  | y :: l, h => by
    exact bnd (eqD_node hx (h y List.mem_cons_self)) (bnd (eqs_node hx l fun d hd => h d (List.mem_cons_of_mem _ hd)) rfl)
theorem inL_node {x : D} (hx : isNode x) {l : List D} (h : ∀ d ∈ l, isNode d) : inL x l = some (memD x l) := by
  refine bnd (eqs_node hx l h) ?_
  rw [List.any_map]; rfl

noncomputable def ltF : List D → List D → St → Option (Option St)
  | [], _, t => some (some t)
  | x :: l, out, t => bif nodeB x && t.rd.all nodeB && out.all nodeB && decide (out.length < 900) && decide (t.rd.length < 900) then
      (bif memD x (out ++ t.rd) then (doneF [x] t.taken).bind fun t' => ltF l (out ++ t.rd) t' else some .none)
    else .none

noncomputable def TO (L : Nat) (t : St) (g : Store) (out : List D) : Store := TT L t (g ++ [.list out])
theorem to_get (L : Nat) (t : St) (g : Store) (out : List D) : (TO L t g out)[11 + g.length]? = some (.list out) := by
  have : TO L t g out = TT L t g ++ [.list out] := rfl
  have hl : (TT L t g).length = 11 + g.length := by simp [TT]; omega
  rw [this, ← hl, get_off0]; rfl
theorem to_set (L : Nat) (t : St) (g : Store) (out out' : List D) : (TO L t g out).set (11 + g.length) (.list out') = TO L t g out' := by
  have : TO L t g out = TT L t g ++ [.list out] := rfl
  have hl : (TT L t g).length = 11 + g.length := by simp [TT]; omega
  rw [this, ← hl, set_off0]; rfl

noncomputable def ltBody : List S := [.expr (.bmeth (.var 3) .extend [.umeth (.var 2) 6 []]), .ife (.cmp .NotIn (.var 4) (.var 3)) [.ret (.bool false)] [], .expr (.umeth (.var 2) 8 [.var 4])]

noncomputable def ltR (nd od : D) (L k : Nat) (x : Option D) : Loc := [some nd, some od, some (.ref L), some (.ref (L + (11 + k))), x]
noncomputable def ltFl : Option St → Fl
  | some _ => .next
  | .none => .ret (.bool false)
theorem lt_loop {m : Nat} {nd od : D} : ∀ (l out : List D) {t : St} {r : Option St} {x : Option D}, ltF l out t = some r →
    ∃ x' out' t', forL (exs ⟨P.globs, callF P (m + 1)⟩ 1000 ltBody) (assignT ⟨P.globs, callF P (m + 1)⟩ (.name 4)) l (ltR nd od s0.length g.length x) (s0 ++ TO s0.length t g out) =
      some (ltFl r, ltR nd od s0.length g.length x', s0 ++ TO s0.length t' g out') ∧ (∀ q, r = some q → t' = q)
  | [], out, t, r, x, h => ⟨x, out, t, by rw [← Option.some.inj h]; rfl, fun q e => Option.some.inj ((Option.some.inj h).trans e)⟩
  | y :: l, out, t, r, x, h => cond_el h fun hc h => by
    simp only [Bool.and_eq_true, decide_eq_true_eq] at hc
    obtain ⟨⟨⟨⟨h1, h2⟩, h3⟩, h4⟩, h5⟩ := hc
    have hg := get_ready_eq (n := m) (s0 := s0) (g := g ++ [.list out]) (nodes_of h2)
    have gt : ∀ (t : St) out, (s0 ++ TO s0.length t g out)[s0.length + (11 + g.length)]? = some (.list out) := fun t out => (get_off _ _ _).trans (to_get ..)
    have he : ev ⟨P.globs, callF P (m + 1)⟩ (.bmeth (.var 3) .extend [.umeth (.var 2) 6 []]) (ltR nd od s0.length g.length (some y)) (s0 ++ TO s0.length t g out) = some (.none, s0 ++ TO s0.length t.taken g (out ++ t.rd)) :=
      ev_bmeth (d := .ref (s0.length + (11 + g.length))) rfl (recv_at (gt t out)) (bnd (ev_umeth (X := ⟨P.globs, callF P (m + 1)⟩) (x := .ref s0.length) (l := []) rfl (inst_at (get_off0 _ _)) rfl hg) rfl) (ext_at (gt t.taken out) (by unfold lim; omega) ((set_off _ _ _ _).trans (congrArg (s0 ++ ·) (to_set ..))))
    have hnodes : ∀ d ∈ out ++ t.rd, isNode d := fun d hd => (List.mem_append.mp hd).elim (nodes_of h3 d) (nodes_of h2 d)
    have ht : test ⟨P.globs, callF P (m + 1)⟩ (.cmp .NotIn (.var 4) (.var 3)) (ltR nd od s0.length g.length (some y)) (s0 ++ TO s0.length t.taken g (out ++ t.rd)) = some (!memD y (out ++ t.rd), s0 ++ TO s0.length t.taken g (out ++ t.rd)) := by
      refine bnd (a := (.bool (!memD y (out ++ t.rd)), s0 ++ TO s0.length t.taken g (out ++ t.rd))) (bnd (a := (y, s0 ++ TO s0.length t.taken g (out ++ t.rd))) rfl (bnd (a := (.ref (s0.length + (11 + g.length)), s0 ++ TO s0.length t.taken g (out ++ t.rd))) rfl (bnd (a := !memD y (out ++ t.rd)) (bnd (a := memD y (out ++ t.rd)) ?_ rfl) rfl))) rfl
      show ((s0 ++ TO s0.length t.taken g (out ++ t.rd))[s0.length + (11 + g.length)]?).bind (inO y) = _
      rw [gt]
      exact inL_node (node_of h1) hnodes
    have h : (bif memD y (out ++ t.rd) then (doneF [y] t.taken).bind fun t' => ltF l (out ++ t.rd) t' else some .none) = some r := h
    cases hm : memD y (out ++ t.rd) with
    | true =>
      rw [hm] at h ht
      refine bd1 h fun t1 hd h => ?_
      obtain ⟨x', out', t', ih, ih2⟩ := lt_loop (m := m) (nd := nd) (od := od) (x := some y) l (out ++ t.rd) h
      have hdone := done_eq (n := m) (s0 := s0) (g := g ++ [.list (out ++ t.rd)]) (l := [y]) (show 1 < 1000 by decide) hd
      exact ⟨x', out', t', forL_cons (r1 := ltR nd od s0.length g.length (some y)) rfl (exs_c (ex_expr he) (exs_c (ife_of ht (fun q => nomatch q) fun _ => rfl) (exs_c (ex_expr (ev_umeth (X := ⟨P.globs, callF P (m + 1)⟩) (x := .ref s0.length) (l := [y]) rfl (inst_at (get_off0 _ _)) rfl hdone)) rfl))) ih, ih2⟩
    | false =>
      rw [hm] at h ht
      refine ⟨some y, out ++ t.rd, t.taken, ?_, fun q e => nomatch (Option.some.inj h).trans e⟩
      rw [← Option.some.inj h]
      exact bnd (a := (ltR nd od s0.length g.length (some y), s0 ++ TO s0.length t g out)) rfl (bnd (exs_c (ex_expr he) (exs_r (ife_of ht (fun _ => ret_of rfl) fun q => nomatch q))) rfl)

noncomputable def ltAns (t : St) (l : List D) : Option Bool := (ltF l [] t).bind fun r => match r with
  | some t' => some (!(decide (t'.f < t'.p) || !t'.rd.isEmpty))
  | .none => some false

theorem lets_eq {m : Nat} {ps : List (D × D)} {t' : St} {d' : Dfs} {l : List D} {b : Bool} (hp : ∀ p ∈ ps, isNode p.1 ∧ isNode p.2) (he : edgesF ps st0 = some t') (hf : findF t'.prep [0, 1, 2, 3] d00 = some d') (hl : ltAns t'.prep l = some b) :
    ∃ s', callF P (m + 5) 23 [.list (four ++ ps.map pairD), .list l] s0 = some (.bool b, s0 ++ s') := by
  have hc := sorter_eq (s0 := s0) (m := m) hp he hf
  refine bd1 hl fun r hr hl => ?_
  obtain ⟨x', out', t1, e, e2⟩ := lt_loop (s0 := s0) (g := gar s0.length d') (m := m + 3) (nd := .list (four ++ ps.map pairD)) (od := .list l) (x := .none) l [] hr
  refine ⟨TO s0.length t1 (gar s0.length d') out', ?_⟩
  apply call_of (fn := f_law_lets_through) (r := [some (.list (four ++ ps.map pairD)), some (.list l), .none, .none, .none]) rfl rfl
  refine exs_c (asg_of (ev_call (X := ⟨P.globs, callF P (m + 4)⟩) (l := [.list (four ++ ps.map pairD)]) rfl hc)) ?_
  refine exs_c (r' := ltR (.list (four ++ ps.map pairD)) (.list l) s0.length (gar s0.length d').length .none) (s' := s0 ++ TO s0.length t'.prep (gar s0.length d') []) (asg_of (new_at fun s => rfl)) ?_
  cases r with
  | some t2 =>
    have := e2 t2 rfl
    subst this
    rw [← Option.some.inj hl]
    have ha := is_active_eq (n := m + 3) (s0 := s0) (t := t1) (g := gar s0.length d' ++ [.list out'])
    exact exs_c (for_list (l := l) rfl e) (ret_of (bnd (ev_umeth (X := ⟨P.globs, callF P (m + 4)⟩) (x := .ref s0.length) (l := []) rfl (inst_at (get_off0 _ _)) rfl ha) (bnd (a := decide (t1.f < t1.p) || !t1.rd.isEmpty) rfl rfl)))
  | none =>
    rw [← Option.some.inj hl]
    exact exs_r (for_list (l := l) rfl e)
end P02
end
section
open PySem
set_option maxRecDepth 100000
namespace P02
variable {n : Nat} {s0 g : Store}

noncomputable def rowD (r : List Int) : D := .list (r.map .int)
noncomputable def places (r : List Int) : List Int := [0, 1, 2].filter fun k => decide (r.getD k.toNat 0 < r.getD (k.toNat + 1) 0)
noncomputable def swapAt (r : List Int) (k : Int) : List Int := r.take k.toNat ++ [r.getD (k.toNat + 1) 0, r.getD k.toNat 0] ++ r.drop (k.toNat + 2)
noncomputable def nextRows (r : List Int) : List (List Int) := (places r).map (swapAt r)
noncomputable def paths : Nat → List Int → List (List (List Int))
  | 0, r => [[r]]
  | m + 1, r => (nextRows r).flatMap fun r' => (paths m r').map (r :: ·)
noncomputable def chains : List (List (List Int)) := paths 6 [0, 1, 2, 3]
noncomputable def level : Nat → List (List Int)
  | 0 => [[0, 1, 2, 3]]
  | m + 1 => (level m).flatMap nextRows

noncomputable def rowsBody : List S := [.assign (.name 3) (.comp false (.var 6) [.mk [6] false (.e (.bi .range [.int 3])) [.cmp .Lt (.idx (.var 1) (.var 6)) (.idx (.var 1) (.bin .Add (.var 6) (.int 1)))]]), .assign (.tup [(.name 0), (.name 4)]) (.bi .divmod [.var 0, .bi .len [.var 3]]), .assign (.name 5) (.idx (.var 3) (.var 4)), .assign (.name 1) (.bin .Add (.bin .Add (.slice (.var 1) .none (some (.var 5))) (.list false [.idx (.var 1) (.bin .Add (.var 5) (.int 1)), .idx (.var 1) (.var 5)])) (.slice (.var 1) (some (.bin .Add (.var 5) (.int 2))) .none)), .expr (.bmeth (.var 2) .append [.var 1])]

noncomputable def GoodRow (r : List Int) : Prop := (∀ (X : Env') (N : Int) (a z b c : Option D) (s : Store), ex X 1000 (.assign (.name 3) (.comp false (.var 6) [.mk [6] false (.e (.bi .range [.int 3])) [.cmp .Lt (.idx (.var 1) (.var 6)) (.idx (.var 1) (.bin .Add (.var 6) (.int 1)))]])) [some (.int N), some (rowD r), a, z, b, c, .none] s = some (.next, [some (.int N), some (rowD r), a, some (rowD (places r)), b, c, .none], s)) ∧
  (0 < (places r).length ∧ (places r).length ≤ 3) ∧ (∀ k ∈ places r, ∀ (X : Env') (N : Option D) (a b c : Option D) (s : Store), ex X 1000 (.assign (.name 1) (.bin .Add (.bin .Add (.slice (.var 1) .none (some (.var 5))) (.list false [.idx (.var 1) (.bin .Add (.var 5) (.int 1)), .idx (.var 1) (.var 5)])) (.slice (.var 1) (some (.bin .Add (.var 5) (.int 2))) .none))) [N, some (rowD r), a, b, c, some (.int k), .none] s = some (.next, [N, some (rowD (swapAt r k)), a, b, c, some (.int k), .none], s)) ∧
  ∀ (X : Env') (N : Option D) (a b c d : Option D) (s : Store), test X (.cmp .NotEq (.var 1) (.list false [.int 3, .int 2, .int 1, .int 0])) [N, some (rowD r), a, b, c, d, .none] s = some (true, s)

noncomputable def firsts : List (List Int) := [[0,1,2,3],[0,1,3,2],[0,2,1,3],[0,2,3,1],[0,3,1,2],[0,3,2,1],[1,0,2,3],[1,0,3,2],[1,2,0,3],[1,2,3,0],[1,3,0,2],[1,3,2,0],[2,0,1,3],[2,0,3,1],[2,1,0,3],[2,1,3,0],[2,3,0,1],[2,3,1,0],[3,0,1,2],[3,0,2,1],[3,1,0,2],[3,1,2,0],[3,2,0,1]]
theorem good_rows : ∀ r ∈ firsts, GoodRow r := by
  unfold firsts
  repeat' (first
    | exact all_n
    | exact all_c (fun X N a b c s => rfl) all_n
    | exact all_c (fun X N a b c s => rfl) (all_c (fun X N a b c s => rfl) all_n)
    | exact all_c (fun X N a b c s => rfl) (all_c (fun X N a b c s => rfl) (all_c (fun X N a b c s => rfl) all_n))
    | refine all_c ⟨fun X N a z b c s => rfl, by decide, ?_, fun X N a b c d s => rfl⟩ ?_)

theorem last_row {X : Env'} {N a b c d : Option D} {s : Store} : test X (.cmp .NotEq (.var 1) (.list false [.int 3, .int 2, .int 1, .int 0])) [N, some (rowD [3, 2, 1, 0]), a, b, c, d, .none] s = some (false, s) := rfl

theorem fmod_lt (N : Int) {m : Nat} (h : 0 < m) : ∃ i : Nat, i < m ∧ N.fmod m = i := by
  have h1 := Int.fmod_nonneg_of_pos N (b := (m : Int)) (by omega)
  have h2 := Int.fmod_lt_of_pos N (b := (m : Int)) (by omega)
  exact ⟨(N.fmod m).toNat, by omega, by omega⟩

theorem rows_step {X : Env'} {r : List Int} (hr : GoodRow r) (N : Int) {z b c : Option D} {acc : List D} (ha : acc.length < 100) :
    ∃ k ∈ places r, ∃ M z' b', exs X 1000 rowsBody [some (.int N), some (rowD r), some (.ref s0.length), z, b, c, .none] (s0 ++ [.list acc]) = some (.next, [some (.int M), some (rowD (swapAt r k)), some (.ref s0.length), z', b', some (.int k), .none], s0 ++ [.list (acc ++ [rowD (swapAt r k)])]) := by
  obtain ⟨h1, ⟨h2, h3⟩, h4, _⟩ := hr
  obtain ⟨i, hi, hm⟩ := fmod_lt N h2
  refine ⟨(places r)[i], List.getElem_mem hi, N.fdiv (places r).length, some (rowD (places r)), some (.int i), ?_⟩
  have e2 : ex X 1000 (.assign (.tup [(.name 0), (.name 4)]) (.bi .divmod [.var 0, .bi .len [.var 3]])) [some (.int N), some (rowD r), some (.ref s0.length), some (rowD (places r)), b, c, .none] (s0 ++ [.list acc]) = some (.next, [some (.int (N.fdiv (places r).length)), some (rowD r), some (.ref s0.length), some (rowD (places r)), some (.int i), c, .none], s0 ++ [.list acc]) := by
    have hne : ((places r).length : Int) ≠ 0 := by omega
    have hsm : small ((places r).length : Int) = true := by unfold small; exact decide_eq_true (by omega)
    rw [← hm]
    refine ex_assign (d := .tup [.int (N.fdiv (places r).length), .int (N.fmod (places r).length)]) (bnd (a := ([.int N, .int ((places r).map D.int).length], s0 ++ [.list acc])) rfl ?_) rfl
    rw [List.length_map]
    exact if_pos ⟨hne, hsm⟩
  have e3 : ex X 1000 (.assign (.name 5) (.idx (.var 3) (.var 4))) [some (.int (N.fdiv (places r).length)), some (rowD r), some (.ref s0.length), some (rowD (places r)), some (.int i), c, .none] (s0 ++ [.list acc]) = some (.next, [some (.int (N.fdiv (places r).length)), some (rowD r), some (.ref s0.length), some (rowD (places r)), some (.int i), some (.int (places r)[i]), .none], s0 ++ [.list acc]) := by
    refine asg_of (bnd (a := (rowD (places r), s0 ++ [.list acc])) rfl (bnd (a := (.int i, s0 ++ [.list acc])) rfl (bnd (a := .int (places r)[i]) (bnd (a := (i : Int)) rfl ?_) rfl)))
    show itemL ((places r).map D.int) i false = _
    unfold itemL
    rw [if_pos (by omega), Int.toNat_natCast, List.getElem?_map, List.getElem?_eq_getElem hi]; rfl
  exact exs_c (h1 X N _ _ _ _ _) (exs_c e2 (exs_c e3 (exs_c (h4 _ (List.getElem_mem hi) X _ _ _ _ _) (exs_c (ex_expr (ev_bmeth rfl (recv_at (get_off0 _ _)) rfl (app_at (get_off0 _ _) (by omega) (set_off0 _ _ _)))) rfl))))

theorem level_first : ∀ j < 6, ∀ r ∈ level j, r ∈ firsts := by decide +kernel
theorem level_last : ∀ r ∈ level 6, r = [3, 2, 1, 0] := by decide +kernel
theorem level_next {j : Nat} {r : List Int} {k : Int} (hr : r ∈ level j) (hk : k ∈ places r) : swapAt r k ∈ level (j + 1) :=
  List.mem_flatMap.mpr ⟨r, hr, List.mem_map.mpr ⟨k, hk, rfl⟩⟩

theorem rows_loop {X : Env'} : ∀ (q m j : Nat) {r : List Int} (N : Int) {z b c : Option D} {acc : List D}, j + q = 6 → q < m → r ∈ level j → acc.length + q < 100 →
    ∃ p, (r :: p) ∈ paths q r ∧ ∃ M R z' b' c', whileL (test X (.cmp .NotEq (.var 1) (.list false [.int 3, .int 2, .int 1, .int 0]))) (exs X 1000 rowsBody) (exs X 1000 []) m [some (.int N), some (rowD r), some (.ref s0.length), z, b, c, .none] (s0 ++ [.list acc]) = some (.next, [some (.int M), some (rowD R), some (.ref s0.length), z', b', c', .none], s0 ++ [.list (acc ++ p.map rowD)])
  | q, 0, j, r, N, z, b, c, acc, h1, h2, h3, h4 => by omega
  | 0, m + 1, j, r, N, z, b, c, acc, h1, h2, h3, h4 => by
    have : j = 6 := by omega
    subst this
    have := level_last r h3
    subst this
    refine ⟨[], List.mem_singleton.mpr rfl, N, [3, 2, 1, 0], z, b, c, ?_⟩
    rw [List.map_nil, List.append_nil]; exact bnd last_row rfl
  | q + 1, m + 1, j, r, N, z, b, c, acc, h1, h2, h3, h4 => by
    have hg := good_rows r (level_first j (by omega) r h3)
    obtain ⟨k, hk, M, z', b', e⟩ := rows_step (X := X) (s0 := s0) hg N (z := z) (b := b) (c := c) (acc := acc) (by omega)
    obtain ⟨p, hp, M2, R, z2, b2, c2, ih⟩ := rows_loop (X := X) q m (j + 1) (r := swapAt r k) M (z := z') (b := b') (c := some (.int k)) (acc := acc ++ [rowD (swapAt r k)]) (by omega) (by omega) (level_next h3 hk) (by simp; omega)
    refine ⟨swapAt r k :: p, ?_, M2, R, z2, b2, c2, ?_⟩
    · exact List.mem_flatMap.mpr ⟨swapAt r k, List.mem_map.mpr ⟨k, hk, rfl⟩, List.mem_map.mpr ⟨_, hp, rfl⟩⟩
    · have ht := hg.2.2.2 X (some (.int N)) (some (.ref s0.length)) z b c (s0 ++ [.list acc])
      rw [List.append_assoc] at ih
      exact bnd ht (bnd e ih)

theorem rows_eq {m : Nat} (N : Int) : ∃ ch ∈ chains, callF P (m + 1) 21 [.int N] s0 = some (.list (ch.map rowD), s0 ++ [.dead]) := by
  obtain ⟨p, hp, M, R, z', b', c', e⟩ := rows_loop (s0 := s0) (X := ⟨P.globs, callF P m⟩) 6 1000 0 (r := [0, 1, 2, 3]) N (z := .none) (b := .none) (c := .none) (acc := [rowD [0, 1, 2, 3]]) rfl (by omega) (List.mem_singleton.mpr rfl) (show 1 + 6 < 100 by decide)
  refine ⟨_, hp, ?_⟩
  apply call_of (fn := f_law_rows) (r := [some (.int N), .none, .none, .none, .none, .none, .none]) rfl rfl
  refine exs_c (r' := [some (.int N), some (rowD [0, 1, 2, 3]), .none, .none, .none, .none, .none]) (s' := s0) rfl ?_
  refine exs_c (r' := [some (.int N), some (rowD [0, 1, 2, 3]), some (.ref s0.length), .none, .none, .none, .none]) (s' := s0 ++ [.list [rowD [0, 1, 2, 3]]]) rfl ?_
  refine exs_c e ?_
  refine exs_c (r' := [some (.int M), some (rowD R), some (.list (([0, 1, 2, 3] :: p).map rowD)), z', b', c', .none]) (s' := s0 ++ [.dead]) ?_ (ret_of rfl)
  show (((s0 ++ [O.list ([rowD [0, 1, 2, 3]] ++ List.map rowD p)])[s0.length]?).bind oList).bind (fun l => some (Fl.next, [some (.int M), some (rowD R), some (.list l), z', b', c', .none], (s0 ++ [O.list ([rowD [0, 1, 2, 3]] ++ List.map rowD p)]).set s0.length .dead)) = _
  rw [set_off0, get_off0]; rfl
end P02
end
section
open PySem PySem.W PyProof.Rows
set_option maxRecDepth 100000
namespace P02
variable {n : Nat} {s0 g : Store}

noncomputable def perms : List (List Int) := firsts ++ [[3, 2, 1, 0]]
noncomputable def ord : D := .list (perms.map rowD)
theorem orders_eq {m : Nat} : callF P (m + 5) 20 [rowD [0, 1, 2, 3]] s0 = some (ord, s0) := by kernel_rfl

section
variable {X : Env'} {r : Loc} {s : Store}
theorem over_pure {f : D → Store → Option (List D × Store)} {g : D → List D} : ∀ {l : List D}, (∀ d ∈ l, f d s = some (g d, s)) → overL f l s = some (l.flatMap g, s)
  | [], _ => rfl
  | d :: l, h => over_c (h d List.mem_cons_self) (over_pure (l := l) fun x hx => h x (List.mem_cons_of_mem _ hx))
theorem over_grow {f : D → Store → Option (List D × Store)} {g : D → List D} : ∀ {l : List D} {s : Store}, (∀ d ∈ l, ∀ s, ∃ s', f d s = some (g d, s ++ s')) → ∃ s', overL f l s = some (l.flatMap g, s ++ s')
  | [], s, _ => ⟨[], by rw [List.append_nil]; rfl⟩
  | d :: l, s, h => Exists.elim (h d List.mem_cons_self s) fun s1 h1 => Exists.elim (over_grow (l := l) (s := s ++ s1) fun x hx => h x (List.mem_cons_of_mem _ hx)) fun s2 h2 => ⟨s1 ++ s2, by rw [← List.append_assoc]; exact over_c h1 h2⟩
noncomputable def stepG (X : Env') (t : Nat) (ifs : List E) (gs : List G) (fe : Loc → Store → Option (D × Store)) (r : Loc) (d : D) (s : Store) : Option (List D × Store) := (evc X ifs (r.set t (some d)) s).bind fun a => bif a.1 then evg X gs fe (r.set t (some d)) a.2 else some ([], a.2)
noncomputable def seqOf : D → Option (List D) := treeOf
theorem evg_e {t : Nat} {e : E} {ifs : List E} {gs : List G} {fe : Loc → Store → Option (D × Store)} {d : D} {l : List D} {s1 : Store} {q : List D × Store} (he : ev X e r s = some (d, s1)) (hd : seqOf d = some l) (h : overL (stepG X t ifs gs fe r) l s1 = some q) :
    evg X (.mk [t] false (.e e) ifs :: gs) fe r s = some (q.1, q.2) := bnd (a := (l, s1, .none)) (bnd he (bnd hd rfl)) (bnd h rfl)
theorem evg_pure {t : Nat} {e : E} {ifs : List E} {gs : List G} {fe : Loc → Store → Option (D × Store)} {d : D} {l : List D} {s1 : Store} {g : D → List D} (he : ev X e r s = some (d, s1)) (hd : seqOf d = some l) (h : ∀ d ∈ l, stepG X t ifs gs fe r d s1 = some (g d, s1)) :
    evg X (.mk [t] false (.e e) ifs :: gs) fe r s = some (l.flatMap g, s1) := evg_e he hd (over_pure h)
theorem evg_nil {fe : Loc → Store → Option (D × Store)} {d : D} {s1 : Store} (h : fe r s = some (d, s1)) : evg X [] fe r s = some ([d], s1) := bnd h rfl
theorem ev_comp {elt : E} {gens : List G} {l : List D} {s1 : Store} (h : evg X gens (ev X elt) r s = some (l, s1)) (hl : l.length ≤ lim) : ev X (.comp false elt gens) r s = some (.list l, s1) := bnd h (bnd (show mkL l = some (.list l) from if_pos hl) rfl)
theorem ev_compM {elt : E} {gens : List G} {l : List D} {s1 : Store} (h : evg X gens (ev X elt) r s = some (l, s1)) (hl : l.length ≤ lim) : ev X (.comp true elt gens) r s = some (.ref s1.length, s1 ++ [.list l]) := bnd h (bnd (show mkL l = some (.list l) from if_pos hl) rfl)
theorem ev_idx {o i : E} {x y d : D} {s1 s2 : Store} (h1 : ev X o r s = some (x, s1)) (h2 : ev X i r s1 = some (y, s2)) (h3 : getItem s2 x y = some d) : ev X (.idx o i) r s = some (d, s2) := bnd h1 (bnd h2 (bnd h3 rfl))
theorem ev_cmp {o i : E} {op : CmpOp} {x y : D} {b : Bool} {s1 s2 : Store} (h1 : ev X o r s = some (x, s1)) (h2 : ev X i r s1 = some (y, s2)) (h3 : cmpOp s2 op x y = some b) : ev X (.cmp op o i) r s = some (.bool b, s2) := bnd h1 (bnd h2 (bnd h3 rfl))
theorem ev_bin {o i : E} {op : Operator} {x y d : D} {s1 s2 : Store} (h1 : ev X o r s = some (x, s1)) (h2 : ev X i r s1 = some (y, s2)) (h3 : binOp op x y = some d) : ev X (.bin op o i) r s = some (d, s2) := bnd h1 (bnd h2 (bnd h3 rfl))
theorem evc_one {c : E} {b : Bool} {s1 : Store} (h : ev X c r s = some (.bool b, s1)) : evc X [c] r s = some (b, s1) := evc1 h
theorem step_nil {t : Nat} {gs : List G} {fe : Loc → Store → Option (D × Store)} {d : D} {q : List D} {s1 : Store} (h : evg X gs fe (r.set t (some d)) s = some (q, s1)) : stepG X t [] gs fe r d s = some (q, s1) := bnd (a := (true, s)) rfl h
theorem step_if {t : Nat} {c : E} {gs : List G} {fe : Loc → Store → Option (D × Store)} {d : D} {b : Bool} {q : List D} (hc : ev X c (r.set t (some d)) s = some (.bool b, s)) (h : evg X gs fe (r.set t (some d)) s = some (q, s)) : stepG X t [c] gs fe r d s = some (if b then q else [], s) :=
  bnd (evc1 hc) (by
    cases b
    · rfl
    · exact h)
theorem ev_var {i : Nat} {d : D} (h : r[i]? = some (some d)) : ev X (.var i) r s = some (d, s) := bnd (bnd (f := id) h rfl) rfl
end

noncomputable def LR (a0 a1 a2 a3 a4 a5 a6 a7 a8 a9 a10 a11 a12 a13 a14 a15 : Option D) : Loc := [a0, a1, a2, a3, a4, a5, a6, a7, a8, a9, a10, a11, a12, a13, a14, a15, .none, .none, .none, .none, .none, .none, .none, .none, .none, .none, .none, .none, .none, .none]

noncomputable def numOf (xs : List Int) : Int := xs.foldl (fun k x => k * 61 + x) 7
theorem num_loop {X : Env'} {s : Store} {a3 a4 a5 a6 a7 a8 a9 a10 a11 a12 a13 a14 a15 : Option D} {a0 : Option D} : ∀ (xs : List Int) (k : Int) (a2 : Option D), ∃ a2', forL (exs X 1000 [.assign (.name 1) (.bin .Add (.bin .Mult (.var 1) (.int 61)) (.var 2))]) (assignT X (.name 2)) (xs.map .int) (LR a0 (some (.int k)) a2 a3 a4 a5 a6 a7 a8 a9 a10 a11 a12 a13 a14 a15) s = some (.next, LR a0 (some (.int (xs.foldl (fun k x => k * 61 + x) k))) a2' a3 a4 a5 a6 a7 a8 a9 a10 a11 a12 a13 a14 a15, s)
  | [], k, a2 => ⟨a2, rfl⟩
  | x :: xs, k, a2 => Exists.elim (num_loop (X := X) xs (k * 61 + x) (some (.int x))) fun a2' ih => ⟨a2', by
    have hm : binOp .Mult (.int k) (.int 61) = some (.int (k * 61)) := by
      show (if small k || small 61 then some (D.int (k * 61)) else .none) = _
      rw [if_pos (by simp [show small 61 = true from rfl])]
    exact forL_cons (r1 := LR a0 (some (.int k)) (some (.int x)) a3 a4 a5 a6 a7 a8 a9 a10 a11 a12 a13 a14 a15) rfl (exs_c (asg_of (ev_bin (ev_bin (x := .int k) (y := .int 61) rfl rfl hm) (y := .int x) rfl rfl)) rfl) ih⟩

theorem flat_int (f : Int → D) : ∀ (xs : List Int), (xs.map D.int).flatMap (fun d => match d with | .int x => [f x] | _ => []) = xs.map f
  | [] => rfl
  | x :: xs => by rw [List.map_cons, List.flatMap_cons, flat_int f xs]; rfl
noncomputable def tmsOf (xs : List Int) : List Int := if xs.isEmpty then [1, 3, 4] else xs.map fun x => x.fmod 7
theorem times_eq {X : Env'} {s : Store} {xs : List Int} (hx : xs.length ≤ 63) {v : Nat} {r : Loc} (h0 : r[0]? = some (some (.list (xs.map .int)))) (hv : v < r.length) :
    ev X (.or (.comp false (.bin .Mod (.var v) (.int 7)) [.mk [v] false (.e (.var 0)) []]) (.list false [.int 1, .int 3, .int 4])) r s = some (.list ((tmsOf xs).map .int), s) := by
  have hc : ev X (.comp false (.bin .Mod (.var v) (.int 7)) [.mk [v] false (.e (.var 0)) []]) r s = some (.list (xs.map fun x => .int (x.fmod 7)), s) := by
    have hg : evg X [.mk [v] false (.e (.var 0)) []] (ev X (.bin .Mod (.var v) (.int 7))) r s = some ((xs.map D.int).flatMap (fun d => match d with | .int x => [.int (x.fmod 7)] | _ => []), s) := by
      refine evg_pure (d := .list (xs.map .int)) (ev_var h0) rfl fun d hd => ?_
      obtain ⟨x, _, rfl⟩ := List.mem_map.mp hd
      refine step_nil (evg_nil ?_)
      exact ev_bin (ev_var (List.getElem?_set_self hv)) rfl rfl
    have he := flat_int (fun x => D.int (x.fmod 7)) xs
    rw [he] at hg
    exact ev_comp hg (by simp [lim]; omega)
  refine bnd hc ?_
  cases xs with
  | nil => rfl
  | cons x xs =>
    show some (D.list ((x :: xs).map fun x => .int (x.fmod 7)), s) = _
    unfold tmsOf
    rw [if_neg (by simp), List.map_map]; rfl
end P02
end
section
open PySem
set_option maxRecDepth 100000
namespace P02
variable {n : Nat} {s0 g : Store} {X : Env'} {r : Loc} {s : Store}

theorem evs1 {a : E} {x : D} {s1 : Store} (h : ev X a r s = some (x, s1)) (hs : ∀ e, a ≠ .star e) : evs X [a] r s = some ([x], s1) := by
  cases a <;> first | exact bnd h rfl | exact absurd rfl (hs _)
noncomputable def pos (r : List Int) (a : Int) : Nat := r.idxOf a
noncomputable def four4 : List Int := [0, 1, 2, 3]
theorem index_ok : ∀ r ∈ perms, ∀ a ∈ four4, indexL (.int a) (r.map .int) = some (pos r a) := by decide +kernel
theorem chain_ok : ∀ ch ∈ chains, ch.length = 7 ∧ ∀ r ∈ ch, r ∈ perms := by decide +kernel
noncomputable def rowAt (ch : List (List Int)) (t : Int) : List Int := ch.getD t.toNat []
noncomputable def bef (ch : List (List Int)) (a b t : Int) : Bool := decide (pos (rowAt ch t) a < pos (rowAt ch t) b)
noncomputable def Mc (ch : List (List Int)) (tms : List Int) (a b : Int) : Int := ((tms.filter (bef ch a b)).length : Int)

theorem rowAt_mem {ch : List (List Int)} (hc : ch ∈ chains) {t : Int} (ht : 0 ≤ t ∧ t < 7) : rowAt ch t ∈ perms ∧ (ch.map rowD)[t.toNat]? = some (rowD (rowAt ch t)) := by
  obtain ⟨h1, h2⟩ := chain_ok ch hc
  have hl : t.toNat < ch.length := by omega
  have : rowAt ch t = ch[t.toNat] := by unfold rowAt; rw [List.getD_eq_getElem?_getD, List.getElem?_eq_getElem hl]; rfl
  rw [this]
  exact ⟨h2 _ (List.getElem_mem hl), by rw [List.getElem?_map, List.getElem?_eq_getElem hl]; rfl⟩

theorem ev_index {ch : List (List Int)} (hc : ch ∈ chains) {t a : Int} (ht : 0 ≤ t ∧ t < 7) (ha : a ∈ four4) {v w : Nat} (h3 : r[3]? = some (some (.list (ch.map rowD)))) (hv : r[v]? = some (some (.int t))) (hw : r[w]? = some (some (.int a))) :
    ev X (.bmeth (.idx (.var 3) (.var v)) .index [.var w]) r s = some (.int (pos (rowAt ch t) a), s) := by
  obtain ⟨m1, m2⟩ := rowAt_mem hc ht
  have e1 : ev X (.idx (.var 3) (.var v)) r s = some (rowD (rowAt ch t), s) := ev_idx (x := .list (ch.map rowD)) (y := .int t) (ev_var h3) (ev_var hv) (by show itemL (ch.map rowD) t false = _; unfold itemL; rw [if_pos ht.1]; exact m2)
  refine ev_bmeth e1 rfl (bnd (a := (.int a, s)) (ev_var hw) rfl) ?_
  show (indexL (.int a) ((rowAt ch t).map .int)).bind _ = _
  rw [index_ok _ m1 a ha]; rfl

theorem flat_filter (p : Int → Bool) : ∀ (xs : List Int), (xs.map D.int).flatMap (fun d => match d with | .int x => if p x then [D.int x] else [] | _ => []) = (xs.filter p).map .int
  | [] => rfl
  | x :: xs => by
    rw [List.map_cons, List.flatMap_cons, flat_filter p xs, List.filter_cons]
    cases h : p x <;> simp [h]

theorem inner_times {ch : List (List Int)} (hc : ch ∈ chains) {tms : List Int} (htm : ∀ t ∈ tms, 0 ≤ t ∧ t < 7) (hlen : tms.length ≤ 100) {a b : Int} (ha : a ∈ four4) (hb : b ∈ four4)
    (h3 : r[3]? = some (some (.list (ch.map rowD)))) (h4 : r[4]? = some (some (.list (tms.map .int)))) (h6 : r[6]? = some (some (.int a))) (h17 : r[17]? = some (some (.int b))) (hr : 18 < r.length) :
    ev X (.bi .len [.comp false (.var 18) [.mk [18] false (.e (.var 4)) [.cmp .Lt (.bmeth (.idx (.var 3) (.var 18)) .index [.var 6]) (.bmeth (.idx (.var 3) (.var 18)) .index [.var 17])]]]) r s = some (.int (Mc ch tms a b), s) := by
  have hg : evg X [.mk [18] false (.e (.var 4)) [.cmp .Lt (.bmeth (.idx (.var 3) (.var 18)) .index [.var 6]) (.bmeth (.idx (.var 3) (.var 18)) .index [.var 17])]] (ev X (.var 18)) r s = some ((tms.map D.int).flatMap (fun d => match d with | .int x => if bef ch a b x then [.int x] else [] | _ => []), s) := by
    refine evg_pure (d := .list (tms.map .int)) (ev_var h4) rfl fun d hd => ?_
    obtain ⟨t, ht, rfl⟩ := List.mem_map.mp hd
    have q18 : (r.set 18 (some (.int t)))[18]? = some (some (.int t)) := List.getElem?_set_self hr
    have q3 : (r.set 18 (some (.int t)))[3]? = some (some (.list (ch.map rowD))) := by rw [List.getElem?_set_ne (by decide)]; exact h3
    have q6 : (r.set 18 (some (.int t)))[6]? = some (some (.int a)) := by rw [List.getElem?_set_ne (by decide)]; exact h6
    have q17 : (r.set 18 (some (.int t)))[17]? = some (some (.int b)) := by rw [List.getElem?_set_ne (by decide)]; exact h17
    refine step_if (b := bef ch a b t) (ev_cmp (ev_index hc (htm t ht) ha q3 q18 q6) (ev_index hc (htm t ht) hb q3 q18 q17) ?_) (evg_nil (ev_var q18))
    unfold bef
    exact congrArg some (decide_eq_decide.mpr (by omega))
  rw [flat_filter] at hg
  have hf : (tms.filter (bef ch a b)).length ≤ tms.length := List.length_filter_le ..
  refine bnd (a := ([.list ((tms.filter (bef ch a b)).map .int)], s)) (bnd (ev_comp hg (by rw [List.length_map]; unfold lim; omega)) rfl) ?_
  show some (D.int (((tms.filter (bef ch a b)).map D.int).length : Nat), s) = _
  rw [List.length_map]; rfl

noncomputable def rowM (mm : Int → Int → Int) (a : Int) : D := .list (four4.map fun b => .int (mm a b))
noncomputable def moreD (mm : Int → Int → Int) : D := .list (four4.map (rowM mm))

theorem row_more {ch : List (List Int)} (hc : ch ∈ chains) {tms : List Int} (htm : ∀ t ∈ tms, 0 ≤ t ∧ t < 7) (hlen : tms.length ≤ 100) {a : Int} (ha : a ∈ four4)
    (h3 : r[3]? = some (some (.list (ch.map rowD)))) (h4 : r[4]? = some (some (.list (tms.map .int)))) (h6 : r[6]? = some (some (.int a))) (hr : 18 < r.length) :
    ev X (.comp false (.bi .len [.comp false (.var 18) [.mk [18] false (.e (.var 4)) [.cmp .Lt (.bmeth (.idx (.var 3) (.var 18)) .index [.var 6]) (.bmeth (.idx (.var 3) (.var 18)) .index [.var 17])]]]) [.mk [17] false (.e (.bi .range [.int 4])) []]) r s = some (rowM (Mc ch tms) a, s) := by
  have hg : evg X [.mk [17] false (.e (.bi .range [.int 4])) []] (ev X (.bi .len [.comp false (.var 18) [.mk [18] false (.e (.var 4)) [.cmp .Lt (.bmeth (.idx (.var 3) (.var 18)) .index [.var 6]) (.bmeth (.idx (.var 3) (.var 18)) .index [.var 17])]]])) r s = some ((four4.map D.int).flatMap (fun d => match d with | .int x => [.int (Mc ch tms a x)] | _ => []), s) := by
    refine evg_pure (d := .rng 0 4) rfl rfl fun d hd => ?_
    have hd' : d ∈ four4.map D.int := hd
    obtain ⟨b, hb, rfl⟩ := List.mem_map.mp hd'
    refine step_nil (evg_nil (inner_times hc htm hlen ha hb ?_ ?_ ?_ ?_ (by simpa using hr)))
    · rw [List.getElem?_set_ne (by decide)]; exact h3
    · rw [List.getElem?_set_ne (by decide)]; exact h4
    · rw [List.getElem?_set_ne (by decide)]; exact h6
    · exact List.getElem?_set_self (by omega)
  have hg2 := hg.trans (congrArg (fun l => some (l, s)) (flat_int (fun x => D.int (Mc ch tms a x)) four4))
  exact ev_comp hg2 (by simp [four4, lim])

noncomputable def moreBody : List S := [.expr (.bmeth (.var 5) .append [.comp false (.bi .len [.comp false (.var 18) [.mk [18] false (.e (.var 4)) [.cmp .Lt (.bmeth (.idx (.var 3) (.var 18)) .index [.var 6]) (.bmeth (.idx (.var 3) (.var 18)) .index [.var 17])]]]) [.mk [17] false (.e (.bi .range [.int 4])) []]])]

theorem app_var {e : E} {x : D} {acc : List D} (h5 : r[5]? = some (some (.ref s0.length))) (h1 : ev X e r (s0 ++ [.list acc]) = some (x, s0 ++ [.list acc])) (hs : ∀ q, e ≠ .star q) (hl : acc.length < 1000) : exs X 1000 [.expr (.bmeth (.var 5) .append [e])] r (s0 ++ [.list acc]) = some (.next, r, s0 ++ [.list (acc ++ [x])]) := by
  have hg : (s0 ++ [O.list acc])[s0.length]? = some (.list acc) := get_off0 s0 [.list acc]
  have hm : bmeth .append (s0 ++ [O.list acc]) (.ref s0.length) [x] = some (.none, s0 ++ [.list (acc ++ [x])]) := app_at hg hl (set_off0 s0 [.list acc] _)
  have hr : recvOk .append (s0 ++ [O.list acc]) (.ref s0.length) = true := recv_at hg
  have he := ev_bmeth (m := .append) (ev_var (X := X) (s := s0 ++ [O.list acc]) h5) hr (evs1 h1 hs) hm
  exact exs_c (ex_expr he) rfl

theorem more_loop {ch : List (List Int)} (hc : ch ∈ chains) {tms : List Int} (htm : ∀ t ∈ tms, 0 ≤ t ∧ t < 7) (hlen : tms.length ≤ 100) {a0 a1 a2 : Option D} : ∀ (l : List Int) (acc : List D) (a6 : Option D), (∀ a ∈ l, a ∈ four4) → acc.length + l.length < 100 →
    ∃ a6', forL (exs X 1000 moreBody) (assignT X (.name 6)) (l.map .int) (LR a0 a1 a2 (some (.list (ch.map rowD))) (some (.list (tms.map .int))) (some (.ref s0.length)) a6 .none .none .none .none .none .none .none .none .none) (s0 ++ [.list acc]) =
      some (.next, LR a0 a1 a2 (some (.list (ch.map rowD))) (some (.list (tms.map .int))) (some (.ref s0.length)) a6' .none .none .none .none .none .none .none .none .none, s0 ++ [.list (acc ++ l.map (rowM (Mc ch tms)))])
  | [], acc, a6, _, _ => ⟨a6, by rw [show acc ++ List.map (rowM (Mc ch tms)) [] = acc from List.append_nil _]; rfl⟩
  | a :: l, acc, a6, ha, hl => by
    obtain ⟨a6', ih⟩ := more_loop hc htm hlen (a0 := a0) (a1 := a1) (a2 := a2) l (acc ++ [rowM (Mc ch tms) a]) (some (.int a)) (fun b hb => ha b (List.mem_cons_of_mem _ hb)) (by simp at hl ⊢; omega)
    rw [List.append_assoc] at ih
    have h1 := row_more (X := X) (s := s0 ++ [.list acc]) (r := LR a0 a1 a2 (some (.list (ch.map rowD))) (some (.list (tms.map .int))) (some (.ref s0.length)) (some (.int a)) .none .none .none .none .none .none .none .none .none) hc htm hlen (ha a List.mem_cons_self) rfl rfl rfl (by show 18 < 30; decide)
    generalize hr : LR a0 a1 a2 (some (.list (ch.map rowD))) (some (.list (tms.map .int))) (some (.ref s0.length)) (some (.int a)) .none .none .none .none .none .none .none .none .none = r at h1 ih
    have h5 : r[5]? = some (some (.ref s0.length)) := by rw [← hr]; rfl
    have e : exs X 1000 moreBody r (s0 ++ [.list acc]) = some (.next, r, s0 ++ [.list (acc ++ [rowM (Mc ch tms) a])]) := by
      unfold moreBody
      exact app_var h5 h1 (fun _ q => nomatch q) (by rw [List.length_cons] at hl; omega)
    exact ⟨a6', forL_cons (r1 := r) (by rw [← hr]; rfl) e ih⟩

noncomputable def psOf (mm : Int → Int → Int) : List (D × D) := four4.flatMap fun a => four4.flatMap fun b => if mm b a < mm a b then [(.int a, .int b)] else []
theorem get_row (mm : Int → Int → Int) {a : Int} (ha : a ∈ four4) : getItem s (moreD mm) (.int a) = some (rowM mm a) := by
  simp only [four4, List.mem_cons, List.not_mem_nil, or_false] at ha
  rcases ha with rfl | rfl | rfl | rfl <;> rfl
theorem get_cell (mm : Int → Int → Int) (a : Int) {b : Int} (hb : b ∈ four4) : getItem s (rowM mm a) (.int b) = some (.int (mm a b)) := by
  simp only [four4, List.mem_cons, List.not_mem_nil, or_false] at hb
  rcases hb with rfl | rfl | rfl | rfl <;> rfl
theorem ev_cell {mm : Int → Int → Int} {v w : Nat} {a b : Int} (h5 : r[5]? = some (some (moreD mm))) (hv : r[v]? = some (some (.int a))) (hw : r[w]? = some (some (.int b))) (ha : a ∈ four4) (hb : b ∈ four4) : ev X (.idx (.idx (.var 5) (.var v)) (.var w)) r s = some (.int (mm a b), s) :=
  ev_idx (ev_idx (x := moreD mm) (ev_var h5) (ev_var hv) (get_row mm ha)) (ev_var hw) (get_cell mm a hb)

theorem flat_len {α β : Type} {k : Nat} {f : α → List β} : ∀ {l : List α}, (∀ a ∈ l, (f a).length ≤ k) → (l.flatMap f).length ≤ l.length * k
  | [], _ => Nat.zero_le _
  | a :: l, h => by
    rw [List.flatMap_cons, List.length_append, List.length_cons, Nat.succ_mul, Nat.add_comm]
    exact Nat.add_le_add (flat_len fun b hb => h b (List.mem_cons_of_mem _ hb)) (h a List.mem_cons_self)
theorem one_le {α : Type} (c : Prop) [Decidable c] (x : α) : (if c then [x] else []).length ≤ 1 := by
  split
  · exact Nat.le_refl 1
  · exact Nat.zero_le 1
theorem ps_len16 (c : Int → Int → Prop) [∀ a b, Decidable (c a b)] : (four4.flatMap fun a => four4.flatMap fun b => if c a b then [(D.int a, D.int b)] else []).length ≤ 16 :=
  flat_len (k := 4) fun a _ => flat_len (k := 1) fun b _ => one_le _ _
theorem needs_comp {mm : Int → Int → Int} (h5 : r[5]? = some (some (moreD mm))) (hr : 21 < r.length) :
    ev X (.comp false (.tup [.var 21, .list false [.var 20]]) [.mk [20] false (.e (.bi .range [.int 4])) [], .mk [21] false (.e (.bi .range [.int 4])) [.cmp .Gt (.idx (.idx (.var 5) (.var 20)) (.var 21)) (.idx (.idx (.var 5) (.var 21)) (.var 20))]]) r s = some (.list ((psOf mm).map pairD), s) := by
  have hg : evg X [.mk [20] false (.e (.bi .range [.int 4])) [], .mk [21] false (.e (.bi .range [.int 4])) [.cmp .Gt (.idx (.idx (.var 5) (.var 20)) (.var 21)) (.idx (.idx (.var 5) (.var 21)) (.var 20))]] (ev X (.tup [.var 21, .list false [.var 20]])) r s =
      some ((four4.map D.int).flatMap (fun d => match d with | .int a => (four4.map D.int).flatMap (fun e => match e with | .int b => if decide (mm b a < mm a b) then [pairD (.int a, .int b)] else [] | _ => []) | _ => []), s) := by
    refine evg_pure (d := .rng 0 4) rfl rfl fun d hd => ?_
    have hd' : d ∈ four4.map D.int := hd
    obtain ⟨a, ha, rfl⟩ := List.mem_map.mp hd'
    refine step_nil (evg_pure (d := .rng 0 4) rfl rfl fun e he => ?_)
    have he' : e ∈ four4.map D.int := he
    obtain ⟨b, hb, rfl⟩ := List.mem_map.mp he'
    have q21 : ((r.set 20 (some (.int a))).set 21 (some (.int b)))[21]? = some (some (.int b)) := List.getElem?_set_self (by simpa using hr)
    have q20 : ((r.set 20 (some (.int a))).set 21 (some (.int b)))[20]? = some (some (.int a)) := by rw [List.getElem?_set_ne (by decide)]; exact List.getElem?_set_self (by omega)
    have q5 : ((r.set 20 (some (.int a))).set 21 (some (.int b)))[5]? = some (some (moreD mm)) := by rw [List.getElem?_set_ne (by decide), List.getElem?_set_ne (by decide)]; exact h5
    refine step_if (b := decide (mm b a < mm a b)) (ev_cmp (ev_cell q5 q20 q21 ha hb) (ev_cell q5 q21 q20 hb ha) rfl) (evg_nil ?_)
    have hl1 : ev X (.list false [.var 20]) ((r.set 20 (some (.int a))).set 21 (some (.int b))) s = some (.list [.int a], s) := by
      exact bnd (a := ([.int a], s)) (bnd (ev_var q20) rfl) rfl
    exact bnd (a := ([.int b, .list [.int a]], s)) (bnd (ev_var q21) (bnd (a := ([.list [.int a]], s)) (bnd hl1 rfl) rfl)) rfl
  have e : ((four4.map D.int).flatMap (fun d => match d with | .int a => (four4.map D.int).flatMap (fun e => match e with | .int b => if decide (mm b a < mm a b) then [pairD (.int a, .int b)] else [] | _ => []) | _ => [])) = (psOf mm).map pairD := by
    simp only [psOf, four4, List.map_cons, List.map_nil, List.flatMap_cons, List.flatMap_nil, List.append_nil, List.map_append, decide_eq_true_eq]
    have : ∀ (c : Prop) [Decidable c] (x : D × D), (if c then [x] else []).map pairD = if c then [pairD x] else [] := fun c _ x => by split <;> rfl
    simp only [this]
  rw [e] at hg
  refine ev_comp hg ?_
  have := ps_len16 (fun a b => mm b a < mm a b)
  unfold psOf
  rw [List.length_map]; unfold lim; omega
end P02
end
section
open PySem
set_option maxRecDepth 100000
namespace P02
variable {n : Nat} {s0 g : Store} {X : Env'} {r : Loc} {s : Store}

theorem sum_at {l : List D} {is : List Int} (h : asInts l = some is) : bltin .sum s [.list l] = some (.int is.sum, s) := by
  show ((asInts l).bind fun is => some (D.int is.sum, s)) = _
  rw [h]; rfl
theorem min_at {l : List D} {is : List Int} {i : Int} (h : asInts l = some is) (hm : minL is = some i) : bltin .min s [.list l] = some (.int i, s) := by
  show ((asInts l).bind fun is => (minL is).bind fun i => some (D.int i, s)) = _
  rw [h, Option.bind_some, hm]; rfl
theorem eqL_ints (m : Nat) : ∀ (a b : List Int), a.length = b.length → eqL (eqD (m + 1)) (a.map .int) (b.map .int) = some (decide (a = b))
  | [], [], _ => rfl
  | x :: a, y :: b, h => by
    show ((eqD (m + 1) (.int x) (.int y)).bind fun u => (eqL (eqD (m + 1)) (a.map .int) (b.map .int)).bind fun v => some (u && v)) = _
    rw [eqL_ints m a b (Nat.succ.inj h)]
    show some ((x == y) && decide (a = b)) = _
    by_cases hx : x = y <;> by_cases ha : a = b <;> simp [hx, ha]
theorem eq_row (m : Nat) (a b : List Int) : eqD (m + 2) (rowD a) (rowD b) = some (decide (a = b)) := by
  show (if (a.map D.int).length == (b.map D.int).length then eqL (eqD (m + 1)) (a.map .int) (b.map .int) else some false) = _
  rw [List.length_map, List.length_map]
  by_cases h : a.length = b.length
  · rw [if_pos (by simpa using h), eqL_ints m a b h]
  · rw [if_neg (by simpa using h)]
    have : a ≠ b := fun q => h (by rw [q])
    simp [this]
theorem eqL_rows (m : Nat) : ∀ (p : List (List Int)), eqL (eqD (m + 2)) (p.map rowD) (p.map rowD) = some true
  | [] => rfl
  | a :: p => bnd (eq_row m a a) (bnd (eqL_rows m p) (by rw [decide_eq_true rfl]; rfl))
theorem eq_rows (p : List (List Int)) : eqD deep (.list (p.map rowD)) (.list (p.map rowD)) = some true := by
  show (if (p.map rowD).length == (p.map rowD).length then eqL (eqD 7) (p.map rowD) (p.map rowD) else some false) = _
  rw [if_pos (by simp)]
  exact eqL_rows 5 p
theorem in_rows (a : List Int) : ∀ (p : List (List Int)), inL (rowD a) (p.map rowD) = some (decide (a ∈ p)) := by
  intro p
  have : eqs (rowD a) (p.map rowD) = some (p.map fun b => decide (b = a)) := by
    induction p with
    | nil => rfl
    | cons b p ih =>
      exact bnd (show eqD deep (rowD b) (rowD a) = some (decide (b = a)) from eq_row 6 b a) (bnd ih rfl)
  refine bnd this (congrArg some ?_)
  rw [Bool.eq_iff_iff]
  simp [List.any_map]

theorem perm_ok : ∀ o ∈ perms, o.length = 4 ∧ ∀ x ∈ o, x ∈ four4 := by decide +kernel
noncomputable def atI (o : List Int) (j : Int) : Int := o.getD j.toNat 0
theorem get_atI {o : List Int} (ho : o ∈ perms) {j : Int} (hj : 0 ≤ j ∧ j < 4) : getItem s (rowD o) (.int j) = some (.int (atI o j)) ∧ atI o j ∈ four4 := by
  obtain ⟨h1, h2⟩ := perm_ok o ho
  have hl : j.toNat < o.length := by omega
  have : atI o j = o[j.toNat] := by unfold atI; rw [List.getD_eq_getElem?_getD, List.getElem?_eq_getElem hl]; rfl
  rw [this]
  refine ⟨?_, h2 _ (List.getElem_mem hl)⟩
  show itemL (o.map D.int) j false = _
  unfold itemL
  rw [if_pos hj.1, List.getElem?_map, List.getElem?_eq_getElem hl]; rfl
noncomputable def rngI (j : Int) : List Int := (List.range j.toNat).map fun (i : Nat) => (i : Int)
theorem rngL_rngI (j : Int) : rngL 0 j = (rngI j).map .int := by
  simp [rngL, rngI, List.map_map, Function.comp_def]
noncomputable def wayL (mm : Int → Int → Int) (o : List Int) : List Int := four4.flatMap fun j => (rngI j).map fun i => mm (atI o j) (atI o i)
noncomputable def way (mm : Int → Int → Int) (o : List Int) : Int := (wayL mm o).sum

theorem ev_way {mm : Int → Int → Int} {o : List Int} (ho : o ∈ perms) (h5 : r[5]? = some (some (moreD mm))) (h22 : r[22]? = some (some (rowD o))) (hr : 24 < r.length) :
    ev X (.bi .sum [.comp false (.idx (.idx (.var 5) (.idx (.var 22) (.var 23))) (.idx (.var 22) (.var 24))) [.mk [23] false (.e (.bi .range [.int 4])) [], .mk [24] false (.e (.bi .range [.var 23])) []]]) r s = some (.int (way mm o), s) := by
  have hg : evg X [.mk [23] false (.e (.bi .range [.int 4])) [], .mk [24] false (.e (.bi .range [.var 23])) []] (ev X (.idx (.idx (.var 5) (.idx (.var 22) (.var 23))) (.idx (.var 22) (.var 24)))) r s =
      some ((four4.map D.int).flatMap (fun d => match d with | .int j => ((rngI j).map D.int).flatMap (fun e => match e with | .int i => [.int (mm (atI o j) (atI o i))] | _ => []) | _ => []), s) := by
    refine evg_pure (d := .rng 0 4) rfl rfl fun d hd => ?_
    have hd' : d ∈ four4.map D.int := hd
    obtain ⟨j, hj, rfl⟩ := List.mem_map.mp hd'
    have hj4 : 0 ≤ j ∧ j < 4 := by
      simp only [four4, List.mem_cons, List.not_mem_nil, or_false] at hj; omega
    have q23 : (r.set 23 (some (.int j)))[23]? = some (some (.int j)) := List.getElem?_set_self (by omega)
    refine step_nil (evg_pure (d := .rng 0 j) (l := (rngI j).map .int) ?_ (by rw [← rngL_rngI]; rfl) fun e he => ?_)
    · refine bnd (evs1 (ev_var q23) (fun _ q => nomatch q)) ?_
      show (if rngOk 0 j = true then some (D.rng 0 j, s) else .none) = _
      rw [if_pos (by simp [rngOk]; omega)]
    · obtain ⟨i, hi, rfl⟩ := List.mem_map.mp he
      have hi4 : 0 ≤ i ∧ i < 4 := by
        obtain ⟨k, hk, rfl⟩ := List.mem_map.mp hi
        have := List.mem_range.mp hk
        omega
      have p24 : ((r.set 23 (some (.int j))).set 24 (some (.int i)))[24]? = some (some (.int i)) := List.getElem?_set_self (by simpa using hr)
      have p23 : ((r.set 23 (some (.int j))).set 24 (some (.int i)))[23]? = some (some (.int j)) := by rw [List.getElem?_set_ne (by decide)]; exact q23
      have p22 : ((r.set 23 (some (.int j))).set 24 (some (.int i)))[22]? = some (some (rowD o)) := by rw [List.getElem?_set_ne (by decide), List.getElem?_set_ne (by decide)]; exact h22
      have p5 : ((r.set 23 (some (.int j))).set 24 (some (.int i)))[5]? = some (some (moreD mm)) := by rw [List.getElem?_set_ne (by decide), List.getElem?_set_ne (by decide)]; exact h5
      obtain ⟨g1, g2⟩ := get_atI (s := s) ho hj4
      obtain ⟨g3, g4⟩ := get_atI (s := s) ho hi4
      exact step_nil (evg_nil (ev_idx (ev_idx (ev_var p5) (ev_idx (ev_var p22) (ev_var p23) g1) (get_row mm g2)) (ev_idx (ev_var p22) (ev_var p24) g3) (get_cell mm _ g4)))
  have e : ((four4.map D.int).flatMap (fun d => match d with | .int j => ((rngI j).map D.int).flatMap (fun e => match e with | .int i => [D.int (mm (atI o j) (atI o i))] | _ => []) | _ => [])) = (wayL mm o).map .int := by
    simp only [wayL, List.map_flatMap, List.flatMap_map]
    congr 1
    funext j
    induction rngI j with
    | nil => rfl
    | cons i l ih => simp [List.flatMap_cons, ih]
  rw [e] at hg
  have hlen : (wayL mm o).length ≤ 100 := by
    have : (wayL mm o).length = 6 := by simp [wayL, four4, rngI]
    omega
  refine bnd (evs1 (ev_comp hg (by rw [List.length_map]; unfold lim; omega)) (fun _ q => nomatch q)) ?_
  exact sum_at (asInts_map _)

noncomputable def waysD (mm : Int → Int → Int) : D := .list (perms.map fun o => .int (way mm o))
theorem flat_rows (p : List (List Int)) (f : List Int → List D) (k : D → List D) (h : ∀ o ∈ p, k (rowD o) = f o) : (p.map rowD).flatMap k = p.flatMap f := by
  rw [List.flatMap_map]
  induction p with
  | nil => rfl
  | cons o p ih => rw [List.flatMap_cons, List.flatMap_cons, h o List.mem_cons_self, ih fun q hq => h q (List.mem_cons_of_mem _ hq)]
theorem evg_rows {e : E} {t : Nat} {ifs : List E} {gs : List G} {fe : Loc → Store → Option (D × Store)} {p : List (List Int)} {f : List Int → List D} (he : ev X e r s = some (.list (p.map rowD), s)) (h : ∀ o ∈ p, stepG X t ifs gs fe r (rowD o) s = some (f o, s)) :
    evg X (.mk [t] false (.e e) ifs :: gs) fe r s = some (p.flatMap f, s) := by
  refine evg_e (q := (p.flatMap f, s)) he rfl ?_
  clear he
  induction p with
  | nil => rfl
  | cons o p ih => exact over_c (h o List.mem_cons_self) (ih fun q hq => h q (List.mem_cons_of_mem _ hq))

theorem ev_ways {mm : Int → Int → Int} (h5 : r[5]? = some (some (moreD mm))) (h9 : r[9]? = some (some ord)) (hr : 24 < r.length) :
    ev X (.comp false (.bi .sum [.comp false (.idx (.idx (.var 5) (.idx (.var 22) (.var 23))) (.idx (.var 22) (.var 24))) [.mk [23] false (.e (.bi .range [.int 4])) [], .mk [24] false (.e (.bi .range [.var 23])) []]]) [.mk [22] false (.e (.var 9)) []]) r s = some (waysD mm, s) := by
  have hg := evg_rows (X := X) (r := r) (s := s) (e := .var 9) (t := 22) (ifs := []) (gs := []) (fe := ev X (.bi .sum [.comp false (.idx (.idx (.var 5) (.idx (.var 22) (.var 23))) (.idx (.var 22) (.var 24))) [.mk [23] false (.e (.bi .range [.int 4])) [], .mk [24] false (.e (.bi .range [.var 23])) []]])) (p := perms) (f := fun o => [.int (way mm o)]) (ev_var h9) (fun o ho => step_nil (evg_nil (ev_way ho (by rw [List.getElem?_set_ne (by decide)]; exact h5) (List.getElem?_set_self (by omega)) (by simpa using hr))))
  have e : perms.flatMap (fun o => [D.int (way mm o)]) = perms.map fun o => .int (way mm o) := by
    induction perms with
    | nil => rfl
    | cons o p ih => rw [List.flatMap_cons, ih]; rfl
  rw [e] at hg
  exact ev_comp hg (by simp [perms, firsts, lim])

noncomputable def minW (mm : Int → Int → Int) : Int := match perms.map (way mm) with
  | i :: l => minI i l
  | [] => 0
theorem ev_min {mm : Int → Int → Int} (h10 : r[10]? = some (some (waysD mm))) : ev X (.bi .min [.var 10]) r s = some (.int (minW mm), s) := by
  refine bnd (evs1 (ev_var h10) (fun _ q => nomatch q)) ?_
  have : asInts (perms.map fun o => D.int (way mm o)) = some (perms.map (way mm)) := by
    have := asInts_map (perms.map (way mm))
    rwa [List.map_map] at this
  exact min_at this rfl

noncomputable def zipF (X : Env') (r : Loc) (d : D) (s : Store) : Option (List D × Store) := (bindG r [26, 27] true d).bind fun r' => (evc X [.cmp .Eq (.var 27) (.bi .min [.var 10])] r' s).bind fun q => bif q.1 then evg X [] (ev X (.var 26)) r' q.2 else some ([], q.2)
theorem ev_zip {mm : Int → Int → Int} (h9 : r[9]? = some (some ord)) (h10 : r[10]? = some (some (waysD mm))) (hr : 27 < r.length) :
    ev X (.comp false (.var 26) [.mk [26, 27] true (.zip (.var 9) (.var 10)) [.cmp .Eq (.var 27) (.bi .min [.var 10])]]) r s = some (.list ((perms.filter fun o => decide (way mm o = minW mm)).map rowD), s) := by
  have hz : ∀ p : List (List Int), zipL (p.map rowD) (p.map fun o => .int (way mm o)) = p.map fun o => .tup [rowD o, .int (way mm o)] := by
    intro p
    induction p with
    | nil => rfl
    | cons o p ih => exact congrArg (D.tup [rowD o, .int (way mm o)] :: ·) ih
  have hi : evi X (.zip (.var 9) (.var 10)) r s = some (perms.map fun o => .tup [rowD o, .int (way mm o)], s, .none) := by
    refine bnd (ev_var h9) (bnd (ev_var h10) (bnd (a := perms.map rowD) rfl (bnd (a := perms.map fun o => .int (way mm o)) rfl ?_)))
    rw [hz]
  have hg : evg X [.mk [26, 27] true (.zip (.var 9) (.var 10)) [.cmp .Eq (.var 27) (.bi .min [.var 10])]] (ev X (.var 26)) r s = some ((perms.filter fun o => decide (way mm o = minW mm)).map rowD, s) := by
    have : ∀ p : List (List Int), overL (zipF X r) (p.map fun o => .tup [rowD o, .int (way mm o)]) s = some ((p.filter fun o => decide (way mm o = minW mm)).map rowD, s) := by
      intro p
      induction p with
      | nil => rfl
      | cons o p ih =>
        have q27 : ((r.set 26 (some (rowD o))).set 27 (some (.int (way mm o))))[27]? = some (some (.int (way mm o))) := List.getElem?_set_self (by simpa using hr)
        have q26 : ((r.set 26 (some (rowD o))).set 27 (some (.int (way mm o))))[26]? = some (some (rowD o)) := by rw [List.getElem?_set_ne (by decide)]; exact List.getElem?_set_self (by omega)
        have q10 : ((r.set 26 (some (rowD o))).set 27 (some (.int (way mm o))))[10]? = some (some (waysD mm)) := by rw [List.getElem?_set_ne (by decide), List.getElem?_set_ne (by decide)]; exact h10
        have hc : evc X [.cmp .Eq (.var 27) (.bi .min [.var 10])] ((r.set 26 (some (rowD o))).set 27 (some (.int (way mm o)))) s = some (decide (way mm o = minW mm), s) := by
          refine evc_one (ev_cmp (ev_var q27) (ev_min q10) ?_)
          show some (way mm o == minW mm) = _
          congr 1
        have hs : zipF X r (.tup [rowD o, .int (way mm o)]) s = some (if decide (way mm o = minW mm) then [rowD o] else [], s) := by
          refine bnd (a := (r.set 26 (some (rowD o))).set 27 (some (.int (way mm o)))) rfl (bnd hc ?_)
          cases h : decide (way mm o = minW mm)
          · rfl
          · exact evg_nil (X := X) (ev_var q26)
        refine (over_c hs ih).trans ?_
        rw [List.filter_cons]
        cases h : decide (way mm o = minW mm) <;> rfl
    exact bnd hi (bnd (this perms) rfl)
  refine ev_comp hg ?_
  have := List.length_filter_le (fun o => decide (way mm o = minW mm)) perms
  rw [List.length_map]
  have h24 : perms.length = 24 := rfl
  unfold lim; omega
end P02
end
section
open PySem
set_option maxRecDepth 100000
namespace P02
variable {n : Nat} {s0 g : Store} {X : Env'} {r : Loc} {s : Store}

noncomputable def needsD (ps : List (D × D)) : D := .list (four ++ ps.map pairD)

theorem ev_passed {m : Nat} {ps : List (D × D)} {t' : St} {d' : Dfs} {pass : List Int → Bool} (hp : ∀ p ∈ ps, isNode p.1 ∧ isNode p.2) (he : edgesF ps st0 = some t') (hf : findF t'.prep [0, 1, 2, 3] d00 = some d') (hl : ∀ o ∈ perms, ltAns t'.prep (o.map .int) = some (pass o))
    (h7 : r[7]? = some (some (needsD ps))) (h9 : r[9]? = some (some ord)) (hr : 25 < r.length) :
    ∃ s', ev ⟨P.globs, callF P (m + 5)⟩ (.comp false (.var 25) [.mk [25] false (.e (.var 9)) [.call 23 [.var 7, .var 25]]]) r s = some (.list ((perms.filter pass).map rowD), s ++ s') := by
  have hs : ∀ o ∈ perms, ∀ s, ∃ s', stepG ⟨P.globs, callF P (m + 5)⟩ 25 [.call 23 [.var 7, .var 25]] [] (ev ⟨P.globs, callF P (m + 5)⟩ (.var 25)) r (rowD o) s = some (if pass o then [rowD o] else [], s ++ s') := by
    intro o ho s
    obtain ⟨s', e⟩ := lets_eq (s0 := s) (m := m) hp he hf (hl o ho)
    refine ⟨s', ?_⟩
    have q25 : (r.set 25 (some (rowD o)))[25]? = some (some (rowD o)) := List.getElem?_set_self hr
    have q7 : (r.set 25 (some (rowD o)))[7]? = some (some (needsD ps)) := by rw [List.getElem?_set_ne (by decide)]; exact h7
    have hc : ev ⟨P.globs, callF P (m + 5)⟩ (.call 23 [.var 7, .var 25]) (r.set 25 (some (rowD o))) s = some (.bool (pass o), s ++ s') := by
      have : evs ⟨P.globs, callF P (m + 5)⟩ [.var 7, .var 25] (r.set 25 (some (rowD o))) s = some ([needsD ps, rowD o], s) := bnd (ev_var q7) (bnd (evs1 (ev_var q25) (fun _ q => nomatch q)) rfl)
      exact ev_call this e
    refine bnd (evc_one hc) ?_
    cases h : pass o
    · rfl
    · exact evg_nil (X := ⟨P.globs, callF P (m + 5)⟩) (ev_var q25)
  have hov : ∀ (p : List (List Int)) (s : Store), (∀ o ∈ p, o ∈ perms) → ∃ s', overL (stepG ⟨P.globs, callF P (m + 5)⟩ 25 [.call 23 [.var 7, .var 25]] [] (ev ⟨P.globs, callF P (m + 5)⟩ (.var 25)) r) (p.map rowD) s = some ((p.filter pass).map rowD, s ++ s') := by
    intro p
    induction p with
    | nil => intro s _; exact ⟨[], by rw [List.append_nil]; rfl⟩
    | cons o p ih =>
      intro s hp'
      obtain ⟨s1, e1⟩ := hs o (hp' o List.mem_cons_self) s
      obtain ⟨s2, e2⟩ := ih (s ++ s1) fun q hq => hp' q (List.mem_cons_of_mem _ hq)
      refine ⟨s1 ++ s2, ?_⟩
      refine (over_c e1 e2).trans ?_
      rw [List.filter_cons, List.append_assoc]
      cases h : pass o <;> rfl
  obtain ⟨s', e⟩ := hov perms s fun _ h => h
  refine ⟨s', ev_comp ?_ ?_⟩
  · exact evg_e (d := ord) (ev_var h9) rfl e
  · have := List.length_filter_le pass perms
    rw [List.length_map]
    have h24 : perms.length = 24 := rfl
    unfold lim; omega

noncomputable def lowOf (tms : List Int) : Int := (sortI tms).getD ((tms.length - 1) / 2) 0
noncomputable def highOf (tms : List Int) : Int := (sortI tms).getD (tms.length / 2) 0
theorem sort_len (l : List Int) : (sortI l).length = l.length := (sortI_perm l).length_eq
theorem sorted_ev {tms : List Int} (h : tms.length ≤ 63) {v : Nat} (hv : r[v]? = some (some (.list (tms.map .int)))) : ev X (.bi .sorted [.var v]) r s = some (.list ((sortI tms).map .int), s) := by
  refine bnd (evs1 (ev_var hv) (fun _ q => nomatch q)) ?_
  show ((asInts (tms.map .int)).bind fun is => if (tms.map D.int).length < 64 then some (D.list ((sortI is).map .int), s) else .none) = _
  rw [asInts_map, Option.bind_some, List.length_map, if_pos (by omega)]
theorem get_sorted {tms : List Int} {i : Nat} (hi : i < tms.length) : ((sortI tms).map D.int)[i]? = some (.int ((sortI tms).getD i 0)) := by
  have hl : i < (sortI tms).length := by rw [sort_len]; exact hi
  rw [List.getElem?_map, List.getElem?_eq_getElem hl, List.getD_eq_getElem?_getD, List.getElem?_eq_getElem hl]; rfl

section
variable {m : Nat} {tms : List Int} (h : tms.length ≤ 63) (h0 : 0 < tms.length)
theorem med_div : binOp .FloorDiv (.int tms.length) (.int 2) = some (.int (tms.length / 2 : Nat)) := by
  show (if (2 : Int) ≠ 0 ∧ small 2 = true then some (D.int ((tms.length : Int).fdiv 2)) else .none) = _
  rw [if_pos ⟨by decide, rfl⟩, Int.fdiv_eq_ediv_of_nonneg _ (by decide)]
  congr 2
include h h0 in
theorem med_head {b : List S} {R : Option (Fl × Loc × Store)} (k : exs X 1000 b [some (.list ((sortI tms).map .int)), some (.int tms.length)] s = R) :
    exs X 1000 (.assign (.name 0) (.bi .sorted [.var 0]) :: .assign (.name 1) (.bi .len [.var 0]) :: .ife (.cmp .Eq (.var 1) (.int 0)) [.bad] [] :: b) [some (.list (tms.map .int)), .none] s = R := by
  have hz : ((tms.length : Int) == 0) = false := by rw [beq_eq_false_iff_ne]; omega
  have hl : ev X (.bi .len [.var 0]) [some (.list ((sortI tms).map .int)), .none] s = some (.int tms.length, s) := by
    refine (show _ = some (D.int (((sortI tms).map D.int).length : Nat), s) from rfl).trans ?_
    rw [List.length_map, sort_len]
  exact exs_c (asg_of (sorted_ev h rfl)) (exs_c (asg_of hl) (exs_c (ife_of (t := ((tms.length : Int) == 0)) rfl (fun q => by rw [hz] at q; cases q) fun _ => rfl) k))
theorem med_at {e : E} {j : Int} {i : Nat} {n : Int} (he : ev X e [some (.list ((sortI tms).map .int)), some (.int tms.length)] s = some (.int j, s)) (hj : j = i) (hi : i < tms.length) (hn : (sortI tms).getD i 0 = n) : ev X (.idx (.var 0) e) [some (.list ((sortI tms).map .int)), some (.int tms.length)] s = some (.int n, s) := by
  refine ev_idx (x := .list ((sortI tms).map .int)) rfl he ?_
  show itemL ((sortI tms).map D.int) j false = _
  unfold itemL
  rw [hj, if_pos (by omega), Int.toNat_natCast, get_sorted hi, hn]
include h h0 in
theorem high_eq : callF P (m + 1) 1 [.list (tms.map .int)] s = some (.int (highOf tms), s) := by
  apply call_of (fn := f_median_high) (r := [some (.list (tms.map .int)), .none]) rfl rfl
  exact med_head h h0 (ret_of (med_at (ev_bin rfl rfl med_div) rfl (by omega) rfl))
include h h0 in
theorem low_eq : callF P (m + 1) 0 [.list (tms.map .int)] s = some (.int (lowOf tms), s) := by
  have hmod : (tms.length : Int).fmod 2 = (tms.length % 2 : Nat) := by rw [Int.fmod_eq_emod_of_nonneg _ (by decide)]; omega
  have hb : ev ⟨P.globs, callF P m⟩ (.bin .Mod (.var 1) (.int 2)) [some (.list ((sortI tms).map .int)), some (.int tms.length)] s = some (.int (tms.length % 2 : Nat), s) := by
    refine ev_bin rfl rfl ?_
    show (if (2 : Int) = 0 then .none else some (D.int ((tms.length : Int).fmod 2))) = _
    rw [if_neg (by decide), hmod]
  have ht : test ⟨P.globs, callF P m⟩ (.cmp .Eq (.bin .Mod (.var 1) (.int 2)) (.int 1)) [some (.list ((sortI tms).map .int)), some (.int tms.length)] s = some (((tms.length % 2 : Nat) : Int) == 1, s) :=
    bnd (ev_cmp (X := ⟨P.globs, callF P m⟩) (op := .Eq) (i := .int 1) (b := ((tms.length % 2 : Nat) : Int) == 1) hb rfl rfl) rfl
  apply call_of (fn := f_median_low) (r := [some (.list (tms.map .int)), .none]) rfl rfl
  refine med_head h h0 (exs_r (r' := [some (.list ((sortI tms).map .int)), some (.int tms.length)]) (ife_of ht (fun q => ?_) fun q => ?_))
  · have q := eq_of_beq q
    exact ret_of (med_at (i := (tms.length - 1) / 2) (ev_bin rfl rfl med_div) (by omega) (by omega) rfl)
  · have q := beq_eq_false_iff_ne.mp q
    exact ret_of (med_at (j := (tms.length / 2 : Nat) - 1) (i := (tms.length - 1) / 2) (ev_bin (ev_bin rfl rfl med_div) rfl rfl) (by omega) (by omega) rfl)
end

theorem ev_rowsin {ch : List (List Int)} (hc : ch ∈ chains) {pd : List (List Int)} (h3 : r[3]? = some (some (.list (ch.map rowD)))) (h11 : r[11]? = some (some (.list (pd.map rowD)))) (hr : 28 < r.length) :
    ev X (.comp false (.var 28) [.mk [28] false (.e (.bi .range [.int 7])) [.cmp .In (.idx (.var 3) (.var 28)) (.var 11)]]) r s = some (.list (((rngI 7).filter fun t => decide (rowAt ch t ∈ pd)).map .int), s) := by
  have hg : evg X [.mk [28] false (.e (.bi .range [.int 7])) [.cmp .In (.idx (.var 3) (.var 28)) (.var 11)]] (ev X (.var 28)) r s = some (((rngI 7).map D.int).flatMap (fun d => match d with | .int x => if decide (rowAt ch x ∈ pd) then [.int x] else [] | _ => []), s) := by
    refine evg_pure (d := .rng 0 7) (l := (rngI 7).map .int) rfl (by rw [← rngL_rngI]; rfl) fun d hd => ?_
    obtain ⟨t, ht, rfl⟩ := List.mem_map.mp hd
    have ht7 : 0 ≤ t ∧ t < 7 := by
      obtain ⟨k, hk, rfl⟩ := List.mem_map.mp ht
      have := List.mem_range.mp hk
      omega
    obtain ⟨m1, m2⟩ := rowAt_mem hc ht7
    have q28 : (r.set 28 (some (.int t)))[28]? = some (some (.int t)) := List.getElem?_set_self hr
    have q3 : (r.set 28 (some (.int t)))[3]? = some (some (.list (ch.map rowD))) := by rw [List.getElem?_set_ne (by decide)]; exact h3
    have q11 : (r.set 28 (some (.int t)))[11]? = some (some (.list (pd.map rowD))) := by rw [List.getElem?_set_ne (by decide)]; exact h11
    refine step_if (b := decide (rowAt ch t ∈ pd)) (ev_cmp (ev_idx (ev_var q3) (ev_var q28) (by show itemL (ch.map rowD) t false = _; unfold itemL; rw [if_pos ht7.1]; exact m2)) (ev_var q11) ?_) (evg_nil (ev_var q28))
    exact in_rows _ _
  have hg2 := hg.trans (congrArg (fun l => some (l, s)) (flat_filter (fun t => decide (rowAt ch t ∈ pd)) (rngI 7)))
  refine ev_comp hg2 ?_
  have := List.length_filter_le (fun t => decide (rowAt ch t ∈ pd)) (rngI 7)
  rw [List.length_map]
  have h7 : (rngI 7).length = 7 := rfl
  unfold lim; omega

noncomputable def grpF : Nat → List D → List D → St → Option (List D)
  | 0, _, _, _ => .none
  | m + 1, grp, out, t => bif grp.isEmpty then some out else
      bif decide (out.length < 900) && decide (grp.length < 900) then (doneF grp t).bind fun t1 => bif t1.rd.all nodeB then grpF m t1.rd (out ++ grp) t1.taken else .none
      else .none

noncomputable def grpBody : List S := [.expr (.bmeth (.var 14) .extend [.var 15]), .expr (.umeth (.var 8) 8 [.star (.var 15)]), .assign (.name 15) (.umeth (.var 8) 6 [])]
theorem grp_loop {m : Nat} {a0 a1 a2 a3 a4 a5 a6 a7 a9 a10 a11 a12 a13 : Option D} : ∀ (q : Nat) {grp out : List D} {t : St} {res : List D}, grpF q grp out t = some res →
    ∃ grp' t', whileL (test ⟨P.globs, callF P (m + 1)⟩ (.cmp .Gt (.bi .len [.var 15]) (.int 0))) (exs ⟨P.globs, callF P (m + 1)⟩ 1000 grpBody) (exs ⟨P.globs, callF P (m + 1)⟩ 1000 []) q (LR a0 a1 a2 a3 a4 a5 a6 a7 (some (.ref s0.length)) a9 a10 a11 a12 a13 (some (.ref (s0.length + (11 + g.length)))) (some (.tup grp))) (s0 ++ TO s0.length t g out) =
      some (.next, LR a0 a1 a2 a3 a4 a5 a6 a7 (some (.ref s0.length)) a9 a10 a11 a12 a13 (some (.ref (s0.length + (11 + g.length)))) (some (.tup grp')), s0 ++ TO s0.length t' g res)
  | 0, grp, out, t, res, h => no_el h
  | q + 1, grp, out, t, res, h => by
    let r : List D → Loc := fun grp => LR a0 a1 a2 a3 a4 a5 a6 a7 (some (.ref s0.length)) a9 a10 a11 a12 a13 (some (.ref (s0.length + (11 + g.length)))) (some (.tup grp))
    have ht : test ⟨P.globs, callF P (m + 1)⟩ (.cmp .Gt (.bi .len [.var 15]) (.int 0)) (r grp) (s0 ++ TO s0.length t g out) = some (!grp.isEmpty, s0 ++ TO s0.length t g out) := by
      have e1 : ev ⟨P.globs, callF P (m + 1)⟩ (.bi .len [.var 15]) (r grp) (s0 ++ TO s0.length t g out) = some (.int grp.length, s0 ++ TO s0.length t g out) := rfl
      refine bnd (ev_cmp (X := ⟨P.globs, callF P (m + 1)⟩) (op := .Gt) (i := .int 0) (b := decide ((0 : Int) < grp.length)) e1 rfl rfl) ?_
      cases grp with
      | nil => rfl
      | cons a l => rw [decide_eq_true (by rw [List.length_cons]; omega)]; rfl
    have h : (bif grp.isEmpty then some out else bif decide (out.length < 900) && decide (grp.length < 900) then (doneF grp t).bind fun t1 => bif t1.rd.all nodeB then grpF q t1.rd (out ++ grp) t1.taken else .none else .none) = some res := h
    cases hg : grp.isEmpty with
    | true =>
      rw [hg] at h ht
      exact ⟨grp, t, bnd ht (by rw [← Option.some.inj h]; rfl)⟩
    | false =>
      rw [hg] at h ht
      refine cond_el h fun hc h => bd1 h fun t1 hd h => cond_el h fun hn h => ?_
      simp only [Bool.and_eq_true, decide_eq_true_eq] at hc
      obtain ⟨grp', t', ih⟩ := grp_loop (m := m) (a0 := a0) (a1 := a1) (a2 := a2) (a3 := a3) (a4 := a4) (a5 := a5) (a6 := a6) (a7 := a7) (a9 := a9) (a10 := a10) (a11 := a11) (a12 := a12) (a13 := a13) q h
      have gt : ∀ (t : St) out, (s0 ++ TO s0.length t g out)[s0.length + (11 + g.length)]? = some (.list out) := fun t out => (get_off _ _ _).trans (to_get ..)
      have v14 : ∀ s, ev ⟨P.globs, callF P (m + 1)⟩ (.var 14) (r grp) s = some (.ref (s0.length + (11 + g.length)), s) := fun s => rfl
      have v8 : ∀ s, ev ⟨P.globs, callF P (m + 1)⟩ (.var 8) (r grp) s = some (.ref s0.length, s) := fun s => rfl
      have hst : (s0 ++ TO s0.length t g out).set (s0.length + (11 + g.length)) (.list (out ++ grp)) = s0 ++ TO s0.length t g (out ++ grp) := (set_off _ _ _ _).trans (congrArg (s0 ++ ·) (to_set ..))
      have hr1 : recvOk .extend (s0 ++ TO s0.length t g out) (.ref (s0.length + (11 + g.length))) = true := recv_at (gt t out)
      have he := ev_bmeth (m := .extend) (args := [.var 15]) (l := [.tup grp]) (v14 (s0 ++ TO s0.length t g out)) hr1 rfl (ext_at (gt t out) (by unfold lim; omega) hst)
      have hdone := done_eq (n := m) (s0 := s0) (g := g ++ [.list (out ++ grp)]) (l := grp) (by omega) hd
      rw [← List.append_nil grp] at hdone
      have hi : ∀ (t : St) out, isInst (s0 ++ TO s0.length t g out) (.ref s0.length) = true := fun t out => inst_at (get_off0 _ _)
      have hu := ev_umeth (f := 8) (args := [.star (.var 15)]) (l := grp ++ []) (v8 (s0 ++ TO s0.length t g (out ++ grp))) (hi t _) rfl (show callF P (m + 1) 8 _ _ = some (.none, s0 ++ TO s0.length t1 g (out ++ grp)) by rw [List.append_nil] at hdone ⊢; exact hdone)
      have hgr := get_ready_eq (n := m) (s0 := s0) (g := g ++ [.list (out ++ grp)]) (nodes_of hn)
      have hv2 := ev_umeth (f := 6) (args := []) (l := []) (v8 (s0 ++ TO s0.length t1 g (out ++ grp))) (hi t1 _) rfl hgr
      exact ⟨grp', t', bnd ht (bnd (exs_c (ex_expr he) (exs_c (ex_expr hu) (exs_c (asg_of hv2) rfl))) ih)⟩
end P02
end
section
open PySem
set_option maxRecDepth 100000
namespace P02

noncomputable def respM (mm : Int → Int → Int) (o : List Int) : Bool := four4.all fun a => four4.all fun b => !(decide (mm b a < mm a b)) || decide (pos o a < pos o b)

noncomputable def idxs (o : List Int) : List (Int × Int) := four4.flatMap fun j => (rngI j).map fun i => (atI o j, atI o i)
noncomputable def prs : List (Int × Int) := [(0, 1), (0, 2), (0, 3), (1, 2), (1, 3), (2, 3)]
noncomputable def turn (o : List Int) (p : Int × Int) : Int × Int := if pos o p.1 < pos o p.2 then (p.2, p.1) else p
noncomputable def fwd (mm : Int → Int → Int) (o : List Int) (p : Int × Int) : Int := mm (turn o p).1 (turn o p).2
noncomputable def least (mm : Int → Int → Int) (p : Int × Int) : Int := min (mm p.1 p.2) (mm p.2 p.1)

theorem way_idxs (mm : Int → Int → Int) (o : List Int) : way mm o = ((idxs o).map fun p => mm p.1 p.2).sum := by
  unfold way wayL idxs
  rw [List.map_flatMap]
  simp only [List.map_map, Function.comp_def]
theorem idxs_perm : ∀ o ∈ perms, (idxs o).isPerm (prs.map (turn o)) = true := by decide +kernel
theorem pos_ne : ∀ o ∈ perms, ∀ a ∈ four4, ∀ b ∈ four4, a = b ∨ pos o a ≠ pos o b := by decide +kernel
theorem prs_all : ∀ a ∈ four4, ∀ b ∈ four4, a = b ∨ (a, b) ∈ prs ∨ (b, a) ∈ prs := by decide +kernel
theorem prs_in : ∀ p ∈ prs, p.1 ∈ four4 ∧ p.2 ∈ four4 := by decide +kernel
theorem sum_lb {α : Type} (f g : α → Int) : ∀ l : List α, (∀ p ∈ l, g p ≤ f p) → (l.map g).sum ≤ (l.map f).sum ∧ ((l.map f).sum = (l.map g).sum ↔ ∀ p ∈ l, f p = g p)
  | [], _ => ⟨Int.le_refl _, fun _ p hp => (List.not_mem_nil hp).elim, fun _ => rfl⟩
  | x :: l, h => by
    have h0 := h x (List.mem_cons_self ..)
    obtain ⟨h1, h2⟩ := sum_lb f g l fun p hp => h p (List.mem_cons_of_mem _ hp)
    rw [List.map_cons, List.map_cons, List.sum_cons, List.sum_cons, List.forall_mem_cons, ← h2]
    omega
theorem sum_perm {l l' : List Int} (h : l.Perm l') : l.sum = l'.sum := by
  induction h with
  | nil => rfl
  | cons x _ ih => rw [List.sum_cons, List.sum_cons, ih]
  | swap x y l => rw [List.sum_cons, List.sum_cons, List.sum_cons, List.sum_cons]; omega
  | trans _ _ a b => exact a.trans b
theorem resp_iff (mm : Int → Int → Int) (o : List Int) (ho : o ∈ perms) : respM mm o = true ↔ ∀ p ∈ prs, fwd mm o p = least mm p := by
  have e : respM mm o = true ↔ ∀ a ∈ four4, ∀ b ∈ four4, mm b a < mm a b → pos o a < pos o b := by
    unfold respM
    simp only [List.all_eq_true, Bool.or_eq_true, Bool.not_eq_true', decide_eq_false_iff_not, decide_eq_true_eq, Decidable.imp_iff_not_or]
  rw [e]
  constructor
  · intro h p hp
    obtain ⟨ha, hb⟩ := prs_in p hp
    have h1 := h _ ha _ hb
    have h2 := h _ hb _ ha
    unfold fwd least turn
    split <;> (try dsimp only) <;> omega
  · intro h a ha b hb hl
    rcases prs_all a ha b hb with rfl | hp | hp
    · exact absurd hl (Int.lt_irrefl _)
    · have h1 := h _ hp
      unfold fwd least turn at h1
      split at h1 <;> (try dsimp only at *) <;> omega
    · have h1 := h _ hp
      have h2 := pos_ne o ho a ha b hb
      unfold fwd least turn at h1
      split at h1 <;> (try dsimp only at *) <;> rcases h2 with rfl | h2 <;> omega
theorem way_lb (mm : Int → Int → Int) : ∃ LB, ∀ o ∈ perms, LB ≤ way mm o ∧ (way mm o = LB ↔ respM mm o = true) := by
  refine ⟨(prs.map (least mm)).sum, fun o ho => ?_⟩
  have e : way mm o = (prs.map (fwd mm o)).sum := by
    rw [way_idxs, sum_perm ((List.isPerm_iff.mp (idxs_perm o ho)).map _), List.map_map]; rfl
  rw [e, resp_iff mm o ho]
  exact sum_lb _ _ _ fun p _ => by unfold fwd least turn; split <;> (try dsimp only) <;> omega
end P02
end
section
open PySem
set_option maxRecDepth 100000
namespace P02

theorem minW_iff {mm : Int → Int → Int} (hex : ∃ o ∈ perms, respM mm o = true) : ∀ o ∈ perms, decide (way mm o = minW mm) = respM mm o := by
  obtain ⟨LB, h⟩ := way_lb mm
  obtain ⟨o₀, h0, hr0⟩ := hex
  have hm : minW mm = LB := by
    have hs := minI_spec ((perms.map (way mm)).tail) (way mm [0, 1, 2, 3])
    have hw : minW mm = minI (way mm [0, 1, 2, 3]) ((perms.map (way mm)).tail) := rfl
    have hl : way mm [0, 1, 2, 3] :: (perms.map (way mm)).tail = perms.map (way mm) := rfl
    rw [hl, ← hw] at hs
    obtain ⟨o1, h1, e1⟩ := List.mem_map.mp hs.1
    have a := (h o1 h1).1
    have b := hs.2 (way mm o₀) (List.mem_map.mpr ⟨o₀, h0, rfl⟩)
    have c := (h o₀ h0).2.mpr hr0
    omega
  intro o ho
  rw [hm]
  have := (h o ho).2
  cases hr : respM mm o with
  | true => exact decide_eq_true (this.mpr hr)
  | false => exact decide_eq_false fun q => by rw [this.mp q] at hr; cases hr

theorem sorted_lt {s : List Int} (hs : s.Pairwise (· ≤ ·)) (τ : Int) : ∀ i (hi : i < s.length), s[i] < τ ↔ i < s.countP (fun x => decide (x < τ)) := by
  induction s with
  | nil => intro i hi; simp at hi
  | cons x l ih =>
    intro i hi
    obtain ⟨h1, h2⟩ := List.pairwise_cons.mp hs
    rw [List.countP_cons]
    by_cases hx : x < τ
    · simp only [hx, decide_true, if_true]
      cases i with
      | zero => simp [hx]
      | succ i => 
        have := ih h2 i (by simpa using hi)
        simp only [List.getElem_cons_succ]
        omega
    · have hz : l.countP (fun x => decide (x < τ)) = 0 := by
        rw [List.countP_eq_zero]
        intro y hy
        have := h1 y hy
        simp; omega
      simp only [hx, decide_false, Bool.false_eq_true, if_false, hz]
      cases i with
      | zero => simp; omega
      | succ i =>
        have : l[i]'(by simpa using hi) ∈ l := List.getElem_mem _
        have := h1 _ this
        simp only [List.getElem_cons_succ]
        omega

theorem count_sum (tms : List Int) (τ : Int) : tms.countP (fun x => decide (x < τ)) + tms.countP (fun x => decide (τ ≤ x)) = tms.length := by
  induction tms with
  | nil => rfl
  | cons x l ih =>
    rw [List.countP_cons, List.countP_cons, List.length_cons]
    by_cases hx : x < τ
    · have : ¬ τ ≤ x := by omega
      simp [hx, this]; omega
    · have : τ ≤ x := by omega
      simp [hx, this]; omega
theorem getD_sorted {tms : List Int} {i : Nat} (hi : i < tms.length) (τ : Int) : (sortI tms).getD i 0 < τ ↔ i < tms.countP (fun x => decide (x < τ)) := by
  have hl : i < (sortI tms).length := by rw [sort_len]; exact hi
  rw [List.getD_eq_getElem?_getD, List.getElem?_eq_getElem hl, ← (sortI_perm tms).countP_eq]
  exact sorted_lt (sortI_sorted tms) τ i hl
theorem high_lt {tms : List Int} (h0 : 0 < tms.length) (τ : Int) : tms.countP (fun x => decide (τ ≤ x)) < tms.countP (fun x => decide (x < τ)) ↔ highOf tms < τ := by
  have := count_sum tms τ
  unfold highOf
  rw [getD_sorted (by omega)]
  omega
theorem low_ge {tms : List Int} (h0 : 0 < tms.length) (τ : Int) : tms.countP (fun x => decide (x < τ)) < tms.countP (fun x => decide (τ ≤ x)) ↔ τ ≤ lowOf tms := by
  have := count_sum tms τ
  have h2 := getD_sorted (tms := tms) (i := (tms.length - 1) / 2) (by omega) τ
  unfold lowOf
  omega
theorem getD_mem {tms : List Int} {i : Nat} (hi : i < tms.length) : (sortI tms).getD i 0 ∈ tms := by
  have hl : i < (sortI tms).length := by rw [sort_len]; exact hi
  rw [List.getD_eq_getElem?_getD, List.getElem?_eq_getElem hl]
  exact (sortI_perm tms).mem_iff.mp (List.getElem_mem hl)
theorem low_high {tms : List Int} (h0 : 0 < tms.length) : lowOf tms ≤ highOf tms := by
  rcases Int.lt_or_le (highOf tms) (lowOf tms) with h | h
  · exfalso
    have a := (high_lt h0 (lowOf tms)).mpr h
    have b := (low_ge h0 (lowOf tms)).mpr (Int.le_refl _)
    omega
  · exact h

noncomputable def tau (ch : List (List Int)) (a b : Int) : Int := (((rngI 7).filter (bef ch a b)).length : Int)
noncomputable def pairs6 : List (Int × Int) := [(0, 1), (0, 2), (0, 3), (1, 2), (1, 3), (2, 3)]
theorem tau_ok : ∀ ch ∈ chains, ∀ p ∈ pairs6, ∀ t ∈ rngI 7, bef ch p.1 p.2 t = decide (t < tau ch p.1 p.2) ∧ bef ch p.2 p.1 t = decide (tau ch p.1 p.2 ≤ t) := by decide +kernel
theorem mem_rng7 {t : Int} (h : 0 ≤ t ∧ t < 7) : t ∈ rngI 7 := List.mem_map.mpr ⟨t.toNat, List.mem_range.mpr (by omega), by omega⟩

theorem Mc_lt {ch : List (List Int)} (hc : ch ∈ chains) {tms : List Int} (htm : ∀ t ∈ tms, 0 ≤ t ∧ t < 7) {p : Int × Int} (hp : p ∈ pairs6) : Mc ch tms p.1 p.2 = (tms.countP (fun x => decide (x < tau ch p.1 p.2)) : Nat) ∧ Mc ch tms p.2 p.1 = (tms.countP (fun x => decide (tau ch p.1 p.2 ≤ x)) : Nat) := by
  unfold Mc
  rw [← List.countP_eq_length_filter, ← List.countP_eq_length_filter]
  constructor <;> congr 1 <;> refine List.countP_congr fun t ht => ?_
  · rw [(tau_ok ch hc p hp t (mem_rng7 (htm t ht))).1]
  · rw [(tau_ok ch hc p hp t (mem_rng7 (htm t ht))).2]

noncomputable def cond (ch : List (List Int)) (low high a b : Int) : Bool := if a < b then decide (high < tau ch a b) else if b < a then decide (tau ch b a ≤ low) else false
theorem mem_pairs6 {a b : Int} (ha : a ∈ four4) (hb : b ∈ four4) (h : a < b) : (a, b) ∈ pairs6 := by
  simp only [four4, List.mem_cons, List.not_mem_nil, or_false] at ha hb
  rcases ha with rfl | rfl | rfl | rfl <;> rcases hb with rfl | rfl | rfl | rfl <;> first | (exact absurd h (by decide)) | decide
theorem major {ch : List (List Int)} (hc : ch ∈ chains) {tms : List Int} (htm : ∀ t ∈ tms, 0 ≤ t ∧ t < 7) (h0 : 0 < tms.length) {a b : Int} (ha : a ∈ four4) (hb : b ∈ four4) : decide (Mc ch tms b a < Mc ch tms a b) = cond ch (lowOf tms) (highOf tms) a b := by
  unfold cond
  by_cases h : a < b
  · rw [if_pos h]
    obtain ⟨e1, e2⟩ := Mc_lt hc htm (mem_pairs6 ha hb h)
    dsimp only at e1 e2
    rw [e1, e2]
    refine decide_eq_decide.mpr ?_
    rw [← high_lt h0]
    omega
  · rw [if_neg h]
    by_cases h2 : b < a
    · rw [if_pos h2]
      obtain ⟨e1, e2⟩ := Mc_lt hc htm (mem_pairs6 hb ha h2)
      dsimp only at e1 e2
      rw [e1, e2]
      refine decide_eq_decide.mpr ?_
      rw [← low_ge h0]
      omega
    · rw [if_neg h2]
      have : a = b := by omega
      subst this
      simp

noncomputable def psC (ch : List (List Int)) (low high : Int) : List (D × D) := four4.flatMap fun a => four4.flatMap fun b => if cond ch low high a b then [(.int a, .int b)] else []
noncomputable def respC (ch : List (List Int)) (low high : Int) (o : List Int) : Bool := four4.all fun a => four4.all fun b => !(cond ch low high a b) || decide (pos o a < pos o b)

theorem flat_congr {α β : Type} {f g : α → List β} : ∀ {l : List α}, (∀ a ∈ l, f a = g a) → l.flatMap f = l.flatMap g
  | [], _ => rfl
  | a :: l, h => by rw [List.flatMap_cons, List.flatMap_cons, h a List.mem_cons_self, flat_congr fun b hb => h b (List.mem_cons_of_mem _ hb)]
theorem ps_eq {mm : Int → Int → Int} {ch : List (List Int)} {low high : Int} (h : ∀ a ∈ four4, ∀ b ∈ four4, decide (mm b a < mm a b) = cond ch low high a b) : psOf mm = psC ch low high ∧ respM mm = respC ch low high := by
  have h' : ∀ a ∈ four4, ∀ b ∈ four4, (mm b a < mm a b) ↔ cond ch low high a b = true := fun a ha b hb => by rw [← h a ha b hb]; simp
  constructor
  · unfold psOf psC
    refine flat_congr fun a ha => flat_congr fun b hb => ?_
    by_cases q : mm b a < mm a b
    · rw [if_pos q, if_pos ((h' a ha b hb).mp q)]
    · rw [if_neg q, if_neg (fun z => q ((h' a ha b hb).mpr z))]
  · funext o
    unfold respM respC
    rw [Bool.eq_iff_iff]
    simp only [List.all_eq_true]
    exact forall_congr' fun a => forall_congr' fun ha => forall_congr' fun b => forall_congr' fun hb => by rw [h a ha b hb]

noncomputable def intsOf : List D → Option (List Int)
  | [] => some []
  | .int i :: r => (intsOf r).map (i :: ·)
  | _ :: _ => .none

noncomputable def chkO (ch : List (List Int)) (low high : Int) : Option (List Int) := (edgesF (psC ch low high) st0).bind fun t => (findF t.prep [0, 1, 2, 3] d00).bind fun _ =>
  bif (perms.all fun o => ltAns t.prep (o.map .int) == some (respC ch low high o)) && perms.any (respC ch low high) && ((rngI 7).all fun k => respC ch low high (rowAt ch k) == decide (low ≤ k ∧ k ≤ high)) && t.prep.rd.all nodeB
  then (grpF 100 t.prep.rd [] t.prep.taken).bind fun out => (intsOf out).bind fun o => bif perms.contains o && respC ch low high o then some o else .none
  else .none
noncomputable def chk (ch : List (List Int)) (low high : Int) : Bool := (chkO ch low high).isSome
noncomputable def lh : List (Int × Int) := (rngI 7).flatMap fun l => ((rngI 7).filter fun h => decide (l ≤ h)).map fun h => (l, h)
noncomputable def chkN (k : Nat) : Bool := lh.all fun p => chk (chains.getD k []) p.1 p.2
end P02
end
section
open PySem
set_option maxRecDepth 100000
namespace P02

theorem c0 : chkN 0 = true := by decide +kernel
theorem c1 : chkN 1 = true := by decide +kernel
theorem c2 : chkN 2 = true := by decide +kernel
theorem c3 : chkN 3 = true := by decide +kernel
theorem c4 : chkN 4 = true := by decide +kernel
theorem c5 : chkN 5 = true := by decide +kernel
theorem c6 : chkN 6 = true := by decide +kernel
theorem c7 : chkN 7 = true := by decide +kernel
theorem c8 : chkN 8 = true := by decide +kernel
theorem c9 : chkN 9 = true := by decide +kernel
theorem c10 : chkN 10 = true := by decide +kernel
theorem c11 : chkN 11 = true := by decide +kernel
theorem c12 : chkN 12 = true := by decide +kernel
theorem c13 : chkN 13 = true := by decide +kernel
theorem c14 : chkN 14 = true := by decide +kernel
theorem c15 : chkN 15 = true := by decide +kernel
theorem below_s {p : Nat → Prop} {n : Nat} (h : ∀ k < n, p k) (hn : p n) : ∀ k < n + 1, p k := fun k hk => (Nat.lt_succ_iff_lt_or_eq.mp hk).elim (h k) (fun e => e ▸ hn)
theorem chains_len : chains.length = 16 := by decide +kernel
theorem c_all : ∀ k < 16, chkN k = true := below_s (below_s (below_s (below_s (below_s (below_s (below_s (below_s (below_s (below_s (below_s (below_s (below_s (below_s (below_s (below_s (fun k hk => absurd hk (Nat.not_lt_zero k)) c0) c1) c2) c3) c4) c5) c6) c7) c8) c9) c10) c11) c12) c13) c14) c15
theorem chk_all {ch : List (List Int)} (hc : ch ∈ chains) {p : Int × Int} (hp : p ∈ lh) : chk ch p.1 p.2 = true := by
  obtain ⟨i, hi, rfl⟩ := List.getElem_of_mem hc
  have := List.all_eq_true.mp (c_all i (by rw [← chains_len]; exact hi)) p hp
  rwa [List.getD_eq_getElem?_getD, List.getElem?_eq_getElem hi] at this
end P02
end
section
open PySem
set_option maxRecDepth 100000
namespace P02

theorem mem_lh {l h : Int} (h1 : 0 ≤ l) (h2 : l ≤ h) (h3 : h < 7) : (l, h) ∈ lh :=
  List.mem_flatMap.mpr ⟨l, mem_rng7 ⟨h1, by omega⟩, List.mem_map.mpr ⟨h, List.mem_filter.mpr ⟨mem_rng7 ⟨by omega, h3⟩, by simpa using h2⟩, rfl⟩⟩

theorem intsOf_eq : ∀ {l : List D} {o : List Int}, intsOf l = some o → l = o.map .int
  | [], o, h => by cases h; rfl
  | .int i :: l, o, h => by
    obtain ⟨o', h1, rfl⟩ := Option.map_eq_some_iff.mp h
    rw [intsOf_eq h1]; rfl

noncomputable def rngJ (a b : Int) : List Int := (List.range (b - a).toNat).map fun (i : Nat) => a + i
theorem rngL_J (a b : Int) : rngL a b = (rngJ a b).map .int := by simp [rngL, rngJ, List.map_map, Function.comp_def]
theorem span_ok : ∀ p ∈ lh, ((rngI 7).filter fun t => decide (p.1 ≤ t ∧ t ≤ p.2)) = rngJ p.1 (p.2 + 1) := by decide +kernel

theorem tms_facts {xs : List Int} (hx : xs.length ≤ 63) : (∀ t ∈ tmsOf xs, 0 ≤ t ∧ t < 7) ∧ (tmsOf xs).length ≤ 63 ∧ 0 < (tmsOf xs).length := by
  unfold tmsOf
  cases xs with
  | nil => decide
  | cons x l =>
    simp only [List.isEmpty_cons, Bool.false_eq_true, if_false]
    refine ⟨fun t ht => ?_, by simpa using hx, by simp⟩
    obtain ⟨y, _, rfl⟩ := List.mem_map.mp ht
    exact ⟨Int.fmod_nonneg_of_pos y (by decide), Int.fmod_lt_of_pos y (by decide)⟩

theorem ps_node (ch : List (List Int)) (low high : Int) : ∀ p ∈ psC ch low high, isNode p.1 ∧ isNode p.2 := by
  intro p hp
  obtain ⟨a, ha, hp⟩ := List.mem_flatMap.mp hp
  obtain ⟨b, hb, hp⟩ := List.mem_flatMap.mp hp
  have key : ∀ x ∈ four4, isNode (.int x) := by
    intro x hx
    simp only [four4, List.mem_cons, List.not_mem_nil, or_false] at hx
    rcases hx with rfl | rfl | rfl | rfl
    · exact .inl rfl
    · exact .inr (.inl rfl)
    · exact .inr (.inr (.inl rfl))
    · exact .inr (.inr (.inr rfl))
  split at hp
  · rw [List.mem_singleton.mp hp]; exact ⟨key a ha, key b hb⟩
  · simp at hp
theorem ps_len (ch : List (List Int)) (low high : Int) : (psC ch low high).length ≤ 16 := ps_len16 fun a b => cond ch low high a b = true
theorem exs_e {X : Env'} {W : Nat} {x : S} {xs : List S} {r r' : Loc} {s s' : Store} {d : D} (h : ex X W x r s = some (.next, r', s')) (k : ∃ r1 s1, exs X W xs r' s' = some (.ret d, r1, s1)) : ∃ r1 s1, exs X W (x :: xs) r s = some (.ret d, r1, s1) := k.elim fun r1 k => k.elim fun s1 k => ⟨r1, s1, exs_c h k⟩
theorem ife_no {X : Env'} {W : Nat} {c : E} {a : List S} {r : Loc} {s s1 : Store} (h : ev X c r s = some (.bool false, s1)) : ex X W (.ife c a []) r s = some (.next, r, s1) := bnd (a := (false, s1)) (bnd h rfl) rfl
theorem ev_call1 {X : Env'} {f : Nat} {a : E} {r : Loc} {s s1 : Store} {x : D} {q : Option (D × Store)} (h : ev X a r s = some (x, s1)) (hs : ∀ e, a ≠ .star e) (h2 : X.F f [x] s1 = q) : ev X (.call f [a]) r s = q := ev_call (evs1 h hs) h2
theorem ne_ints (s : Store) (a : List Int) : cmpOp s .NotEq (.list (a.map .int)) (.list (a.map .int)) = some false := by
  refine bnd (show eqD deep (.list (a.map .int)) (.list (a.map .int)) = some (decide (a = a)) from eq_row 6 a a) ?_
  rw [decide_eq_true rfl]; rfl
theorem extL_at {σ σ' : Store} {k : Nat} {l l' : List D} (h : σ[k]? = some (.list l)) (hl : l.length + l'.length ≤ lim) (hs : σ.set k (.list (l ++ l')) = σ') : bmeth .extend σ (.ref k) [.list l'] = some (.none, σ') := by
  show onList σ (.ref k) _ = _
  exact onList_at h (if_pos hl) hs
theorem for_rng {X : Env'} {W : Nat} {t : T} {e : E} {b : List S} {a c : Int} {r : Loc} {s s' : Store} {R : Option (Fl × Loc × Store)} (h : ev X e r s = some (.rng a c, s')) (k : forL (exs X W b) (assignT X t) (rngL a c) r s' = R) : ex X W (.fore t e b) r s = R := bnd h k
theorem ne_rows (s : Store) (p : List (List Int)) : cmpOp s .NotEq (.list (p.map rowD)) (.list (p.map rowD)) = some false := bnd (eq_rows p) rfl
theorem grp_more : ∀ {q : Nat} (j : Nat) {grp out res : List D} {t : St}, grpF q grp out t = some res → grpF (q + j) grp out t = some res
  | 0, j, grp, out, res, t, h => no_el h
  | q + 1, j, grp, out, res, t, h => by
    have h : (bif grp.isEmpty then some out else bif decide (out.length < 900) && decide (grp.length < 900) then (doneF grp t).bind fun t1 => bif t1.rd.all nodeB then grpF q t1.rd (out ++ grp) t1.taken else .none else .none) = some res := h
    rw [show q + 1 + j = (q + j) + 1 by omega]
    show (bif grp.isEmpty then some out else bif decide (out.length < 900) && decide (grp.length < 900) then (doneF grp t).bind fun t1 => bif t1.rd.all nodeB then grpF (q + j) t1.rd (out ++ grp) t1.taken else .none else .none) = some res
    cases hg : grp.isEmpty with
    | true => rw [hg] at h; exact h
    | false =>
      rw [hg] at h
      refine cond_el h fun hc h => bd1 h fun t1 hd h => cond_el h fun hn h => ?_
      rw [hc, hd]
      show (bif t1.rd.all nodeB then grpF (q + j) t1.rd (out ++ grp) t1.taken else .none) = some res
      rw [hn]
      exact grp_more j h
theorem ex_freeze {X : Env'} {W i k : Nat} {r : Loc} {s s' : Store} {l : List D} (h1 : r[i]? = some (some (.ref k))) (h2 : s[k]? = some (.list l)) (h3 : s.set k .dead = s') : ex X W (.freeze i) r s = some (.next, r.set i (some (.list l)), s') :=
  bnd (a := .ref k) (bnd (f := id) h1 rfl) (bnd (a := k) rfl (bnd (a := l) (bnd h2 rfl) (congrArg (fun s => some (Fl.next, r.set i (some (.list l)), s)) h3)))

theorem law_end {xs : List Int} {ch : List (List Int)} {tms o : List Int} {mm : Int → Int → Int} {ps : List (D × D)} {t : St} {rc : List Int → Bool} {lo hi : Int} {a2 a6 : Option D} {G2 : Store} {m : Nat} (hgrp : grpF 100 t.prep.rd [] t.prep.taken = some (o.map .int)) (ho : o ∈ perms.filter rc) (hn : t.prep.rd.all nodeB = true) :
    ∃ r1 s1, exs ⟨P.globs, callF P (m + 1)⟩ 1000 (f_law.body.drop 19) (LR (some (.list (xs.map .int))) (some (.int (numOf xs))) a2 (some (.list (ch.map rowD))) (some (.list (tms.map .int))) (some (moreD mm)) a6 (some (needsD ps)) (some (.ref 3)) (some ord) (some (waysD mm)) (some (.list ((perms.filter rc).map rowD))) (some (.int lo)) (some (.int hi)) .none .none) ([.dead, .dead, .dead] ++ TT 3 t.prep G2) = some (.ret (.bool true), r1, s1) := by
  dsimp only [f_law, List.drop]
  have hlen3 : ([.dead, .dead, .dead] ++ TT 3 t.prep G2 : Store).length = 3 + (11 + G2.length) := TT_len (s0 := [.dead, .dead, .dead]) t.prep G2
  have e20 : ev ⟨P.globs, callF P (m + 1)⟩ (.list true []) (LR (some (.list (xs.map .int))) (some (.int (numOf xs))) a2 (some (.list (ch.map rowD))) (some (.list (tms.map .int))) (some (moreD mm)) a6 (some (needsD ps)) (some (.ref 3)) (some ord) (some (waysD mm)) (some (.list ((perms.filter rc).map rowD))) (some (.int lo)) (some (.int hi)) .none .none) ([.dead, .dead, .dead] ++ TT 3 t.prep G2) = some (.ref (3 + (11 + G2.length)), [.dead, .dead, .dead] ++ TO 3 t.prep G2 []) := by
    rw [← hlen3]
    rfl
  refine exs_e (ex_assign (r' := (LR (some (.list (xs.map .int))) (some (.int (numOf xs))) a2 (some (.list (ch.map rowD))) (some (.list (tms.map .int))) (some (moreD mm)) a6 (some (needsD ps)) (some (.ref 3)) (some ord) (some (waysD mm)) (some (.list ((perms.filter rc).map rowD))) (some (.int lo)) (some (.int hi)) (some (.ref (3 + (11 + G2.length)))) .none)) e20 rfl) ?_
  have hgr := get_ready_eq (n := m) (s0 := [.dead, .dead, .dead]) (g := G2 ++ [.list []]) (t := t.prep) (nodes_of hn)
  have e21 := ev_umeth (X := ⟨P.globs, callF P (m + 1)⟩) (o := .var 8) (f := 6) (args := []) (r := (LR (some (.list (xs.map .int))) (some (.int (numOf xs))) a2 (some (.list (ch.map rowD))) (some (.list (tms.map .int))) (some (moreD mm)) a6 (some (needsD ps)) (some (.ref 3)) (some ord) (some (waysD mm)) (some (.list ((perms.filter rc).map rowD))) (some (.int lo)) (some (.int hi)) (some (.ref (3 + (11 + G2.length)))) .none)) (x := .ref 3) (l := []) rfl (inst_at (get_off0 [.dead, .dead, .dead] _)) rfl hgr
  refine exs_e (ex_assign (r' := (LR (some (.list (xs.map .int))) (some (.int (numOf xs))) a2 (some (.list (ch.map rowD))) (some (.list (tms.map .int))) (some (moreD mm)) a6 (some (needsD ps)) (some (.ref 3)) (some ord) (some (waysD mm)) (some (.list ((perms.filter rc).map rowD))) (some (.int lo)) (some (.int hi)) (some (.ref (3 + (11 + G2.length)))) (some (.tup t.prep.rd)))) e21 rfl) ?_
  have hg1000 : grpF 1000 t.prep.rd [] t.prep.taken = some (o.map .int) := grp_more 900 hgrp
  obtain ⟨grp', t', e22⟩ := grp_loop (s0 := [.dead, .dead, .dead]) (g := G2) (m := m) (a0 := (some (.list (xs.map .int)))) (a1 := (some (.int (numOf xs)))) (a2 := a2) (a3 := (some (.list (ch.map rowD)))) (a4 := (some (.list (tms.map .int)))) (a5 := (some (moreD mm))) (a6 := a6) (a7 := (some (needsD ps))) (a9 := (some ord)) (a10 := (some (waysD mm))) (a11 := (some (.list ((perms.filter rc).map rowD)))) (a12 := (some (.int lo))) (a13 := (some (.int hi))) 1000 hg1000
  refine exs_e (x := .whil _ _ _) e22 ?_
  have hgt : ([.dead, .dead, .dead] ++ TO 3 t' G2 (o.map .int) : Store)[3 + (11 + G2.length)]? = some (.list (o.map .int)) := (get_off [.dead, .dead, .dead] _ _).trans (to_get 3 t' G2 _)
  have hst2 : ([.dead, .dead, .dead] ++ TO 3 t' G2 (o.map .int) : Store).set (3 + (11 + G2.length)) .dead = [.dead, .dead, .dead] ++ TT 3 t' (G2 ++ [.dead]) := by
    refine (set_off [.dead, .dead, .dead] _ _ _).trans (congrArg (([.dead, .dead, .dead] : Store) ++ ·) ?_)
    have h11 : (TT 3 t' G2).length = 11 + G2.length := by simp [TT]; omega
    show (TT 3 t' G2 ++ [O.list (o.map .int)]).set (11 + G2.length) O.dead = _
    rw [← h11, set_off0]; rfl
  refine exs_e (r' := (LR (some (.list (xs.map .int))) (some (.int (numOf xs))) a2 (some (.list (ch.map rowD))) (some (.list (tms.map .int))) (some (moreD mm)) a6 (some (needsD ps)) (some (.ref 3)) (some ord) (some (waysD mm)) (some (.list ((perms.filter rc).map rowD))) (some (.int lo)) (some (.int hi)) (some (rowD o)) (some (.tup grp')))) (s' := [.dead, .dead, .dead] ++ TT 3 t' (G2 ++ [.dead])) (ex_freeze rfl hgt hst2) ?_
  have e24 : ev ⟨P.globs, callF P (m + 1)⟩ (.cmp .In (.var 14) (.var 11)) (LR (some (.list (xs.map .int))) (some (.int (numOf xs))) a2 (some (.list (ch.map rowD))) (some (.list (tms.map .int))) (some (moreD mm)) a6 (some (needsD ps)) (some (.ref 3)) (some ord) (some (waysD mm)) (some (.list ((perms.filter rc).map rowD))) (some (.int lo)) (some (.int hi)) (some (rowD o)) (some (.tup grp'))) ([.dead, .dead, .dead] ++ TT 3 t' (G2 ++ [.dead])) = some (.bool true, [.dead, .dead, .dead] ++ TT 3 t' (G2 ++ [.dead])) := by
    refine ev_cmp rfl rfl ?_
    show inL (rowD o) ((perms.filter rc).map rowD) = _
    rw [in_rows, decide_eq_true ho]
  exact ⟨_, _, ret_of e24⟩

theorem law_mid {X : Env'} (hX : (⟨P.globs, callF P 29⟩ : Env') = X) (hF : ∀ f a s, X.F f a s = callF P 29 f a s) {xs : List Int} (hx : xs.length ≤ 63) {ch : List (List Int)} {tms o : List Int} {mm : Int → Int → Int} {ps : List (D × D)} {t : St} {d : Dfs} {rc : List Int → Bool} {lo hi : Int} {a2 a6 : Option D} (htms : tmsOf xs = tms) (hlen : tms.length ≤ 63) (hpos : 0 < tms.length) (hc : ch ∈ chains) (hlo : lowOf tms = lo) (hhi : highOf tms = hi) (hlb : 0 ≤ lo) (hhb : hi < 7) (hlh : lo ≤ hi)
    (hpn : ∀ p ∈ ps, isNode p.1 ∧ isNode p.2) (he : edgesF ps st0 = some t) (hf : findF t.prep [0, 1, 2, 3] d00 = some d) (hl : ∀ o ∈ perms, ltAns t.prep (o.map .int) = some (rc o))
    (hfil : (perms.filter fun o => decide (way mm o = minW mm)) = perms.filter rc) (hin : ((rngI 7).filter fun k => decide (rowAt ch k ∈ perms.filter rc)) = rngJ lo (hi + 1))
    (hgrp : grpF 100 t.prep.rd [] t.prep.taken = some (o.map .int)) (ho : o ∈ perms.filter rc) (hn : t.prep.rd.all nodeB = true) :
    ∃ r1 s1, exs X 1000 (f_law.body.drop 10) (LR (some (.list (xs.map .int))) (some (.int (numOf xs))) a2 (some (.list (ch.map rowD))) (some (.list (tms.map .int))) (some (moreD mm)) a6 (some (needsD ps)) .none .none .none .none .none .none .none .none) [.dead, .dead, .dead] = some (.ret (.bool true), r1, s1) := by
  dsimp only [f_law, List.drop]
  have hsort := sorter_eq (s0 := [.dead, .dead, .dead]) (m := 25) hpn he hf
  rw [show 25 + 4 = 29 from rfl] at hsort
  have hord := orders_eq (m := 24) (s0 := ([.dead, .dead, .dead] ++ TT 3 t.prep (gar 3 d)))
  rw [show 24 + 5 = 29 from rfl] at hord
  have e11 : ev X (.call 22 [.var 7]) (LR (some (.list (xs.map .int))) (some (.int (numOf xs))) a2 (some (.list (ch.map rowD))) (some (.list (tms.map .int))) (some (moreD mm)) a6 (some (needsD ps)) .none .none .none .none .none .none .none .none) [.dead, .dead, .dead] = some (.ref 3, ([.dead, .dead, .dead] ++ TT 3 t.prep (gar 3 d))) := ev_call1 (x := needsD ps) rfl (fun _ q => nomatch q) ((hF _ _ _).trans hsort)
  have e11' : ex X 1000 (.tryPlain [.assign (.name 8) (.call 22 [.var 7])]) (LR (some (.list (xs.map .int))) (some (.int (numOf xs))) a2 (some (.list (ch.map rowD))) (some (.list (tms.map .int))) (some (moreD mm)) a6 (some (needsD ps)) .none .none .none .none .none .none .none .none) [.dead, .dead, .dead] = some (.next, (LR (some (.list (xs.map .int))) (some (.int (numOf xs))) a2 (some (.list (ch.map rowD))) (some (.list (tms.map .int))) (some (moreD mm)) a6 (some (needsD ps)) (some (.ref 3)) .none .none .none .none .none .none .none), ([.dead, .dead, .dead] ++ TT 3 t.prep (gar 3 d))) := exs_c (ex_assign (r' := (LR (some (.list (xs.map .int))) (some (.int (numOf xs))) a2 (some (.list (ch.map rowD))) (some (.list (tms.map .int))) (some (moreD mm)) a6 (some (needsD ps)) (some (.ref 3)) .none .none .none .none .none .none .none)) e11 rfl) rfl
  refine exs_e e11' ?_
  have e12 : ev X (.call 20 [.list false [.int 0, .int 1, .int 2, .int 3]]) (LR (some (.list (xs.map .int))) (some (.int (numOf xs))) a2 (some (.list (ch.map rowD))) (some (.list (tms.map .int))) (some (moreD mm)) a6 (some (needsD ps)) (some (.ref 3)) .none .none .none .none .none .none .none) ([.dead, .dead, .dead] ++ TT 3 t.prep (gar 3 d)) = some (ord, ([.dead, .dead, .dead] ++ TT 3 t.prep (gar 3 d))) := ev_call1 (x := rowD [0, 1, 2, 3]) rfl (fun _ q => nomatch q) ((hF _ _ _).trans hord)
  refine exs_e (ex_assign (r' := (LR (some (.list (xs.map .int))) (some (.int (numOf xs))) a2 (some (.list (ch.map rowD))) (some (.list (tms.map .int))) (some (moreD mm)) a6 (some (needsD ps)) (some (.ref 3)) (some ord) .none .none .none .none .none .none)) e12 rfl) ?_
  have e13 := ev_ways (X := X) (mm := mm) (s := ([.dead, .dead, .dead] ++ TT 3 t.prep (gar 3 d))) (r := (LR (some (.list (xs.map .int))) (some (.int (numOf xs))) a2 (some (.list (ch.map rowD))) (some (.list (tms.map .int))) (some (moreD mm)) a6 (some (needsD ps)) (some (.ref 3)) (some ord) .none .none .none .none .none .none)) rfl rfl (by show 24 < 30; decide)
  refine exs_e (ex_assign (r' := (LR (some (.list (xs.map .int))) (some (.int (numOf xs))) a2 (some (.list (ch.map rowD))) (some (.list (tms.map .int))) (some (moreD mm)) a6 (some (needsD ps)) (some (.ref 3)) (some ord) (some (waysD mm)) .none .none .none .none .none)) e13 rfl) ?_
  obtain ⟨s', e14⟩ := ev_passed (m := 24) (s := ([.dead, .dead, .dead] ++ TT 3 t.prep (gar 3 d))) (r := (LR (some (.list (xs.map .int))) (some (.int (numOf xs))) a2 (some (.list (ch.map rowD))) (some (.list (tms.map .int))) (some (moreD mm)) a6 (some (needsD ps)) (some (.ref 3)) (some ord) (some (waysD mm)) .none .none .none .none .none)) hpn he hf hl rfl rfl (by show 25 < 30; decide)
  rw [show 24 + 5 = 29 from rfl, hX] at e14
  refine exs_e (ex_assign (r' := (LR (some (.list (xs.map .int))) (some (.int (numOf xs))) a2 (some (.list (ch.map rowD))) (some (.list (tms.map .int))) (some (moreD mm)) a6 (some (needsD ps)) (some (.ref 3)) (some ord) (some (waysD mm)) (some (.list ((perms.filter rc).map rowD))) .none .none .none .none)) e14 rfl) ?_
  show ∃ r1 s1, exs X 1000 _ (LR (some (.list (xs.map .int))) (some (.int (numOf xs))) a2 (some (.list (ch.map rowD))) (some (.list (tms.map .int))) (some (moreD mm)) a6 (some (needsD ps)) (some (.ref 3)) (some ord) (some (waysD mm)) (some (.list ((perms.filter rc).map rowD))) .none .none .none .none) ([.dead, .dead, .dead] ++ TT 3 t.prep (gar 3 d ++ s')) = _
  generalize gar 3 d ++ s' = G1
  have e15 : ev X (.cmp .NotEq (.var 11) (.comp false (.var 26) [.mk [26, 27] true (.zip (.var 9) (.var 10)) [.cmp .Eq (.var 27) (.bi .min [.var 10])]])) (LR (some (.list (xs.map .int))) (some (.int (numOf xs))) a2 (some (.list (ch.map rowD))) (some (.list (tms.map .int))) (some (moreD mm)) a6 (some (needsD ps)) (some (.ref 3)) (some ord) (some (waysD mm)) (some (.list ((perms.filter rc).map rowD))) .none .none .none .none) ([.dead, .dead, .dead] ++ TT 3 t.prep G1) = some (.bool false, ([.dead, .dead, .dead] ++ TT 3 t.prep G1)) := by
    have hz := ev_zip (X := X) (mm := mm) (s := ([.dead, .dead, .dead] ++ TT 3 t.prep G1)) (r := (LR (some (.list (xs.map .int))) (some (.int (numOf xs))) a2 (some (.list (ch.map rowD))) (some (.list (tms.map .int))) (some (moreD mm)) a6 (some (needsD ps)) (some (.ref 3)) (some ord) (some (waysD mm)) (some (.list ((perms.filter rc).map rowD))) .none .none .none .none)) rfl rfl (by show 27 < 30; decide)
    rw [hfil] at hz
    exact ev_cmp rfl hz (ne_rows _ _)
  refine exs_e (ife_no e15) ?_
  have hlow := low_eq (m := 28) (s := ([.dead, .dead, .dead] ++ TT 3 t.prep G1)) hlen hpos
  have hhigh := high_eq (m := 28) (s := ([.dead, .dead, .dead] ++ TT 3 t.prep G1)) hlen hpos
  rw [show 28 + 1 = 29 from rfl] at hlow hhigh
  rw [hlo] at hlow
  rw [hhi] at hhigh
  have e16 : ev X (.call 0 [.var 4]) (LR (some (.list (xs.map .int))) (some (.int (numOf xs))) a2 (some (.list (ch.map rowD))) (some (.list (tms.map .int))) (some (moreD mm)) a6 (some (needsD ps)) (some (.ref 3)) (some ord) (some (waysD mm)) (some (.list ((perms.filter rc).map rowD))) .none .none .none .none) ([.dead, .dead, .dead] ++ TT 3 t.prep G1) = some (.int lo, ([.dead, .dead, .dead] ++ TT 3 t.prep G1)) := ev_call1 (x := .list (tms.map .int)) rfl (fun _ q => nomatch q) ((hF _ _ _).trans hlow)
  refine exs_e (ex_assign (r' := (LR (some (.list (xs.map .int))) (some (.int (numOf xs))) a2 (some (.list (ch.map rowD))) (some (.list (tms.map .int))) (some (moreD mm)) a6 (some (needsD ps)) (some (.ref 3)) (some ord) (some (waysD mm)) (some (.list ((perms.filter rc).map rowD))) (some (.int lo)) .none .none .none)) e16 rfl) ?_
  have e17 : ev X (.call 1 [.var 4]) (LR (some (.list (xs.map .int))) (some (.int (numOf xs))) a2 (some (.list (ch.map rowD))) (some (.list (tms.map .int))) (some (moreD mm)) a6 (some (needsD ps)) (some (.ref 3)) (some ord) (some (waysD mm)) (some (.list ((perms.filter rc).map rowD))) (some (.int lo)) .none .none .none) ([.dead, .dead, .dead] ++ TT 3 t.prep G1) = some (.int hi, ([.dead, .dead, .dead] ++ TT 3 t.prep G1)) := ev_call1 (x := .list (tms.map .int)) rfl (fun _ q => nomatch q) ((hF _ _ _).trans hhigh)
  refine exs_e (ex_assign (r' := (LR (some (.list (xs.map .int))) (some (.int (numOf xs))) a2 (some (.list (ch.map rowD))) (some (.list (tms.map .int))) (some (moreD mm)) a6 (some (needsD ps)) (some (.ref 3)) (some ord) (some (waysD mm)) (some (.list ((perms.filter rc).map rowD))) (some (.int lo)) (some (.int hi)) .none .none)) e17 rfl) ?_
  have e18 : ev X (.cmp .NotEq (.comp false (.var 28) [.mk [28] false (.e (.bi .range [.int 7])) [.cmp .In (.idx (.var 3) (.var 28)) (.var 11)]]) (.bi .list [.bi .range [.var 12, .bin .Add (.var 13) (.int 1)]])) (LR (some (.list (xs.map .int))) (some (.int (numOf xs))) a2 (some (.list (ch.map rowD))) (some (.list (tms.map .int))) (some (moreD mm)) a6 (some (needsD ps)) (some (.ref 3)) (some ord) (some (waysD mm)) (some (.list ((perms.filter rc).map rowD))) (some (.int lo)) (some (.int hi)) .none .none) ([.dead, .dead, .dead] ++ TT 3 t.prep G1) = some (.bool false, (([.dead, .dead, .dead] ++ TT 3 t.prep G1)) ++ [.list (rngL lo (hi + 1))]) := by
    have h1 := ev_rowsin (X := X) (s := ([.dead, .dead, .dead] ++ TT 3 t.prep G1)) (r := (LR (some (.list (xs.map .int))) (some (.int (numOf xs))) a2 (some (.list (ch.map rowD))) (some (.list (tms.map .int))) (some (moreD mm)) a6 (some (needsD ps)) (some (.ref 3)) (some ord) (some (waysD mm)) (some (.list ((perms.filter rc).map rowD))) (some (.int lo)) (some (.int hi)) .none .none)) hc (pd := perms.filter rc) rfl rfl (by show 28 < 30; decide)
    rw [hin] at h1
    have hr : ev X (.bi .range [.var 12, .bin .Add (.var 13) (.int 1)]) (LR (some (.list (xs.map .int))) (some (.int (numOf xs))) a2 (some (.list (ch.map rowD))) (some (.list (tms.map .int))) (some (moreD mm)) a6 (some (needsD ps)) (some (.ref 3)) (some ord) (some (waysD mm)) (some (.list ((perms.filter rc).map rowD))) (some (.int lo)) (some (.int hi)) .none .none) ([.dead, .dead, .dead] ++ TT 3 t.prep G1) = some (.rng lo (hi + 1), ([.dead, .dead, .dead] ++ TT 3 t.prep G1)) := by
      show (if rngOk lo (hi + 1) = true then some (D.rng lo (hi + 1), [.dead, .dead, .dead] ++ TT 3 t.prep G1) else .none) = _
      rw [if_pos (by unfold rngOk; simp; omega)]
    have h2 : ev X (.bi .list [.bi .range [.var 12, .bin .Add (.var 13) (.int 1)]]) (LR (some (.list (xs.map .int))) (some (.int (numOf xs))) a2 (some (.list (ch.map rowD))) (some (.list (tms.map .int))) (some (moreD mm)) a6 (some (needsD ps)) (some (.ref 3)) (some ord) (some (waysD mm)) (some (.list ((perms.filter rc).map rowD))) (some (.int lo)) (some (.int hi)) .none .none) ([.dead, .dead, .dead] ++ TT 3 t.prep G1) = some (.ref ([.dead, .dead, .dead] ++ TT 3 t.prep G1 : Store).length, (([.dead, .dead, .dead] ++ TT 3 t.prep G1)) ++ [.list (rngL lo (hi + 1))]) := bnd (bnd hr rfl) rfl
    refine ev_cmp h1 h2 ?_
    have ht : top ((([.dead, .dead, .dead] ++ TT 3 t.prep G1)) ++ [.list (rngL lo (hi + 1))]) (.ref ([.dead, .dead, .dead] ++ TT 3 t.prep G1 : Store).length) = .list ((rngJ lo (hi + 1)).map .int) := by
      unfold top
      rw [show asList ((([.dead, .dead, .dead] ++ TT 3 t.prep G1)) ++ [.list (rngL lo (hi + 1))]) (.ref ([.dead, .dead, .dead] ++ TT 3 t.prep G1 : Store).length) = some (rngL lo (hi + 1)) from bnd (f := oList') (get_off0 _ _) rfl, rngL_J]
    show ((eqD deep (top _ _) (top _ _)).bind _) = _
    rw [ht]
    exact ne_ints [] (rngJ lo (hi + 1))
  refine exs_e (s' := [.dead, .dead, .dead] ++ TT 3 t.prep (G1 ++ [.list (rngL lo (hi + 1))])) (ife_no e18) ?_
  generalize G1 ++ [O.list (rngL lo (hi + 1))] = G2
  have e19 : ev X (.cmp .NotEq (.var 4) (.or (.comp false (.bin .Mod (.var 29) (.int 7)) [.mk [29] false (.e (.var 0)) []]) (.list false [.int 1, .int 3, .int 4]))) (LR (some (.list (xs.map .int))) (some (.int (numOf xs))) a2 (some (.list (ch.map rowD))) (some (.list (tms.map .int))) (some (moreD mm)) a6 (some (needsD ps)) (some (.ref 3)) (some ord) (some (waysD mm)) (some (.list ((perms.filter rc).map rowD))) (some (.int lo)) (some (.int hi)) .none .none) ([.dead, .dead, .dead] ++ TT 3 t.prep G2) = some (.bool false, ([.dead, .dead, .dead] ++ TT 3 t.prep G2)) := by
    have h1 := times_eq (X := X) (s := ([.dead, .dead, .dead] ++ TT 3 t.prep G2)) (xs := xs) hx (v := 29) (r := (LR (some (.list (xs.map .int))) (some (.int (numOf xs))) a2 (some (.list (ch.map rowD))) (some (.list (tms.map .int))) (some (moreD mm)) a6 (some (needsD ps)) (some (.ref 3)) (some ord) (some (waysD mm)) (some (.list ((perms.filter rc).map rowD))) (some (.int lo)) (some (.int hi)) .none .none)) rfl (by show 29 < 30; decide)
    rw [htms] at h1
    exact ev_cmp rfl h1 (ne_ints _ _)
  refine exs_e (ife_no e19) ?_
  have hend := law_end (xs := xs) (ch := ch) (tms := tms) (mm := mm) (ps := ps) (lo := lo) (hi := hi) (a2 := a2) (a6 := a6) (G2 := G2) (m := 28) hgrp ho hn
  rw [show 28 + 1 = 29 from rfl, hX] at hend
  exact hend

theorem law_pure (xs : List Int) (hx : xs.length ≤ 63) : ∃ s', callF P 30 40 [.list (xs.map .int)] [] = some (.bool true, s') := by
  obtain ⟨htm, hlen, hpos⟩ := tms_facts hx
  generalize htms : tmsOf xs = tms at htm hlen hpos
  obtain ⟨ch, hc, hrows⟩ := rows_eq (s0 := []) (m := 28) (if numOf xs < 0 then -(numOf xs) else numOf xs)
  have hlow := getD_mem (tms := tms) (i := (tms.length - 1) / 2) (by omega)
  have hhigh := getD_mem (tms := tms) (i := tms.length / 2) (by omega)
  have hlb : 0 ≤ lowOf tms := (htm _ hlow).1
  have hhb : highOf tms < 7 := (htm _ hhigh).2
  have hlh := low_high hpos
  have hmem := mem_lh hlb hlh hhb
  have hk := chk_all hc hmem
  rw [show 28 + 1 = 29 from rfl] at hrows
  obtain ⟨hps, hresp⟩ := ps_eq (mm := Mc ch tms) (ch := ch) (low := lowOf tms) (high := highOf tms) fun a ha b hb => major hc htm hpos ha hb
  have hpn := ps_node ch (lowOf tms) (highOf tms)
  have hpl := ps_len ch (lowOf tms) (highOf tms)
  rw [← hps] at hpn
  obtain ⟨o, hk⟩ := Option.isSome_iff_exists.mp hk
  refine bd1 hk fun t he hk => bd1 hk fun d hf hk => cond_el hk fun k1 hk => bd1 hk fun out hgrp hk => bd1 hk fun o hints hk => cond_el hk fun k5 _ => ?_
  simp only [Bool.and_eq_true] at k1 k5
  obtain ⟨⟨⟨k1, k2⟩, k3⟩, k4⟩ := k1
  have hout := intsOf_eq hints
  subst hout
  have hl : ∀ o ∈ perms, ltAns t.prep (o.map .int) = some (respC ch (lowOf tms) (highOf tms) o) := fun o ho => by simpa using List.all_eq_true.mp k1 o ho
  have hmin := minW_iff (mm := Mc ch tms) (by
    obtain ⟨o1, h1, h2⟩ := List.any_eq_true.mp k2
    exact ⟨o1, h1, by rw [hresp]; exact h2⟩)
  have hfil : (perms.filter fun o => decide (way (Mc ch tms) o = minW (Mc ch tms))) = perms.filter (respC ch (lowOf tms) (highOf tms)) := by
    refine List.filter_congr fun o ho => ?_
    rw [hmin o ho, hresp]
  have hin : ((rngI 7).filter fun k => decide (rowAt ch k ∈ perms.filter (respC ch (lowOf tms) (highOf tms)))) = rngJ (lowOf tms) (highOf tms + 1) := by
    rw [← span_ok _ hmem]
    refine List.filter_congr fun k hkm => ?_
    have h7 : 0 ≤ k ∧ k < 7 := by
      obtain ⟨q, hq, rfl⟩ := List.mem_map.mp hkm
      have := List.mem_range.mp hq
      omega
    have hkk := List.all_eq_true.mp k3 k hkm
    simp only [beq_iff_eq] at hkk
    rw [← hkk]
    have hpm := (rowAt_mem hc h7).1
    rw [Bool.eq_iff_iff]
    simp [List.mem_filter, hpm]
  have hom : o ∈ perms.filter (respC ch (lowOf tms) (highOf tms)) := List.mem_filter.mpr ⟨by simpa using k5.1, k5.2⟩
  have hmid := fun X hX hF a2 a6 => law_mid (X := X) hX hF hx (a2 := a2) (a6 := a6) htms hlen hpos hc rfl rfl hlb hhb hlh hpn (hps ▸ he) hf hl hfil hin hgrp hom k4
  rw [← hps] at hpl
  suffices h : ∃ r1 s1, exs ⟨P.globs, callF P 29⟩ 1000 f_law.body (LR (some (.list (xs.map .int))) .none .none .none .none .none .none .none .none .none .none .none .none .none .none .none) [] = some (.ret (.bool true), r1, s1) by
    obtain ⟨r1, s1, h⟩ := h
    exact ⟨s1, call_of (fn := f_law) rfl rfl h⟩
  dsimp only [f_law]
  generalize hX : (⟨P.globs, callF P 29⟩ : Env') = X
  have hF : ∀ f a s, X.F f a s = callF P 29 f a s := by rw [← hX]; intro f a s; rfl
  refine exs_e (r' := (LR (some (.list (xs.map .int))) (some (.int 7)) .none .none .none .none .none .none .none .none .none .none .none .none .none .none)) (s' := []) rfl ?_
  obtain ⟨a2, e2⟩ := num_loop (X := X) (s := []) (a0 := (some (.list (xs.map .int)))) (a3 := .none) (a4 := .none) (a5 := .none) (a6 := .none) (a7 := .none) (a8 := .none) (a9 := .none) (a10 := .none) (a11 := .none) (a12 := .none) (a13 := .none) (a14 := .none) (a15 := .none) xs 7 .none
  refine exs_e (for_list rfl e2) ?_
  have e3 : ev X (.call 21 [.bi .abs [.var 1]]) (LR (some (.list (xs.map .int))) (some (.int (numOf xs))) a2 .none .none .none .none .none .none .none .none .none .none .none .none .none) [] = some (.list (ch.map rowD), [.dead]) := ev_call1 rfl (fun _ q => nomatch q) ((hF _ _ _).trans hrows)
  refine exs_e (ex_assign (r' := (LR (some (.list (xs.map .int))) (some (.int (numOf xs))) a2 (some (.list (ch.map rowD))) .none .none .none .none .none .none .none .none .none .none .none .none)) e3 rfl) ?_
  have e4 := times_eq (X := X) (s := [.dead]) (xs := xs) hx (v := 16) (r := (LR (some (.list (xs.map .int))) (some (.int (numOf xs))) a2 (some (.list (ch.map rowD))) .none .none .none .none .none .none .none .none .none .none .none .none)) rfl (by show 16 < 30; decide)
  rw [htms] at e4
  refine exs_e (ex_assign (r' := (LR (some (.list (xs.map .int))) (some (.int (numOf xs))) a2 (some (.list (ch.map rowD))) (some (.list (tms.map .int))) .none .none .none .none .none .none .none .none .none .none .none)) e4 rfl) ?_
  refine exs_e (r' := (LR (some (.list (xs.map .int))) (some (.int (numOf xs))) a2 (some (.list (ch.map rowD))) (some (.list (tms.map .int))) (some (.ref 1)) .none .none .none .none .none .none .none .none .none .none)) (s' := [.dead] ++ [.list []]) rfl ?_
  obtain ⟨a6, e6⟩ := more_loop (X := X) (s0 := [.dead]) hc htm (by omega) (a0 := (some (.list (xs.map .int)))) (a1 := (some (.int (numOf xs)))) (a2 := a2) four4 [] .none (fun a h => h) (by simp [four4])
  refine exs_e (for_rng (a := 0) (c := 4) (s' := ([O.dead] ++ [O.list []] : Store)) rfl e6) ?_
  refine exs_e (r' := (LR (some (.list (xs.map .int))) (some (.int (numOf xs))) a2 (some (.list (ch.map rowD))) (some (.list (tms.map .int))) (some (moreD (Mc ch tms))) a6 .none .none .none .none .none .none .none .none .none)) (s' := [.dead, .dead]) rfl ?_
  refine exs_e (r' := (LR (some (.list (xs.map .int))) (some (.int (numOf xs))) a2 (some (.list (ch.map rowD))) (some (.list (tms.map .int))) (some (moreD (Mc ch tms))) a6 (some (.ref 2)) .none .none .none .none .none .none .none .none)) (s' := [.dead, .dead] ++ [.list four]) rfl ?_
  have hle : four.length + ((psOf (Mc ch tms)).map pairD).length ≤ lim := by
    rw [List.length_map]
    have : four.length = 4 := rfl
    unfold lim; omega
  have e9 := ev_bmeth (X := X) (o := .var 7) (m := .extend) (r := (LR (some (.list (xs.map .int))) (some (.int (numOf xs))) a2 (some (.list (ch.map rowD))) (some (.list (tms.map .int))) (some (moreD (Mc ch tms))) a6 (some (.ref 2)) .none .none .none .none .none .none .none .none)) (s := [.dead, .dead] ++ [.list four]) (d := .ref 2) (q := (.none, [.dead, .dead] ++ [.list (four ++ (psOf (Mc ch tms)).map pairD)])) rfl rfl (evs1 (needs_comp (mm := Mc ch tms) rfl (by show 21 < 30; decide)) (fun _ q => nomatch q)) (extL_at (l := four) rfl hle rfl)
  refine exs_e (ex_expr e9) ?_
  refine exs_e (r' := (LR (some (.list (xs.map .int))) (some (.int (numOf xs))) a2 (some (.list (ch.map rowD))) (some (.list (tms.map .int))) (some (moreD (Mc ch tms))) a6 (some (needsD (psOf (Mc ch tms)))) .none .none .none .none .none .none .none .none)) (s' := [.dead, .dead, .dead]) rfl ?_
  exact hmid X hX hF a2 a6
end P02
end
end Mine
end
set_option maxRecDepth 100000 in
theorem PySem.Challenge.cw_dn0070_02_holds : PySem.Challenge.rw_dn0070_02.Holds :=
  Mine.P02.holds Mine.P02.law_pure
