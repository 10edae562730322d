import PyProof.Rows.All
import Wide.All
import OpenK.AllK
import Wide.FinOn
import PySem.Sre
import KE.BitLaws
import KE.KMulAny
import KE.IntBitsLaws
import KE.KRevIter
import KE.FramesApart
import PyProof.StationsW
import PyProof.ExcAttrAll.ZeroDivisionError
import KE.KNest
import Lean
import PySem.Challenge.RW_uk0007_01
set_option Elab.async false
set_option tactic.hygienic false
set_option genInjectivity false
set_option genSizeOf false
set_option bootstrap.genMatcherCode false
set_option compiler.extract_closed false
section
set_option linter.unusedVariables false
namespace Mine
/-! short forms of what a tactic would spell at length -/
theorem ns1 {a b : Nat} (h : b < a) : a - b = a - (b + 1) + 1 := (Nat.succ_pred_eq_of_pos (Nat.sub_pos_of_lt h)).symm
theorem mid1 {k L R M : Nat} (h : R - L ≤ k + 1) (h1 : L < M) (h2 : M < R) : M - L ≤ k := Nat.le_of_lt_succ (Nat.lt_of_lt_of_le (Nat.sub_lt_sub_right (Nat.le_of_lt h1) h2) h)
theorem mid2 {k L R M : Nat} (h : R - L ≤ k + 1) (h1 : L < M) (h2 : L < R) : R - M ≤ k := Nat.le_of_lt_succ (Nat.lt_of_lt_of_le (Nat.sub_lt_sub_left h2 h1) h)
theorem mid3 {L R M : Nat} (h1 : L < M) (h2 : M < R) : R - L = (M - L) + (R - M) := (Nat.sub_add_sub_cancel (Nat.le_of_lt h2) (Nat.le_of_lt h1)).symm.trans (Nat.add_comm _ _)
theorem nsE {α : Type} {a : α} {G : Prop} (e : none = some a) : G := nomatch e
theorem snE {α : Type} {a : α} {G : Prop} (e : some a = none) : G := nomatch e
theorem ftE {G : Prop} (e : false = true) : G := nomatch e
theorem tfE {G : Prop} (e : true = false) : G := nomatch e
theorem sj1 {α : Type} {a b : α} {G : Prop} (e : some a = some b) (k : a = b → G) : G := k (Option.some.inj e)
theorem sj2 {α β : Type} {a c : α} {b d : β} {G : Prop} (e : some (a, b) = some (c, d)) (k : a = c → b = d → G) : G := k (congrArg Prod.fst (Option.some.inj e)) (congrArg Prod.snd (Option.some.inj e))
theorem sj3 {α β γ : Type} {a c : α} {b d : β} {x y : γ} {G : Prop} (e : some (a, b, x) = some (c, d, y)) (k : a = c → b = d → x = y → G) : G := k (congrArg Prod.fst (Option.some.inj e)) (congrArg (fun p => p.2.1) (Option.some.inj e)) (congrArg (fun p => p.2.2) (Option.some.inj e))
theorem andE {a b : Bool} {G : Prop} (e : (a && b) = true) (k : a = true → b = true → G) : G := k (Bool.and_eq_true_iff.mp e).1 (Bool.and_eq_true_iff.mp e).2
theorem notE {b : Bool} (e : (!b) = true) : b = false := by cases b with | false => rfl | true => exact nomatch e
theorem anyE {α : Type} {x : Option α} {p : α → Bool} {G : Prop} (e : x.any p = true) (k : ∀ o, x = some o → p o = true → G) : G := by
  cases x with
  | none => exact nomatch e
  | some o => exact k o rfl e
theorem bindE {α β : Type} {x : Option α} {f : α → Option β} {b : β} {G : Prop} (e : x.bind f = some b) (k : ∀ o, x = some o → f o = some b → G) : G := by
  cases x with
  | none => exact nomatch e
  | some o => exact k o rfl e
theorem p2a {α β : Type} {a c : α} {b d : β} (e : some (a, b) = some (c, d)) : a = c := congrArg Prod.fst (Option.some.inj e)
theorem p2b {α β : Type} {a c : α} {b d : β} (e : some (a, b) = some (c, d)) : b = d := congrArg Prod.snd (Option.some.inj e)
theorem p3b {α β γ : Type} {a c : α} {b d : β} {x y : γ} (e : some (a, b, x) = some (c, d, y)) : b = d := congrArg (·.2.1) (Option.some.inj e)
theorem p3c {α β γ : Type} {a c : α} {b d : β} {x y : γ} (e : some (a, b, x) = some (c, d, y)) : x = y := congrArg (·.2.2) (Option.some.inj e)
theorem inE {α : Type} {a b : α} {P : α → Prop} (e : some a = some b) (k : P a) : P b := Option.some.inj e ▸ k
theorem hid {G : Prop} (h : ∀ P : Prop, (G → P) → P) : G := h G id
theorem spB {β : Type} {m : Bool → (Unit → β) → (Unit → β) → β} {c : Bool} {t f : Unit → β} {r : β} {G : Prop} (e : m c t f = r) (ht : ∀ t f, m true t f = t ()) (hf : ∀ t f, m false t f = f ()) (h1 : c = true → t () = r → G) (h2 : c = false → f () = r → G) : G := by
  cases c with
  | false => exact h2 rfl (hf t f ▸ e)
  | true => exact h1 rfl (ht t f ▸ e)
theorem spB' {β : Type} {m : Bool → (Unit → β) → (Unit → β) → β} {c : Bool} {t f : Unit → β} {r : β} {G : Prop} (e : m c f t = r) (ht : ∀ f t, m true f t = t ()) (hf : ∀ f t, m false f t = f ()) (h1 : c = false → f () = r → G) (h2 : c = true → t () = r → G) : G := by
  cases c with
  | false => exact h1 rfl (hf f t ▸ e)
  | true => exact h2 rfl (ht f t ▸ e)
theorem spBB {β : Type} {m : Bool → Bool → (Unit → β) → (Bool → Bool → β) → β} {c d : Bool} {t : Unit → β} {f : Bool → Bool → β} {r : β} {G : Prop} (e : m c d t f = r) (h11 : ∀ t f, m true true t f = t ()) (h10 : ∀ t f, m true false t f = f true false) (h0 : ∀ d t f, m false d t f = f false d)
    (h1 : c = true → d = true → t () = r → G) (h2 : f c d = r → G) : G := by
  cases c with
  | false => exact h2 (h0 d t f ▸ e)
  | true => cases d with
    | false => exact h2 (h10 t f ▸ e)
    | true => exact h1 rfl rfl (h11 t f ▸ e)
theorem spBBB {β : Type} {m : Bool → Bool → Bool → (Unit → β) → (Bool → Bool → Bool → β) → β} {c d b : Bool} {t : Unit → β} {f : Bool → Bool → Bool → β} {r : β} {G : Prop} (e : m c d b t f = r) (h111 : ∀ t f, m true true true t f = t ()) (h110 : ∀ t f, m true true false t f = f true true false) (h10 : ∀ b t f, m true false b t f = f true false b) (h0 : ∀ d b t f, m false d b t f = f false d b)
    (h1 : c = true → d = true → b = true → t () = r → G) (h2 : f c d b = r → G) : G := by
  cases c with
  | false => exact h2 (h0 d b t f ▸ e)
  | true => cases d with
    | false => exact h2 (h10 b t f ▸ e)
    | true => cases b with
      | false => exact h2 (h110 t f ▸ e)
      | true => exact h1 rfl rfl rfl (h111 t f ▸ e)
theorem spO {α β : Type} {m : Option α → (α → β) → (Unit → β) → β} {o : Option α} {f : α → β} {n : Unit → β} {r : β} {G : Prop} (e : m o f n = r) (hs : ∀ a f n, m (some a) f n = f a) (hn : ∀ f n, m none f n = n ()) (h1 : ∀ a, o = some a → f a = r → G) (h2 : o = none → n () = r → G) : G := by
  cases o with
  | none => exact h2 rfl (hn f n ▸ e)
  | some a => exact h1 a rfl (hs a f n ▸ e)
theorem spO' {α β : Type} {m : Option α → (Unit → β) → (α → β) → β} {o : Option α} {f : α → β} {n : Unit → β} {r : β} {G : Prop} (e : m o n f = r) (hs : ∀ a n f, m (some a) n f = f a) (hn : ∀ n f, m none n f = n ()) (h1 : o = none → n () = r → G) (h2 : ∀ a, o = some a → f a = r → G) : G := by
  cases o with
  | none => exact h1 rfl (hn n f ▸ e)
  | some a => exact h2 a rfl (hs a n f ▸ e)
theorem spP {α γ β : Type} {m : Option (α × γ) → (α → γ → β) → (Unit → β) → β} {o : Option (α × γ)} {f : α → γ → β} {n : Unit → β} {r : β} {G : Prop} (e : m o f n = r) (hs : ∀ a b f n, m (some (a, b)) f n = f a b) (hn : ∀ f n, m none f n = n ()) (h1 : ∀ a b, o = some (a, b) → f a b = r → G) (h2 : o = none → n () = r → G) : G := by
  cases o with
  | none => exact h2 rfl (hn f n ▸ e)
  | some a => exact h1 a.1 a.2 rfl (hs a.1 a.2 f n ▸ e)
theorem spP' {α γ β : Type} {m : Option (α × γ) → (Unit → β) → (α → γ → β) → β} {o : Option (α × γ)} {f : α → γ → β} {n : Unit → β} {r : β} {G : Prop} (e : m o n f = r) (hs : ∀ a b n f, m (some (a, b)) n f = f a b) (hn : ∀ n f, m none n f = n ()) (h1 : o = none → n () = r → G) (h2 : ∀ a b, o = some (a, b) → f a b = r → G) : G := by
  cases o with
  | none => exact h1 rfl (hn n f ▸ e)
  | some a => exact h2 a.1 a.2 rfl (hs a.1 a.2 n f ▸ e)
theorem oE0A2  {A B : Prop} {Z : Prop} (x : A ∧ B) (k : A → B → Z) : Z := k x.1 x.2
theorem oE0A3  {A B C : Prop} {Z : Prop} (x : A ∧ B ∧ C) (k : A → B → C → Z) : Z := k x.1 x.2.1 x.2.2
theorem oE0A4  {A B C D : Prop} {Z : Prop} (x : A ∧ B ∧ C ∧ D) (k : A → B → C → D → Z) : Z := k x.1 x.2.1 x.2.2.1 x.2.2.2
theorem oE0A5  {A B C D E : Prop} {Z : Prop} (x : A ∧ B ∧ C ∧ D ∧ E) (k : A → B → C → D → E → Z) : Z := k x.1 x.2.1 x.2.2.1 x.2.2.2.1 x.2.2.2.2
theorem oE0A6  {A B C D E F : Prop} {Z : Prop} (x : A ∧ B ∧ C ∧ D ∧ E ∧ F) (k : A → B → C → D → E → F → Z) : Z := k x.1 x.2.1 x.2.2.1 x.2.2.2.1 x.2.2.2.2.1 x.2.2.2.2.2
theorem oE0A7  {A B C D E F G : Prop} {Z : Prop} (x : A ∧ B ∧ C ∧ D ∧ E ∧ F ∧ G) (k : A → B → C → D → E → F → G → Z) : Z := k x.1 x.2.1 x.2.2.1 x.2.2.2.1 x.2.2.2.2.1 x.2.2.2.2.2.1 x.2.2.2.2.2.2
theorem oE0A8  {A B C D E F G H : Prop} {Z : Prop} (x : A ∧ B ∧ C ∧ D ∧ E ∧ F ∧ G ∧ H) (k : A → B → C → D → E → F → G → H → Z) : Z := k x.1 x.2.1 x.2.2.1 x.2.2.2.1 x.2.2.2.2.1 x.2.2.2.2.2.1 x.2.2.2.2.2.2.1 x.2.2.2.2.2.2.2
theorem oE0A9  {A B C D E F G H I : Prop} {Z : Prop} (x : A ∧ B ∧ C ∧ D ∧ E ∧ F ∧ G ∧ H ∧ I) (k : A → B → C → D → E → F → G → H → I → Z) : Z := k x.1 x.2.1 x.2.2.1 x.2.2.2.1 x.2.2.2.2.1 x.2.2.2.2.2.1 x.2.2.2.2.2.2.1 x.2.2.2.2.2.2.2.1 x.2.2.2.2.2.2.2.2
theorem oE0A10  {A B C D E F G H I J : Prop} {Z : Prop} (x : A ∧ B ∧ C ∧ D ∧ E ∧ F ∧ G ∧ H ∧ I ∧ J) (k : A → B → C → D → E → F → G → H → I → J → Z) : Z := k x.1 x.2.1 x.2.2.1 x.2.2.2.1 x.2.2.2.2.1 x.2.2.2.2.2.1 x.2.2.2.2.2.2.1 x.2.2.2.2.2.2.2.1 x.2.2.2.2.2.2.2.2.1 x.2.2.2.2.2.2.2.2.2
theorem oE1A1.{u1} {α1 : Sort u1} {A : α1 → Prop} {Z : Prop} (x : ∃ x1, A x1) (k : ∀ x1, A x1 → Z) : Z := x.elim fun x1 y1 => k x1 y1
theorem oE1A2.{u1} {α1 : Sort u1} {A B : α1 → Prop} {Z : Prop} (x : ∃ x1, A x1 ∧ B x1) (k : ∀ x1, A x1 → B x1 → Z) : Z := x.elim fun x1 y1 => k x1 y1.1 y1.2
theorem oE1A3.{u1} {α1 : Sort u1} {A B C : α1 → Prop} {Z : Prop} (x : ∃ x1, A x1 ∧ B x1 ∧ C x1) (k : ∀ x1, A x1 → B x1 → C x1 → Z) : Z := x.elim fun x1 y1 => k x1 y1.1 y1.2.1 y1.2.2
theorem oE1A4.{u1} {α1 : Sort u1} {A B C D : α1 → Prop} {Z : Prop} (x : ∃ x1, A x1 ∧ B x1 ∧ C x1 ∧ D x1) (k : ∀ x1, A x1 → B x1 → C x1 → D x1 → Z) : Z := x.elim fun x1 y1 => k x1 y1.1 y1.2.1 y1.2.2.1 y1.2.2.2
theorem oE1A5.{u1} {α1 : Sort u1} {A B C D E : α1 → Prop} {Z : Prop} (x : ∃ x1, A x1 ∧ B x1 ∧ C x1 ∧ D x1 ∧ E x1) (k : ∀ x1, A x1 → B x1 → C x1 → D x1 → E x1 → Z) : Z := x.elim fun x1 y1 => k x1 y1.1 y1.2.1 y1.2.2.1 y1.2.2.2.1 y1.2.2.2.2
theorem oE1A6.{u1} {α1 : Sort u1} {A B C D E F : α1 → Prop} {Z : Prop} (x : ∃ x1, A x1 ∧ B x1 ∧ C x1 ∧ D x1 ∧ E x1 ∧ F x1) (k : ∀ x1, A x1 → B x1 → C x1 → D x1 → E x1 → F x1 → Z) : Z := x.elim fun x1 y1 => k x1 y1.1 y1.2.1 y1.2.2.1 y1.2.2.2.1 y1.2.2.2.2.1 y1.2.2.2.2.2
theorem oE1A7.{u1} {α1 : Sort u1} {A B C D E F G : α1 → Prop} {Z : Prop} (x : ∃ x1, A x1 ∧ B x1 ∧ C x1 ∧ D x1 ∧ E x1 ∧ F x1 ∧ G x1) (k : ∀ x1, A x1 → B x1 → C x1 → D x1 → E x1 → F x1 → G x1 → Z) : Z := x.elim fun x1 y1 => k x1 y1.1 y1.2.1 y1.2.2.1 y1.2.2.2.1 y1.2.2.2.2.1 y1.2.2.2.2.2.1 y1.2.2.2.2.2.2
theorem oE1A8.{u1} {α1 : Sort u1} {A B C D E F G H : α1 → Prop} {Z : Prop} (x : ∃ x1, A x1 ∧ B x1 ∧ C x1 ∧ D x1 ∧ E x1 ∧ F x1 ∧ G x1 ∧ H x1) (k : ∀ x1, A x1 → B x1 → C x1 → D x1 → E x1 → F x1 → G x1 → H x1 → Z) : Z := x.elim fun x1 y1 => k x1 y1.1 y1.2.1 y1.2.2.1 y1.2.2.2.1 y1.2.2.2.2.1 y1.2.2.2.2.2.1 y1.2.2.2.2.2.2.1 y1.2.2.2.2.2.2.2
theorem oE1A9.{u1} {α1 : Sort u1} {A B C D E F G H I : α1 → Prop} {Z : Prop} (x : ∃ x1, A x1 ∧ B x1 ∧ C x1 ∧ D x1 ∧ E x1 ∧ F x1 ∧ G x1 ∧ H x1 ∧ I x1) (k : ∀ x1, A x1 → B x1 → C x1 → D x1 → E x1 → F x1 → G x1 → H x1 → I x1 → Z) : Z := x.elim fun x1 y1 => k x1 y1.1 y1.2.1 y1.2.2.1 y1.2.2.2.1 y1.2.2.2.2.1 y1.2.2.2.2.2.1 y1.2.2.2.2.2.2.1 y1.2.2.2.2.2.2.2.1 y1.2.2.2.2.2.2.2.2
theorem oE1A10.{u1} {α1 : Sort u1} {A B C D E F G H I J : α1 → Prop} {Z : Prop} (x : ∃ x1, A x1 ∧ B x1 ∧ C x1 ∧ D x1 ∧ E x1 ∧ F x1 ∧ G x1 ∧ H x1 ∧ I x1 ∧ J x1) (k : ∀ x1, A x1 → B x1 → C x1 → D x1 → E x1 → F x1 → G x1 → H x1 → I x1 → J x1 → Z) : Z := x.elim fun x1 y1 => k x1 y1.1 y1.2.1 y1.2.2.1 y1.2.2.2.1 y1.2.2.2.2.1 y1.2.2.2.2.2.1 y1.2.2.2.2.2.2.1 y1.2.2.2.2.2.2.2.1 y1.2.2.2.2.2.2.2.2.1 y1.2.2.2.2.2.2.2.2.2
theorem oE2A1.{u1, u2} {α1 : Sort u1} {α2 : Sort u2} {A : α1 → α2 → Prop} {Z : Prop} (x : ∃ x1 x2, A x1 x2) (k : ∀ x1 x2, A x1 x2 → Z) : Z := x.elim fun x1 y1 => y1.elim fun x2 y2 => k x1 x2 y2
theorem oE2A2.{u1, u2} {α1 : Sort u1} {α2 : Sort u2} {A B : α1 → α2 → Prop} {Z : Prop} (x : ∃ x1 x2, A x1 x2 ∧ B x1 x2) (k : ∀ x1 x2, A x1 x2 → B x1 x2 → Z) : Z := x.elim fun x1 y1 => y1.elim fun x2 y2 => k x1 x2 y2.1 y2.2
theorem oE2A3.{u1, u2} {α1 : Sort u1} {α2 : Sort u2} {A B C : α1 → α2 → Prop} {Z : Prop} (x : ∃ x1 x2, A x1 x2 ∧ B x1 x2 ∧ C x1 x2) (k : ∀ x1 x2, A x1 x2 → B x1 x2 → C x1 x2 → Z) : Z := x.elim fun x1 y1 => y1.elim fun x2 y2 => k x1 x2 y2.1 y2.2.1 y2.2.2
theorem oE2A4.{u1, u2} {α1 : Sort u1} {α2 : Sort u2} {A B C D : α1 → α2 → Prop} {Z : Prop} (x : ∃ x1 x2, A x1 x2 ∧ B x1 x2 ∧ C x1 x2 ∧ D x1 x2) (k : ∀ x1 x2, A x1 x2 → B x1 x2 → C x1 x2 → D x1 x2 → Z) : Z := x.elim fun x1 y1 => y1.elim fun x2 y2 => k x1 x2 y2.1 y2.2.1 y2.2.2.1 y2.2.2.2
theorem oE2A5.{u1, u2} {α1 : Sort u1} {α2 : Sort u2} {A B C D E : α1 → α2 → Prop} {Z : Prop} (x : ∃ x1 x2, A x1 x2 ∧ B x1 x2 ∧ C x1 x2 ∧ D x1 x2 ∧ E x1 x2) (k : ∀ x1 x2, A x1 x2 → B x1 x2 → C x1 x2 → D x1 x2 → E x1 x2 → Z) : Z := x.elim fun x1 y1 => y1.elim fun x2 y2 => k x1 x2 y2.1 y2.2.1 y2.2.2.1 y2.2.2.2.1 y2.2.2.2.2
theorem oE2A6.{u1, u2} {α1 : Sort u1} {α2 : Sort u2} {A B C D E F : α1 → α2 → Prop} {Z : Prop} (x : ∃ x1 x2, A x1 x2 ∧ B x1 x2 ∧ C x1 x2 ∧ D x1 x2 ∧ E x1 x2 ∧ F x1 x2) (k : ∀ x1 x2, A x1 x2 → B x1 x2 → C x1 x2 → D x1 x2 → E x1 x2 → F x1 x2 → Z) : Z := x.elim fun x1 y1 => y1.elim fun x2 y2 => k x1 x2 y2.1 y2.2.1 y2.2.2.1 y2.2.2.2.1 y2.2.2.2.2.1 y2.2.2.2.2.2
theorem oE2A7.{u1, u2} {α1 : Sort u1} {α2 : Sort u2} {A B C D E F G : α1 → α2 → Prop} {Z : Prop} (x : ∃ x1 x2, A x1 x2 ∧ B x1 x2 ∧ C x1 x2 ∧ D x1 x2 ∧ E x1 x2 ∧ F x1 x2 ∧ G x1 x2) (k : ∀ x1 x2, A x1 x2 → B x1 x2 → C x1 x2 → D x1 x2 → E x1 x2 → F x1 x2 → G x1 x2 → Z) : Z := x.elim fun x1 y1 => y1.elim fun x2 y2 => k x1 x2 y2.1 y2.2.1 y2.2.2.1 y2.2.2.2.1 y2.2.2.2.2.1 y2.2.2.2.2.2.1 y2.2.2.2.2.2.2
theorem oE2A8.{u1, u2} {α1 : Sort u1} {α2 : Sort u2} {A B C D E F G H : α1 → α2 → Prop} {Z : Prop} (x : ∃ x1 x2, A x1 x2 ∧ B x1 x2 ∧ C x1 x2 ∧ D x1 x2 ∧ E x1 x2 ∧ F x1 x2 ∧ G x1 x2 ∧ H x1 x2) (k : ∀ x1 x2, A x1 x2 → B x1 x2 → C x1 x2 → D x1 x2 → E x1 x2 → F x1 x2 → G x1 x2 → H x1 x2 → Z) : Z := x.elim fun x1 y1 => y1.elim fun x2 y2 => k x1 x2 y2.1 y2.2.1 y2.2.2.1 y2.2.2.2.1 y2.2.2.2.2.1 y2.2.2.2.2.2.1 y2.2.2.2.2.2.2.1 y2.2.2.2.2.2.2.2
theorem oE2A9.{u1, u2} {α1 : Sort u1} {α2 : Sort u2} {A B C D E F G H I : α1 → α2 → Prop} {Z : Prop} (x : ∃ x1 x2, A x1 x2 ∧ B x1 x2 ∧ C x1 x2 ∧ D x1 x2 ∧ E x1 x2 ∧ F x1 x2 ∧ G x1 x2 ∧ H x1 x2 ∧ I x1 x2) (k : ∀ x1 x2, A x1 x2 → B x1 x2 → C x1 x2 → D x1 x2 → E x1 x2 → F x1 x2 → G x1 x2 → H x1 x2 → I x1 x2 → Z) : Z := x.elim fun x1 y1 => y1.elim fun x2 y2 => k x1 x2 y2.1 y2.2.1 y2.2.2.1 y2.2.2.2.1 y2.2.2.2.2.1 y2.2.2.2.2.2.1 y2.2.2.2.2.2.2.1 y2.2.2.2.2.2.2.2.1 y2.2.2.2.2.2.2.2.2
theorem oE3A1.{u1, u2, u3} {α1 : Sort u1} {α2 : Sort u2} {α3 : Sort u3} {A : α1 → α2 → α3 → Prop} {Z : Prop} (x : ∃ x1 x2 x3, A x1 x2 x3) (k : ∀ x1 x2 x3, A x1 x2 x3 → Z) : Z := x.elim fun x1 y1 => y1.elim fun x2 y2 => y2.elim fun x3 y3 => k x1 x2 x3 y3
theorem oE3A2.{u1, u2, u3} {α1 : Sort u1} {α2 : Sort u2} {α3 : Sort u3} {A B : α1 → α2 → α3 → Prop} {Z : Prop} (x : ∃ x1 x2 x3, A x1 x2 x3 ∧ B x1 x2 x3) (k : ∀ x1 x2 x3, A x1 x2 x3 → B x1 x2 x3 → Z) : Z := x.elim fun x1 y1 => y1.elim fun x2 y2 => y2.elim fun x3 y3 => k x1 x2 x3 y3.1 y3.2
theorem oE3A3.{u1, u2, u3} {α1 : Sort u1} {α2 : Sort u2} {α3 : Sort u3} {A B C : α1 → α2 → α3 → Prop} {Z : Prop} (x : ∃ x1 x2 x3, A x1 x2 x3 ∧ B x1 x2 x3 ∧ C x1 x2 x3) (k : ∀ x1 x2 x3, A x1 x2 x3 → B x1 x2 x3 → C x1 x2 x3 → Z) : Z := x.elim fun x1 y1 => y1.elim fun x2 y2 => y2.elim fun x3 y3 => k x1 x2 x3 y3.1 y3.2.1 y3.2.2
theorem oE3A4.{u1, u2, u3} {α1 : Sort u1} {α2 : Sort u2} {α3 : Sort u3} {A B C D : α1 → α2 → α3 → Prop} {Z : Prop} (x : ∃ x1 x2 x3, A x1 x2 x3 ∧ B x1 x2 x3 ∧ C x1 x2 x3 ∧ D x1 x2 x3) (k : ∀ x1 x2 x3, A x1 x2 x3 → B x1 x2 x3 → C x1 x2 x3 → D x1 x2 x3 → Z) : Z := x.elim fun x1 y1 => y1.elim fun x2 y2 => y2.elim fun x3 y3 => k x1 x2 x3 y3.1 y3.2.1 y3.2.2.1 y3.2.2.2
theorem oE3A5.{u1, u2, u3} {α1 : Sort u1} {α2 : Sort u2} {α3 : Sort u3} {A B C D E : α1 → α2 → α3 → Prop} {Z : Prop} (x : ∃ x1 x2 x3, A x1 x2 x3 ∧ B x1 x2 x3 ∧ C x1 x2 x3 ∧ D x1 x2 x3 ∧ E x1 x2 x3) (k : ∀ x1 x2 x3, A x1 x2 x3 → B x1 x2 x3 → C x1 x2 x3 → D x1 x2 x3 → E x1 x2 x3 → Z) : Z := x.elim fun x1 y1 => y1.elim fun x2 y2 => y2.elim fun x3 y3 => k x1 x2 x3 y3.1 y3.2.1 y3.2.2.1 y3.2.2.2.1 y3.2.2.2.2
theorem oE3A6.{u1, u2, u3} {α1 : Sort u1} {α2 : Sort u2} {α3 : Sort u3} {A B C D E F : α1 → α2 → α3 → Prop} {Z : Prop} (x : ∃ x1 x2 x3, A x1 x2 x3 ∧ B x1 x2 x3 ∧ C x1 x2 x3 ∧ D x1 x2 x3 ∧ E x1 x2 x3 ∧ F x1 x2 x3) (k : ∀ x1 x2 x3, A x1 x2 x3 → B x1 x2 x3 → C x1 x2 x3 → D x1 x2 x3 → E x1 x2 x3 → F x1 x2 x3 → Z) : Z := x.elim fun x1 y1 => y1.elim fun x2 y2 => y2.elim fun x3 y3 => k x1 x2 x3 y3.1 y3.2.1 y3.2.2.1 y3.2.2.2.1 y3.2.2.2.2.1 y3.2.2.2.2.2
theorem oE3A7.{u1, u2, u3} {α1 : Sort u1} {α2 : Sort u2} {α3 : Sort u3} {A B C D E F G : α1 → α2 → α3 → Prop} {Z : Prop} (x : ∃ x1 x2 x3, A x1 x2 x3 ∧ B x1 x2 x3 ∧ C x1 x2 x3 ∧ D x1 x2 x3 ∧ E x1 x2 x3 ∧ F x1 x2 x3 ∧ G x1 x2 x3) (k : ∀ x1 x2 x3, A x1 x2 x3 → B x1 x2 x3 → C x1 x2 x3 → D x1 x2 x3 → E x1 x2 x3 → F x1 x2 x3 → G x1 x2 x3 → Z) : Z := x.elim fun x1 y1 => y1.elim fun x2 y2 => y2.elim fun x3 y3 => k x1 x2 x3 y3.1 y3.2.1 y3.2.2.1 y3.2.2.2.1 y3.2.2.2.2.1 y3.2.2.2.2.2.1 y3.2.2.2.2.2.2
theorem oE3A8.{u1, u2, u3} {α1 : Sort u1} {α2 : Sort u2} {α3 : Sort u3} {A B C D E F G H : α1 → α2 → α3 → Prop} {Z : Prop} (x : ∃ x1 x2 x3, A x1 x2 x3 ∧ B x1 x2 x3 ∧ C x1 x2 x3 ∧ D x1 x2 x3 ∧ E x1 x2 x3 ∧ F x1 x2 x3 ∧ G x1 x2 x3 ∧ H x1 x2 x3) (k : ∀ x1 x2 x3, A x1 x2 x3 → B x1 x2 x3 → C x1 x2 x3 → D x1 x2 x3 → E x1 x2 x3 → F x1 x2 x3 → G x1 x2 x3 → H x1 x2 x3 → Z) : Z := x.elim fun x1 y1 => y1.elim fun x2 y2 => y2.elim fun x3 y3 => k x1 x2 x3 y3.1 y3.2.1 y3.2.2.1 y3.2.2.2.1 y3.2.2.2.2.1 y3.2.2.2.2.2.1 y3.2.2.2.2.2.2.1 y3.2.2.2.2.2.2.2
theorem oE4A1.{u1, u2, u3, u4} {α1 : Sort u1} {α2 : Sort u2} {α3 : Sort u3} {α4 : Sort u4} {A : α1 → α2 → α3 → α4 → Prop} {Z : Prop} (x : ∃ x1 x2 x3 x4, A x1 x2 x3 x4) (k : ∀ x1 x2 x3 x4, A x1 x2 x3 x4 → Z) : Z := x.elim fun x1 y1 => y1.elim fun x2 y2 => y2.elim fun x3 y3 => y3.elim fun x4 y4 => k x1 x2 x3 x4 y4
theorem oE4A2.{u1, u2, u3, u4} {α1 : Sort u1} {α2 : Sort u2} {α3 : Sort u3} {α4 : Sort u4} {A B : α1 → α2 → α3 → α4 → Prop} {Z : Prop} (x : ∃ x1 x2 x3 x4, A x1 x2 x3 x4 ∧ B x1 x2 x3 x4) (k : ∀ x1 x2 x3 x4, A x1 x2 x3 x4 → B x1 x2 x3 x4 → Z) : Z := x.elim fun x1 y1 => y1.elim fun x2 y2 => y2.elim fun x3 y3 => y3.elim fun x4 y4 => k x1 x2 x3 x4 y4.1 y4.2
theorem oE4A3.{u1, u2, u3, u4} {α1 : Sort u1} {α2 : Sort u2} {α3 : Sort u3} {α4 : Sort u4} {A B C : α1 → α2 → α3 → α4 → Prop} {Z : Prop} (x : ∃ x1 x2 x3 x4, A x1 x2 x3 x4 ∧ B x1 x2 x3 x4 ∧ C x1 x2 x3 x4) (k : ∀ x1 x2 x3 x4, A x1 x2 x3 x4 → B x1 x2 x3 x4 → C x1 x2 x3 x4 → Z) : Z := x.elim fun x1 y1 => y1.elim fun x2 y2 => y2.elim fun x3 y3 => y3.elim fun x4 y4 => k x1 x2 x3 x4 y4.1 y4.2.1 y4.2.2
theorem oE4A4.{u1, u2, u3, u4} {α1 : Sort u1} {α2 : Sort u2} {α3 : Sort u3} {α4 : Sort u4} {A B C D : α1 → α2 → α3 → α4 → Prop} {Z : Prop} (x : ∃ x1 x2 x3 x4, A x1 x2 x3 x4 ∧ B x1 x2 x3 x4 ∧ C x1 x2 x3 x4 ∧ D x1 x2 x3 x4) (k : ∀ x1 x2 x3 x4, A x1 x2 x3 x4 → B x1 x2 x3 x4 → C x1 x2 x3 x4 → D x1 x2 x3 x4 → Z) : Z := x.elim fun x1 y1 => y1.elim fun x2 y2 => y2.elim fun x3 y3 => y3.elim fun x4 y4 => k x1 x2 x3 x4 y4.1 y4.2.1 y4.2.2.1 y4.2.2.2
theorem oE4A5.{u1, u2, u3, u4} {α1 : Sort u1} {α2 : Sort u2} {α3 : Sort u3} {α4 : Sort u4} {A B C D E : α1 → α2 → α3 → α4 → Prop} {Z : Prop} (x : ∃ x1 x2 x3 x4, A x1 x2 x3 x4 ∧ B x1 x2 x3 x4 ∧ C x1 x2 x3 x4 ∧ D x1 x2 x3 x4 ∧ E x1 x2 x3 x4) (k : ∀ x1 x2 x3 x4, A x1 x2 x3 x4 → B x1 x2 x3 x4 → C x1 x2 x3 x4 → D x1 x2 x3 x4 → E x1 x2 x3 x4 → Z) : Z := x.elim fun x1 y1 => y1.elim fun x2 y2 => y2.elim fun x3 y3 => y3.elim fun x4 y4 => k x1 x2 x3 x4 y4.1 y4.2.1 y4.2.2.1 y4.2.2.2.1 y4.2.2.2.2
theorem oE4A6.{u1, u2, u3, u4} {α1 : Sort u1} {α2 : Sort u2} {α3 : Sort u3} {α4 : Sort u4} {A B C D E F : α1 → α2 → α3 → α4 → Prop} {Z : Prop} (x : ∃ x1 x2 x3 x4, A x1 x2 x3 x4 ∧ B x1 x2 x3 x4 ∧ C x1 x2 x3 x4 ∧ D x1 x2 x3 x4 ∧ E x1 x2 x3 x4 ∧ F x1 x2 x3 x4) (k : ∀ x1 x2 x3 x4, A x1 x2 x3 x4 → B x1 x2 x3 x4 → C x1 x2 x3 x4 → D x1 x2 x3 x4 → E x1 x2 x3 x4 → F x1 x2 x3 x4 → Z) : Z := x.elim fun x1 y1 => y1.elim fun x2 y2 => y2.elim fun x3 y3 => y3.elim fun x4 y4 => k x1 x2 x3 x4 y4.1 y4.2.1 y4.2.2.1 y4.2.2.2.1 y4.2.2.2.2.1 y4.2.2.2.2.2
theorem oE4A7.{u1, u2, u3, u4} {α1 : Sort u1} {α2 : Sort u2} {α3 : Sort u3} {α4 : Sort u4} {A B C D E F G : α1 → α2 → α3 → α4 → Prop} {Z : Prop} (x : ∃ x1 x2 x3 x4, A x1 x2 x3 x4 ∧ B x1 x2 x3 x4 ∧ C x1 x2 x3 x4 ∧ D x1 x2 x3 x4 ∧ E x1 x2 x3 x4 ∧ F x1 x2 x3 x4 ∧ G x1 x2 x3 x4) (k : ∀ x1 x2 x3 x4, A x1 x2 x3 x4 → B x1 x2 x3 x4 → C x1 x2 x3 x4 → D x1 x2 x3 x4 → E x1 x2 x3 x4 → F x1 x2 x3 x4 → G x1 x2 x3 x4 → Z) : Z := x.elim fun x1 y1 => y1.elim fun x2 y2 => y2.elim fun x3 y3 => y3.elim fun x4 y4 => k x1 x2 x3 x4 y4.1 y4.2.1 y4.2.2.1 y4.2.2.2.1 y4.2.2.2.2.1 y4.2.2.2.2.2.1 y4.2.2.2.2.2.2
theorem oE5A1.{u1, u2, u3, u4, u5} {α1 : Sort u1} {α2 : Sort u2} {α3 : Sort u3} {α4 : Sort u4} {α5 : Sort u5} {A : α1 → α2 → α3 → α4 → α5 → Prop} {Z : Prop} (x : ∃ x1 x2 x3 x4 x5, A x1 x2 x3 x4 x5) (k : ∀ x1 x2 x3 x4 x5, A x1 x2 x3 x4 x5 → Z) : Z := x.elim fun x1 y1 => y1.elim fun x2 y2 => y2.elim fun x3 y3 => y3.elim fun x4 y4 => y4.elim fun x5 y5 => k x1 x2 x3 x4 x5 y5
theorem oE5A2.{u1, u2, u3, u4, u5} {α1 : Sort u1} {α2 : Sort u2} {α3 : Sort u3} {α4 : Sort u4} {α5 : Sort u5} {A B : α1 → α2 → α3 → α4 → α5 → Prop} {Z : Prop} (x : ∃ x1 x2 x3 x4 x5, A x1 x2 x3 x4 x5 ∧ B x1 x2 x3 x4 x5) (k : ∀ x1 x2 x3 x4 x5, A x1 x2 x3 x4 x5 → B x1 x2 x3 x4 x5 → Z) : Z := x.elim fun x1 y1 => y1.elim fun x2 y2 => y2.elim fun x3 y3 => y3.elim fun x4 y4 => y4.elim fun x5 y5 => k x1 x2 x3 x4 x5 y5.1 y5.2
theorem oE5A3.{u1, u2, u3, u4, u5} {α1 : Sort u1} {α2 : Sort u2} {α3 : Sort u3} {α4 : Sort u4} {α5 : Sort u5} {A B C : α1 → α2 → α3 → α4 → α5 → Prop} {Z : Prop} (x : ∃ x1 x2 x3 x4 x5, A x1 x2 x3 x4 x5 ∧ B x1 x2 x3 x4 x5 ∧ C x1 x2 x3 x4 x5) (k : ∀ x1 x2 x3 x4 x5, A x1 x2 x3 x4 x5 → B x1 x2 x3 x4 x5 → C x1 x2 x3 x4 x5 → Z) : Z := x.elim fun x1 y1 => y1.elim fun x2 y2 => y2.elim fun x3 y3 => y3.elim fun x4 y4 => y4.elim fun x5 y5 => k x1 x2 x3 x4 x5 y5.1 y5.2.1 y5.2.2
theorem oE5A4.{u1, u2, u3, u4, u5} {α1 : Sort u1} {α2 : Sort u2} {α3 : Sort u3} {α4 : Sort u4} {α5 : Sort u5} {A B C D : α1 → α2 → α3 → α4 → α5 → Prop} {Z : Prop} (x : ∃ x1 x2 x3 x4 x5, A x1 x2 x3 x4 x5 ∧ B x1 x2 x3 x4 x5 ∧ C x1 x2 x3 x4 x5 ∧ D x1 x2 x3 x4 x5) (k : ∀ x1 x2 x3 x4 x5, A x1 x2 x3 x4 x5 → B x1 x2 x3 x4 x5 → C x1 x2 x3 x4 x5 → D x1 x2 x3 x4 x5 → Z) : Z := x.elim fun x1 y1 => y1.elim fun x2 y2 => y2.elim fun x3 y3 => y3.elim fun x4 y4 => y4.elim fun x5 y5 => k x1 x2 x3 x4 x5 y5.1 y5.2.1 y5.2.2.1 y5.2.2.2
theorem oE5A5.{u1, u2, u3, u4, u5} {α1 : Sort u1} {α2 : Sort u2} {α3 : Sort u3} {α4 : Sort u4} {α5 : Sort u5} {A B C D E : α1 → α2 → α3 → α4 → α5 → Prop} {Z : Prop} (x : ∃ x1 x2 x3 x4 x5, A x1 x2 x3 x4 x5 ∧ B x1 x2 x3 x4 x5 ∧ C x1 x2 x3 x4 x5 ∧ D x1 x2 x3 x4 x5 ∧ E x1 x2 x3 x4 x5) (k : ∀ x1 x2 x3 x4 x5, A x1 x2 x3 x4 x5 → B x1 x2 x3 x4 x5 → C x1 x2 x3 x4 x5 → D x1 x2 x3 x4 x5 → E x1 x2 x3 x4 x5 → Z) : Z := x.elim fun x1 y1 => y1.elim fun x2 y2 => y2.elim fun x3 y3 => y3.elim fun x4 y4 => y4.elim fun x5 y5 => k x1 x2 x3 x4 x5 y5.1 y5.2.1 y5.2.2.1 y5.2.2.2.1 y5.2.2.2.2
theorem oE5A6.{u1, u2, u3, u4, u5} {α1 : Sort u1} {α2 : Sort u2} {α3 : Sort u3} {α4 : Sort u4} {α5 : Sort u5} {A B C D E F : α1 → α2 → α3 → α4 → α5 → Prop} {Z : Prop} (x : ∃ x1 x2 x3 x4 x5, A x1 x2 x3 x4 x5 ∧ B x1 x2 x3 x4 x5 ∧ C x1 x2 x3 x4 x5 ∧ D x1 x2 x3 x4 x5 ∧ E x1 x2 x3 x4 x5 ∧ F x1 x2 x3 x4 x5) (k : ∀ x1 x2 x3 x4 x5, A x1 x2 x3 x4 x5 → B x1 x2 x3 x4 x5 → C x1 x2 x3 x4 x5 → D x1 x2 x3 x4 x5 → E x1 x2 x3 x4 x5 → F x1 x2 x3 x4 x5 → Z) : Z := x.elim fun x1 y1 => y1.elim fun x2 y2 => y2.elim fun x3 y3 => y3.elim fun x4 y4 => y4.elim fun x5 y5 => k x1 x2 x3 x4 x5 y5.1 y5.2.1 y5.2.2.1 y5.2.2.2.1 y5.2.2.2.2.1 y5.2.2.2.2.2
theorem oE6A1.{u1, u2, u3, u4, u5, u6} {α1 : Sort u1} {α2 : Sort u2} {α3 : Sort u3} {α4 : Sort u4} {α5 : Sort u5} {α6 : Sort u6} {A : α1 → α2 → α3 → α4 → α5 → α6 → Prop} {Z : Prop} (x : ∃ x1 x2 x3 x4 x5 x6, A x1 x2 x3 x4 x5 x6) (k : ∀ x1 x2 x3 x4 x5 x6, A x1 x2 x3 x4 x5 x6 → Z) : Z := x.elim fun x1 y1 => y1.elim fun x2 y2 => y2.elim fun x3 y3 => y3.elim fun x4 y4 => y4.elim fun x5 y5 => y5.elim fun x6 y6 => k x1 x2 x3 x4 x5 x6 y6
theorem oE6A2.{u1, u2, u3, u4, u5, u6} {α1 : Sort u1} {α2 : Sort u2} {α3 : Sort u3} {α4 : Sort u4} {α5 : Sort u5} {α6 : Sort u6} {A B : α1 → α2 → α3 → α4 → α5 → α6 → Prop} {Z : Prop} (x : ∃ x1 x2 x3 x4 x5 x6, A x1 x2 x3 x4 x5 x6 ∧ B x1 x2 x3 x4 x5 x6) (k : ∀ x1 x2 x3 x4 x5 x6, A x1 x2 x3 x4 x5 x6 → B x1 x2 x3 x4 x5 x6 → Z) : Z := x.elim fun x1 y1 => y1.elim fun x2 y2 => y2.elim fun x3 y3 => y3.elim fun x4 y4 => y4.elim fun x5 y5 => y5.elim fun x6 y6 => k x1 x2 x3 x4 x5 x6 y6.1 y6.2
theorem oE6A3.{u1, u2, u3, u4, u5, u6} {α1 : Sort u1} {α2 : Sort u2} {α3 : Sort u3} {α4 : Sort u4} {α5 : Sort u5} {α6 : Sort u6} {A B C : α1 → α2 → α3 → α4 → α5 → α6 → Prop} {Z : Prop} (x : ∃ x1 x2 x3 x4 x5 x6, A x1 x2 x3 x4 x5 x6 ∧ B x1 x2 x3 x4 x5 x6 ∧ C x1 x2 x3 x4 x5 x6) (k : ∀ x1 x2 x3 x4 x5 x6, A x1 x2 x3 x4 x5 x6 → B x1 x2 x3 x4 x5 x6 → C x1 x2 x3 x4 x5 x6 → Z) : Z := x.elim fun x1 y1 => y1.elim fun x2 y2 => y2.elim fun x3 y3 => y3.elim fun x4 y4 => y4.elim fun x5 y5 => y5.elim fun x6 y6 => k x1 x2 x3 x4 x5 x6 y6.1 y6.2.1 y6.2.2
theorem oE6A4.{u1, u2, u3, u4, u5, u6} {α1 : Sort u1} {α2 : Sort u2} {α3 : Sort u3} {α4 : Sort u4} {α5 : Sort u5} {α6 : Sort u6} {A B C D : α1 → α2 → α3 → α4 → α5 → α6 → Prop} {Z : Prop} (x : ∃ x1 x2 x3 x4 x5 x6, A x1 x2 x3 x4 x5 x6 ∧ B x1 x2 x3 x4 x5 x6 ∧ C x1 x2 x3 x4 x5 x6 ∧ D x1 x2 x3 x4 x5 x6) (k : ∀ x1 x2 x3 x4 x5 x6, A x1 x2 x3 x4 x5 x6 → B x1 x2 x3 x4 x5 x6 → C x1 x2 x3 x4 x5 x6 → D x1 x2 x3 x4 x5 x6 → Z) : Z := x.elim fun x1 y1 => y1.elim fun x2 y2 => y2.elim fun x3 y3 => y3.elim fun x4 y4 => y4.elim fun x5 y5 => y5.elim fun x6 y6 => k x1 x2 x3 x4 x5 x6 y6.1 y6.2.1 y6.2.2.1 y6.2.2.2
theorem oE6A5.{u1, u2, u3, u4, u5, u6} {α1 : Sort u1} {α2 : Sort u2} {α3 : Sort u3} {α4 : Sort u4} {α5 : Sort u5} {α6 : Sort u6} {A B C D E : α1 → α2 → α3 → α4 → α5 → α6 → Prop} {Z : Prop} (x : ∃ x1 x2 x3 x4 x5 x6, A x1 x2 x3 x4 x5 x6 ∧ B x1 x2 x3 x4 x5 x6 ∧ C x1 x2 x3 x4 x5 x6 ∧ D x1 x2 x3 x4 x5 x6 ∧ E x1 x2 x3 x4 x5 x6) (k : ∀ x1 x2 x3 x4 x5 x6, A x1 x2 x3 x4 x5 x6 → B x1 x2 x3 x4 x5 x6 → C x1 x2 x3 x4 x5 x6 → D x1 x2 x3 x4 x5 x6 → E x1 x2 x3 x4 x5 x6 → Z) : Z := x.elim fun x1 y1 => y1.elim fun x2 y2 => y2.elim fun x3 y3 => y3.elim fun x4 y4 => y4.elim fun x5 y5 => y5.elim fun x6 y6 => k x1 x2 x3 x4 x5 x6 y6.1 y6.2.1 y6.2.2.1 y6.2.2.2.1 y6.2.2.2.2
theorem oE7A1.{u1, u2, u3, u4, u5, u6, u7} {α1 : Sort u1} {α2 : Sort u2} {α3 : Sort u3} {α4 : Sort u4} {α5 : Sort u5} {α6 : Sort u6} {α7 : Sort u7} {A : α1 → α2 → α3 → α4 → α5 → α6 → α7 → Prop} {Z : Prop} (x : ∃ x1 x2 x3 x4 x5 x6 x7, A x1 x2 x3 x4 x5 x6 x7) (k : ∀ x1 x2 x3 x4 x5 x6 x7, A x1 x2 x3 x4 x5 x6 x7 → Z) : Z := x.elim fun x1 y1 => y1.elim fun x2 y2 => y2.elim fun x3 y3 => y3.elim fun x4 y4 => y4.elim fun x5 y5 => y5.elim fun x6 y6 => y6.elim fun x7 y7 => k x1 x2 x3 x4 x5 x6 x7 y7
theorem oE7A2.{u1, u2, u3, u4, u5, u6, u7} {α1 : Sort u1} {α2 : Sort u2} {α3 : Sort u3} {α4 : Sort u4} {α5 : Sort u5} {α6 : Sort u6} {α7 : Sort u7} {A B : α1 → α2 → α3 → α4 → α5 → α6 → α7 → Prop} {Z : Prop} (x : ∃ x1 x2 x3 x4 x5 x6 x7, A x1 x2 x3 x4 x5 x6 x7 ∧ B x1 x2 x3 x4 x5 x6 x7) (k : ∀ x1 x2 x3 x4 x5 x6 x7, A x1 x2 x3 x4 x5 x6 x7 → B x1 x2 x3 x4 x5 x6 x7 → Z) : Z := x.elim fun x1 y1 => y1.elim fun x2 y2 => y2.elim fun x3 y3 => y3.elim fun x4 y4 => y4.elim fun x5 y5 => y5.elim fun x6 y6 => y6.elim fun x7 y7 => k x1 x2 x3 x4 x5 x6 x7 y7.1 y7.2
theorem oE7A3.{u1, u2, u3, u4, u5, u6, u7} {α1 : Sort u1} {α2 : Sort u2} {α3 : Sort u3} {α4 : Sort u4} {α5 : Sort u5} {α6 : Sort u6} {α7 : Sort u7} {A B C : α1 → α2 → α3 → α4 → α5 → α6 → α7 → Prop} {Z : Prop} (x : ∃ x1 x2 x3 x4 x5 x6 x7, A x1 x2 x3 x4 x5 x6 x7 ∧ B x1 x2 x3 x4 x5 x6 x7 ∧ C x1 x2 x3 x4 x5 x6 x7) (k : ∀ x1 x2 x3 x4 x5 x6 x7, A x1 x2 x3 x4 x5 x6 x7 → B x1 x2 x3 x4 x5 x6 x7 → C x1 x2 x3 x4 x5 x6 x7 → Z) : Z := x.elim fun x1 y1 => y1.elim fun x2 y2 => y2.elim fun x3 y3 => y3.elim fun x4 y4 => y4.elim fun x5 y5 => y5.elim fun x6 y6 => y6.elim fun x7 y7 => k x1 x2 x3 x4 x5 x6 x7 y7.1 y7.2.1 y7.2.2
theorem oE7A4.{u1, u2, u3, u4, u5, u6, u7} {α1 : Sort u1} {α2 : Sort u2} {α3 : Sort u3} {α4 : Sort u4} {α5 : Sort u5} {α6 : Sort u6} {α7 : Sort u7} {A B C D : α1 → α2 → α3 → α4 → α5 → α6 → α7 → Prop} {Z : Prop} (x : ∃ x1 x2 x3 x4 x5 x6 x7, A x1 x2 x3 x4 x5 x6 x7 ∧ B x1 x2 x3 x4 x5 x6 x7 ∧ C x1 x2 x3 x4 x5 x6 x7 ∧ D x1 x2 x3 x4 x5 x6 x7) (k : ∀ x1 x2 x3 x4 x5 x6 x7, A x1 x2 x3 x4 x5 x6 x7 → B x1 x2 x3 x4 x5 x6 x7 → C x1 x2 x3 x4 x5 x6 x7 → D x1 x2 x3 x4 x5 x6 x7 → Z) : Z := x.elim fun x1 y1 => y1.elim fun x2 y2 => y2.elim fun x3 y3 => y3.elim fun x4 y4 => y4.elim fun x5 y5 => y5.elim fun x6 y6 => y6.elim fun x7 y7 => k x1 x2 x3 x4 x5 x6 x7 y7.1 y7.2.1 y7.2.2.1 y7.2.2.2
end Mine
namespace Mine.M
open Lean
def st (a : List Syntax) : List (Name × Array Syntax) → String → List (Name × Array Syntax)
  | (k, x) :: r, w =>
    let v := String.ofList (w.toList.drop 1)
    let p (z : Syntax) : List (Name × Array Syntax) := (k, x.push z) :: r
    match w.front with
    | '(' => (if v == "null" then nullKind else `Lean.Parser ++ v.toName, #[]) :: (k, x) :: r
    | ')' => match r with
      | (k', y) :: r => (k', y.push (.node .none k x)) :: r
      | [] => []
    | '$' => p (a.getD v.toNat! .missing)
    | '`' => p (mkIdent v.toName)
    | _ => p (.atom .none v)
  | [], _ => []
def mk (t : String) (a : List Syntax) : Syntax := match (t.splitOn " ").foldl (st a) [(.anonymous, #[])] with
  | (_, x) :: _ => x[0]!
  | [] => .missing
def each (f : Syntax → Syntax) (l : List Syntax) : List Syntax := l.map f
def sep (c : String) (l : List Syntax) : List Syntax := l.intersperse (.atom .none c)
def nul (a : List Syntax) : Syntax := .node .none nullKind a.toArray
def sq (x : List Syntax) : Syntax := mk "(Tactic.tacticSeq (Tactic.tacticSeq1Indented $0 ) )" [nul (sep ";" x)]
def par (x : List Syntax) : Syntax := mk "(Tactic.paren '( $0 ') )" [sq x]
def fst (x : List Syntax) : Syntax := mk "(Tactic.first 'first $0 )" [nul (each (fun x => .node .none groupKind #[.atom .none "|", sq [x]]) x)]
def app (f : String) (x : List Syntax) : Syntax := mk "(Term.app $0 $1 )" [mkIdent f.toName, nul x]
def rf (e : Syntax) : Syntax := mk "(Tactic.refine 'refine $0 )" [e]
def wr (e : Syntax) : Syntax := mk "(Tactic.withReducible 'with_reducible $0 )" [sq [e]]
def tr (e : Syntax) : Syntax := mk "(Tactic.tacticTry_ 'try $0 )" [sq [e]]
def clr (x : Syntax) : Syntax := if x.isIdent then tr (mk "(Tactic.clear 'clear (null $0 ) )" [x]) else mk "(Tactic.skip 'skip )" []
def int (x : List Syntax) : Syntax := mk "(Tactic.intro 'intro $0 )" [nul x]
def sub (x : Syntax) : Syntax := mk "(Tactic.subst 'subst (null $0 ) )" [x]
def hole : Syntax := mk "(Term.hole '_ )" []
def gol : Syntax := mk "(Term.syntheticHole '? '_ )" []
def idt (s : String) : Syntax := mkIdent s.toName
def org (s : Syntax) : Bool := match s[0].getHeadInfo with
  | .original .. => true
  | _ => false
def hyp (s : Syntax) : Option Syntax := if s[0][1][0].getNumArgs == 1 && s[0][1][0][0].isIdent then some s[0][1][0][0] else none
def cs (s : Syntax) : Option Syntax :=
  let x := s[1][0][1]
  if s[1].getNumArgs == 1 && s[1][0][0].isNone && x.isIdent && s[2].isNone then
    let l := s[3][0][2]
    let h := l[0][0][0]
    if s[3].isNone then
      let j (f : String) (q : List String) : Syntax := par (wr (rf (app f [x, gol])) :: clr x :: (each (fun q => int [q]) (q.map idt) ++ each sub (q.map idt)))
      some (fst [j "Mine.VRs.nilP" [], wr (rf (app "Mine.nsE" [x])), wr (rf (app "Mine.ftE" [x])), wr (rf (app "Mine.tfE" [x])), wr (rf (app "Mine.snE" [x])), j "Mine.sj3" ["q1", "q2", "q3"], j "Mine.sj2" ["q1", "q2"], j "Mine.sj1" ["q1"]])
    else if l.getNumArgs == 1 && h[1][1].getId == `cons && h[2].getNumArgs == 2 then
      some (par [wr (rf (app "Mine.VRs.consP" [x, gol])), clr x, int [hole, hole, h[2][0], h[2][1]], mk "(Tactic.paren '( $0 ') )" [l[0][1][1]]])
    else none
  else none
def ob (m e : Syntax) : Syntax := mk "(Tactic.obtain 'obtain (null $0 ) (null ) (null ':= (null $1 ) ) )" [m, e]
def pt (m x : Syntax) : Syntax :=
  let q := m[0][0]
  let k := if m[0].getNumArgs == 1 then q.getKind else .anonymous
  if k == `Lean.Parser.Tactic.rcasesPat.ignore then int [hole]
  else if k == `Lean.Parser.Tactic.rcasesPat.one then if q[0].getId == `rfl then par [int [x], sub x] else int [q[0]]
  else par [int [x], ob m x]
def alts (e : Syntax) (n : Nat) : List Syntax := (List.range n).map fun j => rf (app s!"Mine.oE{n - 1 - j}A{j + 1}" [e, gol])
def pts (l : List Syntax) : List Syntax := (l.zip (List.range l.length)).map fun p => pt p.1[0] (idt s!"obt{p.2}")
def oc (m e : Syntax) : Option Syntax :=
  let p := m[0].getSepArgs
  let q := m[0][0]
  if p.size == 2 then
    let f (p : Syntax) (x : String) : Syntax := mk "(Tactic.case' 'case' (null (Tactic.caseArg $0 (null ) ) ) '=> $1 )" [.node .none ``binderIdent #[idt x], sq [clr e, pt (mk "(Tactic.rcasesPatMed (null $0 ) )" [p]) (idt "ors")]]
    some (par [rf (app "Or.elim" [e, mk "(Term.syntheticHole '? `orA )" [], mk "(Term.syntheticHole '? `orB )" []]), f p[1]! "orB", f p[0]! "orA"])
  else if p.size == 1 && q.getKind == `Lean.Parser.Tactic.rcasesPat.tuple then
    let r := q[1].getSepArgs
    if r.size < 2 then none else some (par (fst (alts e r.size) :: clr e :: pts r.toList))
  else none
def bad (t : Syntax) : Bool := (t.find? fun x => x.getKind == `Lean.Parser.Term.byTactic || x.getKind == `Lean.Parser.Term.anonymousCtor || x.getKind == `Lean.Parser.Term.fun || (x.isIdent && x.getId == `rfl)).isSome || (t.isIdent && t.getId.eraseMacroScopes.getRoot.toString.front.isUpper)
def r1 (h : Option Syntax) (l r : Syntax) : Syntax :=
  let z := mk "(Tactic.rewriteSeq 'rewrite (Tactic.optConfig (null ) ) (Tactic.rwRuleSeq '[ (null $0 ) '] ) $1 )" [r, l]
  if bad r[1] then z else
    let e := mk "(Term.app $0 (null (Term.ellipsis '.. ) ) )" [r[1]]
    let n := r[0].isNone
    let y := if n != h.isSome then app "Eq.symm" [e] else e
    fst (match h with
      | none => [rf (mk "(Term.subst $0 '▸ (null $1 ) )" [y, gol]), z]
      | some h => [mk "(Tactic.replace 'replace (Term.letDecl (Term.letIdDecl (Term.letId $0 ) (null ) (null ) ':= (Term.subst $1 '▸ (null $0 ) ) ) ) )" [h, y], z])
def rw (s : Syntax) : Option Syntax :=
  let h := hyp s[3]
  if org s && s[1][0].isNone && (s[3].isNone || h.isSome) then some (par (each (r1 h s[3]) s[2][1].getSepArgs.toList ++ [tr (wr (mk "(Tactic.tacticRfl 'rfl )" []))])) else none
def rp (n : Nat) (x : Syntax) : List Syntax := List.replicate n x
def sp1 (h : Syntax) (f : String) (r : List Nat) (b n b' n' : Nat) : Syntax :=
  let q : Syntax := mkIdent (addMacroScope `Mine `q 1)
  let i (b n : Nat) : List Syntax := int (rp b hole ++ rp n q ++ [h]) :: rp n (tr (sub q))
  par [mk "(Tactic.focus 'focus $0 )" [sq ([wr (rf (app f (h :: (r.map fun k => mk "(Term.fun 'fun (Term.basicFun $0 (null ) '=> `rfl ) )" [nul (rp k hole)]) ++ [gol, gol]))), mk "(Tactic.allGoals 'all_goals $0 )" [sq [clr h]]] ++ i b n ++ mk "(Tactic.rotateLeft 'rotate_left (null ) )" [] :: i b' n' ++ [mk "(Tactic.rotateLeft 'rotate_left (null ) )" []])]]
def sp (s : Syntax) : Option Syntax := match hyp s[2] with
  | some h => if org s && s[1].isNone then some (fst [sp1 h "Mine.spB" [2, 2] 0 1 0 1, sp1 h "Mine.spB'" [2, 2] 0 1 0 1, sp1 h "Mine.spP" [4, 2] 2 1 0 1, sp1 h "Mine.spP'" [4, 2] 0 1 2 1, sp1 h "Mine.spO" [3, 2] 1 1 0 1, sp1 h "Mine.spO'" [3, 2] 0 1 1 1, sp1 h "Mine.spBB" [2, 2, 3] 0 2 0 0, sp1 h "Mine.spBBB" [2, 2, 3, 4] 0 3 0 0]) else none
  | none => none
def de (s : Syntax) : Option Syntax := if org s && (hyp s[2]).isSome then
    let d := mk "(Tactic.delta 'delta $0 $1 )" [s[1], s[2]]
    some (fst [d, par [mk "(Tactic.change 'change $0 $1 )" [hole, s[2]], d], mk "(Tactic.unfold 'unfold $0 $1 )" [s[1], s[2]]])
  else none
def lt (s : Syntax) : Option Syntax :=
  let d := s[2][0]
  if org s && d[0].getKind == `Lean.Parser.Term.anonymousCtor then
    let f (x : Syntax) : Syntax := mk "(Tactic.rcasesPatLo (Tactic.rcasesPatMed (null $0 ) ) (null ) )" [if x.isIdent then mk "(Tactic.rcasesPat.one $0 )" [x] else mk "(Tactic.rcasesPat.ignore '_ )" []]
    some (mk "(Term.byTactic 'by $0 )" [sq [ob (mk "(Tactic.rcasesPatMed (null (Tactic.rcasesPat.tuple '⟨ $0 '⟩ ) ) )" [nul (sep "," (each f d[0][1].getSepArgs.toList))]) d[4], mk "(Tactic.exact 'exact $0 )" [s[4]]]])
  else none
def om (s : Syntax) : Option Syntax := if s[1][0].isNone then some (fst [mk "(Tactic.decide 'decide (Tactic.optConfig (null ) ) )" [], mk "(Tactic.assumption 'assumption )" [], mk "(Tactic.lia 'lia (Tactic.optConfig (null ) ) )" []]) else none
def run (s : Option Syntax) : MacroM Syntax := match s with
  | some s => return s
  | none => Macro.throwUnsupported
end Mine.M
end
section
set_option maxRecDepth 100000
namespace Mine
open PySem

inductive BI where
  | max | min | abs | round | int | len | range | sorted | list | chr

inductive V where
  | none
  | bool (b : Bool)
  | int (i : Int)
  | lin (c : Int) (k : List Int)
  | flt (x : UInt64)
  | str (s : List Nat)
  | tup (vs : List V)
  | pl (vs : List V)
  | lst (i : Nat)
  | fn (n : Str)
  | bi (n : BI)
  | pat (k : Nat)
  | rng (a b : Int)
  | lam (ps : Arguments) (body : Expr) (sc : Scope)

abbrev Loc := List (Str × V)
abbrev Sto := List (List V)

noncomputable def nbeqL : List Nat → List Nat → Bool
  | [], [] => true
  | a :: l, b :: r => match Nat.beq a b with
    | true => nbeqL l r
    | false => false
  | _, _ => false
noncomputable def seq (a b : Str) : Bool := nbeqL a.cps.toList b.cps.toList
noncomputable def lk {α : Type} (x : Str) : List (Str × α) → Option α
  | [] => none
  | (y, v) :: r => match seq x y with
    | true => some v
    | false => lk x r
noncomputable def put (x : Str) (v : V) : Loc → Loc
  | [] => [(x, v)]
  | (y, w) :: r => match seq x y with
    | true => (y, v) :: r
    | false => (y, w) :: put x v r

noncomputable def wh {α : Type} (b : Bool) (x : Option α) : Option α := match b with
  | true => x
  | false => Option.none
noncomputable def l1 {α : Type} : List α → Option α
  | [a] => some a
  | _ => Option.none
noncomputable def l2 {α : Type} : List α → Option (α × α)
  | [a, b] => some (a, b)
  | _ => Option.none
noncomputable def l3 {α : Type} : List α → Option (α × α × α)
  | [a, b, c] => some (a, b, c)
  | _ => Option.none
noncomputable def intO : V → Option Int
  | .int i => some i
  | _ => Option.none
noncomputable def fltO : V → Option UInt64
  | .flt i => some i
  | _ => Option.none
noncomputable def strO : V → Option (List Nat)
  | .str i => some i
  | _ => Option.none
noncomputable def boolO : V → Option Bool
  | .bool i => some i
  | _ => Option.none
noncomputable def tupO : V → Option (List V)
  | .tup i => some i
  | _ => Option.none
noncomputable def plO : V → Option (List V)
  | .pl i => some i
  | _ => Option.none
noncomputable def rngO : V → Option (Int × Int)
  | .rng a b => some (a, b)
  | _ => Option.none
noncomputable def linO : V → Option (Int × List Int)
  | .lin a b => some (a, b)
  | _ => Option.none

noncomputable def SYM : Nat := 2000000
noncomputable def XB : Nat := 2 ^ 31

noncomputable def addK : List Int → List Int → List Int
  | [], b => b
  | a, [] => a
  | x :: xs, y :: ys => (x + y) :: addK xs ys
noncomputable def smulK (m : Int) (k : List Int) : List Int := k.map (m * ·)
noncomputable def bndK : List Int → Nat
  | [] => 0
  | x :: r => x.natAbs * XB + bndK r
noncomputable def allZ : List Int → Bool
  | [] => true
  | x :: r => match decide (x = 0) with
    | true => allZ r
    | false => false
noncomputable def mkLin (c : Int) (k : List Int) : V := match allZ k with
  | true => .int c
  | false => .lin c k
noncomputable def small (i : Int) : Bool := Nat.blt i.natAbs (2 ^ 60)
noncomputable def allDvd (m : Int) : List Int → Bool
  | [] => true
  | x :: r => match decide (Int.fmod x m = 0) with
    | true => allDvd m r
    | false => false
abbrev Facts := List ((List Int) × Int × V)
noncomputable def eqK : List Int → List Int → Bool
  | [], [] => true
  | x :: a, y :: b => match decide (x = y) with
    | true => eqK a b
    | false => false
  | _, _ => false
noncomputable def findF (k : List Int) (m : Int) : Facts → Option V
  | [] => Option.none
  | (k', m', v) :: r => match eqK k k', decide (m = m') with
    | true, true => some v
    | _, _ => findF k m r

noncomputable def fmixI (i : Int) : Option UInt64 := match Float64.isInf (Float64.ofInt i) with
  | true => Option.none
  | false => some (Float64.ofInt i)
noncomputable def rep {α : Type} (s : List α) : Nat → List α
  | 0 => []
  | n + 1 => s ++ rep s n
noncomputable def smallS (s : List Nat) : Option V := match Nat.ble s.length 100000 with
  | true => some (.str s)
  | false => Option.none

noncomputable def items (σ : Sto) : V → Option (List V)
  | .pl vs => some vs
  | .lst i => σ[i]?
  | _ => Option.none

noncomputable def fop (op : Operator) (x y : UInt64) : Option V := match op with
  | .Add => some (.flt (Float64.add x y))
  | .Sub => some (.flt (Float64.sub x y))
  | .Mult => some (.flt (Float64.mul x y))
  | .Div => match Float64.isZero y with
    | true => Option.none
    | false => some (.flt (Float64.div x y))
  | .Mod => match Float64.isZero y with
    | true => Option.none
    | false => some (.flt (Float64.divmod x y).2)
  | _ => Option.none
noncomputable def idiv (b : Int) (v : V) : Option V := match decide (b = 0), small b with
  | false, true => some v
  | _, _ => Option.none
noncomputable def itru (x : UInt64) (b : Int) : Option V := match decide (b = 0), Float64.isInf x with
  | false, false => some (.flt x)
  | _, _ => Option.none
noncomputable def iop (op : Operator) (a b : Int) : Option V := match op with
  | .Add => some (.int (a + b))
  | .Sub => some (.int (a - b))
  | .Mult => match small a with
    | true => some (.int (a * b))
    | false => Option.none
  | .FloorDiv => idiv b (.int (Int.fdiv a b))
  | .Mod => idiv b (.int (Int.fmod a b))
  | .Div => itru (Float64.ofFrac (decide (a < 0) != decide (b < 0)) a.natAbs b.natAbs) b
  | .Pow => match decide (a = 10), decide (b = 6) with
    | true, true => some (.int 1000000)
    | _, _ => Option.none
  | _ => Option.none
noncomputable def lmul (a : Int × List Int) (b : Int × List Int) : Option V := match b.2 with
  | [] => match small b.1 with
    | true => some (mkLin (a.1 * b.1) (smulK b.1 a.2))
    | false => Option.none
  | _ :: _ => match a.2 with
    | [] => match small a.1 with
      | true => some (mkLin (b.1 * a.1) (smulK a.1 b.2))
      | false => Option.none
    | _ :: _ => Option.none
noncomputable def lmod (F : Facts) (a : Int × List Int) (b : Int × List Int) : Option V := match b.2, decide (a.1 = 0), decide (b.1 = 0) with
  | [], true, false => findF a.2 b.1 F
  | _, _, _ => Option.none
noncomputable def lop (F : Facts) (op : Operator) (a : Int × List Int) (b : Int × List Int) : Option V := match op with
  | .Add => some (mkLin (a.1 + b.1) (addK a.2 b.2))
  | .Sub => some (mkLin (a.1 - b.1) (addK a.2 (smulK (-1) b.2)))
  | .Mult => lmul a b
  | .Mod => lmod F a b
  | _ => Option.none
noncomputable def binII (F : Facts) (op : Operator) (a : Int) (b : V) : Option V := match b with
  | .int b => iop op a b
  | .lin c k => lop F op (a, []) (c, k)
  | .flt y => match fmixI a with
    | some x => fop op x y
    | Option.none => Option.none
  | _ => Option.none
noncomputable def binL (F : Facts) (op : Operator) (c : Int) (k : List Int) (b : V) : Option V := match b with
  | .int b => lop F op (c, k) (b, [])
  | .lin c' k' => lop F op (c, k) (c', k')
  | _ => Option.none
noncomputable def binF (op : Operator) (x : UInt64) (b : V) : Option V := match b with
  | .flt y => fop op x y
  | .int i => match fmixI i with
    | some y => fop op x y
    | Option.none => Option.none
  | _ => Option.none
noncomputable def binS (op : Operator) (s : List Nat) (b : V) : Option V := match b with
  | .str t => match op with
    | .Add => smallS (s ++ t)
    | _ => Option.none
  | .int n => match op with
    | .Mult => match Nat.blt n.toNat 1000, decide (0 ≤ n) with
      | true, true => smallS (rep s n.toNat)
      | _, _ => Option.none
    | _ => Option.none
  | _ => Option.none
noncomputable def binP (op : Operator) (a : List V) (b : V) : Option V := match b with
  | .pl b => match op with
    | .Add => match Nat.ble (a.length + b.length) 100000 with
      | true => some (.pl (a ++ b))
      | false => Option.none
    | _ => Option.none
  | _ => Option.none
noncomputable def binV (F : Facts) (op : Operator) (a b : V) : Option V := match a with
  | .int a => binII F op a b
  | .lin c k => binL F op c k b
  | .flt x => binF op x b
  | .str s => binS op s b
  | .pl a => binP op a b
  | _ => Option.none

noncomputable def okCh (n : Nat) : Bool := match Nat.beq n SYM with
  | true => true
  | false => match Nat.beq n 46 with
    | true => true
    | false => match Nat.beq n 10 with
      | true => true
      | false => Nat.beq n 13
noncomputable def okS : List Nat → Bool
  | [] => true
  | a :: r => match okCh a with
    | true => okS r
    | false => false

noncomputable def eqN : Nat → V → V → Option Bool
  | 0, _, _ => Option.none
  | n + 1, a, b =>
    let rec go : List V → List V → Option Bool
      | [], [] => some true
      | x :: xs, y :: ys => match eqN n x y, go xs ys with
        | some a, some b => some (a && b)
        | _, _ => Option.none
      | _, _ => some false
    match a, b with
    | .int i, .int j => some (decide (i = j))
    | .tup xs, .tup ys => go xs ys
    | .pl xs, .pl ys => match Nat.beq xs.length ys.length with
      | true => go xs ys
      | false => some false
    | _, _ => Option.none
noncomputable def ltT : List V → List V → Option Bool
  | [], [] => some false
  | [], _ :: _ => some true
  | _ :: _, [] => some false
  | x :: xs, y :: ys => match x, y with
    | .int i, .int j => match decide (i = j) with
      | true => ltT xs ys
      | false => some (decide (i < j))
    | .flt i, .flt j => match Float64.cmp i j with
      | some .eq => ltT xs ys
      | some .lt => some true
      | some .gt => some false
      | Option.none => Option.none
    | _, _ => Option.none

noncomputable def icmp (op : CmpOp) (a b : Int) : Option Bool := match op with
  | .Eq => some (decide (a = b))
  | .NotEq => some (!decide (a = b))
  | .Lt => some (decide (a < b))
  | .LtE => some (decide (a ≤ b))
  | .Gt => some (decide (b < a))
  | .GtE => some (decide (b ≤ a))
  | _ => Option.none
noncomputable def fcmp (op : CmpOp) (a b : UInt64) : Option Bool := match op with
  | .Eq => some (Float64.cmp a b == some .eq)
  | .NotEq => some (Float64.cmp a b != some .eq)
  | .Lt => some (Float64.cmp a b == some .lt)
  | .LtE => some (Float64.cmp a b == some .lt || Float64.cmp a b == some .eq)
  | _ => Option.none
noncomputable def eqOp (op : CmpOp) (b : Option Bool) : Option Bool := match op with
  | .Eq => b
  | .NotEq => match b with
    | some x => some (!x)
    | Option.none => Option.none
  | _ => Option.none
noncomputable def inL (i : Int) : List V → Option Bool
  | [] => some false
  | v :: r => (intO v).bind fun j => (inL i r).bind fun b => some (decide (i = j) || b)
noncomputable def cmpI (op : CmpOp) (i : Int) (b : V) : Option Bool := match b with
  | .int j => icmp op i j
  | .pl ys => match op with
    | .In => inL i ys
    | _ => Option.none
  | .none => match op with
    | .Is => some false
    | _ => Option.none
  | _ => Option.none
noncomputable def cmpS (op : CmpOp) (s t : List Nat) : Option Bool := match okS s, okS t with
  | true, true => eqOp op (some (nbeqL s t))
  | _, _ => Option.none
noncomputable def cmpT (op : CmpOp) (xs : List V) (b : V) : Option Bool := match b with
  | .tup ys => match op with
    | .Lt => ltT xs ys
    | _ => eqOp op (eqN 3 (.tup xs) (.tup ys))
  | _ => Option.none
noncomputable def cmpN (op : CmpOp) (b : Bool) : Option Bool := match op with
  | .Is => some b
  | _ => Option.none
noncomputable def cmpL (op : CmpOp) (σ : Sto) (a b : V) : Option Bool := match items σ a, items σ b with
  | some xs, some ys => eqOp op (eqN 3 (.pl xs) (.pl ys))
  | _, _ => Option.none
noncomputable def cmpV (op : CmpOp) (σ : Sto) (a b : V) : Option Bool := match a with
  | .int i => cmpI op i b
  | .flt x => match b with
    | .flt y => fcmp op x y
    | _ => Option.none
  | .bool x => match b with
    | .bool y => eqOp op (some (x == y))
    | _ => Option.none
  | .str s => match b with
    | .str t => cmpS op s t
    | _ => Option.none
  | .tup xs => cmpT op xs b
  | .none => match b with
    | .none => cmpN op true
    | _ => Option.none
  | .lam .. => match b with
    | .none => cmpN op false
    | _ => Option.none
  | .lst i => match b with
    | .none => cmpN op false
    | b => cmpL op σ (.lst i) b
  | .pl xs => match b with
    | .none => cmpN op false
    | b => cmpL op σ (.pl xs) b
  | _ => Option.none

noncomputable def truV : V → Option Bool
  | .bool b => some b
  | .int i => some (!decide (i = 0))
  | _ => Option.none

noncomputable def unV (op : UnaryOp) : V → Option V
  | .int i => match op with
    | .USub => some (.int (-i))
    | _ => Option.none
  | .lin c k => match op with
    | .USub => some (mkLin (-c) (smulK (-1) k))
    | _ => Option.none
  | _ => Option.none

noncomputable def idx (vs : List V) (i : Int) : Option V := match decide (0 ≤ i) with
  | true => vs[i.toNat]?
  | false => match Nat.ble i.natAbs vs.length with
    | true => vs[vs.length - i.natAbs]?
    | false => Option.none

noncomputable def fixEols : List Nat → List Nat
  | [] => []
  | c :: r => match Nat.beq c 13 with
    | true => match r with
      | [] => [13, 10]
      | d :: r' => match Nat.beq d 10 with
        | true => 13 :: 10 :: fixEols r'
        | false => 13 :: 10 :: fixEols (d :: r')
    | false => match Nat.beq c 10 with
      | true => 13 :: 10 :: fixEols r
      | false => c :: fixEols r
noncomputable def dotify (bol : Bool) : List Nat → List Nat
  | [] => []
  | c :: r => match Nat.beq c 46 with
    | true => match bol with
      | true => 46 :: 46 :: dotify false r
      | false => 46 :: dotify false r
    | false => c :: dotify (Nat.beq c 10) r

noncomputable def joinS (sep : List Nat) : List V → Option (List Nat)
  | [] => some []
  | v :: r => (strO v).bind fun s => match r with
    | [] => some s
    | _ :: _ => (joinS sep r).bind fun t => some (s ++ sep ++ t)

noncomputable def insS {α : Type} (x : α) : Nat → List α → List α
  | 0, l => x :: l
  | n + 1, [] => [x]
  | n + 1, y :: l => y :: insS x n l
noncomputable def insI (i : Int) : List Int → List Int
  | [] => [i]
  | j :: r => match decide (i < j) with
    | true => i :: j :: r
    | false => j :: insI i r
noncomputable def sortI : List Int → List Int → List Int
  | acc, [] => acc
  | acc, i :: r => sortI (insI i acc) r
noncomputable def intsV : List V → Option (List Int)
  | [] => some []
  | v :: r => (intO v).bind fun i => (intsV r).bind fun l => some (i :: l)
noncomputable def upto (a : Int) : Nat → List V
  | 0 => []
  | n + 1 => .int a :: upto (a + 1) n
noncomputable def minT : V → List V → Option V
  | b, [] => some b
  | b, v :: r => (tupO b).bind fun b => (tupO v).bind fun x => (ltT x b).bind fun
    | true => minT (.tup x) r
    | false => minT (.tup b) r
noncomputable def selV (c : Bool) (x y : V) : V := match c with
  | true => x
  | false => y
noncomputable def stepG (ci : Int → Int → Bool) (cf : UInt64 → UInt64 → Bool) (a b : V) : Option V := match intO a with
  | some i => (intO b).bind fun j => some (selV (ci i j) (.int j) (.int i))
  | Option.none => (fltO a).bind fun i => (fltO b).bind fun j => some (selV (cf i j) (.flt j) (.flt i))
noncomputable def maxStep : V → V → Option V := stepG (fun i j => decide (i < j)) fun i j => Float64.cmp i j == some .lt
noncomputable def minStep : V → V → Option V := stepG (fun i j => decide (j < i)) fun i j => Float64.cmp j i == some .lt
noncomputable def fToI (f : Bool → Nat → Int → Int) (x : UInt64) : Option V := match Float64.decode x with
  | .fin neg m e => some (.int (f neg m e))
  | _ => Option.none

noncomputable def sAppend : Str := "append"
noncomputable def sInsert : Str := "insert"
noncomputable def sJoin : Str := "join"
noncomputable def sSub : Str := "sub"
noncomputable def sMax : Str := "max"
noncomputable def sMin : Str := "min"
noncomputable def sAbs : Str := "abs"
noncomputable def sRound : Str := "round"
noncomputable def sInt : Str := "int"
noncomputable def sLen : Str := "len"
noncomputable def sRange : Str := "range"
noncomputable def sSorted : Str := "sorted"
noncomputable def sList : Str := "list"
noncomputable def sChr : Str := "chr"
noncomputable def sDivmod : Str := "int_divmod"

noncomputable def biMax (vs : List V) : Option V := (l3 vs).bind fun p => (maxStep p.1 p.2.1).bind fun m => maxStep m p.2.2
noncomputable def minP : List V → Option V
  | x :: r => minT x r
  | [] => Option.none
noncomputable def biMin (vs : List V) : Option V := match l3 vs with
  | some p => (minStep p.1 p.2.1).bind fun m => minStep m p.2.2
  | Option.none => (l1 vs).bind fun v => (plO v).bind minP
noncomputable def biAbs (vs : List V) : Option V := (l1 vs).bind fun v => (intO v).bind fun i => some (.int (i.natAbs : Int))
noncomputable def biRound (vs : List V) : Option V := (l1 vs).bind fun v => (fltO v).bind (fToI Float64.nearestOf)
noncomputable def biInt (vs : List V) : Option V := (l1 vs).bind fun v => match fltO v with
  | some x => fToI Float64.truncOf x
  | Option.none => (boolO v).bind fun b => some (.int (match b with | true => 1 | false => 0))
noncomputable def lenI {α : Type} (l : List α) : Option V := wh (Nat.blt l.length 1000000) (some (.int (l.length : Int)))
noncomputable def biLen (σ : Sto) (vs : List V) : Option V := (l1 vs).bind fun v => match strO v with
  | some s => lenI s
  | Option.none => (items σ v).bind lenI
noncomputable def biRange (vs : List V) : Option V := match l1 vs with
  | some v => (intO v).bind fun b => wh (small b) (some (.rng 0 b))
  | Option.none => (l2 vs).bind fun p => (intO p.1).bind fun a => (intO p.2).bind fun b => wh (small a) (wh (small b) (some (.rng a b)))
noncomputable def biSorted (σ : Sto) (vs : List V) : Option V := (l1 vs).bind fun v => (items σ v).bind fun xs => (intsV xs).bind fun is => wh (Nat.blt xs.length 64) (some (.pl ((sortI [] is).map .int)))
noncomputable def biList (vs : List V) : Option V := (l1 vs).bind fun v => (rngO v).bind fun p => wh (Nat.blt (p.2 - p.1).toNat 1000) (some (.pl (upto p.1 (p.2 - p.1).toNat)))
noncomputable def biChr (vs : List V) : Option V := (l1 vs).bind fun v => (linO v).bind fun p => wh (decide (p.1 = 47)) (wh (eqK p.2 [0, 0, 0, 0, 1]) (some (.str [SYM])))
noncomputable def biF (n : BI) (σ : Sto) (vs : List V) : Option V := match n with
  | .max => biMax vs
  | .min => biMin vs
  | .abs => biAbs vs
  | .round => biRound vs
  | .int => biInt vs
  | .len => biLen σ vs
  | .range => biRange vs
  | .sorted => biSorted σ vs
  | .list => biList vs
  | .chr => biChr vs

noncomputable def mAppend (σ : Sto) (i : Nat) (l : List V) (vs : List V) : Option (V × Sto) := (l1 vs).bind fun v => some (.none, σ.set i (l ++ [v]))
noncomputable def mInsert (σ : Sto) (i : Nat) (l : List V) (vs : List V) : Option (V × Sto) := (l2 vs).bind fun p => (intO p.1).bind fun k => wh (decide (0 ≤ k)) (wh (Nat.ble k.toNat l.length) (some (.none, σ.set i (insS p.2 k.toNat l))))
noncomputable def mList (σ : Sto) (i : Nat) (n : Str) (vs : List V) : Option (V × Sto) := (σ[i]?).bind fun l => wh (Nat.blt l.length 100000) (match seq n sAppend with
  | true => mAppend σ i l vs
  | false => wh (seq n sInsert) (mInsert σ i l vs))
noncomputable def outS (σ : Sto) (t : List Nat) : Option (V × Sto) := match smallS t with
  | some v => some (v, σ)
  | Option.none => Option.none
noncomputable def mJoin (σ : Sto) (s : List Nat) (vs : List V) : Option (V × Sto) := (l1 vs).bind fun v => (plO v).bind fun l => (joinS s l).bind fun t => wh (Nat.ble l.length 1000) (wh (Nat.ble s.length 64) (outS σ t))
noncomputable def mSub2 (σ : Sto) (k : Nat) (rp t : List Nat) : Option (V × Sto) := match Nat.beq k 1 with
  | true => match nbeqL rp [46, 46] with
    | true => outS σ (dotify true t)
    | false => Option.none
  | false => wh (Nat.beq k 2) (wh (nbeqL rp [13, 10]) (outS σ (fixEols t)))
noncomputable def mSub (σ : Sto) (k : Nat) (vs : List V) : Option (V × Sto) := (l2 vs).bind fun p => (strO p.1).bind fun rp => (strO p.2).bind fun t => wh (Nat.ble t.length 400) (mSub2 σ k rp t)
noncomputable def meth (o : V) (n : Str) (σ : Sto) (vs : List V) : Option (V × Sto) := match o with
  | .lst i => mList σ i n vs
  | .str s => wh (seq n sJoin) (mJoin σ s vs)
  | .pat k => wh (seq n sSub) (mSub σ k vs)
  | _ => Option.none

noncomputable def divL (c : Int) (k : List Int) (b : Int) : Option V := wh (allDvd b k) (wh (Nat.blt (c.natAbs + bndK k) (2 ^ 60)) (some (.tup [mkLin (Int.fdiv c b) (k.map fun x => Int.fdiv x b), .int (Int.fmod c b)])))
noncomputable def divW (b : Int) : V → Option V
  | .int a => wh (small a) (some (.tup [.int (Int.fdiv a b), .int (Int.fmod a b)]))
  | .lin c k => divL c k b
  | _ => Option.none
noncomputable def divV (vs : List V) : Option V := (l2 vs).bind fun p => (intO p.2).bind fun b => wh (!decide (b = 0)) (wh (small b) (divW b p.1))

structure Fn where
  ps : Arguments
  body : List Stmt
  sc : Scope
noncomputable def findFn (n : Str) : List Stmt → Option Fn
  | [] => Option.none
  | s :: r => match s with
    | .FunctionDef name args body _ _ _ scope _ _ _ => match seq n name with
      | true => some ⟨args, body, scope⟩
      | false => findFn n r
    | _ => findFn n r
noncomputable def fnOf (n : Str) : Option Fn := findFn n PySem.Challenge.pw_uk0007_01.main.body

noncomputable def defNames : List Str := ["int_divmod", "insort_right", "bisect_right", "bisect_left", "rgb_to_hls", "hls_to_rgb", "_v", "rgb_to_hsv", "hsv_to_rgb", "quotedata", "_fix_eols",
  "_law_read", "_law_times", "_law_near", "_law_left", "_law_painted", "_law_sixths", "_law_laid", "_law_euclid"]
noncomputable def biNames : List (Str × V) := [(sMax, .bi .max), (sMin, .bi .min), (sAbs, .bi .abs), (sRound, .bi .round), (sInt, .bi .int), (sLen, .bi .len), (sRange, .bi .range), (sSorted, .bi .sorted), (sList, .bi .list), (sChr, .bi .chr)]
noncomputable def otherNames : List (Str × V) := [("ONE_THIRD", .flt 4599676419421066581), ("ONE_SIXTH", .flt 4595172819793696085), ("TWO_THIRD", .flt 4604180019048437077),
  ("_twin_re_1", .pat 1), ("_twin_re_2", .pat 2), ("CRLF", .str [13, 10]), ("_DIV_LIMIT", .int 4000), ("_div2n1n", .fn "_div2n1n"), ("_int2digits", .fn "_int2digits"), ("_digits2int", .fn "_digits2int"), ("_divmod_pos", .fn "_divmod_pos")]
noncomputable def globTab : List (Str × V) := defNames.map (fun n => (n, V.fn n)) ++ (biNames ++ otherNames)

noncomputable def bindGo : List Str → List V → Option Loc
  | [], [] => some []
  | [], _ :: _ => Option.none
  | x :: xs, v :: vs => match bindGo xs vs with
    | some l => some ((x, v) :: l)
    | Option.none => Option.none
  | _ :: _, [] => Option.none
noncomputable def sKey : Str := "key"
noncomputable def keyOf (l : List (Str × V)) : Option V := match l with
  | [] => some .none
  | _ :: _ => (l1 l).bind fun p => wh (seq p.1 sKey) (some p.2)
noncomputable def l4 {α : Type} : List α → Option (α × α × α × α)
  | [a, b, c, d] => some (a, b, c, d)
  | _ => Option.none
noncomputable def bindB (vs : List V) (kws : List (Str × V)) : Option Loc := (keyOf kws).bind fun key => match l2 vs with
  | some p => some [("a", p.1), ("x", p.2), ("lo", .int 0), ("hi", .none), ("key", key)]
  | Option.none => (l4 vs).bind fun p => some [("a", p.1), ("x", p.2.1), ("lo", p.2.2.1), ("hi", p.2.2.2), ("key", key)]

inductive Fl where
  | next
  | ret (v : V)

inductive Src where
  | list (v : V)
  | tup (vs : List V)
  | rng (a b : Int)
noncomputable def srcOf : V → Option Src
  | .pl vs => some (.list (.pl vs))
  | .lst i => some (.list (.lst i))
  | .tup vs => some (.tup vs)
  | .rng a b => some (.rng a b)
  | _ => Option.none
noncomputable def itemAt (σ : Sto) (j : Nat) : Src → Option (Option V)
  | .list v => (items σ v).bind fun vs => some vs[j]?
  | .tup vs => some vs[j]?
  | .rng a b => match decide (a + (j : Int) < b) with
    | true => some (some (.int (a + (j : Int))))
    | false => some Option.none

inductive ViewT where
  | name (x : Str)
  | tup (es : List Expr)
  | bad
noncomputable def viewT : Expr → ViewT
  | .Name x _ => .name x
  | .Tuple es _ _ => .tup es
  | _ => .bad
noncomputable def isLoc : NameKind → Bool
  | .local => true
  | _ => false
noncomputable def isCel : NameKind → Bool
  | .cell => true
  | _ => false
noncomputable def isFre : NameKind → Bool
  | .free => true
  | _ => false
noncomputable def isGlo : NameKind → Bool
  | .globalImplicit => true
  | _ => false
noncomputable def canSt (sc : Scope) (x : Str) : Bool := (lk x sc.names).any fun k => isLoc k || isCel k
noncomputable def asg1 (sc : Scope) (ρ : Loc) (x : Str) (v : V) : Option Loc := wh (canSt sc x) (some (put x v ρ))
noncomputable def asgNames (sc : Scope) : Loc → List Expr → List V → Option Loc
  | ρ, [], [] => some ρ
  | ρ, e :: es, v :: vs => match viewT e with
    | .name x => match asg1 sc ρ x v with
      | some ρ => asgNames sc ρ es vs
      | Option.none => Option.none
    | _ => Option.none
  | _, _, _ => Option.none
noncomputable def asgV (sc : Scope) (ρ : Loc) (t : Expr) (v : V) : Option Loc := match viewT t with
  | .name x => asg1 sc ρ x v
  | .tup es => match v with
    | .tup vs => asgNames sc ρ es vs
    | _ => Option.none
  | .bad => Option.none

structure R where
  ev : Scope → Sto → Loc → Expr → Option (V × Sto)
  tst : Scope → Sto → Loc → Expr → Option (Bool × Sto)
  ex : Scope → Sto → Loc → Stmt → Option (Fl × Sto × Loc)
  call : Sto → V → List V → List (Str × V) → Option (V × Sto)
  wl : Scope → Sto → Loc → Expr → List Stmt → Option (Fl × Sto × Loc)
  fl : Scope → Sto → Loc → Expr → Src → Nat → List Stmt → Option (Fl × Sto × Loc)
  cl : Scope → Sto → Loc → Expr → List Comprehension → Src → Nat → List V → Option (List V × Sto × Loc)

noncomputable def R.bot : R := ⟨fun _ _ _ _ => Option.none, fun _ _ _ _ => Option.none, fun _ _ _ _ => Option.none, fun _ _ _ _ => Option.none, fun _ _ _ _ _ => Option.none, fun _ _ _ _ _ _ _ => Option.none, fun _ _ _ _ _ _ _ _ => Option.none⟩

noncomputable def evs (r : R) (sc : Scope) : Sto → Loc → List Expr → Option (List V × Sto)
  | σ, _, [] => some ([], σ)
  | σ, ρ, e :: es => (r.ev sc σ ρ e).bind fun q => (evs r sc q.2 ρ es).bind fun p => some (q.1 :: p.1, p.2)
noncomputable def evk (r : R) (sc : Scope) : Sto → Loc → List Keyword → Option (List (Str × V) × Sto)
  | σ, _, [] => some ([], σ)
  | σ, ρ, k :: es => k.arg.bind fun n => (r.ev sc σ ρ k.value).bind fun q => (evk r sc q.2 ρ es).bind fun p => some ((n, q.1) :: p.1, p.2)
noncomputable def exs (r : R) (sc : Scope) : Sto → Loc → List Stmt → Option (Fl × Sto × Loc)
  | σ, ρ, [] => some (.next, σ, ρ)
  | σ, ρ, s :: ss => (r.ex sc σ ρ s).bind fun p => match p.1 with
    | .next => exs r sc p.2.1 p.2.2 ss
    | .ret v => some (.ret v, p.2)
noncomputable def boolEv (r : R) (sc : Scope) (op : BoolOp) : Sto → Loc → List Expr → Option (V × Sto)
  | _, _, [] => Option.none
  | σ, ρ, [e] => r.ev sc σ ρ e
  | σ, ρ, e :: es => match r.ev sc σ ρ e with
    | some (v, σ) => match truV v with
      | some t => match op, t with
        | .And, false => some (v, σ)
        | .Or, true => some (v, σ)
        | _, _ => boolEv r sc op σ ρ es
      | Option.none => Option.none
    | Option.none => Option.none
noncomputable def boolTst (r : R) (sc : Scope) (op : BoolOp) : Sto → Loc → List Expr → Option (Bool × Sto)
  | σ, _, [] => some ((match op with | .And => true | .Or => false), σ)
  | σ, ρ, e :: es => match r.tst sc σ ρ e with
    | some (t, σ) => match op, t with
      | .And, false => some (false, σ)
      | .Or, true => some (true, σ)
      | _, _ => boolTst r sc op σ ρ es
    | Option.none => Option.none

noncomputable def celled (o : List (Str × NameKind)) (n : Str) : Bool := (lk n o).any fun k => isCel k || isFre k
noncomputable def freeOf (o : List (Str × NameKind)) (ρ : Loc) : List (Str × NameKind) → Option Loc
  | [] => some []
  | p :: r => (freeOf o ρ r).bind fun l => match isFre p.2 with
    | true => (lk p.1 ρ).bind fun v => wh (celled o p.1) (some ((p.1, v) :: l))
    | false => some l

noncomputable def newL (σ : Sto) (vs : List V) : V × Sto := match vs with
  | [] => (.lst σ.length, σ ++ [[]])
  | _ :: _ => (.pl vs, σ)

noncomputable def noSym : List Nat → Bool
  | [] => true
  | a :: r => match Nat.beq a SYM with
    | true => false
    | false => noSym r
noncomputable def fewV (vs : List V) : Bool := Nat.ble vs.length 1000
noncomputable def evConst (σ : Sto) (c : Const) : Option (V × Sto) := match c with
  | .none => some (.none, σ)
  | .bool b => some (.bool b, σ)
  | .int i => some (.int i, σ)
  | .float x => some (.flt x, σ)
  | .str s => wh (noSym s.cps.toList) (some (.str s.cps.toList, σ))
  | _ => Option.none
noncomputable def evGlob (sc : Scope) (σ : Sto) (x : Str) : Option (V × Sto) := wh ((lk x sc.names).any isGlo) ((lk x globTab).bind fun v => some (v, σ))
noncomputable def evName (sc : Scope) (σ : Sto) (ρ : Loc) (x : Str) : Option (V × Sto) := match lk x ρ with
  | some v => some (v, σ)
  | Option.none => evGlob sc σ x
noncomputable def evBin (F : Facts) (r : R) (sc : Scope) (σ : Sto) (ρ : Loc) (a : Expr) (op : Operator) (b : Expr) : Option (V × Sto) := (r.ev sc σ ρ a).bind fun q => (r.ev sc q.2 ρ b).bind fun p => (binV F op q.1 p.1).bind fun v => some (v, p.2)
noncomputable def evUn (r : R) (sc : Scope) (σ : Sto) (ρ : Loc) (op : UnaryOp) (a : Expr) : Option (V × Sto) := (r.ev sc σ ρ a).bind fun q => (unV op q.1).bind fun v => some (v, q.2)
noncomputable def evIf (r : R) (sc : Scope) (σ : Sto) (ρ : Loc) (t b o : Expr) : Option (V × Sto) := (r.tst sc σ ρ t).bind fun q => match q.1 with
  | true => r.ev sc q.2 ρ b
  | false => r.ev sc q.2 ρ o
noncomputable def evCmp2 (op : CmpOp) (va : V) (rb : Option (V × Sto)) : Option (V × Sto) := rb.bind fun p => (cmpV op p.2 va p.1).bind fun t => some (.bool t, p.2)
noncomputable def evCmp (r : R) (sc : Scope) (σ : Sto) (ρ : Loc) (l : Expr) (ops : List CmpOp) (cs : List Expr) : Option (V × Sto) := (l1 ops).bind fun op => (l1 cs).bind fun c => (r.ev sc σ ρ l).bind fun q => evCmp2 op q.1 (r.ev sc q.2 ρ c)
noncomputable def evTup (r : R) (sc : Scope) (σ : Sto) (ρ : Loc) (es : List Expr) : Option (V × Sto) := (evs r sc σ ρ es).bind fun q => wh (fewV q.1) (some (.tup q.1, q.2))
noncomputable def evList (r : R) (sc : Scope) (σ : Sto) (ρ : Loc) (es : List Expr) : Option (V × Sto) := (evs r sc σ ρ es).bind fun q => wh (fewV q.1) (some (newL q.2 q.1))
noncomputable def okName (l : List (Str × NameKind)) (p : Str × NameKind) : Bool := match p.2 with
  | .local => (lk p.1 l).any isLoc
  | .cell => false
  | .free => (lk p.1 l).any isFre
  | _ => true
noncomputable def allB {α : Type} (f : α → Bool) : List α → Bool
  | [] => true
  | a :: r => f a && allB f r
noncomputable def isFun : ScopeKind → Bool
  | .function => true
  | _ => false
noncomputable def scOk (sc : Scope) : Bool := isFun sc.kind && (!sc.isGenerator && (!sc.isCoroutine && allB (okName sc.names) sc.names))
noncomputable def sPlaces : Str := "places"
noncomputable def lamOk (sc : Scope) : Bool := (lk sPlaces sc.names).any isLoc
noncomputable def notFree (p : Str × NameKind) : Bool := match p.2 with
  | .free => false
  | _ => true
noncomputable def plainPs : Arguments → Bool
  | ⟨[], _, Option.none, [], [], Option.none, []⟩ => true
  | _ => false
noncomputable def evLam (sc : Scope) (σ : Sto) (ps : Arguments) (body : Expr) (scope : Scope) : Option (V × Sto) := match lamOk sc, plainPs ps, allB notFree scope.names with
  | true, true, true => some (.lam ps body scope, σ)
  | _, _, _ => Option.none
noncomputable def noLam (sc : Scope) : Bool := match lamOk sc with
  | true => false
  | false => true
noncomputable def sync (g : Comprehension) : Bool := decide (g.is_async = 0)
noncomputable def evComp (r : R) (sc : Scope) (σ : Sto) (ρ : Loc) (elt : Expr) (gens : List Comprehension) (scope : Scope) : Option (V × Sto) := match gens with
  | [] => Option.none
  | g :: _ => (r.ev sc σ ρ g.iter).bind fun q => wh (scOk scope) (wh (sync g) (wh (noLam scope) ((srcOf q.1).bind fun src => (freeOf sc.names ρ scope.names).bind fun ρc => (r.cl scope q.2 ρc elt gens src 0 []).bind fun p => some (.pl p.1, p.2.1))))
noncomputable def cutL (a b : Int) (vs : List V) : List V := (vs.take b.toNat).drop a.toNat
noncomputable def evCut3 (top : Bool) (σ : Sto) (vo : V) (a b : Int) : Option (V × Sto) := match tupO vo with
  | some vs => wh top (wh (Nat.blt b.toNat vs.length) (wh (fewV vs) (some (.tup (cutL a b vs), σ))))
  | Option.none => (items σ vo).bind fun vs => wh (Nat.ble b.toNat vs.length) (wh (fewV vs) (some (.pl (cutL a b vs), σ)))
noncomputable def evCut2 (top : Bool) (vo : V) (vl : V) (rh : Option (V × Sto)) : Option (V × Sto) := rh.bind fun q => (intO q.1).bind fun b => (intO vl).bind fun a => wh (decide (0 ≤ a)) (wh (decide (a ≤ b)) (wh (small b) (evCut3 top q.2 vo a b)))
noncomputable def evCut (r : R) (sc : Scope) (σ : Sto) (ρ : Loc) (vo : V) (lo hi st : Option Expr) : Option (V × Sto) := match st with
  | some _ => Option.none
  | Option.none => hi.bind fun he => match lo with
    | Option.none => evCut2 true vo (.int 0) (r.ev sc σ ρ he)
    | some le => (r.ev sc σ ρ le).bind fun q => evCut2 false vo q.1 (r.ev sc q.2 ρ he)
noncomputable def itemsT (σ : Sto) : V → Option (List V)
  | .tup vs => some vs
  | v => items σ v
noncomputable def evItem2 (vo : V) (ri : Option (V × Sto)) : Option (V × Sto) := ri.bind fun q => (intO q.1).bind fun k => (itemsT q.2 vo).bind fun vs => wh (small k) ((idx vs k).bind fun v => some (v, q.2))
noncomputable def sliceO : Expr → Option (Option Expr × Option Expr × Option Expr)
  | .Slice lo hi st _ => some (lo, hi, st)
  | _ => Option.none
noncomputable def attrO : Expr → Option (Expr × Str × Pos)
  | .Attribute o n p => some (o, n, p)
  | _ => Option.none
noncomputable def evSub (r : R) (sc : Scope) (σ : Sto) (ρ : Loc) (o i : Expr) : Option (V × Sto) := (r.ev sc σ ρ o).bind fun q => match sliceO i with
  | some x => evCut r sc q.2 ρ q.1 x.1 x.2.1 x.2.2
  | Option.none => evItem2 q.1 (r.ev sc q.2 ρ i)
noncomputable def plainBase : Expr → Bool
  | .Name .. => true
  | .Constant .. => true
  | _ => false
noncomputable def evMeth (r : R) (sc : Scope) (σ : Sto) (ρ : Loc) (o : Expr) (name : Str) (args : List Expr) (kws : List Keyword) (ok : Bool) : Option (V × Sto) := wh kws.isEmpty (wh ok ((r.ev sc σ ρ o).bind fun q => (evs r sc q.2 ρ args).bind fun p => meth q.1 name p.2 p.1))
noncomputable def evCall (r : R) (sc : Scope) (σ : Sto) (ρ : Loc) (f : Expr) (args : List Expr) (kws : List Keyword) : Option (V × Sto) := (r.ev sc σ ρ f).bind fun q => (evs r sc q.2 ρ args).bind fun p => (evk r sc p.2 ρ kws).bind fun k => r.call k.2 q.1 p.1 k.1
noncomputable def few2 (args : List Expr) : Bool := Nat.ble args.length 20
noncomputable def methOk (o : Expr) (ap pos : Pos) (args : List Expr) : Bool := plainBase o && (Nat.beq ap.endLine pos.line && few2 args)
noncomputable def evCallF (r : R) (sc : Scope) (σ : Sto) (ρ : Loc) (f : Expr) (args : List Expr) (kws : List Keyword) (pos : Pos) : Option (V × Sto) := match attrO f with
  | some q => evMeth r sc σ ρ q.1 q.2.1 args kws (methOk q.1 q.2.2 pos args)
  | Option.none => evCall r sc σ ρ f args kws

inductive View where
  | const (c : Const)
  | name (x : Str)
  | bin (a : Expr) (op : Operator) (b : Expr)
  | un (op : UnaryOp) (a : Expr)
  | bool (op : BoolOp) (es : List Expr)
  | ife (t b o : Expr)
  | cmp (l : Expr) (ops : List CmpOp) (cs : List Expr)
  | tup (es : List Expr)
  | list (es : List Expr)
  | lam (ps : Arguments) (body : Expr) (sc : Scope)
  | comp (elt : Expr) (gens : List Comprehension) (sc : Scope)
  | sub (o i : Expr)
  | call (f : Expr) (args : List Expr) (kws : List Keyword) (pos : Pos)
  | bad
noncomputable def sDebug : Str := "__debug__"
noncomputable def sClassd : Str := "__classdict__"
noncomputable def viewN (x : Str) : View := match seq x sDebug, seq x sClassd with
  | false, false => .name x
  | _, _ => .bad
noncomputable def view : Expr → View
  | .Constant c _ _ => .const c
  | .Name x _ => viewN x
  | .BinOp a op b _ => .bin a op b
  | .UnaryOp op a _ => .un op a
  | .BoolOp op es _ => .bool op es
  | .IfExp t b o _ => .ife t b o
  | .Compare l ops cs _ => .cmp l ops cs
  | .Tuple es _ _ => .tup es
  | .List es _ => .list es
  | .Lambda ps body scope _ => .lam ps body scope
  | .ListComp elt gens scope _ => .comp elt gens scope
  | .Subscript o i _ => .sub o i
  | .Call f args kws pos => .call f args kws pos
  | _ => .bad

noncomputable def evF (F : Facts) (r : R) (sc : Scope) (σ : Sto) (ρ : Loc) (e : Expr) : Option (V × Sto) := match view e with
  | .const c => evConst σ c
  | .name x => evName sc σ ρ x
  | .bin a op b => evBin F r sc σ ρ a op b
  | .un op a => evUn r sc σ ρ op a
  | .bool op es => boolEv r sc op σ ρ es
  | .ife t b o => evIf r sc σ ρ t b o
  | .cmp l ops cs => evCmp r sc σ ρ l ops cs
  | .tup es => evTup r sc σ ρ es
  | .list es => evList r sc σ ρ es
  | .lam ps body scope => evLam sc σ ps body scope
  | .comp elt gens scope => evComp r sc σ ρ elt gens scope
  | .sub o i => evSub r sc σ ρ o i
  | .call f args kws pos => evCallF r sc σ ρ f args kws pos
  | .bad => Option.none

noncomputable def isNot : UnaryOp → Bool
  | .Not => true
  | _ => false
noncomputable def tstNot (r : R) (sc : Scope) (σ : Sto) (ρ : Loc) (op : UnaryOp) (x : Expr) : Option (Bool × Sto) := wh (isNot op) ((r.tst sc σ ρ x).bind fun q => some (!q.1, q.2))
noncomputable def tstV (x : Option (V × Sto)) : Option (Bool × Sto) := x.bind fun p => (truV p.1).bind fun t => some (t, p.2)
noncomputable def tstF (_F : Facts) (r : R) (sc : Scope) (σ : Sto) (ρ : Loc) (e : Expr) : Option (Bool × Sto) := match view e with
  | .un op x => tstNot r sc σ ρ op x
  | .bool op es => boolTst r sc op σ ρ es
  | .cmp l ops cs => tstV (evCmp r sc σ ρ l ops cs)
  | .name x => tstV (evName sc σ ρ x)
  | .call f args kws pos => tstV (evCallF r sc σ ρ f args kws pos)
  | _ => Option.none

noncomputable def exRet (r : R) (sc : Scope) (σ : Sto) (ρ : Loc) (v : Option Expr) : Option (Fl × Sto × Loc) := v.bind fun e => (r.ev sc σ ρ e).bind fun q => some (.ret q.1, q.2, ρ)
noncomputable def sN : Nat → Expr → Bool
  | n, e => match e with
    | .Name x _ => match seq x sDebug with
      | true => false
      | false => true
    | .Call .. => true
    | .List .. => true
    | .BinOp l _ r _ => match n with
      | 0 => false
      | n + 1 => match sN n l with
        | true => true
        | false => sN n r
    | .Subscript v _ _ => match n with
      | 0 => false
      | n + 1 => sN n v
    | _ => false
noncomputable def anyB {α : Type} (f : α → Bool) : List α → Bool
  | [] => false
  | a :: r => f a || anyB f r
noncomputable def inNames (x : Str) : List Expr → Bool
  | [] => false
  | e :: r => match viewT e with
    | .name y => match seq x y with
      | true => true
      | false => inNames x r
    | _ => true
noncomputable def distinctE : List Expr → Bool
  | [] => true
  | e :: r => match viewT e with
    | .name x => match inNames x r with
      | true => false
      | false => distinctE r
    | _ => false
noncomputable def okAsg (t e : Expr) : Bool := match t with
  | .Tuple ts _ _ => match e with
    | .Tuple vs _ _ => match anyB (sN 8) vs, distinctE ts with
      | true, true => true
      | _, _ => false
    | _ => true
  | _ => true
noncomputable def exAsg (r : R) (sc : Scope) (σ : Sto) (ρ : Loc) (ts : List Expr) (e : Expr) : Option (Fl × Sto × Loc) := (l1 ts).bind fun t => wh (okAsg t e) ((r.ev sc σ ρ e).bind fun q => (asgV sc ρ t q.1).bind fun ρ => some (.next, q.2, ρ))
noncomputable def exIf (r : R) (sc : Scope) (σ : Sto) (ρ : Loc) (t : Expr) (b o : List Stmt) : Option (Fl × Sto × Loc) := (r.tst sc σ ρ t).bind fun q => match q.1 with
  | true => exs r sc q.2 ρ b
  | false => exs r sc q.2 ρ o
noncomputable def exWhile (r : R) (sc : Scope) (σ : Sto) (ρ : Loc) (t : Expr) (b o : List Stmt) : Option (Fl × Sto × Loc) := wh o.isEmpty (r.wl sc σ ρ t b)
noncomputable def exFor (r : R) (sc : Scope) (σ : Sto) (ρ : Loc) (t it : Expr) (b o : List Stmt) : Option (Fl × Sto × Loc) := wh o.isEmpty ((r.ev sc σ ρ it).bind fun q => (srcOf q.1).bind fun src => r.fl sc q.2 ρ t src 0 b)
noncomputable def isCall : Expr → Bool
  | .Call .. => true
  | _ => false
noncomputable def exExpr (r : R) (sc : Scope) (σ : Sto) (ρ : Loc) (e : Expr) : Option (Fl × Sto × Loc) := wh (isCall e) ((r.ev sc σ ρ e).bind fun q => some (.next, q.2, ρ))
inductive ViewS where
  | ret (v : Option Expr)
  | asg (ts : List Expr) (e : Expr)
  | ifs (t : Expr) (b o : List Stmt)
  | whil (t : Expr) (b o : List Stmt)
  | fors (t it : Expr) (b o : List Stmt)
  | expr (e : Expr)
  | bad
noncomputable def viewS : Stmt → ViewS
  | .Return v _ => .ret v
  | .Assign ts e _ => .asg ts e
  | .If t b o _ => .ifs t b o
  | .While t b o _ => .whil t b o
  | .For t it b o _ => .fors t it b o
  | .Expr e _ => .expr e
  | _ => .bad
noncomputable def exF (r : R) (sc : Scope) (σ : Sto) (ρ : Loc) (s : Stmt) : Option (Fl × Sto × Loc) := match viewS s with
  | .ret v => exRet r sc σ ρ v
  | .asg ts e => exAsg r sc σ ρ ts e
  | .ifs t b o => exIf r sc σ ρ t b o
  | .whil t b o => exWhile r sc σ ρ t b o
  | .fors t it b o => exFor r sc σ ρ t it b o
  | .expr e => exExpr r sc σ ρ e
  | .bad => Option.none

noncomputable def retV (x : Option (Fl × Sto × Loc)) : Option (V × Sto) := x.bind fun p => match p.1 with
  | .ret v => some (v, p.2.1)
  | .next => some (.none, p.2.1)
abbrev Known := Str → List V → Option V
noncomputable def divT : Known := fun n vs => match seq n sDivmod with
  | true => divV vs
  | false => Option.none
noncomputable def callFn (r : R) (n : Str) (σ : Sto) (vs : List V) (kws : List (Str × V)) : Option (V × Sto) := (fnOf n).bind fun fn => match plainPs fn.ps with
  | true => wh kws.isEmpty ((bindGo (fn.ps.args.map (·.arg)) vs).bind fun ρ => retV (exs r fn.sc σ ρ fn.body))
  | false => (bindB vs kws).bind fun ρ => retV (exs r fn.sc σ ρ fn.body)
noncomputable def callDef (T : Known) (r : R) (n : Str) (σ : Sto) (vs : List V) (kws : List (Str × V)) : Option (V × Sto) := match kws with
  | [] => match T n vs with
    | some v => some (v, σ)
    | Option.none => callFn r n σ vs []
  | _ :: _ => callFn r n σ vs kws
noncomputable def distinctS : List Str → Bool
  | [] => true
  | x :: r => !anyB (seq x) r && distinctS r
noncomputable def parOk (sc : Scope) (names : List Str) : Bool := distinctS names && allB (canSt sc) names
noncomputable def callLam (r : R) (ps : Arguments) (body : Expr) (sc : Scope) (σ : Sto) (vs : List V) (kws : List (Str × V)) : Option (V × Sto) :=
  wh kws.isEmpty (wh (scOk sc) (wh (plainPs ps) (wh (noLam sc) (wh (parOk sc (ps.args.map (·.arg))) ((bindGo (ps.args.map (·.arg)) vs).bind fun ρ => r.ev sc σ ρ body)))))
noncomputable def callBi (n : BI) (σ : Sto) (vs : List V) (kws : List (Str × V)) : Option (V × Sto) := wh kws.isEmpty ((biF n σ vs).bind fun v => some (v, σ))
noncomputable def callF (T : Known) (r : R) (σ : Sto) (f : V) (vs : List V) (kws : List (Str × V)) : Option (V × Sto) := match f with
  | .fn n => callDef T r n σ vs kws
  | .lam ps body sc => callLam r ps body sc σ vs kws
  | .bi n => callBi n σ vs kws
  | _ => Option.none

noncomputable def wlF (r : R) (sc : Scope) (σ : Sto) (ρ : Loc) (t : Expr) (b : List Stmt) : Option (Fl × Sto × Loc) := (r.tst sc σ ρ t).bind fun q => match q.1 with
  | false => some (.next, q.2, ρ)
  | true => (exs r sc q.2 ρ b).bind fun p => match p.1 with
    | .next => r.wl sc p.2.1 p.2.2 t b
    | .ret v => some (.ret v, p.2)

noncomputable def flF (r : R) (sc : Scope) (σ : Sto) (ρ : Loc) (t : Expr) (src : Src) (j : Nat) (b : List Stmt) : Option (Fl × Sto × Loc) := (itemAt σ j src).bind fun x => match x with
  | Option.none => some (.next, σ, ρ)
  | some v => (asgV sc ρ t v).bind fun ρ => (exs r sc σ ρ b).bind fun p => match p.1 with
    | .next => r.fl sc p.2.1 p.2.2 t src (j + 1) b
    | .ret v => some (.ret v, p.2)

noncomputable def clOne (r : R) (sc : Scope) (ρ : Loc) (elt : Expr) (gens : List Comprehension) (src : Src) (j : Nat) (acc : List V) (x : Option (V × Sto)) : Option (List V × Sto × Loc) := x.bind fun p => wh (Nat.blt acc.length 100000) (r.cl sc p.2 ρ elt gens src (j + 1) (acc ++ [p.1]))
noncomputable def clTwo (r : R) (sc : Scope) (ρ : Loc) (elt : Expr) (gens rest : List Comprehension) (src : Src) (j : Nat) (acc : List V) (x : Option (V × Sto)) : Option (List V × Sto × Loc) := x.bind fun p => (srcOf p.1).bind fun src' => (r.cl sc p.2 ρ elt rest src' 0 acc).bind fun q => r.cl sc q.2.1 q.2.2 elt gens src (j + 1) q.1
noncomputable def clRest (r : R) (sc : Scope) (σ : Sto) (ρ : Loc) (elt : Expr) (gens rest : List Comprehension) (src : Src) (j : Nat) (acc : List V) : Option (List V × Sto × Loc) := match rest with
  | [] => clOne r sc ρ elt gens src j acc (r.ev sc σ ρ elt)
  | g' :: _ => wh (sync g') (clTwo r sc ρ elt gens rest src j acc (r.ev sc σ ρ g'.iter))
noncomputable def clAt (r : R) (sc : Scope) (σ : Sto) (ρ : Loc) (elt : Expr) (gens : List Comprehension) (g : Comprehension) (rest : List Comprehension) (src : Src) (j : Nat) (acc : List V) (x : Option V) : Option (List V × Sto × Loc) := match x with
  | Option.none => some (acc, σ, ρ)
  | some v => (asgV sc ρ g.target v).bind fun ρ => clRest r sc σ ρ elt gens rest src j acc
noncomputable def clF (r : R) (sc : Scope) (σ : Sto) (ρ : Loc) (elt : Expr) (gens : List Comprehension) (src : Src) (j : Nat) (acc : List V) : Option (List V × Sto × Loc) := match gens with
  | [] => Option.none
  | g :: rest => wh g.ifs.isEmpty (wh (sync g) ((itemAt σ j src).bind (clAt r sc σ ρ elt (g :: rest) g rest src j acc)))

noncomputable def stepR (F : Facts) (T : Known) (rIn r : R) : R := ⟨evF F r, tstF F r, exF r, callF T rIn, wlF r, flF r, clF r⟩
noncomputable def recN (F : Facts) (T : Known) (n : Nat) : R := Nat.rec R.bot (fun _ r => stepR F T r r) n
noncomputable def recL (F : Facts) (T : Known) (rIn : R) (n : Nat) : R := Nat.rec R.bot (fun _ r => stepR F T rIn r) n

noncomputable def sEuclid : Str := "_law_euclid"
noncomputable def euclidW (ρ : Loc) : Option V := (lk "u" ρ).bind fun u => (intO u).bind fun u => (lk "n" ρ).bind fun n => (intO n).bind fun n => (lk "turned" ρ).bind fun t => (intO t).bind fun t => wh (decide (u = 0)) (match decide (n = 1) with
  | true => some (.int (Int.fmod t 2))
  | false => some (.int 2))
noncomputable def isNext : Fl → Bool
  | .next => true
  | .ret _ => false
noncomputable def euclidV (r : R) (vs : List V) : Option V := (fnOf sEuclid).bind fun fn => (bindGo (fn.ps.args.map (·.arg)) vs).bind fun ρ => (exs r fn.sc [] ρ (fn.body.take 4)).bind fun q => wh (isNext q.1) (wh q.2.1.isEmpty (euclidW q.2.2))

noncomputable def unitV (n : Nat) : List Int := match n with
  | 0 => [1]
  | n + 1 => 0 :: unitV n
noncomputable def sums0 : V := .pl [.lin 0 (unitV 0), .lin 0 (unitV 1), .lin 0 (unitV 2), .lin 0 (unitV 3)]
noncomputable def facts (i j kind : Nat) : Facts := [(unitV 0, 7, .int (i : Int)), (unitV 1, 7, .int (j : Int)), (unitV 2, 50000, .lin 0 (unitV 4)), (unitV 3, 3, .int (kind : Int))]
noncomputable def sLaw : Str := "law"
noncomputable def runLaw (n : Nat) (F : Facts) (T : Known) (rIn : R) : Option (Fl × Sto × Loc) := match fnOf sLaw with
  | Option.none => Option.none
  | some fn => exs (recL F T rIn n) fn.sc [] [("sums", sums0)] (fn.body.drop 1)
noncomputable def retO : Fl → Option V
  | .ret v => some v
  | .next => Option.none
noncomputable def isTrueR (x : Option (Fl × Sto × Loc)) : Bool := (x.bind fun q => (retO q.1).bind boolO).getD false
end Mine
end
local macro_rules (kind := Lean.Parser.Tactic.cases)
  | s => Mine.M.run (Mine.M.cs s)
local macro_rules (kind := Lean.Parser.Tactic.omega)
  | s => Mine.M.run (Mine.M.om s)
local macro_rules (kind := Lean.Parser.Tactic.split)
  | s => Mine.M.run (Mine.M.sp s)
local macro_rules (kind := Lean.Parser.Tactic.delta)
  | s => Mine.M.run (Mine.M.de s)
local macro_rules (kind := Lean.Parser.Tactic.obtain)
  | s => Mine.M.run (if s[1].getNumArgs == 1 && s[2].isNone && s[3][1].getNumArgs == 1 then Mine.M.oc s[1][0] s[3][1][0] else none)
local macro_rules (kind := Lean.Parser.Tactic.rcases)
  | s => Mine.M.run (if s[1].getNumArgs == 1 && s[1][0][0].isNone && s[2].getNumArgs == 2 && s[2][1][1].isNone then Mine.M.oc s[2][1][0] s[1][0][1] else none)
local macro_rules (kind := Lean.Parser.Tactic.rwSeq)
  | s => Mine.M.run (Mine.M.rw s)
local macro_rules (kind := Lean.Parser.Term.let)
  | s => Mine.M.run (Mine.M.lt s)
set_option compiler.postponeCompile true
section
set_option maxRecDepth 100000
set_option linter.unusedVariables false
namespace Mine
open PySem PySem.Calls PyProof.Rows PySem.W

structure Cx where
  h₀ : Heap
  tabs : List (Addr × Addr × Str)
  X : List Int
  ch : Nat
  fnA : Str → Option Addr
  patA : Nat → Option Addr
  n₀ : Nat
  φ₀ : Nat → UInt64
  frs : List Addr

noncomputable def Cx.tabP (cx : Cx) (a : Addr) : Prop := ∃ t ∈ cx.tabs, t.2.1 = a
noncomputable def dot : List Int → List Int → Int
  | [], _ => 0
  | _, [] => 0
  | x :: xs, y :: ys => x * y + dot xs ys
noncomputable def Cx.sign (cx : Cx) (n : Nat) : Nat := if n = SYM then cx.ch else n
noncomputable def Cx.strOf (cx : Cx) (s : List Nat) : Str := ⟨(s.map cx.sign).toArray⟩

noncomputable def Imm (o : Obj) : Bool := match o.data with
  | .seq .. => true
  | .func _ => true
  | .fields _ => o.cls == .type "range" || o.cls == .type "code"
  | _ => false

noncomputable def biVal : BI → Value
  | .max => .builtin "max"
  | .min => .builtin "min"
  | .abs => .builtin "abs"
  | .round => .builtin "round"
  | .int => .type "int"
  | .len => .builtin "len"
  | .range => .type "range"
  | .sorted => .builtin "sorted"
  | .list => .type "list"
  | .chr => .builtin "chr"

noncomputable def PlainTup (h : Heap) (a : Addr) (ws : List Value) : Prop := ∃ n, h.get? a = some { cls := .type "tuple", data := .seq ws.toArray n }
noncomputable def CodeObjOf (h : Heap) (cd : Value) (q : Str) : Prop := ∃ c o vs t, cd = .ref c ∧ h.get? c = some o ∧ o.cls = .type "code" ∧ o.data = .fields vs ∧ vs[1]? = some (.str q t)
noncomputable def lamFd (q : Str) (ps : Arguments) (body : Expr) (sc : Scope) (pm cd ct : Value) : FuncData :=
  { name := "<lambda>", qualname := q, params := ps, body := .expr body, scope := sc, globals := mainGlobals, closure := [], defaults := .none, kwdefaults := .none, pyModule := pm, code := cd, closureTuple := ct, builtins := builtinsNs }

structure Gh where
  am : List Addr
  hid : List Addr
  φ : Nat → UInt64
  n : Nat
noncomputable def Gh.free (g : Gh) (a : Addr) : Prop := a ∉ g.am ∧ a ∉ g.hid

mutual
inductive VR (cx : Cx) (h : Heap) (g : Gh) : V → Value → Prop
  | none : VR cx h g .none .none
  | bool (b : Bool) : VR cx h g (.bool b) (.bool b)
  | int (i : Int) (t : Tok) : VR cx h g (.int i) (.int i t)
  | lin (c : Int) (k : List Int) (t : Tok) : VR cx h g (.lin c k) (.int (c + dot k cx.X) t)
  | flt (x : UInt64) (t : Tok) : 0 < t → t < g.n → g.φ t = x → VR cx h g (.flt x) (.float x t)
  | str (s : List Nat) (t : Tok) : VR cx h g (.str s) (.str (cx.strOf s) t)
  | tup {vs : List V} {ws : List Value} {a : Addr} : PlainTup h a ws → g.free a → VRs cx h g vs ws → VR cx h g (.tup vs) (.ref a)
  | pl {vs : List V} {ws : List Value} {a : Addr} : h.PlainList a ws.toArray → g.free a → VRs cx h g vs ws → VR cx h g (.pl vs) (.ref a)
  | lst {i : Nat} {a : Addr} : g.am[i]? = some a → VR cx h g (.lst i) (.ref a)
  | fn {n : Str} {a : Addr} : cx.fnA n = some a → VR cx h g (.fn n) (.ref a)
  | bi (b : BI) {w : Value} : w = biVal b → VR cx h g (.bi b) w
  | pat {k : Nat} {a : Addr} : cx.patA k = some a → VR cx h g (.pat k) (.ref a)
  | rng {a b : Int} {r : Addr} {t u v : Tok} : small a = true → small b = true → IsRange h r a b 1 t u v → g.free r → VR cx h g (.rng a b) (.ref r)
  | lam {ps : Arguments} {body : Expr} {sc : Scope} {a : Addr} {q : Str} {pm cd ct : Value} :
      h.get? a = some { cls := .type "function", data := .func (lamFd q ps body sc pm cd ct) } → CodeObjOf h cd q → g.free a → (∀ c, cd = .ref c → g.free c) → VR cx h g (.lam ps body sc) (.ref a)
inductive VRs (cx : Cx) (h : Heap) (g : Gh) : List V → List Value → Prop
  | nil : VRs cx h g [] []
  | cons {v : V} {w : Value} {vs : List V} {ws : List Value} : VR cx h g v w → VRs cx h g vs ws → VRs cx h g (v :: vs) (w :: ws)
end

/-! one case of VR alone -/
section
variable {cx : Cx} {h : Heap} {g : Gh} {w : Value} {P : Value → Prop}
noncomputable def VRf (cx : Cx) (h : Heap) (g : Gh) (v : V) (w : Value) : Prop := match v with
  | .none => w = .none
  | .bool b => w = .bool b
  | .int i => ∃ t, w = .int i t
  | .lin c k => ∃ t, w = .int (c + dot k cx.X) t
  | .flt x => ∃ t, 0 < t ∧ t < g.n ∧ g.φ t = x ∧ w = .float x t
  | .str s => ∃ t, w = .str (cx.strOf s) t
  | .tup vs => ∃ ws a, PlainTup h a ws ∧ g.free a ∧ VRs cx h g vs ws ∧ w = .ref a
  | .pl vs => ∃ ws a, h.PlainList a ws.toArray ∧ g.free a ∧ VRs cx h g vs ws ∧ w = .ref a
  | .lst i => ∃ a, g.am[i]? = some a ∧ w = .ref a
  | .fn n => ∃ a, cx.fnA n = some a ∧ w = .ref a
  | .bi b => w = biVal b
  | .pat k => ∃ a, cx.patA k = some a ∧ w = .ref a
  | .rng a b => ∃ r t u v, small a = true ∧ small b = true ∧ IsRange h r a b 1 t u v ∧ g.free r ∧ w = .ref r
  | .lam ps body sc => ∃ a q pm cd ct, h.get? a = some { cls := .type "function", data := .func (lamFd q ps body sc pm cd ct) } ∧ CodeObjOf h cd q ∧ g.free a ∧ (∀ c, cd = .ref c → g.free c) ∧ w = .ref a
theorem VR.inv {v : V} (x : VR cx h g v w) : VRf cx h g v w := by
  cases x with
  | none => rfl
  | bool b => rfl
  | int i t => exact ⟨t, rfl⟩
  | lin c k t => exact ⟨t, rfl⟩
  | flt x t a b c => exact ⟨t, a, b, c, rfl⟩
  | str s t => exact ⟨t, rfl⟩
  | tup p n r => exact ⟨_, _, p, n, r, rfl⟩
  | pl p n r => exact ⟨_, _, p, n, r, rfl⟩
  | lst e => exact ⟨_, e, rfl⟩
  | fn e => exact ⟨_, e, rfl⟩
  | bi b e => exact e
  | pat e => exact ⟨_, e, rfl⟩
  | rng a b c d => exact ⟨_, _, _, _, a, b, c, d, rfl⟩
  | lam a b c d => exact ⟨_, _, _, _, _, a, b, c, d, rfl⟩
theorem VR.intE {i : Int} (x : VR cx h g (.int i) w) (k : ∀ t, P (.int i t)) : P w := let ⟨t, e⟩ := x.inv; e ▸ k t
theorem VR.linE {c : Int} {q : List Int} (x : VR cx h g (.lin c q) w) (k : ∀ t, P (.int (c + dot q cx.X) t)) : P w := let ⟨t, e⟩ := x.inv; e ▸ k t
theorem VR.fltE {b : UInt64} (x : VR cx h g (.flt b) w) (k : ∀ t, 0 < t → t < g.n → g.φ t = b → P (.float b t)) : P w := let ⟨t, h1, h2, h3, e⟩ := x.inv; e ▸ k t h1 h2 h3
theorem VR.strE {s : List Nat} (x : VR cx h g (.str s) w) (k : ∀ t, P (.str (cx.strOf s) t)) : P w := let ⟨t, e⟩ := x.inv; e ▸ k t
theorem VR.tupE {vs : List V} (x : VR cx h g (.tup vs) w) (k : ∀ ws a, PlainTup h a ws → g.free a → VRs cx h g vs ws → P (.ref a)) : P w := let ⟨_, _, p, n, r, e⟩ := x.inv; e ▸ k _ _ p n r
theorem VR.plE {vs : List V} (x : VR cx h g (.pl vs) w) (k : ∀ (ws : List Value) a, h.PlainList a ws.toArray → g.free a → VRs cx h g vs ws → P (.ref a)) : P w := let ⟨_, _, p, n, r, e⟩ := x.inv; e ▸ k _ _ p n r
theorem VR.lstE {i : Nat} (x : VR cx h g (.lst i) w) (k : ∀ a, g.am[i]? = some a → P (.ref a)) : P w := let ⟨_, p, e⟩ := x.inv; e ▸ k _ p
theorem VR.fnE {n : Str} (x : VR cx h g (.fn n) w) (k : ∀ a, cx.fnA n = some a → P (.ref a)) : P w := let ⟨_, p, e⟩ := x.inv; e ▸ k _ p
theorem VR.patE {i : Nat} (x : VR cx h g (.pat i) w) (k : ∀ a, cx.patA i = some a → P (.ref a)) : P w := let ⟨_, p, e⟩ := x.inv; e ▸ k _ p
theorem VR.rngE {a b : Int} (x : VR cx h g (.rng a b) w) (k : ∀ r t u v, small a = true → small b = true → IsRange h r a b 1 t u v → g.free r → P (.ref r)) : P w := let ⟨_, _, _, _, p, q, r, f, e⟩ := x.inv; e ▸ k _ _ _ _ p q r f
theorem VR.lamE {ps : Arguments} {body : Expr} {sc : Scope} (x : VR cx h g (.lam ps body sc) w)
    (k : ∀ a q pm cd ct, h.get? a = some { cls := .type "function", data := .func (lamFd q ps body sc pm cd ct) } → CodeObjOf h cd q → g.free a → (∀ c, cd = .ref c → g.free c) → P (.ref a)) : P w := let ⟨_, _, _, _, _, p, q, r, f, e⟩ := x.inv; e ▸ k _ _ _ _ _ p q r f
theorem VR.plR {vs : List V} {a : Addr} {G : Prop} (x : VR cx h g (.pl vs) (.ref a)) (k : ∀ ws : List Value, h.PlainList a ws.toArray → g.free a → VRs cx h g vs ws → G) : G := let ⟨_, _, p, n, r, e⟩ := x.inv; by injection e with e; subst e; exact k _ p n r
theorem VR.tupR {vs : List V} {a : Addr} {G : Prop} (x : VR cx h g (.tup vs) (.ref a)) (k : ∀ ws : List Value, PlainTup h a ws → g.free a → VRs cx h g vs ws → G) : G := let ⟨_, _, p, n, r, e⟩ := x.inv; by injection e with e; subst e; exact k _ p n r
theorem VR.boolE {b : Bool} (x : VR cx h g (.bool b) w) (k : P (.bool b)) : P w := (show w = .bool b from x.inv) ▸ k
theorem VR.noneE (x : VR cx h g .none w) (k : P .none) : P w := (show w = .none from x.inv) ▸ k
end

theorem VRs.consP {cx : Cx} {h : Heap} {g : Gh} {v : V} {vs : List V} {ws : List Value} {P : List Value → Prop} (x : VRs cx h g (v :: vs) ws) (k : ∀ w ws', VR cx h g v w → VRs cx h g vs ws' → P (w :: ws')) : P ws := by
  cases (x) with
  | cons a b => exact k _ _ a b
theorem VRs.nilP {cx : Cx} {h : Heap} {g : Gh} {ws : List Value} {P : List Value → Prop} (x : VRs cx h g [] ws) (k : P []) : P ws := by
  cases (x); exact k

theorem whE {α : Type} {b : Bool} {x : Option α} {r : α} {G : Prop} (e : wh b x = some r) (k : b = true → x = some r → G) : G := by
  cases b with
  | false => exact nsE e
  | true => exact k rfl e
theorem intO_ok {v : V} {i : Int} (e : intO v = some i) : v = .int i := by cases v <;> first | exact nsE e | exact Option.some.inj e ▸ rfl
theorem fltO_ok {v : V} {i : UInt64} (e : fltO v = some i) : v = .flt i := by cases v <;> first | exact nsE e | exact Option.some.inj e ▸ rfl
theorem strO_ok {v : V} {i : List Nat} (e : strO v = some i) : v = .str i := by cases v <;> first | exact nsE e | exact Option.some.inj e ▸ rfl
theorem boolO_ok {v : V} {i : Bool} (e : boolO v = some i) : v = .bool i := by cases v <;> first | exact nsE e | exact Option.some.inj e ▸ rfl
theorem tupO_ok {v : V} {i : List V} (e : tupO v = some i) : v = .tup i := by cases v <;> first | exact nsE e | exact Option.some.inj e ▸ rfl
theorem plO_ok {v : V} {i : List V} (e : plO v = some i) : v = .pl i := by cases v <;> first | exact nsE e | exact Option.some.inj e ▸ rfl
theorem rngO_ok {v : V} {i : Int × Int} (e : rngO v = some i) : v = .rng i.1 i.2 := by cases v <;> first | exact nsE e | exact Option.some.inj e ▸ rfl
theorem linO_ok {v : V} {i : Int × List Int} (e : linO v = some i) : v = .lin i.1 i.2 := by cases v <;> first | exact nsE e | exact Option.some.inj e ▸ rfl
theorem l1_ok {α : Type} : ∀ {l : List α} {a : α}, l1 l = some a → l = [a]
  | [_], _, e => Option.some.inj e ▸ rfl
  | [], _, e => nsE e
  | _ :: _ :: _, _, e => nsE e
theorem l2_ok {α : Type} : ∀ {l : List α} {a : α × α}, l2 l = some a → l = [a.1, a.2]
  | [_, _], _, e => Option.some.inj e ▸ rfl
  | [], _, e => nsE e
  | [_], _, e => nsE e
  | _ :: _ :: _ :: _, _, e => nsE e
theorem l3_ok {α : Type} : ∀ {l : List α} {a : α × α × α}, l3 l = some a → l = [a.1, a.2.1, a.2.2]
  | [_, _, _], _, e => Option.some.inj e ▸ rfl
  | [], _, e => nsE e
  | [_], _, e => nsE e
  | [_, _], _, e => nsE e
  | _ :: _ :: _ :: _ :: _, _, e => nsE e
theorem l4_ok {α : Type} : ∀ {l : List α} {a : α × α × α × α}, l4 l = some a → l = [a.1, a.2.1, a.2.2.1, a.2.2.2]
  | [_, _, _, _], _, e => Option.some.inj e ▸ rfl
  | [], _, e => nsE e
  | [_], _, e => nsE e
  | [_, _], _, e => nsE e
  | [_, _, _], _, e => nsE e
  | _ :: _ :: _ :: _ :: _ :: _, _, e => nsE e
section
variable {cx : Cx} {h : Heap} {g : Gh} {v : V} {w : Value} {vs : List V} {ws : List Value} {P : Value → Prop} {Q : List Value → Prop}
theorem VR.intO {i : Int} (x : VR cx h g v w) (e : intO v = some i) (k : ∀ t, P (.int i t)) : P w := VR.intE (intO_ok e ▸ x) k
theorem VR.fltO {i : UInt64} (x : VR cx h g v w) (e : fltO v = some i) (k : ∀ t, 0 < t → t < g.n → g.φ t = i → P (.float i t)) : P w := VR.fltE (fltO_ok e ▸ x) k
theorem VR.strO {i : List Nat} (x : VR cx h g v w) (e : strO v = some i) (k : ∀ t, P (.str (cx.strOf i) t)) : P w := VR.strE (strO_ok e ▸ x) k
theorem VR.linO {i : Int × List Int} (x : VR cx h g v w) (e : linO v = some i) (k : ∀ t, P (.int (i.1 + dot i.2 cx.X) t)) : P w := VR.linE (linO_ok e ▸ x) k
theorem VR.rngO {i : Int × Int} (x : VR cx h g v w) (e : rngO v = some i) (k : ∀ r t u v, small i.1 = true → small i.2 = true → IsRange h r i.1 i.2 1 t u v → g.free r → P (.ref r)) : P w := VR.rngE (rngO_ok e ▸ x) k
theorem VR.plO {i : List V} (x : VR cx h g v w) (e : plO v = some i) (k : ∀ (ws : List Value) a, h.PlainList a ws.toArray → g.free a → VRs cx h g i ws → P (.ref a)) : P w := VR.plE (plO_ok e ▸ x) k
theorem VR.tupO {i : List V} (x : VR cx h g v w) (e : tupO v = some i) (k : ∀ ws a, PlainTup h a ws → g.free a → VRs cx h g i ws → P (.ref a)) : P w := VR.tupE (tupO_ok e ▸ x) k
theorem VRs.l1 {a : V} (x : VRs cx h g vs ws) (e : l1 vs = some a) (k : ∀ w, VR cx h g a w → Q [w]) : Q ws := VRs.consP (l1_ok e ▸ x) fun w _ h1 h2 => h2.nilP (P := fun l => Q (w :: l)) (k w h1)
theorem VRs.l2 {a : V × V} (x : VRs cx h g vs ws) (e : l2 vs = some a) (k : ∀ w w2, VR cx h g a.1 w → VR cx h g a.2 w2 → Q [w, w2]) : Q ws := VRs.consP (l2_ok e ▸ x) fun w _ h1 h2 => h2.l1 (Q := fun l => Q (w :: l)) rfl fun w2 => k w w2 h1
theorem VRs.l3 {a : V × V × V} (x : VRs cx h g vs ws) (e : l3 vs = some a) (k : ∀ w w2 w3, VR cx h g a.1 w → VR cx h g a.2.1 w2 → VR cx h g a.2.2 w3 → Q [w, w2, w3]) : Q ws := VRs.consP (l3_ok e ▸ x) fun w _ h1 h2 => h2.l2 (Q := fun l => Q (w :: l)) (a := a.2) rfl fun w2 w3 => k w w2 w3 h1
theorem VRs.l4 {a : V × V × V × V} (x : VRs cx h g vs ws) (e : l4 vs = some a) (k : ∀ w w2 w3 w4, VR cx h g a.1 w → VR cx h g a.2.1 w2 → VR cx h g a.2.2.1 w3 → VR cx h g a.2.2.2 w4 → Q [w, w2, w3, w4]) : Q ws := VRs.consP (l4_ok e ▸ x) fun w _ h1 h2 => h2.l3 (Q := fun l => Q (w :: l)) (a := a.2) rfl fun w2 w3 w4 => k w w2 w3 w4 h1
end

noncomputable def Sl (o o' : Obj) : Prop := o' = o ∨ ((∃ es ep, o.data = .dict es ep) ∧ o'.data = o.data)
theorem Sl.refl (o : Obj) : Sl o o := .inl rfl
theorem Sl.trans {a b c : Obj} (x : Sl a b) (y : Sl b c) : Sl a c := by
  rcases x with rfl | ⟨x1, x2⟩
  · exact y
  · rcases y with rfl | ⟨y1, y2⟩
    · exact .inr ⟨x1, x2⟩
    · exact .inr ⟨x1, y2.trans x2⟩
theorem Sl.data {a b : Obj} (x : Sl a b) : b.data = a.data := by
  rcases x with rfl | ⟨_, e⟩
  · rfl
  · exact e
theorem Sl.eq {a b : Obj} (x : Sl a b) (h : ∀ es ep, a.data ≠ .dict es ep) : b = a := by
  rcases x with rfl | ⟨⟨es, ep, e⟩, _⟩
  · rfl
  · exact absurd e (h es ep)
structure Ev (cx : Cx) (X : List Addr) (g g' : Gh) (h h' : Heap) : Prop where
  pre : ∃ more, g'.am = g.am ++ more
  hid : g'.hid = g.hid
  tok : g.n ≤ g'.n
  told : ∀ t, t < g.n → g'.φ t = g.φ t
  keep : ∀ a o, h.get? a = some o → a ∉ g.am → a ∉ X → ¬ cx.tabP a → ∃ o', h'.get? a = some o' ∧ Sl o o'
  imm : ∀ a o, h.get? a = some o → Imm o = true → g.free a → h'.get? a = some o
  there : ∀ a o, h.get? a = some o → a ∉ X → ∃ o', h'.get? a = some o'
  new : ∀ a ∈ g'.am, a ∉ g.am → h.get? a = none

theorem Ev.keepN {cx : Cx} {X : List Addr} {g g' : Gh} {h h' : Heap} (x : Ev cx X g g' h h') {a : Addr} {o : Obj} (e : h.get? a = some o) (h1 : a ∉ g.am) (h2 : a ∉ X) (h3 : ¬ cx.tabP a) (hn : ∀ es ep, o.data ≠ .dict es ep) : h'.get? a = some o := by
  obtain ⟨o', e', s⟩ := x.keep a o e h1 h2 h3
  rw [s.eq hn] at e'; exact e'
theorem Ev.keepNs {cx : Cx} {X : List Addr} {g g' : Gh} {h h' : Heap} (x : Ev cx X g g' h h') {a : Addr} {m : Str → Option Value} (n : h.Ns a m) (h1 : a ∉ g.am) (h2 : a ∉ X) (h3 : ¬ cx.tabP a) : h'.Ns a m := by
  obtain ⟨o, es, ep, e, d, r⟩ := n
  obtain ⟨o', e', s⟩ := x.keep a o e h1 h2 h3
  exact ⟨o', es, ep, e', s.data.trans d, r⟩
theorem Ev.refl {cx : Cx} {X : List Addr} {g : Gh} {h : Heap} : Ev cx X g g h h :=
  ⟨⟨[], by simp⟩, rfl, Nat.le_refl _, fun _ _ => rfl, fun _ o e _ _ _ => ⟨o, e, .refl o⟩, fun _ _ e _ _ => e, fun _ o e _ => ⟨o, e⟩, fun _ hm hn => absurd hm hn⟩
theorem Ev.notin {cx : Cx} {X : List Addr} {g g' : Gh} {h h' : Heap} (x : Ev cx X g g' h h') {a : Addr} {o : Obj} (e : h.get? a = some o) (hn : a ∉ g.am) : a ∉ g'.am := fun hm => by
  have := x.new a hm hn
  rw [e] at this; cases this
theorem Ev.free {cx : Cx} {X : List Addr} {g g' : Gh} {h h' : Heap} (x : Ev cx X g g' h h') {a : Addr} {o : Obj} (e : h.get? a = some o) (hn : g.free a) : g'.free a :=
  ⟨x.notin e hn.1, by rw [x.hid]; exact hn.2⟩
theorem Ev.trans {cx : Cx} {X : List Addr} {g g' g'' : Gh} {h h' h'' : Heap} (x : Ev cx X g g' h h') (y : Ev cx X g' g'' h' h'') (hX : ∀ a ∈ X, a ∉ g''.am := by simp) : Ev cx X g g'' h h'' where
  pre := by
    obtain ⟨m, e⟩ := x.pre
    obtain ⟨m', e'⟩ := y.pre
    exact ⟨m ++ m', by rw [e', e, List.append_assoc]⟩
  hid := y.hid.trans x.hid
  tok := Nat.le_trans x.tok y.tok
  told := fun t ht => (y.told t (Nat.lt_of_lt_of_le ht x.tok)).trans (x.told t ht)
  keep := fun a o e h1 h2 h3 => by
    obtain ⟨o1, e1, s1⟩ := x.keep a o e h1 h2 h3
    obtain ⟨o2, e2, s2⟩ := y.keep a o1 e1 (x.notin e h1) h2 h3
    exact ⟨o2, e2, s1.trans s2⟩
  imm := fun a o e h1 h2 => y.imm a o (x.imm a o e h1 h2) h1 (x.free e h2)
  there := fun a o e hx => let ⟨_, e'⟩ := x.there a o e hx; y.there a _ e' hx
  new := fun a hm hn => by
    by_cases ha : a ∈ g'.am
    · exact x.new a ha hn
    · have := y.new a hm ha
      cases q : h.get? a with
      | none => rfl
      | some o =>
        obtain ⟨o', e'⟩ := x.there a o q (fun m => hX a m hm)
        rw [this] at e'; cases e'
theorem Ev.weaken {cx : Cx} {X Y : List Addr} {g g' : Gh} {h h' : Heap} (x : Ev cx X g g' h h') (hs : ∀ a ∈ X, a ∈ Y) : Ev cx Y g g' h h' :=
  ⟨x.pre, x.hid, x.tok, x.told, fun a o e h1 h2 h3 => x.keep a o e h1 (fun q => h2 (hs a q)) h3, x.imm, fun a o e h => x.there a o e (fun q => h (hs a q)), x.new⟩
theorem Ev.drop {cx : Cx} {X Y : List Addr} {g g' : Gh} {h h' : Heap} (x : Ev cx X g g' h h') (hs : ∀ a ∈ X, a ∈ Y ∨ h.get? a = none) : Ev cx Y g g' h h' :=
  ⟨x.pre, x.hid, x.tok, x.told, fun a o e h1 h2 h3 => x.keep a o e h1 (fun q => (hs a q).elim h2 fun q => by rw [e] at q; cases q) h3, x.imm, fun a o e h => x.there a o e (fun q => (hs a q).elim h fun q => by rw [e] at q; cases q), x.new⟩

theorem Ev.push {cx : Cx} {X : List Addr} {g : Gh} {h : Heap} (o : Obj) : Ev cx X g g h (h.push o) :=
  ⟨⟨[], by simp⟩, rfl, Nat.le_refl _, fun _ _ => rfl, fun _ o e _ _ _ => ⟨o, Heap.get?_push_of_some _ e, .refl o⟩, fun _ _ e _ _ => Heap.get?_push_of_some _ e, fun _ o e _ => ⟨o, Heap.get?_push_of_some _ e⟩, fun _ hm hn => absurd hm hn⟩
theorem Ev.keeps {cx : Cx} {X : List Addr} {g : Gh} {h h' : Heap} (k : ∀ b o, h.get? b = some o → h'.get? b = some o) : Ev cx X g g h h' :=
  ⟨⟨[], by simp⟩, rfl, Nat.le_refl _, fun _ _ => rfl, fun _ o e _ _ _ => ⟨o, k _ _ e, .refl o⟩, fun _ _ e _ _ => k _ _ e, fun _ o e _ => ⟨o, k _ _ e⟩, fun _ hm hn => absurd hm hn⟩
theorem Ev.same {cx : Cx} {X : List Addr} {g : Gh} {h h' : Heap} {b : Addr} {ob : Obj} (hs : Heap.ExtBut b h h') (hb : h.get? b = some ob) (hi : Imm ob = false) (hX : b ∈ X) : Ev cx X g g h h' :=
  ⟨⟨[], by simp⟩, rfl, Nat.le_refl _, fun _ _ => rfl, fun a o e _ h2 _ => ⟨o, hs a o (fun q => h2 (q ▸ hX)) e, .refl o⟩, fun a o e h1 _ => hs a o (fun q => by
    subst q; rw [hb] at e; cases e; rw [hi] at h1; cases h1) e, fun a o e h => ⟨o, hs a o (fun q => h (q ▸ hX)) e⟩, fun _ hm hn => absurd hm hn⟩

theorem Ev.fill {cx : Cx} {X : List Addr} {g : Gh} {h h' : Heap} {b : Addr} (hs : Heap.ExtBut b h h') (hb : b ∈ g.hid) (hX : b ∈ X) : Ev cx X g g h h' :=
  ⟨⟨[], by simp⟩, rfl, Nat.le_refl _, fun _ _ => rfl, fun a o e _ h2 _ => ⟨o, hs a o (fun q => h2 (q ▸ hX)) e, .refl o⟩, fun a o e _ h1 => hs a o (fun q => h1.2 (q ▸ hb)) e, fun a o e h => ⟨o, hs a o (fun q => h (q ▸ hX)) e⟩, fun _ hm hn => absurd hm hn⟩

structure Mo (g g' : Gh) (h h' : Heap) : Prop where
  pre : ∃ more, g'.am = g.am ++ more
  hid : ∀ a, a ∈ g'.hid → a ∈ g.hid ∨ h.get? a = none
  tok : g.n ≤ g'.n
  told : ∀ t, t < g.n → g'.φ t = g.φ t
  imm : ∀ a o, h.get? a = some o → Imm o = true → g.free a → h'.get? a = some o
  new : ∀ a ∈ g'.am, a ∉ g.am → h.get? a = none
theorem Mo.free {g g' : Gh} {h h' : Heap} (x : Mo g g' h h') {a : Addr} {o : Obj} (e : h.get? a = some o) (hn : g.free a) : g'.free a := by
  refine ⟨fun hm => ?_, fun hm => ?_⟩
  · have := x.new a hm hn.1
    rw [e] at this; cases this
  · rcases x.hid a hm with q | q
    · exact hn.2 q
    · rw [e] at q; cases q
theorem Ev.mo {cx : Cx} {X : List Addr} {g g' : Gh} {h h' : Heap} (x : Ev cx X g g' h h') : Mo g g' h h' :=
  ⟨x.pre, fun a m => .inl (x.hid ▸ m), x.tok, x.told, x.imm, x.new⟩

section
variable {cx : Cx} {g g' : Gh} {h h' : Heap} (x : Mo g g' h h')
include x
theorem VR.monoM {v : V} {w : Value} (r : VR cx h g v w) : VR cx h' g' v w := by
  refine VR.rec (motive_1 := fun v w _ => VR cx h' g' v w) (motive_2 := fun vs ws _ => VRs cx h' g' vs ws) ?_ ?_ ?_ ?_ ?_ ?_ ?_ ?_ ?_ ?_ ?_ ?_ ?_ ?_ ?_ ?_ r
  · exact .none
  · exact fun b => .bool b
  · exact fun i t => .int i t
  · exact fun c k t => .lin c k t
  · exact fun a t q r u => .flt a t q (Nat.lt_of_lt_of_le r x.tok) ((x.told t r).trans u)
  · exact fun s t => .str s t
  · exact fun p n _ r => .tup (let ⟨k, e⟩ := p; ⟨k, x.imm _ _ e rfl n⟩) (let ⟨_, e⟩ := p; x.free e n) r
  · exact fun p n _ r => .pl (let ⟨k, e⟩ := p; ⟨k, x.imm _ _ e rfl n⟩) (let ⟨_, e⟩ := p; x.free e n) r
  · exact fun e => .lst (by
      obtain ⟨m, q⟩ := x.pre
      obtain ⟨hl, _⟩ := List.getElem?_eq_some_iff.mp e
      rw [q, List.getElem?_append_left hl]; exact e)
  · exact fun e => .fn e
  · exact fun b _ e => .bi b e
  · exact fun e => .pat e
  · exact fun q1 q2 e n => .rng q1 q2 (x.imm _ _ e rfl n) (x.free e n)
  · exact fun e c n nc => .lam (x.imm _ _ e rfl n) (let ⟨c, o, vs, t, e1, e2, e3, e4, e5⟩ := c; ⟨c, o, vs, t, e1, x.imm _ _ e2 (by
      show Imm o = true
      unfold Imm; rw [e4, e3]; rfl) (nc c e1), e3, e4, e5⟩) (x.free e n) (fun c' e' => by
      obtain ⟨c, o, vs, t, e1, e2, _⟩ := c
      rw [e1] at e'; cases e'
      exact x.free e2 (nc _ e1))
  · exact .nil
  · exact fun _ _ a r => .cons a r
theorem VRs.monoM {vs : List V} : ∀ {ws : List Value}, VRs cx h g vs ws → VRs cx h' g' vs ws := by
  induction vs with
  | nil => intro ws r; cases r; exact .nil
  | cons v vs ih => intro ws r; cases r with
    | cons a r => exact .cons (a.monoM x) (ih r)
end

theorem VR.mono {cx : Cx} {X : List Addr} {g g' : Gh} {h h' : Heap} (x : Ev cx X g g' h h') {v : V} {w : Value} (r : VR cx h g v w) : VR cx h' g' v w := VR.monoM x.mo r
theorem VRs.mono {cx : Cx} {X : List Addr} {g g' : Gh} {h h' : Heap} (x : Ev cx X g g' h h') {vs : List V} {ws : List Value} (r : VRs cx h g vs ws) : VRs cx h' g' vs ws := VRs.monoM x.mo r

theorem VRs.length {cx : Cx} {g : Gh} {h : Heap} : ∀ {vs : List V} {ws : List Value}, VRs cx h g vs ws → vs.length = ws.length
  | _, _, .nil => rfl
  | _, _, .cons _ r => by simp [VRs.length r]
theorem VRs.get {cx : Cx} {g : Gh} {h : Heap} : ∀ {vs : List V} {ws : List Value} {i : Nat} {v : V}, VRs cx h g vs ws → vs[i]? = some v → ∃ w, ws[i]? = some w ∧ VR cx h g v w
  | _, _, _, _, .nil, e => by simp at e
  | _, _, 0, _, .cons a _, e => by simp at e; subst e; exact ⟨_, rfl, a⟩
  | _, _, i + 1, _, .cons _ r, e => by simp at e; simpa using VRs.get r e
theorem VRs.append {cx : Cx} {g : Gh} {h : Heap} : ∀ {vs us : List V} {ws xs : List Value}, VRs cx h g vs ws → VRs cx h g us xs → VRs cx h g (vs ++ us) (ws ++ xs)
  | _, _, _, _, .nil, r => r
  | _, _, _, _, .cons a l, r => .cons a (VRs.append l r)
theorem VRs.take {cx : Cx} {g : Gh} {h : Heap} : ∀ {vs : List V} {ws : List Value} (n : Nat), VRs cx h g vs ws → VRs cx h g (vs.take n) (ws.take n)
  | _, _, 0, _ => by simpa using .nil
  | _, _, _ + 1, .nil => .nil
  | _, _, n + 1, .cons a r => .cons a (VRs.take n r)
theorem VRs.drop {cx : Cx} {g : Gh} {h : Heap} : ∀ {vs : List V} {ws : List Value} (n : Nat), VRs cx h g vs ws → VRs cx h g (vs.drop n) (ws.drop n)
  | _, _, 0, x => by simpa using x
  | _, _, _ + 1, .nil => .nil
  | _, _, n + 1, .cons _ r => VRs.drop n r
theorem VRs.insS {cx : Cx} {g : Gh} {h : Heap} {v : V} {w : Value} (x : VR cx h g v w) : ∀ {vs : List V} {ws : List Value} (n : Nat), VRs cx h g vs ws → VRs cx h g (insS v n vs) (insS w n ws)
  | _, _, 0, r => .cons x r
  | _, _, _ + 1, .nil => .cons x .nil
  | _, _, n + 1, .cons a r => .cons a (VRs.insS x n r)

noncomputable def TabOk (cx : Cx) (h : Heap) (t : Addr × Addr × Str) : Prop :=
  ∃ ps, h.IsCode t.1 t.2.1 ps ∧ h.TableAt t.1 t.2.1 ps ∧ ∀ pos c', codeAmong pos ps.toList = some c' → CodeObjOf h c' t.2.2

structure W (cx : Cx) (σ : Sto) (g : Gh) (h : Heap) (tk : Nat) : Prop where
  tok : 0 < tk
  frs : ∀ a ∈ cx.frs, ∃ o es ep, h.get? a = some o ∧ o.data = .dict es ep
  old : OldK cx.h₀ h
  booked : NoneBooked h
  nolim : h.NoLimit
  tabs : ∀ t ∈ cx.tabs, TabOk cx h t
  len : g.am.length = σ.length
  nodup : g.am.Nodup
  hidden : ∀ a ∈ g.hid, ∃ ws : List Value, h.PlainList a ws.toArray
  gn : g.n ≤ tk
  base : cx.n₀ ≤ g.n
  based : ∀ t, t < cx.n₀ → g.φ t = cx.φ₀ t
  fresh : ∀ a ∈ g.am, cx.h₀.objs.size ≤ a
  lists : ∀ (i : Nat) (vs : List V), σ[i]? = some vs → ∃ (a : Addr) (ws : List Value), g.am[i]? = some a ∧ h.PlainList a ws.toArray ∧ VRs cx h g vs ws

structure FrR (cx : Cx) (env : Env) (g : Gh) (ρ : Loc) (h : Heap) : Prop where
  kind : env.scope.kind = .function
  glob : env.globals = mainGlobals
  blt : env.builtins = builtinsNs
  la : g.free env.locals
  l0 : cx.h₀.objs.size ≤ env.locals
  ns : ∃ m, h.Ns env.locals m ∧ ∀ x v, lk x ρ = some v →
    (env.kindOf x = some .local ∧ ∃ w, m x = some w ∧ VR cx h g v w) ∨
    ((env.kindOf x = some .cell ∨ env.kindOf x = some .free) ∧ ∃ c w, env.cells.lookup x = some c ∧ h.IsCell c (some w) ∧ VR cx h g v w)
  cells : ∀ x c, env.cells.lookup x = some c → (∃ u, h.IsCell c u) ∧ g.free c ∧ cx.h₀.objs.size ≤ c
  lam : lamOk env.scope = true → ∃ t ∈ cx.tabs, env.code = .ref t.1 ∧ env.qual ++ "<lambda>" = t.2.2
  has : ∀ x, env.kindOf x = some .cell → (env.cells.lookup x).isSome = true
  inj : ∀ x y c, env.cells.lookup x = some c → env.cells.lookup y = some c → x = y

theorem W.toks {cx : Cx} {σ : Sto} {g : Gh} {h : Heap} {tk tk' : Nat} (w : W cx σ g h tk) (e : tk ≤ tk') : W cx σ g h tk' := ⟨Nat.lt_of_lt_of_le w.tok e, w.frs, w.old, w.booked, w.nolim, w.tabs, w.len, w.nodup, w.hidden, Nat.le_trans w.gn e, w.base, w.based, w.fresh, w.lists⟩
theorem Imm_dict {o : Obj} {es ep} (h : o.data = .dict es ep) : Imm o = false := by unfold Imm; rw [h]
theorem Imm_cell {o : Obj} {v} (h : o.data = .cell v) : Imm o = false := by unfold Imm; rw [h]

structure CxOk (cx : Cx) : Prop where
  last : 0 < cx.h₀.objs.size ∧ ∃ o, cx.h₀.get? (cx.h₀.objs.size - 1) = some o
  tab₀ : ∀ t ∈ cx.tabs, ∃ o, cx.h₀.get? t.2.1 = some o
  tabAt : ∀ t ∈ cx.tabs, ∃ ps, cx.h₀.TableAt t.1 t.2.1 ps
  tabNe : ∀ t ∈ cx.tabs, t.2.1 ≠ cStatics
  stat : cStatics < cx.h₀.objs.size
  frs₀ : ∀ a ∈ cx.frs, cx.h₀.objs.size ≤ a
  tabUq : ∀ t ∈ cx.tabs, ∀ t' ∈ cx.tabs, t.2.1 = t'.2.1 → t = t'

theorem CxOk.notTab {cx : Cx} (C : CxOk cx) {a : Addr} (h : cx.h₀.objs.size ≤ a) : ¬ cx.tabP a := fun ⟨t, ht, e⟩ => by
  obtain ⟨o, ho⟩ := C.tab₀ t ht
  rw [e, Heap.get?_none_of_le h] at ho; cases ho

theorem FrR.mono {cx : Cx} (C : CxOk cx) {env : Env} {g g' : Gh} {ρ : Loc} {h h' : Heap} (F : FrR cx env g ρ h) (x : Ev cx [] g g' h h') : FrR cx env g' ρ h' where
  kind := F.kind
  glob := F.glob
  blt := F.blt
  la := by
    obtain ⟨m, ⟨o, es, ep, ho, _⟩, _⟩ := F.ns
    exact x.free ho F.la
  l0 := F.l0
  ns := by
    obtain ⟨m, hn, hm⟩ := F.ns
    refine ⟨m, x.keepNs hn F.la.1 (by simp) (C.notTab F.l0), fun y v e => ?_⟩
    rcases hm y v e with ⟨k, w, hw, r⟩ | ⟨k, c, w, hc, ⟨oc, hoc, hd⟩, r⟩
    · exact .inl ⟨k, w, hw, r.mono x⟩
    · obtain ⟨_, c1, c2⟩ := F.cells y c hc
      exact .inr ⟨k, c, w, hc, ⟨oc, x.keepN hoc c1.1 (by simp) (C.notTab c2) (fun es ep q => by rw [hd] at q; cases q), hd⟩, r.mono x⟩
  cells := fun y c hc => by
    obtain ⟨⟨u, oc, hoc, hd⟩, c1, c2⟩ := F.cells y c hc
    exact ⟨⟨u, oc, x.keepN hoc c1.1 (by simp) (C.notTab c2) (fun es ep q => by rw [hd] at q; cases q), hd⟩, x.free hoc c1, c2⟩
  lam := F.lam
  has := F.has
  inj := F.inj

theorem strEq_of_seq {a b : Str} (h : seq a b = true) : a = b := by
  have key : ∀ l r : List Nat, nbeqL l r = true → l = r := by
    intro l
    induction l with
    | nil => intro r h; cases r with
      | nil => rfl
      | cons => cases h
    | cons x l ih => intro r h; cases r with
      | nil => cases h
      | cons y r =>
        unfold nbeqL at h
        split at h
        · rename_i q
          rw [Nat.eq_of_beq_eq_true q, ih r h]
        · cases h
  cases a; cases b
  have := key _ _ h
  simp only [Str.mk.injEq]
  exact Array.ext' this
theorem seq_refl (a : Str) : seq a a = true := by
  have key : ∀ l : List Nat, nbeqL l l = true := by
    intro l
    induction l with
    | nil => rfl
    | cons x l ih => unfold nbeqL; rw [Nat.beq_refl]; exact ih
  exact key _
theorem seq_false {a b : Str} (h : seq a b = false) : a ≠ b := fun e => by
  rw [e, seq_refl] at h; cases h
theorem lk_put (x y : Str) (v : V) (ρ : Loc) : lk y (put x v ρ) = if y = x then some v else lk y ρ := by
  induction ρ with
  | nil =>
    unfold put lk
    by_cases h : y = x
    · subst h; rw [seq_refl]; simp
    · cases q : seq y x with
      | true => exact absurd (strEq_of_seq q) h
      | false => simp [h, lk]
  | cons p r ih =>
    obtain ⟨z, w⟩ := p
    unfold put
    cases q : seq x z with
    | true =>
      have e := strEq_of_seq q
      subst e
      by_cases h : y = x
      · subst h; simp [lk, seq_refl]
      · have : seq y x = false := by
          cases q : seq y x with
          | true => exact absurd (strEq_of_seq q) h
          | false => rfl
        simp [lk, this, h]
    | false =>
      by_cases h : y = x
      · subst h
        simp only [lk, q, ih, if_true]
      · cases q2 : seq y z with
        | true => simp [lk, q2, h]
        | false => simp [lk, q2, ih, h]
end Mine
end
section
set_option maxRecDepth 100000
set_option linter.unusedVariables false
namespace Mine
open PySem PySem.Calls PyProof.Rows PySem.W

abbrev Z : Value → Shared → Prop := fun _ _ => False

structure Room (fr : Option (List Env)) (n : Nat) (A : Around) : Prop where
  handled : A.handled = none
  depth : A.depth + n < recursionLimit
  units : A.units + 4 * n + 16 < cLine
  frs : ∀ l, fr = some l → A.frames = some l

noncomputable def EvP (cx : Cx) (g : Gh) (s : Shared) (σ' : Sto) (v : V) (w : Value) (s' : Shared) : Prop :=
  ∃ h' tk g', s' = { s with heap := h', toks := tk } ∧ s.toks ≤ tk ∧ W cx σ' g' h' tk ∧ Ev cx [] g g' s.heap h' ∧ VR cx h' g' v w

theorem EvP.scalar {cx : Cx} {g : Gh} {s : Shared} {σ : Sto} {v : V} {w : Value} {tk : Nat} (hw : W cx σ g s.heap s.toks) (x : VR cx s.heap g v w) (hle : s.toks ≤ tk := by first | exact Nat.le_succ _ | exact Nat.le_refl _ | omega) : EvP cx g s σ v w { s with toks := tk } :=
  ⟨s.heap, tk, g, rfl, hle, hw.toks hle, .refl, x⟩
theorem EvP.here {cx : Cx} {g : Gh} {s : Shared} {σ : Sto} {v : V} {w : Value} (hw : W cx σ g s.heap s.toks) (x : VR cx s.heap g v w) : EvP cx g s σ v w s :=
  ⟨s.heap, s.toks, g, rfl, Nat.le_refl _, hw, .refl, x⟩
noncomputable def Gh.flt (g : Gh) (t : Tok) (x : UInt64) : Gh := ⟨g.am, g.hid, fun u => if u = t then x else g.φ u, t + 1⟩
theorem Ev.flt {cx : Cx} {X : List Addr} {g : Gh} {h : Heap} {t : Tok} {x : UInt64} (hn : g.n ≤ t) : Ev cx X g (g.flt t x) h h :=
  ⟨⟨[], by simp [Gh.flt]⟩, rfl, Nat.le_succ_of_le hn, fun u hu => if_neg (Nat.ne_of_lt (Nat.lt_of_lt_of_le hu hn)), fun _ o e _ _ _ => ⟨o, e, .refl o⟩, fun _ _ e _ _ => e, fun _ o e _ => ⟨o, e⟩, fun _ hm hn => absurd hm hn⟩
theorem W.flt {cx : Cx} {σ : Sto} {g : Gh} {h : Heap} {tk : Nat} {x : UInt64} (w : W cx σ g h tk) : W cx σ (g.flt tk x) h (tk + 1) where
  tok := Nat.succ_pos _
  frs := w.frs
  old := w.old
  booked := w.booked
  nolim := w.nolim
  tabs := w.tabs
  len := w.len
  nodup := w.nodup
  hidden := w.hidden
  gn := Nat.le_refl _
  base := Nat.le_succ_of_le (Nat.le_trans w.base w.gn)
  based := fun t ht => (if_neg (Nat.ne_of_lt (Nat.lt_of_lt_of_le ht (Nat.le_trans w.base w.gn)))).trans (w.based t ht)
  fresh := w.fresh
  lists := fun i vs e => let ⟨a, ws, e1, e2, e3⟩ := w.lists i vs e; ⟨a, ws, e1, e2, e3.mono (Ev.flt (X := []) w.gn)⟩
theorem EvP.flt {cx : Cx} {g : Gh} {s : Shared} {σ : Sto} {x : UInt64} (hw : W cx σ g s.heap s.toks) : EvP cx g s σ (.flt x) (.float x s.toks) { s with toks := s.toks + 1 } :=
  ⟨s.heap, s.toks + 1, g.flt s.toks x, rfl, Nat.le_succ _, hw.flt, .flt hw.gn, .flt _ _ hw.tok (Nat.lt_succ_self _) (if_pos rfl)⟩
theorem EvP.after {cx : Cx} {g g' : Gh} {s : Shared} {h' : Heap} {tk : Nat} {σ' : Sto} {v : V} {w : Value} {s'' : Shared} (hle : s.toks ≤ tk)
    (x : Ev cx [] g g' s.heap h') (y : EvP cx g' { s with heap := h', toks := tk } σ' v w s'') : EvP cx g s σ' v w s'' := by
  obtain ⟨h2, t2, g2, rfl, l2, w2, e2, v2⟩ := y
  exact ⟨h2, t2, g2, rfl, Nat.le_trans hle l2, w2, x.trans e2, v2⟩

section
variable {prog : Program} {w : World} {A : Around} {s : Shared}

noncomputable def FactsOk (F : Facts) (cx : Cx) : Prop := ∀ k m v, findF k m F = some v → ∀ h g t, VR cx h g v (.int (Int.fmod (dot k cx.X) m) t)

theorem dot_addK (X : List Int) : ∀ k k' : List Int, dot (addK k k') X = dot k X + dot k' X := by
  induction X with
  | nil => intro k k'; cases k <;> cases k' <;> simp [addK, dot]
  | cons x X ih =>
    intro k k'
    cases k with
    | nil => simp [addK, dot]
    | cons a k => cases k' with
      | nil => simp [addK, dot]
      | cons b k' =>
        simp only [addK, dot, ih]
        rw [Int.add_mul]; omega
theorem dot_smulK (X : List Int) (m : Int) : ∀ k : List Int, dot (smulK m k) X = m * dot k X := by
  induction X with
  | nil => intro k; cases k <;> simp [smulK, dot]
  | cons x X ih =>
    intro k
    cases k with
    | nil => simp [smulK, dot]
    | cons a k =>
      have := ih k
      unfold smulK at this ⊢
      simp only [List.map_cons, dot, this]
      rw [Int.mul_add, Int.mul_assoc]
theorem dot_allZ (X : List Int) : ∀ k : List Int, allZ k = true → dot k X = 0 := by
  induction X with
  | nil => intro k _; cases k <;> simp [dot]
  | cons x X ih =>
    intro k h
    cases k with
    | nil => simp [dot]
    | cons a k =>
      unfold allZ at h
      split at h
      · rename_i q
        have := of_decide_eq_true q
        subst this
        simp [dot, ih k h]
      · cases h
theorem VR.mkLin {cx : Cx} {h : Heap} {g : Gh} {c : Int} {k : List Int} {n : Int} {t : Tok} (e : n = c + dot k cx.X) : VR cx h g (mkLin c k) (.int n t) := by
  unfold Mine.mkLin
  split
  · rename_i q
    rw [dot_allZ _ _ q, Int.add_zero] at e
    subst e
    exact .int _ _
  · subst e; exact .lin _ _ _

theorem bits_small {a : Int} (h : small a = true) : Builtin.Int.intBits a ≤ 64 := by
  have h' : a.natAbs < 2 ^ 60 := Nat.le_of_ble_eq_true h
  unfold Builtin.Int.intBits
  split
  · omega
  · rename_i q
    have hne : a.natAbs ≠ 0 := by simpa using q
    have := (Nat.log2_lt hne).mpr h'
    omega
theorem noPylong {a b : Int} (h : small b = true) : ¬ Builtin.divisionGoesByPylong a b = true := by
  have h' : b.natAbs < 2 ^ 60 := Nat.le_of_ble_eq_true h
  unfold Builtin.divisionGoesByPylong
  simp only [Bool.and_eq_true, decide_eq_true_eq, not_and]
  intro q
  exfalso
  split at q
  · omega
  · rename_i q2
    have hne : b.natAbs ≠ 0 := by simpa using q2
    have := (Nat.log2_lt hne).mpr h'
    omega

theorem iop_ok {cx : Cx} {g : Gh} {σ : Sto} {op : Operator} {a b : Int} {t u : Tok} {v : V} (e : iop op a b = some v) (hw : W cx σ g s.heap s.toks) :
    wpAny (model prog w) A (binaryOp op (.int a t) (.int b u)) (EvP cx g s σ v) Z s := by
  delta iop at e
  split at e
  · cases e; exact AutoIntOps.add_0 (EvP.scalar hw (.int _ _))
  · cases e; exact AutoIntOps.sub_0 (EvP.scalar hw (.int _ _))
  · split at e
    · rename_i q; cases e
      exact AutoIntOps.mul_0 (EvP.scalar hw (.int _ _)) (IntMulOk.of_left (bits_small q))
    · cases e
  · delta idiv at e
    split at e
    · rename_i q1 q2; cases e
      exact AutoIntOps.floordiv_1 (by simpa using q1) (noPylong q2) (EvP.scalar hw (.int _ _))
    · cases e
  · delta idiv at e
    split at e
    · rename_i q1 q2; cases e
      exact AutoIntOps.mod_1 (by simpa using q1) (EvP.scalar hw (.int _ _))
    · cases e
  · delta itru at e
    split at e
    · rename_i q1 q2; cases e
      exact AutoIntOps.truediv_2 (by simpa using q1) (by rw [q2]; exact Bool.false_ne_true) (EvP.flt hw)
    · cases e
  · split at e
    · rename_i q1 q2; cases e
      have := of_decide_eq_true q1
      have := of_decide_eq_true q2
      subst_vars
      refine AutoIntOps.pow_4 (by decide) (by decide) (by decide) (by decide) (by decide +kernel) ?_
      have e : ((10 : Int) ^ (6 : Int).toNat) = 1000000 := by decide
      rw [e]
      exact EvP.scalar hw (.int _ _)
    · cases e
  · cases e

theorem lop_ok {cx : Cx} {F : Facts} (hF : FactsOk F cx) {g : Gh} {σ : Sto} {op : Operator} {a b : Int × List Int} {n m : Int} {t u : Tok} {v : V}
    (hn : n = a.1 + dot a.2 cx.X) (hm : m = b.1 + dot b.2 cx.X) (e : lop F op a b = some v) (hw : W cx σ g s.heap s.toks) :
    wpAny (model prog w) A (binaryOp op (.int n t) (.int m u)) (EvP cx g s σ v) Z s := by
  delta lop at e
  split at e
  · cases e
    refine AutoIntOps.add_0 (EvP.scalar hw (.mkLin ?_))
    rw [dot_addK]; omega
  · cases e
    refine AutoIntOps.sub_0 (EvP.scalar hw (.mkLin ?_))
    rw [dot_addK, dot_smulK]; omega
  · delta lmul at e
    split at e
    · rename_i q
      split at e
      · rename_i q2; cases e
        have hb : m = b.1 := by rw [hm, q]; simp [dot]
        refine AutoIntOps.mul_0 (EvP.scalar hw (.mkLin ?_)) (IntMulOk.of_right (by rw [hb]; exact bits_small q2))
        rw [dot_smulK, hn, hb, Int.add_mul]; rw [Int.mul_comm (dot _ _)]
      · cases e
    · split at e
      · rename_i q
        split at e
        · rename_i q2; cases e
          have ha : n = a.1 := by rw [hn, q]; simp [dot]
          refine AutoIntOps.mul_0 (EvP.scalar hw (.mkLin ?_)) (IntMulOk.of_left (by rw [ha]; exact bits_small q2))
          rw [dot_smulK, hm, ha, Int.mul_add]; rw [Int.mul_comm a.1 b.1]
        · cases e
      · cases e
  · delta lmod at e
    split at e
    · rename_i q1 q2 q3
      have hb : m = b.1 := by rw [hm, q1]; simp [dot]
      have ha : n = dot a.2 cx.X := by rw [hn, of_decide_eq_true q2]; omega
      have h0 : ¬ (m == 0) = true := by rw [hb]; simpa using q3
      refine AutoIntOps.mod_1 h0 (EvP.scalar hw ?_)
      rw [ha, hb]
      exact hF _ _ _ e _ _ _
    · cases e
  · cases e

theorem fop_ok {cx : Cx} {g : Gh} {σ : Sto} {op : Operator} {x y : UInt64} {t u : Tok} {v : V} (e : fop op x y = some v) (hw : W cx σ g s.heap s.toks) :
    wpAny (model prog w) A (binaryOp op (.float x t) (.float y u)) (EvP cx g s σ v) Z s := by
  delta fop at e
  split at e
  · cases e; exact AutoFloatOps.add_0 (EvP.flt hw)
  · cases e; exact AutoFloatOps.sub_0 (EvP.flt hw)
  · cases e; exact AutoFloatOps.mul_0 (EvP.flt hw)
  · split at e
    · cases e
    · rename_i q; cases e
      exact AutoFloatOps.truediv_1 (by rw [q]; exact Bool.false_ne_true) (EvP.flt hw)
  · split at e
    · cases e
    · rename_i q; cases e
      exact AutoFloatOps.mod_1 (by rw [q]; exact Bool.false_ne_true) (EvP.flt hw)
  · cases e

theorem fmix_ok {i : Int} {y : UInt64} (e : fmixI i = some y) : ¬ Float64.isInf (Float64.ofInt i) = true ∧ y = Float64.ofInt i := by
  delta fmixI at e
  split at e
  · cases e
  · rename_i q; cases e; exact ⟨by rw [q]; exact Bool.false_ne_true, rfl⟩
theorem fopFI_ok {cx : Cx} {g : Gh} {σ : Sto} {op : Operator} {x y : UInt64} {i : Int} {t u : Tok} {v : V} (hi : fmixI i = some y) (e : fop op x y = some v) (hw : W cx σ g s.heap s.toks) :
    wpAny (model prog w) A (binaryOp op (.float x t) (.int i u)) (EvP cx g s σ v) Z s := by
  obtain ⟨h1, rfl⟩ := fmix_ok hi
  delta fop at e
  split at e
  · cases e; exact AutoFloatOps.add_fi_1 h1 (EvP.flt hw)
  · cases e; exact AutoFloatOps.sub_fi_1 h1 (EvP.flt hw)
  · cases e; exact AutoFloatOps.mul_fi_1 h1 (EvP.flt hw)
  · split at e
    · cases e
    · rename_i q; cases e
      exact AutoFloatOps.truediv_fi_2 h1 (by rw [q]; exact Bool.false_ne_true) (EvP.flt hw)
  · split at e
    · cases e
    · rename_i q; cases e
      exact AutoFloatOps.mod_fi_2 h1 (by rw [q]; exact Bool.false_ne_true) (EvP.flt hw)
  · cases e
theorem fopIF_ok {cx : Cx} {g : Gh} {σ : Sto} {op : Operator} {x y : UInt64} {i : Int} {t u : Tok} {v : V} (hi : fmixI i = some x) (e : fop op x y = some v) (hw : W cx σ g s.heap s.toks) :
    wpAny (model prog w) A (binaryOp op (.int i u) (.float y t)) (EvP cx g s σ v) Z s := by
  obtain ⟨h1, rfl⟩ := fmix_ok hi
  delta fop at e
  split at e
  · cases e; exact AutoFloatOps.add_if_1 h1 (EvP.flt hw)
  · cases e; exact AutoFloatOps.sub_if_1 h1 (EvP.flt hw)
  · cases e; exact AutoFloatOps.mul_if_1 h1 (EvP.flt hw)
  · split at e
    · cases e
    · rename_i q; cases e
      exact AutoFloatOps.truediv_if_2 h1 (by rw [q]; exact Bool.false_ne_true) (EvP.flt hw)
  · split at e
    · cases e
    · rename_i q; cases e
      exact AutoFloatOps.mod_if_2 h1 (by rw [q]; exact Bool.false_ne_true) (EvP.flt hw)
  · cases e
end
end Mine
end
section
set_option maxRecDepth 100000
set_option maxHeartbeats 2000000
set_option linter.unusedVariables false
namespace Mine
open PySem PySem.Calls PyProof.Rows PySem.W

theorem CodeObjOf.keeps {h h' : Heap} {cd : Value} {q : Str} (x : CodeObjOf h cd q) (k : ∀ b o, h.get? b = some o → h'.get? b = some o) : CodeObjOf h' cd q :=
  let ⟨c, o, vs, t, e1, e2, r⟩ := x; ⟨c, o, vs, t, e1, k _ _ e2, r⟩
theorem nb_keeps {h h' : Heap} (x : NoneBooked h) (k : ∀ b o, h.get? b = some o → h'.get? b = some o) : NoneBooked h' :=
  let ⟨mc, a, b⟩ := x; ⟨mc, a.keeps k, b⟩
theorem TabOk.keeps {cx : Cx} {h h' : Heap} {t : Addr × Addr × Str} (x : TabOk cx h t) (k : ∀ b o, h.get? b = some o → h'.get? b = some o) : TabOk cx h' t :=
  let ⟨ps, a, b, c⟩ := x; ⟨ps, a.keeps k, b.keeps k, fun p c' e => (c p c' e).keeps k⟩
theorem W.keeps {cx : Cx} {σ : Sto} {g : Gh} {h h' : Heap} {tk tk' : Nat} (w : W cx σ g h tk) (k : ∀ b o, h.get? b = some o → h'.get? b = some o) (ht : tk ≤ tk') : W cx σ g h' tk' where
  tok := Nat.lt_of_lt_of_le w.tok ht
  frs := fun a m => let ⟨o, es, ep, e, d⟩ := w.frs a m; ⟨o, es, ep, k _ _ e, d⟩
  gn := Nat.le_trans w.gn ht
  base := w.base
  based := w.based
  old := w.old.step_keeps k
  booked := nb_keeps w.booked k
  nolim := w.nolim.keeps k
  tabs := fun t m => (w.tabs t m).keeps k
  len := w.len
  nodup := w.nodup
  hidden := fun a m => let ⟨ws, e⟩ := w.hidden a m; ⟨ws, e.at fun o q => k _ _ q⟩
  fresh := w.fresh
  lists := fun i vs e => let ⟨a, ws, e1, e2, e3⟩ := w.lists i vs e; ⟨a, ws, e1, e2.at fun o q => k _ _ q, e3.mono (Ev.keeps (X := []) k)⟩

theorem W.amOld {cx : Cx} {σ : Sto} {g : Gh} {h : Heap} {tk : Nat} (w : W cx σ g h tk) {a : Addr} (m : a ∈ g.am) : ∃ ws : List Value, h.PlainList a ws.toArray := by
  obtain ⟨i, hi, rfl⟩ := List.mem_iff_getElem.mp m
  have hl : i < σ.length := w.len ▸ hi
  obtain ⟨a, ws, e1, e2, _⟩ := w.lists i σ[i] (by simp [hl])
  rw [List.getElem?_eq_getElem hi] at e1
  cases e1
  exact ⟨ws, e2⟩
theorem W.new {cx : Cx} {σ : Sto} {g : Gh} {h : Heap} {tk : Nat} (w : W cx σ g h tk) {a : Addr} (e : h.get? a = none) : g.free a := by
  refine ⟨fun m => ?_, fun m => ?_⟩
  · obtain ⟨ws, n, q⟩ := w.amOld m
    rw [e] at q; cases q
  · obtain ⟨ws, n, q⟩ := w.hidden a m
    rw [e] at q; cases q
theorem get_size (h : Heap) : h.get? h.objs.size = none := by
  cases q : h.get? h.objs.size with
  | none => rfl
  | some o => exact absurd (Heap.lt_size q) (Nat.lt_irrefl _)

theorem W.freeCode {cx : Cx} {σ : Sto} {g : Gh} {h : Heap} {tk : Nat} (w : W cx σ g h tk) {a : Addr} {o : Obj} (e : h.get? a = some o) (hd : ∀ xs n, o.data ≠ .seq xs n) : g.free a := by
  refine ⟨fun m => ?_, fun m => ?_⟩
  · obtain ⟨ws, n, q⟩ := w.amOld m
    rw [e] at q; cases q; exact hd _ _ rfl
  · obtain ⟨ws, n, q⟩ := w.hidden a m
    rw [e] at q; cases q; exact hd _ _ rfl
theorem EvP.push {cx : Cx} {g : Gh} {s : Shared} {σ : Sto} {v : V} {o : Obj} {tk : Nat} (hw : W cx σ g s.heap s.toks) (hle : s.toks ≤ tk)
    (x : VR cx (s.heap.push o) g v (.ref s.heap.objs.size)) : EvP cx g s σ v (.ref s.heap.objs.size) { s with heap := s.heap.push o, toks := tk } :=
  ⟨_, tk, g, rfl, hle, hw.keeps (fun _ _ e => Heap.get?_push_of_some _ e) hle, .push o, x⟩
theorem VR.newTup {cx : Cx} {g : Gh} {s : Shared} {σ : Sto} {vs : List V} {ws : List Value} {tk : Nat} (hw : W cx σ g s.heap tk) (x : VRs cx s.heap g vs ws) :
    VR cx (s.heap.push { cls := .type "tuple", data := .seq ws.toArray }) g (.tup vs) (.ref s.heap.objs.size) :=
  .tup ⟨0, Heap.get?_push_size _ rfl⟩ (hw.new (get_size _)) (x.mono (Ev.push (X := []) _))
theorem VR.newPl {cx : Cx} {g : Gh} {s : Shared} {σ : Sto} {vs : List V} {ws : List Value} {tk : Nat} (hw : W cx σ g s.heap tk) (x : VRs cx s.heap g vs ws) :
    VR cx (s.heap.push { cls := .type "list", data := .seq ws.toArray }) g (.pl vs) (.ref s.heap.objs.size) :=
  .pl ⟨0, Heap.get?_push_size _ rfl⟩ (hw.new (get_size _)) (x.mono (Ev.push (X := []) _))

section
variable {prog : Program} {w : World} {A : Around} {s : Shared}

theorem strOf_append (cx : Cx) (a b : List Nat) : cx.strOf (a ++ b) = cx.strOf a ++ cx.strOf b := by
  show Str.mk _ = Str.mk _
  simp [Cx.strOf]
theorem strOf_length (cx : Cx) (a : List Nat) : (cx.strOf a).length = a.length := by
  show (List.toArray _).size = _
  simp
theorem smallS_ok {t : List Nat} {v : V} (e : smallS t = some v) : v = .str t ∧ t.length ≤ 100000 := by
  delta smallS at e
  split at e
  · rename_i q; cases e; exact ⟨rfl, Nat.le_of_ble_eq_true q⟩
  · cases e
theorem fits {n : Nat} (h : n ≤ 100000) : n ≤ sizeLine := by rw [sizeLine_eq]; omega

theorem strAdd_ok {cx : Cx} {g : Gh} {σ : Sto} {a b : List Nat} {t u : Tok} {v : V} (e : smallS (a ++ b) = some v) (hw : W cx σ g s.heap s.toks) :
    wpAny (model prog w) A (binaryOp .Add (.str (cx.strOf a) t) (.str (cx.strOf b) u)) (EvP cx g s σ v) Z s := by
  obtain ⟨rfl, hl⟩ := smallS_ok e
  refine P.add_str ?_
  split
  · rename_i q
    have : a = [] := by
      have : (cx.strOf a).length = 0 := by simpa using q
      rw [strOf_length] at this
      exact List.length_eq_zero_iff.mp this
    subst this
    exact EvP.here hw (.str _ _)
  · split
    · rename_i q
      have : b = [] := by
        have : (cx.strOf b).length = 0 := by simpa using q
        rw [strOf_length] at this
        exact List.length_eq_zero_iff.mp this
      subst this
      rw [List.append_nil]
      exact EvP.here hw (.str _ _)
    · rw [← strOf_append]
      exact ⟨by rw [strOf_length]; exact fits hl, EvP.scalar hw (.str _ _)⟩

theorem foldl_rep (cx : Cx) (a : List Nat) : ∀ (n : Nat) (acc : Array Nat), (List.replicate n (cx.strOf a).cps).foldl (· ++ ·) acc = acc ++ (cx.strOf (rep a n)).cps := by
  intro n
  induction n with
  | zero => intro acc; simp [rep, Cx.strOf]
  | succ n ih =>
    intro acc
    rw [List.replicate_succ, List.foldl_cons, ih]
    simp [rep, Cx.strOf]
theorem rep_length {α : Type} (a : List α) (n : Nat) : (rep a n).length = n * a.length := by
  induction n with
  | zero => simp [rep]
  | succ n ih => rw [rep, List.length_append, ih, Nat.succ_mul]; omega

theorem strMul_ok {cx : Cx} {g : Gh} {σ : Sto} {a : List Nat} {n : Int} {t u : Tok} {v : V} (h1 : Nat.blt n.toNat 1000 = true) (h2 : decide (0 ≤ n) = true) (e : smallS (rep a n.toNat) = some v)
    (hw : W cx σ g s.heap s.toks) :
    wpAny (model prog w) A (binaryOp .Mult (.str (cx.strOf a) t) (.int n u)) (EvP cx g s σ v) Z s := by
  obtain ⟨rfl, hl⟩ := smallS_ok e
  have h1 : n.toNat < 1000 := Nat.le_of_ble_eq_true h1
  have h2 := of_decide_eq_true h2
  rw [rep_length] at hl
  refine P.mul_str ?_ ?_ ?_ ?_
  · have h3 : ¬ n < -(2 ^ 63) := by omega
    have h4 : ¬ n ≥ 2 ^ 63 := by omega
    rw [decide_eq_false h3, decide_eq_false h4]; rfl
  · intro hn _
    rw [strOf_length]
    have hnn : (n.toNat : Int) = n := Int.toNat_of_nonneg h2
    have hpos : 0 < n := by omega
    intro hgt
    have h5 : ((2 : Int) ^ 63 - 1) / n < (a.length : Int) := hgt
    have h6 := Int.lt_mul_of_ediv_lt hpos h5
    have h7 : (a.length : Int) * n = ((n.toNat * a.length : Nat) : Int) := by
      rw [Int.natCast_mul, hnn, Int.mul_comm]
    rw [h7] at h6
    omega
  · intro _ _
    rw [strOf_length, Nat.mul_comm]
    unfold Builtin.Str.tooLong
    rw [decide_eq_false]
    rw [sizeLine_eq]; omega
  · split
    · rename_i q
      have : n = 0 := by omega
      subst this
      exact ⟨by decide, EvP.scalar hw (.str [] _)⟩
    · split
      · rename_i q
        simp only [Bool.or_eq_true, beq_iff_eq] at q
        rcases q with q | q
        · subst q
          have : rep a (1 : Int).toNat = a := by simp [rep]
          rw [this]
          exact EvP.here hw (.str _ _)
        · rw [strOf_length] at q
          have ha := List.length_eq_zero_iff.mp q
          subst ha
          have : rep ([] : List Nat) n.toNat = [] := List.length_eq_zero_iff.mp (by rw [rep_length]; rfl)
          rw [this]
          exact EvP.here hw (.str _ _)
      · rw [foldl_rep]
        refine ⟨?_, ?_⟩
        · show (#[] ++ (cx.strOf (rep a n.toNat)).cps).size ≤ _
          rw [Array.empty_append]
          show (cx.strOf (rep a n.toNat)).length ≤ _
          rw [strOf_length, rep_length]; exact fits hl
        · rw [Array.empty_append]
          exact EvP.scalar hw (.str _ _)

theorem listAdd_ok {cx : Cx} {g : Gh} {σ : Sto} {a b : Addr} {vs us : List V} (x : VR cx s.heap g (.pl vs) (.ref a)) (y : VR cx s.heap g (.pl us) (.ref b))
    (hl : Nat.ble (vs.length + us.length) 100000 = true) (hw : W cx σ g s.heap s.toks) :
    wpAny (model prog w) A (binaryOp .Add (.ref a) (.ref b)) (EvP cx g s σ (.pl (vs ++ us))) Z s := by
  refine x.plR fun ws p _ r => ?_
  ·
    refine y.plR fun ws' p' _ r' => ?_
    ·
      have hl := Nat.le_of_ble_eq_true hl
      obtain ⟨n, ho⟩ := p
      obtain ⟨n', ho'⟩ := p'
      refine concat_meets ⟨_, ho, rfl⟩ ⟨_, ho', rfl⟩ noFill_list_add seq_list_add PySem.F.slot_list_add PySem.F.entry_list_add (PySem.F.args_list_add_2 _ _)
        (list_addW a b ws.toArray ws'.toArray n n' none none #[] #[] (by rw [List.size_toArray, List.size_toArray, ← r.length, ← r'.length]; exact fits hl)) ⟨ho, ho', ?_⟩
      have e : ws.toArray ++ ws'.toArray = (ws ++ ws').toArray := by simp
      rw [e]
      exact EvP.push hw (Nat.le_refl _) (.newPl hw (r.append r'))

theorem lin_int (i : Int) (X : List Int) : i = (i, ([] : List Int)).1 + dot (i, ([] : List Int)).2 X := by simp [dot]
theorem binII_ok {cx : Cx} {F : Facts} (hF : FactsOk F cx) {g : Gh} {σ : Sto} {op : Operator} {i : Int} {t : Tok} {y : V} {b : Value} {v : V}
    (hb : VR cx s.heap g y b) (e : binII F op i y = some v) (hw : W cx σ g s.heap s.toks) :
    wpAny (model prog w) A (binaryOp op (.int i t) b) (EvP cx g s σ v) Z s := by
  cases y with
  | int j => obtain ⟨u, rfl⟩ := hb.inv; (delta binII at e; try dsimp only at e); with_reducible exact iop_ok e hw
  | lin c k => obtain ⟨u, rfl⟩ := hb.inv; (delta binII at e; try dsimp only at e); with_reducible exact lop_ok hF (a := (i, [])) (b := (c, k)) (lin_int i _) (by rfl) e hw
  | flt y =>
    obtain ⟨u, _, _, _, rfl⟩ := hb.inv
    cases q : fmixI i with
    | none => simp [binII, q] at e
    | some x =>
      have e' : fop op x y = some v := by
        delta binII at e; rw [q] at e; exact e
      with_reducible exact fopIF_ok q e' hw
  | _ => first | exact nsE e | cases e
theorem binL_ok {cx : Cx} {F : Facts} (hF : FactsOk F cx) {g : Gh} {σ : Sto} {op : Operator} {c : Int} {k : List Int} {t : Tok} {y : V} {b : Value} {v : V}
    (hb : VR cx s.heap g y b) (e : binL F op c k y = some v) (hw : W cx σ g s.heap s.toks) :
    wpAny (model prog w) A (binaryOp op (.int (c + dot k cx.X) t) b) (EvP cx g s σ v) Z s := by
  cases y with
  | int j => obtain ⟨u, rfl⟩ := hb.inv; (delta binL at e; try dsimp only at e); with_reducible exact lop_ok hF (a := (c, k)) (b := (j, [])) (by rfl) (lin_int j _) e hw
  | lin c' k' => obtain ⟨u, rfl⟩ := hb.inv; (delta binL at e; try dsimp only at e); with_reducible exact lop_ok hF (a := (c, k)) (b := (c', k')) (by rfl) (by rfl) e hw
  | _ => first | exact nsE e | cases e
theorem binF_ok {cx : Cx} {g : Gh} {σ : Sto} {op : Operator} {x : UInt64} {t : Tok} {y : V} {b : Value} {v : V}
    (hb : VR cx s.heap g y b) (e : binF op x y = some v) (hw : W cx σ g s.heap s.toks) :
    wpAny (model prog w) A (binaryOp op (.float x t) b) (EvP cx g s σ v) Z s := by
  cases y with
  | flt y => obtain ⟨u, _, _, _, rfl⟩ := hb.inv; (delta binF at e; try dsimp only at e); with_reducible exact fop_ok e hw
  | int i =>
    obtain ⟨u, rfl⟩ := hb.inv
    cases q : fmixI i with
    | none => simp [binF, q] at e
    | some y => simp only [binF, q] at e; with_reducible exact fopFI_ok q e hw
  | _ => first | exact nsE e | cases e
theorem binS_ok {cx : Cx} {g : Gh} {σ : Sto} {op : Operator} {a : List Nat} {t : Tok} {y : V} {b : Value} {v : V}
    (hb : VR cx s.heap g y b) (e : binS op a y = some v) (hw : W cx σ g s.heap s.toks) :
    wpAny (model prog w) A (binaryOp op (.str (cx.strOf a) t) b) (EvP cx g s σ v) Z s := by
  cases y with
  | str b => obtain ⟨u, rfl⟩ := hb.inv; cases op with
    | Add => (delta binS at e; try dsimp only at e); with_reducible exact strAdd_ok e hw
    | _ => first | exact nsE e | cases e
  | int n => obtain ⟨u, rfl⟩ := hb.inv; cases op with
    | Mult =>
      cases q1 : Nat.blt n.toNat 1000 with
      | false => simp [binS, q1] at e
      | true => cases q2 : decide (0 ≤ n) with
        | false => simp only [binS, q1, q2] at e; cases e
        | true => simp only [binS, q1, q2] at e; with_reducible exact strMul_ok q1 q2 e hw
    | _ => first | exact nsE e | cases e
  | _ => first | exact nsE e | cases e
theorem binP_ok {cx : Cx} {g : Gh} {σ : Sto} {op : Operator} {vs : List V} {a : Addr} {y : V} {b : Value} {v : V}
    (ha : VR cx s.heap g (.pl vs) (.ref a)) (hb : VR cx s.heap g y b) (e : binP op vs y = some v) (hw : W cx σ g s.heap s.toks) :
    wpAny (model prog w) A (binaryOp op (.ref a) b) (EvP cx g s σ v) Z s := by
  cases y with
  | pl us => cases op with
    | Add =>
      cases q : Nat.ble (vs.length + us.length) 100000 with
      | false => simp only [binP, q] at e; cases e
      | true =>
        simp only [binP, q] at e
        cases e
        apply hb.plE; intro _ _ p n r
        · with_reducible exact listAdd_ok ha (.pl p n r) q hw
    | _ => first | exact nsE e | cases e
  | _ => first | exact nsE e | cases e
theorem binV_ok {cx : Cx} {F : Facts} (hF : FactsOk F cx) {g : Gh} {σ : Sto} {op : Operator} {x y : V} {a b : Value} {v : V}
    (ha : VR cx s.heap g x a) (hb : VR cx s.heap g y b) (e : binV F op x y = some v) (hw : W cx σ g s.heap s.toks) :
    wpAny (model prog w) A (binaryOp op a b) (EvP cx g s σ v) Z s := by
  cases x with
  | int i => obtain ⟨t, rfl⟩ := ha.inv; (delta binV at e; try dsimp only at e); with_reducible exact binII_ok hF hb e hw
  | lin c k => obtain ⟨t, rfl⟩ := ha.inv; (delta binV at e; try dsimp only at e); with_reducible exact binL_ok hF hb e hw
  | flt x => obtain ⟨t, _, _, _, rfl⟩ := ha.inv; (delta binV at e; try dsimp only at e); with_reducible exact binF_ok hb e hw
  | str a => obtain ⟨t, rfl⟩ := ha.inv; (delta binV at e; try dsimp only at e); with_reducible exact binS_ok hb e hw
  | pl _ => obtain ⟨_, _, p, n, r, rfl⟩ := ha.inv; (delta binV at e; try dsimp only at e); with_reducible exact binP_ok (.pl p n r) hb e hw
  | _ => first | exact nsE e | cases e

theorem unV_ok {cx : Cx} {g : Gh} {σ : Sto} {op : UnaryOp} {x : V} {a : Value} {v : V}
    (ha : VR cx s.heap g x a) (e : unV op x = some v) (hw : W cx σ g s.heap s.toks) :
    wpAny (model prog w) A (unaryOp op a) (EvP cx g s σ v) Z s := by
  cases x with
  | int i => obtain ⟨t, rfl⟩ := ha.inv; cases op with
    | USub =>
      cases e
      exact P.neg_int (EvP.scalar hw (.int _ _))
    | _ => first | exact nsE e | cases e
  | lin c k => obtain ⟨t, rfl⟩ := ha.inv; cases op with
    | USub =>
      cases e
      refine P.neg_int (EvP.scalar hw (.mkLin ?_))
      rw [dot_smulK]; omega
    | _ => first | exact nsE e | cases e
  | _ => first | exact nsE e | cases e
end
end Mine
end
section
set_option maxRecDepth 100000
set_option maxHeartbeats 2000000
set_option linter.unusedVariables false
namespace Mine
open PySem PySem.Calls PyProof.Rows PySem.W PySem.SeqAt

theorem PlainTup.isTuple {h : Heap} {a : Addr} {ws : List Value} (x : PlainTup h a ws) : h.IsTuple a ws.toArray := let ⟨n, e⟩ := x; ⟨_, e, rfl, n, rfl⟩

theorem go_spec (n : Nat) : ∀ (xs ys : List V) (k : Bool), eqN.go n xs ys = some k →
    ∃ e : Nat → Bool, (∀ (j : Nat) x y, xs[j]? = some x → ys[j]? = some y → eqN n x y = some (e j)) ∧ k = ((List.range (min xs.length ys.length)).all e && xs.length == ys.length)
  | [], [], k, h => by
    unfold eqN.go at h; cases h
    exact ⟨fun _ => true, fun j x y h1 _ => by simp at h1, by simp⟩
  | [], y :: ys, k, h => by
    unfold eqN.go at h; cases h
    exact ⟨fun _ => true, fun j x y h1 _ => by simp at h1, by simp⟩
  | x :: xs, [], k, h => by
    unfold eqN.go at h; cases h
    exact ⟨fun _ => true, fun j x y _ h1 => by simp at h1, by simp⟩
  | x :: xs, y :: ys, k, h => by
    unfold eqN.go at h
    cases q1 : eqN n x y with
    | none => simp [q1] at h
    | some a => cases q2 : eqN.go n xs ys with
      | none => simp [q1, q2] at h
      | some b =>
        simp only [q1, q2] at h
        cases h
        obtain ⟨e, he, rfl⟩ := go_spec n xs ys b q2
        refine ⟨fun j => match j with | 0 => a | j + 1 => e j, fun j x' y' h1 h2 => ?_, ?_⟩
        · cases j with
          | zero => simp at h1 h2; subst h1 h2; exact q1
          | succ j => exact he j x' y' (by simpa using h1) (by simpa using h2)
        · have e1 : min (x :: xs).length (y :: ys).length = min xs.length ys.length + 1 := by simp only [List.length_cons]; omega
          rw [e1, List.range_succ_eq_map, List.all_cons, List.all_map]
          have e2 : ((x :: xs).length == (y :: ys).length) = (xs.length == ys.length) := by
            rw [Bool.eq_iff_iff]; simp
          rw [e2, Bool.and_assoc]
          rfl

theorem PlainTup.inj {h : Heap} {a : Addr} {ws us : List Value} (x : PlainTup h a ws) (y : PlainTup h a us) : ws = us := by
  obtain ⟨m, e⟩ := x
  obtain ⟨k, e'⟩ := y
  injection Option.some.inj (e.symm.trans e') with _ _ q
  injection q with q
  exact List.toArray_inj q
theorem PlainList.inj {h : Heap} {a : Addr} {ws us : List Value} (x : h.PlainList a ws.toArray) (y : h.PlainList a us.toArray) : ws = us := by
  obtain ⟨m, e⟩ := x
  obtain ⟨k, e'⟩ := y
  injection Option.some.inj (e.symm.trans e') with _ _ q
  injection q with q
  exact List.toArray_inj q
inductive EqInv (n : Nat) : V → V → Bool → Prop
  | int (i j : Int) : EqInv n (.int i) (.int j) (decide (i = j))
  | tup {xs ys : List V} {k : Bool} : eqN.go n xs ys = some k → EqInv n (.tup xs) (.tup ys) k
  | pl {xs ys : List V} {k : Bool} : Nat.beq xs.length ys.length = true → eqN.go n xs ys = some k → EqInv n (.pl xs) (.pl ys) k
  | len {xs ys : List V} : Nat.beq xs.length ys.length = false → EqInv n (.pl xs) (.pl ys) false
theorem eqN_inv {n : Nat} {x y : V} {k : Bool} (e : eqN (n + 1) x y = some k) : EqInv n x y k := by
  cases x with
  | int i => cases y with
    | int j => exact Option.some.inj e ▸ .int i j
    | _ => exact nsE e
  | tup xs => cases y with
    | tup ys => exact .tup e
    | _ => exact nsE e
  | pl xs => cases y with
    | pl ys => exact spB e (fun _ _ => rfl) (fun _ _ => rfl) (fun q e => .pl q e) fun q e => Option.some.inj e ▸ .len q
    | _ => exact nsE e
  | _ => exact nsE e
set_option tactic.hygienic true in
theorem go_same {cx : Cx} {h : Heap} {g : Gh} {n : Nat} (ih : ∀ {x y : V} {a : Value} {k : Bool}, VR cx h g x a → VR cx h g y a → eqN n x y = some k → k = true) {k : Bool} : ∀ {xs ys : List V} {ws : List Value}, VRs cx h g xs ws → VRs cx h g ys ws → eqN.go n xs ys = some k → k = true := by
  intro xs
  induction xs generalizing k with
  | nil => intro ys ws r r' e; cases r; cases r'; exact (Option.some.inj e).symm
  | cons x xs ihl =>
    intro ys ws r r' e
    cases r with
    | cons a r => cases r' with
      | cons b r' =>
        obtain ⟨c, d, q1, q2, q⟩ : ∃ c d, eqN n x _ = some c ∧ eqN.go n xs _ = some d ∧ (c && d) = k := by
          unfold eqN.go at e
          split at e
          · rename_i c d q1 q2; exact ⟨c, d, q1, q2, Option.some.inj e⟩
          · cases e
        rw [← q, ih a b q1, ihl r r' q2]; rfl
theorem eqN_same {cx : Cx} {h : Heap} {g : Gh} (n : Nat) : ∀ {x y : V} {a : Value} {k : Bool}, VR cx h g x a → VR cx h g y a → eqN n x y = some k → k = true := by
  induction n with
  | zero => intro x y a k _ _ e; unfold eqN at e; exact nsE e
  | succ n ih =>
    intro x y a k hx hy e
    cases eqN_inv e with
    | int i j =>
      obtain ⟨t, rfl⟩ := hx.inv
      obtain ⟨u, q⟩ := hy.inv
      injection q with q
      exact decide_eq_true q
    | tup q =>
      obtain ⟨ws, a, p1, _, r1, rfl⟩ := hx.inv
      exact hy.tupR fun us p2 _ r2 => go_same ih r1 (p1.inj p2 ▸ r2) q
    | pl _ q =>
      obtain ⟨ws, a, p1, _, r1, rfl⟩ := hx.inv
      exact hy.plR fun us p2 _ r2 => go_same ih r1 (PlainList.inj p1 p2 ▸ r2) q
    | len q =>
      obtain ⟨ws, a, p1, _, r1, rfl⟩ := hx.inv
      exact hy.plR fun us p2 _ r2 => absurd (r1.length.trans ((congrArg List.length (PlainList.inj p1 p2)).trans r2.length.symm)) (Nat.ne_of_beq_eq_false q)

theorem VRs.at {cx : Cx} {h : Heap} {g : Gh} : ∀ {vs : List V} {ws : List Value} (x : VRs cx h g vs ws) (j : Nat) (hj : j < ws.toArray.size), ∃ v, vs[j]? = some v ∧ VR cx h g v ws.toArray[j]
  | _, _, .nil, j, hj => by simp at hj
  | _, _, .cons a _, 0, _ => ⟨_, rfl, by simpa using a⟩
  | _, _, .cons _ r, j + 1, hj => by
    obtain ⟨v, e, x⟩ := VRs.at r j (by simpa using hj)
    exact ⟨v, by simpa using e, by simpa using x⟩

theorem eqAt_ok {cx : Cx} {g : Gh} {s : Shared} (n : Nat) : ∀ {A : Around} {x y : V} {a b : Value} {k : Bool}, VR cx s.heap g x a → VR cx s.heap g y b → eqN n x y = some k → A.units + n < cLine → EqAt A s a b k := by
  induction n with
  | zero => intro A x y a b k _ _ e; unfold eqN at e; exact nsE e
  | succ n ih =>
    intro A x y a b k hx hy e hu
    have hu1 : A.units + 1 < cLine := Nat.lt_of_le_of_lt (Nat.add_le_add_left (Nat.succ_le_succ (Nat.zero_le n)) _) hu
    have hu0 : A.units < cLine := Nat.lt_of_succ_lt hu1
    have hu2 : A.in1.units + n < cLine := by show A.units + 1 + n < cLine; rwa [Nat.add_right_comm]
    have hat : ∀ {xs ys : List V} {ws us : List Value} {f : Nat → Bool}, VRs cx s.heap g xs ws → VRs cx s.heap g ys us → (∀ (j : Nat) x y, xs[j]? = some x → ys[j]? = some y → eqN n x y = some (f j)) →
        ∀ j (h1 : j < ws.toArray.size) (h2 : j < us.toArray.size), EqAt A.in1 s ws.toArray[j] us.toArray[j] (f j) := fun r1 r2 hf j h1 h2 => by
      obtain ⟨v1, e1, x1⟩ := r1.at j h1
      obtain ⟨v2, e2, x2⟩ := r2.at j h2
      exact ih x1 x2 (hf j v1 v2 e1 e2) hu2
    cases eqN_inv e with
    | int i j =>
      obtain ⟨t, rfl⟩ := hx.inv
      obtain ⟨u, rfl⟩ := hy.inv
      exact (show (i == j) = decide (i = j) from rfl) ▸ EqAt.int_int i t j u
    | tup q =>
      obtain ⟨ws, a, p1, n1, r1, rfl⟩ := hx.inv
      obtain ⟨us, b, p2, n2, r2, rfl⟩ := hy.inv
      by_cases hab : a = b
      · subst hab
        exact eqN_same (n + 1) hx hy e ▸ EqAt.same _
      · obtain ⟨f, hf, rfl⟩ := go_spec n _ _ k q
        have := RcAt.tuples (A := A) (s := s) (e := f) p1.isTuple p2.isTuple hu0 (hat r1 r2 hf)
        rw [List.size_toArray, List.size_toArray, ← r1.length, ← r2.length] at this
        exact EqAt.of_refs hab this
    | len q =>
      obtain ⟨ws, a, p1, n1, r1, rfl⟩ := hx.inv
      obtain ⟨us, b, p2, n2, r2, rfl⟩ := hy.inv
      by_cases hab : a = b
      · subst hab
        exact eqN_same (n + 1) hx hy e ▸ EqAt.same _
      · refine EqAt.of_refs hab (RcAt.lists_lengths p1.isList p2.isList ?_ hu0)
        rw [List.size_toArray, List.size_toArray, ← r1.length, ← r2.length]
        exact bne_iff_ne.mpr (Nat.ne_of_beq_eq_false q)
    | pl q1 q =>
      obtain ⟨ws, a, p1, n1, r1, rfl⟩ := hx.inv
      obtain ⟨us, b, p2, n2, r2, rfl⟩ := hy.inv
      by_cases hab : a = b
      · subst hab
        exact eqN_same (n + 1) hx hy e ▸ EqAt.same _
      · obtain ⟨f, hf, rfl⟩ := go_spec n _ _ k q
        have hl := Nat.eq_of_beq_eq_true q1
        have := RcAt.lists (A := A) (s := s) (e := f) p1.isList p2.isList (by rw [List.size_toArray, List.size_toArray, ← r1.length, ← r2.length, hl]) hu0 (hat r1 r2 hf)
        rw [List.size_toArray, ← r1.length, hl] at this
        rw [hl, Nat.min_self, beq_self_eq_true, Bool.and_true]
        exact EqAt.of_refs hab this

section
variable {prog : Program} {w : World} {A : Around} {s : Shared}

theorem seqEq_ok {cx : Cx} {g : Gh} {σ : Sto} {a b : Addr} {xs ys : List V} {ws us : List Value} {k : Bool} {n : Nat} (r1 : VRs cx s.heap g xs ws) (r2 : VRs cx s.heap g ys us)
    (p1 : s.heap.PlainList a ws.toArray) (p2 : s.heap.PlainList b us.toArray) (e : eqN (n + 1) (.pl xs) (.pl ys) = some k) (hu : A.units + n + 1 < cLine) :
    RcAt A s (.ref a) (.ref b) k ∧ RcNeAt A s (.ref a) (.ref b) (!k) := by
  simp only [eqN] at e
  cases q : Nat.beq xs.length ys.length with
  | false =>
    rw [q] at e; cases e
    have hne : (ws.toArray.size != us.toArray.size) = true := by
      rw [List.size_toArray, List.size_toArray, ← r1.length, ← r2.length]
      exact bne_iff_ne.mpr (Nat.ne_of_beq_eq_false q)
    exact ⟨RcAt.lists_lengths p1.isList p2.isList hne (by omega), RcNeAt.lists_lengths p1.isList p2.isList hne (by omega)⟩
  | true =>
    rw [q] at e
    have hl := Nat.eq_of_beq_eq_true q
    obtain ⟨f, hf, rfl⟩ := go_spec n xs ys k e
    have hs : ws.toArray.size = us.toArray.size := by rw [List.size_toArray, List.size_toArray, ← r1.length, ← r2.length, hl]
    have he : ∀ j (h1 : j < ws.toArray.size) (h2 : j < us.toArray.size), EqAt A.in1 s ws.toArray[j] us.toArray[j] (f j) := fun j h1 h2 => by
      obtain ⟨v1, e1, x1⟩ := r1.at j h1
      obtain ⟨v2, e2, x2⟩ := r2.at j h2
      exact eqAt_ok n x1 x2 (hf j v1 v2 e1 e2) (by show A.units + 1 + n < cLine; omega)
    have h1 := RcAt.lists (A := A) (s := s) (e := f) p1.isList p2.isList hs (by omega) he
    have h2 := RcNeAt.lists (A := A) (s := s) (e := f) p1.isList p2.isList hs (by omega) he
    rw [List.size_toArray, ← r1.length, hl] at h1 h2
    rw [hl, Nat.min_self, beq_self_eq_true, Bool.and_true]
    exact ⟨h1, h2⟩
theorem tupEq_ok {cx : Cx} {g : Gh} {σ : Sto} {a b : Addr} {xs ys : List V} {ws us : List Value} {k : Bool} {n : Nat} (r1 : VRs cx s.heap g xs ws) (r2 : VRs cx s.heap g ys us)
    (p1 : PlainTup s.heap a ws) (p2 : PlainTup s.heap b us) (e : eqN (n + 1) (.tup xs) (.tup ys) = some k) (hu : A.units + n + 1 < cLine) :
    RcAt A s (.ref a) (.ref b) k ∧ RcNeAt A s (.ref a) (.ref b) (!k) := by
  simp only [eqN] at e
  obtain ⟨f, hf, rfl⟩ := go_spec n xs ys k e
  have he : ∀ j (h1 : j < ws.toArray.size) (h2 : j < us.toArray.size), EqAt A.in1 s ws.toArray[j] us.toArray[j] (f j) := fun j h1 h2 => by
    obtain ⟨v1, e1, x1⟩ := r1.at j h1
    obtain ⟨v2, e2, x2⟩ := r2.at j h2
    exact eqAt_ok n x1 x2 (hf j v1 v2 e1 e2) (by show A.units + 1 + n < cLine; omega)
  have h1 := RcAt.tuples (A := A) (s := s) (e := f) p1.isTuple p2.isTuple (by omega) he
  have h2 := RcNeAt.tuples (A := A) (s := s) (e := f) p1.isTuple p2.isTuple (by omega) he
  rw [List.size_toArray, List.size_toArray, ← r1.length, ← r2.length] at h1 h2
  exact ⟨h1, h2⟩
end
end Mine
end
section
set_option maxRecDepth 100000
set_option maxHeartbeats 2000000
set_option linter.unusedVariables false
namespace Mine
open PySem PySem.Calls PyProof.Rows PySem.W PySem.SeqAt

noncomputable def LexAt (A : Around) (s : Shared) : List Value → List Value → Bool → Prop
  | [], [], k => k = false
  | [], _ :: _, k => k = true
  | _ :: _, [], k => k = false
  | x :: xs, y :: ys, k => (EqAt A s x y true ∧ LexAt A s xs ys k) ∨
    (EqAt A s x y false ∧ ∀ (prog : Program) (w : World) (E : Value → Shared → Prop) (Q : Value → Shared → Prop), Q (.bool k) s → wpAny (model prog w) A (richCompare .Lt x y) Q E s)

theorem tuple_lt_meets (l b : Addr) (items items2 : List Value) (n n2 : Nat) (dd dd2 : Option Addr) (sl sl2 : Array (Option Value)) (k : Bool) :
    Meets (Builtin.«tuple.__lt__» ⟨[.ref l, .ref b], []⟩)
      (fun A R s => s.heap.get? l = some { cls := .type "tuple", dict := dd, data := .seq items.toArray n, slots := sl } ∧ s.heap.get? b = some { cls := .type "tuple", dict := dd2, data := .seq items2.toArray n2, slots := sl2 } ∧
        LexAt A.in1 s items items2 k ∧ R (.ok (.ret (.bool k))) s) :=
  .of_wp fun prog w A R s h => by
    obtain ⟨hp, g, d, tk, os⟩ := s; obtain ⟨hl, hb, he, h⟩ := h
    have f2 := AutoSeq1.sub_tuple_tuple
    wp_walk using wpAny_loadPart' hl, wpAny_loadPart' hb, wpAny_forIn_list _ (fun rest b s' => b.1 = none ∧ s' = ⟨hp, g, d, tk, os⟩ ∧ ∃ xs ys, rest = xs.zip ys ∧ items.length + ys.length = items2.length + xs.length ∧ LexAt A.in1 ⟨hp, g, d, tk, os⟩ xs ys k) _
    case turn =>
      rintro ⟨x, y⟩ rest b s' ⟨hb', rfl, xs, ys, hz, hlen, hlex⟩
      cases xs with
      | nil => simp at hz
      | cons x' xs => cases ys with
        | nil => simp at hz
        | cons y' ys =>
          rw [List.zip_cons_cons] at hz
          injection hz with hxy hrest
          injection hxy with h1 h2
          subst h1 h2
          rcases hlex with ⟨he, hl⟩ | ⟨he, hl⟩
          · refine wpAny_bind (he prog w _ _ ?_)
            wp_walk
            exact ⟨rfl, rfl, xs, ys, hrest, by simp only [List.length_cons] at hlen; omega, hl⟩
          · refine wpAny_bind (he prog w _ _ ?_)
            simp only [Bool.not_false, if_true]
            refine wpAny_bind (wpAny_rule (wpAny_bind (hl prog w _ _ ?_)))
            wp_walk
            exact ⟨_, rfl, h⟩
    case fin =>
      rintro ⟨b1, b2⟩ s' ⟨hb', rfl, xs, ys, hz, hlen, hlex⟩
      simp only at hb'
      subst hb'
      have hk : Builtin.Tuple.tupleCompareSizes .Lt items.toArray.size items2.toArray.size = .bool k := by
        unfold Builtin.Tuple.tupleCompareSizes
        simp only [List.size_toArray]
        cases xs with
        | nil => cases ys with
          | nil =>
            have : k = false := hlex
            subst this
            simp only [List.length_nil] at hlen
            rw [decide_eq_false (by omega)]
          | cons y ys =>
            have : k = true := hlex
            subst this
            simp only [List.length_nil, List.length_cons] at hlen
            rw [decide_eq_true (by omega)]
        | cons x xs => cases ys with
          | nil =>
            have : k = false := hlex
            subst this
            simp only [List.length_nil, List.length_cons] at hlen
            rw [decide_eq_false (by omega)]
          | cons y ys => simp at hz
      wp_walk
      rw [hk]
      exact ⟨_, rfl, h⟩
    case h =>
      exact ⟨rfl, rfl, items, items2, rfl, by omega, he⟩

set_option tactic.hygienic true in
theorem cmp_self {x : UInt64} {o : Ordering} (h : Float64.cmp x x = some o) : o = .eq := by
  unfold Float64.cmp at h
  split at h
  · cases h
  · cases h
  · rename_i a b h1 h2
    rw [h1] at h2; injection h2 with h2; subst h2
    cases h
    cases a <;> rfl
  · rename_i h1 h2; rw [h1] at h2; cases h2
  · rename_i h1 h2; rw [h1] at h2; cases h2
  · rename_i a m e b k f h1 h2
    rw [h1] at h2; injection h2 with h2 h3 h4; subst h2 h3 h4
    have : (Float64.align a m e a m e).1 = (Float64.align a m e a m e).2.1 := rfl
    have h' : compare (Float64.align a m e a m e).1 (Float64.align a m e a m e).2.1 = o := Option.some.inj h
    rw [← h', ← this]
    exact Std.ReflCmp.compare_self

theorem eqAt_flt {cx : Cx} {g : Gh} {s : Shared} {A : Around} {x y : UInt64} {t u : Tok} {o : Ordering} (h1 : 0 < t) (h2 : g.φ t = x) (h3 : 0 < u) (h4 : g.φ u = y) (hc : Float64.cmp x y = some o)
    (hb : NoneBooked s.heap) : EqAt A s (.float x t) (.float y u) (o == .eq) := fun prog w E Q hq => by
  unfold eqBool
  refine wpAny_holding ?_
  refine wpAny_ite_split (fun hab => ?_) (fun hab => ?_)
  · have := eq_of_beq hab
    injection this with hx ht
    subst hx
    have := cmp_self hc
    subst this
    exact wpAny_bind (wpAny_rule (wpAny_pure hq))
  · have hne : ¬ (t = u) := fun e => by
      subst e
      have : x = y := h2.symm.trans h4
      subst this
      simp at hab
    have last : wpAny (model prog w) A (do truthOfDropped (← richCompare .Eq (.float x t) (.float y u))) Q E s := by
      refine wpAny_bind (m := compareOp .Eq (.float x t) (.float y u)) (AutoFloatOps.eq_0 ?_)
      rw [hc]
      exact wpAny_truthy_bool (by
        have : (some o == some Ordering.eq) = (o == Ordering.eq) := rfl
        rw [this]; exact hq)
    refine wpAny_bind ?_
    show wpAny _ A (isSame.created (x == y && !Float64.isNaN x) t u) _ E s
    unfold isSame.created
    refine wpAny_ite_split (fun q => ?_) (fun _ => ?_)
    · exfalso
      rcases Bool.or_eq_true_iff.mp q with q | q
      · exact absurd (eq_of_beq q) (Nat.ne_of_gt h1)
      · exact absurd (eq_of_beq q) (Nat.ne_of_gt h3)
    refine wpAny_ite_split (fun q => absurd (eq_of_beq q) hne) (fun _ => ?_)
    refine wpAny_ite_split (fun q => ?_) (fun q => ?_)
    · exact wpAny_pure last
    · have hxy : x = y := by
        simp only [Bool.not_eq_true, Bool.not_eq_false', Bool.and_eq_true, beq_iff_eq] at q
        exact q.1
      subst hxy
      have := cmp_self hc
      subst this
      refine wpAny_bind (wpAny_sharingNotTold_none hb ?_)
      rw [if_neg Bool.false_ne_true]
      refine wpAny_bind (wpAny_sharingNotTold_none hb ?_)
      rw [if_neg Bool.false_ne_true]
      refine wpAny_bind (wpAny_rule (wpAny_bind (wpAny_askSetting (wpAny_pure ?_))))
      refine wpAny_ite_split (fun _ => wpAny_pure hq) (fun _ => last)

inductive LtInv (xs ys : List V) : V → V → Bool → Prop
  | int (i j : Int) {k : Bool} : decide (i = j) = true → ltT xs ys = some k → LtInv xs ys (.int i) (.int j) k
  | intn (i j : Int) : decide (i = j) = false → LtInv xs ys (.int i) (.int j) (decide (i < j))
  | flt (i j : UInt64) {k : Bool} : Float64.cmp i j = some .eq → ltT xs ys = some k → LtInv xs ys (.flt i) (.flt j) k
  | fltn (i j : UInt64) {o : Ordering} : Float64.cmp i j = some o → (o == .eq) = false → LtInv xs ys (.flt i) (.flt j) (o == .lt)
theorem ltT_inv {xs ys : List V} {x y : V} {k : Bool} (e : ltT (x :: xs) (y :: ys) = some k) : LtInv xs ys x y k := by
  cases x with
  | int i => cases y with
    | int j => exact spB e (fun _ _ => rfl) (fun _ _ => rfl) (fun q e => .int i j q e) fun q e => Option.some.inj e ▸ .intn i j q
    | _ => exact nsE e
  | flt i => cases y with
    | flt j =>
      have e : (match Float64.cmp i j with | some .eq => ltT xs ys | some .lt => some true | some .gt => some false | Option.none => Option.none) = some k := e
      cases q : Float64.cmp i j with
      | none => rw [q] at e; exact nsE e
      | some o =>
        rw [q] at e
        cases o with
        | eq => exact .flt i j q e
        | lt => exact Option.some.inj e ▸ .fltn i j q rfl
        | gt => exact Option.some.inj e ▸ .fltn i j q rfl
    | _ => exact nsE e
  | _ => exact nsE e
theorem lexAt_ok {cx : Cx} {g : Gh} {s : Shared} {A : Around} (hb : NoneBooked s.heap) {k : Bool} : ∀ {xs ys : List V} {ws us : List Value}, VRs cx s.heap g xs ws → VRs cx s.heap g ys us → ltT xs ys = some k → LexAt A s ws us k := by
  intro xs
  induction xs with
  | nil =>
    intro ys ws us r r' e
    cases r
    cases r' with
    | nil => exact Option.some.inj e ▸ rfl
    | cons b r' => exact Option.some.inj e ▸ rfl
  | cons x xs ih =>
    intro ys ws us r r' e
    cases r with
    | cons hx rx => cases r' with
      | nil => exact Option.some.inj e ▸ rfl
      | cons hy ry =>
        cases ltT_inv e with
        | int i j q e' =>
          obtain ⟨t, rfl⟩ := hx.inv
          obtain ⟨u, rfl⟩ := hy.inv
          exact .inl ⟨q ▸ EqAt.int_int (A := A) (s := s) i t j u, ih rx ry e'⟩
        | intn i j q =>
          obtain ⟨t, rfl⟩ := hx.inv
          obtain ⟨u, rfl⟩ := hy.inv
          exact .inr ⟨q ▸ EqAt.int_int (A := A) (s := s) i t j u, fun prog w E Q hq => P.lt_int hq⟩
        | flt i j q e' =>
          obtain ⟨t, h1, h2, h3, rfl⟩ := hx.inv
          obtain ⟨u, h4, h5, h6, rfl⟩ := hy.inv
          exact .inl ⟨eqAt_flt (cx := cx) (g := g) (A := A) h1 h3 h4 h6 q hb, ih rx ry e'⟩
        | fltn i j q q' =>
          obtain ⟨t, h1, h2, h3, rfl⟩ := hx.inv
          obtain ⟨u, h4, h5, h6, rfl⟩ := hy.inv
          exact .inr ⟨q' ▸ eqAt_flt (cx := cx) (g := g) (A := A) h1 h3 h4 h6 q hb, fun prog w E Q hq => AutoFloatOps.lt_0 (by rw [q]; exact hq)⟩

section
variable {prog : Program} {w : World} {A : Around} {s : Shared}
theorem tupLt_ok {cx : Cx} {g : Gh} {a b : Addr} {xs ys : List V} {ws us : List Value} {k : Bool} {Q E : Value → Shared → Prop} (hb : NoneBooked s.heap) (r1 : VRs cx s.heap g xs ws) (r2 : VRs cx s.heap g ys us)
    (p1 : PlainTup s.heap a ws) (p2 : PlainTup s.heap b us) (e : ltT xs ys = some k) (hu : A.units < cLine) (hq : Q (.bool k) s) : wpAny (model prog w) A (compareOp .Lt (.ref a) (.ref b)) Q E s := by
  obtain ⟨n1, o1⟩ := p1
  obtain ⟨n2, o2⟩ := p2
  exact richCompare_meets_room (op := .Lt) ⟨_, o1, rfl⟩ ⟨_, o2, rfl⟩ F.slot_tuple_lt F.entry_tuple_lt (F.args_tuple_lt_2 _ _) (tuple_lt_meets a b ws us n1 n2 none none #[] #[] k)
    ⟨o1, o2, lexAt_ok hb r1 r2 e, show Value.bool k ≠ Value.notImplemented ∧ Q (.bool k) s from ⟨(fun x => nomatch x), hq⟩⟩ hu
end
end Mine
end
section
set_option maxRecDepth 100000
set_option maxHeartbeats 2000000
set_option linter.unusedVariables false
namespace Mine
open PySem PySem.Calls PyProof.Rows PySem.W PySem.SeqAt

structure CxS (cx : Cx) : Prop where
  c46 : cx.ch ≠ 46
  c10 : cx.ch ≠ 10
  c13 : cx.ch ≠ 13

theorem okCh_or {n : Nat} (h : okCh n = true) : n = SYM ∨ n = 46 ∨ n = 10 ∨ n = 13 := by
  delta okCh at h
  split at h
  · rename_i q; exact .inl (Nat.eq_of_beq_eq_true q)
  · split at h
    · rename_i q; exact .inr (.inl (Nat.eq_of_beq_eq_true q))
    · split at h
      · rename_i q; exact .inr (.inr (.inl (Nat.eq_of_beq_eq_true q)))
      · exact .inr (.inr (.inr (Nat.eq_of_beq_eq_true h)))
theorem sign_inj {cx : Cx} (C : CxS cx) {a b : Nat} (ha : okCh a = true) (hb : okCh b = true) : (cx.sign a == cx.sign b) = Nat.beq a b := by
  have h1 := C.c46
  have h2 := C.c10
  have h3 := C.c13
  have e : (Nat.beq a b) = (a == b) := by rw [Bool.eq_iff_iff, Nat.beq_eq]; simp
  rw [e]
  rcases okCh_or ha with rfl | rfl | rfl | rfl <;> rcases okCh_or hb with rfl | rfl | rfl | rfl <;> simp [Cx.sign, SYM, h1, h2, h3, Ne.symm h1, Ne.symm h2, Ne.symm h3]
theorem okS_cons {a : Nat} {l : List Nat} (h : okS (a :: l) = true) : okCh a = true ∧ okS l = true := by
  unfold okS at h
  split at h
  · rename_i q; exact ⟨q, h⟩
  · cases h
theorem sEq_ok {cx : Cx} (C : CxS cx) : ∀ {a b : List Nat}, okS a = true → okS b = true → (a.map cx.sign == b.map cx.sign) = nbeqL a b
  | [], [], _, _ => rfl
  | [], _ :: _, _, _ => rfl
  | _ :: _, [], _, _ => rfl
  | x :: a, y :: b, ha, hb => by
    obtain ⟨h1, h2⟩ := okS_cons ha
    obtain ⟨h3, h4⟩ := okS_cons hb
    have := sEq_ok C h2 h4
    have e := sign_inj C h1 h3
    show ((cx.sign x :: a.map cx.sign) == (cx.sign y :: b.map cx.sign)) = _
    rw [List.cons_beq_cons, this, e]
    rw [nbeqL.eq_def (x :: a)]
    cases q : Nat.beq x y with
    | true => simp [q]
    | false => simp [q]

theorem items_ok {cx : Cx} {σ : Sto} {g : Gh} {h : Heap} {tk : Nat} {v : V} {a : Value} {xs : List V} (hw : W cx σ g h tk) (x : VR cx h g v a) (e : items σ v = some xs) :
    ∃ l ws, a = .ref l ∧ h.PlainList l ws.toArray ∧ VRs cx h g xs ws := by
  cases v with
  | pl _ => obtain ⟨_, _, p, n, r, rfl⟩ := x.inv; (delta items at e; try dsimp only at e); cases e; exact ⟨_, _, rfl, p, r⟩
  | lst _ =>
    obtain ⟨_, q, rfl⟩ := x.inv
    (delta items at e; try dsimp only at e)
    obtain ⟨a, ws, e1, e2, e3⟩ := hw.lists _ _ e
    rw [q] at e1; cases e1
    exact ⟨_, _, rfl, e2, e3⟩
  | _ => first | exact nsE e | simp [items] at e

section
variable {prog : Program} {w : World} {A : Around} {s : Shared}

theorem icmp_ok {op : CmpOp} {a b : Int} {t u : Tok} {k : Bool} {Q : Value → Shared → Prop} (e : icmp op a b = some k) (hq : Q (.bool k) s) :
    wpAny (model prog w) A (compareOp op (.int a t) (.int b u)) Q Z s := by
  have d1 : (a == b) = decide (a = b) := by rw [Bool.eq_iff_iff]; simp
  have d2 : (a != b) = !decide (a = b) := by rw [bne, d1]
  cases op with
  | Eq => cases e; exact P.eq_int (by rw [d1]; exact hq)
  | NotEq => cases e; exact P.ne_int (by rw [d2]; exact hq)
  | Lt => cases e; exact P.lt_int hq
  | LtE => cases e; exact P.le_int hq
  | Gt => cases e; exact P.gt_int hq
  | GtE => cases e; exact P.ge_int hq
  | _ => cases e
theorem fcmp_ok {op : CmpOp} {a b : UInt64} {t u : Tok} {k : Bool} {Q : Value → Shared → Prop} (e : fcmp op a b = some k) (hq : Q (.bool k) s) :
    wpAny (model prog w) A (compareOp op (.float a t) (.float b u)) Q Z s := by
  cases op with
  | Eq => cases e; exact AutoFloatOps.eq_0 hq
  | NotEq => cases e; exact AutoFloatOps.ne_0 hq
  | Lt => cases e; exact AutoFloatOps.lt_0 hq
  | LtE => cases e; exact AutoFloatOps.le_0 hq
  | _ => cases e

theorem eqOp_some {op : CmpOp} {b : Option Bool} {k : Bool} (e : eqOp op b = some k) : (op = .Eq ∧ b = some k) ∨ (op = .NotEq ∧ b = some (!k)) := by
  cases op with
  | Eq => exact .inl ⟨rfl, e⟩
  | NotEq =>
    cases b with
    | none => cases e
    | some b => cases e; exact .inr ⟨rfl, by simp⟩
  | _ => cases e

noncomputable def isI (i : Int) : Value → Bool
  | .int j _ => j == i
  | _ => false
theorem inL_ok {cx : Cx} {g : Gh} {h : Heap} {i : Int} : ∀ {vs : List V} {ws : List Value} {k : Bool}, VRs cx h g vs ws → inL i vs = some k →
    (∀ y ∈ ws, ∃ j t, y = .int j t) ∧ ws.any (isI i) = k
  | [], _, k, .nil, e => by unfold inL at e; cases e; exact ⟨fun y hy => by simp at hy, rfl⟩
  | v :: vs, _, k, .cons (w := a) hx hr, e => by
    cases v with
    | int j =>
      obtain ⟨t, rfl⟩ := hx.inv
      simp only [inL] at e
      cases q : inL i vs with
      | none => simp [q] at e
      | some b =>
        rw [q] at e; cases e
        obtain ⟨h1, h2⟩ := inL_ok hr q
        refine ⟨fun y hy => ?_, ?_⟩
        · rcases List.mem_cons.mp hy with rfl | hy
          · exact ⟨_, _, rfl⟩
          · exact h1 y hy
        · rw [List.any_cons, h2]
          have : isI i (.int j t) = decide (i = j) := by
            show (j == i) = _
            rw [Bool.eq_iff_iff, beq_iff_eq, decide_eq_true_iff]; exact eq_comm
          rw [this]
    | _ => first | exact nsE e | simp [inL] at e
theorem cmpS_ok {cx : Cx} (C : CxS cx) {op : CmpOp} {a b : List Nat} {t u : Tok} {k : Bool} {Q : Value → Shared → Prop} (e : cmpS op a b = some k) (hq : Q (.bool k) s) :
    wpAny (model prog w) A (compareOp op (.str (cx.strOf a) t) (.str (cx.strOf b) u)) Q Z s := by
  delta cmpS at e
  split at e
  · rename_i h1 h2
    have hs : ((cx.strOf a).cps.toList == (cx.strOf b).cps.toList) = nbeqL a b := by
      rw [← sEq_ok C h1 h2]; rfl
    rcases eqOp_some e with ⟨rfl, h⟩ | ⟨rfl, h⟩
    · cases h
      exact PySem.P.eq_str (by rw [hs]; exact hq)
    · have h := Option.some.inj h
      exact PySem.P.ne_str (by
        have e2 : ((cx.strOf a).cps.toList != (cx.strOf b).cps.toList) = k := by rw [bne, hs, h, Bool.not_not]
        rw [e2]; exact hq)
  · cases e

set_option tactic.hygienic true in
theorem cmpL_ok {cx : Cx} {g : Gh} {σ : Sto} {op : CmpOp} {x y : V} {a b : Value} {k : Bool} {Q : Value → Shared → Prop} (hw : W cx σ g s.heap s.toks) (hu : A.units + 8 < cLine)
    (hx : VR cx s.heap g x a) (hy : VR cx s.heap g y b) (e : cmpL op σ x y = some k) (hq : Q (.bool k) s) :
    wpAny (model prog w) A (compareOp op a b) Q Z s := by
  delta cmpL at e
  split at e
  · rename_i xs ys h1 h2
    obtain ⟨l, ws, rfl, p1, r1⟩ := items_ok hw hx h1
    obtain ⟨l2, us, rfl, p2, r2⟩ := items_ok hw hy h2
    rcases eqOp_some e with ⟨rfl, h⟩ | ⟨rfl, h⟩
    · exact (seqEq_ok (A := A) (σ := σ) r1 r2 p1 p2 h (by omega)).1 prog w _ _ hq
    · exact (seqEq_ok (A := A) (σ := σ) r1 r2 p1 p2 h (by omega)).2 prog w _ _ (by rw [Bool.not_not]; exact hq)
  · cases e
theorem cmpT_ok {cx : Cx} {g : Gh} {σ : Sto} {op : CmpOp} {xs : List V} {y : V} {a : Addr} {b : Value} {ws : List Value} {k : Bool} {Q : Value → Shared → Prop} (hw : W cx σ g s.heap s.toks) (hu : A.units + 8 < cLine)
    (p1 : PlainTup s.heap a ws) (r1 : VRs cx s.heap g xs ws) (hy : VR cx s.heap g y b) (e : cmpT op xs y = some k) (hq : Q (.bool k) s) :
    wpAny (model prog w) A (compareOp op (.ref a) b) Q Z s := by
  cases y with
  | tup _ =>
    obtain ⟨_, _, p2, n2, r2, rfl⟩ := hy.inv
    (delta cmpT at e; try dsimp only at e)
    split at e
    · exact tupLt_ok hw.booked r1 r2 p1 p2 e (by omega) hq
    · rcases eqOp_some e with ⟨rfl, h⟩ | ⟨rfl, h⟩
      · exact (tupEq_ok (A := A) (σ := σ) r1 r2 p1 p2 h (by omega)).1 prog w _ _ hq
      · exact (tupEq_ok (A := A) (σ := σ) r1 r2 p1 p2 h (by omega)).2 prog w _ _ (by rw [Bool.not_not]; exact hq)
  | _ => first | exact nsE e | simp [cmpT] at e
theorem cmpI_ok {cx : Cx} {g : Gh} {σ : Sto} {op : CmpOp} {i : Int} {t : Tok} {y : V} {b : Value} {k : Bool} {Q : Value → Shared → Prop} (hy : VR cx s.heap g y b) (e : cmpI op i y = some k) (hq : Q (.bool k) s) :
    wpAny (model prog w) A (compareOp op (.int i t) b) Q Z s := by
  cases y with
  | int j => obtain ⟨u, rfl⟩ := hy.inv; (delta cmpI at e; try dsimp only at e); exact icmp_ok e hq
  | pl _ =>
    obtain ⟨_, _, p, n, r, rfl⟩ := hy.inv
    (delta cmpI at e; try dsimp only at e)
    split at e
    · obtain ⟨h1, h2⟩ := inL_ok r e
      refine SeqAt.in_listAt (isI i) p.isList (fun y hy => ?_) (by rw [List.any_toArray, h2]; exact hq)
      obtain ⟨j, u, rfl⟩ := h1 y (List.mem_toArray.mp hy)
      exact EqAt.int_int j u i t
    · cases e
  | none =>
    obtain rfl := hy.inv
    (delta cmpI at e; try dsimp only at e)
    split at e
    · cases e; exact is_none_ne (fun x => nomatch x) hq
    · cases e
  | _ => first | exact nsE e | simp [cmpI] at e
theorem cmpN_ok {op : CmpOp} {b k : Bool} (e : cmpN op b = some k) : op = .Is ∧ k = b := by
  delta cmpN at e
  split at e
  · cases e; exact ⟨rfl, rfl⟩
  · cases e

inductive CmpInv (op : CmpOp) (σ : Sto) : V → V → Bool → Prop
  | int (i : Int) (y : V) {k : Bool} : cmpI op i y = some k → CmpInv op σ (.int i) y k
  | flt (a b : UInt64) {k : Bool} : fcmp op a b = some k → CmpInv op σ (.flt a) (.flt b) k
  | bool (a b : Bool) {k : Bool} : eqOp op (some (a == b)) = some k → CmpInv op σ (.bool a) (.bool b) k
  | str (a b : List Nat) {k : Bool} : cmpS op a b = some k → CmpInv op σ (.str a) (.str b) k
  | tup (xs : List V) (y : V) {k : Bool} : cmpT op xs y = some k → CmpInv op σ (.tup xs) y k
  | none {k : Bool} : cmpN op true = some k → CmpInv op σ .none .none k
  | non {x : V} {k : Bool} : (∀ {cx : Cx} {h : Heap} {g : Gh} {w : Value}, VR cx h g x w → w ≠ .none) → cmpN op false = some k → CmpInv op σ x .none k
  | list {x y : V} {k : Bool} : cmpL op σ x y = some k → CmpInv op σ x y k
theorem cmpV_inv {op : CmpOp} {σ : Sto} {x y : V} {k : Bool} (e : cmpV op σ x y = some k) : CmpInv op σ x y k := by
  cases x with
  | int i => exact .int i y e
  | flt a => cases y with
    | flt b => exact .flt a b e
    | _ => exact nsE e
  | bool a => cases y with
    | bool b => exact .bool a b e
    | _ => exact nsE e
  | str a => cases y with
    | str b => exact .str a b e
    | _ => exact nsE e
  | tup xs => exact .tup xs y e
  | none => cases y with
    | none => exact .none e
    | _ => exact nsE e
  | lam ps body sc => cases y with
    | none => exact .non (fun x q => by obtain ⟨_, _, _, _, _, _, _, _, _, rfl⟩ := x.inv; cases q) e
    | _ => exact nsE e
  | lst i => cases y with
    | none => exact .non (fun x q => by obtain ⟨_, _, rfl⟩ := x.inv; cases q) e
    | _ => exact .list e
  | pl vs => cases y with
    | none => exact .non (fun x q => by obtain ⟨_, _, _, _, _, rfl⟩ := x.inv; cases q) e
    | _ => exact .list e
  | _ => exact nsE e
theorem cmpV_ok {cx : Cx} (C : CxS cx) {g : Gh} {σ : Sto} {op : CmpOp} {x y : V} {a b : Value} {k : Bool} {Q : Value → Shared → Prop} (hw : W cx σ g s.heap s.toks) (hu : A.units + 8 < cLine)
    (hx : VR cx s.heap g x a) (hy : VR cx s.heap g y b) (e : cmpV op σ x y = some k) (hq : Q (.bool k) s) :
    wpAny (model prog w) A (compareOp op a b) Q Z s := by
  cases cmpV_inv e with
  | int i _ e => apply hx.intE; intro t; with_reducible exact cmpI_ok (σ := σ) hy e hq
  | flt i j e => apply hx.fltE; intro t _ _ _; apply hy.fltE; intro u _ _ _; with_reducible exact fcmp_ok e hq
  | bool i j e =>
    apply hx.boolE; apply hy.boolE
    rcases eqOp_some e with ⟨rfl, h⟩ | ⟨rfl, h⟩
    · cases h; exact eq_bool hq
    · have h := Option.some.inj h
      exact ne_bool (by rw [bne, h, Bool.not_not]; exact hq)
  | str i j e => apply hx.strE; intro t; apply hy.strE; intro u; with_reducible exact cmpS_ok C e hq
  | tup xs _ e => apply hx.tupE; intro ws l p n r; with_reducible exact cmpT_ok hw hu p r hy e hq
  | none e =>
    obtain ⟨rfl, rfl⟩ := cmpN_ok e
    apply hx.noneE; apply hy.noneE; exact is_none_none hq
  | non f e =>
    obtain ⟨rfl, rfl⟩ := cmpN_ok e
    apply hy.noneE; exact is_none_ne (f hx) hq
  | list e => exact cmpL_ok hw hu hx hy e hq
end
end Mine
end
section
set_option maxRecDepth 100000
set_option maxHeartbeats 2000000
set_option linter.unusedVariables false
namespace Mine
open PySem PySem.Calls PyProof.Rows PySem.W PySem.SeqAt

theorem seq_eq (a b : Str) : seq a b = (a == b) := by
  by_cases h : a = b
  · subst h; rw [seq_refl]; simp
  · cases q : seq a b with
    | true => exact absurd (strEq_of_seq q) h
    | false => exact (beq_false_of_ne h).symm
theorem lk_lookup {α : Type} (x : Str) : ∀ l : List (Str × α), lk x l = l.lookup x
  | [] => rfl
  | (y, v) :: r => by
    unfold lk
    rw [seq_eq, List.lookup_cons]
    cases q : x == y with
    | true => rfl
    | false => exact lk_lookup x r

noncomputable def ScR (e sc : Scope) : Prop := ∀ x k, sc.names.lookup x = some k → e.names.lookup x = some k ∨ (k = .free ∧ e.names.lookup x = some .cell)
theorem ScR.refl (sc : Scope) : ScR sc sc := fun _ _ h => .inl h
theorem ScR.of_eq {e sc : Scope} (h : e = sc) : ScR e sc := h ▸ .refl sc
theorem ScR.at {e sc : Scope} (h : ScR e sc) {x : Str} {k : NameKind} (q : lk x sc.names = some k) (hk : k ≠ .free) : e.names.lookup x = some k := by
  rw [lk_lookup] at q
  rcases h x k q with h | ⟨h, _⟩
  · exact h
  · exact absurd h hk
theorem allB_mem {α : Type} {f : α → Bool} {l : List α} (e : allB f l = true) (a : α) (h : a ∈ l) : f a = true := by
  induction l with
  | nil => exact nomatch h
  | cons b l ih => exact andE e fun h1 h2 => (List.mem_cons.mp h).elim (fun q => q ▸ h1) (ih h2)
theorem anyB_true {α : Type} {f : α → Bool} {l : List α} (e : anyB f l = true) : ∃ a ∈ l, f a = true := by
  induction l with
  | nil => exact ftE e
  | cons b l ih => exact (Bool.or_eq_true_iff.mp e).elim (fun h => ⟨b, List.mem_cons_self, h⟩) fun h => (ih h).imp fun a y => ⟨List.mem_cons_of_mem _ y.1, y.2⟩
theorem anyB_false {α : Type} {f : α → Bool} {l : List α} (e : anyB f l = false) (a : α) (h : a ∈ l) : f a = false := by
  induction l with
  | nil => exact nomatch h
  | cons b l ih => exact have e := Bool.or_eq_false_iff.mp e; (List.mem_cons.mp h).elim (fun q => q ▸ e.1) (ih e.2)
theorem isLoc_ok {k : NameKind} (e : isLoc k = true) : k = .local := by cases k <;> first | exact ftE e | rfl
theorem isGlo_ok {k : NameKind} (e : isGlo k = true) : k = .globalImplicit := by cases k <;> first | exact ftE e | rfl
theorem isFre_ok {k : NameKind} (e : isFre k = true) : k = .free := by cases k <;> first | exact ftE e | rfl
theorem locCel {k : NameKind} (e : (isLoc k || isCel k) = true) : k = .local ∨ k = .cell := by cases k <;> first | exact ftE e | exact .inl rfl | exact .inr rfl
theorem celFre {k : NameKind} (e : (isCel k || isFre k) = true) : k = .cell ∨ k = .free := by cases k <;> first | exact ftE e | exact .inl rfl | exact .inr rfl
theorem ScR.lam {e sc : Scope} (h : ScR e sc) (q : lamOk sc = true) : lamOk e = true := by
  exact anyE q fun o q1 q2 => by
    cases isLoc_ok q2
    unfold lamOk
    rw [lk_lookup, h.at q1 (fun x => nomatch x)]; rfl
noncomputable def ScE (env : Env) (sc : Scope) : Prop := ScR env.scope sc ∧ (env.func = none → ∀ x, lk x sc.names ≠ some .cell)
theorem ScE.of_eq {env : Env} {sc : Scope} (h : env.scope = sc) (hf : env.func ≠ none) : ScE env sc := ⟨.of_eq h, fun q => absurd q hf⟩
theorem ScE.at {env : Env} {sc : Scope} (h : ScE env sc) {x : Str} {k : NameKind} (q : lk x sc.names = some k) (hk : k ≠ .free) : env.scope.names.lookup x = some k := h.1.at q hk
theorem ScE.lam {env : Env} {sc : Scope} (h : ScE env sc) (q : lamOk sc = true) : lamOk env.scope = true := h.1.lam q
theorem celled_at {env : Env} {sc : Scope} {x : Str} (hs : ScE env sc) (hc : celled sc.names x = true) : env.kindOf x ≠ some .local := fun k => anyE hc fun o q h => (celFre h).elim
  (fun z => nomatch Option.some.inj ((hs.at (q.trans (congrArg some z)) (fun x => nomatch x)).symm.trans k))
  (fun z => (hs.1 x _ ((lk_lookup ..).symm.trans (q.trans (congrArg some z)))).elim (fun h => nomatch Option.some.inj (h.symm.trans k)) fun h => nomatch Option.some.inj (h.2.symm.trans k))
noncomputable def StV (cx : Cx) (v : V) (w : Value) : Prop := ∀ h g, cx.n₀ ≤ g.n → (∀ t, t < cx.n₀ → g.φ t = cx.φ₀ t) → VR cx h g v w

noncomputable def rawTab : List (Str × Value) := [("divmod", .builtin "divmod"), ("reversed", .type "reversed"), ("ZeroDivisionError", .type "ZeroDivisionError"), ("sum", .builtin "sum"), ("enumerate", .type "enumerate")]
structure CxG (cx : Cx) : Prop where
  ok : CxOk cx
  sg : CxS cx
  ns : ∃ mg mb og ob, cx.h₀.Ns mainGlobals mg ∧ cx.h₀.Ns builtinsNs mb ∧ cx.h₀.get? mainGlobals = some og ∧ og.cls ≠ .none ∧ cx.h₀.get? builtinsNs = some ob ∧ ob.cls ≠ .none ∧
    (∃ bm o, mg "__builtins__" = some (.ref bm) ∧ bm ≠ builtinsNs ∧ cx.h₀.get? bm = some o ∧ o.cls = .type "module" ∧ o.dict = some builtinsNs ∧ o.data = .plain) ∧
    (∀ x v, lk x globTab = some v → ∃ w, (mg x = some w ∨ (mg x = none ∧ mb x = some w)) ∧ StV cx v w) ∧
    ∀ x w, (x, w) ∈ rawTab → mg x = none ∧ mb x = some w

noncomputable def TsP (cx : Cx) (g : Gh) (s : Shared) (σ' : Sto) (t : Bool) (b : Bool) (s' : Shared) : Prop :=
  b = t ∧ ∃ h' tk g', s' = { s with heap := h', toks := tk } ∧ s.toks ≤ tk ∧ W cx σ' g' h' tk ∧ Ev cx [] g g' s.heap h'
noncomputable def FlR (cx : Cx) (g : Gh) (h : Heap) : Fl → Flow → Prop
  | .next, f => f = .next
  | .ret v, f => ∃ w, f = .ret w ∧ VR cx h g v w
noncomputable def frame (env : Env) : List Addr := env.locals :: env.cells.filterMap fun p => if env.cells.lookup p.1 = some p.2 then some p.2 else none
noncomputable def wr (env : Env) : List Addr := match env.func with
  | none => [env.locals]
  | some _ => env.locals :: env.cells.filterMap fun p => if env.cells.lookup p.1 = some p.2 ∧ env.kindOf p.1 = some .cell then some p.2 else none
theorem wr_sub {env : Env} : ∀ a ∈ wr env, a ∈ frame env := fun a h => by
  delta wr at h
  split at h
  · rw [List.mem_singleton.mp h]; exact List.mem_cons_self
  · rcases List.mem_cons.mp h with h | h
    · rw [h]; exact List.mem_cons_self
    · obtain ⟨p, hp, hq⟩ := List.mem_filterMap.mp h
      split at hq
      · rename_i k
        exact List.mem_cons_of_mem _ (List.mem_filterMap.mpr ⟨p, hp, by rw [if_pos k.1]; exact hq⟩)
      · cases hq
theorem wr_one {env : Env} (h : ∀ x, env.kindOf x ≠ some .cell) : ∀ a ∈ wr env, a = env.locals := fun a m => by
  delta wr at m
  split at m
  · exact List.mem_singleton.mp m
  · rcases List.mem_cons.mp m with m | m
    · exact m
    · obtain ⟨p, hp, hq⟩ := List.mem_filterMap.mp m
      split at hq
      · rename_i k; exact absurd k.2 (h _)
      · cases hq
theorem mem_frame {env : Env} {a : Addr} (h : a ∈ frame env) : a = env.locals ∨ ∃ x, env.cells.lookup x = some a := by
  rcases List.mem_cons.mp h with h | h
  · exact .inl h
  · obtain ⟨p, _, hq⟩ := List.mem_filterMap.mp h
    split at hq
    · rename_i q; cases hq; exact .inr ⟨p.1, q⟩
    · cases hq
theorem FrR.free_frame {cx : Cx} {env : Env} {g : Gh} {ρ : Loc} {h : Heap} (f : FrR cx env g ρ h) : ∀ a ∈ frame env, g.free a := fun a ha => by
  rcases mem_frame ha with rfl | ⟨x, hx⟩
  · exact f.la
  · exact (f.cells x a hx).2.1
theorem FrR.free_wr {cx : Cx} {env : Env} {g : Gh} {ρ : Loc} {h : Heap} (f : FrR cx env g ρ h) : ∀ a ∈ wr env, g.free a := fun a ha => f.free_frame a (wr_sub a ha)
noncomputable def ExP (cx : Cx) (env : Env) (g : Gh) (s : Shared) (σ' : Sto) (ρ' : Loc) (fl : Fl) (f : Flow) (s' : Shared) : Prop :=
  ∃ h' tk g', s' = { s with heap := h', toks := tk } ∧ s.toks ≤ tk ∧ W cx σ' g' h' tk ∧ Ev cx (wr env) g g' s.heap h' ∧ FrR cx env g' ρ' h' ∧ FlR cx g' h' fl f

noncomputable def StP (cx : Cx) (env : Env) (g : Gh) (s : Shared) (σ' : Sto) (ρ' : Loc) (s' : Shared) : Prop :=
  ∃ h' tk g', s' = { s with heap := h', toks := tk } ∧ s.toks ≤ tk ∧ W cx σ' g' h' tk ∧ Ev cx (wr env) g g' s.heap h' ∧ FrR cx env g' ρ' h'
noncomputable def EvsP (cx : Cx) (g : Gh) (s : Shared) (σ' : Sto) (vs : List V) (ws : List Value) (s' : Shared) : Prop :=
  ∃ h' tk g', s' = { s with heap := h', toks := tk } ∧ s.toks ≤ tk ∧ W cx σ' g' h' tk ∧ Ev cx [] g g' s.heap h' ∧ VRs cx h' g' vs ws

section
variable {M : Model} {A : Around} {s : Shared}
theorem wpZ {α : Type} {m : Sem α} {Q Q' : α → Shared → Prop} {E : Value → Shared → Prop} (h : wpAny M A m Q Z s) (k : ∀ a s', Q a s' → Q' a s') : wpAny M A m Q' E s :=
  wpAny_mono h k fun _ _ x => x.elim
end

noncomputable def isClb : V → Bool
  | .fn _ => true
  | .lam .. => true
  | .bi _ => true
  | _ => false
noncomputable def KwR (cx : Cx) (h : Heap) (g : Gh) (ks : List (Str × V)) (ks' : List (Str × Value)) : Prop := ks'.map (·.1) = ks.map (·.1) ∧ VRs cx h g (ks.map (·.2)) (ks'.map (·.2))

noncomputable def IterAt (cx : Cx) (h : Heap) (g : Gh) (I : Addr) (src : Src) (j : Nat) : Prop := match src with
  | .list v => ∃ l, VR cx h g v (.ref l) ∧ h.IsListIter I l j
  | .tup vs => ∃ a ws, PlainTup h a ws ∧ g.free a ∧ VRs cx h g vs ws ∧ h.IsTupleIter I a j
  | .rng a b => ∃ k : Nat, IsRangeIter h I (a + (j : Int)) k 1 ∧ (k : Int) = if a + (j : Int) < b then b - (a + (j : Int)) else 0
structure IterOk (cx : Cx) (h : Heap) (g : Gh) (env : Env) (I : Addr) (src : Src) (j : Nat) : Prop where
  at_ : IterAt cx h g I src j
  free : g.free I
  new : cx.h₀.objs.size ≤ I
  env : I ∉ frame env
noncomputable def EnvP (cx : Cx) (env : Env) (X : List Addr) (g : Gh) (s : Shared) (σ' : Sto) (ρ' : Loc) (fl : Fl) (f : Flow) (s' : Shared) : Prop :=
  ∃ h' tk g', s' = { s with heap := h', toks := tk } ∧ s.toks ≤ tk ∧ W cx σ' g' h' tk ∧ Ev cx (X ++ wr env) g g' s.heap h' ∧ FrR cx env g' ρ' h' ∧ FlR cx g' h' fl f
noncomputable def ResP (P : Flow → Shared → Prop) (r : Result) (s' : Shared) : Prop := match r with
  | .ok f => P f s'
  | .error _ => False
noncomputable def ClP (cx : Cx) (env : Env) (D I : Addr) (g : Gh) (s : Shared) (σ' : Sto) (ρ' : Loc) (acc : List V) (f : Flow) (s' : Shared) : Prop :=
  ∃ h' tk g' ws, s' = { s with heap := h', toks := tk } ∧ s.toks ≤ tk ∧ W cx σ' g' h' tk ∧ Ev cx (D :: I :: wr env) g g' s.heap h' ∧ FrR cx env g' ρ' h' ∧ h'.PlainList D ws.toArray ∧ VRs cx h' g' acc ws

structure Sound (prog : Program) (w : World) (cx : Cx) (fr : Option (List Env)) (n : Nat) (r : R) : Prop where
  set : ∀ sc σ ρ es k p, r.ev sc σ ρ (.Set es k p) = none
  star : ∀ sc σ ρ e p, r.ev sc σ ρ (.Starred e p) = none
  scomp : ∀ sc σ ρ elt gens scope p, r.ev sc σ ρ (.SetComp elt gens scope p) = none
  dcomp : ∀ sc σ ρ k v gens scope p, r.ev sc σ ρ (.DictComp k v gens scope p) = none
  use : ∀ {sc σ ρ elt gens scope pos v σ'}, r.ev sc σ ρ (.ListComp elt gens scope pos) = some (v, σ') → ∀ {env g s A y py ρ'}, ScE env sc → FrR cx env g ρ s.heap → W cx σ g s.heap s.toks → Room fr n A → asgV sc ρ (.Name y py) v = some ρ' →
    wpAny (model prog w) A (evalThenUse (.ListComp elt gens scope pos) env (assign (.Name y py) env)) (fun _ s' => StP cx env g s σ' ρ' s') Z s
  clb : ∀ {σ f vs ks x}, r.call σ f vs ks = some x → isClb f = true
  ev : ∀ {sc σ ρ e v σ'}, r.ev sc σ ρ e = some (v, σ') → ∀ {env g s A}, ScE env sc → FrR cx env g ρ s.heap → W cx σ g s.heap s.toks → Room fr n A →
    wpAny (model prog w) A (eval e env) (EvP cx g s σ' v) Z s
  tst : ∀ {sc σ ρ e t σ'}, r.tst sc σ ρ e = some (t, σ') → ∀ {env g s A}, ScE env sc → FrR cx env g ρ s.heap → W cx σ g s.heap s.toks → Room fr n A →
    wpAny (model prog w) A (isTrue e env (eval e env)) (TsP cx g s σ' t) Z s
  ex : ∀ {sc σ ρ st fl σ' ρ'}, r.ex sc σ ρ st = some (fl, σ', ρ') → ∀ {env g s A}, ScE env sc → FrR cx env g ρ s.heap → W cx σ g s.heap s.toks → Room fr n A →
    wpAny (model prog w) A (exec st env) (ExP cx env g s σ' ρ' fl) Z s
  call : ∀ {σ f vs ks v σ'}, r.call σ f vs ks = some (v, σ') → ∀ {g s A wf ws ks'}, VR cx s.heap g f wf → VRs cx s.heap g vs ws → KwR cx s.heap g ks ks' → W cx σ g s.heap s.toks → Room fr n A →
    wpAny (model prog w) A (call wf ws ks') (EvP cx g s σ' v) Z s
  wl : ∀ {sc σ ρ t b fl σ' ρ'}, r.wl sc σ ρ t b = some (fl, σ', ρ') → ∀ {env g s A}, ScE env sc → FrR cx env g ρ s.heap → W cx σ g s.heap s.toks → Room fr n A →
    codeAny (model prog w) A (.whileLoop t b [] env) (ResP (ExP cx env g s σ' ρ' fl)) s
  fl : ∀ {sc σ ρ t src j b fl σ' ρ'}, r.fl sc σ ρ t src j b = some (fl, σ', ρ') → ∀ {env g s A I}, ScE env sc → FrR cx env g ρ s.heap → W cx σ g s.heap s.toks → Room fr n A → IterOk cx s.heap g env I src j →
    codeAny (model prog w) A (.forLoop t (.ref I) b [] env) (ResP (EnvP cx env [I] g s σ' ρ' fl)) s
  cl : ∀ {sc σ ρ elt rest src j acc acc' σ' ρ'}, r.cl sc σ ρ elt rest src j acc = some (acc', σ', ρ') → ∀ {env g s A I D ws gens scope pos depth}, ScE env sc → gens.drop depth = rest → FrR cx env g ρ s.heap → W cx σ g s.heap s.toks → Room fr n A →
    IterOk cx s.heap g env I src j → I ≠ D → D ∈ g.hid → D ∉ g.am → cx.h₀.objs.size ≤ D → D ∉ frame env → s.heap.PlainList D ws.toArray → VRs cx s.heap g acc ws →
    codeAny (model prog w) A (.compLoop (.ListComp elt gens scope pos) depth (.ref I) (.ref D) env) (ResP (ClP cx env D I g s σ' ρ' acc')) s

section
variable {s : Shared} {cx : Cx} {σ σ' : Sto} {v : V} {g : Gh}
structure Next (cx : Cx) (g : Gh) (s : Shared) (g₁ : Gh) (s₁ : Shared) : Prop where
  same : ∃ h' tk, s₁ = { s with heap := h', toks := tk }
  tok : s.toks ≤ s₁.toks
  evo : Ev cx [] g g₁ s.heap s₁.heap
theorem Next.refl : Next cx g s g s := ⟨⟨s.heap, s.toks, rfl⟩, Nat.le_refl _, .refl⟩
theorem Next.ev {g₁ : Gh} {s₁ s₂ : Shared} {w' : Value} (x : Next cx g s g₁ s₁) (y : EvP cx g₁ s₁ σ' v w' s₂) : EvP cx g s σ' v w' s₂ := by
  obtain ⟨⟨h1, t1, rfl⟩, l1, e1⟩ := x
  exact EvP.after l1 e1 y
theorem Next.ts {g₁ : Gh} {s₁ s₂ : Shared} {t b : Bool} (x : Next cx g s g₁ s₁) (y : TsP cx g₁ s₁ σ' t b s₂) : TsP cx g s σ' t b s₂ := by
  obtain ⟨⟨h1, t1, rfl⟩, l1, e1⟩ := x
  obtain ⟨hb', h2, t2, g2, rfl, l2, w2, e2⟩ := y
  exact ⟨hb', h2, t2, g2, rfl, Nat.le_trans l1 l2, w2, e1.trans e2⟩
theorem Next.evs {g₁ : Gh} {s₁ s₂ : Shared} {vs : List V} {ws : List Value} (x : Next cx g s g₁ s₁) (y : EvsP cx g₁ s₁ σ' vs ws s₂) : EvsP cx g s σ' vs ws s₂ := by
  obtain ⟨⟨h1, t1, rfl⟩, l1, e1⟩ := x
  obtain ⟨h2, t2, g2, rfl, l2, w2, e2, v2⟩ := y
  exact ⟨h2, t2, g2, rfl, Nat.le_trans l1 l2, w2, e1.trans e2, v2⟩
theorem Next.trans {g₁ g₂ : Gh} {s₁ s₂ : Shared} (x : Next cx g s g₁ s₁) (y : Next cx g₁ s₁ g₂ s₂) : Next cx g s g₂ s₂ := by
  obtain ⟨⟨h1, t1, rfl⟩, l1, e1⟩ := x
  obtain ⟨⟨h2, t2, rfl⟩, l2, e2⟩ := y
  exact ⟨⟨h2, t2, rfl⟩, Nat.le_trans l1 l2, e1.trans e2⟩
theorem EvP.elim {w' : Value} {s₁ : Shared} (x : EvP cx g s σ' v w' s₁) : ∃ g₁, W cx σ' g₁ s₁.heap s₁.toks ∧ VR cx s₁.heap g₁ v w' ∧ Next cx g s g₁ s₁ := by
  obtain ⟨h1, t1, g1, rfl, l1, w1, e1, v1⟩ := x
  exact ⟨g1, w1, v1, ⟨⟨h1, t1, rfl⟩, l1, e1⟩⟩
theorem TsP.elim {t b : Bool} {s₁ : Shared} (x : TsP cx g s σ' t b s₁) : b = t ∧ ∃ g₁, W cx σ' g₁ s₁.heap s₁.toks ∧ Next cx g s g₁ s₁ := by
  obtain ⟨hb, h1, t1, g1, rfl, l1, w1, e1⟩ := x
  exact ⟨hb, g1, w1, ⟨⟨h1, t1, rfl⟩, l1, e1⟩⟩
theorem EvsP.elim {vs : List V} {ws : List Value} {s₁ : Shared} (x : EvsP cx g s σ' vs ws s₁) : ∃ g₁, W cx σ' g₁ s₁.heap s₁.toks ∧ VRs cx s₁.heap g₁ vs ws ∧ Next cx g s g₁ s₁ := by
  obtain ⟨h1, t1, g1, rfl, l1, w1, e1, v1⟩ := x
  exact ⟨g1, w1, v1, ⟨⟨h1, t1, rfl⟩, l1, e1⟩⟩
theorem Ev.unborn {g g' : Gh} {h h' : Heap} (E : Ev cx [] g g' h h') {C : Addr} (n : h'.get? C = none) : h.get? C = none := by
  cases q : h.get? C with
  | none => rfl
  | some o => exact (E.there C o q List.not_mem_nil).elim fun o' q' => nsE (n.symm.trans q')
theorem EvP.k {w' : Value} {s₁ : Shared} {P : Prop} (x : EvP cx g s σ' v w' s₁) (k : ∀ g₁, W cx σ' g₁ s₁.heap s₁.toks → VR cx s₁.heap g₁ v w' → Next cx g s g₁ s₁ → P) : P := x.elim.elim fun g y => k g y.1 y.2.1 y.2.2
theorem EvsP.k {vs : List V} {w' : List Value} {s₁ : Shared} {P : Prop} (x : EvsP cx g s σ' vs w' s₁) (k : ∀ g₁, W cx σ' g₁ s₁.heap s₁.toks → VRs cx s₁.heap g₁ vs w' → Next cx g s g₁ s₁ → P) : P := x.elim.elim fun g y => k g y.1 y.2.1 y.2.2
theorem TsP.k {t b : Bool} {s₁ : Shared} {P : Prop} (x : TsP cx g s σ' t b s₁) (k : ∀ g₁, W cx σ' g₁ s₁.heap s₁.toks → Next cx g s g₁ s₁ → P) : P := x.elim.2.elim fun g y => k g y.1 y.2
theorem EvP.mk {g₁ : Gh} {w' : Value} {s₁ : Shared} (W1 : W cx σ' g₁ s₁.heap s₁.toks) (N : Next cx g s g₁ s₁) (V1 : VR cx s₁.heap g₁ v w') : EvP cx g s σ' v w' s₁ := N.same.elim fun h y => y.elim fun t q => by
  subst q; exact ⟨h, t, g₁, rfl, N.tok, W1, N.evo, V1⟩
theorem EvsP.mk {g₁ : Gh} {vs : List V} {w' : List Value} {s₁ : Shared} (W1 : W cx σ' g₁ s₁.heap s₁.toks) (N : Next cx g s g₁ s₁) (V1 : VRs cx s₁.heap g₁ vs w') : EvsP cx g s σ' vs w' s₁ := N.same.elim fun h y => y.elim fun t q => by
  subst q; exact ⟨h, t, g₁, rfl, N.tok, W1, N.evo, V1⟩
end

section
variable {prog : Program} {w : World} {A : Around} {s : Shared} {cx : Cx} {n : Nat} {r : R} {F : Facts} {sc : Scope} {σ σ' : Sto} {ρ : Loc} {v : V} {env : Env} {g : Gh}

theorem evBin_ok (H : Sound prog w cx fr n r) (G : CxG cx) (hF : FactsOk F cx) {a b : Expr} {op : Operator} {pos : Pos} (e : evBin F r sc σ ρ a op b = some (v, σ')) (hs : ScE env sc)
    (hf : FrR cx env g ρ s.heap) (hw : W cx σ g s.heap s.toks) (hA : Room fr n A) : wpAny (model prog w) A (eval (.BinOp a op b pos) env) (EvP cx g s σ' v) Z s := by
  exact bindE e fun q q1 e => bindE e fun p q2 e => bindE e fun v3 q3 e => p2a e ▸ p2b e ▸ (wpAny_BinOp (wpZ (H.ev q1 hs hf hw hA) fun w1 s1 x1 => x1.k fun g1 W1 V1 N1 => wpZ (H.ev q2 hs (hf.mono G.ok N1.evo) W1 hA) fun w2 s2 x2 => x2.k fun g2 W2 V2 N2 =>
    wpZ (binV_ok hF (V1.mono N2.evo) V2 q3 W2) fun w3 s3 x3 => N1.ev (N2.ev x3)))
end
end Mine
end
section
set_option maxRecDepth 100000
set_option maxHeartbeats 2000000
set_option linter.unusedVariables false
namespace Mine
open PySem PySem.Calls PyProof.Rows PySem.W PySem.SeqAt

theorem strOf_noSym (cx : Cx) : ∀ l : List Nat, noSym l = true → l.map cx.sign = l
  | [], _ => rfl
  | a :: l, h => by
    unfold noSym at h
    split at h
    · cases h
    · rename_i q
      have : a ≠ SYM := Nat.ne_of_beq_eq_false q
      rw [List.map_cons, strOf_noSym cx l h]
      simp only [Cx.sign, if_neg this]

theorem W.fresh₀ {cx : Cx} (C : CxOk cx) {σ : Sto} {g : Gh} {h : Heap} {tk : Nat} (w : W cx σ g h tk) : cx.h₀.objs.size ≤ h.objs.size := by
  obtain ⟨hp, o, ho⟩ := C.last
  obtain ⟨o', e'⟩ := w.old.there _ o ho
  have this : (cx.h₀.objs.size - 1 : Nat) < h.objs.size := Heap.lt_size e'
  have h1 : 0 < cx.h₀.objs.size := hp
  omega

noncomputable def Gh.lst (g : Gh) (a : Addr) : Gh := ⟨g.am ++ [a], g.hid, g.φ, g.n⟩
theorem Ev.lst {cx : Cx} {X : List Addr} {g : Gh} {h : Heap} (o : Obj) : Ev cx X g (g.lst h.objs.size) h (h.push o) :=
  ⟨⟨[h.objs.size], rfl⟩, rfl, Nat.le_refl _, fun _ _ => rfl, fun _ o e _ _ _ => ⟨o, Heap.get?_push_of_some _ e, .refl o⟩, fun _ _ e _ _ => Heap.get?_push_of_some _ e, fun _ o e _ => ⟨o, Heap.get?_push_of_some _ e⟩, fun a hm hn => by
    rcases List.mem_append.mp hm with hm | hm
    · exact absurd hm hn
    · rw [List.mem_singleton.mp hm]; exact get_size h⟩
theorem EvP.newLst {cx : Cx} (C : CxOk cx) {g : Gh} {s : Shared} {σ : Sto} (hw : W cx σ g s.heap s.toks) :
    EvP cx g s (σ ++ [[]]) (.lst σ.length) (.ref s.heap.objs.size) { s with heap := s.heap.push { cls := .type "list", data := .seq #[] } } := by
  have hnew := hw.new (get_size s.heap)
  have k : ∀ b o, s.heap.get? b = some o → (s.heap.push { cls := .type "list", data := .seq #[] }).get? b = some o := fun _ _ e => Heap.get?_push_of_some _ e
  have hk := hw.keeps k (Nat.le_refl _)
  have hE := Ev.lst (cx := cx) (X := []) (g := g) (h := s.heap) { cls := .type "list", data := .seq #[] }
  refine ⟨_, s.toks, g.lst s.heap.objs.size, rfl, Nat.le_refl _, ?_, hE, .lst ?_⟩
  · refine ⟨hw.tok, hk.frs, hk.old, hk.booked, hk.nolim, hk.tabs, ?_, ?_, hk.hidden, hw.gn, hw.base, hw.based, ?_, ?_⟩
    · simp [Gh.lst, hw.len]
    · refine List.nodup_append.mpr ⟨hw.nodup, by simp, fun a ha b hb => ?_⟩
      rw [List.mem_singleton.mp hb]
      intro e; subst e; exact hnew.1 ha
    · intro a hm
      rcases List.mem_append.mp hm with hm | hm
      · exact hw.fresh a hm
      · rw [List.mem_singleton.mp hm]; exact hw.fresh₀ C
    · intro i vs e
      rcases Nat.lt_trichotomy i σ.length with hi | hi | hi
      · rw [List.getElem?_append_left hi] at e
        obtain ⟨a, ws, e1, e2, e3⟩ := hw.lists i vs e
        refine ⟨a, ws, ?_, e2.at fun o q => k _ _ q, e3.mono hE⟩
        show (g.am ++ _)[i]? = _
        rw [List.getElem?_append_left (hw.len ▸ hi)]; exact e1
      · subst hi
        simp at e
        subst e
        refine ⟨s.heap.objs.size, [], ?_, ⟨0, Heap.get?_push_size _ rfl⟩, .nil⟩
        show (g.am ++ _)[_]? = _
        rw [List.getElem?_append_right (by rw [hw.len]; exact Nat.le_refl _), hw.len, Nat.sub_self]; rfl
      · rw [List.getElem?_eq_none (by simp; omega)] at e; cases e
  · show (g.am ++ _)[_]? = _
    rw [List.getElem?_append_right (by rw [hw.len]; exact Nat.le_refl _), hw.len, Nat.sub_self]; rfl

section
variable {prog : Program} {w : World} {A : Around} {s : Shared} {cx : Cx} {n : Nat} {r : R} {F : Facts} {sc : Scope} {σ σ' : Sto} {ρ : Loc} {v : V} {env : Env} {g : Gh}

theorem evUn_ok (H : Sound prog w cx fr n r) {a : Expr} {op : UnaryOp} {pos : Pos} (e : evUn r sc σ ρ op a = some (v, σ')) (hs : ScE env sc)
    (hf : FrR cx env g ρ s.heap) (hw : W cx σ g s.heap s.toks) (hA : Room fr n A) : wpAny (model prog w) A (eval (.UnaryOp op a pos) env) (EvP cx g s σ' v) Z s := by
  exact bindE e fun q q1 e => bindE e fun v2 q2 e => p2a e ▸ p2b e ▸ (wpAny_UnaryOp (wpZ (H.ev q1 hs hf hw hA) fun w1 s1 x1 => x1.k fun g1 W1 V1 N1 => wpZ (unV_ok V1 q2 W1) fun w2 s2 x2 => N1.ev x2))

theorem TsP.here {σ : Sto} {t : Bool} (hw : W cx σ g s.heap s.toks) : TsP cx g s σ t t s := ⟨rfl, s.heap, s.toks, g, rfl, Nat.le_refl _, hw, .refl⟩

theorem truV_ok {x : V} {a : Value} {t : Bool} (hx : VR cx s.heap g x a) (e : truV x = some t) (hw : W cx σ g s.heap s.toks) : wpAny (model prog w) A (truthy a) (TsP cx g s σ t) Z s := by
  cases x with
  | bool b => obtain rfl := hx.inv; (delta truV at e; try dsimp only at e); cases e; exact wpAny_truthy_bool (TsP.here hw)
  | int i =>
    obtain ⟨t, rfl⟩ := hx.inv
    (delta truV at e; try dsimp only at e); cases e
    refine PySem.P.truthy_int ?_
    have : (i != 0) = !decide (i = 0) := by by_cases h : i = 0 <;> simp [h]
    rw [this]; exact TsP.here hw
  | _ => first | exact nsE e | simp [truV] at e

theorem evIf_ok (H : Sound prog w cx fr n r) (G : CxG cx) {t b o : Expr} {pos : Pos} (e : evIf r sc σ ρ t b o = some (v, σ')) (hs : ScE env sc)
    (hf : FrR cx env g ρ s.heap) (hw : W cx σ g s.heap s.toks) (hA : Room fr n A) : wpAny (model prog w) A (eval (.IfExp t b o pos) env) (EvP cx g s σ' v) Z s := by
  exact bindE e fun q q1 e => wpAny_IfExp (wpZ (H.tst q1 hs hf hw hA) fun w1 s1 x1 => x1.1 ▸ x1.k fun g1 W1 N1 => by
    split at e
    · rename_i q; rw [q]; exact wpZ (H.ev e hs (hf.mono G.ok N1.evo) W1 hA) fun w2 s2 x2 => N1.ev x2
    · rename_i q; rw [q]; exact wpZ (H.ev e hs (hf.mono G.ok N1.evo) W1 hA) fun w2 s2 x2 => N1.ev x2)

theorem notSet (H : Sound prog w cx fr n r) {c : Expr} {x : V × Sto} {op : CmpOp} (e : r.ev sc σ ρ c = some x) : behindInMarks op c = false := by
  unfold behindInMarks
  split
  · rw [H.set] at e; cases e
  · rfl
end
end Mine
end
section
set_option maxRecDepth 100000
set_option maxHeartbeats 2000000
set_option linter.unusedVariables false
namespace Mine
open PySem PySem.Calls PyProof.Rows PySem.W PySem.SeqAt

section
variable {prog : Program} {w : World} {A : Around} {s : Shared} {cx : Cx} {n : Nat} {r : R} {F : Facts} {sc : Scope} {σ σ' : Sto} {ρ : Loc} {v : V} {env : Env} {g : Gh}

theorem EvsP.nil (hw : W cx σ g s.heap s.toks) : EvsP cx g s σ [] [] s := ⟨s.heap, s.toks, g, rfl, Nat.le_refl _, hw, .refl, .nil⟩
theorem starEach_cons (H : Sound prog w cx fr n r) {e : Expr} {es : List Expr} {x : V × Sto} (q : r.ev sc σ ρ e = some x) : starEach (e :: es) env = (false, eval e env) :: starEach es env := by
  cases e <;> first | rfl | (rw [H.star] at q; cases q)

theorem evs_ok (H : Sound prog w cx fr n r) (C : CxOk cx) {pos : Pos} {es : List Expr} {σ σ' : Sto} {vs : List V} {g : Gh} {s : Shared} (e : evs r sc σ ρ es = some (vs, σ')) (hs : ScE env sc) (hf : FrR cx env g ρ s.heap) (hw : W cx σ g s.heap s.toks) (hA : Room fr n A) :
    wpAny (model prog w) A (spliced (backTo pos (starEach es env))) (EvsP cx g s σ' vs) Z s := by
  induction es generalizing σ σ' vs g s with
  | nil => exact p2a e ▸ p2b e ▸ (spliced_nil (EvsP.nil hw))
  | cons x es ih =>
    exact bindE e fun q q1 e => bindE e fun p q2 e => p2a e ▸ p2b e ▸ (starEach_cons H q1 ▸ spliced_cons (wpZ (H.ev q1 hs hf hw hA) fun w1 s1 x1 => x1.k fun g1 W1 V1 N1 => wpZ (ih q2 (hf.mono C N1.evo) W1) fun ws s2 x2 => x2.k fun g2 W2 V2 N2 => .mk W2 (N1.trans N2) (.cons (V1.mono N2.evo) V2)))

theorem few_ok {vs : List V} {ws : List Value} {h : Heap} (x : VRs cx h g vs ws) (e : fewV vs = true) : ws.length ≤ sizeLine := by
  have := Nat.le_of_ble_eq_true e
  rw [← x.length, sizeLine_eq]; omega
theorem evTup_ok (H : Sound prog w cx fr n r) (G : CxG cx) {es : List Expr} {k : Nat} {pos : Pos} (e : evTup r sc σ ρ es = some (v, σ')) (hs : ScE env sc)
    (hf : FrR cx env g ρ s.heap) (hw : W cx σ g s.heap s.toks) (hA : Room fr n A) : wpAny (model prog w) A (eval (.Tuple es k pos) env) (EvP cx g s σ' v) Z s :=
  bindE e fun q q1 e => whE e fun q2 e => p2a e ▸ p2b e ▸ (wpAny_Tuple_spliced (wpZ (evs_ok H G.ok q1 hs hf hw hA) fun ws s1 x1 => x1.k fun g1 W1 V1 N1 => ⟨few_ok V1 q2, N1.ev (EvP.push W1 (Nat.le_refl _) (.newTup W1 V1))⟩))
theorem evList_ok (H : Sound prog w cx fr n r) (G : CxG cx) {es : List Expr} {pos : Pos} (e : evList r sc σ ρ es = some (v, σ')) (hs : ScE env sc)
    (hf : FrR cx env g ρ s.heap) (hw : W cx σ g s.heap s.toks) (hA : Room fr n A) : wpAny (model prog w) A (eval (.List es pos) env) (EvP cx g s σ' v) Z s :=
  bindE e fun q q1 e => whE e fun q2 e => wpAny_List_spliced (wpZ (evs_ok H G.ok q1 hs hf hw hA) fun ws s1 x1 => x1.k fun g1 W1 V1 N1 => ⟨few_ok V1 q2, N1.ev (by
    obtain ⟨vs, σ1⟩ := q
    cases vs with
    | nil => cases V1; exact p2a e ▸ p2b e ▸ (EvP.newLst G.ok W1)
    | cons a r => exact p2a e ▸ p2b e ▸ (EvP.push W1 (Nat.le_refl _) (.newPl W1 V1)))⟩)

theorem evConst_ok {c : Const} {k : Nat} {pos : Pos} (e : evConst σ c = some (v, σ')) (hw : W cx σ g s.heap s.toks) :
    wpAny (model prog w) A (eval (.Constant c k pos) env) (EvP cx g s σ' v) Z s := by
  cases c with
  | none => cases e; exact wpAny_Constant_none (EvP.here hw .none)
  | bool b => cases e; exact wpAny_Constant_bool (EvP.here hw (.bool b))
  | int i => cases e; exact wpAny_Constant_int (EvP.scalar hw (.int i _))
  | float x => cases e; exact AutoFloatOps.wpAny_Constant_float (EvP.flt hw)
  | str x =>
    exact whE e fun q e => p2a e ▸ p2b e ▸ (wpAny_Constant_str (EvP.scalar hw (by
      have : cx.strOf x.cps.toList = x := by
        show Str.mk _ = _
        rw [strOf_noSym cx _ q]
      have h := VR.str (cx := cx) (h := s.heap) (g := g) x.cps.toList s.toks
      rw [this] at h; exact h)))
  | _ => cases e

theorem glob_ok (G : CxG cx) {x : Str} {Q : Value → Shared → Prop} {E : Value → Shared → Prop} (e : lk x globTab = some v) (hg : env.globals = mainGlobals) (hb : env.builtins = builtinsNs) (hw : W cx σ g s.heap s.toks)
    (hq : ∀ w', VR cx s.heap g v w' → Q w' s) : wpAny (model prog w) A (loadGlobal env x) Q E s := by
  obtain ⟨mg, mb, og, ob, n1, n2, e1, c1, e2, c2, _, hx, _⟩ := G.ns
  have k1 := hw.old.get_of_cls e1 c1
  have k2 := hw.old.get_of_cls e2 c2
  have m1 : s.heap.Ns env.globals mg := by rw [hg]; exact n1.at' fun o q => by rw [e1] at q; cases q; exact k1
  have m2 : s.heap.Ns env.builtins mb := by rw [hb]; exact n2.at' fun o q => by rw [e2] at q; cases q; exact k2
  obtain ⟨w', hm, hst⟩ := hx x v e
  have hv := hq w' (hst s.heap g hw.base hw.based)
  rcases hm with hm | ⟨hm, hm2⟩
  · exact loadGlobal_global m1 hm hv
  · exact loadGlobal_builtin m1 hm m2 hm2 hv

theorem raw_ok (G : CxG cx) {x : Str} {w' : Value} {Q : Value → Shared → Prop} {E : Value → Shared → Prop} (e : (x, w') ∈ rawTab) (hg : env.globals = mainGlobals) (hb : env.builtins = builtinsNs) (hw : W cx σ g s.heap s.toks)
    (hq : Q w' s) : wpAny (model prog w) A (loadGlobal env x) Q E s := by
  obtain ⟨mg, mb, og, ob, n1, n2, e1, c1, e2, c2, _, _, hx⟩ := G.ns
  have k1 := hw.old.get_of_cls e1 c1
  have k2 := hw.old.get_of_cls e2 c2
  have m1 : s.heap.Ns env.globals mg := by rw [hg]; exact n1.at' fun o q => by rw [e1] at q; cases q; exact k1
  have m2 : s.heap.Ns env.builtins mb := by rw [hb]; exact n2.at' fun o q => by rw [e2] at q; cases q; exact k2
  obtain ⟨hm, hm2⟩ := hx x w' e
  exact loadGlobal_builtin m1 hm m2 hm2 hq

set_option tactic.hygienic true in
theorem evName_ok (G : CxG cx) {x : Str} {pos : Pos} (e : evName sc σ ρ x = some (v, σ')) (hd : seq x sDebug = false) (hc : seq x sClassd = false) (hs : ScE env sc)
    (hf : FrR cx env g ρ s.heap) (hw : W cx σ g s.heap s.toks) : wpAny (model prog w) A (eval (.Name x pos) env) (EvP cx g s σ' v) Z s := by
  have hd' : (x == ("__debug__" : Str)) = false := by rw [seq_eq] at hd; exact hd
  have hc' : (x == ("__classdict__" : Str)) = false := by rw [seq_eq] at hc; exact hc
  delta evName at e
  split at e
  · rename_i v' q
    cases e
    obtain ⟨m, hn, hm⟩ := hf.ns
    refine wpAny_Name ?_ hd'
    rcases hm x _ q with ⟨k, w', hw', hv⟩ | ⟨k | k, c, w', hc, hcell, hv⟩
    · exact wpAny_loadName_local hf.kind k hn hw' (EvP.here hw hv)
    · exact wpAny_loadName_cell hf.kind k hc hcell (EvP.here hw hv)
    · exact wpAny_loadName_free hf.kind k hc hcell (EvP.here hw hv) hc'
  · exact whE e fun q e => bindE e fun v' q2 e => anyE q fun k q hk => p2a e ▸ p2b e ▸ Name_function_global hf.kind (hs.at (q.trans (congrArg some (isGlo_ok hk))) (fun x => nomatch x)) (glob_ok G q2 hf.glob hf.blt hw fun w' hv => EvP.here hw hv) hd'

theorem evalEach_nil' : evalEach [] env = [] := rfl
set_option tactic.hygienic true in
theorem boolEv_ok (H : Sound prog w cx fr n r) (G : CxG cx) {op : BoolOp} {pos : Pos} : ∀ {es : List Expr} {σ σ' : Sto} {v : V} {g : Gh} {s : Shared}, boolEv r sc op σ ρ es = some (v, σ') → ScE env sc → FrR cx env g ρ s.heap → W cx σ g s.heap s.toks → Room fr n A →
    wpAny (model prog w) A (boolOp pos op (evalEach es env)) (EvP cx g s σ' v) Z s
  | [], σ, σ', v, g, s, e, hs, hf, hw, hA => by unfold boolEv at e; cases e
  | [x], σ, σ', v, g, s, e, hs, hf, hw, hA => by unfold boolEv at e; exact H.ev e hs hf hw hA
  | x :: y :: es, σ, σ', v, g, s, e, hs, hf, hw, hA => by
    rw [boolEv] at e
    · split at e
      · rename_i v1 σ1 q1
        split at e
        · rename_i t q2
          show wpAny (model prog w) A (do
            let v ← eval x env
            standAt pos
            let t ← holding [v] (truthy v)
            match op, t with
            | .And, false | .Or, true => pure v
            | _, _ => boolOp pos op (evalEach (y :: es) env)) _ _ s
          refine wpAny_bind (wpZ (H.ev q1 hs hf hw hA) fun w1 s1 x1 => x1.k fun g1 W1 V1 N1 => wpAny_bind (wpAny_standAt (wpAny_bind (wpAny_holding (wpZ (truV_ok V1 q2 W1) fun b s2 x2 => ?_)))))
          have hb := x2.1
          subst hb
          refine x2.k fun g2 W2 N2 => ?_
          split at e
          · cases e; exact wpAny_pure (N1.ev (N2.ev (EvP.here W2 (V1.mono N2.evo))))
          · cases e; exact wpAny_pure (N1.ev (N2.ev (EvP.here W2 (V1.mono N2.evo))))
          · rename_i h1 h2
            have hgo := wpZ (E := Z) (boolEv_ok H G (pos := pos) e hs ((hf.mono G.ok N1.evo).mono G.ok N2.evo) W2 hA) fun w3 s3 x3 => N1.ev (N2.ev x3)
            cases op <;> cases b <;> first | exact hgo | exact absurd rfl (h1 rfl) | exact absurd rfl (h2 rfl)
        · cases e
      · cases e
    · intro h; cases h

set_option tactic.hygienic true in
theorem boolTst_ok (H : Sound prog w cx fr n r) (G : CxG cx) {op : BoolOp} : ∀ {es : List Expr} {σ σ' : Sto} {t : Bool} {g : Gh} {s : Shared}, boolTst r sc op σ ρ es = some (t, σ') → ScE env sc → FrR cx env g ρ s.heap → W cx σ g s.heap s.toks → Room fr n A →
    wpAny (model prog w) A (allTrue op es env) (TsP cx g s σ' t) Z s
  | [], σ, σ', t, g, s, e, hs, hf, hw, hA => by
    unfold boolTst at e
    cases op <;> cases e
    · exact wpAny_allTrue_And_nil (TsP.here hw)
    · exact wpAny_allTrue_Or_nil (TsP.here hw)
  | x :: es, σ, σ', t, g, s, e, hs, hf, hw, hA => by
    unfold boolTst at e
    split at e
    · rename_i t1 σ1 q1
      cases op with
      | And =>
        refine wpAny_allTrue_And_cons (wpZ (H.tst q1 hs hf hw hA) fun b s1 x1 => ?_)
        obtain ⟨rfl, g1, W1, N1⟩ := x1.elim
        cases b with
        | false => cases e; exact N1.ts (TsP.here W1)
        | true => exact wpZ (boolTst_ok H G e hs (hf.mono G.ok N1.evo) W1 hA) fun w3 s3 x3 => N1.ts x3
      | Or =>
        refine wpAny_allTrue_Or_cons (wpZ (H.tst q1 hs hf hw hA) fun b s1 x1 => ?_)
        obtain ⟨rfl, g1, W1, N1⟩ := x1.elim
        cases b with
        | true => cases e; exact N1.ts (TsP.here W1)
        | false => exact wpZ (boolTst_ok H G e hs (hf.mono G.ok N1.evo) W1 hA) fun w3 s3 x3 => N1.ts x3
    · cases e
theorem isNot_ok {op : UnaryOp} (e : isNot op = true) : op = .Not := by cases op <;> first | exact ftE e | rfl
theorem tstNot_ok (H : Sound prog w cx fr n r) {op : UnaryOp} {x : Expr} {pos : Pos} {t : Bool} {whole : Sem Value} (e : tstNot r sc σ ρ op x = some (t, σ')) (hs : ScE env sc)
    (hf : FrR cx env g ρ s.heap) (hw : W cx σ g s.heap s.toks) (hA : Room fr n A) : wpAny (model prog w) A (isTrue (.UnaryOp op x pos) env whole) (TsP cx g s σ' t) Z s :=
  whE e fun q e => bindE e fun p q1 e => isNot_ok q ▸ p2a e ▸ p2b e ▸ (wpAny_isTrue_Not (wpZ (H.tst q1 hs hf hw hA) fun b s1 x1 => ⟨by rw [x1.1], x1.2⟩))
theorem tstV_ok {x : Option (V × Sto)} {t : Bool} {e0 : Expr} {whole : Sem Value} (e : tstV x = some (t, σ')) (he : isTrue e0 env whole = (do let v ← whole; standAt e0.pos; holding [v] (truthy v)))
    (k : ∀ v σ₁, x = some (v, σ₁) → wpAny (model prog w) A whole (EvP cx g s σ₁ v) Z s) : wpAny (model prog w) A (isTrue e0 env whole) (TsP cx g s σ' t) Z s :=
  bindE e fun p q1 e => bindE e fun t' q e => p2a e ▸ p2b e ▸ (wpAny_isTrue_value (wpZ (k _ _ q1) fun w1 s1 x1 => x1.k fun g1 W1 V1 N1 => wpZ (truV_ok V1 q W1) fun b s2 x2 => N1.ts x2) he)
theorem cmpW_ok (H : Sound prog w cx fr n r) (G : CxG cx) {l c : Expr} {op : CmpOp} {va vb : V} {σ1 σ2 : Sto} {k : Bool} (q1 : r.ev sc σ ρ l = some (va, σ1)) (q2 : r.ev sc σ1 ρ c = some (vb, σ2)) (q3 : cmpV op σ2 va vb = some k) (hs : ScE env sc)
    (hf : FrR cx env g ρ s.heap) (hw : W cx σ g s.heap s.toks) (hA : Room fr n A) (hu : A.units + 8 < cLine) {Q : Value → Shared → Prop} (hQ : ∀ g2 s2, W cx σ2 g2 s2.heap s2.toks → Next cx g s g2 s2 → Q (.bool k) s2) :
    wpAny (model prog w) A (eval l env) (fun x s1 => wpAny (model prog w) A (eval c env) (fun y s2 => wpAny (model prog w) A (compareOp op x y) Q Z s2) Z s1) Z s :=
  wpZ (H.ev q1 hs hf hw hA) fun w1 s1 x1 => x1.k fun g1 W1 V1 N1 => wpZ (H.ev q2 hs (hf.mono G.ok N1.evo) W1 hA) fun w2 s2 x2 => x2.k fun g2 W2 V2 N2 =>
    cmpV_ok G.sg W2 hu (V1.mono N2.evo) V2 q3 (hQ g2 s2 W2 (N1.trans N2))
theorem evCmp_ok (H : Sound prog w cx fr n r) (G : CxG cx) {l : Expr} {ops : List CmpOp} {cs : List Expr} {pos : Pos} (e : evCmp r sc σ ρ l ops cs = some (v, σ')) (hs : ScE env sc)
    (hf : FrR cx env g ρ s.heap) (hw : W cx σ g s.heap s.toks) (hA : Room fr n A) (hu : A.units + 8 < cLine) : wpAny (model prog w) A (eval (.Compare l ops cs pos) env) (EvP cx g s σ' v) Z s :=
  bindE e fun op h1 e => bindE e fun c h2 e => bindE e fun q q1 e => bindE e fun p q2 e => bindE e fun k q3 e => l1_ok h1 ▸ l1_ok h2 ▸ p2a e ▸ p2b e ▸
    wpAny_Compare1 (cmpW_ok H G q1 q2 q3 hs hf hw hA hu fun g2 s2 W2 N => N.ev (EvP.here W2 (.bool _))) (notSet H q2)
theorem tsCmp_ok (H : Sound prog w cx fr n r) (G : CxG cx) {l : Expr} {ops : List CmpOp} {cs : List Expr} {pos : Pos} {k : Bool} {whole : Sem Value} (e : tstV (evCmp r sc σ ρ l ops cs) = some (k, σ')) (hs : ScE env sc)
    (hf : FrR cx env g ρ s.heap) (hw : W cx σ g s.heap s.toks) (hA : Room fr n A) (hu : A.units + 8 < cLine) : wpAny (model prog w) A (isTrue (.Compare l ops cs pos) env whole) (TsP cx g s σ' k) Z s :=
  bindE e fun x q0 e => bindE q0 fun op h1 q0 => bindE q0 fun c h2 q0 => bindE q0 fun q q1 q0 => bindE q0 fun p q2 q0 => bindE q0 fun k0 q3 q0 => l1_ok h1 ▸ l1_ok h2 ▸ by
    cases Option.some.inj q0
    cases Option.some.inj e
    exact wpAny_isTrue_Compare1 (cmpW_ok H G q1 q2 q3 hs hf hw hA hu fun g2 s2 W2 N => wpAny_truthy_bool (N.ts (TsP.here W2))) (notSet H q2)
end
end Mine
end
section
set_option maxRecDepth 100000
set_option maxHeartbeats 2000000
set_option linter.unusedVariables false
namespace Mine
open PySem PySem.Calls PyProof.Rows PySem.W PySem.SeqAt

noncomputable def FnIn (cx : Cx) (n : Str) (a : Addr) : Prop := ∃ o fd, cx.h₀.get? a = some o ∧ o.cls ≠ .none ∧ o.data = .func fd

section
variable {prog : Program} {w : World} {A : Around} {s : Shared} {cx : Cx} {n : Nat} {r : R} {F : Facts} {sc : Scope} {σ σ' : Sto} {ρ : Loc} {v : V} {env : Env} {g : Gh}

theorem plain_any (H : Sound prog w cx fr n r) {pos : Pos} {es : List Expr} {σ σ' : Sto} {vs : List V} (e : evs r sc σ ρ es = some (vs, σ')) : (backTo pos (starEach es env)).any (·.1) = false := by
  induction es generalizing σ σ' vs with
  | nil => rfl
  | cons x es ih =>
    exact bindE e fun q q1 e => bindE e fun p q2 e => by
      rw [starEach_cons H q1]
      show ((false, _) :: backTo pos (starEach es env)).any (·.1) = false
      rw [List.any_cons, ih q2]; rfl
theorem evalArgs_my (H : Sound prog w cx fr n r) {f : Value} {pos : Pos} {es : List Expr} {vs : List V} {kws : List (Option Str × Sem Value)} {Q : Args → Shared → Prop} {E : Value → Shared → Prop}
    (q : evs r sc σ ρ es = some (vs, σ')) (hall : kws.all (·.1.isSome) = true)
    (h : wpAny (model prog w) A (spliced (backTo pos (starEach es env))) (fun vs s₁ => wpAny (model prog w) A (evalAll (kws.map (·.2))) (fun ks s₂ => Q ⟨vs, (kws.filterMap (·.1)).zip ks⟩ s₂) E s₁) E s) :
    wpAny (model prog w) A (evalArgs f true (backTo pos (starEach es env)) kws) Q E s := by
  cases es with
  | nil =>
    refine evalArgs_kw_nil hall ?_
    have h' : wpAny (model prog w) A (pure ([] : List Value)) _ E s := h
    have : wpAny (model prog w) A (evalAll (kws.map (·.2))) (fun ks s₂ => Q ⟨[], (kws.filterMap (·.1)).zip ks⟩ s₂) E s := fun Γ p hΓ => by
      have := h' Γ p hΓ
      rw [Sem.wp_pure'] at this
      exact this Γ p hΓ
    exact this
  | cons x es =>
    exact bindE q fun p q1 _ => by
      rw [starEach_cons H q1] at h ⊢
      exact evalArgs_kw hall h

theorem kwStat {pos : Pos} {es : List Keyword} {σ σ' : Sto} {ks : List (Str × V)} (e : evk r sc σ ρ es = some (ks, σ')) :
    (backToKw pos (keywordEach es env)).filterMap (·.1) = ks.map (·.1) ∧ (backToKw pos (keywordEach es env)).all (·.1.isSome) = true ∧ (backToKw pos (keywordEach es env)).any (·.1.isNone) = false := by
  induction es generalizing σ σ' ks with
  | nil => exact p2a e ▸ ⟨rfl, rfl, rfl⟩
  | cons k es ih =>
    obtain ⟨nm, x, q⟩ := k
    cases nm with
    | none => exact nsE e
    | some nm => exact bindE e fun m qm e => bindE e fun q q1 e => bindE e fun p q2 e => p2a e ▸ (Option.some.inj qm ▸
        have y := ih q2
        ⟨congrArg (nm :: ·) y.1, y.2.1, y.2.2⟩)
theorem evk_ok (H : Sound prog w cx fr n r) (C : CxOk cx) {pos : Pos} {kws : List Keyword} {σ σ' : Sto} {ks : List (Str × V)} {g : Gh} {s : Shared} (e : evk r sc σ ρ kws = some (ks, σ')) (hs : ScE env sc) (hf : FrR cx env g ρ s.heap) (hw : W cx σ g s.heap s.toks) (hA : Room fr n A) :
    wpAny (model prog w) A (evalAll ((backToKw pos (keywordEach kws env)).map (·.2))) (EvsP cx g s σ' (ks.map (·.2))) Z s := by
  induction kws generalizing σ σ' ks g s with
  | nil => exact p2a e ▸ p2b e ▸ (wpAny_evalAll_nil (EvsP.nil hw))
  | cons k es ih =>
    obtain ⟨nm, x, q⟩ := k
    cases nm with
    | none => exact nsE e
    | some nm =>
      exact bindE e fun m qm e => bindE e fun q q1 e => bindE e fun p q2 e => p2a e ▸ p2b e ▸ (by
        show wpAny (model prog w) A (evalAll ((do let v ← eval x env; standAt pos; pure v) :: (backToKw pos (keywordEach es env)).map (·.2))) _ _ s
        exact wpAny_evalAll_cons (wpAny_bind (wpZ (H.ev q1 hs hf hw hA) fun w1 s1 x1 => wpAny_bind (wpAny_standAt (wpAny_pure (x1.k fun g1 W1 V1 N1 =>
          wpZ (ih q2 (hf.mono C N1.evo) W1) fun ws s2 x2 => x2.k fun g2 W2 V2 N2 => .mk W2 (N1.trans N2) (.cons (V1.mono N2.evo) V2)))))))

theorem zip_kw {cx : Cx} {h : Heap} {g : Gh} {ks : List (Str × V)} {names : List Str} {ws : List Value} (hn : names = ks.map (·.1)) (x : VRs cx h g (ks.map (·.2)) ws) : KwR cx h g ks (names.zip ws) := by
  have hl := x.length
  rw [List.length_map] at hl
  subst hn
  refine ⟨?_, ?_⟩
  · rw [List.map_fst_zip]; rw [List.length_map, hl]; exact Nat.le_refl _
  · rw [List.map_snd_zip]; · exact x
    rw [List.length_map, hl]; exact Nat.le_refl _

theorem KwR.mono {X : List Addr} {g g' : Gh} {h h' : Heap} (x : Ev cx X g g' h h') {ks : List (Str × V)} {ks' : List (Str × Value)} (k : KwR cx h g ks ks') : KwR cx h' g' ks ks' := ⟨k.1, k.2.mono x⟩

theorem keeper_ok {M : Model} (hfn : ∀ nm a, cx.fnA nm = some a → FnIn cx nm a) {f : V} {wf : Value} (hc : isClb f = true) (hx : VR cx s.heap g f wf) (hw : W cx σ g s.heap s.toks) :
    ∃ k, (k = Keeper.frame ∨ k = Keeper.machine ∨ k = Keeper.boundFrame) ∧ Looks M s.heap (keeperOf wf) k := by
  cases f with
  | fn nm =>
    obtain ⟨a, e, rfl⟩ := hx.inv
    obtain ⟨o, fd, e1, c1, d1⟩ := hfn _ _ e
    have := hw.old.get_of_cls e1 c1
    refine ⟨.frame, .inl rfl, ?_⟩
    refine (Looks.ld (part := none) this).andThen ?_
    rw [d1]; exact .now
  | lam _ _ _ => obtain ⟨_, _, _, _, _, e, c, fr, fc, rfl⟩ := hx.inv; exact ⟨.frame, .inl rfl, (Looks.ld (part := none) e).andThen .now⟩
  | bi b => have e := hx.inv; subst e; cases b <;> exact ⟨.machine, .inr (.inl rfl), .now⟩
  | _ => cases hc

theorem evCall_ok (H : Sound prog w cx fr n r) (G : CxG cx) (hfn : ∀ nm a, cx.fnA nm = some a → FnIn cx nm a) {f : Expr} {args : List Expr} {kws : List Keyword} {pos : Pos} (e : evCall r sc σ ρ f args kws = some (v, σ'))
    (hs : ScE env sc) (hf : FrR cx env g ρ s.heap) (hw : W cx σ g s.heap s.toks) (hA : Room fr n A)
    (he : eval (.Call f args kws pos) env = (do callWith pos (← eval f env) [] (backTo pos (starEach args env)) (backToKw pos (keywordEach kws env)))) :
    wpAny (model prog w) A (eval (.Call f args kws pos) env) (EvP cx g s σ' v) Z s := by
  rw [he]
  refine bindE e fun p1 q1 e => bindE e fun p2 q2 e => bindE e fun p3 q3 e => ?_
  obtain ⟨k1, k2, k3⟩ := kwStat (env := env) (pos := pos) q3
  refine wpAny_bind (wpZ (H.ev q1 hs hf hw hA) fun wf s1 x1 => ?_)
  refine x1.k fun g1 W1 V1 N1 => ?_
  refine callWith_of (P := fun h => ∃ k, (k = Keeper.frame ∨ k = Keeper.machine ∨ k = Keeper.boundFrame) ∧ Looks (model prog w) h (keeperOf wf) k) ?_ (fun _ x => x) ?_
  · rw [plain_any H q2, k3]; rfl
  refine evalArgs_my H q2 k2 (wpZ (evs_ok H G.ok q2 hs (hf.mono G.ok N1.evo) W1 hA) fun ws s2 x2 => ?_)
  refine x2.k fun g2 W2 V2 N2 => ?_
  refine wpZ (evk_ok H G.ok (pos := pos) q3 hs ((hf.mono G.ok N1.evo).mono G.ok N2.evo) W2 hA) fun wk s3 x3 => ?_
  refine x3.k fun g3 W3 V3 N3 => ?_
  have Vf := (V1.mono N2.evo).mono N3.evo
  exact ⟨keeper_ok hfn (H.clb e) Vf W3, wpZ (H.call e Vf (V2.mono N3.evo) (zip_kw k1 V3) W3 hA) fun w4 s4 x4 => N1.ev (N2.ev (N3.ev x4))⟩
end
end Mine
end
section
set_option maxRecDepth 100000
set_option maxHeartbeats 2000000
set_option linter.unusedVariables false
namespace Mine
open PySem PySem.Builtin.Str PySem.Calls PyProof.Rows PySem.W PySem.SeqAt

theorem neList {h : Heap} {l b : Addr} {ws : List Value} {o : Obj} (p : h.PlainList l ws.toArray) (e : h.get? b = some o) (hd : ∀ xs n, o.data ≠ .seq xs n) : b ≠ l := fun q => by
  subst q
  obtain ⟨n, e'⟩ := p
  rw [e] at e'; cases e'
  exact hd _ _ rfl
theorem Ns_same {h h' : Heap} {a l : Addr} {m} {ws : List Value} (x : h.Ns a m) (p : h.PlainList l ws.toArray) (hs : Heap.SameBut l h h') : h'.Ns a m := by
  refine x.sameBut hs fun q => ?_
  obtain ⟨o, es, ep, e, hd, _⟩ := x
  exact neList p e (fun xs n q => by rw [hd] at q; cases q) q
theorem CodeObjOf.move {h h' : Heap} {cd : Value} {q : Str} (x : CodeObjOf h cd q) (k : ∀ {a : Addr} {o : Obj} {vs : Array Value}, h.get? a = some o → o.data = .fields vs → o.cls = .type "code" → h'.get? a = some o) : CodeObjOf h' cd q :=
  x.elim fun c y => y.elim fun o y => y.elim fun vs y => y.elim fun t y => ⟨c, o, vs, t, y.1, k y.2.1 y.2.2.2.1 y.2.2.1, y.2.2⟩
theorem TabOk.move {cx : Cx} {h h' : Heap} {t : Addr × Addr × Str} (x : TabOk cx h t) (k : ∀ {a : Addr} {o : Obj} {vs : Array Value}, h.get? a = some o → o.data = .fields vs → o.cls = .type "code" ∨ (a = t.2.1 ∧ o.cls = .none) → h'.get? a = some o) : TabOk cx h' t :=
  x.elim fun ps y =>
  have hc : ∀ o, h.get? t.1 = some o → h'.get? t.1 = some o := fun o e => y.2.1.1.elim fun o2 z => z.elim fun vs2 z => have q := Option.some.inj (e.symm.trans z.1); k e (q ▸ z.2.2.1) (.inl (q ▸ z.2.1))
  have hP : ∀ o, h.get? t.2.1 = some o → h'.get? t.2.1 = some o := fun o e => have q := Option.some.inj (e.symm.trans y.2.1.2); k (vs := ps) e (q ▸ rfl) (.inr ⟨rfl, q ▸ rfl⟩)
  ⟨ps, y.1.at2 hc hP, y.2.1.at2 hc hP, fun p c' e => (y.2.2 p c' e).move fun e d h => k e d (.inl h)⟩
theorem TabOk.same {cx : Cx} {h h' : Heap} {t : Addr × Addr × Str} {l : Addr} {ws : List Value} (x : TabOk cx h t) (p : h.PlainList l ws.toArray) (hs : Heap.SameBut l h h') : TabOk cx h' t :=
  x.move fun e d _ => (hs.2 _ (neList p e fun _ _ q => nomatch d.symm.trans q)).trans e

theorem W.setLst {cx : Cx} (C : CxOk cx) {σ : Sto} {g : Gh} {h h' : Heap} {tk : Nat} (w : W cx σ g h tk) {i : Nat} {l : Addr} {vs vs' : List V} {ws ws' : List Value} (ei : g.am[i]? = some l) (es : σ[i]? = some vs)
    (p : h.PlainList l ws.toArray) (hs : Heap.SameBut l h h') (p' : h'.PlainList l ws'.toArray) (r : VRs cx h g vs' ws') : W cx (σ.set i vs') g h' tk ∧ Ev cx [] g g h h' := by
  have hm : l ∈ g.am := List.mem_of_getElem? ei
  have E : Ev cx [] g g h h' := ⟨⟨[], by simp⟩, rfl, Nat.le_refl _, fun _ _ => rfl, fun a o e h1 _ _ => ⟨o, (hs.2 a fun q => h1 (q ▸ hm)).trans e, .refl o⟩, fun a o e _ h1 => (hs.2 a fun q => h1.1 (q ▸ hm)).trans e, fun a o e _ => by
    by_cases q : a = l
    · subst q; obtain ⟨n, e'⟩ := p'; exact ⟨_, e'⟩
    · exact ⟨o, (hs.2 a q).trans e⟩, fun _ hm hn => absurd hm hn⟩
  have hi : i < σ.length := (List.getElem?_eq_some_iff.mp es).1
  refine ⟨⟨w.tok, fun a m => let ⟨o, es, ep, e, d⟩ := w.frs a m; ⟨o, es, ep, (hs.2 a fun q => by
    subst q; obtain ⟨n, e'⟩ := p; rw [e'] at e; cases e; cases d).trans e, d⟩, w.old.step_same (w.fresh l hm) hs, ?_, ?_, fun t m => (w.tabs t m).same p hs, by rw [List.length_set]; exact w.len, w.nodup, fun a m => ?_, w.gn, w.base, w.based, w.fresh, fun j us ej => ?_⟩, E⟩
  · obtain ⟨mc, a, b⟩ := w.booked
    exact ⟨mc, Ns_same a p hs, b⟩
  · obtain ⟨mc, a, b⟩ := w.nolim
    exact ⟨mc, Ns_same a p hs, b⟩
  · obtain ⟨us, e⟩ := w.hidden a m
    by_cases q : a = l
    · subst q; exact ⟨ws', p'⟩
    · exact ⟨us, e.at fun o e => (hs.2 a q).trans e⟩
  · by_cases hj : i = j
    · subst hj
      rw [List.getElem?_set_self hi] at ej
      cases ej
      exact ⟨l, ws', ei, p', r.mono E⟩
    · rw [List.getElem?_set_ne hj] at ej
      obtain ⟨a, ws2, e1, e2, e3⟩ := w.lists j us ej
      refine ⟨a, ws2, e1, ?_, e3.mono E⟩
      refine e2.at fun o e => (hs.2 a fun q => ?_).trans e
      subst q
      exact hj (by
        have h1 := List.getElem?_eq_some_iff.mp ei
        have h2 := List.getElem?_eq_some_iff.mp e1
        obtain ⟨h1, q1⟩ := h1
        obtain ⟨h2, q2⟩ := h2
        exact (List.getElem_inj w.nodup).mp (q1.trans q2.symm))

section
variable {prog : Program} {w : World} {A : Around} {s : Shared} {cx : Cx} {n : Nat} {r : R} {F : Facts} {sc : Scope} {σ σ' : Sto} {ρ : Loc} {v : V} {env : Env} {g : Gh}

theorem EvP.setLst (C : CxOk cx) (hw : W cx σ g s.heap s.toks) {i : Nat} {l : Addr} {vs vs' : List V} {ws ws' : List Value} {h' : Heap} (ei : g.am[i]? = some l) (es : σ[i]? = some vs)
    (p : s.heap.PlainList l ws.toArray) (hs : Heap.SameBut l s.heap h') (p' : h'.PlainList l ws'.toArray) (r : VRs cx s.heap g vs' ws') : EvP cx g s (σ.set i vs') .none .none { s with heap := h' } := by
  obtain ⟨h1, h2⟩ := hw.setLst C ei es p hs p' r
  exact ⟨h', s.toks, g, rfl, Nat.le_refl _, h1, h2, .none⟩

theorem append_ok (C : CxOk cx) {i : Nat} {l : Addr} {vs : List V} {x : V} {wx : Value} (hw : W cx σ g s.heap s.toks) (ei : g.am[i]? = some l) (es : σ[i]? = some vs) (hl : Nat.blt vs.length 100000 = true) (hx : VR cx s.heap g x wx) :
    wpAny (model prog w) A (call (.builtin "list.append") [.ref l, wx]) (EvP cx g s (σ.set i (vs ++ [x])) .none) Z s := by
  obtain ⟨a, ws, e1, e2, e3⟩ := hw.lists i vs es
  rw [ei] at e1; cases e1
  have hl := Nat.le_of_ble_eq_true hl
  refine wpAny_list_append_plain e2 (fun h' p' hs => ?_) (by rw [List.size_toArray, ← e3.length]; exact fits (by omega))
  have p2 : h'.PlainList l (ws ++ [wx]).toArray := by
    have : (ws ++ [wx]).toArray = ws.toArray.push wx := by simp
    rw [this]; exact p'
  exact EvP.setLst C hw ei es e2 hs p2 (e3.append (.cons hx .nil))

theorem insS_split {α : Type} (x : α) : ∀ (k : Nat) (l : List α), k ≤ l.length → insS x k l = l.take k ++ x :: l.drop k
  | 0, l, _ => by simp [insS]
  | k + 1, [], h => by simp at h
  | k + 1, y :: l, h => by
    unfold insS
    rw [insS_split x k l (by simpa using h)]; simp
theorem insert_ok (C : CxOk cx) {i : Nat} {l : Addr} {vs : List V} {k : Int} {u : Tok} {x : V} {wx : Value} (hw : W cx σ g s.heap s.toks) (ei : g.am[i]? = some l) (es : σ[i]? = some vs) (hl : Nat.blt vs.length 100000 = true) (hk0 : decide (0 ≤ k) = true)
    (hk : Nat.ble k.toNat vs.length = true) (hx : VR cx s.heap g x wx) :
    wpAny (model prog w) A (call (.builtin "list.insert") [.ref l, .int k u, wx]) (EvP cx g s (σ.set i (insS x k.toNat vs)) .none) Z s := by
  obtain ⟨a, ws, e1, e2, e3⟩ := hw.lists i vs es
  rw [ei] at e1; cases e1
  have hl := Nat.le_of_ble_eq_true hl
  have hk := Nat.le_of_ble_eq_true hk
  have hk0 := of_decide_eq_true hk0
  obtain ⟨m, ho⟩ := id e2
  have hlen := e3.length
  refine call_meets F.slot_list_insert ⟨_, ho, rfl⟩ F.entry_list_insert (F.args_list_insert_3 _ _ _) (AutoListH.list_insert_list_int_val_1 l ws.toArray m k u wx (by
    unfold Builtin.List.listFitsIndex
    have h1 : ¬ k < -(2 ^ 63) := by omega
    have h2 : ¬ k ≥ 2 ^ 63 := by omega
    simp; omega) (by rw [List.size_toArray, ← hlen]; exact fits (by omega))) ⟨ho, ?_⟩
  refine EvP.setLst C hw ei es e2 (Heap.SameBut.update ..) (ws' := insS wx k.toNat ws) ?_ (VRs.insS hx k.toNat e3)
  have harr : ((ws.toArray.extract 0 (if k < 0 then (k + ((ws.toArray.size : Nat) : Int)).toNat else min k.toNat ws.toArray.size)).push wx ++ ws.toArray.extract (if k < 0 then (k + ((ws.toArray.size : Nat) : Int)).toNat else min k.toNat ws.toArray.size)) = (insS wx k.toNat ws).toArray := by
    have hmin : min k.toNat ws.toArray.size = k.toNat := by rw [List.size_toArray, ← hlen]; exact Nat.min_eq_left hk
    rw [if_neg (by omega), hmin, insS_split _ _ _ (by rw [← hlen]; exact hk)]
    apply Array.ext'
    simp [List.take_of_length_le]
  have hupd := Heap.get?_update_self (Obj.mapSeq fun xs => have k := if k < 0 then (k + ((xs.size : Nat) : Int)).toNat else min k.toNat xs.size; (xs.extract 0 k).push wx ++ xs.extract k) ho rfl
  obtain ⟨c, hc⟩ : ∃ c, (Obj.mapSeq fun xs => have k := if k < 0 then (k + ((xs.size : Nat) : Int)).toNat else min k.toNat xs.size; (xs.extract 0 k).push wx ++ xs.extract k) { cls := .type "list", data := .seq ws.toArray m } = { cls := .type "list", data := .seq ((ws.toArray.extract 0 (if k < 0 then (k + ((ws.toArray.size : Nat) : Int)).toNat else min k.toNat ws.toArray.size)).push wx ++ ws.toArray.extract (if k < 0 then (k + ((ws.toArray.size : Nat) : Int)).toNat else min k.toNat ws.toArray.size)) c } := ⟨_, rfl⟩
  rw [hc, harr] at hupd
  exact ⟨c, hupd⟩

noncomputable def StrsP (cx : Cx) (l : List V) (t sep : List Nat) (ws : List Value) : Prop := ∃ ys : List (List Nat), StrsAre ws (ys.map cx.strOf) ∧ ys.length = l.length ∧
    (ys.map (·.length)).sum ≤ t.length ∧ cx.strOf t = Txt.join (cx.strOf sep) (ys.map cx.strOf)
theorem strs_ok {h : Heap} {l : List V} {ws : List Value} {t sep : List Nat} (hv : VRs cx h g l ws) (e : joinS sep l = some t) : StrsP cx l t sep ws := by
  induction l generalizing ws t with
  | nil => exact hv.nilP (P := StrsP cx _ _ _) ((Option.some.inj e : [] = t) ▸ ⟨[], .nil, rfl, Nat.le_refl _, (StrLaws.glued_eq_join (cx.strOf sep) []).symm⟩)
  | cons x l ih =>
    refine bindE e fun s q e => hv.consP (P := StrsP cx _ _ _) fun w1 ws' h1 h2 => h1.strO (P := fun w => StrsP cx _ _ _ (w :: ws')) q fun u => ?_
    cases l with
    | nil => exact h2.nilP (P := fun ws' => StrsP cx _ _ _ (_ :: ws')) (Option.some.inj e ▸ ⟨[s], .cons _ _ .nil, rfl, by simp, (StrLaws.glued_eq_join (cx.strOf sep) [cx.strOf s]).symm⟩)
    | cons y l =>
      exact bindE e fun t' q2 e => (ih h2 q2).elim fun ys => by
        cases ys with
        | nil => exact fun y => nomatch y.2.1
        | cons b ys => exact fun y => Option.some.inj e ▸ ⟨s :: b :: ys, .cons _ _ y.1, congrArg Nat.succ y.2.1, by
            have := y.2.2.1
            simp only [List.map_cons, List.sum_cons, List.length_append] at this ⊢; omega, by
            rw [strOf_append, strOf_append, y.2.2.2]
            show _ ++ glued _ _ = glued _ _
            rw [StrLaws.glued_eq_join, StrLaws.glued_eq_join]; rfl⟩

set_option tactic.hygienic true in
theorem outS_ok {t : List Nat} {tk : Nat} {u : Tok} (e : outS σ t = some (v, σ')) (hw : W cx σ g s.heap s.toks) (hle : s.toks ≤ tk) : EvP cx g s σ' v (.str (cx.strOf t) u) { s with toks := tk } := by
  delta outS at e
  split at e
  · rename_i v' q
    cases e
    obtain ⟨rfl, _⟩ := smallS_ok q
    exact EvP.scalar hw (.str _ _) hle
  · cases e
theorem join_ok {sep : List Nat} {u : Tok} {vs : List V} {ws : List Value} (e : mJoin σ sep vs = some (v, σ')) (hw : W cx σ g s.heap s.toks) (hx : VRs cx s.heap g vs ws) :
    wpAny (model prog w) A (call (.builtin "str.join") (.str (cx.strOf sep) u :: ws)) (EvP cx g s σ' v) Z s :=
  bindE e fun a q e => hx.l1 (Q := fun ws => wpAny _ _ (call _ (_ :: ws)) _ _ _) q fun w1 h1 => bindE e fun l q e => h1.plO (P := fun w => wpAny _ _ (call _ [_, w]) _ _ _) q fun _ _ p n r => bindE e fun t q1 e => whE e fun q2 e => whE e fun q3 e => (strs_ok r q1).elim fun ys y =>
    have ht : t.length ≤ 100000 := by
      delta outS at e
      split at e
      · rename_i v' q; exact (smallS_ok q).2
      · cases e
    have hm : ((ys.map cx.strOf).map (·.length)).sum = (ys.map (·.length)).sum := by
      congr 1; rw [List.map_map]; exact List.map_congr_left fun a _ => strOf_length cx a
    wpAny_with_toks (Nat.le_refl s.toks) (join_listC p.isList (by simpa using y.1) (by rw [strOf_length]; exact Nat.le_of_ble_eq_true q3) (by
      rw [hm, List.length_map, y.2.1]; have := y.2.2.1; have := Nat.le_of_ble_eq_true q2; omega) fun t' k hk => y.2.2.2 ▸ outS_ok e hw hk)
end
end Mine
end
section
set_option maxRecDepth 100000
set_option maxHeartbeats 2000000
set_option linter.unusedVariables false
namespace Mine
open PySem PySem.Calls PyProof.Rows PySem.W PySem.SeqAt

theorem slot_pat_sub : Slot "re.Pattern" "sub" "re.Pattern.sub" :=
  .of (owner := "re.Pattern") (n := "sub") (by rw [typeLookup_type, builtinLookup_eq_fast]; kernel_rfl) (by decide +kernel) (by decide +kernel) (by decide +kernel)
    (by first | exact .inl (by decide +kernel) | exact .inr (by decide +kernel)) (by rw [isSubtype_type]; kernel_rfl)
theorem type_pat_sub : typeOf (.builtin "re.Pattern.sub") = pure (.type "method_descriptor") := by show builtinType _ = _; rw [builtinType_eq_fast]; kernel_rfl
theorem plainAttrs_pat : PlainAttrs "re.Pattern" :=
  ⟨⟨"object.__getattribute__", by rw [typeLookup_type, builtinLookup_eq_fast]; kernel_rfl, by decide +kernel⟩, by rw [typeLookup_type, builtinLookup_eq_fast]; kernel_rfl⟩
theorem entry_pat_sub : entryFor table "re.Pattern.sub" = some Builtin.«re.Pattern.sub» := entryFor_of_tree (by kernel_rfl)
theorem entry_pat_sub_loop : entryFor table "re.Pattern.sub.loop" = some Builtin.«re.Pattern.sub.loop» := entryFor_of_tree (by kernel_rfl)

noncomputable def PatOk (prog : Program) (w : World) (cx : Cx) : Prop := ∀ {fr : Option (List Env)} {A : Around} {s : Shared} {g : Gh} {σ σ' : Sto} {k : Nat} {a : Addr} {vs : List V} {ws : List Value} {v : V}, cx.patA k = some a → W cx σ g s.heap s.toks → Room fr 0 A →
  mSub σ k vs = some (v, σ') → VRs cx s.heap g vs ws → wpAny (model prog w) A (call (.builtin "re.Pattern.sub") (.ref a :: ws)) (EvP cx g s σ' v) Z s
noncomputable def PatAt (cx : Cx) : Prop := ∀ k a, cx.patA k = some a → ∃ o, cx.h₀.get? a = some o ∧ o.cls = .type "re.Pattern" ∧ o.dict = none

section
variable {prog : Program} {w : World} {A : Around} {s : Shared} {cx : Cx} {n : Nat} {r : R} {F : Facts} {sc : Scope} {σ σ' : Sto} {ρ : Loc} {v : V} {env : Env} {g : Gh}

noncomputable def methId : V → String
  | .lst _ => "list."
  | _ => ""

noncomputable def MethP (prog : Program) (w : World) (A : Around) (cx : Cx) (s₀ : Shared) (g₀ : Gh) (σ σ' : Sto) (vs : List V) (v : V) (nm : Str) (wo : Value) : Prop :=
    ∃ (T id : String), PlainAttrs T ∧ Slot T nm id ∧ typeOf (.builtin id) = pure (.type "method_descriptor") ∧ s₀.TypeIs wo T ∧ (∀ a, wo = .ref a → ∃ ob, s₀.heap.get? a = some ob ∧ ob.dict = none) ∧
      ∀ {s : Shared} {g : Gh} {ws : List Value}, W cx σ g s.heap s.toks → Ev cx [] g₀ g s₀.heap s.heap → VRs cx s.heap g vs ws → wpAny (model prog w) A (call (.builtin id) (wo :: ws)) (EvP cx g s σ' v) Z s
theorem am_pre {X : List Addr} {g g' : Gh} {h h' : Heap} (hE : Ev cx X g g' h h') {i : Nat} {a : Addr} (ei : g.am[i]? = some a) : g'.am[i]? = some a :=
  hE.pre.elim fun m q => (List.getElem?_eq_some_iff.mp ei).elim fun hl _ => by rw [q, List.getElem?_append_left hl]; exact ei
theorem methL_ok (C : CxOk cx) {i : Nat} {a : Addr} {nm : Str} {vs : List V} (e : mList σ i nm vs = some (v, σ')) {s₀ : Shared} {g₀ : Gh} {σ₀ : Sto} (hw₀ : W cx σ₀ g₀ s₀.heap s₀.toks) (ei : g₀.am[i]? = some a) : MethP prog w A cx s₀ g₀ σ σ' vs v nm (.ref a) :=
  (hw₀.amOld (List.mem_of_getElem? ei)).elim fun ws0 y => y.elim fun n0 hob =>
  have hT : s₀.TypeIs (.ref a) "list" := ⟨_, hob, rfl⟩
  have hd : ∀ b, (Value.ref a) = .ref b → ∃ ob, s₀.heap.get? b = some ob ∧ ob.dict = none := fun b e => Value.ref.inj e ▸ ⟨_, hob, rfl⟩
  bindE e fun l es e => whE e fun hl e => by
    split at e
    · rename_i hn
      exact strEq_of_seq hn ▸ ⟨"list", "list.append", F.plainAttrs_list, F.slot_list_append, F.type_list_append, hT, hd, fun {s g ws} hw hE hv =>
        bindE e fun x q e => p2a e ▸ p2b e ▸ hv.l1 (Q := fun ws => wpAny _ _ (call _ (_ :: ws)) _ _ _) q fun w1 h1 => append_ok C hw (am_pre hE ei) es hl h1⟩
    · exact whE e fun hn e => strEq_of_seq hn ▸ ⟨"list", "list.insert", F.plainAttrs_list, F.slot_list_insert, F.type_list_insert, hT, hd, fun {s g ws} hw hE hv =>
        bindE e fun p q e => bindE e fun k qk e => whE e fun q1 e => whE e fun q2 e => p2a e ▸ p2b e ▸ hv.l2 (Q := fun ws => wpAny _ _ (call _ (_ :: ws)) _ _ _) q fun w1 w2 h1 h2 =>
          h1.intO (P := fun w => wpAny _ _ (call _ [_, w, _]) _ _ _) qk fun t => insert_ok C hw (am_pre hE ei) es hl q1 q2 h2⟩
theorem meth_ok (C : CxOk cx) (hP : PatOk prog w cx) (hPA : PatAt cx) {o : V} {wo : Value} {nm : Str} {vs : List V} (e : meth o nm σ vs = some (v, σ')) {s₀ : Shared} {g₀ : Gh} {σ₀ : Sto} (hw₀ : W cx σ₀ g₀ s₀.heap s₀.toks) (ho : VR cx s₀.heap g₀ o wo) (hA : Room fr 0 A) : MethP prog w A cx s₀ g₀ σ σ' vs v nm wo := by
  cases o with
  | lst i => exact ho.lstE fun a ei => methL_ok C e hw₀ ei
  | str a => exact ho.strE fun u => whE e fun hn e => strEq_of_seq hn ▸ ⟨"str", "str.join", F.plainAttrs_str, F.slot_str_join, F.type_str_join, typeIs_str _ _ _, (fun b q => nomatch q), fun hw hE hv => join_ok e hw hv⟩
  | pat k => exact ho.patE fun a ea => whE e fun hn e => (hPA _ _ ea).elim fun o y =>
      have hob := hw₀.old.get_of_cls y.1 (by rw [y.2.1]; exact fun q => nomatch q)
      strEq_of_seq hn ▸ ⟨"re.Pattern", "re.Pattern.sub", plainAttrs_pat, slot_pat_sub, type_pat_sub, ⟨_, hob, y.2.1⟩, fun b q => Value.ref.inj q ▸ ⟨_, hob, y.2.2⟩, fun hw hE hv => hP ea hw hA e hv⟩
  | _ => first | exact nsE e | cases e

theorem plainBase_ok {o : Expr} {nm : Str} (h : plainBase o = true) : attributeBase o nm env (eval o env) = eval o env := by
  cases o <;> first | rfl | cases h

theorem backTo_len (H : Sound prog w cx fr n r) {pos : Pos} {es : List Expr} {σ σ' : Sto} {vs : List V} (e : evs r sc σ ρ es = some (vs, σ')) : (backTo pos (starEach es env)).all (fun x => !x.1) = true := by
  induction es generalizing σ σ' vs with
  | nil => rfl
  | cons x es ih =>
    exact bindE e fun q q1 e => bindE e fun p q2 e => by
      rw [starEach_cons H q1]
      show ((false, _) :: backTo pos (starEach es env)).all (fun x => !x.1) = true
      rw [List.all_cons, ih q2]; rfl
theorem evMeth_ok (H : Sound prog w cx fr n r) (G : CxG cx) (hP : PatOk prog w cx) (hPA : PatAt cx) {o : Expr} {nm : Str} {ap pos : Pos} {args : List Expr} {kws : List Keyword} (e : evMeth r sc σ ρ o nm args kws (methOk o ap pos args) = some (v, σ'))
    (hs : ScE env sc) (hf : FrR cx env g ρ s.heap) (hw : W cx σ g s.heap s.toks) (hA : Room fr n A) :
    wpAny (model prog w) A (eval (.Call (.Attribute o nm ap) args kws pos) env) (EvP cx g s σ' v) Z s :=
  whE e fun hk0 e => whE e fun hk e => andE hk fun h1 hk => andE hk fun h2 h3 => bindE e fun p1 q1 e => bindE e fun p2 q2 e => by
  have h3 := Nat.le_of_ble_eq_true h3
  rw [List.isEmpty_iff.mp hk0]
  refine wpAny_Call_method_lateS (plainBase_ok h1) ?_ (by rw [Nat.eq_of_beq_eq_true h2]; simp) (wpZ (H.ev q1 hs hf hw hA) fun wo s1 x1 => ?_)
  · rw [backTo_len H q2]
    show (true && true && decide (args.length + 0 + 0 < 30)) = true
    rw [decide_eq_true (by omega)]; rfl
  refine x1.k fun g1 W1 V1 N1 => ?_
  obtain ⟨T, id, m1, m2, m3, m4, m5, hc⟩ := meth_ok (A := A) G.ok hP hPA e W1 V1 ⟨hA.handled, by have := hA.depth; omega, by have := hA.units; omega, hA.frs⟩
  refine ⟨T, id, m1, m2, m3, m4, m5, callWith_builtin (plain_any H q2) ?_⟩
  refine evalArgs_my H q2 rfl (wpZ (evs_ok H G.ok q2 hs (hf.mono G.ok N1.evo) W1 hA) fun ws s2 x2 => ?_)
  refine x2.k fun g2 W2 V2 N2 => ?_
  exact wpAny_evalAll_nil (wpZ (hc W2 N2.evo V2) fun w3 s3 x3 => N1.ev (N2.ev x3))
end
end Mine
end
section
set_option maxRecDepth 100000
set_option maxHeartbeats 2000000
set_option linter.unusedVariables false
namespace Mine
open PySem PySem.Calls PyProof.Rows PySem.W PySem.SeqAt

section
variable {prog : Program} {w : World} {A : Around} {s : Shared} {cx : Cx} {n : Nat} {r : R} {F : Facts} {sc : Scope} {σ σ' : Sto} {ρ : Loc} {v : V} {env : Env} {g : Gh}

noncomputable def SubOn (prog : Program) (w : World) (A : Around) (o i : Value) (Q : Value → Shared → Prop) (s : Shared) : Prop :=
  ∃ T id, typeLookup (.type T) "__getitem__" = pure (some (.builtin id)) ∧ s.TypeIs o T ∧ wpAny (model prog w) A (getItem o i) Q Z s

theorem wpSub {value slice : Expr} {pos : Pos} {Q : Value → Shared → Prop}
    (h : wpAny (model prog w) A (eval value env) (fun o s₁ => wpAny (model prog w) A (eval slice env) (fun i s₂ => SubOn prog w A o i Q s₂) Z s₁) Z s) :
    wpAny (model prog w) A (eval (.Subscript value slice pos) env) Q Z s := by
  rw [eval_Subscript]
  refine wpAny_bind (wpZ h fun o s₁ h₁ => wpAny_bind (wpAny_holding (wpZ h₁ fun i s₂ h₂ => wpAny_bind (wpAny_standAt ?_))))
  obtain ⟨T, id, hl, hT, hg⟩ := h₂
  refine wpAny_bind ?_
  rw [getitemInPython_of_ne hT.not_modules]
  refine wpAny_bind (wpAny_specialOf hT hl ?_)
  have fin : wpAny (model prog w) A (subscripted slice false o i) (fun r s₃ => wpAny (model prog w) A (letTemporaryGo value o r >>= fun _ => pure r) Q Z s₃) Z s₂ := by
    have hgo : wpAny (model prog w) A (getItem o i) (fun r s₃ => wpAny (model prog w) A (letTemporaryGo value o r >>= fun _ => pure r) Q Z s₃) Z s₂ := wpZ hg fun r s₃ h₃ => wpAny_bind (wpAny_letTemporaryGo (wpAny_pure h₃))
    unfold subscripted
    split
    · exact wpAny_operating hgo
    · rename_i q; cases q
    · exact wpAny_operating hgo
  exact wpAny_pure (wpAny_bind fin)

theorem idx_seq {vs : List V} {k : Int} {x : V} (e : idx vs k = some x) : ∃ j : Nat, seqIndex? k vs.length = some j ∧ vs[j]? = some x ∧ ((0 ≤ k ∧ j = k.toNat) ∨ (k < 0 ∧ -(vs.length : Int) ≤ k ∧ j = (k + vs.length).toNat)) := by
  delta idx at e
  split at e
  · rename_i q
    have q := of_decide_eq_true q
    have hl := (List.getElem?_eq_some_iff.mp e).1
    refine ⟨k.toNat, ?_, e, .inl ⟨q, rfl⟩⟩
    simp only [seqIndex?]
    rw [if_neg (show ¬ k < 0 by omega)]
    have : (decide (0 ≤ k) && decide (k < (vs.length : Int))) = true := by rw [decide_eq_true q, decide_eq_true (by omega)]; rfl
    rw [if_pos this]
  · rename_i q
    have q := of_decide_eq_false q
    split at e
    · rename_i q2
      have q2 := Nat.le_of_ble_eq_true q2
      have ej : vs.length - k.natAbs = (k + vs.length).toNat := by omega
      refine ⟨(k + vs.length).toNat, ?_, by rw [← ej]; exact e, .inr ⟨by omega, by omega, rfl⟩⟩
      simp only [seqIndex?]
      rw [if_pos (show k < 0 by omega)]
      have : (decide (0 ≤ k + (vs.length : Int)) && decide (k + (vs.length : Int) < (vs.length : Int))) = true := by rw [decide_eq_true (by omega), decide_eq_true (by omega)]; rfl
      rw [if_pos this]
    · cases e

theorem item_ok {vo : V} {wo : Value} {k : Int} {u : Tok} {vs : List V} {x : V} (hw : W cx σ g s.heap s.toks) (hv : VR cx s.heap g vo wo) (e1 : itemsT σ vo = some vs) (hk : small k = true) (e2 : idx vs k = some x) :
    SubOn prog w A wo (.int k u) (EvP cx g s σ x) s := by
  have hk : k.natAbs < 2 ^ 60 := Nat.le_of_ble_eq_true hk
  obtain ⟨j, hj, hx, hc⟩ := idx_seq e2
  have lst : ∀ {l : Addr} {ws : List Value}, wo = .ref l → s.heap.PlainList l ws.toArray → VRs cx s.heap g vs ws → SubOn prog w A wo (.int k u) (EvP cx g s σ x) s := fun {l ws} hwo p r => by
    subst hwo
    obtain ⟨y, hy, ry⟩ := r.get hx
    have hlen := r.length
    refine ⟨"list", _, slot_list_getitem.lookup, p.isList.typeIs, ?_⟩
    rcases hc with ⟨h0, rfl⟩ | ⟨h0, h1, rfl⟩
    · exact wpAny_getItem_list p.isList h0 (by omega) (by simpa using hy) (EvP.here hw ry)
    · refine wpAny_getItem_list_neg p.isList h0 (by rw [List.size_toArray, ← hlen]; exact h1) (by omega) ?_ (EvP.here hw ry)
      rw [List.size_toArray, ← hlen]; simpa using hy
  cases vo with
  | tup _ =>
    obtain ⟨_, _, p, n, r, rfl⟩ := hv.inv
    (delta itemsT at e1; try dsimp only at e1); cases e1
    obtain ⟨m, ho⟩ := p
    obtain ⟨y, hy, ry⟩ := r.get hx
    refine ⟨"tuple", _, F.slot_tuple_getitem.lookup, ⟨_, ho, rfl⟩, ?_⟩
    exact PySem.P.getItem_tuple (n := m) ho (by omega) (by omega) (by rewrite [List.size_toArray, ← r.length]; exact hj) (by simpa using hy) (EvP.here hw ry)
  | pl _ => obtain ⟨_, _, p, n, r, rfl⟩ := hv.inv; (delta itemsT items at e1; try dsimp only at e1); cases e1; exact lst rfl p r
  | lst i =>
    obtain ⟨a, q, rfl⟩ := hv.inv
    have e1' : items σ (.lst i) = some vs := e1
    obtain ⟨l, ws, h1, h2, h3⟩ := items_ok hw (.lst q) e1'
    exact lst h1 h2 h3
  | _ => first | exact nsE e1 | simp [itemsT, items] at e1

theorem adjust_upto (b n : Nat) (hb : b ≤ n) : Builtin.Slice.sliceAdjust none (some (b : Int)) 1 (n : Int) = (0, (b : Int)) := by
  unfold Builtin.Slice.sliceAdjust
  have h1 : ¬ ((1 : Int) < 0) := by omega
  have h2 : ¬ ((b : Int) < 0) := by omega
  simp only [h1, h2, if_false]
  congr 1
  omega
theorem places_upto (b : Nat) : Builtin.Slice.slicePlaces 0 (b : Int) 1 = b := by
  unfold Builtin.Slice.slicePlaces
  have h1 : (1 : Int) > 0 := by omega
  simp only [h1, if_true, Int.ediv_one]
  split <;> omega
theorem sliceApplied_upto {sl : Addr} {b n : Nat} {u : Tok} {Q : Int × Int × Nat → Shared → Prop} (hs : s.heap.IsSliceOf sl .none (.int b u) .none) (hb : b ≤ n) (h : Q (0, 1, b) s) :
    wpAny (model prog w) A (Builtin.Slice.sliceApplied (.ref sl) (pure (n : Int))) Q Z s := by
  obtain ⟨os, hos, hcs, hds⟩ := id hs
  unfold Builtin.Slice.sliceApplied Builtin.Slice.sliceFields
  refine wpAny_bind (wpAny_bind (wpAny_field hos hds (x := .none) rfl (wpAny_bind (wpAny_field hos hds (x := .int b u) rfl (wpAny_bind (wpAny_field hos hds (x := .none) rfl (wpAny_pure ?_)))))))
  refine wpAny_bind (slicePart_none ?_)
  show wpAny _ _ (if ((1 : Int) == 0) = true then _ else _) _ _ s
  rw [if_neg (by decide)]
  refine wpAny_bind (slicePart_none (wpAny_bind (slicePart_int (wpAny_bind (wpAny_pure ?_)))))
  show wpAny _ _ (match Builtin.Slice.sliceAdjust none (some (b : Int)) 1 (n : Int) with | (lo, hi) => pure (lo, (1 : Int), Builtin.Slice.slicePlaces lo hi 1)) _ _ s
  rw [adjust_upto b n hb]
  show wpAny _ _ (pure ((0 : Int), (1 : Int), Builtin.Slice.slicePlaces 0 (b : Int) 1)) _ _ s
  rw [places_upto b]
  exact wpAny_pure h
theorem pick_upto (xs : List Value) (b : Nat) (hb : b ≤ xs.length) : ((List.range b).filterMap fun (k : Nat) => xs.toArray[((0 : Int) + (k : Int) * 1).toNat]?) = xs.take b := by
  induction b with
  | zero => simp
  | succ b ih =>
    rw [List.range_succ, List.filterMap_append, ih (by omega)]
    have : ((0 : Int) + (b : Int) * 1).toNat = b := by omega
    rw [List.filterMap_cons, List.filterMap_nil, this]
    have hlt : b < xs.length := by omega
    have hx : xs.toArray[b]? = some xs[b] := by simp [hlt]
    rw [hx, List.take_add_one, List.getElem?_eq_getElem hlt]
    rfl

theorem getItem_tuple_upto {t sl : Addr} {xs : List Value} {b : Nat} {u : Tok} {Q : Value → Shared → Prop} (ht : IsTup s.heap t xs.toArray) (hs : s.heap.IsSliceOf sl .none (.int b u) .none) (hb : b < xs.length) (hsz : xs.length ≤ sizeLine)
    (h : Q (.ref s.heap.objs.size) { s with heap := s.heap.push { cls := .type "tuple", data := .seq (xs.take b).toArray } }) : wpAny (model prog w) A (getItem (.ref t) (.ref sl)) Q Z s := by
  have hdrop : sizeOk (.seq (xs.take b).toArray) := by
    show (xs.take b).toArray.size ≤ sizeLine
    rw [List.size_toArray, List.length_take]
    omega
  obtain ⟨os, hos, hcs, hds⟩ := id hs
  have hTs : s.TypeIs (.ref sl) "slice" := ⟨os, hos, hcs⟩
  unfold getItem
  try with_reducible refine wpAny_holding ?_
  first | refine wpAny_bind (wpAny_pure ?_) | skip
  refine wpAny_bind (wpAny_sequenceKey ht.typeIs (by decide) ?_)
  refine wpAny_bind (wpAny_callSpecial?_slot (name := Str.ofString "__getitem__") ht.typeIs slot_tuple_getitem
    (wpAny_call_entry slot_tuple_getitem ht.typeIs entry_tuple_getitem ?_ (args_tuple_getitem _ _)))
  show wpAny _ _ (Builtin.Tuple.tupleItemsOf (.ref t) >>= _) _ _ s
  refine wpAny_bind (tupleItemsOf_ ht ?_)
  refine wpAny_bind (wpAny_typeOf hTs ?_)
  rw [if_pos (by decide)]
  refine wpAny_bind (sliceApplied_upto hs (n := xs.toArray.size) (by rw [List.size_toArray]; omega) ?_)
  have hno : ¬ (((0 : Int) == 0 && (1 : Int) == 1 && b == xs.toArray.size) = true) := by
    rw [List.size_toArray]
    have : (b == xs.length) = false := by rw [beq_eq_false_iff_ne]; omega
    rw [this]; decide
  show wpAny _ _ (if ((0 : Int) == 0 && (1 : Int) == 1 && b == xs.toArray.size) = true then _ else _) _ _ s
  rw [if_neg hno]
  have hp := pick_upto xs b (by omega)
  rw [hp]
  first
    | exact wpAny_bind (m := Builtin.Tuple.tupleExact _) (wpAny_newObj_type (wpAny_pure ⟨_, rfl, wpAny_pure h⟩) hdrop)
    | exact wpAny_bind (m := Builtin.Tuple.tupleExact _) (wpAny_newObj_type (wpAny_bind (wpAny_pure (wpAny_pure ⟨_, rfl, wpAny_pure h⟩))) hdrop)
    | exact wpAny_bind (wpAny_bind (m := Builtin.Tuple.tupleExact _) (wpAny_newObj_type (wpAny_pure (wpAny_pure ⟨_, rfl, wpAny_pure h⟩)) hdrop))
    | exact wpAny_bind (wpAny_bind (m := Builtin.Tuple.tupleExact _) (wpAny_newObj_type (wpAny_pure ⟨_, rfl, wpAny_pure h⟩) hdrop))
end
end Mine
end
section
set_option maxRecDepth 100000
set_option maxHeartbeats 2000000
set_option linter.unusedVariables false
namespace Mine
open PySem PySem.Calls PyProof.Rows PySem.W PySem.SeqAt

section
variable {prog : Program} {w : World} {A : Around} {s : Shared} {cx : Cx} {n : Nat} {r : R} {F : Facts} {sc : Scope} {σ σ' : Sto} {ρ : Loc} {v : V} {env : Env} {g : Gh}

theorem VRs.cut {h : Heap} {vs : List V} {ws : List Value} (a b : Int) (x : VRs cx h g vs ws) : VRs cx h g (cutL a b vs) ((ws.take b.toNat).drop a.toNat) := (x.take b.toNat).drop a.toNat

theorem cutList_ok {l : Addr} {ws : List Value} {vs : List V} {vl : Value} {lo : Option Int} {a b : Int} {u : Tok} (hw : W cx σ g s.heap s.toks) (p : s.heap.PlainList l ws.toArray) (x : VRs cx s.heap g vs ws)
    (hlo : (vl = .none ∧ lo = none ∧ a = 0) ∨ (∃ t, vl = .int a t ∧ lo = some a)) (h0 : 0 ≤ a) (hab : a ≤ b) (hb : b.toNat ≤ vs.length) (hf : vs.length ≤ 1000) :
    SubOn prog w A (.ref l) (.ref s.heap.objs.size) (EvP cx g s σ (.pl (cutL a b vs))) { s with heap := s.heap.push { cls := .type "slice", data := .fields #[vl, .int b u, .none] } } := by
  have hlen := x.length
  have W1 := hw.keeps (fun _ _ e => Heap.get?_push_of_some { cls := .type "slice", data := .fields #[vl, .int b u, .none] } e) (Nat.le_refl _)
  have E1 : Ev cx [] g g s.heap (s.heap.push { cls := .type "slice", data := .fields #[vl, .int b u, .none] }) := .push _
  refine ⟨"list", _, slot_list_getitem.lookup, (p.isList.push _).typeIs, ?_⟩
  have hp : IsPart vl lo := by
    rcases hlo with ⟨rfl, rfl, _⟩ | ⟨t, rfl, rfl⟩
    · exact .none
    · exact .int _ _
  have hpick : slicePick ws.toArray lo (some b) none = ((ws.take b.toNat).drop a.toNat).toArray := by
    have hbn : (b.toNat : Int) = b := Int.toNat_of_nonneg (by omega)
    rcases hlo with ⟨_, rfl, rfl⟩ | ⟨t, _, rfl⟩
    · have := slicePick_upto ws.toArray b.toNat (by rw [List.size_toArray, ← hlen]; exact hb)
      rw [hbn] at this
      rw [this]; simp
    · have han : (a.toNat : Int) = a := Int.toNat_of_nonneg h0
      have := slicePick_run ws.toArray a.toNat b.toNat (by rw [List.size_toArray, ← hlen]; exact hb) (by omega)
      rw [hbn, han] at this
      rw [this, List.drop_take]
  refine wpAny_getItem_list_slice (p.isList.push _) (Heap.IsSliceOf.new ..) hp (.int b u) .none (by simp) ?_ (by rw [List.size_toArray, ← hlen]; exact fits (by omega))
  rw [hpick]
  have y := EvP.push (s := { s with heap := s.heap.push { cls := .type "slice", data := .fields #[vl, .int b u, .none] } }) (σ := σ) W1 (Nat.le_refl _) (.newPl (s := { s with heap := s.heap.push { cls := .type "slice", data := .fields #[vl, .int b u, .none] } }) W1 (VRs.cut a b (x.mono E1)))
  exact EvP.after (Nat.le_refl _) E1 y
theorem cutTup_ok {t : Addr} {ws : List Value} {vs : List V} {b : Int} {u : Tok} (hw : W cx σ g s.heap s.toks) (p : PlainTup s.heap t ws) (x : VRs cx s.heap g vs ws)
    (h0 : 0 ≤ b) (hb : b.toNat < vs.length) (hf : b < 2 ^ 60) (hz : ws.length ≤ sizeLine) :
    SubOn prog w A (.ref t) (.ref s.heap.objs.size) (EvP cx g s σ (.tup (cutL 0 b vs))) { s with heap := s.heap.push { cls := .type "slice", data := .fields #[.none, .int b u, .none] } } := by
  have hlen := x.length
  have W1 := hw.keeps (fun _ _ e => Heap.get?_push_of_some { cls := .type "slice", data := .fields #[.none, .int b u, .none] } e) (Nat.le_refl _)
  have E1 : Ev cx [] g g s.heap (s.heap.push { cls := .type "slice", data := .fields #[.none, .int b u, .none] }) := .push _
  obtain ⟨m, ho⟩ := p
  have hT : IsTup (s.heap.push { cls := .type "slice", data := .fields #[.none, .int b u, .none] }) t ws.toArray := ⟨_, Heap.get?_push_of_some _ ho, rfl, m, rfl⟩
  refine ⟨"tuple", _, F.slot_tuple_getitem.lookup, hT.typeIs, ?_⟩
  have hbn : (b.toNat : Int) = b := Int.toNat_of_nonneg h0
  refine getItem_tuple_upto (b := b.toNat) (u := u) hT (by rw [hbn]; exact Heap.IsSliceOf.new ..) (by rw [← hlen]; exact hb) hz ?_
  have y := EvP.push (s := { s with heap := s.heap.push { cls := .type "slice", data := .fields #[.none, .int b u, .none] } }) (σ := σ) W1 (Nat.le_refl _) (.newTup (s := { s with heap := s.heap.push { cls := .type "slice", data := .fields #[.none, .int b u, .none] } }) W1 (VRs.cut 0 b (x.mono E1)))
  exact EvP.after (Nat.le_refl _) E1 y

theorem SubOn.mono {o i : Value} {Q Q' : Value → Shared → Prop} {s : Shared} (x : SubOn prog w A o i Q s) (k : ∀ v s, Q v s → Q' v s) : SubOn prog w A o i Q' s :=
  x.elim fun T y => y.elim fun id y => ⟨T, id, y.1, y.2.1, wpZ y.2.2 k⟩
set_option tactic.hygienic true in
theorem cut3_ok {top : Bool} {vo : V} {wo : Value} {vl : Value} {lo : Option Int} {a b : Int} {u : Tok} (hw : W cx σ g s.heap s.toks) (hv : VR cx s.heap g vo wo) (e : evCut3 top σ vo a b = some (v, σ')) (htop : top = true → vl = .none ∧ a = 0)
    (hlo : (vl = .none ∧ lo = none ∧ a = 0) ∨ (∃ t, vl = .int a t ∧ lo = some a)) (h0 : 0 ≤ a) (hab : a ≤ b) (hb : b < 2 ^ 60) :
    SubOn prog w A wo (.ref s.heap.objs.size) (EvP cx g s σ' v) { s with heap := s.heap.push { cls := .type "slice", data := .fields #[vl, .int b u, .none] } } := by
  delta evCut3 at e
  split at e
  · rename_i vs q
    exact whE e fun q1 e => whE e fun q2 e => whE e fun q3 e => p2a e ▸ p2b e ▸ hv.tupO (P := fun wo => SubOn _ _ _ wo _ _ _) q fun ws t p n r => by
      obtain ⟨rfl, rfl⟩ := htop q1
      have q2 := Nat.le_of_ble_eq_true q2
      exact cutTup_ok hw p r hab q2 hb (few_ok r q3)
  · exact bindE e fun vs q e => whE e fun q1 e => whE e fun q2 e => p2a e ▸ p2b e ▸ (items_ok hw hv q).elim fun l y => y.elim fun ws y => y.1 ▸ cutList_ok hw y.2.1 y.2.2 hlo h0 hab (Nat.le_of_ble_eq_true q1) (Nat.le_of_ble_eq_true q2)
theorem cut2_ok {top : Bool} {vo vl : V} {wo wl : Value} {lo : Option Int} {hi : Expr} {p : Pos} (H : Sound prog w cx fr n r) (G : CxG cx) (hs : ScE env sc) (hf : FrR cx env g ρ s.heap) (hw : W cx σ g s.heap s.toks) (hA : Room fr n A)
    (hv : VR cx s.heap g vo wo) (e : evCut2 top vo vl (r.ev sc σ ρ hi) = some (v, σ')) (hl : (wl = .none ∧ lo = none ∧ vl = .int 0) ∨ (VR cx s.heap g vl wl ∧ top = false)) :
    wpAny (model prog w) A (eval hi env) (fun wu s₃ => SubOn prog w A wo (.ref s₃.heap.objs.size) (EvP cx g s σ' v) { s₃ with heap := s₃.heap.push { cls := .type "slice", data := .fields #[wl, wu, .none] } }) Z s :=
  bindE e fun p q1 e => bindE e fun b qb e => bindE e fun a qa e => whE e fun h0 e => whE e fun hab e => whE e fun hb e => wpZ (H.ev q1 hs hf hw hA) fun wu s1 x1 => x1.elim.elim fun g1 y => by
    have h0 := of_decide_eq_true h0
    have hab := of_decide_eq_true hab
    have hb : b.natAbs < 2 ^ 60 := Nat.le_of_ble_eq_true hb
    exact y.2.1.intO (P := fun wu => SubOn _ _ _ _ _ _ { s1 with heap := s1.heap.push { cls := .type "slice", data := .fields #[_, wu, .none] } }) qb fun u => SubOn.mono (hl.elim (fun z => by
      obtain ⟨rfl, rfl, rfl⟩ := z
      obtain rfl : 0 = a := Option.some.inj qa
      exact cut3_ok y.1 (hv.mono y.2.2.evo) e (fun _ => ⟨rfl, rfl⟩) (.inl ⟨rfl, rfl, rfl⟩) h0 hab (by omega)) fun z => z.1.intO (P := fun wl => SubOn _ _ _ _ _ _ { s1 with heap := s1.heap.push { cls := .type "slice", data := .fields #[wl, _, .none] } }) qa fun t =>
        cut3_ok y.1 (hv.mono y.2.2.evo) e (fun q => nomatch z.2.symm.trans q) (.inr ⟨t, rfl, rfl⟩) h0 hab (by omega)) fun _ _ x => y.2.2.ev x
theorem evCut_ok {vo : V} {wo : Value} {lo hi st : Option Expr} {p : Pos} (H : Sound prog w cx fr n r) (G : CxG cx) (hs : ScE env sc) (hf : FrR cx env g ρ s.heap) (hw : W cx σ g s.heap s.toks) (hA : Room fr n A)
    (hv : VR cx s.heap g vo wo) (e : evCut r sc σ ρ vo lo hi st = some (v, σ')) :
    wpAny (model prog w) A (eval (.Slice lo hi st p) env) (fun i s₂ => SubOn prog w A wo i (EvP cx g s σ' v) s₂) Z s := by
  cases st with
  | some _ => exact nsE e
  | none => cases hi with
    | none => exact nsE e
    | some he => cases lo with
      | none =>
        refine wpAny_Slice ?_
        simp only [evalPart_some, evalPart_none]
        exact wpAny_pure (wpZ (cut2_ok (p := p) H G hs hf hw hA hv e (.inl ⟨rfl, rfl, rfl⟩)) fun wu s1 x1 => wpAny_pure x1)
      | some le =>
        refine wpAny_Slice ?_
        simp only [evalPart_some, evalPart_none]
        exact bindE (show ((r.ev sc σ ρ le).bind fun q => evCut2 false vo q.1 (r.ev sc q.2 ρ he)) = some (v, σ') from e) fun q q1 e => wpZ (H.ev q1 hs hf hw hA) fun wl s1 x1 => x1.elim.elim fun g1 y =>
          wpZ (cut2_ok (p := p) (lo := none) H G hs (hf.mono G.ok y.2.2.evo) y.1 hA (hv.mono y.2.2.evo) e (.inr ⟨y.2.1, rfl⟩)) fun wu s2 x2 => wpAny_pure (x2.mono fun _ _ x => y.2.2.ev x)
theorem sliceO_ok {i : Expr} {q : Option Expr × Option Expr × Option Expr} (e : sliceO i = some q) : ∃ p, i = .Slice q.1 q.2.1 q.2.2 p := by
  cases i <;> first | exact nsE e | (cases e; exact ⟨_, rfl⟩)
theorem evSub_ok {o i : Expr} {pos : Pos} (H : Sound prog w cx fr n r) (G : CxG cx) (hs : ScE env sc) (hf : FrR cx env g ρ s.heap) (hw : W cx σ g s.heap s.toks) (hA : Room fr n A)
    (e : evSub r sc σ ρ o i = some (v, σ')) : wpAny (model prog w) A (eval (.Subscript o i pos) env) (EvP cx g s σ' v) Z s :=
  bindE e fun q q1 e => wpSub (wpZ (H.ev q1 hs hf hw hA) fun wo s1 x1 => x1.elim.elim fun g1 y => by
    have up : ∀ {i : Value} {s' : Shared}, SubOn prog w A wo i (EvP cx g1 s1 σ' v) s' → SubOn prog w A wo i (EvP cx g s σ' v) s' := fun x => x.mono fun _ _ x => y.2.2.ev x
    split at e
    · rename_i x q2
      exact (sliceO_ok q2).elim fun p hi => hi ▸ wpZ (evCut_ok H G hs (hf.mono G.ok y.2.2.evo) y.1 hA y.2.1 e) fun wi s2 x2 => up x2
    · exact bindE e fun q3 q3e e => bindE e fun k qk e => bindE e fun vs q4 e => whE e fun q5 e => bindE e fun x q6 e => p2a e ▸ p2b e ▸ wpZ (H.ev q3e hs (hf.mono G.ok y.2.2.evo) y.1 hA) fun wi s2 x2 => x2.elim.elim fun g2 z =>
        z.2.1.intO (P := fun wi => SubOn _ _ _ _ wi _ _) qk fun u => (item_ok (prog := prog) (w := w) (A := A) (u := u) z.1 (y.2.1.mono z.2.2.evo) q4 q5 q6).mono fun _ _ x => y.2.2.ev (z.2.2.ev x))

end
end Mine
end
section
set_option maxRecDepth 100000
set_option maxHeartbeats 2000000
set_option linter.unusedVariables false
namespace Mine
open PySem PySem.Calls PyProof.Rows PySem.W PySem.SeqAt

theorem codeAmong_more {pos : Pos} {a b c x : Value} : ∀ (l : List Value), TriplesOk l → codeAmong pos (l ++ [a, b, c]) = some x → codeAmong pos l = some x ∨ x = c
  | [], _, e => by
    right
    unfold codeAmong at e
    split at e
    · rename_i q
      injection q with q1 q
      injection q with q2 q
      injection q with q3 q
      subst q3 q
      split at e
      · cases e; rfl
      · simp [codeAmong] at e
    · cases e
  | .int i t :: .int j u :: d :: l, h, e => by
    have e' : (if i == (pos.line : Int) && j == (pos.col : Int) then some d else codeAmong pos (l ++ [a, b, c])) = some x := e
    show (if i == (pos.line : Int) && j == (pos.col : Int) then some d else codeAmong pos l) = some x ∨ x = c
    split at e'
    · rename_i q; rw [if_pos q]; exact .inl e'
    · rename_i q; rw [if_neg q]; exact codeAmong_more l h e'

theorem W.code {cx : Cx} (C : CxOk cx) {σ : Sto} {g : Gh} {h h' : Heap} {tk tk' : Nat} (w : W cx σ g h tk) (hle : tk ≤ tk') {t : Addr × Addr × Str} (ht : t ∈ cx.tabs) {ps : Array Value} {c' : Addr} {pos : Pos}
    (hok : h.IsCode t.1 t.2.1 ps) (htab : h.TableAt t.1 t.2.1 ps) (hold : ∀ p c, codeAmong p ps.toList = some c → CodeObjOf h c t.2.2) (hx : Heap.ExtBut t.2.1 h h') (hok' : h'.IsCode t.1 t.2.1 (ps ++ #[rawInt pos.line, rawInt pos.col, .ref c']))
    (htab' : h'.TableAt t.1 t.2.1 (ps ++ #[rawInt pos.line, rawInt pos.col, .ref c'])) (hnew : CodeObjOf h' (.ref c') t.2.2) : W cx σ g h' tk' ∧ Ev cx [] g g h h' := by
  have hP : h.get? t.2.1 = some { cls := .none, data := .fields ps } := htab.2
  have ne : ∀ {b : Addr} {o : Obj}, h.get? b = some o → o.cls ≠ .none → b ≠ t.2.1 := fun {b o} e hc q => by
    subst q; rw [hP] at e; cases e; exact hc rfl
  have E : Ev cx [] g g h h' := by
    refine ⟨⟨[], by simp⟩, rfl, Nat.le_refl _, fun _ _ => rfl, fun a o e h1 h2 h3 => ⟨o, hx a o (fun q => h3 ⟨t, ht, q.symm⟩) e, .refl o⟩, fun a o e h1 h2 => hx a o (fun q => ?_) e, fun a o e _ => ?_, fun _ hm hn => absurd hm hn⟩
    · subst q; rw [hP] at e; cases e
      exact absurd h1 (show ¬ ((Value.none == .type "range" || Value.none == .type "code") = true) by decide)
    · by_cases q : a = t.2.1
      · subst q; exact ⟨_, htab'.2⟩
      · exact ⟨o, hx a o q e⟩
  have cko : ∀ {cd : Value} {q : Str}, CodeObjOf h cd q → CodeObjOf h' cd q := fun {cd q} ⟨c, o, vs, u, e1, e2, e3, e4, e5⟩ => ⟨c, o, vs, u, e1, hx _ _ (ne e2 (by rw [e3]; exact fun q => nomatch q)) e2, e3, e4, e5⟩
  obtain ⟨ps₀, htab₀⟩ := C.tabAt t ht
  refine ⟨⟨Nat.lt_of_lt_of_le w.tok hle, fun a m => let ⟨o, es, ep, e, d⟩ := w.frs a m; ⟨o, es, ep, hx a o (fun q => by subst q; rw [hP] at e; cases e; cases d) e, d⟩, w.old.step_table htab₀ htab htab' hx (C.tabNe t ht), ?_, ?_, fun t' m => ?_, w.len, w.nodup, fun a m => ?_, Nat.le_trans w.gn hle, w.base, w.based, w.fresh, fun i vs e => ?_⟩, E⟩
  · obtain ⟨mc, a, b⟩ := w.booked
    exact ⟨mc, a.extBut hx (Ne.symm (C.tabNe t ht)), b⟩
  · exact w.nolim.extBut hx (Ne.symm (C.tabNe t ht))
  · by_cases hq : t.2.1 = t'.2.1
    · have := C.tabUq t ht t' m hq
      subst this
      refine ⟨_, hok', htab', fun p c e => ?_⟩
      have e' : codeAmong p (ps.toList ++ [rawInt pos.line, rawInt pos.col, .ref c']) = some c := by simpa using e
      have htr : TriplesOk ps.toList := by
        obtain ⟨o, vs, file, tf, flags, tg, inF, text, tt, op, a0, a1, a2, a3, a4, a5, a6, b0, b1, r1, r2⟩ := hok
        exact r1
      rcases codeAmong_more _ htr e' with q | q
      · exact cko (hold p c q)
      · subst q; exact hnew
    · exact (w.tabs t' m).move fun e d c => hx _ _ (fun q => c.elim (fun c => ne e (by rewrite [c]; exact fun q => nomatch q) q) fun c => hq (q.symm.trans c.1)) e
  · obtain ⟨us, m, e⟩ := w.hidden a m
    exact ⟨us, m, hx _ _ (ne e (fun q => nomatch q)) e⟩
  · obtain ⟨a, ws, e1, e2, e3⟩ := w.lists i vs e
    refine ⟨a, ws, e1, ?_, e3.mono E⟩
    obtain ⟨m, e2⟩ := e2
    exact ⟨m, hx _ _ (ne e2 (fun q => nomatch q)) e2⟩

theorem plain_form {p : Arguments} (hp : plainPs p = true) : p = ⟨[], p.args, none, [], [], none, []⟩ := by
  cases p with
  | mk a as b c d e f => cases a with
    | cons => exact ftE hp
    | nil => cases b with
      | some => exact ftE hp
      | none => cases c with
        | cons => exact ftE hp
        | nil => cases d with
          | cons => exact ftE hp
          | nil => cases e with
            | some => exact ftE hp
            | none => cases f with
              | cons => exact ftE hp
              | nil => rfl
theorem notFree_ok {l : List (Str × NameKind)} (h : allB notFree l = true) (x : Str × NameKind) (hx : x ∈ l) : x.2 ≠ .free := fun e => by
  have := allB_mem h x hx
  delta notFree at this; rw [e] at this; cases this

section
variable {prog : Program} {w : World} {A : Around} {s : Shared} {cx : Cx} {n : Nat} {r : R} {F : Facts} {sc : Scope} {σ σ' : Sto} {ρ : Loc} {v : V} {env : Env} {g : Gh}

theorem lamTail_ok (G : CxG cx) {ps : Arguments} {body : Expr} {scope : Scope} {pos : Pos} {q : Str} {cd : Value} (hge : env.globals = mainGlobals) (hw : W cx σ g s.heap s.toks) (hcd : CodeObjOf s.heap cd q) :
    wpAny (model prog w) A (do
      let b ← builtinsFor env.globals env.builtins
      let pm ← nsGet env.globals "__name__"
      let doc ← (pure .none : Sem Value)
      newObj (.type "function") (.func { name := "<lambda>", qualname := q, params := ps, body := .expr body, scope, globals := env.globals, closure := [], closureTuple := .none, code := cd, builtins := b, defaults := .none, kwdefaults := .none, annotations := none, pyModule := pm.getD .none, doc })) (EvP cx g s σ (.lam ps body scope)) Z s := by
  obtain ⟨mg, mb, og, ob, n1, n2, e1, c1, e2, c2, ⟨bm, o, b1, b2, b3, b4, b5, b6⟩, _⟩ := G.ns
  have k1 := hw.old.get_of_cls e1 c1
  have m1 : s.heap.Ns env.globals mg := by rw [hge]; exact n1.at' fun o q => by rw [e1] at q; cases q; exact k1
  have k3 := hw.old.get_of_cls b3 (by rw [b4]; exact fun q => nomatch q)
  refine wpAny_bind (wpAny_builtinsFor m1 b1 b2 k3 b4 b5 b6 (wpAny_bind (wpAny_nsGet m1 (wpAny_bind (wpAny_pure (wpAny_newObj_type ?_ (by size_fits)))))))
  rw [hge]
  have hfree := hw.new (get_size s.heap)
  refine EvP.push hw (Nat.le_refl _) (.lam (q := q) (cd := cd) (ct := .none) (pm := (mg "__name__").getD .none) (Heap.get?_push_size _ rfl) (hcd.keeps fun _ _ e => Heap.get?_push_of_some _ e) hfree fun c e => ?_)
  obtain ⟨c', o', vs', t', f1, f2, f3, f4, f5⟩ := hcd
  rw [e] at f1; cases f1
  exact hw.freeCode f2 fun xs n q => by rw [f4] at q; cases q

theorem evLam_ok {ps : Arguments} {body : Expr} {scope : Scope} {pos : Pos} (hs : ScE env sc) (hf : FrR cx env g ρ s.heap) (hw : W cx σ g s.heap s.toks)
    (G : CxG cx) (e : evLam sc σ ps body scope = some (v, σ')) : wpAny (model prog w) A (eval (.Lambda ps body scope pos) env) (EvP cx g s σ' v) Z s := by
  delta evLam at e
  split at e
  · rename_i h1 h2 h3
    cases e
    have hdef : defaultsOf ps env = ([], []) := by
      rw [plain_form h2]; rfl
    obtain ⟨t, ht, hcode, hqual⟩ := hf.lam (hs.lam h1)
    obtain ⟨qs, hok, htab, hold⟩ := hw.tabs t ht
    refine kla_eval hdef ?_
    rw [makeFunction_eq]
    simp only [List.zip_nil_right, List.filterMap_nil, List.isEmpty_nil, if_true, pure_bind]
    unfold makeTail
    rw [closureFor_none (notFree_ok h3)]
    refine wpAny_bind (wpAny_pure ?_)
    simp only [List.isEmpty_nil, if_true]
    refine wpAny_bind (wpAny_pure ?_)
    rw [hqual]
    cases q : codeAmong pos qs.toList with
    | some cd =>
      refine wpAny_bind (wpAny_functionCode_hit hcode hok q ?_)
      exact lamTail_ok (pos := pos) G hf.glob hw (hold pos cd q)
    | none =>
      refine wpAny_bind (wpAny_with_toks (Nat.le_refl s.toks) (wpAny_functionCodeX hcode hok htab q fun c' h' tk hx hge hlt hok' hrec htab' hnew hle => ?_))
      obtain ⟨P', _, _, ⟨⟨o2, vs2, d1, d2, d3, d4⟩, _⟩⟩ := hnew
      obtain ⟨c2, o3, vs3, t3, f1, f2, f3, f4⟩ := hrec
      cases f1
      rw [d1] at f2; cases f2
      have hco : CodeObjOf h' (.ref c') t.2.2 := ⟨c', o2, vs3, t3, rfl, d1, d2, f3, f4⟩
      obtain ⟨W', E'⟩ := hw.code G.ok hle ht hok htab hold hx hok' htab' hco
      exact wpZ (lamTail_ok (s := { s with heap := h', toks := tk }) (pos := pos) G hf.glob W' hco) fun w1 s1 x1 => EvP.after hle E' x1
  · cases e
end
end Mine
end
section
set_option maxRecDepth 100000
set_option maxHeartbeats 2000000
set_option linter.unusedVariables false
namespace Mine
open PySem PySem.Calls PyProof.Rows PySem.W PySem.SeqAt

theorem W.chgW {cx : Cx} (C : CxOk cx) {σ : Sto} {g : Gh} {h h' : Heap} {tk tk' : Nat} (w : W cx σ g h tk) (hle : tk ≤ tk') {b : Addr} {ob : Obj} (hb : h.get? b = some ob) (hd : (∃ es ep, ob.data = .dict es ep) ∨ (∃ v, ob.data = .cell v))
    (hnew : cx.h₀.objs.size ≤ b) (hs : Heap.SameBut b h h') (hfr : b ∈ cx.frs → ∃ o es ep, h'.get? b = some o ∧ o.data = .dict es ep) : W cx σ g h' tk' := by
  have hi : Imm ob = false := by
    rcases hd with ⟨es, ep, e⟩ | ⟨v, e⟩
    · exact Imm_dict e
    · exact Imm_cell e
  have E : Mo g g h h' := ⟨⟨[], by simp⟩, fun a m => .inl m, Nat.le_refl _, fun _ _ => rfl, fun a o e h1 _ => (hs.2 a (fun q => by
    subst q; rw [hb] at e; cases e; rw [hi] at h1; cases h1)).trans e, fun a m n => absurd m n⟩
  have ne : ∀ {a : Addr} {o : Obj}, h.get? a = some o → (∀ es ep, o.data ≠ .dict es ep) → (∀ v, o.data ≠ .cell v) → a ≠ b := fun {a o} e h1 h2 q => by
    subst q; rw [hb] at e; cases e
    rcases hd with ⟨es, ep, e⟩ | ⟨v, e⟩
    · exact h1 _ _ e
    · exact h2 _ e
  have keep : ∀ {a : Addr} {o : Obj}, h.get? a = some o → (∀ es ep, o.data ≠ .dict es ep) → (∀ v, o.data ≠ .cell v) → h'.get? a = some o := fun {a o} e h1 h2 => (hs.2 a (ne e h1 h2)).trans e
  have hst : cStatics ≠ b := Nat.ne_of_lt (Nat.lt_of_lt_of_le C.stat hnew)
  refine ⟨Nat.lt_of_lt_of_le w.tok hle, fun a m => ?_, w.old.step_same hnew hs, ?_, w.nolim.sameBut hs hst, fun t m => ?_, w.len, w.nodup, fun a m => ?_, Nat.le_trans w.gn hle, w.base, w.based, w.fresh, fun i vs e => ?_⟩
  · by_cases q : a = b
    · subst q; exact hfr m
    · obtain ⟨o, es, ep, e, d⟩ := w.frs a m
      exact ⟨o, es, ep, (hs.2 a q).trans e, d⟩
  · obtain ⟨mc, a, b⟩ := w.booked
    exact ⟨mc, a.sameBut hs hst, b⟩
  · exact (w.tabs t m).move fun e d _ => keep e (fun _ _ q => nomatch d.symm.trans q) (fun _ q => nomatch d.symm.trans q)
  · obtain ⟨us, m, e⟩ := w.hidden a m
    exact ⟨us, m, keep e (fun es ep q => by cases q) (fun v q => by cases q)⟩
  · obtain ⟨a, ws, e1, ⟨m, e2⟩, e3⟩ := w.lists i vs e
    exact ⟨a, ws, e1, ⟨m, keep e2 (fun es ep q => by cases q) (fun v q => by cases q)⟩, e3.monoM E⟩
theorem W.chg {cx : Cx} (C : CxOk cx) {σ : Sto} {g : Gh} {h h' : Heap} {tk tk' : Nat} (w : W cx σ g h tk) (hle : tk ≤ tk') {b : Addr} {ob : Obj} (hb : h.get? b = some ob) (hd : (∃ es ep, ob.data = .dict es ep) ∨ (∃ v, ob.data = .cell v))
    (hnew : cx.h₀.objs.size ≤ b) (hs : Heap.SameBut b h h') (hfr : b ∈ cx.frs → ∃ o es ep, h'.get? b = some o ∧ o.data = .dict es ep) : W cx σ g h' tk' ∧ Ev cx [b] g g h h' := by
  have hi : Imm ob = false := by
    rcases hd with ⟨es, ep, e⟩ | ⟨v, e⟩
    · exact Imm_dict e
    · exact Imm_cell e
  exact ⟨w.chgW C hle hb hd hnew hs hfr, Ev.same hs.extBut hb hi (by simp)⟩


section
variable {prog : Program} {w : World} {A : Around} {s : Shared} {cx : Cx} {n : Nat} {r : R} {F : Facts} {sc : Scope} {σ σ' : Sto} {ρ : Loc} {v : V} {env : Env} {g : Gh}

theorem mem_cells {x : Str} {c : Addr} (h : env.cells.lookup x = some c) : c ∈ frame env := List.mem_cons_of_mem _ (List.mem_filterMap.mpr ⟨(x, c), mem_of_lookup h, if_pos h⟩)

theorem mem_wr_locals : env.locals ∈ wr env := by
  unfold wr
  split
  · simp
  · exact List.mem_cons_self
theorem mem_wr_cells (hfn : env.func ≠ none) {x : Str} {c : Addr} (hk : env.kindOf x = some .cell) (h : env.cells.lookup x = some c) : c ∈ wr env := by
  unfold wr
  split
  · rename_i q; exact absurd q hfn
  · exact List.mem_cons_of_mem _ (List.mem_filterMap.mpr ⟨(x, c), mem_of_lookup h, if_pos ⟨h, hk⟩⟩)

theorem store_ok {M : Model} (C : CxOk cx) {x : Str} {w' : Value} (hs : ScE env sc) (hc : canSt sc x = true) (hf : FrR cx env g ρ s.heap) (hw : W cx σ g s.heap s.toks) (hv : VR cx s.heap g v w') :
    wpAny M A (storeName env x w') (fun _ s' => ∃ h' tk, s' = { s with heap := h', toks := tk } ∧ s.toks ≤ tk ∧ W cx σ g h' tk ∧ Ev cx (wr env) g g s.heap h' ∧ FrR cx env g (put x v ρ) h') Z s := by
  have hk : env.kindOf x = some .local ∨ (env.kindOf x = some .cell ∧ env.func ≠ none) := by
    exact anyE hc fun o q h => (locCel h).imp (fun z => hs.at (q.trans (congrArg some z)) (fun x => nomatch x)) fun z => ⟨hs.at (q.trans (congrArg some z)) (fun x => nomatch x), fun hfn => hs.2 hfn x (q.trans (congrArg some z))⟩
  obtain ⟨m, hn, hm⟩ := hf.ns
  have hlow : ∀ y c, env.cells.lookup y = some c → c ≠ env.locals := fun y c hy q => by
    obtain ⟨⟨u, oc, e1, e2⟩, _⟩ := hf.cells y c hy
    obtain ⟨o, es, ep, e3, e4, _⟩ := hn
    rw [q, e3] at e1; cases e1
    rw [e4] at e2; cases e2
  rcases hk with hk | ⟨hk, hfn⟩
  · refine wpAny_storeName_local hk hn (fun h' hn' hs' => ?_) (by rw [hf.kind]; rfl)
    obtain ⟨o, es, ep, e3, e4, _⟩ := id hn
    obtain ⟨o', es', ep', e5, d5, _⟩ := id hn'
    obtain ⟨W', E'⟩ := hw.chg C (Nat.le_succ _) e3 (.inl ⟨es, ep, e4⟩) hf.l0 hs' (fun _ => ⟨o', es', ep', e5, d5⟩)
    refine ⟨h', s.toks + 1, rfl, Nat.le_succ _, W', E'.weaken (fun a ha => by rw [List.mem_singleton.mp ha]; exact mem_wr_locals), ⟨hf.kind, hf.glob, hf.blt, hf.la, hf.l0, ⟨_, hn', fun y u e => ?_⟩, fun y c hy => ?_, hf.lam, hf.has, hf.inj⟩⟩
    · rw [lk_put] at e
      by_cases hy : y = x
      · subst hy
        rw [if_pos rfl] at e; cases e
        exact .inl ⟨hk, w', by simp, hv.mono E'⟩
      · rw [if_neg hy] at e
        rcases hm y u e with ⟨k, w1, hw1, r1⟩ | ⟨k, c, w1, hc1, ⟨oc, hoc, hdc⟩, r1⟩
        · exact .inl ⟨k, w1, by simp only [if_neg hy]; exact hw1, r1.mono E'⟩
        · exact .inr ⟨k, c, w1, hc1, ⟨oc, (hs'.2 c (hlow y c hc1)).trans hoc, hdc⟩, r1.mono E'⟩
    · obtain ⟨⟨u, oc, e1, e2⟩, f1, f2⟩ := hf.cells y c hy
      exact ⟨⟨u, oc, (hs'.2 c (hlow y c hy)).trans e1, e2⟩, f1, f2⟩
  · obtain ⟨c, hc1⟩ := Option.isSome_iff_exists.mp (hf.has x hk)
    obtain ⟨⟨u, oc, e1, e2⟩, f1, f2⟩ := hf.cells x c hc1
    refine wpAny_storeName_cell hf.kind hk hc1 ⟨oc, e1, e2⟩ fun h' hcell' hs' => ?_
    obtain ⟨o', e5, _⟩ := id hcell'
    obtain ⟨W', E'⟩ := hw.chg C (Nat.le_refl _) e1 (.inr ⟨u, e2⟩) f2 hs' (fun m => by
      obtain ⟨o, es, ep, q1, q2⟩ := hw.frs c m
      rw [e1] at q1; cases q1; rw [e2] at q2; cases q2)
    have hne : ∀ y c', env.cells.lookup y = some c' → y ≠ x → c' ≠ c := fun y c' hy hyx q => hyx (hf.inj y x c (q ▸ hy) hc1)
    refine ⟨h', s.toks, rfl, Nat.le_refl _, W', E'.weaken (fun a ha => by rw [List.mem_singleton.mp ha]; exact mem_wr_cells hfn hk hc1), ⟨hf.kind, hf.glob, hf.blt, hf.la, hf.l0, ⟨m, hn.sameBut hs' (Ne.symm (hlow x c hc1)), fun y u e => ?_⟩, fun y c' hy => ?_, hf.lam, hf.has, hf.inj⟩⟩
    · rw [lk_put] at e
      by_cases hy : y = x
      · subst hy
        rw [if_pos rfl] at e; cases e
        exact .inr ⟨.inl hk, c, w', hc1, hcell', hv.mono E'⟩
      · rw [if_neg hy] at e
        rcases hm y u e with ⟨k, w1, hw1, r1⟩ | ⟨k, c', w1, hc2, ⟨oc', hoc, hdc⟩, r1⟩
        · exact .inl ⟨k, w1, hw1, r1.mono E'⟩
        · exact .inr ⟨k, c', w1, hc2, ⟨oc', (hs'.2 c' (hne y c' hc2 hy)).trans hoc, hdc⟩, r1.mono E'⟩
    · by_cases hyx : y = x
      · subst hyx
        rw [hc1] at hy; cases hy
        exact ⟨⟨_, hcell'⟩, f1, f2⟩
      · obtain ⟨⟨u', oc', g1, g2⟩, f1', f2'⟩ := hf.cells y c' hy
        exact ⟨⟨u', oc', (hs'.2 c' (hne y c' hy hyx)).trans g1, g2⟩, f1', f2'⟩
end
end Mine
end
section
set_option maxRecDepth 100000
set_option maxHeartbeats 2000000
set_option linter.unusedVariables false
namespace Mine
open PySem PySem.Calls PyProof.Rows PySem.W PySem.SeqAt

section
variable {prog : Program} {w : World} {A : Around} {s : Shared} {cx : Cx} {n : Nat} {r : R} {F : Facts} {sc : Scope} {σ σ' : Sto} {ρ ρ' : Loc} {v : V} {env : Env} {g : Gh}

theorem StP.elim {s₁ : Shared} (x : StP cx env g s σ ρ s₁) : ∃ g₁, W cx σ g₁ s₁.heap s₁.toks ∧ FrR cx env g₁ ρ s₁.heap ∧ s.toks ≤ s₁.toks ∧ Ev cx (wr env) g g₁ s.heap s₁.heap ∧ ∃ h tk, s₁ = { s with heap := h, toks := tk } := by
  obtain ⟨h', tk, g', rfl, l, w1, e1, f1⟩ := x
  exact ⟨g', w1, f1, l, e1, h', tk, rfl⟩
noncomputable def After (cx : Cx) (env : Env) (g : Gh) (s : Shared) (g₁ : Gh) (s₁ : Shared) : Prop := (∃ h tk, s₁ = { s with heap := h, toks := tk }) ∧ s.toks ≤ s₁.toks ∧ Ev cx (wr env) g g₁ s.heap s₁.heap
theorem StP.k {P : Prop} {s₁ : Shared} (x : StP cx env g s σ ρ s₁) (k : ∀ g₁, W cx σ g₁ s₁.heap s₁.toks → FrR cx env g₁ ρ s₁.heap → After cx env g s g₁ s₁ → P) : P := x.elim.elim fun g1 y => k g1 y.1 y.2.1 ⟨y.2.2.2.2, y.2.2.1, y.2.2.2.1⟩
theorem StP.after {g₁ : Gh} {s₁ s₂ : Shared} (hsame : ∃ h tk, s₁ = { s with heap := h, toks := tk }) (l : s.toks ≤ s₁.toks) (e : Ev cx (wr env) g g₁ s.heap s₁.heap) (y : StP cx env g₁ s₁ σ ρ s₂) : StP cx env g s σ ρ s₂ := by
  obtain ⟨h1, t1, rfl⟩ := hsame
  obtain ⟨h', tk, g', rfl, l', w1, e1, f1⟩ := y
  exact ⟨h', tk, g', rfl, Nat.le_trans l l', w1, e.trans e1 (fun a m => (f1.free_wr a m).1), f1⟩
theorem StP.refl (hf : FrR cx env g ρ s.heap) (hw : W cx σ g s.heap s.toks) : StP cx env g s σ ρ s := ⟨s.heap, s.toks, g, rfl, Nat.le_refl _, hw, .refl, hf⟩
theorem frame_weaken {g g' : Gh} {h h' : Heap} (e : Ev cx [] g g' h h') {X : List Addr} : Ev cx X g g' h h' := e.weaken (by simp)

theorem asg1_some {x : Str} (h : asg1 sc ρ x v = some ρ') : canSt sc x = true ∧ ρ' = put x v ρ := by
  exact whE h fun q h => ⟨q, (Option.some.inj h).symm⟩

theorem bind_ok (C : CxOk cx) {x : Str} {w' : Value} (hs : ScE env sc) (e : asg1 sc ρ x v = some ρ') (hf : FrR cx env g ρ s.heap) (hw : W cx σ g s.heap s.toks) (hv : VR cx s.heap g v w') :
    wpAny (model prog w) A (bindName env x w') (fun _ s' => StP cx env g s σ ρ' s') Z s := by
  obtain ⟨hc, rfl⟩ := asg1_some e
  refine wpAny_bindName (wpZ (store_ok C hs hc hf hw hv) fun _ s' x => ?_)
  obtain ⟨h', tk, e1, l, w1, e2, f1⟩ := x
  exact ⟨h', tk, g, e1, l, w1, e2, f1⟩

set_option smartUnfolding false in
theorem asgNames_inv {x : Expr} {es : List Expr} {a : V} {l : List V} : asgNames sc ρ (x :: es) (a :: l) = some ρ' → ∃ nm p, x = .Name nm p ∧ canSt sc nm = true ∧ asgNames sc (put nm a ρ) es l = some ρ' := by
  cases x with
  | Name nm p =>
    intro e
    have e : (asg1 sc ρ nm a).bind (fun ρ => asgNames sc ρ es l) = some ρ' := e
    obtain ⟨ρ1, e1, e2⟩ := Option.bind_eq_some_iff.mp e
    obtain ⟨hc, rfl⟩ := asg1_some e1
    exact ⟨nm, p, rfl, hc, e2⟩
  | _ => exact nofun
theorem names_ok (C : CxOk cx) {es : List Expr} : ∀ {vs : List V} {ws : List Value} {ρ ρ' : Loc} {g : Gh} {s : Shared}, asgNames sc ρ es vs = some ρ' → ScE env sc → FrR cx env g ρ s.heap → W cx σ g s.heap s.toks → VRs cx s.heap g vs ws →
    wpAny (model prog w) A (assignInOrder ((assignEach es env).map (·.2)) ws) (fun _ s' => StP cx env g s σ ρ' s') Z s := by
  induction es with
  | nil =>
    intro vs ws ρ ρ' g s e hs hf hw hv
    cases vs with
    | nil => cases Option.some.inj e; exact wpAny_pure (StP.refl hf hw)
    | cons a l => exact nsE e
  | cons x es ih =>
    intro vs ws ρ ρ' g s e hs hf hw hv
    cases vs with
    | nil => exact nsE e
    | cons a l =>
      obtain ⟨nm, p, rfl, hc, e⟩ := asgNames_inv e
      apply VRs.consP hv; intro w1 wl h1 h2
      refine assignInOrder_cons (wpAny_assign_Name (wpZ (store_ok C hs hc hf hw h1) fun _ s1 x1 => ?_))
      obtain ⟨h', tk, rfl, l1, W1, E1, f1⟩ := x1
      exact wpZ (ih e hs f1 W1 (h2.mono E1)) fun _ s2 x2 => StP.after ⟨h', tk, rfl⟩ l1 E1 x2

theorem each_len (es : List Expr) : ∀ {vs : List V} {ρ ρ' : Loc}, asgNames sc ρ es vs = some ρ' → (assignEach es env).length = vs.length ∧ (assignEach es env).findIdx? (·.1) = none ∧ es.length = vs.length := by
  induction es with
  | nil =>
    intro vs ρ ρ' e
    cases vs with
    | nil => exact ⟨rfl, rfl, rfl⟩
    | cons a l => exact nsE e
  | cons x es ih =>
    intro vs ρ ρ' e
    cases vs with
    | nil => exact nsE e
    | cons a l =>
      obtain ⟨nm, p, rfl, _, e⟩ := asgNames_inv e
      have h := ih e
      refine ⟨congrArg (· + 1) h.1, ?_, congrArg (· + 1) h.2.2⟩
      show ((false, assign (.Name nm p) env) :: assignEach es env).findIdx? (·.1) = none
      rw [List.findIdx?_cons, h.2.1]; rfl

theorem keepsExt {h h' : Heap} (x : Heap.ExtBut h.objs.size h h') : ∀ b o, h.get? b = some o → h'.get? b = some o := fun b o e => x b o (Nat.ne_of_lt (Heap.lt_size e)) e

theorem asg_ok (C : CxOk cx) {t : Expr} {w' : Value} (hs : ScE env sc) (e : asgV sc ρ t v = some ρ') (hf : FrR cx env g ρ s.heap) (hw : W cx σ g s.heap s.toks) (hv : VR cx s.heap g v w') (hA : A.handled = none) :
    wpAny (model prog w) A (assign t env w') (fun _ s' => StP cx env g s σ ρ' s') Z s := by
  cases t with
  | Name x p =>
    obtain ⟨hc, rfl⟩ := asg1_some e
    refine wpAny_assign_Name (wpZ (store_ok C hs hc hf hw hv) fun _ s' x => ?_)
    obtain ⟨h', tk, e1, l, w1, e2, f1⟩ := x
    exact ⟨h', tk, g, e1, l, w1, e2, f1⟩
  | Tuple es k p =>
    cases v with
    | tup vs =>
      have e : asgNames sc ρ es vs = some ρ' := e
      apply hv.tupE; intro ws a p1 n1 r1
      obtain ⟨h1, h2, _⟩ := each_len (env := env) es e
      refine wpAny_assign_Tuple hA p1.isTuple (by rw [h1, List.size_toArray, r1.length]) h2 fun h' hx => ?_
      have k := keepsExt hx
      have E : Ev cx [] g g s.heap h' := .keeps k
      rw [List.toList_toArray]
      exact wpZ (names_ok (s := { s with heap := h' }) C e hs (hf.mono C E) (hw.keeps k (Nat.le_refl _)) (r1.mono E)) fun _ s2 x2 => StP.after ⟨h', s.toks, rfl⟩ (Nat.le_refl _) (frame_weaken E) x2
    | _ => exact nsE e
  | _ => exact nsE e
end
end Mine
end
section
set_option maxRecDepth 100000
set_option maxHeartbeats 2000000
set_option linter.unusedVariables false
namespace Mine
open PySem PySem.Calls PyProof.Rows PySem.W PySem.SeqAt

theorem sN_name {n : Nat} {x : Str} {p : Pos} (h : sN n (.Name x p) = true) : constantsAlone n (.Name x p) = false := by
  cases q : seq x sDebug with
  | true =>
    have e := strEq_of_seq q
    subst e
    cases n with
    | zero => exact ftE h
    | succ n => exact ftE h
  | false =>
    rw [seq_eq] at q
    cases n with
    | zero => exact q
    | succ n => exact q
set_option smartUnfolding false in
theorem sN_ok (n : Nat) : ∀ (e : Expr), sN n e = true → constantsAlone n e = false := by
  induction n with
  | zero =>
    intro e
    cases e with
    | Name x p => exact sN_name
    | Call a b c d => exact fun _ => rfl
    | List a b => exact fun _ => rfl
    | _ => exact fun h => ftE h
  | succ n ih =>
    intro e
    cases e with
    | Name x p => exact sN_name
    | Call a b c d => exact fun _ => rfl
    | List a b => exact fun _ => rfl
    | BinOp l op r p => exact fun h => Bool.and_eq_false_imp.mpr fun q => (Bool.or_eq_true_iff.mp (show (sN n l || sN n r) = true from h)).elim (fun h => tfE (q.symm.trans (ih l h))) (ih r)
    | Subscript v sl p => exact fun h => Bool.and_eq_false_imp.mpr fun q => tfE (q.symm.trans (ih v h))
    | _ => exact fun h => ftE h
theorem anyB_const : ∀ {vs : List Expr}, anyB (sN 8) vs = true → ¬ (vs.all (constantsAlone 8) = true)
  | [], h => by cases h
  | v :: vs, h => by
    unfold anyB at h
    rw [List.all_cons]
    split at h
    · rename_i q; rw [sN_ok 8 v q]; simp
    · have := anyB_const h
      simp only [Bool.and_eq_true, not_and]
      exact fun _ => this

noncomputable def nameL (env : Env) (line : Nat) (t : Expr) : Option Str := match t with
    | .Name id pos => if env.kindOf id == some .local && pos.line == line then some id else none
    | _ => none
theorem ifC {α : Type} {c : Prop} [Decidable c] {a b : α} {P : α → Prop} (h1 : c → P a) (h2 : ¬ c → P b) : P (ite c a b) := by
  by_cases h : c
  · rw [if_pos h]; exact h1 h
  · rw [if_neg h]; exact h2 h
theorem swapped_ok {env : Env} {ts vs : List Expr} {a c : Nat} {b d : Pos} (hc : ¬ (vs.all (constantsAlone 8) = true)) :
    swappedStores [.Tuple ts a b] (.Tuple vs c d) env = pure none ∨ ∃ names line, swappedStores [.Tuple ts a b] (.Tuple vs c d) env = pure (some names) ∧ names = ts.filterMap (nameL env line) ∧ names.length = ts.length := by
  let P : Sem (Option (List Str)) → Prop := fun z : Sem (Option (List Str)) => z = pure none ∨ ∃ names line, z = pure (some names) ∧ names = ts.filterMap (nameL env line) ∧ names.length = ts.length
  show P _
  exact ifC (P := P) (fun _ => .inl rfl) fun _ => ifC (P := P) (fun _ => .inl rfl) fun _ => ifC (P := P) (fun _ => .inl rfl) fun h3 => ifC (P := P) (fun _ => .inl rfl) fun _ => ifC (P := P) (fun h => absurd h hc) fun _ => .inr ⟨_, _, rfl, rfl, by
      simp only [Bool.or_eq_true, not_or, bne_iff_ne, ne_eq, Decidable.not_not] at h3
      exact h3.1⟩

noncomputable def putAll : List Str → List V → Loc → Loc
  | x :: xs, v :: vs, ρ => putAll xs vs (put x v ρ)
  | _, _, ρ => ρ
theorem putAll_congr : ∀ (xs : List Str) (vs : List V) {ρ ρ' : Loc}, (∀ y, lk y ρ = lk y ρ') → ∀ y, lk y (putAll xs vs ρ) = lk y (putAll xs vs ρ')
  | [], vs, ρ, ρ', h, y => by unfold putAll; exact h y
  | x :: xs, [], ρ, ρ', h, y => by unfold putAll; exact h y
  | x :: xs, v :: vs, ρ, ρ', h, y => by
    show lk y (putAll xs vs (put x v ρ)) = lk y (putAll xs vs (put x v ρ'))
    exact putAll_congr xs vs (fun z => by rw [lk_put, lk_put, h]) y
theorem putAll_put : ∀ (xs : List Str) (vs : List V) (x : Str) (v : V) (ρ : Loc), x ∉ xs → ∀ y, lk y (putAll xs vs (put x v ρ)) = lk y (put x v (putAll xs vs ρ))
  | [], vs, x, v, ρ, h, y => by unfold putAll; rfl
  | z :: xs, [], x, v, ρ, h, y => by unfold putAll; rfl
  | z :: xs, u :: vs, x, v, ρ, h, y => by
    show lk y (putAll xs vs (put z u (put x v ρ))) = lk y (put x v (putAll xs vs (put z u ρ)))
    have hz : z ≠ x := fun q => h (q ▸ List.mem_cons_self)
    have h1 : lk y (putAll xs vs (put z u (put x v ρ))) = lk y (putAll xs vs (put x v (put z u ρ))) := putAll_congr xs vs (fun a => by
      simp only [lk_put]
      by_cases h1 : a = z
      · subst h1; simp [hz]
      · simp [h1]) y
    rw [h1]
    exact putAll_put xs vs x v (put z u ρ) (fun q => h (List.mem_cons_of_mem _ q)) y
theorem putAll_snoc : ∀ (xs : List Str) (vs : List V) (x : Str) (v : V) (ρ : Loc), xs.length = vs.length → putAll (xs ++ [x]) (vs ++ [v]) ρ = put x v (putAll xs vs ρ)
  | [], [], x, v, ρ, _ => rfl
  | [], _ :: _, _, _, _, h => by simp at h
  | _ :: _, [], _, _, _, h => by simp at h
  | z :: xs, u :: vs, x, v, ρ, h => putAll_snoc xs vs x v (put z u ρ) (by simpa using h)
theorem putAll_rev : ∀ (xs : List Str) (vs : List V) (ρ : Loc), xs.Nodup → xs.length = vs.length → ∀ y, lk y (putAll xs.reverse vs.reverse ρ) = lk y (putAll xs vs ρ)
  | [], [], ρ, _, _, y => rfl
  | [], _ :: _, _, _, h, _ => by simp at h
  | _ :: _, [], _, _, h, _ => by simp at h
  | x :: xs, v :: vs, ρ, hn, hl, y => by
    obtain ⟨h1, h2⟩ := List.nodup_cons.mp hn
    have hl' : xs.length = vs.length := by simpa using hl
    rw [List.reverse_cons, List.reverse_cons, putAll_snoc _ _ _ _ _ (by simpa using hl')]
    show _ = lk y (putAll xs vs (put x v ρ))
    rw [putAll_put xs vs x v ρ h1, lk_put, lk_put, putAll_rev xs vs ρ h2 hl']

section
variable {prog : Program} {w : World} {A : Around} {s : Shared} {cx : Cx} {n : Nat} {r : R} {F : Facts} {sc : Scope} {σ σ' : Sto} {ρ ρ' : Loc} {v : V} {env : Env} {g : Gh}

theorem FrR.congr {h : Heap} (f : FrR cx env g ρ h) (e : ∀ y, lk y ρ' = lk y ρ) : FrR cx env g ρ' h :=
  ⟨f.kind, f.glob, f.blt, f.la, f.l0, let ⟨m, hn, hm⟩ := f.ns; ⟨m, hn, fun x v q => hm x v ((e x).symm.trans q)⟩, f.cells, f.lam, f.has, f.inj⟩
theorem StP.congr {s' : Shared} (x : StP cx env g s σ ρ s') (e : ∀ y, lk y ρ' = lk y ρ) : StP cx env g s σ ρ' s' :=
  let ⟨h', tk, g', q, l, w1, e1, f1⟩ := x; ⟨h', tk, g', q, l, w1, e1, f1.congr e⟩

theorem binds_ok (C : CxOk cx) : ∀ {xs : List Str} {vs : List V} {ws : List Value} {ρ : Loc} {g : Gh} {s : Shared}, (∀ x ∈ xs, canSt sc x = true) → xs.length = vs.length → ScE env sc → FrR cx env g ρ s.heap → W cx σ g s.heap s.toks → VRs cx s.heap g vs ws →
    wpAny (model prog w) A (assignInOrder (xs.map fun n => bindName env n) ws) (fun _ s' => StP cx env g s σ (putAll xs vs ρ) s') Z s
  | [], [], ws, ρ, g, s, hx, hl, hs, hf, hw, hv => by cases hv; exact wpAny_pure (StP.refl hf hw)
  | [], _ :: _, _, _, _, _, _, hl, _, _, _, _ => by simp at hl
  | _ :: _, [], _, _, _, _, _, hl, _, _, _, _ => by simp at hl
  | x :: xs, v :: vs, _, ρ, g, s, hx, hl, hs, hf, hw, .cons (w := w1) (ws := wl) h1 h2 => by
    refine assignInOrder_cons (wpAny_bindName (wpZ (store_ok C hs (hx x List.mem_cons_self) hf hw h1) fun _ s1 x1 => ?_))
    obtain ⟨h', tk, rfl, l1, W1, E1, f1⟩ := x1
    exact wpZ (binds_ok C (fun y hy => hx y (List.mem_cons_of_mem _ hy)) (by simpa using hl) hs f1 W1 (h2.mono E1)) fun _ s2 x2 => StP.after ⟨h', tk, rfl⟩ l1 E1 x2

theorem VRs.reverse {h : Heap} : ∀ {vs : List V} {ws : List Value}, VRs cx h g vs ws → VRs cx h g vs.reverse ws.reverse
  | _, _, .nil => .nil
  | _, _, .cons a r => by rw [List.reverse_cons, List.reverse_cons]; exact (VRs.reverse r).append (.cons a .nil)

theorem asgNames_put {line : Nat} {es : List Expr} : ∀ {vs : List V} {ρ ρ' : Loc} {names : List Str}, asgNames sc ρ es vs = some ρ' → names = es.filterMap (nameL env line) → names.length = es.length → distinctE es = true →
    ρ' = putAll names vs ρ ∧ (∀ x ∈ names, canSt sc x = true) ∧ names.Nodup ∧ (∀ x, inNames x es = false → x ∉ names) := by
  induction es with
  | nil =>
    intro vs ρ ρ' names e hn hl hd
    subst hn
    cases vs with
    | nil => cases Option.some.inj e; exact ⟨rfl, fun _ hx => absurd hx List.not_mem_nil, .nil, fun _ _ => List.not_mem_nil⟩
    | cons a l => exact nsE e
  | cons t es ih =>
    intro vs ρ ρ' names e hn hl hd
    cases vs with
    | nil => exact nsE e
    | cons a l =>
      obtain ⟨nm, p, rfl, hc, e⟩ := asgNames_inv e
      have hd : cond (inNames nm es) false (distinctE es) = true := hd
      cases hin : inNames nm es with
      | true => rw [hin] at hd; exact ftE hd
      | false =>
        rw [hin] at hd
        cases hq : nameL env line (.Name nm p) with
        | none =>
          rw [hn, List.filterMap_cons_none hq, List.length_cons] at hl
          exact absurd hl (Nat.ne_of_lt (Nat.lt_succ_of_le (List.length_filterMap_le _ _)))
        | some nm' =>
          rw [List.filterMap_cons_some hq, ← Option.some.inj (Option.ite_none_right_eq_some.mp hq).2] at hn
          subst hn
          obtain ⟨h1, h2, h3, h4⟩ := ih e rfl (Nat.succ.inj hl) hd
          have hnot := h4 nm hin
          refine ⟨h1, fun x hx => (List.mem_cons.mp hx).elim (fun q => q ▸ hc) (h2 x), List.nodup_cons.mpr ⟨hnot, h3⟩, fun x hx hm => ?_⟩
          have hx : (seq x nm || inNames x es) = false := hx
          have hx := Bool.or_eq_false_iff.mp hx
          exact (List.mem_cons.mp hm).elim (fun q => seq_false hx.1 q) (h4 x hx.2)
theorem ExP.of_st {fl : Fl} {f : Flow} {s' : Shared} (x : StP cx env g s σ ρ s') (hfl : ∀ g h, FlR cx g h fl f) : ExP cx env g s σ ρ fl f s' :=
  let ⟨h', tk, g', q, l, w1, e1, f1⟩ := x; ⟨h', tk, g', q, l, w1, e1, f1, hfl _ _⟩

theorem plainAsg (G : CxG cx) {t e : Expr} {w' : Value} (hs : ScE env sc) (ea : asgV sc ρ t v = some ρ') (hf : FrR cx env g ρ s.heap) (hw : W cx σ g s.heap s.toks) (hv : VR cx s.heap g v w') (hA : A.handled = none) (hq : swappedStores [t] e env = pure none) :
    wpAny (model prog w) A (do assignStores env w' (← swappedStores [t] e env) ((assignEach [t] env).map (·.2))) (fun f s' => ExP cx env g s σ ρ' .next f s') Z s := by
  rw [hq]
  refine wpAny_bind (wpAny_pure ?_)
  have ht : (assignEach [t] env).map (·.2) = [assign t env] := by
    cases t <;> first | rfl | exact nsE ea
  rw [ht]
  show wpAny (model prog w) A (do assign t env w'; pure Flow.next) _ _ s
  exact wpAny_bind (wpZ (asg_ok G.ok hs ea hf hw hv hA) fun _ s1 x1 => wpAny_pure (ExP.of_st x1 fun _ _ => rfl))
theorem swapAsg (G : CxG cx) {ts : List Expr} {a : Nat} {b : Pos} {line : Nat} {e : Expr} {names : List Str} {w' : Value} (hs : ScE env sc) (hd : distinctE ts = true) (ea : asgV sc ρ (.Tuple ts a b) v = some ρ') (hf : FrR cx env g ρ s.heap) (hw : W cx σ g s.heap s.toks) (hv : VR cx s.heap g v w') (hA : A.handled = none)
    (hq : swappedStores [.Tuple ts a b] e env = pure (some names)) (hn : names = ts.filterMap (nameL env line)) (hl : names.length = ts.length) :
    wpAny (model prog w) A (do assignStores env w' (← swappedStores [.Tuple ts a b] e env) ((assignEach [.Tuple ts a b] env).map (·.2))) (fun f s' => ExP cx env g s σ ρ' .next f s') Z s := by
  rw [hq]
  refine wpAny_bind (wpAny_pure ?_)
  cases v with
  | tup us =>
    have ea : asgNames sc ρ ts us = some ρ' := ea
    apply hv.tupE; intro ws addr p1 n1 r1
    obtain ⟨k1, k2, k3, _⟩ := asgNames_put (line := line) (env := env) ea hn hl hd
    have hlen : names.length = us.length := hl.trans (each_len (env := env) ts ea).2.2
    have hsz : names.length = ws.toArray.size := hlen.trans (r1.length.trans List.size_toArray.symm)
    show wpAny (model prog w) A (do
      rule "assign.swapped-stores"
      let items ← unpackItems (.ref addr) names.length none
      assignInOrder (names.reverse.map fun n => bindName env n) items.reverse
      pure Flow.next) _ _ s
    refine wpAny_bind (wpAny_rule (wpAny_bind ?_))
    rw [hsz]
    refine wpAny_unpackItems_tuple hA p1.isTuple fun h' hx => ?_
    have k := keepsExt hx
    have E : Ev cx [] g g s.heap h' := .keeps k
    refine wpAny_bind (wpZ (binds_ok (s := { s with heap := h' }) (vs := us.reverse) G.ok (fun x hx => k2 x (List.mem_reverse.mp hx)) (by rw [List.length_reverse, List.length_reverse]; exact hlen) hs (hf.mono G.ok E) (hw.keeps k (Nat.le_refl _)) (by rw [List.toList_toArray]; exact VRs.reverse (r1.mono E))) fun _ s2 x2 => wpAny_pure ?_)
    have x3 := StP.after (g := g) (s := s) ⟨h', s.toks, rfl⟩ (Nat.le_refl _) (frame_weaken E) x2
    refine ExP.of_st (x3.congr fun y => ?_) fun _ _ => rfl
    rw [k1, putAll_rev names us ρ k3 hlen]
  | _ => exact nsE ea
theorem assignStores_ok (G : CxG cx) {t e : Expr} {w' : Value} (hs : ScE env sc) (hok : okAsg t e = true) (ea : asgV sc ρ t v = some ρ') (hf : FrR cx env g ρ s.heap) (hw : W cx σ g s.heap s.toks) (hv : VR cx s.heap g v w') (hA : A.handled = none) :
    wpAny (model prog w) A (do assignStores env w' (← swappedStores [t] e env) ((assignEach [t] env).map (·.2))) (fun f s' => ExP cx env g s σ ρ' .next f s') Z s := by
  have plain := plainAsg (s := s) (A := A) (prog := prog) (w := w) (e := e) G hs ea hf hw hv hA
  cases t with
  | Tuple ts a b =>
    cases e with
    | Tuple vs c d =>
      delta okAsg at hok
      dsimp only at hok
      split at hok
      rotate_left
      · cases hok
      rename_i h1 h2
      rcases swapped_ok (env := env) (a := a) (b := b) (c := c) (d := d) (ts := ts) (anyB_const h1) with hq | ⟨names, line, hq, hn, hl⟩
      · exact plain hq
      · exact swapAsg G hs h2 ea hf hw hv hA hq hn hl
    | _ => exact plain rfl
  | List a b => exact nsE ea
  | _ => exact plain rfl
end
end Mine
end
section
set_option maxRecDepth 100000
set_option maxHeartbeats 2000000
set_option linter.unusedVariables false
namespace Mine
open PySem PySem.Calls PyProof.Rows PySem.W PySem.SeqAt

section
variable {prog : Program} {w : World} {A : Around} {s : Shared} {cx : Cx} {n : Nat} {r : R} {F : Facts} {sc : Scope} {σ σ' : Sto} {ρ ρ' : Loc} {v : V} {env : Env} {g : Gh} {fl : Fl}

theorem ExP.elim {f : Flow} {s₁ : Shared} (x : ExP cx env g s σ ρ fl f s₁) : ∃ g₁, W cx σ g₁ s₁.heap s₁.toks ∧ FrR cx env g₁ ρ s₁.heap ∧ s.toks ≤ s₁.toks ∧ Ev cx (wr env) g g₁ s.heap s₁.heap ∧ (∃ h tk, s₁ = { s with heap := h, toks := tk }) ∧ FlR cx g₁ s₁.heap fl f := by
  obtain ⟨h', tk, g', rfl, l, w1, e1, f1, k⟩ := x
  exact ⟨g', w1, f1, l, e1, ⟨h', tk, rfl⟩, k⟩
theorem ExP.after {g₁ : Gh} {s₁ s₂ : Shared} {f : Flow} (hsame : ∃ h tk, s₁ = { s with heap := h, toks := tk }) (l : s.toks ≤ s₁.toks) (e : Ev cx (wr env) g g₁ s.heap s₁.heap) (y : ExP cx env g₁ s₁ σ ρ fl f s₂) : ExP cx env g s σ ρ fl f s₂ := by
  obtain ⟨h1, t1, rfl⟩ := hsame
  obtain ⟨h', tk, g', rfl, l', w1, e1, f1, k⟩ := y
  exact ⟨h', tk, g', rfl, Nat.le_trans l l', w1, e.trans e1 (fun a m => (f1.free_wr a m).1), f1, k⟩
theorem ExP.here (hf : FrR cx env g ρ s.heap) (hw : W cx σ g s.heap s.toks) : ExP cx env g s σ ρ .next .next s := ⟨s.heap, s.toks, g, rfl, Nat.le_refl _, hw, .refl, hf, rfl⟩
theorem Next.ex {g₁ : Gh} {s₁ s₂ : Shared} {f : Flow} (x : Next cx g s g₁ s₁) (y : ExP cx env g₁ s₁ σ ρ fl f s₂) : ExP cx env g s σ ρ fl f s₂ := ExP.after x.same x.tok (frame_weaken x.evo) y

theorem ExP.nx {f : Flow} {s₁ : Shared} {P : Flow → Prop} (x : ExP cx env g s σ ρ .next f s₁) (k : ∀ g₁, W cx σ g₁ s₁.heap s₁.toks → FrR cx env g₁ ρ s₁.heap → After cx env g s g₁ s₁ → P .next) : P f :=
  x.elim.elim fun g1 y => (show f = .next from y.2.2.2.2.2) ▸ k g1 y.1 y.2.1 ⟨y.2.2.2.2.1, y.2.2.1, y.2.2.2.1⟩
theorem ExP.rt {f : Flow} {s₁ : Shared} {P : Flow → Prop} (x : ExP cx env g s σ ρ (.ret v) f s₁) (k : ∀ wv, ExP cx env g s σ ρ (.ret v) (.ret wv) s₁ → P (.ret wv)) : P f :=
  x.elim.elim fun g1 y => Exists.elim (show ∃ wv, f = .ret wv ∧ VR cx s₁.heap g1 v wv from y.2.2.2.2.2) fun wv z => z.1 ▸ k wv (z.1 ▸ x)
theorem exs_ok (H : Sound prog w cx fr n r) {ss : List Stmt} {σ σ' : Sto} {ρ ρ' : Loc} {fl : Fl} {g : Gh} {s : Shared} (e : exs r sc σ ρ ss = some (fl, σ', ρ')) (hs : ScE env sc) (hf : FrR cx env g ρ s.heap) (hw : W cx σ g s.heap s.toks) (hA : Room fr n A) :
    wpAny (model prog w) A (execs ss env) (ExP cx env g s σ' ρ' fl) Z s := by
  induction ss generalizing σ ρ g s with
  | nil => exact p2a e ▸ p3b e ▸ p3c e ▸ wpAny_execs_nil (ExP.here hf hw)
  | cons st ss ih =>
    exact bindE e fun p q1 e => wpAny_execs_cons (wpZ (H.ex q1 hs hf hw hA) fun f s1 x1 => by
      obtain ⟨f0, σ1, ρ1⟩ := p
      cases f0 with
      | next => apply x1.nx; exact fun g1 W1 F1 A1 => wpZ (ih e F1 W1) fun f2 s2 x2 => ExP.after A1.1 A1.2.1 A1.2.2 x2
      | ret v => refine p2a e ▸ p3b e ▸ p3c e ▸ ?_; apply x1.rt; exact fun wv x => x)

theorem exRet_ok (H : Sound prog w cx fr n r) (G : CxG cx) {vo : Option Expr} {pos : Pos} (e : exRet r sc σ ρ vo = some (fl, σ', ρ')) (hs : ScE env sc) (hf : FrR cx env g ρ s.heap) (hw : W cx σ g s.heap s.toks) (hA : Room fr n A) :
    wpAny (model prog w) A (exec (.Return vo pos) env) (ExP cx env g s σ' ρ' fl) Z s := by
  cases vo with
  | none => exact nsE e
  | some x => exact bindE (show ((r.ev sc σ ρ x).bind fun q => some (Fl.ret q.1, q.2, ρ)) = _ from e) fun q q1 e => p2a e ▸ p3b e ▸ p3c e ▸ (wpAny_Return_some (wpZ (H.ev q1 hs hf hw hA) fun wv s1 x1 => by
      obtain ⟨h', tk, g', rfl, l, w1, e1, v1⟩ := x1
      exact ⟨h', tk, g', rfl, l, w1, frame_weaken e1, hf.mono G.ok e1, wv, rfl, v1⟩))
theorem exIf_ok (H : Sound prog w cx fr n r) (G : CxG cx) {t : Expr} {b o : List Stmt} {pos : Pos} (e : exIf r sc σ ρ t b o = some (fl, σ', ρ')) (hs : ScE env sc) (hf : FrR cx env g ρ s.heap) (hw : W cx σ g s.heap s.toks) (hA : Room fr n A) :
    wpAny (model prog w) A (exec (.If t b o pos) env) (ExP cx env g s σ' ρ' fl) Z s :=
  bindE e fun q q1 e => wpAny_If (wpZ (H.tst q1 hs hf hw hA) fun b1 s1 x1 => x1.1 ▸ x1.k fun g1 W1 N1 => by
    split at e
    · rename_i q; rw [q]; exact wpZ (exs_ok H e hs (hf.mono G.ok N1.evo) W1 hA) fun f s2 x2 => N1.ex x2
    · rename_i q; rw [q]; exact wpZ (exs_ok H e hs (hf.mono G.ok N1.evo) W1 hA) fun f s2 x2 => N1.ex x2)
theorem isCall_sw {x : Expr} {l : Nat} (e : isCall x = true) : swapsWith x none l env = pure false := by cases x <;> first | exact ftE e | rfl
theorem exExpr_ok (H : Sound prog w cx fr n r) (G : CxG cx) {x : Expr} {pos : Pos} (e : exExpr r sc σ ρ x = some (fl, σ', ρ')) (hs : ScE env sc) (hf : FrR cx env g ρ s.heap) (hw : W cx σ g s.heap s.toks) (hA : Room fr n A) :
    wpAny (model prog w) A (exec (.Expr x pos) env) (ExP cx env g s σ' ρ' fl) Z s := by
  exact whE e fun hc e => bindE e fun p q1 e => by
    cases Option.some.inj e
    refine wpAny_Expr_any (wpZ (H.ev q1 hs hf hw hA) fun wv s1 x1 => x1.elim.elim fun g1 y => y.2.2.ex (ExP.here (hf.mono G.ok y.2.2.evo) y.1)) (by unfold interactive; rw [hf.kind]; rfl) (isCall_sw hc)

theorem exAsg_ok (H : Sound prog w cx fr n r) (G : CxG cx) {ts : List Expr} {x : Expr} {pos : Pos} (e : exAsg r sc σ ρ ts x = some (fl, σ', ρ')) (hs : ScE env sc) (hf : FrR cx env g ρ s.heap) (hw : W cx σ g s.heap s.toks) (hA : Room fr n A)
    (hsw : swapsWithSole ts x pos.line env = pure false) : wpAny (model prog w) A (exec (.Assign ts x pos) env) (ExP cx env g s σ' ρ' fl) Z s := by
  exact bindE e fun t qt e => whE e fun hok e => bindE e fun q q1 e => bindE e fun ρ1 q2 e => p2a e ▸ p3b e ▸ p3c e ▸ by
    rw [arm_exec_Assign, hsw, l1_ok qt]
    exact wpAny_bind (wpAny_standAt (wpAny_bind (wpAny_pure (wpAny_bind (wpZ (H.ev q1 hs hf hw hA) fun wv s1 x1 => x1.k fun g1 W1 V1 N1 =>
      wpZ (assignStores_ok G hs hok q2 (hf.mono G.ok N1.evo) W1 V1 hA.handled) fun f s2 x2 => N1.ex x2)))))
end
end Mine
end
section
set_option maxRecDepth 100000
set_option maxHeartbeats 2000000
set_option linter.unusedVariables false
namespace Mine
open PySem PySem.Calls PyProof.Rows PySem.W PySem.SeqAt

theorem lookup_zip_isSome {α : Type} : ∀ {ns : List Str} {ws : List α} {x : Str}, ns.length = ws.length → x ∈ ns → ((ns.zip ws).lookup x).isSome = true
  | [], _, _, _, h => by cases h
  | n :: ns, [], _, hl, _ => by simp at hl
  | n :: ns, w :: ws, x, hl, h => by
    rw [List.zip_cons_cons, List.lookup_cons]
    cases q : x == n with
    | true => rfl
    | false =>
      rcases List.mem_cons.mp h with rfl | h
      · simp at q
      · exact lookup_zip_isSome (by simpa using hl) h
theorem filter_none {ns : List Str} {slots : List (Str × Value)} (h : ∀ x ∈ ns, (slots.lookup x).isSome = true) : ns.filter (fun n => (slots.lookup n).isNone) = [] := by
  rw [List.filter_eq_nil_iff]
  intro x hx
  have := h x hx
  rw [Option.isSome_iff_exists] at this
  obtain ⟨v, hv⟩ := this
  rw [hv]; simp
theorem filterMap_zip : ∀ {ns : List Str} {ws : List Value} (pre : List (Str × Value)), ns.Nodup → (∀ x ∈ ns, pre.lookup x = none) → ns.length = ws.length → ns.filterMap (fun n => ((pre ++ ns.zip ws).lookup n).map (n, ·)) = ns.zip ws
  | [], _, _, _, _, _ => by simp
  | n :: ns, [], _, _, _, hl => by simp at hl
  | n :: ns, w :: ws, pre, hn, hp, hl => by
    obtain ⟨h1, h2⟩ := List.nodup_cons.mp hn
    have key : (pre ++ (n :: ns).zip (w :: ws)).lookup n = some w := by
      rw [List.lookup_append, hp n List.mem_cons_self]
      simp
    rw [List.filterMap_cons, key]
    simp only [Option.map_some, List.zip_cons_cons]
    congr 1
    have := filterMap_zip (ns := ns) (ws := ws) (pre ++ [(n, w)]) h2 (fun x hx => by
      rw [List.lookup_append, hp x (List.mem_cons_of_mem _ hx)]
      have : (x == n) = false := beq_false_of_ne fun q => h1 (q ▸ hx)
      simp [List.lookup_cons, this]) (by simpa using hl)
    rw [List.append_assoc] at this
    exact this

noncomputable def namesOf (p : Arguments) : List Str := p.args.map (·.arg)
theorem bind_plain {fd : FuncData} {ws : List Value} (hp : plainPs fd.params = true) (hd : fd.defaults = .none) (hn : (namesOf fd.params).Nodup) (hl : (namesOf fd.params).length = ws.length) :
    bindArgs fd ⟨ws, []⟩ = pure ((namesOf fd.params).zip ws) := by
  have hq := plain_form hp
  clear hp
  cases fd with
  | mk a b p c d e f g h i j k l m n =>
    have hq : p = ⟨[], p.args, none, [], [], none, []⟩ := hq
    generalize p.args = as at hq
    subst hq
    have hd : g = .none := hd
    subst hd
    have hn : (as.map (·.arg)).Nodup := hn
    have hl : (as.map (·.arg)).length = ws.length := hl
    generalize he : as.map (·.arg) = ns at hn hl
    have h1 : ¬ (decide (ws.length > ns.length) && true) = true := by
      rw [hl, decide_eq_false (Nat.lt_irrefl _)]; decide
    have h2 : ∀ k, ¬ (!((ns.take k).filter (fun n => ((ns.zip ws).lookup n).isNone)).isEmpty) = true := fun k => by
      rw [filter_none fun x hx => lookup_zip_isSome hl (List.mem_of_mem_take hx)]; decide
    subst he
    have z : ∀ i j, ((as.map (·.arg)).drop j).zip (((none : Option (Array Value)).getD #[]).toList.drop i) = [] := fun i j => by
      show List.zip _ (List.drop i []) = []
      rw [List.drop_nil, List.zip_nil_right]
    refine (if_neg h1).trans ((if_neg (h2 _)).trans ?_)
    show (forIn (((as.map (·.arg)).drop _).zip (((none : Option (Array Value)).getD #[]).toList.drop _)) _ _ >>= _) = _
    rw [z]
    refine congrArg (fun l => (pure l : Sem (List (Str × Value)))) ?_
    exact (congrArg (fun l => List.filterMap (fun n => Option.map (fun x => (n, x)) (((as.map (·.arg)).zip ws).lookup n)) l) (List.append_nil (as.map (·.arg)))).trans (filterMap_zip [] hn (fun _ _ => rfl) hl)

set_option tactic.hygienic true in
theorem bindGo_zip : ∀ {ns : List Str} {vs : List V} {ρ : Loc}, bindGo ns vs = some ρ → ns.length = vs.length ∧ ρ = ns.zip vs
  | [], [], ρ, e => by unfold bindGo at e; cases e; exact ⟨rfl, rfl⟩
  | [], _ :: _, _, e => by unfold bindGo at e; cases e
  | _ :: _, [], _, e => by unfold bindGo at e; cases e
  | n :: ns, v :: vs, ρ, e => by
    unfold bindGo at e
    split at e
    · rename_i l q
      cases e
      obtain ⟨h1, h2⟩ := bindGo_zip q
      exact ⟨by simp [h1], by rw [h2]; rfl⟩
    · cases e

theorem bindL_no {kf : Str → Option NameKind} : ∀ {ps : List (Str × Value)} {m : Str → Option Value} {x : Str}, x ∉ ps.map (·.1) → bindL kf ps m x = m x
  | [], m, x, _ => rfl
  | (n, w) :: ps, m, x, h => by
    have hx : x ≠ n := fun q => h (by rw [q]; exact List.mem_cons_self)
    unfold bindL
    rw [bindL_no (fun q => h (List.mem_cons_of_mem _ q))]
    split
    · simp only [if_neg hx]
    · rfl
theorem bindC_no {kf : Str → Option NameKind} : ∀ {ps : List (Str × Value)} {m : Str → Option Value} {x : Str}, x ∉ ps.map (·.1) → bindC kf ps m x = m x
  | [], m, x, _ => rfl
  | (n, w) :: ps, m, x, h => by
    have hx : x ≠ n := fun q => h (by rw [q]; exact List.mem_cons_self)
    unfold bindC
    rw [bindC_no (fun q => h (List.mem_cons_of_mem _ q))]
    split
    · rfl
    · simp only [if_neg hx]
theorem bind_has {cx : Cx} {h : Heap} {g : Gh} {kf : Str → Option NameKind} : ∀ {ns : List Str} {vs : List V} {ws : List Value} {m cm : Str → Option Value} {x : Str} {v : V}, ns.Nodup → ns.length = vs.length → VRs cx h g vs ws → lk x (ns.zip vs) = some v →
    ∃ w, VR cx h g v w ∧ (kf x = some .local → bindL kf (ns.zip ws) m x = some w) ∧ (kf x ≠ some .local → bindC kf (ns.zip ws) cm x = some w)
  | [], vs, ws, m, cm, x, v, _, hl, hv, e => by cases vs with | nil => cases e | cons => simp at hl
  | n :: ns, [], _, m, cm, x, v, _, hl, hv, e => by simp at hl
  | n :: ns, u :: vs, _, m, cm, x, v, hn, hl, .cons (w := w1) (ws := wl) h1 h2, e => by
    obtain ⟨hn1, hn2⟩ := List.nodup_cons.mp hn
    have hl' : ns.length = vs.length := by simpa using hl
    unfold lk at e
    simp only [List.zip_cons_cons] at e ⊢
    have hmap : ((ns.zip wl).map (·.1)) = ns := List.map_fst_zip (by rw [← h2.length, hl']; exact Nat.le_refl _)
    split at e
    · rename_i q
      have := strEq_of_seq q
      subst this
      cases e
      refine ⟨w1, h1, fun hk => ?_, fun hk => ?_⟩
      · show bindL kf (ns.zip wl) _ x = _
        rw [bindL_no (by rw [hmap]; exact hn1), if_pos hk]; simp
      · show bindC kf (ns.zip wl) _ x = _
        rw [bindC_no (by rw [hmap]; exact hn1), if_neg hk]; simp
    · obtain ⟨w, k1, k2, k3⟩ := bind_has (m := if kf n = some .local then fun y => if y = n then some w1 else m y else m) (cm := if kf n = some .local then cm else fun y => if y = n then some w1 else cm y) hn2 hl' h2 e
      exact ⟨w, k1, k2, k3⟩

theorem cellsFrom_has : ∀ (names : List (Str × NameKind)) (n : Nat) (acc : List (Str × Addr)) (x : Str), (acc.lookup x).isSome = true ∨ (x, NameKind.cell) ∈ names → ((cellsFrom n names acc).lookup x).isSome = true
  | [], n, acc, x, h => by
    rcases h with h | h
    · exact h
    · cases h
  | (nm, k) :: r, n, acc, x, h => by
    unfold cellsFrom
    split
    · rename_i hk
      refine cellsFrom_has r _ _ x ?_
      rw [List.lookup_cons]
      cases q : x == nm with
      | true => exact .inl rfl
      | false =>
        rcases h with h | h
        · exact .inl h
        · rcases List.mem_cons.mp h with h | h
          · cases h; simp at q
          · exact .inr h
    · rename_i hk
      refine cellsFrom_has r _ _ x ?_
      rcases h with h | h
      · exact .inl h
      · rcases List.mem_cons.mp h with h | h
        · cases h; exact absurd rfl hk
        · exact .inr h
end Mine
end
section
set_option maxRecDepth 100000
set_option maxHeartbeats 2000000
set_option linter.unusedVariables false
namespace Mine
open PySem PySem.Calls PyProof.Rows PySem.W PySem.SeqAt

noncomputable def BindOk (cx : Cx) (fd : FuncData) (B : List V → List (Str × V) → Option Loc) : Prop := ∀ {s : Shared} {g : Gh} {σ : Sto} {vs : List V} {ws : List Value} {ks : List (Str × V)} {ks' : List (Str × Value)} {ρ : Loc}, B vs ks = some ρ → VRs cx s.heap g vs ws → KwR cx s.heap g ks ks' →
  W cx σ g s.heap s.toks → ∃ (names : List Str) (vs' : List V) (ws' : List Value), names.Nodup ∧ names.length = vs'.length ∧ ρ = names.zip vs' ∧ VRs cx s.heap g vs' ws' ∧ BindsTo s fd ⟨ws, ks'⟩ (names.zip ws') ∧ ∀ x ∈ names, fd.scope.names.lookup x = some .local ∨ fd.scope.names.lookup x = some .cell

structure FdOk (cx : Cx) (fd : FuncData) : Prop where
  kind : fd.scope.kind = .function
  co : fd.scope.isCoroutine = false
  gen : fd.scope.isGenerator = false
  glob : fd.globals = mainGlobals
  blt : fd.builtins = builtinsNs
  clo : fd.closure = []
  lam : lamOk fd.scope = true → ∃ t ∈ cx.tabs, fd.code = .ref t.1 ∧ (fd.qualname ++ ".<locals>.") ++ "<lambda>" = t.2.2

section
variable {prog : Program} {w : World} {A : Around} {s : Shared} {cx : Cx} {n : Nat} {r : R} {F : Facts} {sc : Scope} {σ σ' : Sto} {ρ ρ' : Loc} {v : V} {env : Env} {g : Gh} {fl : Fl}

theorem enter_ok (C : CxOk cx) {fd : FuncData} (D : FdOk cx fd) {names : List Str} {vs : List V} {ws : List Value} (hn : names.Nodup) (hl : names.length = vs.length) (hv : VRs cx s.heap g vs ws)
    (hk : ∀ x ∈ names, fd.scope.names.lookup x = some .local ∨ fd.scope.names.lookup x = some .cell) (hw : W cx σ g s.heap s.toks) {fa : Option Addr} {M : Model} {Q : Env → Shared → Prop} {E : Value → Shared → Prop}
    (hQ : ∀ env s₁, env.scope = fd.scope → env.func = fa → env.code = fd.code → (env.qual = fd.qualname ++ ".<locals>." ∧ env.frame = some env.locals ∧ ∀ b o, s.heap.get? b = some o → s₁.heap.get? b = some o) → FrR cx env g (names.zip vs) s₁.heap → W cx σ g s₁.heap s₁.toks → Next cx g s g s₁ → (∀ a ∈ frame env, s.heap.get? a = none) → s₁.heap.NoLimit → Q env s₁) :
    wpAny M A (newFunctionEnv fd.scope fd.globals fd.closure (names.zip ws) (fd.qualname ++ ".<locals>.") fa fd.code none fd.builtins) Q E s := by
  rw [D.clo]
  have hmem : ∀ x ∈ names.zip ws, x.1 ∈ names := fun x hx => (List.of_mem_zip hx).1
  refine wpAny_with_toks (Nat.le_refl s.toks) (wpAny_newFunctionEnv_cells D.kind (fun x hx => ?_) fun env he s₁ X htk => ?_)
  · rcases hk x.1 (hmem x hx) with h | h
    · exact .inl h
    · exact .inr ⟨h, cellsFrom_has _ _ _ _ (.inr (mem_of_lookup h))⟩
  · have hkeep := X.toInCall.keep
    have hsame := X.toInCall.same
    have W1 := hw.keeps hkeep htk
    have E1 : Ev cx [] g g s.heap s₁.heap := .keeps hkeep
    have hL : env.locals = s.heap.objs.size := by rw [he]; rfl
    have hfr : ∀ a, s.heap.objs.size ≤ a → g.free a := fun a ha => hw.new (Heap.get?_none_of_le ha)
    have h0 : cx.h₀.objs.size ≤ s.heap.objs.size := hw.fresh₀ C
    have hcell : ∀ x c, env.cells.lookup x = some c → s.heap.objs.size ≤ c := fun x c hc => Nat.le_of_lt (Nat.lt_of_le_of_lt (Nat.le_of_eq hL.symm) (X.above x c (mem_of_lookup hc)))
    refine hQ env s₁ (by rw [he]; rfl) (by rw [he]; rfl) (by rw [he]; rfl) ⟨by rw [he]; rfl, by rw [he]; rfl, hkeep⟩ ⟨by rw [he]; exact D.kind, by rw [he]; exact D.glob, by rw [he]; exact D.blt, hfr _ (Nat.le_of_eq hL.symm), by rw [hL]; exact h0, ⟨_, X.toInCall.ns, fun x v e => ?_⟩, fun x c hc => ⟨⟨_, X.cell x c hc⟩, hfr c (hcell x c hc), Nat.le_trans h0 (hcell x c hc)⟩, fun hlam => ?_, fun x hx => ?_, fun x y c hx hy => name_of_addr X.apart (mem_of_lookup hx) (mem_of_lookup hy)⟩ W1 ⟨hsame, htk, E1⟩ (fun a ha => ?_) W1.nolim
    · obtain ⟨wv, k1, k2, k3⟩ := bind_has (kf := env.kindOf) (m := fun _ => none) (cm := fun _ => none) hn hl hv e
      have hxn : x ∈ names := by
        have : (x, v) ∈ names.zip vs := by rw [lk_lookup] at e; exact mem_of_lookup e
        exact (List.of_mem_zip this).1
      have hkx : env.kindOf x = fd.scope.names.lookup x := by rw [he]; rfl
      rcases hk x hxn with h | h
      · exact .inl ⟨by rw [hkx]; exact h, wv, k2 (by rw [hkx]; exact h), k1.mono E1⟩
      · obtain ⟨c, hc⟩ := Option.isSome_iff_exists.mp (cellsFrom_has fd.scope.names (s.heap.objs.size + 1) [] x (.inr (mem_of_lookup h)))
        have hc' : env.cells.lookup x = some c := by rw [he]; exact hc
        refine .inr ⟨.inl (by rw [hkx]; exact h), c, wv, hc', ?_, k1.mono E1⟩
        have := X.cell x c hc'
        rw [k3 (by rw [hkx, h]; exact fun q => nomatch q)] at this
        exact this
    · have : lamOk fd.scope = true := by rw [he] at hlam; exact hlam
      obtain ⟨t, ht, h1, h2⟩ := D.lam this
      exact ⟨t, ht, by rw [he]; exact h1, by rw [he]; exact h2⟩
    · have hx' : fd.scope.names.lookup x = some .cell := by rw [he] at hx; exact hx
      have := cellsFrom_has fd.scope.names (s.heap.objs.size + 1) [] x (.inr (mem_of_lookup hx'))
      rw [he]; exact this
    · rcases mem_frame ha with rfl | ⟨x, hx⟩
      · rw [hL]; exact get_size _
      · exact Heap.get?_none_of_le (hcell x a hx)

theorem ExP.leave {f : Flow} {s₁ s₂ : Shared} (N : Next cx g s g s₁) (hno : ∀ a ∈ frame env, s.heap.get? a = none) (x : ExP cx env g s₁ σ' ρ' fl f s₂) :
    ∃ g₂, (∃ h tk, s₂ = { s with heap := h, toks := tk }) ∧ s.toks ≤ s₂.toks ∧ W cx σ' g₂ s₂.heap s₂.toks ∧ Ev cx [] g g₂ s.heap s₂.heap ∧ FlR cx g₂ s₂.heap fl f := by
  obtain ⟨g2, W2, F2, l2, E2, ⟨h2, t2, q2⟩, k⟩ := x.elim
  obtain ⟨⟨h1, t1, q1⟩, l1, E1⟩ := N
  refine ⟨g2, ⟨h2, t2, by rw [q2, q1]⟩, Nat.le_trans l1 l2, W2, ?_, k⟩
  exact Ev.drop ((E1.weaken (by simp)).trans E2 (fun a m => (F2.free_wr a m).1)) fun a ha => .inr (hno a (wr_sub a ha))
theorem EvP.leave {env : Env} {wv : Value} {s₁ s₂ : Shared} (N : Next cx g s g s₁) (x : EvP cx g s₁ σ' v wv s₂) : EvP cx g s σ' v wv s₂ := N.ev x

theorem Room.deeper {fr : Option (List Env)} {n : Nat} (h : Room fr (n + 1) A) : Room none n (A.deeper env) := ⟨h.handled, by show A.depth + 1 + n < _; have := h.depth; omega, by show A.units + 3 + 4 * n + 16 < _; have := h.units; omega, fun l q => by cases q⟩
theorem Room.pred {fr : Option (List Env)} {n : Nat} (h : Room fr (n + 1) A) : Room fr n A := ⟨h.handled, by have := h.depth; omega, by have := h.units; omega, h.frs⟩

theorem callBody_ok (H : Sound prog w cx none n r) (C : CxOk cx) {a : Addr} {o : Obj} {fd : FuncData} (D : FdOk cx fd) (ho : s.heap.get? a = some o) (hdata : o.data = .func fd) {body : List Stmt} (hbody : fd.body = .stmts body) (hcd : s.heap.CodeRec fd.code fd.qualname)
    {names : List Str} {vs : List V} {ws : List Value} {ks' : List (Str × Value)} {pos : List Value} (hn : names.Nodup) (hl : names.length = vs.length) (hv : VRs cx s.heap g vs ws) (hk : ∀ x ∈ names, fd.scope.names.lookup x = some .local ∨ fd.scope.names.lookup x = some .cell)
    (hb : BindsTo s fd ⟨pos, ks'⟩ (names.zip ws)) (e : retV (exs r fd.scope σ (names.zip vs) body) = some (v, σ')) (hw : W cx σ g s.heap s.toks) (hA : Room fr (n + 1) A) :
    wpAny (model prog w) A (call (.ref a) pos ks') (EvP cx g s σ' v) Z s := by
  refine wpAny_call (codeAny_call_function (by have := hA.depth; omega) ho hdata D.co D.gen hbody hcd (hb _ _ _ _ ?_))
  refine enter_ok C D hn hl hv hk hw fun env s₁ hs hfn _ _ hf W1 N1 hno hlim => ⟨hlim, codeAny_func ?_⟩
  exact bindE e fun p q e => wpZ (exs_ok H q (.of_eq hs (by rw [hfn]; simp)) hf W1 hA.deeper) fun f s2 x2 => by
    obtain ⟨g2, ⟨h2, t2, rfl⟩, l2, W2, E2, k⟩ := x2.leave N1 hno
    obtain ⟨f0, σ1, ρ1⟩ := p
    cases f0 with
    | ret v' => exact k.elim fun wv k => k.1 ▸ p2a e ▸ p2b e ▸ ⟨h2, t2, g2, rfl, l2, W2, E2, k.2⟩
    | next => exact (show f = .next from k) ▸ p2a e ▸ p2b e ▸ ⟨h2, t2, g2, rfl, l2, W2, E2, .none⟩

theorem callLamBody_ok (H : Sound prog w cx none n r) (C : CxOk cx) {a : Addr} {o : Obj} {fd : FuncData} (D : FdOk cx fd) (ho : s.heap.get? a = some o) (hdata : o.data = .func fd) {body : Expr} (hbody : fd.body = .expr body) (hcd : s.heap.CodeRec fd.code fd.qualname)
    {names : List Str} {vs : List V} {ws : List Value} {ks' : List (Str × Value)} {pos : List Value} (hn : names.Nodup) (hl : names.length = vs.length) (hv : VRs cx s.heap g vs ws) (hk : ∀ x ∈ names, fd.scope.names.lookup x = some .local ∨ fd.scope.names.lookup x = some .cell)
    (hb : BindsTo s fd ⟨pos, ks'⟩ (names.zip ws)) (e : r.ev fd.scope σ (names.zip vs) body = some (v, σ')) (hw : W cx σ g s.heap s.toks) (hA : Room fr (n + 1) A) :
    wpAny (model prog w) A (call (.ref a) pos ks') (EvP cx g s σ' v) Z s := by
  refine wpAny_call (kla_callFunE (by have := hA.depth; omega) ho hdata D.co D.gen hbody hcd (hb _ _ _ _ ?_))
  refine enter_ok C D hn hl hv hk hw fun env s₁ hs hfn _ _ hf W1 N1 hno hlim => ⟨hlim, kla_codeExpr ?_⟩
  exact wpZ (H.ev e (.of_eq hs (by rw [hfn]; simp)) hf W1 hA.deeper) fun wv s2 x2 => N1.ev x2
end
end Mine
end
section
set_option maxRecDepth 100000
set_option maxHeartbeats 2000000
set_option linter.unusedVariables false
namespace Mine
open PySem PySem.Calls PyProof.Rows PySem.W PySem.SeqAt

theorem OldK.ext {h₀ h h' : Heap} (K : OldK h₀ h) {a : Addr} (ha : h₀.objs.size ≤ a) (hs : Heap.ExtBut a h h') : OldK h₀ h' := by
  have ne : ∀ b o, h₀.get? b = some o → b ≠ a := fun b o e => Nat.ne_of_lt (Nat.lt_of_lt_of_le (Heap.lt_size e) ha)
  refine ⟨fun b o e => ?_, fun b o e => let ⟨o', ho'⟩ := K.there b o e; ⟨o', hs b o' (ne b o e) ho'⟩⟩
  rcases K.old b o e with x | ⟨t, hc, vs, more, hv, x⟩ | ⟨rfl, hc, ⟨o', es, n, ho', r⟩, z⟩
  · exact .inl (hs b _ (ne b o e) x)
  · exact .inr (.inl ⟨t, hc, vs, more, hv, hs b _ (ne b o e) x⟩)
  · have k := hs _ _ (ne _ o e) ho'
    exact .inr (.inr ⟨rfl, hc, ⟨o', es, n, k, r⟩, fun key => by rw [OldK.staticOf_congr (k.trans ho'.symm) key]; exact z key⟩)

theorem W.ext {cx : Cx} (C : CxOk cx) {σ : Sto} {g : Gh} {h h' : Heap} {tk tk' : Nat} (w : W cx σ g h tk) (hle : tk ≤ tk') {b : Addr} {ob : Obj} (hb : h.get? b = some ob) (hseq : ∀ xs n, ob.data ≠ .seq xs n) (hdict : ∀ es ep, ob.data ≠ .dict es ep) (hcode : ob.cls ≠ .type "code")
    (hnone : ob.cls ≠ .none) (hi : Imm ob = false) (hnew : cx.h₀.objs.size ≤ b) (hs : Heap.ExtBut b h h') : W cx σ g h' tk' ∧ Ev cx [b] g g h h' := by
  have E : Ev cx [b] g g h h' := Ev.same hs hb hi (by simp)
  have keep : ∀ {a : Addr} {o : Obj}, h.get? a = some o → o ≠ ob → h'.get? a = some o := fun {a o} e hne => hs a o (fun q => by subst q; rw [hb] at e; cases e; exact hne rfl) e
  have hst : cStatics ≠ b := Nat.ne_of_lt (Nat.lt_of_lt_of_le C.stat hnew)
  refine ⟨⟨Nat.lt_of_lt_of_le w.tok hle, fun a m => let ⟨o, es, ep, e, d⟩ := w.frs a m; ⟨o, es, ep, keep e (fun q => by subst q; exact hdict _ _ d), d⟩, OldK.ext w.old hnew hs, ?_, w.nolim.extBut hs hst, fun t m => ?_, w.len, w.nodup, fun a m => ?_, Nat.le_trans w.gn hle, w.base, w.based, w.fresh, fun i vs e => ?_⟩, E⟩
  · obtain ⟨mc, a, b⟩ := w.booked
    exact ⟨mc, a.extBut hs hst, b⟩
  · exact (w.tabs t m).move fun e d c => keep e fun q => c.elim (fun c => hcode (q ▸ c)) fun c => hnone (q ▸ c.2)
  · obtain ⟨us, m, e⟩ := w.hidden a m
    exact ⟨us, m, keep e (fun q => by subst q; exact hseq _ _ rfl)⟩
  · obtain ⟨a, ws, e1, ⟨m, e2⟩, e3⟩ := w.lists i vs e
    exact ⟨a, ws, e1, ⟨m, keep e2 (fun q => by subst q; exact hseq _ _ rfl)⟩, e3.mono E⟩

section
variable {prog : Program} {w : World} {A : Around} {s : Shared} {cx : Cx} {n : Nat} {r : R} {F : Facts} {sc : Scope} {σ σ' : Sto} {ρ ρ' : Loc} {v : V} {env : Env} {g : Gh} {fl : Fl} {I : Addr} {src : Src} {j : Nat}

theorem FrR.move (C : CxOk cx) {h h' : Heap} {g' : Gh} {X : List Addr} (f : FrR cx env g ρ h) (x : Ev cx X g g' h h') (hX : ∀ a ∈ frame env, a ∉ X) : FrR cx env g' ρ h' := by
  obtain ⟨m, hn, hm⟩ := f.ns
  obtain ⟨o, es, ep, ho, hr⟩ := id hn
  have hlive : ∀ y c, env.cells.lookup y = some c → ∀ u, h.IsCell c u → h'.IsCell c u := fun y c hc u ⟨oc, hoc, hd⟩ => ⟨oc, x.keepN hoc (f.cells y c hc).2.1.1 (hX c (mem_cells hc)) (C.notTab (f.cells y c hc).2.2) (fun es ep q => by rw [hd] at q; cases q), hd⟩
  refine ⟨f.kind, f.glob, f.blt, x.free ho f.la, f.l0, ⟨m, x.keepNs hn f.la.1 (hX _ List.mem_cons_self) (C.notTab f.l0), fun y v e => ?_⟩, fun y c hc => ?_, f.lam, f.has, f.inj⟩
  · rcases hm y v e with ⟨k, w, hw, rr⟩ | ⟨k, c, w, hc, hcell, rr⟩
    · exact .inl ⟨k, w, hw, rr.mono x⟩
    · exact .inr ⟨k, c, w, hc, hlive y c hc _ hcell, rr.mono x⟩
  · obtain ⟨⟨u, oc, hoc, hd⟩, c1, c2⟩ := f.cells y c hc
    exact ⟨⟨u, hlive y c hc u ⟨oc, hoc, hd⟩⟩, x.free hoc c1, c2⟩
theorem IterOk.cls {h : Heap} (x : IterOk cx h g env I src j) : ∃ ob T vs, h.get? I = some ob ∧ ob.cls = .type T ∧ ob.data = .fields vs ∧ (T = "list_iterator" ∨ T = "tuple_iterator" ∨ T = "range_iterator") := by
  have h := x.at_
  cases src with
  | list v => exact h.elim fun l y => y.2.elim fun o y => ⟨o, _, _, y.1, y.2.1, y.2.2, .inl rfl⟩
  | tup vs => exact h.elim fun a y => y.elim fun ws y => y.2.2.2.elim fun o y => ⟨o, _, _, y.1, y.2.1, y.2.2, .inr (.inl rfl)⟩
  | rng a b => exact h.elim fun k y => ⟨_, _, _, y.1, rfl, rfl, .inr (.inr rfl)⟩
theorem IterOk.obj {h : Heap} (x : IterOk cx h g env I src j) : ∃ ob, h.get? I = some ob ∧ (∀ xs n, ob.data ≠ .seq xs n) ∧ (∀ es ep, ob.data ≠ .dict es ep) ∧ ob.cls ≠ .type "code" ∧ ob.cls ≠ .none ∧ Imm ob = false :=
  x.cls.elim fun ob y => y.elim fun T y => y.elim fun vs y =>
    have h1 : (Value.type T == Value.type "code") = false ∧ (Value.type T == Value.type "range") = false := by rcases y.2.2.2 with rfl | rfl | rfl <;> decide +kernel
    ⟨ob, y.1, fun xs n q => (nomatch y.2.2.1.symm.trans q), fun es ep q => (nomatch y.2.2.1.symm.trans q), fun q => (nomatch (beq_eq_false_iff_ne.mp h1.1) (y.2.1.symm.trans q)), fun q => (nomatch y.2.1.symm.trans q), by
      unfold Imm; rw [y.2.2.1, y.2.1]; simp only [h1.1, h1.2]; rfl⟩
theorem IterOk.am {h₁ : Heap} (x : IterOk cx h₁ g env I src j) {X : List Addr} {g' : Gh} {h' : Heap} (E : Ev cx X g g' h₁ h') : I ∉ g'.am := by
  obtain ⟨ob, e1, _⟩ := x.obj
  exact E.notin e1 x.free.1
theorem IterOk.out {h : Heap} (x : IterOk cx h g env I src j) (a : Addr) (ha : a ∈ frame env) : a ∉ [I] := fun q => x.env (List.mem_singleton.mp q ▸ ha)
theorem IterOk.envw {h : Heap} (x : IterOk cx h g env I src j) : I ∉ wr env := fun q => x.env (wr_sub _ q)
theorem IterOk.move (C : CxOk cx) {h h' : Heap} {ga gb : Gh} {X : List Addr} (x : IterOk cx h ga env I src j) (E : Ev cx X ga gb h h') (hX : I ∉ X) : IterOk cx h' gb env I src j :=
  x.cls.elim fun o0 y => y.elim fun T y => y.elim fun vs y => by
    have kp : h'.get? I = some o0 := E.keepN y.1 x.free.1 hX (C.notTab x.new) (fun es ep d => nomatch y.2.2.1.symm.trans d)
    have up : ∀ {o}, h.get? I = some o → h'.get? I = some o := fun e => Option.some.inj (y.1.symm.trans e) ▸ kp
    refine ⟨?_, E.free y.1 x.free, x.new, x.env⟩
    have q := x.at_
    cases src with
    | list v => exact q.elim fun l z => ⟨l, z.1.mono E, z.2.elim fun o z => ⟨o, up z.1, z.2⟩⟩
    | tup vs => exact q.elim fun a z => z.elim fun ws z => z.1.elim fun m p => ⟨a, ws, ⟨m, E.imm a _ p rfl z.2.1⟩, E.free p z.2.1, z.2.2.1.mono E, z.2.2.2.elim fun o z => ⟨o, up z.1, z.2⟩⟩
    | rng a b => exact q.elim fun k z => ⟨k, up z.1, z.2⟩

noncomputable def NextP (cx : Cx) (env : Env) (I : Addr) (src : Src) (j : Nat) (g : Gh) (s : Shared) (σ : Sto) (x : Option V) (r : Option Value) (s' : Shared) : Prop :=
  ∃ h' tk, s' = { s with heap := h', toks := tk } ∧ s.toks ≤ tk ∧ W cx σ g h' tk ∧ Ev cx [I] g g s.heap h' ∧ match x with
    | none => r = none
    | some v => ∃ wv, r = some wv ∧ VR cx h' g v wv ∧ IterOk cx h' g env I src (j + 1)

theorem next_ok (C : CxOk cx) {x : Option V} (hA : A.handled = none) (hi : IterOk cx s.heap g env I src j) (hw : W cx σ g s.heap s.toks) (e : itemAt σ j src = some x) :
    wpAny (model prog w) A (pyNext (.ref I)) (NextP cx env I src j g s σ x) Z s := by
  obtain ⟨ob, hob, o1, o1', o2, o3, o4⟩ := hi.obj
  have step : ∀ {h' : Heap} {tk : Nat}, s.toks ≤ tk → Heap.ExtBut I s.heap h' → W cx σ g h' tk ∧ Ev cx [I] g g s.heap h' := fun hle hx => hw.ext C hle hob o1 o1' o2 o3 o4 hi.new hx
  have none' : ∀ {h' : Heap} {tk : Nat}, s.toks ≤ tk → Heap.ExtBut I s.heap h' → NextP cx env I src j g s σ none none { s with heap := h', toks := tk } := fun hle hx => ⟨_, _, rfl, hle, (step hle hx).1, (step hle hx).2, rfl⟩
  have some' : ∀ {h' : Heap} {tk : Nat} {v wv}, s.toks ≤ tk → Heap.ExtBut I s.heap h' → (Ev cx [I] g g s.heap h' → VR cx h' g v wv ∧ IterAt cx h' g I src (j + 1)) → NextP cx env I src j g s σ (some v) (some wv) { s with heap := h', toks := tk } := fun hle hx k => ⟨_, _, rfl, hle, (step hle hx).1, (step hle hx).2, _, rfl, (k (step hle hx).2).1, (k (step hle hx).2).2, hi.free, hi.new, hi.env⟩
  have h := hi.at_
  cases src with
  | list v0 =>
    exact h.elim fun l y => bindE e fun vs q e => (items_ok hw y.1 q).elim fun l' z => z.elim fun ws z => Option.some.inj e ▸ by
      cases Value.ref.inj z.1
      cases hx : vs[j]? with
      | none => exact wpAny_pyNext_list_end hA y.2 z.2.1.isList (by rw [List.getElem?_toArray, List.getElem?_eq_none_iff, ← z.2.2.length]; exact List.getElem?_eq_none_iff.mp hx) fun h' hx => none' (Nat.le_refl _) hx
      | some u => exact (z.2.2.get hx).elim fun wy r => wpAny_pyNext_list_item y.2 z.2.1.isList (by rw [List.getElem?_toArray]; exact r.1) fun h' hit' hs => some' (Nat.le_refl _) hs.extBut fun E1 => ⟨r.2.mono E1, l, y.1.mono E1, hit'⟩
  | tup vs =>
    exact h.elim fun a y => y.elim fun ws y => Option.some.inj e ▸ by
      cases hx : vs[j]? with
      | none => exact wpAny_pyNext_tuple_end hA y.2.2.2 y.1.isTuple (by rw [List.getElem?_toArray, List.getElem?_eq_none_iff, ← y.2.2.1.length]; exact List.getElem?_eq_none_iff.mp hx) fun h' hx => none' (Nat.le_refl _) hx
      | some u => exact (y.2.2.1.get hx).elim fun wy r => wpAny_pyNext_tuple_item y.2.2.2 y.1.isTuple (by rw [List.getElem?_toArray]; exact r.1) fun h' hit' hs => some' (Nat.le_refl _) hs.extBut fun E1 => ⟨r.2.mono E1, a, ws, y.1.elim fun m e => ⟨m, E1.imm a _ e rfl y.2.1⟩, y.2.1, y.2.2.1.mono E1, hit'⟩
  | rng a b =>
    obtain ⟨k, hit, hk⟩ := h
    (delta itemAt at e; try dsimp only at e)
    split at e
    · rename_i q
      have q := of_decide_eq_true q
      rw [if_pos q] at hk
      refine Option.some.inj e ▸ wpAny_pyNext_range_item hit (by omega) fun h' hit' hs => some' (Nat.le_succ _) hs.extBut fun E1 => ⟨.int _ _, (b - (a + (j : Int)) - 1).toNat, ?_, ?_⟩
      · have e1 : ((b - (a + (j : Int)) - 1).toNat : Int) = (k : Int) - 1 := (Int.toNat_of_nonneg (Int.le_sub_one_of_lt (Int.sub_pos_of_lt q))).trans (by rw [hk])
        have e2 : a + ((j + 1 : Nat) : Int) = a + (j : Int) + 1 := by omega
        rw [e1, e2]; exact hit'
      · split <;> omega
    · rename_i q
      have q := of_decide_eq_false q
      rw [if_neg q] at hk
      exact Option.some.inj e ▸ wpAny_pyNext_range_end hA hit (by omega) fun h' hx => none' (Nat.le_refl _) hx
end
end Mine
end
section
set_option maxRecDepth 100000
set_option maxHeartbeats 2000000
set_option linter.unusedVariables false
namespace Mine
open PySem PySem.Calls PyProof.Rows PySem.W PySem.SeqAt

section
variable {prog : Program} {w : World} {A : Around} {s : Shared} {cx : Cx} {n : Nat} {r : R} {F : Facts} {sc : Scope} {σ σ' : Sto} {ρ ρ' : Loc} {v : V} {env : Env} {g : Gh} {fl : Fl} {I : Addr} {src : Src} {j : Nat}

theorem letOwnedG {t : Expr} {wv : Value} {Q : Unit → Shared → Prop} {E : Value → Shared → Prop} {ob : Obj} {T : String} {vs : Array Value} (e1 : s.heap.get? I = some ob) (e2 : ob.cls = .type T) (e3 : ob.data = .fields vs)
    (hc : (["enumerate", "zip", "dict_itemiterator", "dict_reverseitemiterator", "odict_iterator", "itertools.zip_longest", "itertools.pairwise"].contains T) = false) (hQ : Q () s) : wpAny (model prog w) A (letOwnedTupleGo t (.ref I) wv) Q E s := by
  have body : ∀ (a : Addr) (f : Bool → Sem Unit), f false = pure () → wpAny (model prog w) A (do
      let o ← load I
      match o.cls, o.data with
      | .type n, .fields vs => f (["enumerate", "zip", "dict_itemiterator", "dict_reverseitemiterator", "odict_iterator", "itertools.zip_longest", "itertools.pairwise"].contains n && vs[0]? == some (rawInt a))
      | _, _ => pure ()) Q E s := fun a f hf => by
    refine wpAny_bind (wpAny_load e1 ?_)
    rw [e2, e3]
    show wpAny _ _ (f (List.contains _ T && _)) _ _ _
    rw [hc]
    exact (show f (false && _) = pure () from hf) ▸ wpAny_pure hQ
  cases t with
  | Tuple => cases wv <;> first | exact wpAny_pure hQ | exact body _ (fun b => if b = true then _ else _) rfl
  | List => cases wv <;> first | exact wpAny_pure hQ | exact body _ (fun b => if b = true then _ else _) rfl
  | _ => exact wpAny_pure hQ
theorem letOwned_ok {t : Expr} {wv : Value} {Q : Unit → Shared → Prop} {E : Value → Shared → Prop} (x : IterOk cx s.heap g env I src j) (hQ : Q () s) : wpAny (model prog w) A (letOwnedTupleGo t (.ref I) wv) Q E s :=
  x.cls.elim fun ob y => y.elim fun T y => y.elim fun vs y => letOwnedG y.1 y.2.1 y.2.2.1 (by rcases y.2.2.2 with rfl | rfl | rfl <;> decide) hQ

theorem iter_ok {v : V} {wv : Value} (C : CxOk cx) (hf : FrR cx env g ρ s.heap) (hw : W cx σ g s.heap s.toks) (hv : VR cx s.heap g v wv) (e : srcOf v = some src) :
    wpAny (model prog w) A (pyIter wv) (fun it s' => it = .ref s.heap.objs.size ∧ W cx σ g s'.heap s'.toks ∧ Next cx g s g s' ∧ FrR cx env g ρ s'.heap ∧ IterOk cx s'.heap g env s.heap.objs.size src 0) Z s := by
  have fin : ∀ {o : Obj}, IterAt cx (s.heap.push o) g s.heap.objs.size src 0 → (Value.ref s.heap.objs.size = .ref s.heap.objs.size ∧ W cx σ g (s.heap.push o) s.toks ∧ Next cx g s g { s with heap := s.heap.push o } ∧ FrR cx env g ρ (s.heap.push o) ∧ IterOk cx (s.heap.push o) g env s.heap.objs.size src 0) := fun {o} hat =>
    ⟨rfl, hw.keeps (fun _ _ e => Heap.get?_push_of_some _ e) (Nat.le_refl _), ⟨⟨_, _, rfl⟩, Nat.le_refl _, .push o⟩, hf.mono C (.push o), ⟨hat, hw.new (get_size _), hw.fresh₀ C, fun hm => by
      rcases mem_frame hm with q | ⟨x, hx⟩
      · obtain ⟨m, ⟨o, es, ep, ho, _⟩, _⟩ := hf.ns
        rw [← q, get_size] at ho; cases ho
      · obtain ⟨⟨u, oc, ho, _⟩, _⟩ := hf.cells _ _ hx
        rw [get_size] at ho; cases ho⟩⟩
  cases v with
  | pl vs =>
    cases e
    apply hv.plE; intro _ _ p f rv
    · exact wpAny_pyIter_list p.isList (fin ⟨_, (VR.pl p f rv).mono (Ev.push (X := []) _), _, Heap.get?_push_size _ rfl, rfl, rfl⟩)
  | lst i =>
    cases e
    apply hv.lstE; intro _ q
    ·
      obtain ⟨ws, p⟩ := hw.amOld (List.mem_of_getElem? q)
      exact wpAny_pyIter_list p.isList (fin ⟨_, .lst q, _, Heap.get?_push_size _ rfl, rfl, rfl⟩)
  | tup vs =>
    cases e
    apply hv.tupE; intro _ _ p f rv
    · exact wpAny_pyIter_tuple p.isTuple (fin ⟨_, _, let ⟨m, e⟩ := p; ⟨m, Heap.get?_push_of_some _ e⟩, f, rv.mono (Ev.push (X := []) _), _, Heap.get?_push_size _ rfl, rfl, rfl⟩)
  | rng a b =>
    cases e
    apply hv.rngE; intro _ _ _ _ q1 q2 h f
    ·
      have q1 : a.natAbs < 2 ^ 60 := Nat.le_of_ble_eq_true q1
      have q2 : b.natAbs < 2 ^ 60 := Nat.le_of_ble_eq_true q2
      refine wpAny_pyIter_range h (small_one (by omega) (by omega) (by omega) (by omega)) (fin ⟨(Builtin.Range.rangeSize a b 1).toNat, ?_, ?_⟩)
      · have e1 : ((Builtin.Range.rangeSize a b 1).toNat : Int) = Builtin.Range.rangeSize a b 1 := by
          unfold Builtin.Range.rangeSize
          rw [if_pos (by decide)]
          split
          · rw [Int.ediv_one]; omega
          · rfl
        rw [e1]
        show IsRangeIter _ _ (a + ((0 : Nat) : Int)) _ _
        rw [Int.natCast_zero, Int.add_zero]
        exact Heap.get?_push_size _ rfl
      · unfold Builtin.Range.rangeSize
        rw [if_pos (by decide)]
        split <;> split <;> first | (rw [Int.ediv_one]; omega) | omega
  | _ => cases e

theorem EnvP.elim {X : List Addr} {f : Flow} {s₁ : Shared} (x : EnvP cx env X g s σ ρ fl f s₁) : ∃ g₁, W cx σ g₁ s₁.heap s₁.toks ∧ FrR cx env g₁ ρ s₁.heap ∧ s.toks ≤ s₁.toks ∧ Ev cx (X ++ wr env) g g₁ s.heap s₁.heap ∧ (∃ h tk, s₁ = { s with heap := h, toks := tk }) ∧ FlR cx g₁ s₁.heap fl f := by
  obtain ⟨h', tk, g', rfl, l, w1, e1, f1, k⟩ := x
  exact ⟨g', w1, f1, l, e1, ⟨h', tk, rfl⟩, k⟩

theorem IterOk.live {h : Heap} (x : IterOk cx h g env I src j) : ∃ o, h.get? I = some o := x.cls.imp fun o y => y.elim fun T y => y.elim fun vs y => y.1
theorem ResP.map {P Q : Flow → Shared → Prop} {r : Result} {s : Shared} (h : ResP P r s) (k : ∀ f, P f s → Q f s) : ResP Q r s := by
  cases r with
  | ok f => exact k f h
  | error x => exact h.elim
theorem EnvP.glue {f : Flow} {g₁ : Gh} {s₁ s₂ : Shared} (live : ∃ o, s₁.heap.get? I = some o) (hI : I ∉ g₁.am) (same : ∃ h tk, s₁ = { s with heap := h, toks := tk }) (l : s.toks ≤ s₁.toks) (E : Ev cx ([I] ++ wr env) g g₁ s.heap s₁.heap) (x : EnvP cx env [I] g₁ s₁ σ ρ fl f s₂) : EnvP cx env [I] g s σ ρ fl f s₂ :=
  same.elim fun h y => y.elim fun t q => by
    subst q
    obtain ⟨h', tk, g', q, l2, W2, E2, F2, k⟩ := x
    exact ⟨h', tk, g', q, Nat.le_trans l l2, W2, E.trans E2 (List.forall_mem_cons.mpr ⟨live.elim fun o e => E2.notin e hI, fun a ha => (F2.free_wr a ha).1⟩), F2, k⟩
theorem ExP.wide {X : List Addr} {f : Flow} {s₂ : Shared} (x : ExP cx env g s σ ρ fl f s₂) : EnvP cx env X g s σ ρ fl f s₂ := by
  obtain ⟨h', tk, g', q, l2, W2, E2, F2, k⟩ := x
  exact ⟨h', tk, g', q, l2, W2, E2.weaken (fun a ha => List.mem_append_right _ ha), F2, k⟩
theorem wlF_ok (H : Sound prog w cx fr n r) (G : CxG cx) {t : Expr} {b : List Stmt} (e : wlF r sc σ ρ t b = some (fl, σ', ρ')) (hs : ScE env sc) (hf : FrR cx env g ρ s.heap) (hw : W cx σ g s.heap s.toks) (hA : Room fr n A) :
    codeAny (model prog w) A (.whileLoop t b [] env) (ResP (ExP cx env g s σ' ρ' fl)) s := by
  refine codeAny_of_tree ?_
  show wpAny _ A ((whileTurn t b [] env).onRaise (fun x => do noteFrame x env; theTreesLotGoes x)) _ _ s
  refine wpAny_noted ?_
  simp only [whileTurn]
  exact bindE e fun q q1 e => wpAny_bind (wpZ (H.tst q1 hs hf hw hA) fun b1 s1 x1 => x1.1 ▸ x1.k fun g1 W1 N1 => by
    obtain ⟨t1, σ1⟩ := q
    have F1 := hf.mono G.ok N1.evo
    cases t1 with
    | false =>
      simp only [Bool.false_eq_true, if_false]
      exact p2a e ▸ p3b e ▸ p3c e ▸ wpAny_bind (wpAny_execs_nil (wpAny_pure (N1.ex (ExP.here F1 W1))))
    | true =>
      simp only [if_true]
      exact bindE e fun p q2 e => wpAny_bind (wpZ (exs_ok H q2 hs F1 W1 hA) fun f s2 x2 => by
        obtain ⟨f0, σ2, ρ2⟩ := p
        cases f0 with
        | next => apply x2.nx; exact fun g2 W2 F2 A2 => wpAny_pure ⟨rfl, codeAny_mono (H.wl e hs F2 W2 hA) fun r s3 h3 => h3.map fun f x => N1.ex (ExP.after A2.1 A2.2.1 A2.2.2 x)⟩
        | ret v => refine p2a e ▸ p3b e ▸ p3c e ▸ ?_; apply x2.rt; exact fun wv x => wpAny_pure (N1.ex x)))

theorem flF_ok (H : Sound prog w cx fr n r) (G : CxG cx) {t : Expr} {b : List Stmt} (e : flF r sc σ ρ t src j b = some (fl, σ', ρ')) (hs : ScE env sc) (hf : FrR cx env g ρ s.heap) (hw : W cx σ g s.heap s.toks) (hA : Room fr n A) (hi : IterOk cx s.heap g env I src j) :
    codeAny (model prog w) A (.forLoop t (.ref I) b [] env) (ResP (EnvP cx env [I] g s σ' ρ' fl)) s := by
  refine codeAny_of_tree ?_
  show wpAny _ A ((forTurn t (.ref I) b [] env).onRaise (fun x => do noteFrame x env; theTreesLotGoes x)) _ _ s
  refine wpAny_noted ?_
  simp only [forTurn]
  refine bindE e fun x q1 e => wpAny_bind (wpAny_standAt (wpAny_bind (wpAny_onRaise (wpAny_mono (next_ok G.ok hA.handled hi hw q1) (fun r s1 x1 => ?_) fun _ _ h' => h'.elim))))
  obtain ⟨h1, t1, rfl, l1, W1, E1, k⟩ := x1
  have F1 := hf.move G.ok E1 hi.out
  have E1' : Ev cx ([I] ++ wr env) g g s.heap h1 := E1.weaken (fun a ha => List.mem_append_left _ ha)
  cases x with
  | none => exact (show r = none from k) ▸ p2a e ▸ p3b e ▸ p3c e ▸ wpAny_pure ⟨rfl, codeAny_block (wpAny_execs_nil ⟨h1, t1, g, rfl, l1, W1, E1', F1, rfl⟩)⟩
  | some v => exact Exists.elim k fun wv k => k.1 ▸ wpAny_bind (letOwned_ok k.2.2 (bindE (show ((asgV sc ρ t v).bind fun ρ => (exs _ sc σ ρ b).bind _) = _ from e) fun ρ1 q2 e => wpAny_bind (wpZ (asg_ok (s := { s with heap := h1, toks := t1 }) G.ok hs q2 F1 W1 k.2.1 hA.handled) fun _ s2 x2 => x2.k fun g2 W2 F2 A2 => by
      have I2 := k.2.2.move G.ok A2.2.2 hi.envw
      have up : ∀ {f s₂}, EnvP cx env [I] g2 s2 σ' ρ' fl f s₂ → EnvP cx env [I] g s σ' ρ' fl f s₂ := fun x => EnvP.glue (s₁ := { s with heap := h1, toks := t1 }) k.2.2.live k.2.2.free.1 ⟨_, _, rfl⟩ l1 E1' (EnvP.glue I2.live I2.free.1 A2.1 A2.2.1 (A2.2.2.weaken (fun a ha => List.mem_append_right _ ha)) x)
      exact bindE e fun p q3 e => wpAny_bind (wpZ (exs_ok H q3 hs F2 W2 hA) fun f s3 x3 => by
        obtain ⟨f0, σ3, ρ3⟩ := p
        cases f0 with
        | next =>
          apply x3.nx
          exact fun g3 W3 F3 A3 =>
            have I3 := I2.move G.ok A3.2.2 hi.envw
            wpAny_pure ⟨rfl, codeAny_mono (H.fl e hs F3 W3 hA I3) fun r s4 h4 => h4.map fun f x => up (EnvP.glue I3.live I3.free.1 A3.1 A3.2.1 (A3.2.2.weaken (fun a ha => List.mem_append_right _ ha)) x)⟩
        | ret v => cases p2a e; cases p3b e; cases p3c e; apply x3.rt; exact fun wv x => wpAny_pure (up x.wide)))))
end
end Mine
end
section
set_option maxRecDepth 100000
set_option maxHeartbeats 2000000
set_option linter.unusedVariables false
namespace Mine
open PySem PySem.Calls PyProof.Rows PySem.W PySem.SeqAt

section
variable {prog : Program} {w : World} {A : Around} {s : Shared} {cx : Cx} {n : Nat} {r : R} {F : Facts} {sc : Scope} {σ σ' : Sto} {ρ ρ' : Loc} {v : V} {env : Env} {g : Gh} {fl : Fl}

theorem exWhile_ok (H : Sound prog w cx fr n r) {t : Expr} {b o : List Stmt} {pos : Pos} (e : exWhile r sc σ ρ t b o = some (fl, σ', ρ')) (hs : ScE env sc) (hf : FrR cx env g ρ s.heap) (hw : W cx σ g s.heap s.toks) (hA : Room fr n A) :
    wpAny (model prog w) A (exec (.While t b o pos) env) (ExP cx env g s σ' ρ' fl) Z s := by
  exact whE e fun q e => List.isEmpty_iff.mp q ▸ wpAny_While (codeAny_mono (H.wl e hs hf hw hA) fun r s' h => by
    cases r with
    | ok f => exact h
    | error x => exact h.elim)
theorem exFor_ok (H : Sound prog w cx fr n r) (G : CxG cx) {t it : Expr} {b o : List Stmt} {pos : Pos} (e : exFor r sc σ ρ t it b o = some (fl, σ', ρ')) (hs : ScE env sc) (hf : FrR cx env g ρ s.heap) (hw : W cx σ g s.heap s.toks) (hA : Room fr n A) :
    wpAny (model prog w) A (exec (.For t it b o pos) env) (ExP cx env g s σ' ρ' fl) Z s := by
  refine whE e fun qo e => bindE e fun q q1 e => bindE e fun src q2 e => List.isEmpty_iff.mp qo ▸ ?_
  have hset : ∀ x, foldedSetIterable it env x = pure x := fun x => by
    cases it <;> first | rfl | (rw [H.set] at q1; cases q1)
  refine wpAny_For (wpZ (H.ev q1 hs hf hw hA) fun wv s1 x1 => x1.k fun g1 W1 V1 N1 => wpZ (iter_ok G.ok (hf.mono G.ok N1.evo) W1 V1 q2) fun i s2 x2 => ?_) hset
  obtain ⟨rfl, W2, N2, F2, I2⟩ := x2
  refine codeAny_mono (H.fl e hs F2 W2 hA I2) fun r s3 h3 => ?_
  cases r with
  | error x => exact h3.elim
  | ok f =>
    obtain ⟨h3', t3, g3, rfl, l3, W3, E3, F3, k⟩ := EnvP.glue (s := s1) (g := g1) I2.live I2.free.1 N2.same N2.tok (frame_weaken N2.evo) h3
    exact N1.ex ⟨h3', t3, g3, rfl, l3, W3, E3.drop fun a ha => (List.mem_append.mp ha).elim (fun ha => .inr (List.mem_singleton.mp ha ▸ get_size _)) .inl, F3, k⟩
end
end Mine
end
section
set_option maxRecDepth 100000
set_option maxHeartbeats 2000000
set_option linter.unusedVariables false
namespace Mine
open PySem PySem.Calls PyProof.Rows PySem.W PySem.SeqAt

section
variable {prog : Program} {w : World} {A : Around} {s : Shared} {cx : Cx} {n : Nat} {r : R} {F : Facts} {sc : Scope} {σ σ' : Sto} {ρ ρ' : Loc} {v : V} {env : Env} {g : Gh} {fl : Fl} {I D : Addr} {src : Src} {j : Nat}

structure DOk (cx : Cx) (env : Env) (D : Addr) (acc : List V) (g : Gh) (h : Heap) : Prop where
  hid : D ∈ g.hid
  am : D ∉ g.am
  new : cx.h₀.objs.size ≤ D
  fr : D ∉ frame env
  lst : ∃ ws : List Value, h.PlainList D ws.toArray ∧ VRs cx h g acc ws

theorem DOk.frw {acc : List V} {h : Heap} (d : DOk cx env D acc g h) : D ∉ wr env := fun q => d.fr (wr_sub _ q)
theorem DOk.move (C : CxOk cx) {acc : List V} {h h' : Heap} {g' : Gh} {X : List Addr} (d : DOk cx env D acc g h) (x : Ev cx X g g' h h') (hX : D ∉ X) : DOk cx env D acc g' h' := by
  obtain ⟨ws, ⟨m, p⟩, rv⟩ := d.lst
  exact ⟨by rw [x.hid]; exact d.hid, x.notin p d.am, d.new, d.fr, ws, ⟨m, x.keepN p d.am hX (C.notTab d.new) (fun es ep q => by cases q)⟩, rv.mono x⟩

structure ClS (cx : Cx) (env : Env) (D I : Addr) (g : Gh) (s : Shared) (g₁ : Gh) (s₁ : Shared) : Prop where
  same : ∃ h' tk, s₁ = { s with heap := h', toks := tk }
  tok : s.toks ≤ s₁.toks
  evo : Ev cx (D :: I :: wr env) g g₁ s.heap s₁.heap

theorem ClS.refl : ClS cx env D I g s g s := ⟨⟨s.heap, s.toks, rfl⟩, Nat.le_refl _, .refl⟩
theorem ClS.step {g₁ g₂ : Gh} {s₁ s₂ : Shared} {X : List Addr} (x : ClS cx env D I g s g₁ s₁) (same : ∃ h' tk, s₂ = { s₁ with heap := h', toks := tk }) (tok : s₁.toks ≤ s₂.toks) (e : Ev cx X g₁ g₂ s₁.heap s₂.heap)
    (hX : ∀ a ∈ X, a ∈ D :: I :: wr env) (hD : D ∉ g₂.am) (hI : I ∉ g₂.am) (hf : ∀ a ∈ wr env, a ∉ g₂.am) : ClS cx env D I g s g₂ s₂ := by
  obtain ⟨⟨h1, t1, rfl⟩, l1, e1⟩ := x
  obtain ⟨h2, t2, rfl⟩ := same
  refine ⟨⟨h2, t2, rfl⟩, Nat.le_trans l1 tok, e1.trans (e.weaken hX) (List.forall_mem_cons.mpr ⟨hD, List.forall_mem_cons.mpr ⟨hI, hf⟩⟩)⟩
theorem ClS.fin {g₁ : Gh} {s₁ s₂ : Shared} {acc : List V} {f : Flow} (x : ClS cx env D I g s g₁ s₁) (y : ClP cx env D I g₁ s₁ σ' ρ' acc f s₂) (hD : ∀ {g h}, Ev cx (D :: I :: wr env) g₁ g s₁.heap h → D ∉ g.am ∧ I ∉ g.am) : ClP cx env D I g s σ' ρ' acc f s₂ := by
  obtain ⟨⟨h1, t1, rfl⟩, l1, e1⟩ := x
  obtain ⟨h2, t2, g2, ws, rfl, l2, W2, E2, F2, p2, r2⟩ := y
  refine ⟨h2, t2, g2, ws, rfl, Nat.le_trans l1 l2, W2, e1.trans E2 (List.forall_mem_cons.mpr ⟨(hD E2).1, List.forall_mem_cons.mpr ⟨(hD E2).2, fun a ha => (F2.free_wr a ha).1⟩⟩), F2, p2, r2⟩

theorem DOk.am' {acc : List V} {h : Heap} (d : DOk cx env D acc g h) {X : List Addr} {g' : Gh} {h' : Heap} (E : Ev cx X g g' h h') : D ∉ g'.am := by
  obtain ⟨ws, ⟨m, p⟩, _⟩ := d.lst
  exact E.notin p d.am

theorem fill_ok (C : CxOk cx) {acc : List V} {x : V} {wx : Value} (hw : W cx σ g s.heap s.toks) (d : DOk cx env D acc g s.heap) (hx : VR cx s.heap g x wx) (hl : Nat.blt acc.length 100000 = true) :
    wpAny (model prog w) A (call (.builtin "list.append") [.ref D, wx]) (fun _ s' => (∃ h' tk, s' = { s with heap := h', toks := tk }) ∧ s.toks ≤ s'.toks ∧ W cx σ g s'.heap s'.toks ∧ Ev cx [D] g g s.heap s'.heap ∧ DOk cx env D (acc ++ [x]) g s'.heap) Z s := by
  obtain ⟨ws, p, rv⟩ := d.lst
  have hl := Nat.le_of_ble_eq_true hl
  refine wpAny_list_append_plain p (fun h' p' hs => ?_) (by rw [List.size_toArray, ← rv.length]; exact fits (by omega))
  have E : Ev cx [D] g g s.heap h' := Ev.fill hs.extBut d.hid (by simp)
  have p2 : h'.PlainList D (ws ++ [wx]).toArray := by
    have : (ws ++ [wx]).toArray = ws.toArray.push wx := by simp
    rw [this]; exact p'
  refine ⟨⟨h', s.toks, rfl⟩, Nat.le_refl _, ?_, E, ⟨d.hid, d.am, d.new, d.fr, _, p2, (rv.mono E).append (.cons (hx.mono E) .nil)⟩⟩
  refine ⟨hw.tok, fun a m => let ⟨o, es, ep, e, d⟩ := hw.frs a m; ⟨o, es, ep, (hs.2 a fun q => by
    subst q; obtain ⟨n, e'⟩ := p; rw [e'] at e; cases e; cases d).trans e, d⟩, OldK.step_same hw.old d.new hs, ?_, ?_, fun t m => (hw.tabs t m).same p hs, hw.len, hw.nodup, fun a m => ?_, hw.gn, hw.base, hw.based, hw.fresh, fun i us e => ?_⟩
  · obtain ⟨mc, a, b⟩ := hw.booked
    exact ⟨mc, Ns_same a p hs, b⟩
  · obtain ⟨mc, a, b⟩ := hw.nolim
    exact ⟨mc, Ns_same a p hs, b⟩
  · by_cases q : a = D
    · subst q; exact ⟨_, p2⟩
    · obtain ⟨us, e⟩ := hw.hidden a m
      exact ⟨us, e.at fun o e => (hs.2 a q).trans e⟩
  · obtain ⟨a, us', e1, e2, e3⟩ := hw.lists i us e
    refine ⟨a, us', e1, e2.at fun o e => (hs.2 a fun q => ?_).trans e, e3.mono E⟩
    subst q
    exact d.am (List.mem_of_getElem? e1)
end
end Mine
end
section
set_option maxRecDepth 100000
set_option maxHeartbeats 2000000
set_option linter.unusedVariables false
namespace Mine
open PySem PySem.Calls PyProof.Rows PySem.W PySem.SeqAt

theorem compTurn_last {elt : Expr} {gens : List Comprehension} {scope : Scope} {pos : Pos} {depth : Nat} {target iter : Expr} (it acc : Value) (env : Env) (h : gens[depth]? = some ⟨target, iter, [], 0⟩) (h2 : gens[depth + 1]? = none) :
    compTurn (.ListComp elt gens scope pos) depth it acc env = (do
      standAt iter.pos
      match ← pyNext it with
      | none => pure (.done .next)
      | some v =>
        letOwnedTupleGo target it v
        assign target env v
        (eval elt env >>= fun x => call (.builtin "list.append") [acc, x] >>= fun _ => pure ())
        again (.compLoop (.ListComp elt gens scope pos) depth it acc env)) := by
  unfold compTurn
  simp only [h, h2]
  rfl
theorem compTurn_more {elt : Expr} {gens : List Comprehension} {scope : Scope} {pos : Pos} {depth : Nat} {target iter : Expr} {g' : Comprehension} (it acc : Value) (env : Env) (h : gens[depth]? = some ⟨target, iter, [], 0⟩) (h2 : gens[depth + 1]? = some g')
    (ha : g'.is_async = 0) :
    compTurn (.ListComp elt gens scope pos) depth it acc env = (do
      standAt iter.pos
      match ← pyNext it with
      | none => pure (.done .next)
      | some v =>
        letOwnedTupleGo target it v
        assign target env v
        let x ← eval g'.iter env
        standAt g'.iter.pos
        let x ← foldedSetIterable g'.iter env x
        let i ← holding [x] (pyIter x)
        let _ ← runOwn (.compStart (.ListComp elt gens scope pos) (depth + 1) i acc env) env
        again (.compLoop (.ListComp elt gens scope pos) depth it acc env)) := by
  have this : (g'.is_async != 0) = false := by rw [ha]; rfl
  unfold compTurn
  simp only [h, h2, this]
  rfl

section
variable {prog : Program} {w : World} {A : Around} {s : Shared} {cx : Cx} {n : Nat} {r : R} {F : Facts} {sc : Scope} {σ σ' : Sto} {ρ ρ' : Loc} {v : V} {env : Env} {g : Gh} {fl : Fl} {I D : Addr} {src : Src} {j : Nat}

theorem self_ok {Q : Value → Shared → Prop} {E : Value → Shared → Prop} (x : IterOk cx s.heap g env I src j) (h : Q (.ref I) s) : wpAny (model prog w) A (pyIter (.ref I)) Q E s := by
  have q := x.at_
  cases src with
  | list v => exact q.elim fun l y => wpAny_pyIter_listiter y.2 h
  | tup vs => exact q.elim fun a y => y.elim fun ws y => wpAny_pyIter_tupleiter y.2.2.2 h
  | rng a b => exact q.elim fun k y => wpAny_pyIter_rangeiter y.1 h

theorem start_ok {elt : Expr} {gens : List Comprehension} {scope : Scope} {pos : Pos} {depth : Nat} {acc : Value} {Rr : Result → Shared → Prop} {g0 : Comprehension} (h : gens[depth]? = some g0) (ha : g0.is_async = 0)
    (x : IterOk cx s.heap g env I src j) (h0 : codeAny (model prog w) A (.compLoop (.ListComp elt gens scope pos) depth (.ref I) acc env) Rr s) :
    codeAny (model prog w) A (.compStart (.ListComp elt gens scope pos) depth (.ref I) acc env) Rr s := by
  refine codeAny_of_tree ?_
  show wpAny _ _ ((compStart (.ListComp elt gens scope pos) depth (.ref I) acc env).onRaise (fun x => do noteFrame x env; standAt theWindowsPlace)) _ _ s
  refine wpAny_notedAt ?_
  have this : (g0.is_async != 0) = false := by rw [ha]; rfl
  have key : compStart (.ListComp elt gens scope pos) depth (.ref I) acc env = (do
      if (← ask).params.followText "comprehension-iter-twice" then return ← again (.compLoop (.ListComp elt gens scope pos) depth (.ref I) acc env)
      rule "comprehension.iter-twice"
      standAt g0.iter.pos
      again (.compLoop (.ListComp elt gens scope pos) depth (← pyIter (.ref I)) acc env)) := by
    unfold compStart
    simp only [clausesOf, h, Option.elim, this]
    rfl
  rw [key]
  refine wpAny_bind (wpAny_askSetting (wpAny_ite ?_))
  split
  · exact wpAny_bind (wpAny_pure (wpAny_pure (And.intro rfl h0)))
  · exact wpAny_bind (wpAny_rule (wpAny_bind (wpAny_standAt (wpAny_bind (self_ok x (wpAny_pure (And.intro rfl h0)))))))

structure CAt (cx : Cx) (env : Env) (D : Addr) (acc : List V) (I : Addr) (src : Src) (j : Nat) (σ : Sto) (ρ : Loc) (g : Gh) (s : Shared) (g₁ : Gh) (s₁ : Shared) : Prop where
  w : W cx σ g₁ s₁.heap s₁.toks
  f : FrR cx env g₁ ρ s₁.heap
  i : IterOk cx s₁.heap g₁ env I src j
  d : DOk cx env D acc g₁ s₁.heap
  c : ClS cx env D I g s g₁ s₁
theorem CAt.step (C : CxOk cx) {acc : List V} {X : List Addr} {σ₂ : Sto} {g₁ g₂ : Gh} {s₁ s₂ : Shared} (x : CAt cx env D acc I src j σ ρ g s g₁ s₁) (W2 : W cx σ₂ g₂ s₂.heap s₂.toks) (same : ∃ h' tk, s₂ = { s₁ with heap := h', toks := tk }) (tok : s₁.toks ≤ s₂.toks) (E : Ev cx X g₁ g₂ s₁.heap s₂.heap)
    (hX : ∀ a ∈ X, a ∈ D :: I :: wr env) (hI : I ∉ X) (hF : ∀ a ∈ frame env, a ∉ X) {acc' : List V} (D2 : DOk cx env D acc' g₂ s₂.heap) : CAt cx env D acc' I src j σ₂ ρ g s g₂ s₂ :=
  have I2 := x.i.move C E hI
  have F2 := x.f.move C E hF
  ⟨W2, F2, I2, D2, x.c.step same tok E hX D2.am I2.free.1 (fun a ha => (F2.free_wr a ha).1)⟩
theorem CAt.next (C : CxOk cx) {acc : List V} {σ₂ : Sto} {g₁ g₂ : Gh} {s₁ s₂ : Shared} (x : CAt cx env D acc I src j σ ρ g s g₁ s₁) (W2 : W cx σ₂ g₂ s₂.heap s₂.toks) (N : Next cx g₁ s₁ g₂ s₂) : CAt cx env D acc I src j σ₂ ρ g s g₂ s₂ :=
  x.step C W2 N.same N.tok N.evo (fun a ha => nomatch ha) List.not_mem_nil (fun a _ => List.not_mem_nil) (x.d.move C N.evo List.not_mem_nil)
theorem draw_ok (C : CxOk cx) {acc : List V} {h' : Heap} {t1 : Nat} (hf : FrR cx env g ρ s.heap) (hi : IterOk cx s.heap g env I src j) (hID : I ≠ D) (d : DOk cx env D acc g s.heap) (l1 : s.toks ≤ t1) (E1 : Ev cx [I] g g s.heap h') :
    FrR cx env g ρ h' ∧ DOk cx env D acc g h' ∧ ClS cx env D I g s g { s with heap := h', toks := t1 } :=
  have F1 := hf.move C E1 hi.out
  have D1 := d.move C E1 (fun q => hID (List.mem_singleton.mp q).symm)
  ⟨F1, D1, ClS.refl.step ⟨_, _, rfl⟩ l1 E1 (fun a ha => List.mem_singleton.mp ha ▸ List.mem_cons_of_mem _ List.mem_cons_self) D1.am (hi.am E1) (fun a ha => (F1.free_wr a ha).1)⟩
theorem turn_ok (G : CxG cx) {target : Expr} {pos : Pos} {k : Sem Fin} {acc : List V} {ρ₁ : Loc} {Q : Fin → Shared → Prop} {E : Value → Shared → Prop} (hs : ScE env sc) (hf : FrR cx env g ρ s.heap) (hw : W cx σ g s.heap s.toks) (hA : Room fr n A)
    (hi : IterOk cx s.heap g env I src j) (hID : I ≠ D) (d : DOk cx env D acc g s.heap) (e : itemAt σ j src = some (some v)) (q2 : asgV sc ρ target v = some ρ₁)
    (hk : ∀ g₁ s₁, CAt cx env D acc I src (j + 1) σ ρ₁ g s g₁ s₁ → wpAny (model prog w) A k Q E s₁) :
    wpAny (model prog w) A (do
      standAt pos
      match ← pyNext (.ref I) with
      | none => pure (.done .next)
      | some v =>
        letOwnedTupleGo target (.ref I) v
        assign target env v
        k) Q E s := by
  refine wpAny_bind (wpAny_standAt (wpAny_bind (wpZ (next_ok G.ok hA.handled hi hw e) fun r s1 x1 => ?_)))
  obtain ⟨h', t1, rfl, l1, W1, E1, k1⟩ := x1
  have X := draw_ok G.ok hf hi hID d l1 E1
  exact Exists.elim k1 fun wv k1 => k1.1 ▸ wpAny_bind (letOwned_ok (s := { s with heap := h', toks := t1 }) k1.2.2 (wpAny_bind (wpZ (asg_ok (s := { s with heap := h', toks := t1 }) G.ok hs q2 X.1 W1 k1.2.1 hA.handled) fun _ s2 x2 => x2.k fun g2 W2 F2 A2 =>
    have I2 := k1.2.2.move G.ok A2.2.2 hi.envw
    have D2 := X.2.1.move G.ok A2.2.2 d.frw
    hk g2 s2 ⟨W2, F2, I2, D2, X.2.2.step A2.1 A2.2.1 A2.2.2 (fun a ha => List.mem_cons_of_mem _ (List.mem_cons_of_mem _ ha)) D2.am I2.free.1 (fun a ha => (F2.free_wr a ha).1)⟩)))
end
end Mine
end
section
set_option maxRecDepth 100000
set_option maxHeartbeats 2000000
set_option linter.unusedVariables false
namespace Mine
open PySem PySem.Calls PyProof.Rows PySem.W PySem.SeqAt

section
variable {prog : Program} {w : World} {A : Around} {s : Shared} {cx : Cx} {n : Nat} {r : R} {F : Facts} {sc : Scope} {σ σ' : Sto} {ρ ρ' : Loc} {v : V} {env : Env} {g : Gh} {fl : Fl} {I D : Addr} {src : Src} {j : Nat}

theorem ClP.mk' {acc : List V} {g₁ : Gh} {s₁ : Shared} {f : Flow} (c : ClS cx env D I g s g₁ s₁) (w₁ : W cx σ g₁ s₁.heap s₁.toks) (f₁ : FrR cx env g₁ ρ s₁.heap) (d : DOk cx env D acc g₁ s₁.heap) : ClP cx env D I g s σ ρ acc f s₁ := by
  obtain ⟨⟨h', tk, rfl⟩, l, e⟩ := c
  obtain ⟨ws, p, rv⟩ := d.lst
  exact ⟨h', tk, g₁, ws, rfl, l, w₁, e, f₁, p, rv⟩

theorem compTurn_end {elt : Expr} {gens : List Comprehension} {scope : Scope} {pos : Pos} {depth : Nat} {target iter : Expr} (it acc : Value) (env : Env) (h : gens[depth]? = some ⟨target, iter, [], 0⟩) :
    ∃ K : Value → Sem PySem.Fin, compTurn (.ListComp elt gens scope pos) depth it acc env = (do
      standAt iter.pos
      match ← pyNext it with
      | none => pure (.done .next)
      | some v => K v) := ⟨_, by
  unfold compTurn
  simp only [h]
  rfl⟩

theorem setFree (H : Sound prog w cx fr n r) {it : Expr} {x : V × Sto} (q : r.ev sc σ ρ it = some x) (y : Value) : foldedSetIterable it env y = pure y := by
  cases it <;> first | rfl | exact nsE ((H.set ..).symm.trans q)
theorem clF_ok (H : Sound prog w cx fr n r) (G : CxG cx) {elt : Expr} {rest : List Comprehension} {acc acc' : List V} (e : clF r sc σ ρ elt rest src j acc = some (acc', σ', ρ')) {ws : List Value} {gens : List Comprehension} {scope : Scope} {pos : Pos} {depth : Nat}
    (hs : ScE env sc) (hd : gens.drop depth = rest) (hf : FrR cx env g ρ s.heap) (hw : W cx σ g s.heap s.toks) (hA : Room fr n A)
    (hi : IterOk cx s.heap g env I src j) (hID : I ≠ D) (hDh : D ∈ g.hid) (hDa : D ∉ g.am) (hDn : cx.h₀.objs.size ≤ D) (hDf : D ∉ frame env) (hp : s.heap.PlainList D ws.toArray) (hr : VRs cx s.heap g acc ws) :
    codeAny (model prog w) A (.compLoop (.ListComp elt gens scope pos) depth (.ref I) (.ref D) env) (ResP (ClP cx env D I g s σ' ρ' acc')) s := by
  have d : DOk cx env D acc g s.heap := ⟨hDh, hDa, hDn, hDf, ws, hp, hr⟩
  cases rest with
  | nil => exact nsE e
  | cons g0 rest =>
    obtain ⟨target, iter, ifs, asy⟩ := g0
    exact whE e fun q1 e => whE e fun q2 e => bindE e fun x q3 e => by
      obtain rfl : ifs = [] := List.isEmpty_iff.mp q1
      obtain rfl : asy = 0 := of_decide_eq_true q2
      have at_ : ∀ i, gens[depth + i]? = (⟨target, iter, [], 0⟩ :: rest)[i]? := fun i => by rw [← hd, List.getElem?_drop]
      have h1 : gens[depth]? = some ⟨target, iter, [], 0⟩ := at_ 0
      have h2 : gens[depth + 1]? = rest.head? := (at_ 1).trans (by cases rest <;> rfl)
      refine codeAny_of_tree ?_
      show wpAny _ A ((compTurn (.ListComp elt gens scope pos) depth (.ref I) (.ref D) env).onRaise (fun x => do noteFrame x env; theTreesLotGoes x)) _ _ s
      refine wpAny_noted ?_
      have hagain : ∀ {g₁ : Gh} {s₁ : Shared} {σ₁ : Sto} {ρ₁ : Loc} {acc₁ : List V}, r.cl sc σ₁ ρ₁ elt (⟨target, iter, [], 0⟩ :: rest) src (j + 1) acc₁ = some (acc', σ', ρ') → CAt cx env D acc₁ I src (j + 1) σ₁ ρ₁ g s g₁ s₁ →
          codeAny (model prog w) A (.compLoop (.ListComp elt gens scope pos) depth (.ref I) (.ref D) env) (ResP (ClP cx env D I g s σ' ρ' acc')) s₁ := fun {g₁ s₁ σ₁ ρ₁ acc₁} e₁ c =>
        c.d.lst.elim fun ws₁ y => codeAny_mono (H.cl e₁ hs hd c.f c.w hA c.i hID c.d.hid c.d.am c.d.new c.d.fr y.1 y.2) fun rr s2 h => h.map fun f h => c.c.fin (f := f) h fun E => ⟨c.d.am' E, c.i.am E⟩
      cases x with
      | none =>
        exact (compTurn_end (elt := elt) (scope := scope) (pos := pos) (.ref I) (.ref D) env h1).elim fun K hK => hK ▸ wpAny_bind (wpAny_standAt (wpAny_bind (wpZ (next_ok G.ok hA.handled hi hw q3) fun r s1 x1 => by
          obtain ⟨h', t1, rfl, l1, W1, E1, k1⟩ := x1
          have X := draw_ok G.ok hf hi hID d l1 E1
          exact (show r = none from k1) ▸ p2a e ▸ p3b e ▸ p3c e ▸ wpAny_pure (ClP.mk' (f := .next) (s₁ := { s with heap := h', toks := t1 }) X.2.2 W1 X.1 X.2.1))))
      | some v =>
       exact bindE (show ((asgV sc ρ target v).bind fun ρ => clRest r sc σ ρ elt (⟨target, iter, [], 0⟩ :: rest) rest src j acc) = _ from e) fun ρ1 q4 e => by
        cases rest with
        | nil =>
          rw [compTurn_last _ _ _ h1 h2]
          exact turn_ok G hs hf hw hA hi hID d q3 q4 fun g1 s1 c1 => bindE e fun p q6 e => whE e fun q7 e => wpAny_bind (wpAny_bind (wpZ (H.ev q6 hs c1.f c1.w hA) fun wx s2 x2 => x2.k fun g2 W2 V2 N2 =>
            have c2 := c1.next G.ok W2 N2
            wpAny_bind (wpZ (fill_ok G.ok W2 c2.d V2 q7) fun _ s3 x3 => wpAny_pure (wpAny_pure ⟨rfl, hagain e (c2.step G.ok x3.2.2.1 x3.1 x3.2.1 x3.2.2.2.1 (fun a ha => List.mem_singleton.mp ha ▸ List.mem_cons_self) (fun q => hID (List.mem_singleton.mp q)) (fun a ha q => hDf (List.mem_singleton.mp q ▸ ha)) x3.2.2.2.2)⟩))))
        | cons g' rest =>
          exact whE e fun hb e => by
            have ha : g'.is_async = 0 := of_decide_eq_true hb
            rw [compTurn_more _ _ _ h1 h2 ha]
            exact turn_ok G hs hf hw hA hi hID d q3 q4 fun g1 s1 c1 => bindE e fun p q6 e => bindE e fun src' q7 e => bindE e fun q q8 e => by
              have hset : ∀ x, foldedSetIterable g'.iter env x = pure x := fun x => by
                obtain ⟨tg, it, fs, aa⟩ := g'
                exact setFree H q6 x
              refine wpAny_bind (wpZ (H.ev q6 hs c1.f c1.w hA) fun wx s2 x2 => x2.k fun g2 W2 V2 N2 => ?_)
              have c2 := c1.next G.ok W2 N2
              refine wpAny_bind (wpAny_standAt (wpAny_bind (wpAny_of_eq (hset wx) (wpAny_bind (wpAny_holding (wpZ (iter_ok G.ok c2.f W2 V2 q7) fun i s3 x3 => ?_))))))
              obtain ⟨rfl, W3, N3, F3, J3⟩ := x3
              have c3 := c2.next G.ok W3 N3
              have hJD : s2.heap.objs.size ≠ D := fun q => c2.d.lst.elim fun ws2 y => y.1.elim fun m2 p2 => nsE ((get_size s2.heap).symm.trans (q.symm ▸ p2))
              have hIJ : I ≠ s2.heap.objs.size := fun q => c2.i.live.elim fun o e => nsE ((get_size s2.heap).symm.trans (q ▸ e))
              obtain ⟨ws3, p3, r3⟩ := c3.d.lst
              refine wpAny_bind (wpAny_runOwn (start_ok (g0 := g') h2 ha J3 (codeAny_mono (H.cl (depth := depth + 1) q8 hs (by rw [← List.drop_drop, hd]; rfl) F3 W3 hA J3 hJD c3.d.hid c3.d.am c3.d.new c3.d.fr p3 r3) fun rr s4 h => ?_)))
              cases rr with
              | error x => exact h.elim
              | ok f =>
                obtain ⟨h4, t4, g4, ws4, rfl, l4, W4, E4, F4, p4, r4⟩ := h
                have D4 : DOk cx env D q.1 g4 h4 := ⟨by rw [E4.hid]; exact c3.d.hid, c3.d.am' E4, c3.d.new, c3.d.fr, ws4, p4, r4⟩
                have I4 := c3.i.move G.ok E4 (fun q => (List.mem_cons.mp q).elim hID fun q => (List.mem_cons.mp q).elim hIJ c3.i.envw)
                have E34' : Ev cx (D :: wr env) _ g4 s2.heap h4 := ((frame_weaken N3.evo).trans E4 (List.forall_mem_cons.mpr ⟨D4.am, List.forall_mem_cons.mpr ⟨J3.am E4, fun a ha => (F4.free_wr a ha).1⟩⟩)).drop fun a ha =>
                  (List.mem_cons.mp ha).elim (fun q => .inl (q ▸ List.mem_cons_self)) fun ha => (List.mem_cons.mp ha).elim (fun q => .inr (q ▸ get_size _)) fun ha => .inl (List.mem_cons_of_mem _ ha)
                obtain ⟨h3, t3, rfl⟩ := N3.same
                have C4 : ClS cx env D I g s g4 { s2 with heap := h4, toks := t4 } := c2.c.step ⟨_, _, rfl⟩ (Nat.le_trans N3.tok l4) E34' (fun a ha => (List.mem_cons.mp ha).elim (fun q => q ▸ List.mem_cons_self) fun ha => List.mem_cons_of_mem _ (List.mem_cons_of_mem _ ha)) D4.am I4.free.1 (fun a ha => (F4.free_wr a ha).1)
                exact wpAny_pure ⟨rfl, hagain (s₁ := { s2 with heap := h4, toks := t4 }) e ⟨W4, F4, I4, D4, C4⟩⟩
end
end Mine
end
section
set_option maxRecDepth 100000
set_option maxHeartbeats 2000000
set_option linter.unusedVariables false
namespace Mine
open PySem PySem.Calls PyProof.Rows PySem.W PySem.SeqAt

noncomputable def clOf (env : Env) : List (Str × NameKind) → List (Str × Addr) → List (Str × Addr)
  | [], cs => cs
  | (n, k) :: r, cs => if k == .free then clOf env r ((n, (env.cells.lookup n).getD 0) :: cs) else clOf env r cs
theorem clOf_lookup {env : Env} {x : Str} : ∀ (l : List (Str × NameKind)) (cs : List (Str × Addr)), (clOf env l cs).lookup x = if (x, NameKind.free) ∈ l then some ((env.cells.lookup x).getD 0) else cs.lookup x
  | [], cs => by simp [clOf]
  | (n, k) :: r, cs => by
    unfold clOf
    cases hk : (k == NameKind.free) with
    | true =>
      have hk : k = .free := by simpa using hk
      subst hk
      rw [if_pos rfl, clOf_lookup r]
      by_cases h1 : (x, NameKind.free) ∈ r
      · rw [if_pos h1, if_pos (List.mem_cons_of_mem _ h1)]
      · rw [if_neg h1, List.lookup_cons]
        cases hx : x == n with
        | true =>
          have hx : x = n := by simpa using hx
          subst hx
          rw [if_pos List.mem_cons_self]
        | false =>
          have hx : x ≠ n := by simpa using hx
          rw [if_neg]
          intro h
          rcases List.mem_cons.mp h with h | h
          · cases h; exact hx rfl
          · exact h1 h
    | false =>
      have hk : k ≠ .free := by simpa using hk
      rw [if_neg (by simp), clOf_lookup r]
      have : (x, NameKind.free) ∈ (n, k) :: r ↔ (x, NameKind.free) ∈ r := ⟨fun h => by
        rcases List.mem_cons.mp h with h | h
        · cases h; exact absurd rfl hk
        · exact h, List.mem_cons_of_mem _⟩
      simp only [this]
theorem closure_ok {env : Env} {scope : Scope} (h : ∀ n, (n, NameKind.free) ∈ scope.names → (env.cells.lookup n).isSome = true) : closureFor scope env = pure (clOf env scope.names []) := by
  have key : ∀ (l : List (Str × NameKind)) (cs : List (Str × Addr)), (∀ n, (n, NameKind.free) ∈ l → (env.cells.lookup n).isSome = true) →
      (forIn l cs fun (x : Str × NameKind) (r : List (Str × Addr)) => if (x.2 == NameKind.free) = true then (do let a ← cellOf env x.1; pure (ForInStep.yield ((x.1, a) :: r)) : Sem _) else pure (ForInStep.yield r)) = pure (clOf env l cs) := by
    intro l
    induction l with
    | nil => intro cs _; rfl
    | cons p l ih =>
      intro cs h
      obtain ⟨n, k⟩ := p
      rw [List.forIn_cons]
      unfold clOf
      cases hk : (k == NameKind.free) with
      | true =>
        have hk' : k = .free := by simpa using hk
        subst hk'
        obtain ⟨c, hc⟩ := Option.isSome_iff_exists.mp (h n List.mem_cons_self)
        simp only [if_true, cellOf, hc, pure_bind, Option.getD_some]
        exact ih _ fun m hm => h m (List.mem_cons_of_mem _ hm)
      | false =>
        simp only [Bool.false_eq_true, if_false, pure_bind]
        exact ih _ fun m hm => h m (List.mem_cons_of_mem _ hm)
  have := key scope.names [] h
  unfold closureFor
  simp only [this]
  rfl

section
variable {cx : Cx} {sc : Scope} {σ σ' : Sto} {ρ ρ' ρc : Loc} {v : V} {env : Env} {g : Gh}

theorem freeOf_some {o : List (Str × NameKind)} {l : List (Str × NameKind)} {ρc : Loc} (e : freeOf o ρ l = some ρc) : (∀ n, (n, NameKind.free) ∈ l → ∃ v, lk n ρ = some v ∧ celled o n = true) ∧ ∀ x v, lk x ρc = some v → lk x ρ = some v ∧ (x, NameKind.free) ∈ l := by
  induction l generalizing ρc with
  | nil => exact Option.some.inj e ▸ ⟨fun _ h => (nomatch h), fun _ _ h => (nomatch h)⟩
  | cons p l ih =>
    exact bindE e fun l' q e => have H := ih q; by
      split at e
      · rename_i hk
        exact bindE e fun v q1 e => whE e fun q2 e => Option.some.inj e ▸ ⟨fun m hm => (List.mem_cons.mp hm).elim (fun hm => have q : m = p.1 := congrArg Prod.fst hm; ⟨v, q ▸ q1, q ▸ q2⟩) (H.1 m), fun x u h => by
          unfold lk at h
          split at h
          · rename_i q3
            have := strEq_of_seq q3
            exact ⟨this ▸ Option.some.inj h ▸ q1, List.mem_cons.mpr (.inl (Prod.ext this (isFre_ok hk).symm))⟩
          · exact (H.2 x u h).imp id (List.mem_cons_of_mem _)⟩
      · rename_i hk
        exact Option.some.inj e ▸ ⟨fun m hm => (List.mem_cons.mp hm).elim (fun hm => by rw [← hm] at hk; exact tfE hk) (H.1 m), fun x u h => (H.2 x u h).imp id (List.mem_cons_of_mem _)⟩
theorem FrR.cell {cx : Cx} {h : Heap} (hf : FrR cx env g ρ h) (hs : ScE env sc) {x : Str} (e : lk x ρ = some v) (hc : celled sc.names x = true) : ∃ c w, env.cells.lookup x = some c ∧ h.IsCell c (some w) ∧ VR cx h g v w :=
  hf.ns.elim fun m y => (y.2 x v e).elim (fun z => absurd z.1 (celled_at hs hc)) fun z => z.2.elim fun c z => z.elim fun w z => ⟨c, w, z⟩

theorem isFun_ok {k : ScopeKind} (e : isFun k = true) : k = .function := by cases k <;> first | exact ftE e | rfl
theorem okName_loc {l : List (Str × NameKind)} {p : Str × NameKind} (e : okName l p = true) : p.2 ≠ .cell ∧ (p.2 = .local → l.lookup p.1 = some .local) ∧ (p.2 = .free → l.lookup p.1 = some .free) := by
  delta okName at e
  rw [← lk_lookup]
  refine ⟨fun hc => ?_, fun hc => ?_, fun hc => ?_⟩
  · rw [hc] at e; exact ftE e
  · rw [hc] at e; exact anyE e fun o q h => q.trans (congrArg some (isLoc_ok h))
  · rw [hc] at e; exact anyE e fun o q h => q.trans (congrArg some (isFre_ok h))
theorem scOk_some {sc : Scope} (h : scOk sc = true) : sc.kind = .function ∧ (∀ x ∈ sc.names, x.2 ≠ .cell) ∧ (∀ x ∈ sc.names, x.2 = .local → sc.names.lookup x.1 = some .local) ∧ ∀ x ∈ sc.names, x.2 = .free → sc.names.lookup x.1 = some .free :=
  andE h fun q1 h => andE h fun _ h => andE h fun _ h => have key := fun x hx => okName_loc (allB_mem h x hx)
  ⟨isFun_ok q1, fun x hx => (key x hx).1, fun x hx => (key x hx).2.1, fun x hx => (key x hx).2.2⟩

theorem relabel_lookup {names : List (Str × NameKind)} {x : Str} {P : Str → Bool} : (names.map fun p => if (p.2 == NameKind.free && P p.1) = true then (p.1, NameKind.cell) else (p.1, p.2)).lookup x =
    (names.lookup x).map fun k => if (k == NameKind.free && P x) = true then .cell else k := by
  induction names with
  | nil => rfl
  | cons p names ih =>
    obtain ⟨n, k⟩ := p
    rw [List.map_cons, List.lookup_cons]
    have e : ∀ {c : Bool}, (if c = true then (n, NameKind.cell) else (n, k)) = (n, if c = true then NameKind.cell else k) := by intro c; cases c <;> rfl
    dsimp only
    rw [e, List.lookup_cons]
    cases hx : x == n with
    | true =>
      have hx : x = n := by simpa using hx
      subst hx
      rfl
    | false => exact ih
theorem relabel_at {scope : Scope} {x : Str} (hfn : env.scope.kind = .function) : (relabel scope env).names.lookup x = (scope.names.lookup x).map fun k => if (k == NameKind.free && env.kindOf x == some .cell) = true then .cell else k := by
  unfold relabel
  rw [hfn]
  have : ∀ k n, (k == NameKind.free && ScopeKind.function == ScopeKind.function && env.kindOf n == some NameKind.cell) = (k == NameKind.free && env.kindOf n == some NameKind.cell) := fun k n => by
    have : (ScopeKind.function == ScopeKind.function) = true := rfl
    rw [this, Bool.and_true]
  simp only [this]
  exact relabel_lookup (P := fun n => env.kindOf n == some NameKind.cell)
theorem relabel_scR {scope : Scope} (hfn : env.scope.kind = .function) : ScR (relabel scope env) scope := fun x k h => by
  rw [relabel_at hfn, h]
  simp only [Option.map_some]
  by_cases hk : (k == NameKind.free && env.kindOf x == some .cell) = true
  · rw [if_pos hk]
    rw [Bool.and_eq_true] at hk
    exact .inr ⟨by simpa using hk.1, rfl⟩
  · rw [if_neg hk]; exact .inl rfl
end
end Mine
end
section
set_option maxRecDepth 100000
set_option maxHeartbeats 2000000
set_option linter.unusedVariables false
namespace Mine
open PySem PySem.Calls PyProof.Rows PySem.W PySem.SeqAt

noncomputable def Gh.hide (g : Gh) (D : Addr) : Gh := ⟨g.am, D :: g.hid, g.φ, g.n⟩
noncomputable def Gh.show (g : Gh) (l : List Addr) : Gh := ⟨g.am, l, g.φ, g.n⟩

section
variable {prog : Program} {w : World} {A : Around} {s : Shared} {cx : Cx} {n : Nat} {r : R} {F : Facts} {sc : Scope} {σ σ' : Sto} {ρ ρ' ρc : Loc} {v : V} {env : Env} {g : Gh} {fl : Fl} {I D C : Addr} {src : Src} {j : Nat}

theorem IterOk.moM {h h' : Heap} {g' : Gh} {env' : Env} (x : IterOk cx h g env I src j) (M : Mo g g' h h') (k : ∀ o, h.get? I = some o → h'.get? I = some o) (he : I ∉ frame env') : IterOk cx h' g' env' I src j := by
  have q := x.at_
  delta IterAt at q
  have fin : ∀ o, h.get? I = some o → IterAt cx h' g' I src j → IterOk cx h' g' env' I src j := fun o e y => ⟨y, M.free e x.free, x.new, he⟩
  split at q
  · obtain ⟨l, hv, o, e1, e2⟩ := q
    exact fin o e1 ⟨l, hv.monoM M, o, k o e1, e2⟩
  · obtain ⟨a, ws, ⟨m, p⟩, fr, rv, o, e1, e2⟩ := q
    exact fin o e1 ⟨a, ws, ⟨m, M.imm a _ p rfl fr⟩, M.free p fr, rv.monoM M, o, k o e1, e2⟩
  · obtain ⟨q, e1, e2⟩ := q
    exact fin _ e1 ⟨q, k _ e1, e2⟩

theorem hide_mo {h h' : Heap} (old : ∀ b o, h.get? b = some o → h'.get? b = some o) (hD : h.get? D = none) : Mo g (g.hide D) h h' :=
  ⟨⟨[], by simp [Gh.hide]⟩, fun a m => by
    rcases List.mem_cons.mp m with rfl | m
    · exact .inr hD
    · exact .inl m, Nat.le_refl _, fun _ _ => rfl, fun a o e _ _ => old a o e, fun a m hn => absurd m hn⟩
theorem show_mo {l : List Addr} {h : Heap} (hl : ∀ a ∈ l, a ∈ g.hid) : Mo g (g.show l) h h :=
  ⟨⟨[], by simp [Gh.show]⟩, fun a m => .inl (hl a m), Nat.le_refl _, fun _ _ => rfl, fun a o e _ _ => e, fun a m hn => absurd m hn⟩

theorem W.hide {h h' : Heap} {tk tk' : Nat} (w : W cx σ g h tk) (old : ∀ b o, h.get? b = some o → h'.get? b = some o) (hle : tk ≤ tk') (hD : h.get? D = none) (p : ∃ ws : List Value, h'.PlainList D ws.toArray) : W cx σ (g.hide D) h' tk' := by
  have w1 := w.keeps old hle
  refine ⟨w1.tok, w1.frs, w1.old, w1.booked, w1.nolim, w1.tabs, w1.len, w1.nodup, fun a m => ?_, w1.gn, w1.base, w1.based, w1.fresh, fun i vs e => ?_⟩
  · rcases List.mem_cons.mp m with rfl | m
    · exact p
    · exact w1.hidden a m
  · obtain ⟨a, ws, e1, ⟨m, e2⟩, e3⟩ := w.lists i vs e
    exact ⟨a, ws, e1, ⟨m, old _ _ e2⟩, e3.monoM (hide_mo old hD)⟩
theorem W.show {h : Heap} {tk : Nat} {l : List Addr} (w : W cx σ g h tk) (hl : ∀ a ∈ l, a ∈ g.hid) : W cx σ (g.show l) h tk :=
  ⟨w.tok, w.frs, w.old, w.booked, w.nolim, w.tabs, w.len, w.nodup, fun a m => w.hidden a (hl a m), w.gn, w.base, w.based, w.fresh, fun i vs e =>
    let ⟨a, ws, e1, e2, e3⟩ := w.lists i vs e; ⟨a, ws, e1, e2, e3.monoM (show_mo hl)⟩⟩

structure CompR (cx : Cx) (I D C : Addr) (g : Gh) (s : Shared) (σ' : Sto) (acc : List V) (g' : Gh) (s' : Shared) : Prop where
  same : ∃ h' tk, s' = { s with heap := h', toks := tk }
  tok : s.toks ≤ s'.toks
  w : W cx σ' g' s'.heap s'.toks
  evo : Ev cx [I] g g' s.heap s'.heap
  vr : VR cx s'.heap g' (.pl acc) (.ref D)
  new : s.heap.get? C = none
  new₀ : cx.h₀.objs.size ≤ C
  ns : ∃ m, s'.heap.Ns C m
  free : g'.free C
  nfr : C ∉ cx.frs

theorem noLam_lk {scope : Scope} (h : noLam scope = true) : lamOk scope = false := by
  delta noLam at h
  split at h
  · cases h
  · assumption

theorem compFr (hfn : env.scope.kind = .function) {scope : Scope} {gh : Gh} {h h' : Heap} (hsc : scOk scope = true) (hnl : noLam scope = true) (hfree : freeOf sc.names ρ scope.names = some ρc) (hs : ScE env sc) (hf : FrR cx env g ρ h)
    (M : Mo g gh h h') (old : ∀ b o, h.get? b = some o → h'.get? b = some o) {m : Str → Option Value} (hn : h'.Ns C m) (hC : gh.free C) (hC0 : cx.h₀.objs.size ≤ C) : FrR cx (compEnvC scope (clOf env scope.names []) C env) gh ρc h' := by
  obtain ⟨k1, k2, k3, k4⟩ := scOk_some hsc
  obtain ⟨f1, f2⟩ := freeOf_some hfree
  obtain ⟨m0, hn0, hm0⟩ := hf.ns
  have hcell : ∀ x v, lk x ρ = some v → celled sc.names x = true → ∃ c w, env.cells.lookup x = some c ∧ h.IsCell c (some w) ∧ VR cx h g v w := fun x v e hc => hf.cell hs e hc
  have hlook : ∀ x c, (clOf env scope.names []).lookup x = some c → (x, NameKind.free) ∈ scope.names ∧ env.cells.lookup x = some c := fun x c e => by
    rw [clOf_lookup] at e
    split at e
    · rename_i hm
      obtain ⟨v, e1, e2⟩ := f1 x hm
      obtain ⟨c', w, q1, _⟩ := hcell x v e1 e2
      rw [q1] at e
      exact ⟨hm, by rw [q1]; exact e⟩
    · cases e
  refine ⟨k1, hf.glob, hf.blt, hC, hC0, ⟨m, hn, fun x v e => ?_⟩, fun x c e => ?_, fun hl => ?_, fun x hx => ?_, fun x y c e1 e2 => ?_⟩
  · obtain ⟨e1, hm⟩ := f2 x v e
    obtain ⟨v', e2, e3⟩ := f1 x hm
    rw [e1] at e2; cases e2
    obtain ⟨c, w, q1, ⟨oc, q2, q4⟩, q3⟩ := hcell x v e1 e3
    refine .inr ⟨?_, c, w, ?_, ⟨oc, old _ _ q2, q4⟩, q3.monoM M⟩
    · show (relabel scope env).names.lookup x = _ ∨ (relabel scope env).names.lookup x = _
      rw [relabel_at hfn, k4 _ hm rfl]
      simp only [Option.map_some]
      by_cases hc : (NameKind.free == NameKind.free && env.kindOf x == some .cell) = true
      · rw [if_pos hc]; exact .inl rfl
      · rw [if_neg hc]; exact .inr rfl
    · show (clOf env scope.names []).lookup x = _
      rw [clOf_lookup, if_pos hm, q1]; rfl
  · obtain ⟨_, e⟩ := hlook x c e
    obtain ⟨⟨u, oc, q1, q2⟩, q3, q4⟩ := hf.cells x c e
    exact ⟨⟨u, oc, old _ _ q1, q2⟩, M.free q1 q3, q4⟩
  · exfalso
    have hnl := noLam_lk hnl
    have hl : lamOk (relabel scope env) = true := hl
    exact anyE hl fun k q1 q2 => by
      rw [lk_lookup, relabel_at hfn, ← lk_lookup] at q1
      unfold lamOk at hnl
      cases q : lk sPlaces scope.names with
      | none => rw [q] at q1; exact nsE q1
      | some k0 =>
        rw [q] at q1 hnl
        cases isLoc_ok q2
        have q1 := Option.some.inj q1
        cases k0 with
        | «local» => exact tfE hnl
        | free =>
          dsimp only at q1
          split at q1 <;> exact nomatch q1
        | _ => exact nomatch q1
  · have hx : (relabel scope env).names.lookup x = some .cell := hx
    show ((clOf env scope.names []).lookup x).isSome = true
    rw [relabel_at hfn] at hx
    cases hk : scope.names.lookup x with
    | none => rw [hk] at hx; cases hx
    | some k =>
      rw [hk] at hx
      have hm := mem_of_lookup hk
      simp only [Option.map_some] at hx
      split at hx
      · rename_i q
        rw [Bool.and_eq_true] at q
        have : k = .free := by simpa using q.1
        subst this
        rw [clOf_lookup, if_pos hm]; rfl
      · cases hx
        exact absurd rfl (k2 _ hm)
  · exact hf.inj x y c (hlook x c e1).2 (hlook y c e2).2
end
end Mine
end
section
set_option maxRecDepth 100000
set_option maxHeartbeats 2000000
set_option linter.unusedVariables false
namespace Mine
open PySem PySem.Calls PyProof.Rows PySem.W PySem.SeqAt

section
variable {prog : Program} {w : World} {A : Around} {s : Shared} {cx : Cx} {n : Nat} {r : R} {F : Facts} {sc : Scope} {σ σ' : Sto} {ρ ρ' ρc : Loc} {v : V} {env : Env} {g : Gh} {fl : Fl} {I D C : Addr} {src : Src} {j : Nat}

theorem comp_ok (H : Sound prog w cx fr n r) (G : CxG cx) {elt : Expr} {gens : List Comprehension} {scope : Scope} {pos : Pos} {g0 : Comprehension} {acc' : List V} {RR : Value → Addr → Result → Shared → Prop} {E : Value → Shared → Prop}
    (hg : gens[0]? = some g0) (ha : g0.is_async = 0) (hsc : scOk scope = true) (hnl : noLam scope = true) (hfree : freeOf sc.names ρ scope.names = some ρc)
    (e : r.cl scope σ ρc elt gens src 0 [] = some (acc', σ', ρ')) (hs : ScE env sc) (hf : FrR cx env g ρ s.heap) (hw : W cx σ g s.heap s.toks) (hA : Room fr n A) (hi : IterOk cx s.heap g env I src 0)
    (hRR : ∀ D C f s' g', CompR cx I D C g s σ' acc' g' s' → RR (.ref D) C (.ok f) s') :
    wpAny (model prog w) A (newList []) (fun acc s₃ => wpAny (model prog w) A (newFunctionEnv scope env.globals (clOf env scope.names []) [] env.qual none .none (some env)) (fun cenv s₄ =>
      codeAny (model prog w) A (.compStart (.ListComp elt gens scope pos) 0 (.ref I) acc { cenv with scope := relabel scope env }) (RR acc cenv.locals) s₄) E s₃) E s := by
  obtain ⟨k1, k2, k3, k4⟩ := scOk_some hsc
  refine wpAny_newObj_type (wpAny_newFunctionEnv k2 (by intro y hy; simp at hy) (fun h₁ hns₁ hsb₁ => ?_) k1)
  dsimp only at hns₁ hsb₁ ⊢
  generalize hH2 : s.heap.push { cls := .type "list", dict := none, data := .seq ([] : List Value).toArray } = H2 at hns₁ hsb₁ ⊢
  have hC : H2.objs.size = s.heap.objs.size + 1 := by rw [← hH2, Heap.size_push]
  have hDC : s.heap.objs.size ≠ H2.objs.size := by rw [hC]; exact Nat.ne_of_lt (Nat.lt_succ_self _)
  have hCle : s.heap.objs.size ≤ H2.objs.size := by rw [hC]; exact Nat.le_succ _
  have below : ∀ b, b < s.heap.objs.size → b ≠ H2.objs.size ∧ b ≠ s.heap.objs.size := fun b hb => ⟨by rw [hC]; exact Nat.ne_of_lt (Nat.lt_succ_of_lt hb), Nat.ne_of_lt hb⟩
  have old : ∀ b o, s.heap.get? b = some o → h₁.get? b = some o := fun b o e => hsb₁.extBut b o (below b (Heap.lt_size e)).1 (Heap.get?_push_of_some _ (hH2 ▸ Heap.get?_push_of_some _ e))
  have hacc : h₁.PlainList s.heap.objs.size #[] := ⟨_, hsb₁.extBut _ _ hDC (Heap.get?_push_of_some _ (hH2 ▸ Heap.get?_push_size _ rfl))⟩
  have hCnone : s.heap.get? H2.objs.size = none := Heap.get?_none_of_le hCle
  have hDnone : s.heap.get? s.heap.objs.size = none := get_size _
  have hfreeC := hw.new hCnone
  have hfreeD := hw.new hDnone
  have h0 := hw.fresh₀ G.ok
  generalize s.heap.objs.size = D at hacc hDC hDnone hfreeD h0 hCle below ⊢
  generalize hCC : H2.objs.size = C at hns₁ hsb₁ hDC hCnone hfreeC hCle below ⊢
  have M : Mo g (g.hide D) s.heap h₁ := hide_mo old hDnone
  have W1 : W cx σ (g.hide D) h₁ (s.toks + ([] : List (Str × Value)).length) := hw.hide old (Nat.le_add_right _ _) hDnone ⟨[], hacc⟩
  have F1 : FrR cx (compEnvC scope (clOf env scope.names []) C env) (g.hide D) ρc h₁ := compFr hf.kind hsc hnl hfree hs hf M old hns₁ ⟨hfreeC.1, fun m => by
    rcases List.mem_cons.mp m with q | q
    · exact hDC q.symm
    · exact hfreeC.2 q⟩ (Nat.le_trans h0 hCle)
  have hframe : ∀ a ∈ frame (compEnvC scope (clOf env scope.names []) C env), a = C ∨ ∃ o, s.heap.get? a = some o ∧ a ∈ frame env := fun a m => by
    rcases mem_frame m with rfl | ⟨x, hx⟩
    · exact .inl rfl
    · have hx : (clOf env scope.names []).lookup x = some a := hx
      rw [clOf_lookup] at hx
      split at hx
      · rename_i hm
        have : env.cells.lookup x = some a := by
          obtain ⟨v, e1, e2⟩ := (freeOf_some hfree).1 x hm
          exact (hf.cell hs e1 e2).elim fun c y => y.elim fun w y => by rw [y.1] at hx ⊢; exact hx
        obtain ⟨⟨u, oc, q1, q2⟩, _⟩ := hf.cells x a this
        exact .inr ⟨oc, q1, mem_cells this⟩
      · cases hx
  obtain ⟨oI, hI, _⟩ := hi.obj
  have I1 : IterOk cx h₁ (g.hide D) (compEnvC scope (clOf env scope.names []) C env) I src 0 := hi.moM M (fun o e => old _ _ e) fun m => by
    rcases hframe I m with q | ⟨o, _, q⟩
    · rw [q, hCnone] at hI; cases hI
    · exact hi.env q
  have hDf : D ∉ frame (compEnvC scope (clOf env scope.names []) C env) := fun m => by
    rcases hframe D m with q | ⟨o, q, _⟩
    · exact hDC q
    · rw [hDnone] at q; cases q
  refine start_ok (env := compEnvC scope (clOf env scope.names []) C env) (s := { s with heap := h₁, toks := s.toks + ([] : List (Str × Value)).length }) hg ha I1 ?_
  refine codeAny_mono (H.cl (depth := 0) (ws := []) e ⟨relabel_scR hf.kind, fun _ x q => ?_⟩ rfl F1 W1 hA I1 (fun q => by rw [q, hDnone] at hI; cases hI) List.mem_cons_self hfreeD.1 h0 hDf hacc .nil) fun rr s2 h => ?_
  · rw [lk_lookup] at q
    exact k2 _ (mem_of_lookup q) rfl
  cases rr with
  | error x => exact h.elim
  | ok f =>
    obtain ⟨h', tk, g', ws, rfl, l2, W2, E2, F2, p2, r2⟩ := h
    have E2 : Ev cx (D :: I :: [C]) (g.hide D) g' h₁ h' := E2
    have hhid : g'.hid = D :: g.hid := E2.hid
    have hsub : ∀ a ∈ g.hid, a ∈ g'.hid := fun a m => by rw [hhid]; exact List.mem_cons_of_mem _ m
    obtain ⟨nD, pD⟩ := hacc
    refine hRR D C f _ (g'.show g.hid) ⟨⟨h', tk, rfl⟩, Nat.le_trans (Nat.le_add_right _ _) l2, W2.show hsub, ?_, .pl p2 ⟨E2.notin pD hfreeD.1, hfreeD.2⟩ (r2.monoM (show_mo hsub)), hCnone, Nat.le_trans h0 hCle, let ⟨m, k, _⟩ := F2.ns; ⟨m, k⟩, ⟨F2.la.1, fun m => F2.la.2 (hsub _ m)⟩, fun m => by
      obtain ⟨o, es, ep, q1, q2⟩ := hw.frs C m
      rw [hCnone] at q1; cases q1⟩
    have hne : ∀ a o, s.heap.get? a = some o → a ≠ D ∧ a ≠ C := fun a o e => ⟨fun q => (by rw [q, hDnone] at e; cases e), fun q => (by rw [q, hCnone] at e; cases e)⟩
    have hX : ∀ a o, s.heap.get? a = some o → a ∉ [I] → a ∉ D :: I :: [C] := fun a o e hn m => by
      obtain ⟨n1, n2⟩ := hne a o e
      rcases List.mem_cons.mp m with q | m
      · exact n1 q
      · rcases List.mem_cons.mp m with q | m
        · exact hn (List.mem_singleton.mpr q)
        · exact n2 (List.mem_singleton.mp m)
    refine ⟨E2.pre, rfl, E2.tok, E2.told, fun a o e h1 h2 h3 => E2.keep a o (old a o e) h1 (hX a o e h2) h3, fun a o e h1 h2 => E2.imm a o (old a o e) h1 ⟨h2.1, fun m => ?_⟩, fun a o e h2 => E2.there a o (old a o e) (hX a o e h2), fun a m hn => ?_⟩
    · rcases List.mem_cons.mp m with q | m
      · exact (hne a o e).1 q
      · exact h2.2 m
    · have := E2.new a m hn
      cases q : s.heap.get? a with
      | none => rfl
      | some o => rw [old a o q] at this; cases this
end
end Mine
end
section
set_option maxRecDepth 100000
set_option maxHeartbeats 2000000
set_option linter.unusedVariables false
namespace Mine
open PySem PySem.Calls PyProof.Rows PySem.W PySem.SeqAt

section
variable {prog : Program} {w : World} {A : Around} {s : Shared} {cx : Cx} {n : Nat} {r : R} {F : Facts} {sc : Scope} {σ σ' : Sto} {ρ ρ' ρc : Loc} {v : V} {env : Env} {g : Gh} {fl : Fl} {I D C : Addr} {src : Src} {j : Nat}

theorem cells_of {scope : Scope} {h : Heap} (hfree : freeOf sc.names ρ scope.names = some ρc) (hs : ScE env sc) (hf : FrR cx env g ρ h) (x : Str) (hm : (x, NameKind.free) ∈ scope.names) : (env.cells.lookup x).isSome = true :=
  ((freeOf_some hfree).1 x hm).elim fun v e => (hf.cell hs e.1 e.2).elim fun c y => y.elim fun w y => by rw [y.1]; rfl

theorem evComp_some {elt : Expr} {gens : List Comprehension} {scope : Scope} (e : evComp r sc σ ρ elt gens scope = some (v, σ')) : ∃ target iter ifs rest v1 σ1 src ρc acc ρ2, gens = ⟨target, iter, ifs, 0⟩ :: rest ∧ r.ev sc σ ρ iter = some (v1, σ1) ∧ scOk scope = true ∧ noLam scope = true ∧
    srcOf v1 = some src ∧ freeOf sc.names ρ scope.names = some ρc ∧ r.cl scope σ1 ρc elt gens src 0 [] = some (acc, σ', ρ2) ∧ v = .pl acc := by
  cases gens with
  | nil => exact nsE e
  | cons g0 rest =>
    obtain ⟨target, iter, ifs, asy⟩ := g0
    exact bindE e fun q q1 e => whE e fun q2 e => whE e fun q3 e => whE e fun q4 e => bindE e fun src q5 e => bindE e fun ρc q6 e => bindE e fun p q7 e9 => by
      obtain rfl : asy = 0 := of_decide_eq_true q3
      exact ⟨target, iter, ifs, rest, q.1, q.2, src, ρc, p.1, p.2.2, rfl, q1, q2, q4, q5, q6, p2b e9 ▸ q7, (p2a e9).symm⟩

theorem CompR.fin (G : CxG cx) {g₁ g' : Gh} {s₁ s₂ s₃ : Shared} {acc : List V} (N : Next cx g₁ s₁ g₁ s₂) (i : IterOk cx s₂.heap g₁ env s₁.heap.objs.size src j) (x : CompR cx s₁.heap.objs.size D C g₁ s₂ σ' acc g' s₃) {h' : Heap} (hs : Heap.SameBut C s₃.heap h') :
    EvP cx g₁ s₁ σ' (.pl acc) (.ref D) { s₃ with heap := h' } := by
  obtain ⟨m, o, es, ep, ho, hd, _⟩ := x.ns
  obtain ⟨W3, E3⟩ := x.w.chg G.ok (Nat.le_refl _) ho (.inl ⟨es, ep, hd⟩) x.new₀ hs (fun m => absurd m x.nfr)
  have hI := i.am x.evo
  have hCI : C ∉ g'.am := x.free.1
  have hIC : ∀ a ∈ [s₁.heap.objs.size, C], a ∉ g'.am := List.forall_mem_cons.mpr ⟨hI, List.forall_mem_cons.mpr ⟨hCI, fun a m => nomatch m⟩⟩
  have E : Ev cx [s₁.heap.objs.size, C] g₁ g' s₁.heap h' := (frame_weaken N.evo).trans ((x.evo.weaken (by simp)).trans (E3.weaken (by simp)) hIC) hIC
  have E' : Ev cx [] g₁ g' s₁.heap h' := E.drop (List.forall_mem_cons.mpr ⟨.inr (get_size _), List.forall_mem_cons.mpr ⟨.inr (N.evo.unborn x.new), fun a m => nomatch m⟩⟩)
  obtain ⟨⟨h2, t2, rfl⟩, l2, _⟩ := N
  obtain ⟨⟨h3, t3, rfl⟩, l3, _, _, vr, _⟩ := x
  exact ⟨h', t3, g', rfl, Nat.le_trans l2 l3, W3, E', vr.mono E3⟩

theorem compStep_ok (H : Sound prog w cx fr n r) (G : CxG cx) {elt : Expr} {gens : List Comprehension} {scope : Scope} {pos p : Pos} {use : Option (Value → Sem Unit)} {Q : Value → Shared → Prop} (e : evComp r sc σ ρ elt gens scope = some (v, σ')) (hs : ScE env sc) (hf : FrR cx env g ρ s.heap)
    (hw : W cx σ g s.heap s.toks) (hA : Room fr n A)
    (h : ∀ g₁ s₁ s₂ D C g' s₃ src acc, v = .pl acc → Next cx g s g₁ s₁ → Next cx g₁ s₁ g₁ s₂ → IterOk cx s₂.heap g₁ env s₁.heap.objs.size src 0 → FrR cx env g₁ ρ s₂.heap → CompR cx s₁.heap.objs.size D C g₁ s₂ σ' acc g' s₃ → ∀ f, compPost (model prog w) A Z use Q (.ref D) C (.ok f) s₃) :
    wpAny (model prog w) A (comprehension (.ListComp elt gens scope pos) scope env p (newList []) (firstAsync gens) (firstIter gens env) use) Q Z s := by
  obtain ⟨target, iter, ifs, rest, v1, σ1, src, ρc, acc, ρ2, rfl, q1, q2, q3, q4, q5, q6, q7⟩ := evComp_some e
  obtain ⟨k1, k2, k3, k4⟩ := scOk_some q2
  refine wpAny_comprehension_free (g := ⟨target, iter, ifs, 0⟩) (gs := rest) rfl (setFree H q1) (closure_ok (cells_of q5 hs hf)) k1 k3 ?_
  refine wpZ (H.ev q1 hs hf hw hA) fun wv s1 x1 => ?_
  refine x1.k fun g1 W1 V1 N1 => ?_
  have F1 := hf.mono G.ok N1.evo
  refine wpZ (iter_ok G.ok F1 W1 V1 q4) fun i s2 x2 => ?_
  obtain ⟨rfl, W2, N2, F2, I2⟩ := x2
  exact comp_ok (RR := fun acc C => compPost (model prog w) A Z use Q acc C) H G (g0 := ⟨target, iter, ifs, 0⟩) rfl rfl q2 q3 q5 q6 hs F2 W2 hA I2 fun D C f s3 g' x => h g1 s1 s2 D C g' s3 src acc q7 N1 N2 I2 F2 x f

theorem evComp_ok (H : Sound prog w cx fr n r) (G : CxG cx) {elt : Expr} {gens : List Comprehension} {scope : Scope} {pos : Pos} (e : evComp r sc σ ρ elt gens scope = some (v, σ')) (hs : ScE env sc) (hf : FrR cx env g ρ s.heap) (hw : W cx σ g s.heap s.toks) (hA : Room fr n A) :
    wpAny (model prog w) A (eval (.ListComp elt gens scope pos) env) (EvP cx g s σ' v) Z s := by
  rw [eval_ListComp]
  refine compStep_ok H G e hs hf hw hA fun g1 s1 s2 D C g' s3 src acc hv N1 N2 I2 F2 x f => ?_
  subst hv
  obtain ⟨m, hn⟩ := x.ns
  exact ⟨m, hn, fun h' hs' => N1.ev (CompR.fin G N2 I2 x hs')⟩

theorem compUse_ok (H : Sound prog w cx fr n r) (G : CxG cx) {elt : Expr} {gens : List Comprehension} {scope : Scope} {pos : Pos} {y : Str} {py : Pos} (e : evComp r sc σ ρ elt gens scope = some (v, σ')) (hs : ScE env sc) (hf : FrR cx env g ρ s.heap) (hw : W cx σ g s.heap s.toks) (hA : Room fr n A)
    (ea : asgV sc ρ (.Name y py) v = some ρ') :
    wpAny (model prog w) A (evalThenUse (.ListComp elt gens scope pos) env (assign (.Name y py) env)) (fun _ s' => StP cx env g s σ' ρ' s') Z s := by
  show wpAny _ A (do let _ ← comprehension (.ListComp elt gens scope pos) scope env _ (newList []) (firstAsync gens) (firstIter gens env) (some (assign (.Name y py) env))) _ _ s
  refine wpAny_bind (wpZ (compStep_ok (Q := fun _ s' => StP cx env g s σ' ρ' s') H G e hs hf hw hA fun g1 s1 s2 D C g' s3 src acc hv N1 N2 I2 F2 x f => ?_) fun _ s' h => wpAny_pure h)
  subst hv
  show wpAny _ A (assign (.Name y py) env (.ref D)) _ _ _
  have hIf : ∀ a ∈ frame env, a ∉ [s1.heap.objs.size] := fun a ha q => I2.env (by rw [List.mem_singleton.mp q] at ha; exact ha)
  have F3 : FrR cx env g' ρ s3.heap := F2.move G.ok x.evo hIf
  obtain ⟨hc, rfl⟩ := asg1_some (show asg1 sc ρ y (.pl acc) = some ρ' from ea)
  refine wpAny_assign_Name (wpZ (store_ok G.ok hs hc F3 x.w x.vr) fun _ s4 x4 => ?_)
  obtain ⟨h4, t4, rfl, l4, W4, E4, F4⟩ := x4
  obtain ⟨m, hn⟩ := x.ns
  have hCf : C ∉ frame env := fun q => by
    rcases mem_frame q with q | ⟨z, hz⟩
    · obtain ⟨m, ⟨o, es, ep, ho, _⟩, _⟩ := F2.ns
      rw [← q, x.new] at ho; cases ho
    · obtain ⟨⟨u, oc, ho, _⟩, _⟩ := F2.cells _ _ hz
      rw [x.new] at ho; cases ho
  have hCt := G.ok.notTab x.new₀
  obtain ⟨o, es, ep, ho, hd, hk⟩ := id hn
  obtain ⟨o4, ho4', sl4⟩ := E4.keep _ _ ho x.free.1 (fun q => hCf (wr_sub _ q)) hCt
  have ho4 := ho4'
  have hd := sl4.data.trans hd
  refine ⟨m, ⟨o4, es, ep, ho4, hd, hk⟩, fun h' hs' => ?_⟩
  obtain ⟨W5, E5⟩ := W4.chg G.ok (Nat.le_refl _) ho4 (.inl ⟨es, ep, hd⟩) x.new₀ hs' (fun m => absurd m x.nfr)
  have F5 := F4.move G.ok E5 (fun a ha q => hCf (by rw [List.mem_singleton.mp q] at ha; exact ha))
  have hIam : s1.heap.objs.size ∉ g'.am := I2.am x.evo
  have hX : ∀ a ∈ s1.heap.objs.size :: C :: wr env, a ∉ g'.am := List.forall_mem_cons.mpr ⟨hIam, List.forall_mem_cons.mpr ⟨x.free.1, fun a m => (F5.free_wr a m).1⟩⟩
  have E : Ev cx (s1.heap.objs.size :: C :: wr env) g1 g' s1.heap h' := (frame_weaken N2.evo).trans ((x.evo.weaken (by simp)).trans ((E4.weaken (fun a ha => List.mem_cons_of_mem _ (List.mem_cons_of_mem _ ha))).trans (E5.weaken (by simp)) hX) hX) hX
  have E' : Ev cx (wr env) g1 g' s1.heap h' := E.drop (List.forall_mem_cons.mpr ⟨.inr (get_size _), List.forall_mem_cons.mpr ⟨.inr (N2.evo.unborn x.new), fun a m => .inl m⟩⟩)
  obtain ⟨⟨h2, t2, rfl⟩, l2, _⟩ := N2
  obtain ⟨⟨h3, t3, rfl⟩, l3, _⟩ := x
  exact StP.after N1.same N1.tok (frame_weaken N1.evo) ⟨h', t4, g', rfl, Nat.le_trans l2 (Nat.le_trans l3 l4), W5, E', F5⟩

noncomputable def isCmp : Expr → Bool
  | .ListComp .. => true
  | .SetComp .. => true
  | .DictComp .. => true
  | _ => false
theorem nosw {x : Expr} {o : Option Expr} {l : Nat} (e : isCmp x = false) : swapsWith x o l env = pure false := by cases x <;> first | exact tfE e | rfl
theorem isCmp_inv {P : Expr → Prop} (k1 : ∀ a b c p, P (.ListComp a b c p)) (k2 : ∀ a b c p, P (.SetComp a b c p)) (k3 : ∀ a b c d p, P (.DictComp a b c d p)) {x : Expr} (e : isCmp x = true) : P x := by cases x <;> first | exact ftE e | exact k1 _ _ _ _ | exact k2 _ _ _ _ | exact k3 _ _ _ _ _
theorem sw_name {l : Nat} {a : Expr} {b : List Comprehension} {c : Scope} {p : Pos} {P : Expr → Prop} (k : ∀ t, swapsWith (.ListComp a b c p) (some t) l env = pure false → P t) (k' : ∀ y py, swapsWith (.ListComp a b c p) (some (.Name y py)) l env = pure true → P (.Name y py)) (t : Expr) : P t := by
  cases t with
  | Name y py => exact (Bool.eq_false_or_eq_true _).elim (fun h => k' y py (congrArg pure h)) fun h => k _ (congrArg pure h)
  | _ => exact k _ rfl
theorem exAsgAll_ok (H : Sound prog w cx fr n r) (G : CxG cx) {ts : List Expr} {x : Expr} {pos : Pos} (e : exAsg r sc σ ρ ts x = some (fl, σ', ρ')) (hs : ScE env sc) (hf : FrR cx env g ρ s.heap) (hw : W cx σ g s.heap s.toks) (hA : Room fr n A) :
    wpAny (model prog w) A (exec (.Assign ts x pos) env) (ExP cx env g s σ' ρ' fl) Z s := by
  have plain := fun h => exAsg_ok (pos := pos) H G e hs hf hw hA h
  exact bindE e fun t qt e => whE e fun hok e => bindE e fun q q1 e => bindE e fun ρ1 q2 e9 => by
    cases l1_ok qt
    cases hc : isCmp x with
    | false => exact plain (nosw hc)
    | true =>
      refine isCmp_inv (P := fun x => r.ev sc σ ρ x = some q → (swapsWithSole [t] x pos.line env = pure false → wpAny (model prog w) A (exec (.Assign [t] x pos) env) (ExP cx env g s σ' ρ' fl) Z s) → wpAny (model prog w) A (exec (.Assign [t] x pos) env) (ExP cx env g s σ' ρ' fl) Z s) (fun elt gens sc' p q1 => ?_) (fun _ _ _ _ q1 _ => nsE ((H.scomp ..).symm.trans q1)) (fun _ _ _ _ _ q1 _ => nsE ((H.dcomp ..).symm.trans q1)) hc q1 plain
      refine sw_name (P := fun t => asgV sc ρ t q.1 = some ρ1 → (swapsWith (.ListComp elt gens sc' p) (some t) pos.line env = pure false → wpAny (model prog w) A (exec (.Assign [t] (.ListComp elt gens sc' p) pos) env) (ExP cx env g s σ' ρ' fl) Z s) → wpAny (model prog w) A (exec (.Assign [t] (.ListComp elt gens sc' p) pos) env) (ExP cx env g s σ' ρ' fl) Z s) (fun t h _ k => k h) (fun y py hb q2 _ => ?_) t q2
      rw [exec_Assign_Name_used _ _ _ _ hb]
      exact p2a e9 ▸ p3b e9 ▸ p3c e9 ▸ wpAny_bind (wpAny_standAt (wpAny_bind (wpZ (H.use q1 hs hf hw hA q2) fun _ s' k => wpAny_pure (ExP.of_st k fun _ _ => rfl))))
end
end Mine
end
section
set_option maxRecDepth 100000
set_option maxHeartbeats 2000000
set_option linter.unusedVariables false
namespace Mine
open PySem PySem.Calls PyProof.Rows PySem.W PySem.SeqAt

section
variable {prog : Program} {w : World} {A : Around} {s : Shared} {cx : Cx} {n : Nat} {r : R} {F : Facts} {sc : Scope} {σ σ' : Sto} {ρ ρ' ρc : Loc} {v : V} {env : Env} {g : Gh}

theorem EvP.grown {h' : Heap} {tk : Nat} {wv : Value} (hw : W cx σ g s.heap s.toks) (k : ∀ b o, s.heap.get? b = some o → h'.get? b = some o) (hle : s.toks ≤ tk) (hv : VR cx h' g v wv) : EvP cx g s σ v wv { s with heap := h', toks := tk } :=
  ⟨h', tk, g, rfl, hle, hw.keeps k hle, .keeps k, hv⟩
theorem EvP.same {tk : Nat} {wv : Value} (hw : W cx σ g s.heap s.toks) (hle : s.toks ≤ tk) (hv : VR cx s.heap g v wv) : EvP cx g s σ v wv { s with toks := tk } := EvP.grown (h' := s.heap) hw (fun _ _ e => e) hle hv

theorem ints_of {vs : List V} {ws : List Value} {h : Heap} {is : List Int} (e : intsV vs = some is) (x : VRs cx h g vs ws) : IntsAre ws is := by
  induction vs generalizing ws is with
  | nil => exact x.nilP (P := fun ws => IntsAre ws _) ((Option.some.inj e : [] = is) ▸ .nil)
  | cons a l ih => exact bindE e fun i q e => bindE e fun r q2 e => Option.some.inj e ▸ x.consP (P := fun ws => IntsAre ws _) fun w1 _ h1 h2 => h1.intO (P := fun w => IntsAre (w :: _) _) q fun t => .cons _ _ (ih q2 h2)

theorem abs_ok {vs : List V} {ws : List Value} (e : biAbs vs = some v) (hv : VRs cx s.heap g vs ws) (hw : W cx σ g s.heap s.toks) : wpAny (model prog w) A (call (.builtin "abs") ws) (EvP cx g s σ v) Z s :=
  bindE e fun a q e => bindE e fun i q2 e => Option.some.inj e ▸ (hv.l1 (Q := fun ws => wpAny _ _ (call _ ws) _ _ _) q fun w1 h1 => h1.intO (P := fun w => wpAny _ _ (call _ [w]) _ _ _) q2 fun t =>
    wpAny_with_toks (Nat.le_refl s.toks) (call_abs_int fun u tk hle => EvP.same hw hle ((by split <;> omega : (if i < 0 then -i else i) = (i.natAbs : Int)) ▸ .int _ _)))
set_option tactic.hygienic true in
theorem fToI_some {f : Bool → Nat → Int → Int} {x : UInt64} (e : fToI f x = some v) : ∃ neg m ex, Float64.decode x = .fin neg m ex ∧ v = .int (f neg m ex) := by
  delta fToI at e
  split at e
  · rename_i neg m ex q; cases e; exact ⟨_, _, _, q, rfl⟩
  · cases e
theorem round_ok {vs : List V} {ws : List Value} (e : biRound vs = some v) (hv : VRs cx s.heap g vs ws) (hw : W cx σ g s.heap s.toks) (hA : A.handled = none) : wpAny (model prog w) A (call (.builtin "round") ws) (EvP cx g s σ v) Z s :=
  bindE e fun a q e => bindE e fun x q2 e => (fToI_some e).elim fun neg y => y.elim fun m y => y.elim fun ex y => y.2 ▸ hv.l1 (Q := fun ws => wpAny _ _ (call _ ws) _ _ _) q fun w1 h1 => h1.fltO (P := fun w => wpAny _ _ (call _ [w]) _ _ _) q2 fun t _ _ _ =>
    Flt.call_round_float hA (fun h => by unfold Float64.isNaN at h; rw [y.1] at h; cases h) (fun h => by unfold Float64.isInf at h; rw [y.1] at h; cases h) fun h => by
      rw [Flt.toInt_fin y.1]
      exact EvP.same hw (Nat.le_succ _) (.int _ _)
theorem int_ok {vs : List V} {ws : List Value} (e : biInt vs = some v) (hv : VRs cx s.heap g vs ws) (hw : W cx σ g s.heap s.toks) : wpAny (model prog w) A (call (.type "int") ws) (EvP cx g s σ v) Z s :=
  bindE e fun a q e => hv.l1 (Q := fun ws => wpAny _ _ (call _ ws) _ _ _) q fun w1 h1 => by
    split at e
    · rename_i x q2
      exact (fToI_some e).elim fun neg y => y.elim fun m y => y.elim fun ex y => y.2 ▸ h1.fltO (P := fun w => wpAny _ _ (call _ [w]) _ _ _) q2 fun t _ _ _ => PySem.call_int_float y.1 (EvP.same hw (Nat.le_succ _) (.int _ _))
    · exact bindE e fun b q2 e => Option.some.inj e ▸ (VR.boolE (P := fun w => wpAny _ _ (call _ [w]) _ _ _) (boolO_ok q2 ▸ h1) (call_int_bool (EvP.same hw (Nat.le_succ _) (by cases b <;> exact .int _ _))))
theorem lenI_some {α : Type} {l : List α} (e : lenI l = some v) : l.length < 1000000 ∧ v = .int (l.length : Int) := whE e fun q e => ⟨Nat.le_of_ble_eq_true q, (Option.some.inj e).symm⟩
set_option tactic.hygienic true in
theorem len_ok {vs : List V} {ws : List Value} (e : biLen σ vs = some v) (hv : VRs cx s.heap g vs ws) (hw : W cx σ g s.heap s.toks) :
    wpAny (model prog w) A (call (.builtin "len") ws) (EvP cx g s σ v) Z s :=
  bindE e fun a q e => hv.l1 (Q := fun ws => wpAny _ _ (call _ ws) _ _ _) q fun w1 h1 => by
    split at e
    · rename_i x q2
      obtain ⟨q, rfl⟩ := lenI_some e
      refine h1.strO (P := fun w => wpAny _ _ (call _ [w]) _ _ _) q2 fun t => ?_
      have : (cx.strOf x).length = x.length := by simp [Cx.strOf, Str.length]
      refine call_len_gives (typeIs_str s _ t) PySem.F.slot_str_len PySem.F.entry_str_len (PySem.F.args_str_len_1 _) (gives_str_len _ t) (by omega) (by rw [this]; omega) ?_
      rw [this]
      exact EvP.same hw (Nat.le_succ_of_le (Nat.le_succ _)) (.int _ _)
    · refine bindE e fun xs q2 e => ?_
      obtain ⟨q3, rfl⟩ := lenI_some e
      obtain ⟨a, ws', h1', h2, h3⟩ := items_ok hw h1 q2
      subst h1'
      exact call_len_list h2.isList (by rw [List.size_toArray, ← h3.length]; omega) (by
        rw [List.size_toArray, ← h3.length]
        exact EvP.same hw (Nat.le_succ_of_le (Nat.le_succ _)) (.int _ _))
set_option tactic.hygienic true in
theorem range_ok {vs : List V} {ws : List Value} (e : biRange vs = some v) (hv : VRs cx s.heap g vs ws) (hw : W cx σ g s.heap s.toks) : wpAny (model prog w) A (call (.type "range") ws) (EvP cx g s σ v) Z s := by
  have fin : ∀ {a b : Int} {t u x : Tok} {tk : Nat}, small a = true → small b = true → s.toks ≤ tk →
      EvP cx g s σ (.rng a b) (.ref s.heap.objs.size) { s with heap := s.heap.push { cls := .type "range", data := .fields #[.int a t, .int b u, .int 1 x] }, toks := tk } := fun ha hb hle =>
    EvP.push hw hle (.rng ha hb (IsRange.new ..) (hw.new (get_size _)))
  delta biRange at e
  split at e
  · rename_i a q
    exact hv.l1 (Q := fun ws => wpAny _ _ (call _ ws) _ _ _) q fun w1 h1 => bindE e fun b q e => whE e fun q1 e => Option.some.inj e ▸ (h1.intO (P := fun w => wpAny _ _ (call _ [w]) _ _ _) q fun t => call_range_1 (fin (by decide) q1 (Nat.le_succ_of_le (Nat.le_succ _))))
  · exact bindE e fun p q e => hv.l2 (Q := fun ws => wpAny _ _ (call _ ws) _ _ _) q fun w1 w2 h1 h2 => bindE e fun a qa e => bindE e fun b qb e => whE e fun q1 e => whE e fun q2 e => Option.some.inj e ▸
      (h1.intO (P := fun w => wpAny _ _ (call _ [w, _]) _ _ _) qa fun t => h2.intO (P := fun w => wpAny _ _ (call _ [_, w]) _ _ _) qb fun u => call_range_2 (fin q1 q2 (Nat.le_succ _)))
theorem eqK_eq : ∀ {a b : List Int}, eqK a b = true → a = b
  | [], [], _ => rfl
  | [], _ :: _, h => by unfold eqK at h; cases h
  | _ :: _, [], h => by unfold eqK at h; cases h
  | x :: a, y :: b, h => by
    unfold eqK at h
    split at h
    · rename_i q
      rw [of_decide_eq_true q, eqK_eq h]
    · cases h
theorem l5_at {l : List Int} {x : Int} (h : l.length = 5) (e : l[4]? = some x) : dot [0, 0, 0, 0, 1] l = x := by
  cases l with | nil => exact nsE e | cons a l => cases l with | nil => exact nsE e | cons b l => cases l with | nil => exact nsE e | cons c l => cases l with | nil => exact nsE e | cons d l => cases l with | nil => exact nsE e | cons y l => cases e; simp [dot]
theorem chr_ok (hX : ∃ x4, cx.X[4]? = some x4 ∧ cx.X.length = 5 ∧ 0 ≤ x4 ∧ x4 < 50000 ∧ cx.ch = (47 + x4).toNat) {vs : List V} {ws : List Value} (e : biChr vs = some v) (hv : VRs cx s.heap g vs ws) (hw : W cx σ g s.heap s.toks) :
    wpAny (model prog w) A (call (.builtin "chr") ws) (EvP cx g s σ v) Z s :=
  bindE e fun a q e => hv.l1 (Q := fun ws => wpAny _ _ (call _ ws) _ _ _) q fun w1 h1 => bindE e fun p q e => whE e fun q1 e => whE e fun q2 e => Option.some.inj e ▸ (h1.linO (P := fun w => wpAny _ _ (call _ [w]) _ _ _) q fun t => hX.elim fun x4 y => by
    have hk : dot p.2 cx.X = x4 := by
      rw [eqK_eq q2, l5_at y.2.1 y.1]
    rw [hk, show p.1 = 47 from of_decide_eq_true q1]
    refine P.chr_of_int (by simp; exact ⟨Int.add_nonneg (by decide) y.2.2.1, Int.le_of_lt (Int.lt_trans (Int.add_lt_add_left y.2.2.2.1 47) (by decide))⟩) (EvP.same hw (Nat.le_succ _) ?_)
    have : (⟨#[(47 + x4).toNat]⟩ : Str) = cx.strOf [SYM] := by
      simp [Cx.strOf, Cx.sign, y.2.2.2.2]
    rw [this]; exact .str _ _)
end
end Mine
end
section
set_option maxRecDepth 100000
set_option maxHeartbeats 2000000
set_option linter.unusedVariables false
namespace Mine
open PySem PySem.Calls PyProof.Rows PySem.W PySem.SeqAt

theorem insI_perm (i : Int) : ∀ l : List Int, (insI i l).Perm (i :: l)
  | [] => .refl _
  | j :: r => by
    unfold insI
    split
    · exact .refl _
    · exact ((insI_perm i r).cons j).trans (.swap i j r)
theorem insI_sorted (i : Int) : ∀ l : List Int, l.Pairwise (· ≤ ·) → (insI i l).Pairwise (· ≤ ·)
  | [], _ => by simp [insI]
  | j :: r, h => by
    obtain ⟨h1, h2⟩ := List.pairwise_cons.mp h
    unfold insI
    split
    · rename_i q
      have q := of_decide_eq_true q
      exact List.pairwise_cons.mpr ⟨fun a ha => by
        rcases List.mem_cons.mp ha with rfl | ha
        · omega
        · have := h1 a ha; omega, h⟩
    · rename_i q
      have q := of_decide_eq_false q
      refine List.pairwise_cons.mpr ⟨fun a ha => ?_, insI_sorted i r h2⟩
      rcases List.mem_cons.mp ((insI_perm i r).mem_iff.mp ha) with rfl | ha
      · omega
      · exact h1 a ha
theorem sortI_perm : ∀ (l acc : List Int), (sortI acc l).Perm (l ++ acc)
  | [], acc => .refl _
  | i :: r, acc => by
    unfold sortI
    refine (sortI_perm r _).trans ?_
    refine ((insI_perm i acc).append_left r).trans ?_
    exact List.perm_middle
theorem sortI_sorted : ∀ (l acc : List Int), acc.Pairwise (· ≤ ·) → (sortI acc l).Pairwise (· ≤ ·)
  | [], acc, h => h
  | i :: r, acc, h => by
    unfold sortI
    exact sortI_sorted r _ (insI_sorted i acc h)

section
variable {prog : Program} {w : World} {A : Around} {s : Shared} {cx : Cx} {n : Nat} {r : R} {F : Facts} {sc : Scope} {σ σ' : Sto} {ρ ρ' ρc : Loc} {v : V} {env : Env} {g : Gh}

theorem ints_vrs {h : Heap} {ws : List Value} {is : List Int} (x : IntsAre ws is) : VRs cx h g (is.map .int) ws := by
  induction x with
  | nil => exact .nil
  | cons n t _ ih => exact .cons (.int n t) ih
theorem sorted_ok {vs : List V} {ws : List Value} (e : biSorted σ vs = some v) (hv : VRs cx s.heap g vs ws) (hw : W cx σ g s.heap s.toks) : wpAny (model prog w) A (call (.builtin "sorted") ws) (EvP cx g s σ v) Z s :=
  bindE e fun a q e => hv.l1 (Q := fun ws => wpAny _ _ (call _ ws) _ _ _) q fun w1 h1 => bindE e fun xs q e => bindE e fun is q1 e => whE e fun q2 e => (items_ok hw h1 q).elim fun a y => y.elim fun ws' y =>
    Option.some.inj e ▸ y.1 ▸ sorted_ints y.2.1.isList (ints_of q1 y.2.2) (y.2.2.length ▸ Nat.le_of_ble_eq_true q2) fun out ns' a1 a2 a3 =>
      have hns : ns' = sortI [] is := (List.Perm.eq_of_pairwise (fun a b _ _ h1 h2 => Int.le_antisymm h1 h2) (sortI_sorted is [] .nil) a3 ((List.append_nil is ▸ sortI_perm is []).trans a2.symm)).symm
      (sortedAll_at s.heap ws' out).elim fun m hat => EvP.grown hw (fun b o e => sortedAll_old e) (Nat.le_refl _) (.pl (ws := out.toList) ⟨m, hat⟩ (hw.new (Heap.get?_none_of_le (Nat.le_succ _))) (hns ▸ ints_vrs a1))

theorem upto_get : ∀ (n : Nat) (a : Int) (i : Nat), (upto a n)[i]? = if i < n then some (.int (a + (i : Int))) else none
  | 0, a, i => by simp [upto]
  | n + 1, a, 0 => by simp [upto]
  | n + 1, a, i + 1 => by
    simp only [upto, List.getElem?_cons_succ, upto_get n (a + 1) i]
    by_cases h : i < n
    · rw [if_pos h, if_pos (by omega)]
      have : a + 1 + (i : Int) = a + ((i + 1 : Nat) : Int) := by omega
      rw [this]
    · rw [if_neg h, if_neg (by omega)]
theorem upto_len (a : Int) (n : Nat) : (upto a n).length = n := by
  induction n generalizing a with
  | zero => rfl
  | succ n ih => simp [upto, ih]
theorem vrs_of_get {h : Heap} {vs : List V} {ws : List Value} (e : vs.length = ws.length) (k : ∀ (i : Nat) (v : V) (w : Value), vs[i]? = some v → ws[i]? = some w → VR cx h g v w) : VRs cx h g vs ws := by
  induction vs generalizing ws with
  | nil => exact (List.length_eq_zero_iff.mp e.symm) ▸ .nil
  | cons v vs ih =>
    cases ws with
    | nil => exact nomatch e
    | cons w ws => exact .cons (k 0 v w rfl rfl) (ih (Nat.succ.inj e) fun i => k (i + 1))

theorem list_ok {vs : List V} {ws : List Value} (e : biList vs = some v) (hv : VRs cx s.heap g vs ws) (hw : W cx σ g s.heap s.toks) (hA : A.handled = none) : wpAny (model prog w) A (call (.type "list") ws) (EvP cx g s σ v) Z s :=
  bindE e fun a q e => hv.l1 (Q := fun ws => wpAny _ _ (call _ ws) _ _ _) q fun w1 h1 => bindE e fun p q e => whE e fun q3 e => Option.some.inj e ▸ h1.rngO (P := fun w => wpAny _ _ (call _ [w]) _ _ _) q fun _ _ _ _ q1 q2 h f => by
    have q3 : (p.2 - p.1).toNat < 1000 := Nat.le_of_ble_eq_true q3
    have q1 : p.1.natAbs < 2 ^ 60 := Nat.le_of_ble_eq_true q1
    have q2 : p.2.natAbs < 2 ^ 60 := Nat.le_of_ble_eq_true q2
    have hsz : Builtin.Range.rangeSize p.1 p.2 1 = (((p.2 - p.1).toNat : Nat) : Int) := by
      unfold Builtin.Range.rangeSize
      rw [if_pos (by decide)]
      split
      · rw [Int.ediv_one]; omega
      · omega
    refine wpAny_with_toks (Nat.le_refl s.toks) (call_list_range hA h (small_one (by omega) (by omega) (by omega) (by omega)) hsz (by omega) fun h' tk acc' c' hk hat hi hle => ?_)
    refine EvP.grown hw hk hle (.pl (ws := acc'.toList) ⟨c', hat⟩ (hw.new (get_size _)) ?_)
    refine vrs_of_get (by rw [upto_len, Array.length_toList, hi.1]) fun i v w hv hw' => ?_
    rw [upto_get] at hv
    split at hv
    · cases hv
      obtain ⟨t, rfl⟩ := hi.2 i w (by rw [← hw']; simp)
      rw [Int.mul_one]
      exact .int _ _
    · cases hv

/-! three to choose from -/
theorem two_lt {h : Heap} {o p : Obj} {n d : Addr} (hn : n = h.objs.size + 1) (hd : d ∈ [n, h.objs.size]) : d < ((h.push o).push p).objs.size := by
  rw [Heap.size_push, Heap.size_push]
  simp at hd; omega
theorem two_keep {h h' : Heap} {o p : Obj} {n : Addr} (hn : n = h.objs.size + 1) (hk : ∀ b x, b ∉ [n] → ((h.push o).push p).get? b = some x → h'.get? b = some x) (d : Addr) (x : Obj) (e : h.get? d = some x) : h'.get? d = some x :=
  hk d x (fun hm => Nat.lt_irrefl _ (Nat.lt_of_succ_lt (hn ▸ List.mem_singleton.mp hm ▸ Heap.lt_size e))) (Heap.get?_push_of_some _ (Heap.get?_push_of_some _ e))
theorem best3 {bt : Nat → Nat → Bool} {lt : Value → Value → Bool} {a b c v : Value} (h : #[a, b, c][argBest bt 2]? = some v) (h1 : bt 1 0 = lt a b) (h2 : bt 2 1 = lt b c) (h3 : bt 2 0 = lt a c) : (if lt a b then (if lt b c then c else b) else (if lt a c then c else a)) = v := by
  unfold argBest argBest at h
  cases q1 : lt a b with
  | false =>
    cases q3 : lt a c <;> simp [h1, h2, h3, q1, q3, argBest] at h <;> exact h
  | true => cases q2 : lt b c <;> simp [h1, h2, h3, q1, q2, argBest] at h <;> exact h
theorem num3 {a b c : Value} (ha : Flt.NumV a) (hb : Flt.NumV b) (hc : Flt.NumV c) : ∀ v ∈ #[a, b, c], Flt.NumV v := by simp [ha, hb, hc]
theorem max_three_num {a b c : Value} {Q : Value → Shared → Prop} {E : Value → Shared → Prop} (hh : A.handled = none) (ha : Flt.NumV a) (hb : Flt.NumV b) (hc : Flt.NumV c)
    (h : ∀ h' tk, (∀ d o, s.heap.get? d = some o → h'.get? d = some o) → Q (if Flt.ltV a b then (if Flt.ltV b c then c else b) else (if Flt.ltV a c then c else a)) { s with heap := h', toks := tk }) :
    wpAny (model prog w) A (call (.builtin "max") [a, b, c]) Q E s :=
  have hT : (s.heap.push { cls := .type "tuple", data := .seq #[a, b, c] }).IsTuple s.heap.objs.size #[a, b, c] := ⟨_, Heap.get?_push_size _ rfl, rfl, 0, rfl⟩
  have hsz : (s.heap.push { cls := .type "tuple", data := .seq #[a, b, c] }).objs.size = s.heap.objs.size + 1 := Heap.size_push ..
  call_max_three (wpAny_pyIter_tuple hT ⟨_, [_, s.heap.objs.size], [_], _, _, _, _, rfl, Walks.tuple (A := A.in1) hh _ s.heap.objs.size (hsz ▸ Nat.ne_of_lt (Nat.lt_succ_self _)) #[a, b, c],
    ⟨⟨_, Heap.get?_push_size _ rfl, rfl, rfl⟩, hT.push _⟩, fun d => two_lt hsz, Nat.zero_lt_succ 2, Flt.cmpOf_gt #[a, b, c] (num3 ha hb hc), fun v h' tk hP hk => best3 (lt := Flt.ltV) hP rfl rfl rfl ▸ h h' tk (two_keep hsz hk)⟩)
theorem min_three_num {a b c : Value} {Q : Value → Shared → Prop} {E : Value → Shared → Prop} (hh : A.handled = none) (ha : Flt.NumV a) (hb : Flt.NumV b) (hc : Flt.NumV c)
    (h : ∀ h' tk, (∀ d o, s.heap.get? d = some o → h'.get? d = some o) → Q (if Flt.ltV b a then (if Flt.ltV c b then c else b) else (if Flt.ltV c a then c else a)) { s with heap := h', toks := tk }) :
    wpAny (model prog w) A (call (.builtin "min") [a, b, c]) Q E s :=
  have hT : (s.heap.push { cls := .type "tuple", data := .seq #[a, b, c] }).IsTuple s.heap.objs.size #[a, b, c] := ⟨_, Heap.get?_push_size _ rfl, rfl, 0, rfl⟩
  have hsz : (s.heap.push { cls := .type "tuple", data := .seq #[a, b, c] }).objs.size = s.heap.objs.size + 1 := Heap.size_push ..
  call_min_three (wpAny_pyIter_tuple hT ⟨_, [_, s.heap.objs.size], [_], _, _, _, _, rfl, Walks.tuple (A := A.in1) hh _ s.heap.objs.size (hsz ▸ Nat.ne_of_lt (Nat.lt_succ_self _)) #[a, b, c],
    ⟨⟨_, Heap.get?_push_size _ rfl, rfl, rfl⟩, hT.push _⟩, fun d => two_lt hsz, Nat.zero_lt_succ 2, Flt.cmpOf_lt #[a, b, c] (num3 ha hb hc), fun v h' tk hP hk => best3 (lt := fun x y => Flt.ltV y x) hP rfl rfl rfl ▸ h h' tk (two_keep hsz hk)⟩)

theorem VR.sel {h : Heap} {c : Bool} {x y : V} {wx wy : Value} (hx : VR cx h g x wx) (hy : VR cx h g y wy) : VR cx h g (selV c x y) (if c then wx else wy) := by
  cases c with
  | true => exact hx
  | false => exact hy
noncomputable def StOk (cx : Cx) (h : Heap) (g : Gh) (lt : Value → Value → Bool) (m : V) (wa wb : Value) : Prop := Flt.NumV wa ∧ Flt.NumV wb ∧ VR cx h g m (if lt wa wb then wb else wa)
set_option tactic.hygienic true in
theorem stepG_ok {h : Heap} {a b m : V} {wa wb : Value} {lt : Value → Value → Bool} {ci : Int → Int → Bool} {cf : UInt64 → UInt64 → Bool} (hi : ∀ i t j u, ci i j = lt (.int i t) (.int j u)) (hf : ∀ i t j u, cf i j = lt (.float i t) (.float j u))
    (e : stepG ci cf a b = some m) (ha : VR cx h g a wa) (hb : VR cx h g b wb) : StOk cx h g lt m wa wb := by
  delta stepG at e
  split at e
  · rename_i i q
    exact bindE e fun j q2 e => Option.some.inj e ▸ ha.intO (P := fun wa => StOk cx h g lt _ wa wb) q fun t => hb.intO (P := fun wb => StOk cx h g lt _ _ wb) q2 fun u => ⟨.int .., .int .., hi i t j u ▸ VR.sel (.int _ _) (.int _ _)⟩
  · exact bindE e fun i q e => bindE e fun j q2 e => Option.some.inj e ▸ ha.fltO (P := fun wa => StOk cx h g lt _ wa wb) q fun t a1 a2 a3 => hb.fltO (P := fun wb => StOk cx h g lt _ _ wb) q2 fun u b1 b2 b3 => ⟨.float .., .float .., hf i t j u ▸ VR.sel (.flt _ _ b1 b2 b3) (.flt _ _ a1 a2 a3)⟩
theorem tri {lt : Value → Value → Bool} {a b c : Value} {P : Value → Prop} (h : P (if lt (if lt a b then b else a) c then c else (if lt a b then b else a))) : P (if lt a b then (if lt b c then c else b) else (if lt a c then c else a)) := by
  cases q : lt a b <;> simp only [q] at h ⊢ <;> exact h
theorem max_ok {vs : List V} {ws : List Value} (e : biMax vs = some v) (hv : VRs cx s.heap g vs ws) (hw : W cx σ g s.heap s.toks) (hA : A.handled = none) : wpAny (model prog w) A (call (.builtin "max") ws) (EvP cx g s σ v) Z s :=
  bindE e fun p q e => bindE e fun m q2 e => hv.l3 (Q := fun ws => wpAny _ _ (call _ ws) _ _ _) q fun w1 w2 w3 h1 h2 h3 =>
  have x := stepG_ok (lt := Flt.ltV) (fun _ _ _ _ => rfl) (fun _ _ _ _ => rfl) q2 h1 h2
  have y := stepG_ok (lt := Flt.ltV) (fun _ _ _ _ => rfl) (fun _ _ _ _ => rfl) e x.2.2 h3
  wpAny_with_toks (Nat.le_refl s.toks) (max_three_num hA x.1 x.2.1 y.2.1 fun h' tk hk hle => EvP.grown hw hk hle (tri (lt := Flt.ltV) (P := fun w => VR cx h' g v w) (y.2.2.mono (Ev.keeps (X := []) hk))))
theorem min3_ok {p : V × V × V} {vs : List V} {ws : List Value} (q : l3 vs = some p) (e : ((minStep p.1 p.2.1).bind fun m => minStep m p.2.2) = some v) (hv : VRs cx s.heap g vs ws) (hw : W cx σ g s.heap s.toks) (hA : A.handled = none) : wpAny (model prog w) A (call (.builtin "min") ws) (EvP cx g s σ v) Z s :=
  bindE e fun m q2 e => hv.l3 (Q := fun ws => wpAny _ _ (call _ ws) _ _ _) q fun w1 w2 w3 h1 h2 h3 =>
  have x := stepG_ok (lt := fun x y => Flt.ltV y x) (fun _ _ _ _ => rfl) (fun _ _ _ _ => rfl) q2 h1 h2
  have y := stepG_ok (lt := fun x y => Flt.ltV y x) (fun _ _ _ _ => rfl) (fun _ _ _ _ => rfl) e x.2.2 h3
  wpAny_with_toks (Nat.le_refl s.toks) (min_three_num hA x.1 x.2.1 y.2.1 fun h' tk hk hle => EvP.grown hw hk hle (tri (lt := fun x y => Flt.ltV y x) (P := fun w => VR cx h' g v w) (y.2.2.mono (Ev.keeps (X := []) hk))))
end
end Mine
end
section
set_option maxRecDepth 100000
set_option maxHeartbeats 2000000
set_option linter.unusedVariables false
namespace Mine
open PySem PySem.Calls PyProof.Rows PySem.W PySem.SeqAt

section
variable {prog : Program} {w : World} {A : Around} {s : Shared} {cx : Cx} {n : Nat} {r : R} {F : Facts} {sc : Scope} {σ σ' : Sto} {ρ ρ' ρc : Loc} {v : V} {env : Env} {g : Gh}

theorem minLoop_ok {s0 : Shared} {I S l : Addr} {vs : List V} {ws : List Value} {R : Result → Shared → Prop} (hA : A.handled = none) (hu : A.in1.units < cLine) (hw0 : W cx σ g s0.heap s0.toks) (hl : s0.heap.PlainList l ws.toArray) (rv : VRs cx s0.heap g vs ws)
    (hI : s0.heap.get? I = none) (hS : s0.heap.get? S = none) (hIS : I ≠ S) :
    ∀ (rest : List V) (j : Nat) (s : Shared) (b : V) (wb : Value) (c : Nat), vs.drop (j + 1) = rest → minT b rest = some v → VR cx s0.heap g b wb → s.heap.IsListIter I l (j + 1) → s.heap.get? S = some { cls := .type "list", dict := none, data := .seq #[wb, wb] c, slots := #[] } →
    (∀ a o, s0.heap.get? a = some o → s.heap.get? a = some o) →
    (∀ wv h' tk, VR cx s0.heap g v wv → (∀ a o, s0.heap.get? a = some o → h'.get? a = some o) → R (.ok (.ret wv)) { s with heap := h', toks := tk }) →
    codeAny (model prog w) A (.builtin "min.loop" ⟨[.ref I, .none, .ref S], []⟩) R s := by
  have hname : (toString "min" ++ toString ".loop" : String) = "min.loop" := by decide
  have nI : ∀ a o, s0.heap.get? a = some o → a ≠ I := fun a o e q => by rw [q, hI] at e; cases e
  have nS : ∀ a o, s0.heap.get? a = some o → a ≠ S := fun a o e q => by rw [q, hS] at e; cases e
  intro rest
  induction rest with
  | nil =>
    intro j s b wb c hd hm hb hit hSo hk hR
    refine codeAny_builtin PySem.F.entry_min_loop ?_
    rw [Around.under_plainId PySem.F.plain_min_loop _]
    show wpAny _ A.in1 (seqItems? (.ref S) >>= _) _ _ s
    refine wpAny_bind (wpAny_seqItems hSo rfl ?_)
    show wpAny _ A.in1 (tryCatch (pyNext (.ref I)) _ >>= _) _ _ s
    have hlen : vs.length ≤ j + 1 := by
      have := congrArg List.length hd
      simp at this; omega
    obtain ⟨nl, pl⟩ := hl
    refine wpAny_bind (wpAny_tryCatch (wpAny_pyNext_list_end hA hit (Heap.PlainList.isList ⟨nl, hk _ _ pl⟩) (by rw [List.getElem?_toArray, List.getElem?_eq_none_iff, ← rv.length]; exact hlen) fun h' hx => ?_))
    have hS' := hx S _ (Ne.symm hIS) hSo
    show wpAny _ A.in1 (updateSeq S (fun _ => #[]) >>= _) _ _ _
    refine wpAny_bind ?_
    refine wpAny_updateSeq hS' rfl (wpAny_bind (wpAny_letGo (wpAny_pure ?_)))
    obtain rfl : b = v := Option.some.inj hm
    exact hR wb _ _ hb fun a o e => (Heap.get?_update_other _ _ (Ne.symm (nS a o e))).trans (hx a o (nI a o e) (hk a o e))
  | cons x rest ih =>
    intro j s b wb c hd hm hb hit hSo hk hR
    have hx0 : vs[j + 1]? = some x := by
      have : (vs.drop (j + 1))[0]? = some x := by rw [hd]; rfl
      rwa [List.getElem?_drop, Nat.add_zero] at this
    obtain ⟨wx, hwx, rx⟩ := rv.get hx0
    refine codeAny_builtin PySem.F.entry_min_loop ?_
    rw [Around.under_plainId PySem.F.plain_min_loop _]
    show wpAny _ A.in1 (seqItems? (.ref S) >>= _) _ _ s
    refine wpAny_bind (wpAny_seqItems hSo rfl ?_)
    show wpAny _ A.in1 (tryCatch (pyNext (.ref I)) _ >>= _) _ _ s
    obtain ⟨nl, pl⟩ := id hl
    refine wpAny_bind (wpAny_tryCatch (wpAny_pyNext_list_item hit (Heap.PlainList.isList ⟨nl, hk _ _ pl⟩) (by rw [List.getElem?_toArray]; exact hwx) fun h' hit' hs => ?_))
    have hk' : ∀ a o, s0.heap.get? a = some o → h'.get? a = some o := fun a o e => hs.extBut a o (nI a o e) (hk a o e)
    have hS' := hs.extBut S _ (Ne.symm hIS) hSo
    have hd' : vs.drop (j + 1 + 1) = rest := by rw [← List.drop_drop, hd]; rfl
    show wpAny _ A.in1 (tryCatch (holding [wx, wx] (richCompare .Lt wx wb >>= _)) _ >>= _) _ _ _
    refine bindE hm fun xb qb hm => bindE hm fun xx qx hm => bindE hm fun k q hm => ?_
    obtain ⟨wsb, ab, pb, fb, rb, rfl⟩ := (show VRf cx s0.heap g (.tup xb) wb from (tupO_ok qb ▸ hb).inv)
    obtain ⟨wsx, ax, px, fx, rrx, rfl⟩ := (show VRf cx s0.heap g (.tup xx) wx from (tupO_ok qx ▸ rx).inv)
    have E : Ev cx [] g g s0.heap h' := .keeps hk'
    refine wpAny_bind (wpAny_tryCatch (wpAny_holding (wpAny_bind (tupLt_ok (s := { s with heap := h' }) (hw0.keeps hk' (Nat.le_refl _)).booked (rrx.mono E) (rb.mono E) (let ⟨m, e⟩ := px; ⟨m, hk' _ _ e⟩) (let ⟨m, e⟩ := pb; ⟨m, hk' _ _ e⟩) q hu ?_))))
    refine wpAny_bind (wpAny_holding (wpAny_truthy_bool ?_))
    refine wpAny_bind (wpAny_letGo (wpAny_pure ?_))
    cases k with
    | true =>
      simp only [if_true]
      refine wpAny_bind ?_
      refine wpAny_updateSeq hS' rfl (wpAny_bind (wpAny_letGo ?_))
      rw [hname]
      exact wpAny_pure ⟨plainId_quiet PySem.F.plain_min_loop _, ih (j + 1) _ _ _ _ hd' hm (.tup px fx rrx) (hit'.elim fun oi y => ⟨oi, (Heap.get?_update_other _ _ (Ne.symm hIS)).trans y.1, y.2⟩) (Heap.get?_update_self _ hS' rfl) (fun a o e => (Heap.get?_update_other _ _ (Ne.symm (nS a o e))).trans (hk' a o e)) fun wv h2 tk2 => hR wv h2 tk2⟩
    | false =>
      simp only [Bool.false_eq_true, if_false]
      refine wpAny_bind (wpAny_letGo ?_)
      rw [hname]
      exact wpAny_pure ⟨plainId_quiet PySem.F.plain_min_loop _, ih (j + 1) _ _ _ _ hd' hm (.tup pb fb rb) hit' hS' hk' fun wv h2 tk2 => hR wv h2 tk2⟩

theorem minL_ok {x : V} {rest : List V} {w1 : Value} (e : minT x rest = some v) (h1 : VR cx s.heap g (.pl (x :: rest)) w1) (hw : W cx σ g s.heap s.toks) (hA : A.handled = none) (hu : A.units + 16 < cLine) :
    wpAny (model prog w) A (call (.builtin "min") [w1]) (EvP cx g s σ v) Z s := by
  have hname : (toString "min" ++ toString ".loop" : String) = "min.loop" := by decide
  refine h1.plE (P := fun w => wpAny _ _ (call _ [w]) _ _ _) fun ws l p f rv => ?_
  focus
    focus
      refine wpAny_with_toks (Nat.le_refl s.toks) (call_function_tree PySem.F.kind_min PySem.F.plain_min PySem.F.entry_min (PySem.F.args_min1 _) ?_)
      show wpAny _ A.in1 (Builtin.Builtins.bindParams "min" ["key", "default"] 0 ⟨[], []⟩ >>= _) _ _ s
      refine wpAny_bind (wpAny_of_eq (show Builtin.Builtins.bindParams "min" ["key", "default"] 0 ⟨[], []⟩ = pure [none, none] from rfl) ?_)
      refine wpAny_bind (wpAny_pure ?_)
      refine wpAny_bind (wpAny_pyIter_list p.isList ?_)
      refine wpAny_bind (wpAny_newObj_type ?_)
      rw [hname]
      dsimp only
      have hsz : (s.heap.push { cls := .type "list_iterator", data := .fields #[.ref l, .int 0 0] }).objs.size = s.heap.objs.size + 1 := Heap.size_push ..
      have hI : (s.heap.push { cls := .type "list_iterator", data := .fields #[.ref l, .int 0 0] }).get? s.heap.objs.size = some { cls := .type "list_iterator", data := .fields #[.ref l, .int 0 0] } := Heap.get?_push_size _ rfl
      have hk1 : ∀ a o, s.heap.get? a = some o → (s.heap.push { cls := .type "list_iterator", data := .fields #[.ref l, .int 0 0] }).get? a = some o := fun a o e => Heap.get?_push_of_some _ e
      generalize s.heap.push { cls := .type "list_iterator", data := .fields #[.ref l, .int 0 0] } = H1 at hsz hI hk1 ⊢
      have hI2 : (H1.push { cls := .type "list", dict := none, data := .seq #[] }).get? s.heap.objs.size = some { cls := .type "list_iterator", data := .fields #[.ref l, .int 0 0] } := Heap.get?_push_of_some _ hI
      have hS2 : (H1.push { cls := .type "list", dict := none, data := .seq #[] }).get? H1.objs.size = some { cls := .type "list", dict := none, data := .seq #[] } := Heap.get?_push_size _ rfl
      have hk2 : ∀ a o, s.heap.get? a = some o → (H1.push { cls := .type "list", dict := none, data := .seq #[] }).get? a = some o := fun a o e => Heap.get?_push_of_some _ (hk1 a o e)
      have hS0 : s.heap.get? H1.objs.size = none := Heap.get?_none_of_le (by rw [hsz]; exact Nat.le_succ _)
      have hI0 : s.heap.get? s.heap.objs.size = none := get_size _
      have hIS : s.heap.objs.size ≠ H1.objs.size := by rw [hsz]; exact Nat.ne_of_lt (Nat.lt_succ_self _)
      refine wpAny_pure ⟨plainId_quiet PySem.F.plain_min_loop _, ?_⟩
      generalize hH2 : H1.push { cls := .type "list", dict := none, data := .seq #[] } = H2 at hI2 hS2 hk2 ⊢
      generalize H1.objs.size = S at hS2 hS0 hIS ⊢
      generalize s.heap.objs.size = I at hI2 hI0 hIS ⊢
      have nI : ∀ a o, s.heap.get? a = some o → a ≠ I := fun a o e q => by rw [q, hI0] at e; cases e
      have nS : ∀ a o, s.heap.get? a = some o → a ≠ S := fun a o e q => by rw [q, hS0] at e; cases e
      refine codeAny_builtin PySem.F.entry_min_loop ?_
      rw [Around.under_plainId PySem.F.plain_min_loop _]
      show wpAny _ A.in1 (seqItems? (.ref S) >>= _) _ _ _
      refine wpAny_bind (wpAny_seqItems hS2 rfl ?_)
      show wpAny _ A.in1 (tryCatch (pyNext (.ref I)) _ >>= _) _ _ _
      obtain ⟨nl, pl⟩ := id p
      obtain ⟨wx, hwx, rx⟩ := rv.get (i := 0) rfl
      refine wpAny_bind (wpAny_tryCatch (wpAny_pyNext_list_item (l := l) (items := ws.toArray) (i := 0) ⟨_, hI2, rfl, rfl⟩ (Heap.PlainList.isList ⟨nl, hk2 _ _ pl⟩) (by rw [List.getElem?_toArray]; exact hwx) fun h' hit' hs => ?_))
      have hS' := hs.extBut S _ (Ne.symm hIS) hS2
      show wpAny _ A.in1 (updateSeq S (fun _ => #[wx, wx]) >>= _) _ _ _
      refine wpAny_bind ?_
      refine wpAny_updateSeq hS' rfl ?_
      rw [hname]
      refine wpAny_pure ⟨plainId_quiet PySem.F.plain_min_loop _, minLoop_ok hA (by show A.units + 1 < cLine; omega) hw p rv hI0 hS0 hIS rest 0 _ x wx _ rfl e rx ?_ (Heap.get?_update_self _ hS' rfl) (fun a o e => (Heap.get?_update_other _ _ (Ne.symm (nS a o e))).trans (hs.extBut a o (nI a o e) (hk2 a o e))) fun wv h2 tk2 hv2 hk3 => ?_⟩
      · exact hit'.elim fun oi y => ⟨oi, (Heap.get?_update_other _ _ (Ne.symm hIS)).trans y.1, y.2⟩
      · exact fun hle => EvP.grown hw hk3 hle (hv2.mono (Ev.keeps (X := []) hk3))
end
end Mine
end
section

end
section
set_option maxRecDepth 100000
set_option maxHeartbeats 2000000
set_option linter.unusedVariables false
namespace Mine
open PySem PySem.Calls PyProof.Rows PySem.W PySem.SeqAt

theorem distinctS_nodup {l : List Str} (e : distinctS l = true) : l.Nodup := by
  induction l with
  | nil => exact .nil
  | cons x l ih => exact andE e fun h1 h2 => List.nodup_cons.mpr ⟨fun hm => (nomatch (seq_refl x).symm.trans (anyB_false (notE h1) x hm)), ih h2⟩
theorem parOk_some {sc : Scope} {names : List Str} (h : parOk sc names = true) : names.Nodup ∧ ∀ x ∈ names, sc.names.lookup x = some .local ∨ sc.names.lookup x = some .cell :=
  andE h fun q h => ⟨distinctS_nodup q, fun x hx => anyE (allB_mem h x hx) fun k q hk => (locCel hk).imp (fun z => (lk_lookup ..).symm.trans (q.trans (congrArg some z))) fun z => (lk_lookup ..).symm.trans (q.trans (congrArg some z))⟩

noncomputable def rowNames : List Str := ["a", "x", "lo", "hi", "key"]
noncomputable def RowB (fd : FuncData) (t : Tok) (s : Shared) : Prop := ∀ a x l h k : Value,
  BindsTo s fd ⟨[a, x], []⟩ (rowNames.zip [a, x, .int 0 t, .none, .none]) ∧ BindsTo s fd ⟨[a, x], [("key", k)]⟩ (rowNames.zip [a, x, .int 0 t, .none, k]) ∧
  BindsTo s fd ⟨[a, x, l, h], []⟩ (rowNames.zip [a, x, l, h, .none]) ∧ BindsTo s fd ⟨[a, x, l, h], [("key", k)]⟩ (rowNames.zip [a, x, l, h, k])
structure RowFn (cx : Cx) (fd : FuncData) : Prop where
  bd : ∃ t, ∀ s : Shared, OldK cx.h₀ s.heap → RowB fd t s
  par : parOk fd.scope rowNames = true
noncomputable def FnOk (cx : Cx) (nm : Str) (a : Addr) : Prop := ∃ o fd fn, cx.h₀.get? a = some o ∧ o.cls ≠ .none ∧ o.data = .func fd ∧ fnOf nm = some fn ∧ fd.params = fn.ps ∧ fd.body = .stmts fn.body ∧ fd.scope = fn.sc ∧ FdOk cx fd ∧
  (∃ c oc, fd.code = .ref c ∧ cx.h₀.get? c = some oc ∧ oc.cls ≠ .none ∧ cx.h₀.CodeRec fd.code fd.qualname) ∧ (plainPs fn.ps = true → fd.defaults = .none ∧ parOk fn.sc (namesOf fn.ps) = true) ∧ (plainPs fn.ps = false → RowFn cx fd)
theorem FnOk.fin {cx : Cx} {nm : Str} {a : Addr} (h : FnOk cx nm a) : FnIn cx nm a := let ⟨o, fd, _, h1, h2, h3, _⟩ := h; ⟨o, fd, h1, h2, h3⟩

section
variable {prog : Program} {w : World} {A : Around} {s : Shared} {cx : Cx} {n : Nat} {r : R} {F : Facts} {sc : Scope} {σ σ' : Sto} {ρ ρ' ρc : Loc} {v : V} {env : Env} {g : Gh}

theorem codeRec_now {fd : FuncData} (h : ∃ c oc, fd.code = .ref c ∧ cx.h₀.get? c = some oc ∧ oc.cls ≠ .none ∧ cx.h₀.CodeRec fd.code fd.qualname) (hw : W cx σ g s.heap s.toks) : s.heap.CodeRec fd.code fd.qualname := by
  obtain ⟨c, oc, e, h1, h2, h3⟩ := h
  obtain ⟨c', o', vs, t, e', k1, k2, k3⟩ := h3
  rw [e] at e'; cases e'
  rw [h1] at k1; cases k1
  exact ⟨c, oc, vs, t, e, hw.old.get_of_cls h1 h2, k2, k3⟩

theorem kw_nil {h : Heap} {ks : List (Str × V)} {ks' : List (Str × Value)} (x : KwR cx h g ks ks') (e : ks.isEmpty = true) : ks' = [] := by
  have := x.1
  rw [List.isEmpty_iff.mp e] at this
  exact List.map_eq_nil_iff.mp this
theorem kw_one {h : Heap} {ks' : List (Str × Value)} {k : Str} {v : V} (x : KwR cx h g [(k, v)] ks') : ∃ wv, ks' = [(k, wv)] ∧ VR cx h g v wv := by
  cases ks' with
  | nil => exact nomatch x.1
  | cons p l =>
    have h1 : p.1 :: l.map (·.1) = [k] := x.1
    have h2 := List.map_eq_nil_iff.mp (List.cons.inj h1).2
    subst h2
    exact ⟨p.2, congrArg (fun a => [(a, p.2)]) (List.cons.inj h1).1, x.2.consP (P := fun l => ∀ w, l = [w] → VR cx h g v w) (fun w _ y _ w' e => (List.cons.inj e).1 ▸ y) _ rfl⟩
theorem keyOf_some {ks : List (Str × V)} (e : keyOf ks = some v) : (ks = [] ∧ v = .none) ∨ ks = [(sKey, v)] := by
  cases ks with
  | nil => exact .inl ⟨rfl, (Option.some.inj e).symm⟩
  | cons p l => exact bindE e fun a q e => whE e fun q2 e => .inr ((l1_ok q).trans (congrArg (fun a => [a]) (Prod.ext (strEq_of_seq q2) (Option.some.inj e))))

theorem callFn_ok (H : Sound prog w cx none n r) (C : CxOk cx) {nm : Str} {a : Addr} (hfn : FnOk cx nm a) {vs : List V} {ws : List Value} {ks : List (Str × V)} {ks' : List (Str × Value)} (e : callFn r nm σ vs ks = some (v, σ')) (hv : VRs cx s.heap g vs ws) (hk : KwR cx s.heap g ks ks')
    (hw : W cx σ g s.heap s.toks) (hA : Room fr (n + 1) A) : wpAny (model prog w) A (call (.ref a) ws ks') (EvP cx g s σ' v) Z s := by
  obtain ⟨o, fd, fn, h1, h2, h3, h4, h5, h6, h7, D, hc, hp, hr⟩ := hfn
  have ho := hw.old.get_of_cls h1 h2
  have hcd := codeRec_now hc hw
  refine bindE e fun fn' q0 e => ?_
  cases Option.some.inj (h4.symm.trans q0)
  clear q0 h4
  split at e
  · rename_i q
    exact whE e fun qk e => bindE e fun ρ0 q2 e => by
      obtain ⟨k1, k2⟩ := bindGo_zip q2
      obtain ⟨p1, p2⟩ := hp q
      obtain ⟨p3, p4⟩ := parOk_some p2
      have := bind_plain (fd := fd) (ws := ws) (by rw [h5]; exact q) p1 (by rw [h5]; exact p3) (by rw [h5]; exact k1.trans hv.length)
      rw [h5] at this
      rw [kw_nil hk qk]
      exact callBody_ok (names := namesOf fn.ps) H C D ho h3 h6 hcd p3 k1 hv (by rw [h7]; exact p4) (.of_eq this) (by rw [h7, ← k2]; exact e) hw hA
  · rename_i q
    have R := hr q
    exact R.bd.elim fun t bd => bindE e fun ρ0 q2 e => bindE q2 fun key q3 q2 => by
      have p := parOk_some R.par
      have bd := bd s hw.old
      have fin : ∀ {vs' : List V} {ws ws' : List Value} {ks'}, rowNames.length = vs'.length → VRs cx s.heap g vs' ws' → BindsTo s fd ⟨ws, ks'⟩ (rowNames.zip ws') → rowNames.zip vs' = ρ0 →
          wpAny (model prog w) A (call (.ref a) ws ks') (EvP cx g s σ' v) Z s := fun {vs' ws ws' ks'} hl hv' hb hz =>
        callBody_ok (names := rowNames) H C D ho h3 h6 hcd p.1 hl hv' p.2 hb (by rw [h7, hz]; exact e) hw hA
      rcases keyOf_some q3 with ⟨hk0, rfl⟩ | rfl
      · rw [kw_nil hk (hk0 ▸ rfl)]
        split at q2
        · rename_i q1
          exact hv.l2 (Q := fun ws => wpAny _ _ (call _ ws []) _ _ _) q1 fun _ _ v1 v2 => fin rfl (.cons v1 (.cons v2 (.cons (.int 0 t) (.cons .none (.cons .none .nil))))) (bd _ _ .none .none .none).1 (Option.some.inj q2)
        · exact bindE q2 fun p q1 q2 => hv.l4 (Q := fun ws => wpAny _ _ (call _ ws []) _ _ _) q1 fun _ _ _ _ v1 v2 v3 v4 => fin rfl (.cons v1 (.cons v2 (.cons v3 (.cons v4 (.cons .none .nil))))) (bd _ _ _ _ .none).2.2.1 (Option.some.inj q2)
      · refine (kw_one hk).elim fun wk y => y.1 ▸ ?_
        split at q2
        · rename_i q1
          exact hv.l2 (Q := fun ws => wpAny _ _ (call _ ws [_]) _ _ _) q1 fun _ _ v1 v2 => fin rfl (.cons v1 (.cons v2 (.cons (.int 0 t) (.cons .none (.cons y.2 .nil))))) (bd _ _ .none .none _).2.1 (Option.some.inj q2)
        · exact bindE q2 fun p q1 q2 => hv.l4 (Q := fun ws => wpAny _ _ (call _ ws [_]) _ _ _) q1 fun _ _ _ _ v1 v2 v3 v4 => fin rfl (.cons v1 (.cons v2 (.cons v3 (.cons v4 (.cons y.2 .nil))))) (bd _ _ _ _ _).2.2.2 (Option.some.inj q2)

structure EnvAt (cx : Cx) (a : Addr) (sc : Scope) (h : Heap) (env : Env) (h1 : Heap) : Prop where
  sc : env.scope = sc
  fnc : env.func ≠ none
  loc : env.frame = some env.locals
  keep : ∀ b o, h.get? b = some o → h1.get? b = some o
  fd : ∃ o fd, cx.h₀.get? a = some o ∧ o.data = .func fd ∧ env.code = fd.code ∧ env.qual = fd.qualname ++ ".<locals>."
  no : ∀ a ∈ frame env, h.get? a = none
theorem EnvAt.kof {a : Addr} {h h1 : Heap} (X : EnvAt cx a sc h env h1) (x : Str) : env.kindOf x = sc.names.lookup x := X.sc ▸ rfl
theorem EnvAt.sce {a : Addr} {h h1 : Heap} (X : EnvAt cx a sc h env h1) : ScE env sc := .of_eq X.sc X.fnc
noncomputable def flowV (f : Flow) : Value := match f with | .ret v => v | _ => .none
theorem fn_enter (C : CxOk cx) {nm : Str} {a : Addr} {fn : Fn} {vs : List V} {ws : List Value} {Q E : Value → Shared → Prop} (hfn : FnOk cx nm a) (hn : fnOf nm = some fn) (hp : plainPs fn.ps = true) (hb : bindGo (fn.ps.args.map (·.arg)) vs = some ρ) (hv : VRs cx s.heap g vs ws)
    (hw : W cx σ g s.heap s.toks) (hA : Room fr (n + 1) A)
    (k : ∀ env s₁, EnvAt cx a fn.sc s.heap env s₁.heap → FrR cx env g ρ s₁.heap → W cx σ g s₁.heap s₁.toks → Next cx g s g s₁ → wpAny (model prog w) (A.deeper env) (execs fn.body env) (fun f s' => Q (flowV f) s') (fun e s' => wpAny (model prog w) (A.deeper env) (leaving env e) (fun _ s'' => E e s'') (fun e' s'' => E e' s'') s') s₁) :
    wpAny (model prog w) A (call (.ref a) ws []) Q E s := by
  obtain ⟨o, fd, fn', h1, h2, h3, h4, h5, h6, h7, D, hc, hpl, hr⟩ := hfn
  rw [hn] at h4; cases h4
  obtain ⟨k1, k2⟩ := bindGo_zip hb
  obtain ⟨p1, p2⟩ := hpl hp
  obtain ⟨p3, p4⟩ := parOk_some p2
  have hbt := bind_plain (fd := fd) (ws := ws) (by rw [h5]; exact hp) p1 (by rw [h5]; exact p3) (by rw [h5]; exact k1.trans hv.length)
  rw [h5] at hbt
  refine wpAny_call (codeAny_call_function (by have := hA.depth; omega) (hw.old.get_of_cls h1 h2) h3 D.co D.gen h6 (codeRec_now hc hw) ((BindsTo.of_eq hbt : BindsTo s fd ⟨ws, []⟩ ((namesOf fn.ps).zip ws)) _ _ _ _ ?_))
  exact enter_ok C D p3 k1 hv (by rw [h7]; exact p4) hw fun env s₁ hs hfn hcode hq hf W1 N1 hno hlim => ⟨hlim, codeAny_func (k env s₁ ⟨hs.trans h7, (fun q => nomatch hfn.symm.trans q), hq.2.1, hq.2.2, ⟨o, fd, h1, h3, hcode, hq.1⟩, hno⟩ (k2 ▸ hf) W1 N1)⟩
theorem ExP.val {f : Flow} {s₁ s₂ : Shared} (x : ExP cx env g s₁ σ' ρ' (.ret v) f s₂) (N : Next cx g s g s₁) (hno : ∀ a ∈ frame env, s.heap.get? a = none) : EvP cx g s σ' v (flowV f) s₂ :=
  (x.leave N hno).elim fun g2 y => y.1.elim fun h z => z.elim fun t q => by
    subst q
    exact y.2.2.2.2.elim fun wv z => z.1 ▸ ⟨h, t, g2, rfl, y.2.1, y.2.2.1, y.2.2.2.1, z.2⟩

theorem callLam_ok (H : Sound prog w cx none n r) (C : CxOk cx) {ps : Arguments} {body : Expr} {wf : Value} {vs : List V} {ws : List Value} {ks : List (Str × V)} {ks' : List (Str × Value)} (e : callLam r ps body sc σ vs ks = some (v, σ')) (hf : VR cx s.heap g (.lam ps body sc) wf)
    (hv : VRs cx s.heap g vs ws) (hk : KwR cx s.heap g ks ks') (hw : W cx σ g s.heap s.toks) (hA : Room fr (n + 1) A) : wpAny (model prog w) A (call wf ws ks') (EvP cx g s σ' v) Z s := by
  exact whE e fun qk e => whE e fun q1 e => whE e fun q2 e => whE e fun q3 e => whE e fun q4 e => bindE e fun ρ0 q5 e => hf.lamE (P := fun wf => wpAny _ _ (call wf _ _) _ _ _) fun a q pm cd ct ho hcd fr frc => by
    obtain ⟨p3, p4⟩ := parOk_some q4
    obtain ⟨k1, k2⟩ := bindGo_zip q5
    obtain ⟨c, oc, vsc, t, e1, e2, e3, e4, e5⟩ := hcd
    have D : FdOk cx (lamFd q ps body sc pm cd ct) := andE q1 fun a1 q1 => andE q1 fun a2 q1 => andE q1 fun a3 q1 => ⟨isFun_ok a1, notE a3, notE a2, rfl, rfl, rfl, fun h => nomatch h.symm.trans (noLam_lk q3)⟩
    rw [kw_nil hk qk]
    exact callLamBody_ok (fd := lamFd q ps body sc pm cd ct) (names := namesOf ps) H C D ho rfl rfl ⟨c, oc, vsc, t, e1, e2, e4, e5⟩ p3 k1 hv p4 (.of_eq (bind_plain (fd := lamFd q ps body sc pm cd ct) q2 rfl p3 (k1.trans hv.length))) (k2 ▸ e) hw hA

structure CxX (cx : Cx) : Prop where
  chr : ∃ x4, cx.X[4]? = some x4 ∧ cx.X.length = 5 ∧ 0 ≤ x4 ∧ x4 < 50000 ∧ cx.ch = (47 + x4).toNat

theorem callBi_ok (hX : CxX cx) {b : BI} {wf : Value} {vs : List V} {ws : List Value} {ks : List (Str × V)} {ks' : List (Str × Value)} (e : callBi b σ vs ks = some (v, σ')) (hf : VR cx s.heap g (.bi b) wf)
    (hv : VRs cx s.heap g vs ws) (hk : KwR cx s.heap g ks ks') (hw : W cx σ g s.heap s.toks) (hA : Room fr n A) : wpAny (model prog w) A (call wf ws ks') (EvP cx g s σ' v) Z s := by
  have hb : wf = biVal b := hf.inv
  exact whE e fun qk e => bindE e fun v' q e => kw_nil hk qk ▸ hb ▸ p2a e ▸ p2b e ▸ by
    cases b with
    | max => exact max_ok q hv hw hA.handled
    | min =>
      (delta biF biMin at q; try dsimp only at q)
      split at q
      · rename_i q1; exact min3_ok q1 q hv hw hA.handled
      · exact bindE q fun a q1 q => bindE q fun l q2 q => hv.l1 (Q := fun ws => wpAny _ _ (call _ ws []) _ _ _) q1 fun w1 h1 => by
          cases l with
          | nil => exact nsE q
          | cons x r => exact minL_ok q (plO_ok q2 ▸ h1) hw hA.handled (by have := hA.units; omega)
    | abs => exact abs_ok q hv hw
    | round => exact round_ok q hv hw hA.handled
    | int => exact int_ok q hv hw
    | len => exact len_ok q hv hw
    | range => exact range_ok q hv hw
    | sorted => exact sorted_ok q hv hw
    | list => exact list_ok q hv hw hA.handled
    | chr => exact chr_ok hX.chr q hv hw
end
end Mine
end
section
set_option maxRecDepth 100000
set_option maxHeartbeats 2000000
set_option linter.unusedVariables false
namespace Mine
open PySem PySem.Calls PyProof.Rows PySem.W PySem.SeqAt

noncomputable def TOk (prog : Program) (w : World) (cx : Cx) (fr : Option (List Env)) (T : Known) (K : Nat) : Prop := ∀ {nm : Str} {vs : List V} {v : V}, T nm vs = some v → ∀ {a : Addr} {σ : Sto} {g : Gh} {s : Shared} {ws : List Value} {A : Around},
  cx.fnA nm = some a → VRs cx s.heap g vs ws → W cx σ g s.heap s.toks → Room fr K A → wpAny (model prog w) A (call (.ref a) ws []) (EvP cx g s σ v) Z s

structure Given (prog : Program) (w : World) (cx : Cx) (F : Facts) : Prop where
  G : CxG cx
  F : FactsOk F cx
  X : CxX cx
  fn : ∀ nm a, cx.fnA nm = some a → FnOk cx nm a
  pat : PatOk prog w cx
  patA : PatAt cx

theorem Room.le {fr : Option (List Env)} {m n : Nat} {A : Around} (h : Room fr n A) (hm : m ≤ n) : Room fr m A := ⟨h.handled, by have := h.depth; omega, by have := h.units; omega, h.frs⟩
theorem Room.any {fr : Option (List Env)} {n : Nat} {A : Around} (h : Room fr n A) : Room none n A := ⟨h.handled, h.depth, h.units, fun l q => by cases q⟩

section
variable {prog : Program} {w : World} {A : Around} {s : Shared} {cx : Cx} {fr : Option (List Env)} {n : Nat} {r rIn : R} {F : Facts} {sc : Scope} {σ σ' : Sto} {ρ ρ' ρc : Loc} {v : V} {env : Env} {g : Gh} {fl : Fl}

theorem evCallF_ok (P : Given prog w cx F) (H : Sound prog w cx fr n r) {f : Expr} {args : List Expr} {kws : List Keyword} {pos : Pos} (e : evCallF r sc σ ρ f args kws pos = some (v, σ')) (hs : ScE env sc) (hf : FrR cx env g ρ s.heap) (hw : W cx σ g s.heap s.toks) (hA : Room fr n A) :
    wpAny (model prog w) A (eval (.Call f args kws pos) env) (EvP cx g s σ' v) Z s := by
  have hfn : ∀ nm a, cx.fnA nm = some a → FnIn cx nm a := fun nm a e => (P.fn nm a e).fin
  cases f with
  | Attribute o nm ap => exact evMeth_ok H P.G P.pat P.patA e hs hf hw hA
  | _ => exact evCall_ok H P.G hfn e hs hf hw hA rfl

theorem viewN_name {x : Str} {y : Str} (h : viewN x = .name y) : y = x ∧ seq x sDebug = false ∧ seq x sClassd = false := by
  delta viewN at h
  split at h
  · rename_i q1 q2; cases h; exact ⟨rfl, q1, q2⟩
  · cases h
theorem viewN_or (x : Str) : viewN x = .bad ∨ viewN x = .name x := by
  unfold viewN
  split
  · exact .inr rfl
  · exact .inl rfl

theorem view_cases {P : Expr → Prop} (x : Expr) (h1 : ∀ c k p, P (.Constant c k p)) (h2 : ∀ y p, P (.Name y p)) (h3 : ∀ a op b p, P (.BinOp a op b p)) (h4 : ∀ op a p, P (.UnaryOp op a p)) (h5 : ∀ op es p, P (.BoolOp op es p)) (h6 : ∀ t b o p, P (.IfExp t b o p)) (h7 : ∀ l ops cs p, P (.Compare l ops cs p))
    (h8 : ∀ es k p, P (.Tuple es k p)) (h9 : ∀ es p, P (.List es p)) (h10 : ∀ ps b sc p, P (.Lambda ps b sc p)) (h11 : ∀ e g sc p, P (.ListComp e g sc p)) (h12 : ∀ o i p, P (.Subscript o i p)) (h13 : ∀ f as ks p, P (.Call f as ks p)) (h : view x = .bad → P x) : P x := by
  cases x with
  | Constant c k pos => exact h1 ..
  | Name x pos => exact h2 ..
  | BinOp a op b pos => exact h3 ..
  | UnaryOp op a pos => exact h4 ..
  | BoolOp op es pos => exact h5 ..
  | IfExp t b o pos => exact h6 ..
  | Compare l ops cs pos => exact h7 ..
  | Tuple es k pos => exact h8 ..
  | List es pos => exact h9 ..
  | Lambda ps body scope pos => exact h10 ..
  | ListComp elt gens scope pos => exact h11 ..
  | Subscript o i pos => exact h12 ..
  | Call f args kws pos => exact h13 ..
  | _ => exact h rfl
theorem viewS_cases {P : Stmt → Prop} (x : Stmt) (h1 : ∀ v p, P (.Return v p)) (h2 : ∀ ts e p, P (.Assign ts e p)) (h3 : ∀ t b o p, P (.If t b o p)) (h4 : ∀ t b o p, P (.While t b o p)) (h5 : ∀ t i b o p, P (.For t i b o p)) (h6 : ∀ e p, P (.Expr e p)) (h : viewS x = .bad → P x) : P x := by
  cases x with
  | Return v pos => exact h1 ..
  | Assign ts x pos => exact h2 ..
  | If t b o pos => exact h3 ..
  | While t b o pos => exact h4 ..
  | For t it b o pos => exact h5 ..
  | Expr x pos => exact h6 ..
  | _ => exact h rfl

theorem evF_ok (P : Given prog w cx F) (H : Sound prog w cx fr n r) {x : Expr} (e : evF F r sc σ ρ x = some (v, σ')) (hs : ScE env sc) (hf : FrR cx env g ρ s.heap) (hw : W cx σ g s.heap s.toks) (hA : Room fr n A) :
    wpAny (model prog w) A (eval x env) (EvP cx g s σ' v) Z s := by
  have hu : A.units + 8 < cLine := by have := hA.units; omega
  refine view_cases (P := fun x => evF F r sc σ ρ x = some (v, σ') → wpAny (model prog w) A (eval x env) (EvP cx g s σ' v) Z s) x (fun _ _ _ e => evConst_ok e hw) (fun x pos e => ?_) (fun _ _ _ _ e => evBin_ok H P.G P.F e hs hf hw hA) (fun _ _ _ e => evUn_ok H e hs hf hw hA) (fun _ _ _ e => boolEv_ok H P.G e hs hf hw hA) (fun _ _ _ _ e => evIf_ok H P.G e hs hf hw hA)
    (fun _ _ _ _ e => evCmp_ok H P.G e hs hf hw hA hu) (fun _ _ _ e => evTup_ok H P.G e hs hf hw hA) (fun _ _ e => evList_ok H P.G e hs hf hw hA) (fun _ _ _ _ e => evLam_ok hs hf hw P.G e) (fun _ _ _ _ e => evComp_ok H P.G e hs hf hw hA) (fun _ _ _ e => evSub_ok H P.G hs hf hw hA e) (fun _ _ _ _ e => evCallF_ok P H e hs hf hw hA) (fun q e => ?_) e
  · delta evF at e
    rcases viewN_or x with q | q
    · rw [show view (.Name x pos) = .bad from q] at e; exact nsE e
    · obtain ⟨_, h1, h2⟩ := viewN_name q
      rw [show view (.Name x pos) = .name x from q] at e
      exact evName_ok P.G e h1 h2 hs hf hw
  · delta evF at e
    rw [q] at e; exact nsE e

theorem tstF_ok (P : Given prog w cx F) (H : Sound prog w cx fr n r) {x : Expr} {t : Bool} (e : tstF F r sc σ ρ x = some (t, σ')) (hs : ScE env sc) (hf : FrR cx env g ρ s.heap) (hw : W cx σ g s.heap s.toks) (hA : Room fr n A) :
    wpAny (model prog w) A (isTrue x env (eval x env)) (TsP cx g s σ' t) Z s := by
  have hu : A.units + 8 < cLine := by have := hA.units; omega
  refine view_cases (P := fun x => tstF F r sc σ ρ x = some (t, σ') → wpAny (model prog w) A (isTrue x env (eval x env)) (TsP cx g s σ' t) Z s) x (fun _ _ _ e => nsE e) (fun x pos e => ?_) (fun _ _ _ _ e => nsE e) (fun _ _ _ e => tstNot_ok H e hs hf hw hA) (fun _ _ _ e => boolTst_ok H P.G e hs hf hw hA) (fun _ _ _ _ e => nsE e)
    (fun _ _ _ _ e => tsCmp_ok H P.G e hs hf hw hA hu) (fun _ _ _ e => nsE e) (fun _ _ e => nsE e) (fun _ _ _ _ e => nsE e) (fun _ _ _ _ e => nsE e) (fun _ _ _ e => nsE e) (fun _ _ _ _ e => tstV_ok e rfl fun v σ₁ q => evCallF_ok P H q hs hf hw hA) (fun q e => ?_) e
  · delta tstF at e
    rcases viewN_or x with q | q
    · rw [show view (.Name x pos) = .bad from q] at e; exact nsE e
    · obtain ⟨_, h1, h2⟩ := viewN_name q
      rw [show view (.Name x pos) = .name x from q] at e
      exact tstV_ok e rfl fun v σ₁ q => evName_ok P.G q h1 h2 hs hf hw
  · delta tstF at e
    rw [q] at e; exact nsE e

theorem exF_ok (P : Given prog w cx F) (H : Sound prog w cx fr n r) {x : Stmt} (e : exF r sc σ ρ x = some (fl, σ', ρ')) (hs : ScE env sc) (hf : FrR cx env g ρ s.heap) (hw : W cx σ g s.heap s.toks) (hA : Room fr n A) :
    wpAny (model prog w) A (exec x env) (ExP cx env g s σ' ρ' fl) Z s :=
  viewS_cases (P := fun x => exF r sc σ ρ x = some (fl, σ', ρ') → wpAny (model prog w) A (exec x env) (ExP cx env g s σ' ρ' fl) Z s) x (fun _ _ e => exRet_ok H P.G e hs hf hw hA) (fun _ _ _ e => exAsgAll_ok H P.G e hs hf hw hA) (fun _ _ _ _ e => exIf_ok H P.G e hs hf hw hA) (fun _ _ _ _ e => exWhile_ok H e hs hf hw hA)
    (fun _ _ _ _ _ e => exFor_ok H P.G e hs hf hw hA) (fun _ _ e => exExpr_ok H P.G e hs hf hw hA) (fun q e => by
    delta exF at e
    rw [q] at e; exact nsE e) e

theorem callF_ok (P : Given prog w cx F) (HI : Sound prog w cx none n rIn) {T : Known} {K : Nat} (hT : TOk prog w cx fr T K) (hK : K ≤ n + 1) {f : V} {wf : Value} {vs : List V} {ws : List Value} {ks : List (Str × V)} {ks' : List (Str × Value)} (e : callF T rIn σ f vs ks = some (v, σ'))
    (hf : VR cx s.heap g f wf) (hv : VRs cx s.heap g vs ws) (hk : KwR cx s.heap g ks ks') (hw : W cx σ g s.heap s.toks) (hA : Room fr (n + 1) A) : wpAny (model prog w) A (call wf ws ks') (EvP cx g s σ' v) Z s := by
  cases f with
  | fn nm =>
    apply hf.fnE; intro _ ha
    ·
      (delta callF callDef at e; try dsimp only at e)
      split at e
      · split at e
        · rename_i q
          cases e
          rw [kw_nil hk rfl]
          exact hT q ha hv hw (hA.le hK)
        · exact callFn_ok HI P.G.ok (P.fn _ _ ha) e hv hk hw hA
      · exact callFn_ok HI P.G.ok (P.fn _ _ ha) e hv hk hw hA
  | lam ps body sc => exact callLam_ok HI P.G.ok e hf hv hk hw hA
  | bi b => exact callBi_ok P.X e hf hv hk hw hA
  | _ => cases e

theorem step_ok (P : Given prog w cx F) (H : Sound prog w cx fr n r) (HI : Sound prog w cx none n rIn) {T : Known} {K : Nat} (hT : TOk prog w cx fr T K) (hK : K ≤ n + 1) : Sound prog w cx fr (n + 1) (stepR F T rIn r) where
  set := fun _ _ _ _ _ _ => rfl
  star := fun _ _ _ _ _ => rfl
  scomp := fun _ _ _ _ _ _ _ => rfl
  dcomp := fun _ _ _ _ _ _ _ _ => rfl
  use := by intro _ _ _ _ _ _ _ _ _ e env g s A y py ρ' hs hf hw hA ea; exact compUse_ok H P.G e hs hf hw hA.pred ea
  clb := by
    intro σ f vs ks x e
    cases f <;> first | rfl | (exact absurd e (by intro q; cases q))
  ev := by intro _ _ _ _ _ _ e env g s A hs hf hw hA; exact evF_ok P H e hs hf hw hA.pred
  tst := by intro _ _ _ _ _ _ e env g s A hs hf hw hA; exact tstF_ok P H e hs hf hw hA.pred
  ex := by intro _ _ _ _ _ _ _ e env g s A hs hf hw hA; exact exF_ok P H e hs hf hw hA.pred
  call := by intro _ _ _ _ _ _ e g s A wf ws ks' hf hv hk hw hA; exact callF_ok P HI hT hK e hf hv hk hw hA
  wl := by intro _ _ _ _ _ _ _ _ e env g s A hs hf hw hA; exact wlF_ok H P.G e hs hf hw hA.pred
  fl := by intro _ _ _ _ _ _ _ _ _ _ e env g s A I hs hf hw hA hi; exact flF_ok H P.G e hs hf hw hA.pred hi
  cl := by intro _ _ _ _ _ _ _ _ _ _ _ e env g s A I D ws gens scope pos depth hs hd hf hw hA hi h1 h2 h3 h4 h5 h6 h7; exact clF_ok H P.G e hs hd hf hw hA.pred hi h1 h2 h3 h4 h5 h6 h7

theorem bot_ok : Sound prog w cx fr n R.bot where
  set := fun _ _ _ _ _ _ => rfl
  star := fun _ _ _ _ _ => rfl
  scomp := fun _ _ _ _ _ _ _ => rfl
  dcomp := fun _ _ _ _ _ _ _ _ => rfl
  use := by intro _ _ _ _ _ _ _ _ _ e; cases e
  clb := by intro _ _ _ _ _ e; cases e
  ev := by intro _ _ _ _ _ _ e; cases e
  tst := by intro _ _ _ _ _ _ e; cases e
  ex := by intro _ _ _ _ _ _ _ e; cases e
  call := by intro _ _ _ _ _ _ e; cases e
  wl := by intro _ _ _ _ _ _ _ _ e; cases e
  fl := by intro _ _ _ _ _ _ _ _ _ _ e; cases e
  cl := by intro _ _ _ _ _ _ _ _ _ _ _ e; cases e

theorem recN_ok (P : Given prog w cx F) {T : Known} {K : Nat} (hT : TOk prog w cx none T K) : ∀ n, Sound prog w cx none (n + K) (recN F T n)
  | 0 => bot_ok
  | n + 1 => by
    have h := step_ok P (recN_ok P hT n) (recN_ok P hT n) hT (by omega)
    have e : n + 1 + K = n + K + 1 := by omega
    rw [e]; exact h
theorem recL_ok (P : Given prog w cx F) {T : Known} {K m : Nat} (hT : TOk prog w cx fr T K) (hK : K ≤ m + 1) (HI : ∀ n, m ≤ n → Sound prog w cx none n rIn) : ∀ n, Sound prog w cx fr (n + m) (recL F T rIn n)
  | 0 => bot_ok
  | n + 1 => by
    have h := step_ok P (recL_ok P hT hK HI n) (HI (n + m) (Nat.le_add_left _ _)) hT (by omega)
    have e : n + 1 + m = n + m + 1 := by omega
    rw [e]; exact h
theorem Sound.more {m : Nat} (H : Sound prog w cx fr n r) (h : n ≤ m) : Sound prog w cx fr m r where
  set := H.set
  star := H.star
  scomp := H.scomp
  dcomp := H.dcomp
  use := by intro _ _ _ _ _ _ _ _ _ e env g s A y py ρ' hs hf hw hA ea; exact H.use e hs hf hw (hA.le h) ea
  clb := H.clb
  ev := by intro _ _ _ _ _ _ e env g s A hs hf hw hA; exact H.ev e hs hf hw (hA.le h)
  tst := by intro _ _ _ _ _ _ e env g s A hs hf hw hA; exact H.tst e hs hf hw (hA.le h)
  ex := by intro _ _ _ _ _ _ _ e env g s A hs hf hw hA; exact H.ex e hs hf hw (hA.le h)
  call := by intro _ _ _ _ _ _ e g s A wf ws ks' hf hv hk hw hA; exact H.call e hf hv hk hw (hA.le h)
  wl := by intro _ _ _ _ _ _ _ _ e env g s A hs hf hw hA; exact H.wl e hs hf hw (hA.le h)
  fl := by intro _ _ _ _ _ _ _ _ _ _ e env g s A I hs hf hw hA hi; exact H.fl e hs hf hw (hA.le h) hi
  cl := by intro _ _ _ _ _ _ _ _ _ _ _ e env g s A I D ws gens scope pos depth hs hd hf hw hA hi h1 h2 h3 h4 h5 h6 h7; exact H.cl e hs hd hf hw (hA.le h) hi h1 h2 h3 h4 h5 h6 h7
end
end Mine
end
section
set_option maxRecDepth 100000
set_option maxHeartbeats 2000000
set_option linter.unusedVariables false
namespace Mine
open PySem PySem.Sre

noncomputable def C1 : Array Nat := #[14, 4, 0, 1, 1, 6, 1, 16, 46, 1]
noncomputable def C2 : Array Nat := #[14, 9, 4, 1, 2, 16, 10, 16, 13, 0, 7, 7, 16, 13, 16, 10, 15, 18, 5, 16, 10, 15, 13, 11, 16, 13, 5, 5, 0, 16, 10, 1, 15, 2, 0, 1]

noncomputable def StF (body s : Nat) (first : Bool) : Sre.Frame := { wait := .nextStart, pc := body, pos := s, outermost := first }
noncomputable def St (code text : Array Nat) (body lim s : Nat) (first : Bool) (seen : Seen) : M :=
  { code, text, lim, start := s, lastStart := lim, pc := body, pos := s, handed := s, outermost := first, marks := #[], frames := [StF body s first], weight := 1, seen }

theorem runFor_add (a b : Nat) (m : M) : m.runFor (a + b) = (m.runFor a).runFor b := by
  have stop : ∀ n (m : M), m.outcome.isSome = true → m.runFor n = m := fun n m h => by
    cases n with
    | zero => rfl
    | succ n => unfold M.runFor; rw [if_pos h]
  induction a generalizing m with
  | zero => rw [Nat.zero_add]; rfl
  | succ a ih =>
    rw [show a + 1 + b = (a + b) + 1 from by omega]
    show (if m.outcome.isSome then m else M.runFor (a + b) m.step) = M.runFor b (if m.outcome.isSome then m else M.runFor a m.step)
    by_cases h : m.outcome.isSome = true
    · rw [if_pos h, if_pos h, stop b m h]
    · rw [if_neg h, if_neg h, ih]
theorem runFor_one (m : M) (h : m.outcome = none) : m.runFor 1 = m.step := by
  show (if m.outcome.isSome then m else M.runFor 0 m.step) = m.step
  rw [h]; rfl

noncomputable def Gets (n : Nat) (m m' : M) : Prop := ∃ k, k ≤ n ∧ m.runFor k = m'
theorem Gets.refl (m : M) : Gets 0 m m := ⟨0, Nat.le_refl _, rfl⟩
theorem Gets.trans {a b : Nat} {m m' m'' : M} (x : Gets a m m') (y : Gets b m' m'') : Gets (a + b) m m'' := by
  obtain ⟨k, hk, e⟩ := x
  obtain ⟨l, hl, e'⟩ := y
  exact ⟨k + l, by omega, by rw [runFor_add, e, e']⟩
theorem Gets.one {m m' : M} (h : m.outcome = none) (e : m.step = m') : Gets 1 m m' := ⟨1, Nat.le_refl _, by rw [runFor_one m h, e]⟩
theorem Gets.le {a b : Nat} {m m' : M} (x : Gets a m m') (h : a ≤ b) : Gets b m m' := let ⟨k, hk, e⟩ := x; ⟨k, by omega, e⟩

set_option tactic.hygienic true in
theorem lit_step (m : M) (ho : m.outcome = none) (ha : m.answer = none) (hpc : m.pc < m.code.size) (hop : m.code.getD m.pc 0 = 16) :
    m.step = if m.pos ≥ m.lim then { m with seen := m.seen.add 16, answer := some false } else
      if (m.text.getD m.pos 0 == m.code.getD (m.pc + 1) 0) = true then { m with seen := m.seen.add 16, pc := m.pc + 2, pos := m.pos + 1 } else { m with seen := m.seen.add 16, answer := some false } := by
  cases m
  dsimp only at ho ha hpc hop
  subst ho ha
  rename_i code text lim start ls wt ma pc pos handed om marks lm li loops inner frames weight seen
  unfold M.step
  simp only [Option.isSome_none, Bool.false_eq_true, if_false, if_pos hpc]
  unfold M.exec
  have h16 : ops[16]? = some .LITERAL := rfl
  simp only [M.word, Nat.add_zero, hop, h16]
  split
  · rfl
  · unfold accepts itemWidth
    simp only [hop, h16]
    cases (text.getD pos 0 == code.getD (pc + 1) 0) <;> rfl

noncomputable def Found (m : M) (a b : Nat) : Prop := (∃ x, m.outcome = some x ∧ x = .matched) ∧ m.start = a ∧ m.handed = b
noncomputable def Lost (m : M) : Prop := ∃ x, m.outcome = some x ∧ x = .failed

noncomputable def bol (text : Array Nat) (s : Nat) : Bool := s == 0 || text.getD (s - 1) 0 == 10

theorem c1_no {text : Array Nat} {lim s : Nat} {first : Bool} {seen : Seen} {pc pos : Nat} : Gets 1 { St C1 text 5 lim s first seen with pc := pc, pos := pos, answer := some false }
    (if s < lim then St C1 text 5 lim (s + 1) false seen else { St C1 text 5 lim s first seen with answer := some false, frames := [], weight := 0 }) :=
  .one rfl (by
    show (if s < lim then _ else _) = _
    split <;> rfl)
theorem c1_turn {text : Array Nat} {lim s : Nat} {first : Bool} {seen : Seen} : (bol text s = true ∧ s < lim ∧ text.getD s 0 = 46 ∧ ∃ m, Gets 8 (St C1 text 5 lim s first seen) m ∧ Found m s (s + 1)) ∨
    (¬ (bol text s = true ∧ s < lim ∧ text.getD s 0 = 46) ∧ ((s < lim ∧ ∃ seen', Gets 8 (St C1 text 5 lim s first seen) (St C1 text 5 lim (s + 1) false seen')) ∨ (¬ s < lim ∧ ∃ m, Gets 8 (St C1 text 5 lim s first seen) m ∧ Lost m))) := by
  have lost : ∀ {pc pos : Nat} {seen : Seen} {m0 : M}, Gets 4 m0 { St C1 text 5 lim s first seen with pc := pc, pos := pos, answer := some false } →
      ((s < lim ∧ ∃ seen', Gets 8 m0 (St C1 text 5 lim (s + 1) false seen')) ∨ (¬ s < lim ∧ ∃ m, Gets 8 m0 m ∧ Lost m)) := fun {pc pos seen m0} g => by
    by_cases h : s < lim
    · have := g.trans c1_no
      rw [if_pos h] at this
      exact .inl ⟨h, seen, this.le (by omega)⟩
    · have := g.trans c1_no
      rw [if_neg h] at this
      exact .inr ⟨h, _, (this.trans (.one rfl rfl)).le (by omega), _, rfl, rfl⟩
  cases hb : bol text s with
  | false =>
    refine .inr ⟨by simp, lost (pc := 5) (pos := s) (seen := (seen.add 6).add 44) ((Gets.one rfl ?_).le (by omega))⟩
    show (if bol text s = true then _ else _) = _
    rw [hb]; rfl
  | true =>
    have g1 : Gets 1 (St C1 text 5 lim s first seen) { St C1 text 5 lim s first ((seen.add 6).add 44) with pc := 7 } := .one rfl (by
      show (if bol text s = true then _ else _) = _
      rw [hb]; rfl)
    have g2 : Gets 1 { St C1 text 5 lim s first ((seen.add 6).add 44) with pc := 7 } (if s ≥ lim then { St C1 text 5 lim s first (((seen.add 6).add 44).add 16) with pc := 7, answer := some false } else
      if (text.getD s 0 == 46) = true then { St C1 text 5 lim s first (((seen.add 6).add 44).add 16) with pc := 9, pos := s + 1 } else { St C1 text 5 lim s first (((seen.add 6).add 44).add 16) with pc := 7, answer := some false }) :=
      .one rfl (lit_step { St C1 text 5 lim s first ((seen.add 6).add 44) with pc := 7 } rfl rfl (by show 7 < 10; decide) rfl)
    by_cases hs : s < lim
    · rw [if_neg (show ¬ s ≥ lim from by omega)] at g2
      by_cases hc : text.getD s 0 = 46
      · rw [if_pos (show (text.getD s 0 == 46) = true from by simpa using hc)] at g2
        refine .inl ⟨rfl, hs, hc, ?_⟩
        cases first <;> exact ⟨_, ((((g1.trans g2).trans (.one rfl rfl)).trans (.one rfl rfl)).trans (.one rfl rfl)).le (by omega), ⟨_, rfl, rfl⟩, rfl, rfl⟩
      · rw [if_neg (show ¬ (text.getD s 0 == 46) = true from by simpa using hc)] at g2
        exact .inr ⟨fun h => hc h.2.2, lost (pc := 7) (pos := s) ((g1.trans g2).le (by omega))⟩
    · rw [if_pos (show s ≥ lim from by omega)] at g2
      exact .inr ⟨fun h => hs h.2.1, lost (pc := 7) (pos := s) ((g1.trans g2).le (by omega))⟩

theorem c1_search {text : Array Nat} {lim : Nat} : ∀ (k s : Nat) (first : Bool) (seen : Seen), lim - s ≤ k → s ≤ lim →
    (∃ p m, s ≤ p ∧ p < lim ∧ bol text p = true ∧ text.getD p 0 = 46 ∧ (∀ q, s ≤ q → q < p → ¬ (bol text q = true ∧ text.getD q 0 = 46)) ∧ Gets (8 * (k + 1)) (St C1 text 5 lim s first seen) m ∧ Found m p (p + 1)) ∨
    ((∀ q, s ≤ q → q < lim → ¬ (bol text q = true ∧ text.getD q 0 = 46)) ∧ ∃ m, Gets (8 * (k + 1)) (St C1 text 5 lim s first seen) m ∧ Lost m) := by
  intro k
  induction k with
  | zero =>
    intro s first seen hk hs
    rcases c1_turn (text := text) (lim := lim) (s := s) (first := first) (seen := seen) with ⟨_, h, _⟩ | ⟨hn, ⟨h, _⟩ | ⟨h, m, g, l⟩⟩
    · omega
    · omega
    · exact .inr ⟨fun q h1 h2 => by omega, m, g.le (by omega), l⟩
  | succ k ih =>
    intro s first seen hk hs
    rcases c1_turn (text := text) (lim := lim) (s := s) (first := first) (seen := seen) with ⟨h1, h2, h3, m, g, f⟩ | ⟨hn, ⟨h, seen', g⟩ | ⟨h, m, g, l⟩⟩
    · exact .inl ⟨s, m, Nat.le_refl _, h2, h1, h3, fun q a b => by omega, g.le (by omega), f⟩
    · rcases ih (s + 1) false seen' (Nat.le_of_lt_succ (Nat.lt_of_lt_of_le (Nat.sub_lt_sub_left h (Nat.lt_succ_self s)) hk)) h with ⟨p, m, a1, a2, a3, a4, a5, a6, a7⟩ | ⟨a1, m, a2, a3⟩
      · refine .inl ⟨p, m, by omega, a2, a3, a4, fun q b1 b2 => ?_, (g.trans a6).le (by omega), a7⟩
        by_cases hq : q = s
        · subst hq; exact fun c => hn ⟨c.1, h, c.2⟩
        · exact a5 q (by omega) b2
      · refine .inr ⟨fun q b1 b2 => ?_, m, (g.trans a2).le (by omega), a3⟩
        by_cases hq : q = s
        · subst hq; exact fun c => hn ⟨c.1, h, c.2⟩
        · exact a1 q (by omega) b2
    · exact .inr ⟨fun q h1 h2 => by omega, m, g.le (by omega), l⟩
theorem c1_from {text : Array Nat} {lim s : Nat} (h : s ≤ lim) :
    (∃ p m, s ≤ p ∧ p < lim ∧ bol text p = true ∧ text.getD p 0 = 46 ∧ (∀ q, s ≤ q → q < p → ¬ (bol text q = true ∧ text.getD q 0 = 46)) ∧ Gets (8 * (lim + 1)) (forSearch C1 text 0 s lim false) m ∧ Found m p (p + 1)) ∨
    ((∀ q, s ≤ q → q < lim → ¬ (bol text q = true ∧ text.getD q 0 = 46)) ∧ ∃ m, Gets (8 * (lim + 1)) (forSearch C1 text 0 s lim false) m ∧ Lost m) := by
  by_cases hl : s < lim
  · have e : forSearch C1 text 0 s lim false = St C1 text 5 lim s true (({} : Seen).add 14) := by
      show (if (decide (s > lim) || decide (lim - s < 1)) = true then _ else _) = _
      rw [if_neg (by simp; omega)]; rfl
    rw [e]
    exact c1_search lim s true _ (by omega) h
  · refine .inr ⟨fun q h1 h2 => by omega, ?_⟩
    obtain ⟨m0, e, h2, h3⟩ : ∃ m0, forSearch C1 text 0 s lim false = M.say m0 false ∧ m0.frames = [] ∧ m0.outcome = none := ⟨_, by
      show (if (decide (s > lim) || decide (lim - s < 1)) = true then _ else _) = _
      rw [if_pos (by have : s = lim := by omega
                     subst this; simp)], rfl, rfl⟩
    rw [e]
    refine ⟨_, (Gets.one (m := M.say m0 false) h3 rfl).le (show 1 ≤ 8 * (lim + 1) by omega), ?_⟩
    cases m0
    dsimp only at h2 h3
    subst h2 h3
    exact ⟨_, rfl, rfl⟩
end Mine
end
section
set_option maxRecDepth 100000
set_option maxHeartbeats 2000000
set_option linter.unusedVariables false
namespace Mine
open PySem PySem.Sre

noncomputable def Br (text : Array Nat) (lim s : Nat) (first : Bool) (seen : Seen) (bpc pc pos handed : Nat) : M :=
  { St C2 text 10 lim s first seen with frames := [{ wait := .nextBranch, pc := bpc, pos := s, outermost := first }, StF 10 s first], weight := 2, pc := pc, pos := pos, handed := handed }

section
variable {text : Array Nat} {lim s : Nat} {first : Bool} {seen : Seen}
theorem br_start : Gets 1 (St C2 text 10 lim s first seen) (Br text lim s first (seen.add 7) 11 12 s s) := .one rfl rfl
theorem br_next {pc pos h : Nat} : Gets 1 { Br text lim s first seen 11 pc pos h with answer := some false } (Br text lim s first seen 18 19 s s) := .one rfl rfl
theorem br_next2 {pc pos h : Nat} : Gets 1 { Br text lim s first seen 18 pc pos h with answer := some false } (Br text lim s first seen 23 24 s s) := .one rfl rfl
theorem br_end {bpc pos h : Nat} : ∃ m, Gets 4 (Br text lim s first seen bpc 35 pos h) m ∧ Found m s pos := by
  cases first <;> exact ⟨_, (((Gets.one rfl rfl).trans (.one rfl rfl)).trans (.one rfl rfl)).trans (.one rfl rfl), ⟨_, rfl, rfl⟩, rfl, rfl⟩
theorem br_lit {bpc pc pos h : Nat} (hpc : pc < 36) (hop : C2.getD pc 0 = 16) : Gets 1 (Br text lim s first seen bpc pc pos h) (if pos ≥ lim then { Br text lim s first (seen.add 16) bpc pc pos h with answer := some false } else
    if (text.getD pos 0 == C2.getD (pc + 1) 0) = true then Br text lim s first (seen.add 16) bpc (pc + 2) (pos + 1) h else { Br text lim s first (seen.add 16) bpc pc pos h with answer := some false }) :=
  .one rfl (lit_step (Br text lim s first seen bpc pc pos h) rfl rfl hpc hop)
theorem br_j16 {pos h : Nat} : Gets 1 (Br text lim s first seen 11 16 pos h) (Br text lim s first (seen.add 15) 11 35 pos h) := .one rfl rfl
theorem br_j21 {pos h : Nat} : Gets 1 (Br text lim s first seen 18 21 pos h) (Br text lim s first (seen.add 15) 18 35 pos h) := .one rfl rfl
theorem br_j32 {pos h : Nat} : Gets 1 (Br text lim s first seen 23 32 pos h) (Br text lim s first (seen.add 15) 23 35 pos h) := .one rfl rfl
noncomputable def Lk (text : Array Nat) (lim s : Nat) (first : Bool) (seen : Seen) (pos : Nat) : M :=
  { Br text lim s first seen 23 29 pos pos with frames := [{ wait := .lookNot, pc := 26, pos := pos, outermost := first }, { wait := .nextBranch, pc := 23, pos := s, outermost := first }, StF 10 s first], weight := 3, outermost := false }
theorem br_look {pos h : Nat} : Gets 1 (Br text lim s first seen 23 26 pos h) (Lk text lim s first (seen.add 5) pos) := .one rfl (by
  show (if pos < 0 then ({ Br text lim s first (seen.add 5) 23 26 pos h with pc := 32 } : M) else _) = _
  rw [if_neg (Nat.not_lt_zero _)]; rfl)
theorem lk_no {pos : Nat} : Gets 1 { Lk text lim s first seen pos with answer := some false } (Br text lim s first seen 23 32 pos pos) := .one rfl rfl
theorem lk_lit {pos : Nat} (hn : ¬ (pos < lim ∧ text.getD pos 0 = 10)) : Gets 1 (Lk text lim s first seen pos) { Lk text lim s first (seen.add 16) pos with answer := some false } := by
  have g : Gets 1 (Lk text lim s first seen pos) (if pos ≥ lim then { Lk text lim s first (seen.add 16) pos with answer := some false } else
    if (text.getD pos 0 == 10) = true then { Lk text lim s first (seen.add 16) pos with pc := 31, pos := pos + 1 } else { Lk text lim s first (seen.add 16) pos with answer := some false }) :=
    .one rfl (lit_step (Lk text lim s first seen pos) rfl rfl (by show 29 < 36; decide) rfl)
  by_cases h : pos ≥ lim
  · rw [if_pos h] at g; exact g
  · rw [if_neg h, if_neg (by
      show ¬ (text.getD pos 0 == 10) = true
      simp only [beq_iff_eq]; intro q; exact hn ⟨by omega, q⟩)] at g
    exact g

theorem c2_ten (hs : s < lim) (hc : text.getD s 0 = 10) : ∃ m, Gets 20 (St C2 text 10 lim s first seen) m ∧ Found m s (s + 1) := by
  have g1 := br_start (text := text) (lim := lim) (s := s) (first := first) (seen := seen)
  have g2 := br_lit (text := text) (lim := lim) (s := s) (first := first) (seen := seen.add 7) (bpc := 11) (pc := 12) (pos := s) (h := s) (by decide) rfl
  rw [if_neg (show ¬ s ≥ lim by omega), if_neg (by rw [hc]; decide)] at g2
  have g3 := br_lit (text := text) (lim := lim) (s := s) (first := first) (seen := (seen.add 7).add 16) (bpc := 18) (pc := 19) (pos := s) (h := s) (by decide) rfl
  rw [if_neg (show ¬ s ≥ lim by omega), if_pos (by rw [hc]; decide)] at g3
  obtain ⟨m, g4, f⟩ := br_end (text := text) (lim := lim) (s := s) (first := first) (seen := (((seen.add 7).add 16).add 16).add 15) (bpc := 18) (pos := s + 1) (h := s)
  exact ⟨m, (((((g1.trans g2).trans br_next).trans g3).trans br_j21).trans g4).le (by omega), f⟩
theorem c2_both (hs : s + 1 < lim) (hc : text.getD s 0 = 13) (hd : text.getD (s + 1) 0 = 10) : ∃ m, Gets 20 (St C2 text 10 lim s first seen) m ∧ Found m s (s + 2) := by
  have g1 := br_start (text := text) (lim := lim) (s := s) (first := first) (seen := seen)
  have g2 := br_lit (text := text) (lim := lim) (s := s) (first := first) (seen := seen.add 7) (bpc := 11) (pc := 12) (pos := s) (h := s) (by decide) rfl
  rw [if_neg (show ¬ s ≥ lim by omega), if_pos (by rw [hc]; decide)] at g2
  have g3 := br_lit (text := text) (lim := lim) (s := s) (first := first) (seen := (seen.add 7).add 16) (bpc := 11) (pc := 14) (pos := s + 1) (h := s) (by decide) rfl
  rw [if_neg (show ¬ s + 1 ≥ lim by omega), if_pos (by rw [hd]; decide)] at g3
  obtain ⟨m, g4, f⟩ := br_end (text := text) (lim := lim) (s := s) (first := first) (seen := (((seen.add 7).add 16).add 16).add 15) (bpc := 11) (pos := s + 2) (h := s)
  exact ⟨m, ((((g1.trans g2).trans g3).trans br_j16).trans g4).le (by omega), f⟩
theorem c2_lone (hs : s < lim) (hc : text.getD s 0 = 13) (hd : ¬ (s + 1 < lim ∧ text.getD (s + 1) 0 = 10)) : ∃ m, Gets 20 (St C2 text 10 lim s first seen) m ∧ Found m s (s + 1) := by
  have g1 := br_start (text := text) (lim := lim) (s := s) (first := first) (seen := seen)
  have g2 := br_lit (text := text) (lim := lim) (s := s) (first := first) (seen := seen.add 7) (bpc := 11) (pc := 12) (pos := s) (h := s) (by decide) rfl
  rw [if_neg (show ¬ s ≥ lim by omega), if_pos (by rw [hc]; decide)] at g2
  have g3 : Gets 1 (Br text lim s first ((seen.add 7).add 16) 11 14 (s + 1) s) { Br text lim s first (((seen.add 7).add 16).add 16) 11 14 (s + 1) s with answer := some false } := by
    have g3 := br_lit (text := text) (lim := lim) (s := s) (first := first) (seen := (seen.add 7).add 16) (bpc := 11) (pc := 14) (pos := s + 1) (h := s) (by decide) rfl
    by_cases h : s + 1 ≥ lim
    · rw [if_pos h] at g3; exact g3
    · rw [if_neg h, if_neg (by
        show ¬ (text.getD (s + 1) 0 == 10) = true
        simp only [beq_iff_eq]; intro q; exact hd ⟨by omega, q⟩)] at g3
      exact g3
  have g4 := br_lit (text := text) (lim := lim) (s := s) (first := first) (seen := (((seen.add 7).add 16).add 16)) (bpc := 18) (pc := 19) (pos := s) (h := s) (by decide) rfl
  rw [if_neg (show ¬ s ≥ lim by omega), if_neg (by rw [hc]; decide)] at g4
  have g5 := br_lit (text := text) (lim := lim) (s := s) (first := first) (seen := ((((seen.add 7).add 16).add 16).add 16)) (bpc := 23) (pc := 24) (pos := s) (h := s) (by decide) rfl
  rw [if_neg (show ¬ s ≥ lim by omega), if_pos (by rw [hc]; decide)] at g5
  obtain ⟨m, g6, f⟩ := br_end (text := text) (lim := lim) (s := s) (first := first) (seen := ((((((((seen.add 7).add 16).add 16).add 16).add 16).add 5).add 16).add 15)) (bpc := 23) (pos := s + 1) (h := s + 1)
  exact ⟨m, ((((((((((g1.trans g2).trans g3).trans br_next).trans g4).trans br_next2).trans g5).trans br_look).trans (lk_lit hd)).trans lk_no).trans br_j32 |>.trans g6).le (by omega), f⟩

noncomputable def isEol (c : Nat) : Bool := c == 10 || c == 13
theorem set2 (c : Nat) (seen : Seen) : inSet C2 c 36 5 true seen = .ok (isEol c, if (c == 10) = true then seen.add 16 else if (c == 13) = true then (seen.add 16).add 16 else ((seen.add 16).add 16).add 0) := by
  show (if (c == 10) = true then _ else (if (c == 13) = true then _ else _)) = _
  unfold isEol
  cases h1 : (c == 10)
  · cases h2 : (c == 13) <;> rfl
  · rfl
theorem admitted2 {m : M} (hc : m.code = C2) : ∀ (fuel s : Nat) (seen : Seen), m.lim - s < fuel →
    (∃ p seen', M.admitted m fuel s seen = .ok (some p, seen') ∧ s ≤ p ∧ p < m.lim ∧ isEol (m.text.getD p 0) = true ∧ ∀ q, s ≤ q → q < p → isEol (m.text.getD q 0) = false) ∨
    (∃ seen', M.admitted m fuel s seen = .ok (none, seen') ∧ ∀ q, s ≤ q → q < m.lim → isEol (m.text.getD q 0) = false) := by
  intro fuel
  induction fuel with
  | zero => intro s seen h; omega
  | succ fuel ih =>
    intro s seen h
    unfold M.admitted
    by_cases hs : s ≥ m.lim
    · rw [if_pos hs]
      exact .inr ⟨seen, rfl, fun q a b => by omega⟩
    · rw [if_neg hs]
      have e : inSet m.code (m.text.getD s 0) m.code.size 5 true seen = .ok (isEol (m.text.getD s 0), if ((m.text.getD s 0) == 10) = true then seen.add 16 else if ((m.text.getD s 0) == 13) = true then (seen.add 16).add 16 else ((seen.add 16).add 16).add 0) := by
        rw [hc]; exact set2 _ _
      rw [e]
      cases hb : isEol (m.text.getD s 0) with
      | true => exact .inl ⟨s, _, rfl, Nat.le_refl _, by omega, hb, fun q a b => by omega⟩
      | false =>
        rcases ih (s + 1) (if ((m.text.getD s 0) == 10) = true then seen.add 16 else if ((m.text.getD s 0) == 13) = true then (seen.add 16).add 16 else ((seen.add 16).add 16).add 0) (by omega) with ⟨p, sn, a1, a2, a3, a4, a5⟩ | ⟨sn, a1, a2⟩
        · exact .inl ⟨p, sn, a1, by omega, a3, a4, fun q b c => by
            by_cases hq : q = s
            · subst hq; exact hb
            · exact a5 q (by omega) c⟩
        · exact .inr ⟨sn, a1, fun q b c => by
            by_cases hq : q = s
            · subst hq; exact hb
            · exact a2 q (by omega) c⟩
noncomputable def eolEnd (text : Array Nat) (lim p : Nat) : Nat := if text.getD p 0 = 13 ∧ p + 1 < lim ∧ text.getD (p + 1) 0 = 10 then p + 2 else p + 1

theorem c2_from (h : s ≤ lim) :
    (∃ p m, s ≤ p ∧ p < lim ∧ isEol (text.getD p 0) = true ∧ (∀ q, s ≤ q → q < p → isEol (text.getD q 0) = false) ∧ Gets 20 (forSearch C2 text 0 s lim false) m ∧ Found m p (eolEnd text lim p)) ∨
    ((∀ q, s ≤ q → q < lim → isEol (text.getD q 0) = false) ∧ ∃ m, Gets 20 (forSearch C2 text 0 s lim false) m ∧ Lost m) := by
  have lost : ∀ {m0 : M}, m0.frames = [] → m0.outcome = none → ∃ m, Gets 20 (M.say m0 false) m ∧ Lost m := fun {m0} h2 h3 => by
    refine ⟨_, (Gets.one (m := M.say m0 false) h3 rfl).le (by omega), ?_⟩
    cases m0
    dsimp only at h2 h3
    subst h2 h3
    exact ⟨_, rfl, rfl⟩
  by_cases hl : s < lim
  · have hm : ∃ m0 : M, m0.code = C2 ∧ m0.text = text ∧ m0.lim = lim ∧ m0.frames = [] ∧ m0.outcome = none ∧ (∀ r, M.admitted m0 (lim + 1 - s) s m0.seen = .ok (none, r) → ∃ m1, forSearch C2 text 0 s lim false = M.say m1 false ∧ m1.frames = [] ∧ m1.outcome = none) ∧
        (∀ p r, M.admitted m0 (lim + 1 - s) s m0.seen = .ok (some p, r) → forSearch C2 text 0 s lim false = St C2 text 10 lim p true r) := by
      refine ⟨({ code := C2, text, lim, start := s, pc := 10, pos := s, handed := s, marks := #[], seen := ({} : Seen).add 14, lastStart := lim } : M), rfl, rfl, rfl, rfl, rfl, fun r e => ?_, fun p r e => ?_⟩
      · refine ⟨{ code := C2, text, lim, start := s, pc := 10, pos := s, handed := s, marks := #[], seen := r, lastStart := lim }, ?_, rfl, rfl⟩
        show (if (decide (s > lim) || decide (lim - s < 1)) = true then _ else _) = _
        rw [if_neg (by simp; omega)]
        show (match M.admitted { code := C2, text, lim, start := s, pc := 10, pos := s, handed := s, marks := #[], seen := ({} : Seen).add 14, lastStart := lim } (lim + 1 - s) s (({} : Seen).add 14) with | .ok (some s, seen) => _ | .ok (none, seen) => _ | .error why => _) = _
        rw [e]
        rfl
      · show (if (decide (s > lim) || decide (lim - s < 1)) = true then _ else _) = _
        rw [if_neg (by simp; omega)]
        show (match M.admitted { code := C2, text, lim, start := s, pc := 10, pos := s, handed := s, marks := #[], seen := ({} : Seen).add 14, lastStart := lim } (lim + 1 - s) s (({} : Seen).add 14) with | .ok (some s, seen) => _ | .ok (none, seen) => _ | .error why => _) = _
        rw [e]
        rfl
    obtain ⟨m0, c1, c2, c3, c4, c5, hn, hp⟩ := hm
    rcases admitted2 c1 (lim + 1 - s) s m0.seen (by rw [c3]; omega) with ⟨p, r, e, a1, a2, a3, a4⟩ | ⟨r, e, a1⟩
    · rw [c3] at a2
      rw [c2] at a3 a4
      rw [hp p r e]
      refine .inl ⟨p, ?_⟩
      have : ∃ m, Gets 20 (St C2 text 10 lim p true r) m ∧ Found m p (eolEnd text lim p) := by
        unfold eolEnd
        unfold isEol at a3
        simp only [Bool.or_eq_true, beq_iff_eq] at a3
        rcases a3 with q | q
        · rw [if_neg (fun h => by rw [q] at h; omega)]
          exact c2_ten a2 q
        · by_cases hd : p + 1 < lim ∧ text.getD (p + 1) 0 = 10
          · rw [if_pos ⟨q, hd⟩]; exact c2_both hd.1 q hd.2
          · rw [if_neg (fun h => hd h.2)]; exact c2_lone a2 q hd
      obtain ⟨m, g, f⟩ := this
      exact ⟨m, a1, a2, a3, a4, g, f⟩
    · rw [c3, c2] at a1
      obtain ⟨m1, e1, e2, e3⟩ := hn r e
      rw [e1]
      exact .inr ⟨a1, lost e2 e3⟩
  · refine .inr ⟨fun q h1 h2 => by omega, ?_⟩
    obtain ⟨m0, e, h2, h3⟩ : ∃ m0, forSearch C2 text 0 s lim false = M.say m0 false ∧ m0.frames = [] ∧ m0.outcome = none := ⟨_, by
      show (if (decide (s > lim) || decide (lim - s < 1)) = true then _ else _) = _
      rw [if_pos (by have : s = lim := by omega
                     subst this; simp)], rfl, rfl⟩
    rw [e]
    exact lost h2 h3
end
end Mine
end
section
set_option maxRecDepth 100000
set_option maxHeartbeats 2000000
set_option linter.unusedVariables false
namespace Mine
open PySem PySem.Calls PyProof.Rows PySem.W PySem.SeqAt

theorem drop_at {l : List Nat} {s : Nat} (h : s < l.length) : l.drop s = l.getD s 0 :: l.drop (s + 1) := by
  rw [List.drop_eq_getElem_cons h, List.getD_eq_getElem?_getD, List.getElem?_eq_getElem h]; rfl
theorem arr_getD (l : List Nat) (q : Nat) : l.toArray.getD q 0 = l.getD q 0 := by simp [Array.getD_eq_getD_getElem?, List.getD_eq_getElem?_getD]

theorem beqN (a b : Nat) : (a == b) = Nat.beq a b := by
  cases h : Nat.beq a b with
  | true => rw [Nat.eq_of_beq_eq_true h]; simp
  | false => simpa using Nat.ne_of_beq_eq_false h
theorem dotify_yes {r : List Nat} : dotify true (46 :: r) = 46 :: 46 :: dotify false r := by rw [dotify.eq_def]
theorem dotify_off {r : List Nat} : dotify false (46 :: r) = 46 :: dotify false r := by rw [dotify.eq_def]
theorem dotify_no {b : Bool} {c : Nat} {r : List Nat} (h : Nat.beq c 46 = false) : dotify b (c :: r) = c :: dotify (Nat.beq c 10) r := by
  rw [dotify.eq_def]; simp only [h]

theorem bol_succ (l : List Nat) (s : Nat) : bol l.toArray (s + 1) = Nat.beq (l.getD s 0) 10 := by
  unfold bol
  rw [show s + 1 - 1 = s from rfl, arr_getD]
  have : (s + 1 == 0) = false := rfl
  rw [this, Bool.false_or, beqN]
theorem dot_one {l : List Nat} {s : Nat} (h : s < l.length) (hn : ¬ (bol l.toArray s = true ∧ l.toArray.getD s 0 = 46)) : dotify (bol l.toArray s) (l.drop s) = l.getD s 0 :: dotify (bol l.toArray (s + 1)) (l.drop (s + 1)) := by
  rw [arr_getD] at hn
  rw [drop_at h, bol_succ]
  generalize l.getD s 0 = c at hn ⊢
  cases hc : Nat.beq c 46 with
  | true =>
    have hc : c = 46 := Nat.eq_of_beq_eq_true hc
    subst hc
    cases hb : bol l.toArray s with
    | true => exact absurd ⟨hb, rfl⟩ hn
    | false => exact dotify_off
  | false => exact dotify_no hc
theorem dot_skip {l : List Nat} : ∀ (k s : Nat), s + k ≤ l.length → (∀ q, s ≤ q → q < s + k → ¬ (bol l.toArray q = true ∧ l.toArray.getD q 0 = 46)) →
    dotify (bol l.toArray s) (l.drop s) = (l.drop s).take k ++ dotify (bol l.toArray (s + k)) (l.drop (s + k)) := by
  intro k
  induction k with
  | zero => intro s _ _; simp
  | succ k ih =>
    intro s hs hn
    rw [dot_one (by omega) (hn s (Nat.le_refl _) (by omega)), ih (s + 1) (by omega) (fun q a b => hn q (by omega) (by omega))]
    conv => rhs; rw [drop_at (by omega : s < l.length)]
    simp only [List.take_succ_cons, List.cons_append]
    rw [show s + 1 + k = s + (k + 1) from by omega]
theorem dot_hit {l : List Nat} {p : Nat} (h : p < l.length) (hb : bol l.toArray p = true) (hc : l.toArray.getD p 0 = 46) : dotify (bol l.toArray p) (l.drop p) = 46 :: 46 :: dotify (bol l.toArray (p + 1)) (l.drop (p + 1)) := by
  rw [arr_getD] at hc
  rw [drop_at h, bol_succ, hc, hb]
  exact dotify_yes
theorem eol_one {c : Nat} {r : List Nat} (hn : isEol c = false) : fixEols (c :: r) = c :: fixEols r := by
  unfold isEol at hn
  rw [beqN, beqN, Bool.or_eq_false_iff] at hn
  obtain ⟨h1, h2⟩ := hn
  have h1 : Nat.beq c 10 = false := h1
  have h2 : Nat.beq c 13 = false := h2
  rw [fixEols.eq_def]
  simp only [h1, h2]
theorem eol_skip {l : List Nat} : ∀ (k s : Nat), s + k ≤ l.length → (∀ q, s ≤ q → q < s + k → isEol (l.toArray.getD q 0) = false) → fixEols (l.drop s) = (l.drop s).take k ++ fixEols (l.drop (s + k)) := by
  intro k
  induction k with
  | zero => intro s _ _; simp
  | succ k ih =>
    intro s hs hn
    have h0 := hn s (Nat.le_refl _) (by omega)
    rw [arr_getD] at h0
    rw [drop_at (by omega : s < l.length), eol_one h0, ih (s + 1) (by omega) (fun q a b => hn q (by omega) (by omega))]
    simp only [List.take_succ_cons, List.cons_append]
    rw [show s + 1 + k = s + (k + 1) from by omega]
theorem eol_hit {l : List Nat} {p : Nat} (h : p < l.length) (hc : isEol (l.toArray.getD p 0) = true) : fixEols (l.drop p) = 13 :: 10 :: fixEols (l.drop (eolEnd l.toArray l.length p)) := by
  unfold eolEnd
  rw [arr_getD] at hc ⊢
  rw [arr_getD, drop_at h]
  generalize hg : l.getD p 0 = c at hc ⊢
  unfold isEol at hc
  rw [beqN, beqN] at hc
  by_cases h13 : c = 13
  · subst h13
    by_cases hl : p + 1 < l.length
    · by_cases h10 : l.getD (p + 1) 0 = 10
      · rw [if_pos ⟨rfl, hl, h10⟩, drop_at hl, h10]; rfl
      · rw [if_neg (fun q => h10 q.2.2), drop_at hl]
        have : Nat.beq (l.getD (p + 1) 0) 10 = false := by
          cases q : Nat.beq (l.getD (p + 1) 0) 10 with
          | true => exact absurd (Nat.eq_of_beq_eq_true q) h10
          | false => rfl
        conv => lhs; rw [fixEols.eq_def]
        simp only [this]
    · rw [if_neg (fun q => hl q.2.1)]
      have : l.drop (p + 1) = [] := List.drop_eq_nil_of_le (by omega)
      rw [this]; rfl
  · have : c = 10 := by
      rw [Bool.or_eq_true] at hc
      rcases hc with q | q
      · exact Nat.eq_of_beq_eq_true q
      · exact absurd (Nat.eq_of_beq_eq_true q) h13
    subst this
    rw [if_neg (fun q => by omega)]
    conv => lhs; rw [fixEols.eq_def]
end Mine
end
section
set_option maxRecDepth 100000
set_option maxHeartbeats 2000000
set_option linter.unusedVariables false
namespace Mine
open PySem PySem.Calls PyProof.Rows PySem.W PySem.SeqAt

section
variable {cx : Cx}
theorem sign_at (t : List Nat) (q : Nat) : (t.map cx.sign).toArray.getD q 0 = cx.sign (t.toArray.getD q 0) := by
  rw [arr_getD, arr_getD, List.getD_eq_getElem?_getD, List.getD_eq_getElem?_getD, List.getElem?_map]
  cases t[q]? with
  | none => show 0 = cx.sign 0; unfold Cx.sign; rw [if_neg (by decide)]
  | some c => rfl
theorem sign_iff {k : Nat} (hk : k ≠ SYM) (hc : cx.ch ≠ k) (c : Nat) : cx.sign c = k ↔ c = k := by
  unfold Cx.sign
  by_cases h : c = SYM
  · rw [if_pos h]
    exact ⟨fun q => absurd q hc, fun q => absurd (q.symm.trans h) hk⟩
  · rw [if_neg h]
theorem signB {k : Nat} (hk : k ≠ SYM) (hc : cx.ch ≠ k) (c : Nat) : (cx.sign c == k) = (c == k) := by
  rw [Bool.eq_iff_iff, beq_iff_eq, beq_iff_eq]; exact sign_iff hk hc c
theorem bol_sign (C : CxS cx) (t : List Nat) (s : Nat) : bol (t.map cx.sign).toArray s = bol t.toArray s := by
  unfold bol
  rw [sign_at, signB (by decide) C.c10]
theorem eol_sign (C : CxS cx) (c : Nat) : isEol (cx.sign c) = isEol c := by
  unfold isEol
  rw [signB (by decide) C.c10, signB (by decide) C.c13]
theorem end_sign (C : CxS cx) (t : List Nat) (n p : Nat) : eolEnd (t.map cx.sign).toArray n p = eolEnd t.toArray n p := by
  unfold eolEnd
  rw [sign_at, sign_at]
  have h1 := sign_iff (cx := cx) (k := 13) (by decide) C.c13 (t.toArray.getD p 0)
  have h2 := sign_iff (cx := cx) (k := 10) (by decide) C.c10 (t.toArray.getD (p + 1) 0)
  simp only [h1, h2]

noncomputable def PatSpec (cx : Cx) (code : Array Nat) (rep : List Nat) (G : List Nat → Nat → List Nat) : Prop := ∀ (t : List Nat) (s : Nat), s ≤ t.length →
  (∃ p e m, s ≤ p ∧ p < e ∧ e ≤ t.length ∧ Gets (8 * (t.length + 1) + 20) (Sre.forSearch code (t.map cx.sign).toArray 0 s t.length false) m ∧ Found m p e ∧ G t s = (t.drop s).take (p - s) ++ (rep ++ G t e)) ∨
  (∃ m, Gets (8 * (t.length + 1) + 20) (Sre.forSearch code (t.map cx.sign).toArray 0 s t.length false) m ∧ Lost m ∧ G t s = t.drop s)
noncomputable def GDot (t : List Nat) (s : Nat) : List Nat := dotify (bol t.toArray s) (t.drop s)
noncomputable def GEol (t : List Nat) (s : Nat) : List Nat := fixEols (t.drop s)

theorem spec1 (C : CxS cx) : PatSpec cx C1 [46, 46] GDot := fun t s hs => by
  have i46 : ∀ q, (t.map cx.sign).toArray.getD q 0 = 46 ↔ t.toArray.getD q 0 = 46 := fun q => by rw [sign_at]; exact sign_iff (by decide) C.c46 _
  rcases c1_from (text := (t.map cx.sign).toArray) (lim := t.length) hs with ⟨p, m, a1, a2, a3, a4, a5, a6, a7⟩ | ⟨a1, m, a2, a3⟩
  · rw [bol_sign C] at a3
    rw [i46] at a4
    refine .inl ⟨p, p + 1, m, a1, by omega, by omega, a6.le (by omega), a7, ?_⟩
    have h1 := dot_skip (l := t) (p - s) s (by omega) (fun q b c => by
      have := a5 q b (by omega)
      rw [bol_sign C, i46] at this; exact this)
    rw [show s + (p - s) = p from by omega] at h1
    show dotify _ _ = _
    rw [h1, dot_hit a2 a3 a4]; rfl
  · refine .inr ⟨m, a2.le (by omega), a3, ?_⟩
    have h1 := dot_skip (l := t) (t.length - s) s (by omega) (fun q b c => by
      have := a1 q b (by omega)
      rw [bol_sign C, i46] at this; exact this)
    show dotify _ _ = _
    rw [h1, show s + (t.length - s) = t.length from by omega, List.drop_length, List.take_of_length_le (by simp)]
    simp [dotify]
theorem spec2 (C : CxS cx) : PatSpec cx C2 [13, 10] GEol := fun t s hs => by
  have ie : ∀ q, isEol ((t.map cx.sign).toArray.getD q 0) = isEol (t.toArray.getD q 0) := fun q => by rw [sign_at]; exact eol_sign C _
  rcases c2_from (text := (t.map cx.sign).toArray) (lim := t.length) hs with ⟨p, m, a1, a2, a3, a5, a6, a7⟩ | ⟨a1, m, a2, a3⟩
  · rw [ie] at a3
    rw [end_sign C] at a7
    have he : p < eolEnd t.toArray t.length p ∧ eolEnd t.toArray t.length p ≤ t.length := by
      unfold eolEnd
      split
      · rename_i q; have := q.2.1; omega
      · omega
    refine .inl ⟨p, _, m, a1, he.1, he.2, a6.le (by omega), a7, ?_⟩
    have h1 := eol_skip (l := t) (p - s) s (by omega) (fun q b c => by
      have := a5 q b (by omega)
      rw [ie] at this; exact this)
    rw [show s + (p - s) = p from by omega] at h1
    show fixEols _ = _
    rw [h1, eol_hit a2 a3]; rfl
  · refine .inr ⟨m, a2.le (by omega), a3, ?_⟩
    have h1 := eol_skip (l := t) (t.length - s) s (by omega) (fun q b c => by
      have := a1 q b (by omega)
      rw [ie] at this; exact this)
    show fixEols _ = _
    rw [h1, show s + (t.length - s) = t.length from by omega, List.drop_length, List.take_of_length_le (by simp)]
    simp [fixEols]
end
section
variable {prog : Program} {w : World} {M : Model} {A : Around} {E : Value → Shared → Prop} {s : Shared}

theorem stop_runFor : ∀ (n : Nat) (m : Sre.M), m.outcome.isSome = true → m.runFor n = m := fun n m h => by
  cases n with
  | zero => rfl
  | succ n => unfold Sre.M.runFor; rw [if_pos h]
theorem drive_ok {Q : Sre.M → Shared → Prop} {fin : Sre.M} (hf : fin.outcome.isSome = true) (hQ : Q fin s) : ∀ (n turns : Nat) (m : Sre.M), Gets n m fin → n < turns → wpAny M A (Builtin.Re.reDrive turns m) Q E s := by
  intro n
  induction n using Nat.strongRecOn with
  | ind n ih =>
    intro turns m hg ht
    cases turns with
    | zero => omega
    | succ turns =>
      obtain ⟨k, hk, e⟩ := hg
      unfold Builtin.Re.reDrive
      show wpAny M A (if (m.runFor 4).outcome.isSome then pure (m.runFor 4) else do rule "sre.turn"; Builtin.Re.reDrive turns (m.runFor 4)) Q E s
      by_cases h : k ≤ 4
      · have e4 : m.runFor 4 = fin := by
          rw [show 4 = k + (4 - k) from (Nat.add_sub_of_le h).symm, runFor_add, e, stop_runFor _ _ hf]
        rw [e4, if_pos hf]
        exact wpAny_pure hQ
      · have e4 : (m.runFor 4).runFor (k - 4) = fin := by rw [← runFor_add, Nat.add_sub_of_le (Nat.le_of_not_le h), e]
        split
        · rename_i h4
          rw [stop_runFor _ _ h4] at e4
          rw [e4]; exact wpAny_pure hQ
        · exact wpAny_bind (wpAny_rule (have p := Nat.sub_lt (Nat.lt_of_lt_of_le (Nat.lt_of_le_of_lt (Nat.zero_le 4) (Nat.lt_of_not_le h)) hk) (Nat.succ_pos 3); ih (n - 4) p turns _ ⟨k - 4, Nat.sub_le_sub_right hk 4, e4⟩ (Nat.lt_of_lt_of_le p (Nat.le_of_lt_succ ht))))
theorem rules_ok {m : Sre.M} {Q : PUnit → Shared → Prop} : ∀ (l : List Nat), Q ⟨⟩ s → wpAny M A (forIn l PUnit.unit fun i (r : PUnit) => (if m.seen.has i = true then (do rule (Sre.names.getD i ""); pure (ForInStep.yield PUnit.unit)) else pure (ForInStep.yield PUnit.unit) : Sem (ForInStep PUnit))) Q E s
  | [], h => wpAny_pure h
  | i :: l, h => by
    rw [List.forIn_cons]
    split
    · exact wpAny_bind (wpAny_bind (wpAny_rule (wpAny_pure (rules_ok l h))))
    · exact wpAny_bind (wpAny_pure (rules_ok l h))
theorem runToEnd_found {m fin : Sre.M} {a b n : Nat} {Q : Option Sre.M → Shared → Prop} (hg : Gets n m fin) (hn : n < 2 ^ 64) (hf : Found fin a b) (hQ : Q (some fin) s) : wpAny M A (Builtin.Re.reRunToEnd m) Q E s := by
  obtain ⟨⟨x, ho, rfl⟩, _⟩ := hf
  unfold Builtin.Re.reRunToEnd
  refine wpAny_bind (drive_ok (by rw [ho]; rfl) ?_ n _ m hg hn)
  refine wpAny_bind (rules_ok _ ?_)
  rw [ho]
  exact wpAny_pure hQ
theorem runToEnd_lost {m fin : Sre.M} {n : Nat} {Q : Option Sre.M → Shared → Prop} (hg : Gets n m fin) (hn : n < 2 ^ 64) (hf : Lost fin) (hQ : Q none s) : wpAny M A (Builtin.Re.reRunToEnd m) Q E s := by
  obtain ⟨x, ho, rfl⟩ := hf
  unfold Builtin.Re.reRunToEnd
  refine wpAny_bind (drive_ok (by rw [ho]; rfl) ?_ n _ m hg hn)
  refine wpAny_bind (rules_ok _ ?_)
  rw [ho]
  exact wpAny_pure hQ
end
end Mine
end
section
set_option maxRecDepth 100000
set_option maxHeartbeats 2000000
set_option linter.unusedVariables false
namespace Mine
open PySem PySem.Calls PyProof.Rows PySem.W PySem.SeqAt

theorem plain_sub_loop : plainId "re.Pattern.sub.loop" = true := by decide +kernel
theorem args_pat_sub (a b c : Value) : argsOk "re.Pattern.sub" ⟨[a, b, c], []⟩ := by unfold argsOk; kernel_rfl
theorem str_no_call : typeLookup (.type "str") "__call__" = pure none := by rw [typeLookup_type, builtinLookup_eq_fast]; kernel_rfl

noncomputable def PatObj (h : Heap) (a : Addr) (code : Array Nat) : Prop := ∃ o vs c oc cs n u2 u6, h.get? a = some o ∧ o.data = .fields vs ∧ vs[5]? = some (.ref c) ∧ vs[2]? = some (.int 0 u2) ∧ vs[6]? = some (.int 0 u6) ∧ h.get? c = some oc ∧ oc.data = .seq cs n ∧ (cs.map Builtin.Re.reRawOf).map (·.toNat) = code
theorem PatObj.keeps {h h' : Heap} {a : Addr} {code : Array Nat} (x : PatObj h a code) (k : ∀ b o, h.get? b = some o → h'.get? b = some o) : PatObj h' a code :=
  let ⟨o, vs, c, oc, cs, n, u2, u6, h1, h2, h3, h4, h5, h6, r⟩ := x; ⟨o, vs, c, oc, cs, n, u2, u6, k _ _ h1, h2, h3, h4, h5, k _ _ h6, r⟩

section
variable {prog : Program} {w : World} {M : Model} {A : Around} {E : Value → Shared → Prop} {s : Shared}

theorem whole_ok {a : Addr} {code : Array Nat} {tx : Str} {t2 : Tok} {Q : Builtin.Re.ReTarget → Shared → Prop} (x : PatObj s.heap a code)
    (hQ : Q { pattern := .ref a, string := .str tx t2, code, text := tx.cps, kind := 0, groups := 0, pos := 0, lim := tx.cps.size } s) : wpAny M A (Builtin.Re.reWholeTarget (.ref a) (.str tx t2)) Q E s := by
  obtain ⟨o, vs, c, oc, cs, n, u2, u6, h1, h2, h3, h4, h5, h6, h7, h8⟩ := x
  have g5 : vs.getD 5 .none = .ref c := by rw [Array.getD_eq_getD_getElem?, h3]; rfl
  have g2 : vs.getD 2 .none = .int 0 u2 := by rw [Array.getD_eq_getD_getElem?, h4]; rfl
  have g6 : vs.getD 6 .none = .int 0 u6 := by rw [Array.getD_eq_getD_getElem?, h5]; rfl
  unfold Builtin.Re.reWholeTarget
  refine wpAny_bind (wpAny_fieldsOf h1 h2 ?_)
  refine wpAny_bind (m := Builtin.Re.reTextOf _) (wpAny_of_eq (show Builtin.Re.reTextOf (.str tx t2) = pure (tx.cps, 0) from rfl) ?_)
  simp only [g6, g2, g5]
  show wpAny M A (do
    Builtin.Re.reNoCollectionInside (.str tx t2) 0
    let items ← Builtin.Re.reRawItems (.ref c)
    pure _) Q E s
  refine wpAny_bind (m := Builtin.Re.reNoCollectionInside _ 0) (wpAny_pure ?_)
  refine wpAny_bind (wpAny_bind (wpAny_seqItems h6 h7 (wpAny_pure ?_)))
  refine wpAny_pure ?_
  show Q { pattern := .ref a, string := .str tx t2, code := (cs.map Builtin.Re.reRawOf).map (·.toNat), text := tx.cps, kind := 0, groups := 0, pos := 0, lim := tx.cps.size } s
  rw [h8]; exact hQ

noncomputable def pieceV (cx : Cx) (ps : List (List Nat × Tok)) : List Value := ps.map fun p => .str (cx.strOf p.1) p.2
noncomputable def cat (ps : List (List Nat × Tok)) : List Nat := (ps.map (·.1)).flatten
theorem pieceV_vr {cx : Cx} {h : Heap} {g : Gh} : ∀ ps : List (List Nat × Tok), VRs cx h g (ps.map fun p => .str p.1) (pieceV cx ps)
  | [] => .nil
  | p :: ps => .cons (.str p.1 p.2) (pieceV_vr ps)
theorem joinS_nil : ∀ ps : List (List Nat × Tok), joinS [] (ps.map fun p => V.str p.1) = some (cat ps)
  | [] => rfl
  | [p] => by simp [joinS, strO, cat]
  | p :: q :: ps => by
    have := joinS_nil (q :: ps)
    simp only [List.map_cons] at this ⊢
    unfold joinS
    show (Option.bind _ _) = _
    rw [this]
    simp [strO, cat]
theorem slice_eq (cx : Cx) (t : List Nat) (a b : Nat) : (⟨(t.map cx.sign).toArray.extract a b⟩ : Str) = cx.strOf ((t.drop a).take (b - a)) := by
  unfold Cx.strOf
  rw [List.extract_toArray, List.extract_eq_take_drop, List.map_take, List.map_drop]

theorem loop_ok {cx : Cx} {σ : Sto} {g : Gh} {code : Array Nat} {rep : List Nat} {G : List Nat → Nat → List Nat} (hspec : PatSpec cx code rep G) {t : List Nat} (hlen : t.length ≤ 400) (hrep : rep.length ≤ 10) {s0 : Shared} {a P : Addr} {t1 t2 : Tok} (hw : W cx σ g s0.heap s0.toks)
    (hp : PatObj s0.heap a code) (hP : s0.heap.get? P = none) {R : Result → Shared → Prop} : ∀ (k : Nat) (s : Shared) (st : Nat) (ps : List (List Nat × Tok)) (c : Nat) (n : Int), t.length - st < k → st ≤ t.length → ps.length ≤ 2 * st → (cat ps).length ≤ 20 * st →
    s.heap.get? P = some { cls := .type "list", dict := none, data := .seq (pieceV cx ps).toArray c } → (∀ b o, s0.heap.get? b = some o → s.heap.get? b = some o) → s0.toks ≤ s.toks →
    (∀ h' tk u, (∀ b o, s0.heap.get? b = some o → h'.get? b = some o) → R (.ok (.ret (.str (cx.strOf (cat ps ++ G t st)) u))) { s with heap := h', toks := tk }) →
    codeAny (model prog w) A (.builtin "re.Pattern.sub.loop" ⟨[.ref a, .str (cx.strOf t) t2, .str (cx.strOf rep) t1, .int 0 0, .int 0 0, .int n 0, .int st 0, .int st 0, .bool false, .ref P, .bool false], []⟩) R s := by
  have nP : ∀ b o, s0.heap.get? b = some o → b ≠ P := fun b o e q => by rw [q, hP] at e; cases e
  have hG : (G t 0 : List Nat) = G t 0 := rfl
  intro k
  induction k with
  | zero =>
    intro s st ps c n hk
    omega
  | succ k ih =>
    intro s st ps c n hk hst hps hcat hPo hkeep htk hR
    refine codeAny_builtin entry_pat_sub_loop ?_
    rw [Around.under_plainId plain_sub_loop _]
    show wpAny _ A.in1 (Builtin.Re.reWholeTarget (.ref a) (.str (cx.strOf t) t2) >>= _) _ _ s
    refine wpAny_bind (whole_ok (hp.keeps hkeep) ?_)
    show wpAny _ A.in1 (Builtin.Re.reLiteralCannotBeTurned (.str (cx.strOf rep) t1) >>= _) _ _ s
    refine wpAny_bind (wpAny_bind (m := asStr? _) (wpAny_pure (wpAny_pure ?_)))
    have hsize : (cx.strOf t).cps.size = t.length := by simp [Cx.strOf]
    show wpAny _ A.in1 (Builtin.Re.reRunToEnd (Sre.forSearch code (cx.strOf t).cps 0 ((st : Int).toNat) (cx.strOf t).cps.size false) >>= _) _ _ s
    rw [hsize, Int.toNat_natCast]
    rcases hspec t st hst with ⟨p, e, m, a1, a2, a3, a4, a5, a6⟩ | ⟨m, a4, a5, a6⟩
    · refine wpAny_bind (runToEnd_found a4 (by omega) a5 ?_)
      obtain ⟨_, ms, mh⟩ := a5
      have hl1 : ((t.drop st).take (p - st)).length = p - st := by simp; omega
      -- what follows once the text between is laid
      have rest : ∀ (s1 : Shared) (ps1 : List (List Nat × Tok)) (c1 : Nat), ps1.length ≤ 2 * st + 1 → cat ps1 = cat ps ++ (t.drop st).take (p - st) → s1.heap.get? P = some { cls := .type "list", dict := none, data := .seq (pieceV cx ps1).toArray c1 } →
          (∀ b o, s0.heap.get? b = some o → s1.heap.get? b = some o) → s0.toks ≤ s1.toks → (∃ h' tk, s1 = { s with heap := h', toks := tk }) →
          wpAny (model prog w) A.in1 (do
            let item ← (pure (.str (cx.strOf rep) t1) : Sem Value)
            if item != .none then updateSeq P (·.push item)
            again (.builtin "re.Pattern.sub.loop" ⟨[.ref a, .str (cx.strOf t) t2, .str (cx.strOf rep) t1, rawInt 0, rawInt 0, rawInt (n + 1), rawInt m.handed, rawInt m.handed, .bool (m.handed == m.start), .ref P, .bool false], []⟩))
          (fun fin s' => match fin with
            | .done f => R (.ok f) s'
            | .again c' => c'.quiet = true ∧ codeAny (model prog w) A c' R s') (fun e s' => R (.error e) s') s1 := by
        intro s1 ps1 c1 b1 b2 b3 b4 b5 b6
        refine wpAny_bind (wpAny_pure ?_)
        show wpAny _ A.in1 (updateSeq P (·.push (.str (cx.strOf rep) t1)) >>= _) _ _ s1
        refine wpAny_bind (wpAny_updateSeq b3 rfl ?_ (by simp [pieceV]; exact fits (by omega)) (by simp [pieceV]; have := fits (n := ps1.length) (by omega); omega))
        refine wpAny_pure ⟨plainId_quiet plain_sub_loop _, ?_⟩
        rw [mh, ms]
        have hne : ((e == p) : Bool) = false := by simp; omega
        rw [hne]
        obtain ⟨h1, k1, rfl⟩ := b6
        refine ih { s with heap := h1.update P (Obj.mapSeq (·.push (.str (cx.strOf rep) t1))), toks := k1 } e (ps1 ++ [(rep, t1)]) _ (n + 1) (by omega) a3 (by simp; omega) ?_ (by
          rw [Heap.get?_update_self _ b3 rfl]
          simp [Obj.mapSeq, pieceV]; rfl) (fun b o q => (Heap.get?_update_other _ _ (Ne.symm (nP b o q))).trans (b4 b o q)) b5 fun h' tk u hk' => ?_
        · have : (cat (ps1 ++ [(rep, t1)])).length = (cat ps1).length + rep.length := by simp [cat]
          rw [this, b2, List.length_append, hl1]; omega
        · have : cat (ps1 ++ [(rep, t1)]) ++ G t e = cat ps ++ G t st := by
            rw [a6]
            have : cat (ps1 ++ [(rep, t1)]) = cat ps1 ++ rep := by simp [cat]
            rw [this, b2]; simp
          rw [this]
          exact hR h' tk u hk'
      show wpAny _ A.in1 (if st < m.start then (do
          let x ← (mkStr ⟨(cx.strOf t).cps.extract st m.start⟩ : Sem Value)
          let r ← updateSeq P (·.push x)
          _) else _) _ _ s
      by_cases hlt : st < p
      · rw [ms, if_pos hlt]
        have hsl : (⟨(cx.strOf t).cps.extract st p⟩ : Str) = cx.strOf ((t.drop st).take (p - st)) := slice_eq cx t st p
        rw [hsl]
        refine wpAny_bind (wpAny_mkStr ?_ (by rw [strOf_length, hl1]; exact fits (by omega)))
        refine wpAny_bind (wpAny_updateSeq hPo rfl ?_ (by simp [pieceV]; exact fits (by omega)) (by simp [pieceV]; have := fits (n := ps.length) (by omega); omega))
        rw [ms] at rest
        refine rest { s with heap := _, toks := s.toks + 1 } (ps ++ [((t.drop st).take (p - st), s.toks)]) _ (by simp; omega) (by simp [cat]) (by
          rw [Heap.get?_update_self _ hPo rfl]
          simp [Obj.mapSeq, pieceV]; rfl) (fun b o q => (Heap.get?_update_other _ _ (Ne.symm (nP b o q))).trans (hkeep b o q)) (Nat.le_succ_of_le htk) ⟨_, _, rfl⟩
      · rw [ms, if_neg hlt]
        rw [ms] at rest
        have hz : p - st = 0 := by omega
        exact rest s ps c (by omega) (by rw [hz]; simp) hPo hkeep htk ⟨s.heap, s.toks, rfl⟩
    · refine wpAny_bind (runToEnd_lost a4 (by omega) a5 ?_)
      have fin : ∀ (s1 : Shared) (ps1 : List (List Nat × Tok)) (c1 : Nat), ps1.length ≤ 2 * st + 1 → cat ps1 = cat ps ++ G t st → s1.heap.get? P = some { cls := .type "list", dict := none, data := .seq (pieceV cx ps1).toArray c1 } →
          (∀ b o, s0.heap.get? b = some o → s1.heap.get? b = some o) → s0.toks ≤ s1.toks → (∃ h' tk, s1 = { s with heap := h', toks := tk }) →
          wpAny (model prog w) A.in1 (do
            let joiner ← (mkStr ⟨(cx.strOf t).cps.extract 0 0⟩ : Sem Value)
            let items ← seqItems? (.ref P)
            if (items.getD #[]).isEmpty = true then do
              let text ← (pure joiner : Sem Value)
              ret text
            else do
              let text ← call (.builtin "str.join") [joiner, .ref P]
              ret text)
          (fun fin s' => match fin with
            | .done f => R (.ok f) s'
            | .again c' => c'.quiet = true ∧ codeAny (model prog w) A c' R s') (fun e s' => R (.error e) s') s1 := by
        intro s1 ps1 c1 b1 b2 b3 b4 b5 b6
        obtain ⟨h1, k1, rfl⟩ := b6
        refine wpAny_bind (wpAny_mkStr ?_ (by simp [Str.length]))
        refine wpAny_bind (wpAny_seqItems b3 rfl ?_)
        by_cases he : (pieceV cx ps1).toArray.isEmpty = true
        · show wpAny _ A.in1 (if (pieceV cx ps1).toArray.isEmpty = true then _ else _) _ _ _
          rw [if_pos he]
          refine wpAny_bind (wpAny_pure (wpAny_pure ?_))
          have hnil : ps1 = [] := by simpa [pieceV] using he
          have : (⟨(cx.strOf t).cps.extract 0 0⟩ : Str) = cx.strOf (cat ps ++ G t st) := by
            rw [← b2, hnil]; simp [cat, Cx.strOf]
          rw [this]
          exact hR _ _ _ b4
        · show wpAny _ A.in1 (if (pieceV cx ps1).toArray.isEmpty = true then _ else _) _ _ _
          rw [if_neg he]
          have hlen1 : (cat ps1).length ≤ 100000 := by
            rw [b2, List.length_append, a6, List.length_drop]; omega
          have e0 : (⟨(cx.strOf t).cps.extract 0 0⟩ : Str) = cx.strOf [] := by simp [Cx.strOf]
          rw [e0]
          obtain ⟨ys, y1, y2, y3, y4⟩ := strs_ok (pieceV_vr (cx := cx) (h := h1) (g := g) ps1) (joinS_nil ps1)
          have hm : ((ys.map cx.strOf).map (·.length)).sum = (ys.map (·.length)).sum := by
            congr 1; rw [List.map_map]; exact List.map_congr_left fun a _ => strOf_length cx a
          refine wpAny_bind (join_listC (s := { s with heap := h1, toks := k1 + 1 }) (items := (pieceV cx ps1).toArray) ⟨_, b3, rfl, _, rfl⟩ y1 (by rw [strOf_length]; simp) ?_ fun t' k => ?_)
          · rw [hm, List.length_map, y2, List.length_map]
            omega
          · rw [← y4, b2]
            exact wpAny_pure (hR _ _ _ b4)
      show wpAny _ A.in1 (if st < t.length then (do
          let x ← (mkStr ⟨(cx.strOf t).cps.extract st t.length⟩ : Sem Value)
          let r ← updateSeq P (·.push x)
          _) else _) _ _ s
      by_cases hlt : st < t.length
      · rw [if_pos hlt]
        have hsl : (⟨(cx.strOf t).cps.extract st t.length⟩ : Str) = cx.strOf (t.drop st) := by
          rw [show (⟨(cx.strOf t).cps.extract st t.length⟩ : Str) = _ from slice_eq cx t st t.length, List.take_of_length_le (by simp)]
        rw [hsl]
        refine wpAny_bind (wpAny_mkStr ?_ (by rw [strOf_length, List.length_drop]; exact fits (by omega)))
        refine wpAny_bind (wpAny_updateSeq hPo rfl ?_ (by simp [pieceV]; exact fits (by omega)) (by simp [pieceV]; have := fits (n := ps.length) (by omega); omega))
        refine fin { s with heap := _, toks := s.toks + 1 } (ps ++ [(t.drop st, s.toks)]) _ (by simp; omega) (by rw [a6]; simp [cat]) (by
          rw [Heap.get?_update_self _ hPo rfl]
          simp [Obj.mapSeq, pieceV]; rfl) (fun b o q => (Heap.get?_update_other _ _ (Ne.symm (nP b o q))).trans (hkeep b o q)) (Nat.le_succ_of_le htk) ⟨_, _, rfl⟩
      · rw [if_neg hlt]
        exact fin s ps c (by omega) (by rw [a6, List.drop_eq_nil_of_le (by omega)]; simp) hPo hkeep htk ⟨s.heap, s.toks, rfl⟩
end
end Mine
end
section
set_option maxRecDepth 100000
set_option maxHeartbeats 2000000
set_option linter.unusedVariables false
namespace Mine
open PySem PySem.Calls PyProof.Rows PySem.W PySem.SeqAt

noncomputable def PatIn (cx : Cx) (a : Addr) (code : Array Nat) : Prop := ∃ o vs c oc cs n u2 u6, cx.h₀.get? a = some o ∧ o.cls = .type "re.Pattern" ∧ o.dict = none ∧ o.data = .fields vs ∧ vs[5]? = some (.ref c) ∧ vs[2]? = some (.int 0 u2) ∧ vs[6]? = some (.int 0 u6) ∧ cx.h₀.get? c = some oc ∧ oc.cls ≠ .none ∧ oc.data = .seq cs n ∧
  (cs.map Builtin.Re.reRawOf).map (·.toNat) = code
noncomputable def PatF (cx : Cx) : Prop := ∀ k a, cx.patA k = some a → (k = 1 ∧ PatIn cx a C1) ∨ (k = 2 ∧ PatIn cx a C2)
theorem PatF.at {cx : Cx} (h : PatF cx) : PatAt cx := fun k a e => by
  rcases h k a e with ⟨_, o, vs, c, oc, cs, n, u2, u6, h1, h2, h3, _⟩ | ⟨_, o, vs, c, oc, cs, n, u2, u6, h1, h2, h3, _⟩
  · exact ⟨o, h1, h2, h3⟩
  · exact ⟨o, h1, h2, h3⟩

section
variable {prog : Program} {w : World} {A : Around} {s : Shared} {cx : Cx} {σ σ' : Sto} {g : Gh} {v : V}

theorem PatIn.now {a : Addr} {code : Array Nat} (x : PatIn cx a code) (hw : W cx σ g s.heap s.toks) : PatObj s.heap a code ∧ s.TypeIs (.ref a) "re.Pattern" := by
  obtain ⟨o, vs, c, oc, cs, n, u2, u6, h1, h2, h3, h4, h5, h6, h7, h8, h9, r⟩ := x
  have k1 := hw.old.get_of_cls h1 (by rw [h2]; exact fun q => nomatch q)
  exact ⟨⟨o, vs, c, oc, cs, n, u2, u6, k1, h4, h5, h6, h7, hw.old.get_of_cls h8 h9, r⟩, ⟨_, k1, h2⟩⟩

theorem sub_ok {a : Addr} {code : Array Nat} {rep t : List Nat} {G : List Nat → Nat → List Nat} {t1 t2 : Tok} (hspec : PatSpec cx code rep G) (hlen : t.length ≤ 400) (hrep : rep.length ≤ 10) (h92 : (cx.strOf rep).cps.contains 92 = false) (hp : PatIn cx a code) (hw : W cx σ g s.heap s.toks)
    (e : outS σ (G t 0) = some (v, σ')) : wpAny (model prog w) A (call (.builtin "re.Pattern.sub") [.ref a, .str (cx.strOf rep) t1, .str (cx.strOf t) t2]) (EvP cx g s σ' v) Z s := by
  obtain ⟨hobj, hT⟩ := hp.now hw
  refine wpAny_with_toks (Nat.le_refl s.toks) (wpAny_call (codeAny_call_builtin slot_pat_sub.plain entry_pat_sub (slot_pat_sub.check _ _ _ _ _ _ _ _ hT (args_pat_sub _ _ _) ?_)))
  show wpAny _ A.in1 (Builtin.Re.reNamed "re.Pattern.sub" "sub" ["repl", "string", "count"] 2 [.str (cx.strOf rep) t1, .str (cx.strOf t) t2] [] >>= _) _ _ s
  refine wpAny_bind (m := Builtin.Re.reNamed _ _ _ _ _ _) (wpAny_of_eq (show Builtin.Re.reNamed "re.Pattern.sub" "sub" ["repl", "string", "count"] 2 [.str (cx.strOf rep) t1, .str (cx.strOf t) t2] [] = pure [some (.str (cx.strOf rep) t1), some (.str (cx.strOf t) t2), none] from rfl) ?_)
  refine wpAny_bind (wpAny_pure ?_)
  refine wpAny_bind (wpAny_specialOf_val (T := "str") (r := none) rfl str_no_call ?_)
  simp only [Option.isSome_none, Bool.false_eq_true, if_false]
  refine wpAny_bind (m := asStr? _) (wpAny_pure ?_)
  refine wpAny_bind (wpAny_pure ?_)
  rw [h92]
  simp only [Bool.not_false, if_true]
  refine wpAny_bind (wpAny_pure ?_)
  dsimp only
  refine wpAny_bind (wpAny_holding (whole_ok hobj ?_))
  rw [if_neg (show ¬ ((0 : Int) == 1) = true by decide)]
  refine wpAny_bind (wpAny_newObj_type ?_)
  refine wpAny_pure ⟨plainId_quiet plain_sub_loop _, ?_⟩
  refine loop_ok (s0 := s) (P := s.heap.objs.size) hspec hlen hrep hw hobj (get_size _) (t.length + 1) _ 0 [] 0 0 (by omega) (Nat.zero_le _) (by simp) (by simp [cat]) (Heap.get?_push_size _ rfl) (fun b o q => Heap.get?_push_of_some _ q) (Nat.le_refl _) fun h' tk u hk => ?_
  intro hle
  have hE : EvP cx g { s with heap := h', toks := tk } σ' v (.str (cx.strOf (G t 0)) u) { s with heap := h', toks := tk } := outS_ok e (hw.keeps hk hle) (Nat.le_refl _)
  exact EvP.after hle (.keeps hk) hE

theorem strOf92 (C : CxS cx) : (cx.strOf [46, 46]).cps.contains 92 = false ∧ (cx.strOf [13, 10]).cps.contains 92 = false := by
  have h46 : cx.sign 46 = 46 := (sign_iff (by decide) C.c46 46).mpr rfl
  have h13 : cx.sign 13 = 13 := (sign_iff (by decide) C.c13 13).mpr rfl
  have h10 : cx.sign 10 = 10 := (sign_iff (by decide) C.c10 10).mpr rfl
  unfold Cx.strOf
  simp only [List.map_cons, List.map_nil, h46, h13, h10]
  exact ⟨by simp, by simp⟩

theorem nbeqL_eq {a b : List Nat} (h : nbeqL a b = true) : a = b := by
  induction a generalizing b with
  | nil => cases b with
    | nil => rfl
    | cons => exact ftE h
  | cons x a ih => cases b with
    | nil => exact ftE h
    | cons y b =>
      unfold nbeqL at h
      split at h
      · rename_i q
        rw [Nat.eq_of_beq_eq_true q, ih h]
      · cases h

theorem pat_ok (C : CxS cx) (hF : PatF cx) : PatOk prog w cx := by
  intro fr A s g σ σ' k a vs ws v ha hw hA e hv
  exact bindE e fun p q e => bindE e fun rp qr e => bindE e fun t qt e => whE e fun hlen e2 => hv.l2 (Q := fun ws => wpAny _ _ (call _ (_ :: ws)) _ _ _) q fun w1 w2 h1 h2 =>
    h1.strO (P := fun w => wpAny _ _ (call _ [_, w, _]) _ _ _) qr fun t1 => h2.strO (P := fun w => wpAny _ _ (call _ [_, _, w]) _ _ _) qt fun t2 => by
      have hlen := Nat.le_of_ble_eq_true hlen
      delta mSub2 at e2
      split at e2
      · rename_i hk
        split at e2
        · rename_i hr
          obtain rfl := nbeqL_eq hr
          exact (hF k a ha).elim (fun z => sub_ok (spec1 C) hlen (by simp) (strOf92 C).1 z.2 hw e2) fun z => by cases z.1; cases hk
        · cases e2
      · exact whE e2 fun hk e2 => whE e2 fun hr e2 => by
          obtain rfl := nbeqL_eq hr
          exact (hF k a ha).elim (fun z => by cases z.1; cases hk) fun z => sub_ok (spec2 C) hlen (by simp) (strOf92 C).2 z.2 hw e2
end
end Mine
end
section
set_option maxRecDepth 100000
set_option maxHeartbeats 2000000
set_option linter.unusedVariables false
namespace Mine
open PySem PySem.Calls PyProof.Rows PySem.W PySem.SeqAt

section
variable (prog : Program) (w : World) (cx : Cx) (P : Env → Gh → Heap → Prop)
structure Pres : Prop where
  at_ : ∀ {env : Env} {g g' : Gh} {h h' : Heap}, P env g h → Ev cx (wr env) g g' h h' → P env g' h'
structure PresE : Prop where
  at_ : ∀ {env : Env} {g g' : Gh} {h h' : Heap}, P env g h → Ev cx [] g g' h h' → P env g' h'
theorem Pres.e {cx : Cx} {P : Env → Gh → Heap → Prop} (hP : Pres cx P) : PresE cx P := ⟨fun p E => hP.at_ p (frame_weaken E)⟩
noncomputable def EvS (K : Nat) (sc : Scope) (σ : Sto) (ρ : Loc) (e : Expr) (v : V) (σ' : Sto) : Prop := ∀ ⦃fr : Option (List Env)⦄ ⦃env : Env⦄ ⦃g : Gh⦄ ⦃s : Shared⦄ ⦃A : Around⦄, P env g s.heap → ScE env sc → FrR cx env g ρ s.heap → W cx σ g s.heap s.toks → Room fr K A →
  wpAny (model prog w) A (eval e env) (EvP cx g s σ' v) Z s
noncomputable def TsS (K : Nat) (sc : Scope) (σ : Sto) (ρ : Loc) (e : Expr) (t : Bool) : Prop := ∀ ⦃fr : Option (List Env)⦄ ⦃env : Env⦄ ⦃g : Gh⦄ ⦃s : Shared⦄ ⦃A : Around⦄, P env g s.heap → ScE env sc → FrR cx env g ρ s.heap → W cx σ g s.heap s.toks → Room fr K A →
  wpAny (model prog w) A (isTrue e env (eval e env)) (TsP cx g s σ t) Z s
noncomputable def ExS (K : Nat) (sc : Scope) (σ : Sto) (ρ : Loc) (ss : List Stmt) (fl : Fl) (σ' : Sto) (ρ' : Loc) : Prop := ∀ ⦃fr : Option (List Env)⦄ ⦃env : Env⦄ ⦃g : Gh⦄ ⦃s : Shared⦄ ⦃A : Around⦄, P env g s.heap → ScE env sc → FrR cx env g ρ s.heap → W cx σ g s.heap s.toks → Room fr K A →
  wpAny (model prog w) A (execs ss env) (ExP cx env g s σ' ρ' fl) Z s
noncomputable def CaS (K : Nat) (a : Addr) (σ : Sto) (vs : List V) (v : V) (σ' : Sto) : Prop := ∀ ⦃fr : Option (List Env)⦄ ⦃g : Gh⦄ ⦃s : Shared⦄ ⦃A : Around⦄ ⦃ws : List Value⦄, VRs cx s.heap g vs ws → W cx σ g s.heap s.toks → Room fr K A →
  wpAny (model prog w) A (call (.ref a) ws []) (EvP cx g s σ' v) Z s
inductive ArS (K : Nat) (sc : Scope) (ρ : Loc) : Sto → List Expr → List V → Sto → Prop
  | nil (σ) : ArS K sc ρ σ [] [] σ
  | cons {σ σ₁ σ₂ e v es vs} : EvS prog w cx P K sc σ ρ e v σ₁ → (∀ env es, starEach (e :: es) env = (false, eval e env) :: starEach es env) → ArS K sc ρ σ₁ es vs σ₂ → ArS K sc ρ σ (e :: es) (v :: vs) σ₂
end
section
variable {prog : Program} {w : World} {cx : Cx} {P : Env → Gh → Heap → Prop} {K : Nat} {sc : Scope} {σ σ' σ'' : Sto} {ρ ρ' ρ'' : Loc} {v : V} {fl : Fl}

theorem EvS.nm (G : CxG cx) {x : Str} {p : Pos} (e : evName sc σ ρ x = some (v, σ')) (h : viewN x = .name x) : EvS prog w cx P K sc σ ρ (.Name x p) v σ' := fun _ _ _ _ _ hp hs hf hw hA => by
  obtain ⟨_, h1, h2⟩ := viewN_name h
  exact evName_ok G e h1 h2 hs hf hw
theorem EvS.con {c : Const} {k : Nat} {p : Pos} (e : evConst σ c = some (v, σ')) : EvS prog w cx P K sc σ ρ (.Constant c k p) v σ' := fun _ _ _ _ _ hp hs hf hw hA => evConst_ok e hw
theorem EvS.bin (G : CxG cx) (hP : PresE cx P) {op : Operator} {a b : Expr} {i j k : Int} {p : Pos} (ha : EvS prog w cx P K sc σ ρ a (.int i) σ) (hb : EvS prog w cx P K sc σ ρ b (.int j) σ)
    (rule : ∀ {A : Around} {s : Shared} {t u : Tok} {Q : Value → Shared → Prop} {E : Value → Shared → Prop}, A.handled = none → Q (.int k s.toks) { s with toks := s.toks + 1 } → wpAny (model prog w) A (binaryOp op (.int i t) (.int j u)) Q E s) : EvS prog w cx P K sc σ ρ (.BinOp a op b p) (.int k) σ := fun _ _ _ _ _ hp hs hf hw hA =>
  wpAny_BinOp (wpZ (ha hp hs hf hw hA) fun w1 s1 x1 => x1.k fun g1 W1 V1 N1 => wpZ (hb (hP.at_ hp N1.evo) hs (hf.mono G.ok N1.evo) W1 hA) fun w2 s2 x2 => x2.k fun g2 W2 V2 N2 =>
    V1.intE (P := fun w1 => wpAny _ _ (binaryOp op w1 w2) _ _ _) fun t => V2.intE (P := fun w2 => wpAny _ _ (binaryOp op _ w2) _ _ _) fun u => rule hA.handled (N1.ev (N2.ev (EvP.same W2 (Nat.le_succ _) (.int _ _)))))
theorem EvS.un {op : UnaryOp} {a : Expr} {i k : Int} {p : Pos} (ha : EvS prog w cx P K sc σ ρ a (.int i) σ)
    (rule : ∀ {A : Around} {s : Shared} {t : Tok} {Q : Value → Shared → Prop} {E : Value → Shared → Prop}, Q (.int k s.toks) { s with toks := s.toks + 1 } → wpAny (model prog w) A (unaryOp op (.int i t)) Q E s) : EvS prog w cx P K sc σ ρ (.UnaryOp op a p) (.int k) σ := fun _ _ _ _ _ hp hs hf hw hA =>
  wpAny_UnaryOp (wpZ (ha hp hs hf hw hA) fun w1 s1 x1 => x1.k fun g1 W1 V1 N1 => V1.intE (P := fun w1 => wpAny _ _ (unaryOp op w1) _ _ _) fun t => rule (N1.ev (EvP.same W1 (Nat.le_succ _) (.int _ _))))
theorem TsS.cmp (G : CxG cx) (hP : PresE cx P) {op : CmpOp} {a b : Expr} {i j : Int} {t : Bool} {p : Pos} (ha : EvS prog w cx P K sc σ ρ a (.int i) σ) (hb : EvS prog w cx P K sc σ ρ b (.int j) σ) (h : icmp op i j = some t) (hn : behindInMarks op b = false) : TsS prog w cx P K sc σ ρ (.Compare a [op] [b] p) t := fun _ _ _ _ _ hp hs hf hw hA =>
  wpAny_isTrue_Compare1 (wpZ (ha hp hs hf hw hA) fun w1 s1 x1 => x1.k fun g1 W1 V1 N1 => wpZ (hb (hP.at_ hp N1.evo) hs (hf.mono G.ok N1.evo) W1 hA) fun w2 s2 x2 => x2.k fun g2 W2 V2 N2 =>
    V1.intE (P := fun w1 => wpAny _ _ (compareOp op w1 w2) _ _ _) fun t1 => V2.intE (P := fun w2 => wpAny _ _ (compareOp op _ w2) _ _ _) fun u1 => icmp_ok h (wpAny_truthy_bool (N1.ts (N2.ts (TsP.here W2))))) hn

theorem ArS.sp (G : CxG cx) (hP : PresE cx P) {pos : Pos} {σ σ' : Sto} {es : List Expr} {vs : List V} (x : ArS prog w cx P K sc ρ σ es vs σ') {fr : Option (List Env)} {env : Env} {g : Gh} {s : Shared} {A : Around} (hp : P env g s.heap) (hs : ScE env sc) (hf : FrR cx env g ρ s.heap) (hw : W cx σ g s.heap s.toks) (hA : Room fr K A) :
    wpAny (model prog w) A (spliced (backTo pos (starEach es env))) (EvsP cx g s σ' vs) Z s := by
  induction x generalizing g s with
  | nil σ => exact spliced_nil (EvsP.nil hw)
  | cons he hst r ih => exact hst env _ ▸ spliced_cons (wpZ (he hp hs hf hw hA) fun w1 s1 x1 => x1.k fun g1 W1 V1 N1 => wpZ (ih (hP.at_ hp N1.evo) (hf.mono G.ok N1.evo) W1) fun ws s2 x2 => x2.k fun g2 W2 V2 N2 => .mk W2 (N1.trans N2) (.cons (V1.mono N2.evo) V2))
theorem ArS.any {pos : Pos} {env : Env} {σ σ' : Sto} {es : List Expr} {vs : List V} (x : ArS prog w cx P K sc ρ σ es vs σ') : (backTo pos (starEach es env)).any (·.1) = false ∧ (backTo pos (starEach es env)).all (fun x => !x.1) = true := by
  induction x with
  | nil σ => exact ⟨rfl, rfl⟩
  | cons he hst r ih => exact hst env _ ▸ ⟨ih.1, ih.2⟩
theorem ArS.args {es : List Expr} {vs : List V} {env : Env} {f : Value} {pos : Pos} {A : Around} {s : Shared} {Q : Args → Shared → Prop} {E : Value → Shared → Prop} (h : ArS prog w cx P K sc ρ σ es vs σ') (hne : es ≠ [])
    (k : wpAny (model prog w) A (spliced (backTo pos (starEach es env))) (fun vs s₁ => Q ⟨vs, []⟩ s₁) E s) : wpAny (model prog w) A (evalArgs f true (backTo pos (starEach es env)) []) Q E s := by
  cases h with
  | nil =>
    exact absurd rfl hne
  | cons he hst r =>
    rw [hst env] at k ⊢
    exact evalArgs_kw rfl (wpAny_mono k (fun vs s₁ h => wpAny_evalAll_nil h) fun _ _ x => x)
theorem EvS.tup (G : CxG cx) (hP : PresE cx P) {es : List Expr} {vs : List V} {k : Nat} {p : Pos} (h : ArS prog w cx P K sc ρ σ es vs σ') (few : fewV vs = true) : EvS prog w cx P K sc σ ρ (.Tuple es k p) (.tup vs) σ' := fun _ _ _ _ _ hp hs hf hw hA =>
  wpAny_Tuple_spliced (wpZ (ArS.sp (P := P) G hP h hp hs hf hw hA) fun ws s1 x1 => by
    refine x1.k fun g1 W1 V1 N1 => ?_
    exact ⟨few_ok V1 few, N1.ev (EvP.push W1 (Nat.le_refl _) (.newTup W1 V1))⟩)
theorem EvS.callF (G : CxG cx) (hP : PresE cx P) {f : Expr} {nm : Str} {a : Addr} {es : List Expr} {vs : List V} {p : Pos} (hf0 : EvS prog w cx P K sc σ ρ f (.fn nm) σ) (hfn : ∀ nm a, cx.fnA nm = some a → FnIn cx nm a) (har : ArS prog w cx P K sc ρ σ es vs σ') (hne : es ≠ []) (hc : ∀ a, cx.fnA nm = some a → CaS prog w cx K a σ' vs v σ'')
    (he : ∀ env, eval (.Call f es [] p) env = (do callWith p (← eval f env) [] (backTo p (starEach es env)) (backToKw p (keywordEach [] env)))) : EvS prog w cx P K sc σ ρ (.Call f es [] p) v σ'' := fun fr env g s A hp hs hf hw hA => by
  rw [he]
  refine wpAny_bind (wpZ (hf0 hp hs hf hw hA) fun wf s1 x1 => ?_)
  refine x1.k fun g1 W1 V1 N1 => ?_
  have e0 : backToKw p (keywordEach [] env) = [] := rfl
  rw [e0]
  refine callWith_of (P := fun h => ∃ k, (k = Keeper.frame ∨ k = Keeper.machine ∨ k = Keeper.boundFrame) ∧ Looks (model prog w) h (keeperOf wf) k) ?_ (fun _ x => x) ?_
  · rw [(har.any (pos := p) (env := env)).1]; rfl
  refine har.args hne (wpZ (ArS.sp (P := P) G hP har (hP.at_ hp N1.evo) hs (hf.mono G.ok N1.evo) W1 hA) fun ws s2 x2 => ?_)
  refine x2.k fun g2 W2 V2 N2 => ?_
  have Vf := V1.mono N2.evo
  refine ⟨keeper_ok hfn rfl Vf W2, ?_⟩
  apply Vf.fnE; intro _ ha
  · exact wpZ (hc _ ha V2 W2 hA) fun w4 s4 x4 => N1.ev (N2.ev x4)

theorem ExS.nil : ExS prog w cx P K sc σ ρ [] .next σ ρ := fun _ _ _ _ _ hp hs hf hw hA => wpAny_execs_nil (ExP.here hf hw)
theorem ExS.cons (hP : Pres cx P) {st : Stmt} {ss : List Stmt} (h1 : ∀ {fr : Option (List Env)} {env : Env} {g : Gh} {s : Shared} {A : Around}, P env g s.heap → ScE env sc → FrR cx env g ρ s.heap → W cx σ g s.heap s.toks → Room fr K A → wpAny (model prog w) A (exec st env) (ExP cx env g s σ' ρ' .next) Z s)
    (h2 : ExS prog w cx P K sc σ' ρ' ss fl σ'' ρ'') : ExS prog w cx P K sc σ ρ (st :: ss) fl σ'' ρ'' := fun _ _ _ _ _ hp hs hf hw hA => by
  refine wpAny_execs_cons (wpZ (h1 hp hs hf hw hA) fun f s1 x1 => ?_)
  obtain ⟨g1, W1, F1, l1, E1, same, k⟩ := x1.elim
  have k : f = .next := k
  subst k
  exact wpZ (h2 (hP.at_ hp E1) hs F1 W1 hA) fun f2 s2 x2 => ExP.after same l1 E1 x2
theorem ExS.asg (G : CxG cx) (hP : Pres cx P) {t x : Expr} {ss : List Stmt} {p : Pos} (hx : EvS prog w cx P K sc σ ρ x v σ') (ht : asgV sc ρ t v = some ρ') (hok : okAsg t x = true) (hsw : ∀ env, swapsWithSole [t] x p.line env = pure false) (h2 : ExS prog w cx P K sc σ' ρ' ss fl σ'' ρ'') : ExS prog w cx P K sc σ ρ (.Assign [t] x p :: ss) fl σ'' ρ'' := ExS.cons hP (σ' := σ') (ρ' := ρ') (by
    intro fr env g s A hp hs hf hw hA
    rw [arm_exec_Assign, hsw]
    refine wpAny_bind (wpAny_standAt (wpAny_bind (wpAny_pure ?_)))
    refine wpAny_bind (wpZ (hx hp hs hf hw hA) fun wv s1 x1 => ?_)
    refine x1.k fun g1 W1 V1 N1 => ?_
    exact wpZ (assignStores_ok G hs hok ht (hf.mono G.ok N1.evo) W1 V1 hA.handled) fun f s2 x2 => N1.ex x2) h2
theorem ExS.ret (G : CxG cx) {x : Expr} {ss : List Stmt} {p : Pos} (hx : EvS prog w cx P K sc σ ρ x v σ') : ExS prog w cx P K sc σ ρ (.Return (some x) p :: ss) (.ret v) σ' ρ := fun fr env g s A hp hs hf hw hA => by
  refine wpAny_execs_cons (wpAny_Return_some (wpZ (hx hp hs hf hw hA) fun wv s1 x1 => ?_))
  obtain ⟨h', tk, g', rfl, l, w1, e1, v1⟩ := x1
  exact ⟨h', tk, g', rfl, l, w1, frame_weaken e1, hf.mono G.ok e1, wv, rfl, v1⟩
theorem ExS.iff (G : CxG cx) (hP : Pres cx P) {t : Expr} {b o ss : List Stmt} {p : Pos} {k : Bool} (ht : TsS prog w cx P K sc σ ρ t k) (hb : ExS prog w cx P K sc σ ρ (if k = true then b else o) .next σ' ρ') (h2 : ExS prog w cx P K sc σ' ρ' ss fl σ'' ρ'') : ExS prog w cx P K sc σ ρ (.If t b o p :: ss) fl σ'' ρ'' := ExS.cons hP (σ' := σ') (ρ' := ρ') (by
    intro fr env g s A hp hs hf hw hA
    refine wpAny_If (wpZ (ht hp hs hf hw hA) fun b1 s1 x1 => ?_)
    obtain ⟨rfl, g1, W1, N1⟩ := x1.elim
    cases b1
    · exact wpZ (hb (hP.at_ hp (frame_weaken N1.evo)) hs (hf.mono G.ok N1.evo) W1 hA) fun f s2 x2 => N1.ex x2
    · exact wpZ (hb (hP.at_ hp (frame_weaken N1.evo)) hs (hf.mono G.ok N1.evo) W1 hA) fun f s2 x2 => N1.ex x2) h2
theorem ExS.ifret (G : CxG cx) (hP : PresE cx P) {t : Expr} {b o ss : List Stmt} {p : Pos} {k : Bool} (ht : TsS prog w cx P K sc σ ρ t k) (hb : ExS prog w cx P K sc σ ρ (if k = true then b else o) (.ret v) σ' ρ') : ExS prog w cx P K sc σ ρ (.If t b o p :: ss) (.ret v) σ' ρ' := fun fr env g s A hp hs hf hw hA => by
  refine wpAny_execs_cons (wpAny_If (wpZ (ht hp hs hf hw hA) fun b1 s1 x1 => ?_))
  obtain ⟨rfl, g1, W1, N1⟩ := x1.elim
  have key : ∀ {f : Flow} {s2 : Shared}, ExP cx env g1 s1 σ' ρ' (.ret v) f s2 → (match f with | .next => wpAny (model prog w) A (execs ss env) (ExP cx env g s σ' ρ' (.ret v)) Z s2 | f => ExP cx env g s σ' ρ' (.ret v) f s2) := fun {f s2} x2 => by
    have x3 := N1.ex x2
    obtain ⟨_, _, _, _, _, _, k⟩ := x2.elim
    obtain ⟨wv, rfl, _⟩ := k
    exact x3
  cases b1
  · exact wpZ (hb (hP.at_ hp N1.evo) hs (hf.mono G.ok N1.evo) W1 hA) fun f s2 x2 => key x2
  · exact wpZ (hb (hP.at_ hp N1.evo) hs (hf.mono G.ok N1.evo) W1 hA) fun f s2 x2 => key x2

theorem EvS.le {K' : Nat} {e : Expr} (h : EvS prog w cx P K sc σ ρ e v σ') (hk : K ≤ K') : EvS prog w cx P K' sc σ ρ e v σ' := fun _ _ _ _ _ hp hs hf hw hA => h hp hs hf hw (hA.le hk)
theorem CaS.le {K' : Nat} {a : Addr} {vs : List V} (h : CaS prog w cx K a σ vs v σ') (hk : K ≤ K') : CaS prog w cx K' a σ vs v σ' := fun _ _ _ _ _ hv hw hA => h hv hw (hA.le hk)

theorem CaS.body (C : CxOk cx) {nm : Str} {a : Addr} {fn : Fn} {vs : List V} (hfn : FnOk cx nm a) (hn : fnOf nm = some fn) (hp : plainPs fn.ps = true) (hb : bindGo (fn.ps.args.map (·.arg)) vs = some ρ) (h : ExS prog w cx (fun _ _ _ => True) K fn.sc σ ρ fn.body (.ret v) σ' ρ') : CaS prog w cx (K + 1) a σ vs v σ' := fun fr g s A ws hv hw hA => by
  exact fn_enter C hfn hn hp hb hv hw hA fun env s₁ X hf W1 N1 => wpZ (h trivial X.sce hf W1 hA.deeper) fun f s2 x2 => x2.val N1 X.no
end
end Mine
end
section
set_option maxRecDepth 100000
set_option maxHeartbeats 2000000
set_option linter.unusedVariables false
namespace Mine
open PySem PySem.Calls PyProof.Rows PySem.W PySem.SeqAt

section
variable {prog : Program} {w : World} {A : Around} {s : Shared} {cx : Cx} {fr : Option (List Env)} {n : Nat} {sc : Scope} {σ σ' : Sto} {ρ ρ' : Loc} {v : V} {env : Env} {g : Gh}

theorem storeCell_ok {M : Model} (C : CxOk cx) {x : Str} {w' : Value} (hk : env.kindOf x = some .cell) (hfn : env.func ≠ none) (hx : lk x ρ = none) (hf : FrR cx env g ρ s.heap) (hw : W cx σ g s.heap s.toks) :
    wpAny M A (storeName env x w') (fun _ s' => ∃ h', s' = { s with heap := h' } ∧ W cx σ g h' s.toks ∧ Ev cx (wr env) g g s.heap h' ∧ FrR cx env g ρ h' ∧ (∃ c, env.cells.lookup x = some c ∧ h'.IsCell c (some w')) ∧ ∀ b o, b ∉ wr env → s.heap.get? b = some o → h'.get? b = some o) Z s := by
  obtain ⟨m, hn, hm⟩ := hf.ns
  have hlow : ∀ y c, env.cells.lookup y = some c → c ≠ env.locals := fun y c hy q => by
    obtain ⟨⟨u, oc, e1, e2⟩, _⟩ := hf.cells y c hy
    obtain ⟨o, es, ep, e3, e4, _⟩ := hn
    rw [q, e3] at e1; cases e1
    rw [e4] at e2; cases e2
  obtain ⟨c, hc1⟩ := Option.isSome_iff_exists.mp (hf.has x hk)
  obtain ⟨⟨u, oc, e1, e2⟩, f1, f2⟩ := hf.cells x c hc1
  refine wpAny_storeName_cell hf.kind hk hc1 ⟨oc, e1, e2⟩ fun h' hcell' hs' => ?_
  obtain ⟨W', E'⟩ := hw.chg C (Nat.le_refl _) e1 (.inr ⟨u, e2⟩) f2 hs' (fun m => by
    obtain ⟨o, es, ep, q1, q2⟩ := hw.frs c m
    rw [e1] at q1; cases q1; rw [e2] at q2; cases q2)
  have hne : ∀ y c', env.cells.lookup y = some c' → y ≠ x → c' ≠ c := fun y c' hy hyx q => hyx (hf.inj y x c (q ▸ hy) hc1)
  refine ⟨h', rfl, W', E'.weaken (fun a ha => by rw [List.mem_singleton.mp ha]; exact mem_wr_cells hfn hk hc1), ⟨hf.kind, hf.glob, hf.blt, hf.la, hf.l0, ⟨m, hn.sameBut hs' (Ne.symm (hlow x c hc1)), fun y u e => ?_⟩, fun y c' hy => ?_, hf.lam, hf.has, hf.inj⟩, ⟨c, hc1, hcell'⟩, fun b o hb e => (hs'.2 b fun q => hb (q ▸ mem_wr_cells hfn hk hc1)).trans e⟩
  · have hy : y ≠ x := fun q => by rw [q, hx] at e; cases e
    rcases hm y u e with ⟨k, w1, hw1, r1⟩ | ⟨k, c', w1, hc2, ⟨oc', hoc, hdc⟩, r1⟩
    · exact .inl ⟨k, w1, hw1, r1.mono E'⟩
    · exact .inr ⟨k, c', w1, hc2, ⟨oc', (hs'.2 c' (hne y c' hc2 hy)).trans hoc, hdc⟩, r1.mono E'⟩
  · by_cases hyx : y = x
    · subst hyx
      rw [hc1] at hy; cases hy
      exact ⟨⟨_, hcell'⟩, f1, f2⟩
    · obtain ⟨⟨u', oc', g1, g2⟩, f1', f2'⟩ := hf.cells y c' hy
      exact ⟨⟨u', oc', (hs'.2 c' (hne y c' hy hyx)).trans g1, g2⟩, f1', f2'⟩

noncomputable def innFd (name q : Str) (ps : Arguments) (body : List Stmt) (sc : Scope) (clo : List (Str × Addr)) (pm cd ct : Value) : FuncData :=
  { name, qualname := q, params := ps, body := .stmts body, scope := sc, globals := mainGlobals, closure := clo, defaults := .none, kwdefaults := .none, pyModule := pm, code := cd, closureTuple := ct, builtins := builtinsNs }
structure InnFn (cx : Cx) (h : Heap) (g : Gh) (f : Addr) (name q : Str) (ps : Arguments) (body : List Stmt) (sc : Scope) (clo : List (Str × Addr)) : Prop where
  fn : ∃ pm cd ct, h.get? f = some { cls := .type "function", data := .func (innFd name q ps body sc clo pm cd ct) } ∧ CodeObjOf h cd q ∧ g.free f ∧ ∀ c, cd = .ref c → g.free c
theorem InnFn.mono {X : List Addr} {g' : Gh} {h h' : Heap} {f : Addr} {name q : Str} {ps : Arguments} {body : List Stmt} {sc : Scope} {clo : List (Str × Addr)} (x : InnFn cx h g f name q ps body sc clo) (E : Ev cx X g g' h h') : InnFn cx h' g' f name q ps body sc clo := by
  obtain ⟨pm, cd, ct, e, c, n, nc⟩ := x.fn
  refine ⟨pm, cd, ct, E.imm _ _ e rfl n, ?_, E.free e n, fun c' e' => ?_⟩
  · obtain ⟨c, o, vs, t, e1, e2, e3, e4, e5⟩ := c
    exact ⟨c, o, vs, t, e1, E.imm _ _ e2 (by
      show Imm o = true
      unfold Imm; rw [e4, e3]; rfl) (nc c e1), e3, e4, e5⟩
  · obtain ⟨c, o, vs, t, e1, e2, _⟩ := c
    rw [e1] at e'; cases e'
    exact E.free e2 (nc _ e1)

theorem innTail_ok (G : CxG cx) {name : Str} {ps : Arguments} {body : List Stmt} {scope : Scope} {q : Str} {cd ct : Value} {clo : List (Str × Addr)} (hd : docOf body = none) (hge : env.globals = mainGlobals) (hw : W cx σ g s.heap s.toks) (hcd : CodeObjOf s.heap cd q) {Q : Value → Shared → Prop} {E : Value → Shared → Prop}
    (hQ : ∀ pm, Q (.ref s.heap.objs.size) { s with heap := s.heap.push { cls := .type "function", data := .func (innFd name q ps body scope clo pm cd ct) } }) :
    wpAny (model prog w) A (do
      let b ← builtinsFor env.globals env.builtins
      let pm ← nsGet env.globals "__name__"
      let doc ← (match docOf body with | some s => mkText s | none => pure .none : Sem Value)
      newObj (.type "function") (.func { name, qualname := q, params := ps, body := .stmts body, scope, globals := env.globals, closure := clo, closureTuple := ct, code := cd, builtins := b, defaults := .none, kwdefaults := .none, annotations := none, pyModule := pm.getD .none, doc })) Q E s := by
  obtain ⟨mg, mb, og, ob, n1, n2, e1, c1, e2, c2, ⟨bm, o, b1, b2, b3, b4, b5, b6⟩, _⟩ := G.ns
  have k1 := hw.old.get_of_cls e1 c1
  have m1 : s.heap.Ns env.globals mg := by rw [hge]; exact n1.at' fun o q => by rw [e1] at q; cases q; exact k1
  have k3 := hw.old.get_of_cls b3 (by rw [b4]; exact fun q => nomatch q)
  rw [hd]
  refine wpAny_bind (wpAny_builtinsFor m1 b1 b2 k3 b4 b5 b6 (wpAny_bind (wpAny_nsGet m1 (wpAny_bind (wpAny_pure (wpAny_newObj_type ?_ (by size_fits)))))))
  rw [hge]
  exact hQ _

theorem innMake_ok (G : CxG cx) {name : Str} {ps : Arguments} {body : List Stmt} {scope : Scope} {pos : Pos} {t : Addr × Addr × Str} (hp : plainPs ps = true) (hd : docOf body = none) (ht : t ∈ cx.tabs) (hcode : env.code = .ref t.1) (hq : env.qual ++ name = t.2.2) (hkn : env.kindOf name = some .cell)
    (hcl : ∀ n, (n, NameKind.free) ∈ scope.names → (env.cells.lookup n).isSome = true) (hne : (clOf env scope.names []).isEmpty = false) (hf : FrR cx env g ρ s.heap) (hw : W cx σ g s.heap s.toks) :
    wpAny (model prog w) A (makeFunction name (qualnameIn env name name) ps (.stmts body) scope env [] [] [] pos pos.line) (fun fv s' => ∃ f, fv = .ref f ∧ W cx σ g s'.heap s'.toks ∧ Next cx g s g s' ∧ InnFn cx s'.heap g f name t.2.2 ps body scope (clOf env scope.names [])) Z s := by
  have hps := plain_form hp
  generalize ps.args = as at hps
  subst hps
  have hqn : qualnameIn env name name = t.2.2 := by
    unfold qualnameIn
    rw [hkn, if_neg (by decide)]; exact hq
  rw [hqn, makeFunction_eq]
  simp only [List.zip_nil_left, List.filterMap_nil, List.isEmpty_nil, if_true, pure_bind]
  unfold makeTail
  rw [closure_ok hcl]
  refine wpAny_bind (wpAny_pure ?_)
  simp only [hne, Bool.false_eq_true, if_false]
  refine wpAny_bind (wpAny_newTextTuple ?_)
  -- the tuple of cells
  generalize hob : ({ cls := .type "tuple", data := .seq ((List.map (fun x : Str × Addr => Value.ref x.2) ((clOf env scope.names []).mergeSort fun a b => a.1.cps.toList ≤ b.1.cps.toList))).toArray } : Obj) = ob
  have W1 : W cx σ g (s.heap.push ob) s.toks := hw.keeps (fun _ _ e => Heap.get?_push_of_some _ e) (Nat.le_refl _)
  have N1 : Next cx g s g { s with heap := s.heap.push ob } := ⟨⟨_, _, rfl⟩, Nat.le_refl _, .push ob⟩
  obtain ⟨qs, hok, htab, hold⟩ := W1.tabs t ht
  have fin : ∀ {s1 : Shared} {cd : Value}, W cx σ g s1.heap s1.toks → Next cx g s g s1 → CodeObjOf s1.heap cd t.2.2 → ∀ pm, ∃ f, (Value.ref s1.heap.objs.size) = .ref f ∧ W cx σ g (s1.heap.push { cls := .type "function", data := .func (innFd name t.2.2 ⟨[], as, none, [], [], none, []⟩ body scope (clOf env scope.names []) pm cd (.ref s.heap.objs.size)) }) s1.toks ∧
      Next cx g s g { s1 with heap := s1.heap.push { cls := .type "function", data := .func (innFd name t.2.2 ⟨[], as, none, [], [], none, []⟩ body scope (clOf env scope.names []) pm cd (.ref s.heap.objs.size)) } } ∧
      InnFn cx (s1.heap.push { cls := .type "function", data := .func (innFd name t.2.2 ⟨[], as, none, [], [], none, []⟩ body scope (clOf env scope.names []) pm cd (.ref s.heap.objs.size)) }) g f name t.2.2 ⟨[], as, none, [], [], none, []⟩ body scope (clOf env scope.names []) := fun {s1 cd} W2 N2 hcd pm => by
    refine ⟨_, rfl, W2.keeps (fun _ _ e => Heap.get?_push_of_some _ e) (Nat.le_refl _), N2.trans ⟨⟨_, _, rfl⟩, Nat.le_refl _, .push _⟩, ⟨pm, cd, _, Heap.get?_push_size _ rfl, hcd.keeps fun _ _ e => Heap.get?_push_of_some _ e, W2.new (get_size _), fun c e => ?_⟩⟩
    obtain ⟨c', o', vs', t', f1, f2, f3, f4, f5⟩ := hcd
    rw [e] at f1; cases f1
    exact W2.freeCode f2 fun xs n q => by rw [f4] at q; cases q
  cases q : codeAmong pos qs.toList with
  | some cd =>
    refine wpAny_bind (wpAny_functionCode_hit hcode hok q ?_)
    exact innTail_ok (s := { s with heap := s.heap.push ob }) G hd hf.glob W1 (hold pos cd q) (fin W1 N1 (hold pos cd q))
  | none =>
    refine wpAny_bind (wpAny_with_toks (Nat.le_refl s.toks) (wpAny_functionCodeX hcode hok htab q fun c' h' tk hx hge hlt hok' hrec htab' hnew hle => ?_))
    obtain ⟨P', _, _, ⟨⟨o2, vs2, d1, d2, d3, d4⟩, _⟩⟩ := hnew
    obtain ⟨c2, o3, vs3, t3, f1, f2, f3, f4⟩ := hrec
    cases f1
    rw [d1] at f2; cases f2
    have hco : CodeObjOf h' (.ref c') t.2.2 := ⟨c', o2, vs3, t3, rfl, d1, d2, f3, f4⟩
    obtain ⟨W', E'⟩ := W1.code G.ok hle ht hok htab hold hx hok' htab' hco
    exact innTail_ok (s := { s with heap := h', toks := tk }) G hd hf.glob W' hco (fin (s1 := { s with heap := h', toks := tk }) W' (N1.trans ⟨⟨_, _, rfl⟩, hle, E'⟩) hco)
end
end Mine
end
section
set_option maxRecDepth 100000
set_option maxHeartbeats 2000000
set_option linter.unusedVariables false
namespace Mine
open PySem PySem.Calls PyProof.Rows PySem.W PySem.SeqAt

section
variable {prog : Program} {w : World} {A : Around} {s : Shared} {cx : Cx} {fr : Option (List Env)} {K : Nat} {sc : Scope} {σ σ' : Sto} {ρ ρ' : Loc} {v : V} {env : Env} {g : Gh} {f : Addr} {name q : Str} {ps : Arguments} {body : List Stmt} {clo : List (Str × Addr)} {vals : Loc}

structure InnAt (cx : Cx) (h : Heap) (g : Gh) (f : Addr) (name q : Str) (ps : Arguments) (body : List Stmt) (sc : Scope) (clo : List (Str × Addr)) (vals : Loc) : Prop where
  fn : InnFn cx h g f name q ps body sc clo
  cells : ∀ x c, clo.lookup x = some c → (∃ u, h.IsCell c u) ∧ g.free c ∧ cx.h₀.objs.size ≤ c
  inj : ∀ x y c, clo.lookup x = some c → clo.lookup y = some c → x = y
  self : ∃ c, clo.lookup name = some c ∧ h.IsCell c (some (.ref f))
  vals : ∀ x v, lk x vals = some v → ∃ c w, clo.lookup x = some c ∧ h.IsCell c (some w) ∧ VR cx h g v w
theorem InnAt.mono (C : CxOk cx) {X : List Addr} {g' : Gh} {h h' : Heap} (x : InnAt cx h g f name q ps body sc clo vals) (E : Ev cx X g g' h h') (hX : ∀ y c, clo.lookup y = some c → c ∉ X) : InnAt cx h' g' f name q ps body sc clo vals := by
  have kc : ∀ y c u, clo.lookup y = some c → h.IsCell c u → h'.IsCell c u := fun y c u e ⟨oc, hoc, hd⟩ => ⟨oc, E.keepN hoc (x.cells y c e).2.1.1 (hX y c e) (C.notTab (x.cells y c e).2.2) (fun es ep q => by rw [hd] at q; cases q), hd⟩
  refine ⟨x.fn.mono E, fun y c e => ?_, x.inj, ?_, fun y v e => ?_⟩
  · obtain ⟨⟨u, oc, hoc, hd⟩, c1, c2⟩ := x.cells y c e
    exact ⟨⟨u, kc y c u e ⟨oc, hoc, hd⟩⟩, E.free hoc c1, c2⟩
  · obtain ⟨c, e1, e2⟩ := x.self
    exact ⟨c, e1, kc _ _ _ e1 e2⟩
  · obtain ⟨c, wv, e1, e2, e3⟩ := x.vals y v e
    exact ⟨c, wv, e1, kc _ _ _ e1 e2, e3.mono E⟩

theorem def_ok (G : CxG cx) {pos : Pos} {t : Addr × Addr × Str} {scope : Scope} (hp : plainPs ps = true) (hann : annTrees ps none env = []) (hd : docOf body = none) (ht : t ∈ cx.tabs) (hcode : env.code = .ref t.1) (hq : env.qual ++ name = t.2.2) (hkn : env.kindOf name = some .cell) (hfn : env.func ≠ none) (hx : lk name ρ = none)
    (hcl : ∀ n, (n, NameKind.free) ∈ scope.names → (env.cells.lookup n).isSome = true) (hne : (clOf env scope.names []).isEmpty = false) (hf : FrR cx env g ρ s.heap) (hw : W cx σ g s.heap s.toks) :
    wpAny (model prog w) A (exec (.FunctionDef name ps body [] none [] scope none name pos) env) (fun fl s' => fl = .next ∧ ∃ f, (∃ h' tk, s' = { s with heap := h', toks := tk }) ∧ s.toks ≤ s'.toks ∧ W cx σ g s'.heap s'.toks ∧ Ev cx (wr env) g g s.heap s'.heap ∧ FrR cx env g ρ s'.heap ∧
      InnFn cx s'.heap g f name t.2.2 ps body scope (clOf env scope.names []) ∧ ∃ c, env.cells.lookup name = some c ∧ s'.heap.IsCell c (some (.ref f))) Z s := by
  have hdef : defaultsOf ps env = ([], []) := by
    rw [plain_form hp]; rfl
  rw [exec_def, hdef, hann]
  refine wpAny_bind (wpAny_standAt (wpAny_bind (wpAny_holding ?_)))
  refine wpAny_bind (wpAny_evalAll_nil (wpAny_bind (wpAny_holding ?_)))
  refine wpAny_pure (wpAny_holding ?_)
  refine wpAny_bind (m := evalNamed []) (wpAny_pure ?_)
  refine wpAny_mono (innMake_ok (pos := pos) G hp hd ht hcode hq hkn hcl hne hf hw) (fun fv s1 x1 => ?_) fun _ _ z => z.elim
  obtain ⟨f, rfl, W1, N1, I1⟩ := x1
  refine wpAny_bind (wpAny_standAt (wpAny_bind (wpAny_bindName (wpZ (storeCell_ok G.ok hkn hfn hx (hf.mono G.ok N1.evo) W1) fun _ s2 x2 => ?_))))
  obtain ⟨h2, rfl, W2, E2, F2, c2, _⟩ := x2
  refine wpAny_pure ⟨rfl, f, ?_, N1.tok, W2, (frame_weaken N1.evo).trans E2 (fun a m => (F2.free_wr a m).1), F2, I1.mono E2, c2⟩
  obtain ⟨⟨h1, t1, rfl⟩, _, _⟩ := N1
  exact ⟨_, _, rfl⟩

noncomputable def BoP (cx : Cx) (env : Env) (g : Gh) (s : Shared) (σ' : Sto) (v : V) (f : Flow) (s' : Shared) : Prop := ∃ ρ', ExP cx env g s σ' ρ' (.ret v) f s' ∨ (v = .none ∧ ExP cx env g s σ' ρ' .next f s')
theorem BoP.leave {f : Flow} {s₁ s₂ : Shared} (N : Next cx g s g s₁) (hno : ∀ a ∈ wr env, s.heap.get? a = none) (x : BoP cx env g s₁ σ' v f s₂) : ∃ wv, flowV f = wv ∧ EvP cx g s σ' v wv s₂ := by
  obtain ⟨ρ', x | ⟨rfl, x⟩⟩ := x
  · obtain ⟨g2, W2, F2, l2, E2, ⟨h2, t2, rfl⟩, k⟩ := x.elim
    obtain ⟨wv, rfl, hv⟩ := k
    obtain ⟨⟨h1, t1, rfl⟩, l1, E1⟩ := N
    exact ⟨wv, rfl, h2, t2, g2, rfl, Nat.le_trans l1 l2, W2, Ev.drop ((E1.weaken (by simp)).trans E2 (fun a m => (F2.free_wr a m).1)) fun a ha => .inr (hno a ha), hv⟩
  · obtain ⟨g2, W2, F2, l2, E2, ⟨h2, t2, rfl⟩, k⟩ := x.elim
    have k : f = .next := k
    subst k
    obtain ⟨⟨h1, t1, rfl⟩, l1, E1⟩ := N
    exact ⟨.none, rfl, h2, t2, g2, rfl, Nat.le_trans l1 l2, W2, Ev.drop ((E1.weaken (by simp)).trans E2 (fun a m => (F2.free_wr a m).1)) fun a ha => .inr (hno a ha), .none⟩

theorem lookup_of_mem {α : Type} : ∀ {l : List (Str × α)} {x : Str} {a : α}, (x, a) ∈ l → (l.map (·.1)).Nodup → l.lookup x = some a
  | (y, b) :: l, x, a, h, hn => by
    rw [List.map_cons] at hn
    obtain ⟨h1, h2⟩ := List.nodup_cons.mp hn
    rw [List.lookup_cons]
    rcases List.mem_cons.mp h with h | h
    · cases h; simp
    · have : x ≠ y := fun q => h1 (q ▸ List.mem_map_of_mem (f := (·.1)) h)
      rw [beq_false_of_ne this]
      exact lookup_of_mem h h2
theorem zip_look {h : Heap} : ∀ {ns : List Str} {vs : List V} {ws : List Value} {x : Str} {v : V}, ns.Nodup → ns.length = vs.length → VRs cx h g vs ws → lk x (ns.zip vs) = some v → ∃ wv, (ns.zip ws).lookup x = some wv ∧ VR cx h g v wv ∧ x ∈ ns
  | [], _, _, _, _, _, _, _, e => by cases e
  | n :: ns, [], _, _, _, _, hl, _, _ => by simp at hl
  | n :: ns, u :: vs, _, x, v, hn, hl, .cons (w := w1) (ws := wl) h1 h2, e => by
    obtain ⟨hn1, hn2⟩ := List.nodup_cons.mp hn
    unfold lk at e
    simp only [List.zip_cons_cons] at e ⊢
    rw [List.lookup_cons]
    rw [seq_eq] at e
    cases q : x == n with
    | true =>
      rw [q] at e
      cases e
      exact ⟨w1, rfl, h1, by have : x = n := by simpa using q
                             subst this; exact List.mem_cons_self⟩
    | false =>
      rw [q] at e
      obtain ⟨wv, k1, k2, k3⟩ := zip_look hn2 (by simpa using hl) h2 e
      exact ⟨wv, k1, k2, List.mem_cons_of_mem _ k3⟩

theorem inn_call (G : CxG cx) {vs : List V} {ws : List Value} (I : InnAt cx s.heap g f name q ps body sc clo vals) (hp : plainPs ps = true) (hpar : parOk sc (namesOf ps) = true) (hl : (namesOf ps).length = vs.length) (hkind : sc.kind = .function) (hco : sc.isCoroutine = false) (hgen : sc.isGenerator = false)
    (hnc : ∀ x ∈ sc.names, x.2 ≠ .cell) (hnlam : lamOk sc = false) (hvk : ∀ x v, lk x vals = some v → sc.names.lookup x = some .free) (hv : VRs cx s.heap g vs ws) (hw : W cx σ g s.heap s.toks) (hA : Room fr (K + 1) A)
    (hbody : ∀ env s₁, env.scope = sc → env.cells = clo → env.func ≠ none → FrR cx env g ((namesOf ps).zip vs ++ vals) s₁.heap → InnAt cx s₁.heap g f name q ps body sc clo vals → W cx σ g s₁.heap s₁.toks → Room none K (A.deeper env) → wpAny (model prog w) (A.deeper env) (execs body env) (BoP cx env g s₁ σ' v) Z s₁) :
    wpAny (model prog w) A (call (.ref f) ws []) (EvP cx g s σ' v) Z s := by
  obtain ⟨pm, cd, ct, ho, hcd, hfr, hcfr⟩ := I.fn.fn
  obtain ⟨p3, p4⟩ := parOk_some hpar
  have hrec : s.heap.CodeRec cd q := let ⟨c, o, vs, t, e1, e2, e3, e4, e5⟩ := hcd; ⟨c, o, vs, t, e1, e2, e4, e5⟩
  have hbt : BindsTo s (innFd name q ps body sc clo pm cd ct) ⟨ws, []⟩ ((namesOf ps).zip ws) := .of_eq (bind_plain (fd := innFd name q ps body sc clo pm cd ct) (ws := ws) hp rfl p3 (hl.trans hv.length))
  refine wpAny_call (codeAny_call_function (fd := innFd name q ps body sc clo pm cd ct) (by have := hA.depth; omega) ho rfl hco hgen rfl hrec (hbt _ _ _ _ ?_))
  have hloc : ∀ x ∈ (namesOf ps).zip ws, sc.names.lookup x.1 = some .local := fun x hx => by
    rcases p4 x.1 (List.of_mem_zip hx).1 with h | h
    · exact h
    · exact absurd rfl (hnc _ (mem_of_lookup h))
  refine wpAny_newFunctionEnv hnc hloc (fun h₁ hns₁ hsb₁ => ?_) hkind
  dsimp only at hns₁ hsb₁ ⊢
  have hold : ∀ b o, s.heap.get? b = some o → h₁.get? b = some o := fun b o e => hsb₁.extBut b o (Nat.ne_of_lt (Heap.lt_size e)) (Heap.get?_push_of_some _ e)
  have W1 : W cx σ g h₁ (s.toks + ((namesOf ps).zip ws).length) := hw.keeps hold (Nat.le_add_right _ _)
  have N1 : Next cx g s g { s with heap := h₁, toks := s.toks + ((namesOf ps).zip ws).length } := ⟨⟨_, _, rfl⟩, Nat.le_add_right _ _, .keeps hold⟩
  have I1 := I.mono G.ok N1.evo (fun y c e => by simp)
  have hL : s.heap.get? s.heap.objs.size = none := get_size _
  generalize hE : newEnv sc s.heap.objs.size mainGlobals clo (q ++ ".<locals>.") (some f) cd none builtinsNs = env
  have e1 : env.scope = sc := by rw [← hE]; rfl
  have e2 : env.cells = clo := by rw [← hE]; rfl
  have e3 : env.func = some f := by rw [← hE]; rfl
  have e4 : env.locals = s.heap.objs.size := by rw [← hE]; rfl
  have e5 : env.globals = mainGlobals ∧ env.builtins = builtinsNs := by rw [← hE]; exact ⟨rfl, rfl⟩
  have hkof : ∀ x, env.kindOf x = sc.names.lookup x := fun x => by rw [← hE]; rfl
  have hbind : ∀ x v0, lk x ((namesOf ps).zip vs) = some v0 → ∃ wv, ((namesOf ps).zip ws).reverse.lookup x = some wv ∧ VR cx s.heap g v0 wv ∧ x ∈ namesOf ps := fun x v0 e => by
    obtain ⟨wv, b1, b2, b3⟩ := zip_look p3 hl hv e
    refine ⟨wv, lookup_of_mem (List.mem_reverse.mpr (mem_of_lookup b1)) ?_, b2, b3⟩
    rw [List.map_reverse, List.map_fst_zip (by rw [← hv.length, hl]; exact Nat.le_refl _)]
    exact List.pairwise_reverse.mpr (List.Pairwise.imp (fun h => Ne.symm h) p3)
  have F1 : FrR cx env g ((namesOf ps).zip vs ++ vals) h₁ := by
    refine ⟨by rewrite [e1]; exact hkind, e5.1, e5.2, by rewrite [e4]; exact hw.new hL, by rewrite [e4]; exact hw.fresh₀ G.ok, ⟨_, by rewrite [e4]; exact hns₁, fun x v0 e => ?_⟩, fun x c e => ?_, fun h => ?_, fun x h => ?_, fun x y c h1 h2 => ?_⟩
    · rw [lk_lookup, List.lookup_append, ← lk_lookup, ← lk_lookup] at e
      cases hz : lk x ((namesOf ps).zip vs) with
      | some v1 =>
        rw [hz] at e
        cases e
        obtain ⟨wv, b1, b2, b3⟩ := hbind x _ hz
        refine .inl ⟨?_, wv, b1, b2.mono N1.evo⟩
        rw [hkof]
        rcases p4 x b3 with h | h
        · exact h
        · exact absurd rfl (hnc _ (mem_of_lookup h))
      | none =>
        rw [hz] at e
        have e : lk x vals = some v0 := e
        obtain ⟨c, wv, c1, c2, c3⟩ := I1.vals x v0 e
        exact .inr ⟨.inr (by rw [hkof]; exact hvk x v0 e), c, wv, by rw [e2]; exact c1, c2, c3⟩
    · rw [e2] at e; exact I1.cells x c e
    · rw [e1, hnlam] at h; cases h
    · rw [hkof] at h; exact absurd rfl (hnc _ (mem_of_lookup h))
    · rw [e2] at h1 h2; exact I1.inj x y c h1 h2
  refine ⟨W1.nolim, codeAny_func ?_⟩
  have hb := hbody env { s with heap := h₁, toks := s.toks + ((namesOf ps).zip ws).length } e1 e2 (by rw [e3]; simp) F1 I1 W1 hA.deeper
  subst hE
  refine wpAny_mono hb (fun fl s2 x2 => ?_) (fun _ _ (z : Z _ _) => z.elim)
  obtain ⟨wv, q1, x3⟩ := x2.leave N1 (fun a ha => by
    rw [wr_one (fun x h => by rw [hkof] at h; exact absurd rfl (hnc _ (mem_of_lookup h))) a ha, e4]; exact hL)
  subst q1
  cases fl <;> exact x3

theorem setItem_plain {l : Addr} {items : List Value} {k : Nat} {t : Tok} {x : Value} {Q : Unit → Shared → Prop} {E : Value → Shared → Prop} (hl : s.heap.PlainList l items.toArray) (hk : k < items.length) (hfit : items.length < 2 ^ 62)
    (hQ : ∀ h', h'.PlainList l (items.set k x).toArray → Heap.SameBut l s.heap h' → Q () { s with heap := h' }) : wpAny (model prog w) A (setItem (.ref l) (.int (k : Int) t) x) Q E s := by
  obtain ⟨n, ho⟩ := id hl
  obtain ⟨j, hj⟩ : ∃ j : Int, j = (k : Int) := ⟨_, rfl⟩
  rw [← hj]
  have hf : Builtin.List.listFitsIndex j = true := fitsIndex_of (by omega) (by omega)
  clear hfit
  have hx : items.toArray[k]? = some (items[k]'hk) := by rw [List.getElem?_toArray, List.getElem?_eq_getElem hk]
  unfold setItem
  try with_reducible refine wpAny_holding ?_
  first | refine wpAny_bind (wpAny_pure ?_) | skip
  refine wpAny_bind (wpAny_sequenceKey hl.isList.typeIs (by decide) ?_)
  refine wpAny_bind (wpAny_callSpecial?_slot (name := Str.ofString "__setitem__") hl.isList.typeIs slot_list_setitem (wpAny_call_entry slot_list_setitem hl.isList.typeIs entry_list_setitem ?_ (args_list_setitem _ _ _)))
  show wpAny _ _ (Builtin.List.listSubscript? (.int j t) >>= _) _ _ s
  refine wpAny_bind (wpAny_listSubscript_int hf ?_)
  subst hj
  show wpAny _ _ ((seqItemAt l k >>= fun r => pure (r.map (k, ·))) >>= _) _ _ s
  refine wpAny_bind (wpAny_bind (wpAny_seqItemAt ho rfl (wpAny_pure ?_)))
  rw [hx]
  have hnew : (s.heap.update l (Obj.mapSeq (·.setIfInBounds k x))).PlainList l (items.set k x).toArray := by
    refine ⟨n, (Heap.get?_update_self _ ho rfl).trans ?_⟩
    simp [Obj.mapSeq]
  show wpAny _ _ (setSeqItemAt l k x >>= _) _ _ s
  refine wpAny_bind (wpAny_setSeqItemAt ho rfl ?_)
  first
    | exact wpAny_bind (wpAny_pure (wpAny_pure ⟨.none, rfl, wpAny_pure (hQ _ hnew (Heap.SameBut.update ..))⟩))
    | exact wpAny_pure ⟨.none, rfl, wpAny_pure (hQ _ hnew (Heap.SameBut.update ..))⟩
end
end Mine
end
section
set_option maxRecDepth 100000
set_option maxHeartbeats 2000000
set_option linter.unusedVariables false
namespace Mine
open PySem PySem.Calls PyProof.Rows PySem.W PySem.SeqAt

noncomputable def fn0 : Fn := ⟨⟨[], [], none, [], [], none, []⟩, [], { kind := .function, names := [], isGenerator := false, isCoroutine := false, more := [] }⟩
noncomputable def fnGet (n : Str) : Fn := (fnOf n).getD fn0
structure Inner where
  name : Str
  ps : Arguments
  body : List Stmt
  sc : Scope
noncomputable def innGet (fn : Fn) (i : Nat) : Inner := match fn.body[i]? with
  | some (.FunctionDef nm a b _ _ _ sc _ _ _) => ⟨nm, a, b, sc⟩
  | _ => ⟨"", fn0.ps, [], fn0.sc⟩

section
variable {prog : Program} {w : World} {cx : Cx} {K : Nat} {σ σ' σ'' : Sto} {ρ ρ' : Loc} {v : V} {f : Addr} {q : Str} {N : Inner} {clo : List (Str × Addr)} {vals : Loc}

noncomputable def PI (cx : Cx) (N : Inner) (q : Str) (clo : List (Str × Addr)) (vals : Loc) (f : Addr) (env : Env) (g : Gh) (h : Heap) : Prop := env.cells = clo ∧ env.scope = N.sc ∧ InnAt cx h g f N.name q N.ps N.body N.sc clo vals ∧ ∀ y c, clo.lookup y = some c → c ≠ env.locals
theorem PI.pres (C : CxOk cx) (hnc : ∀ x ∈ N.sc.names, x.2 ≠ .cell) : Pres cx (PI cx N q clo vals f) := ⟨fun {env g g' h h'} x E => by
  obtain ⟨h1, h2, h3, h4⟩ := x
  refine ⟨h1, h2, h3.mono C E fun y c e m => ?_, h4⟩
  have := wr_one (env := env) (fun x hx => by
    have hx : N.sc.names.lookup x = some .cell := by rw [← h2]; exact hx
    exact absurd rfl (hnc _ (mem_of_lookup hx))) c m
  exact h4 y c e this⟩
theorem PI.of {env : Env} {g : Gh} {h : Heap} (h1 : env.cells = clo) (h2 : env.scope = N.sc) (h3 : InnAt cx h g f N.name q N.ps N.body N.sc clo vals) (hf : FrR cx env g ρ h) : PI cx N q clo vals f env g h := by
  refine ⟨h1, h2, h3, fun y c hy e => ?_⟩
  obtain ⟨m, ⟨o, es, ep, e3, e4, _⟩, _⟩ := hf.ns
  obtain ⟨⟨u, oc, e1, e2⟩, _⟩ := hf.cells y c (by rw [h1]; exact hy)
  rw [e, e3] at e1; cases e1
  rw [e4] at e2; cases e2

theorem EvS.inn (G : CxG cx) (hP : PresE cx (PI cx N q clo vals f)) {es : List Expr} {vs : List V} {p p1 : Pos} (har : ArS prog w cx (PI cx N q clo vals f) K N.sc ρ σ es vs σ') (hne : es ≠ []) (hkind : N.sc.kind = .function) (hfree : N.sc.names.lookup N.name = some .free)
    (hd : (N.name == ("__debug__" : Str)) = false) (hcd : (N.name == ("__classdict__" : Str)) = false)
    (hc : ∀ {fr : Option (List Env)} {g : Gh} {s : Shared} {A : Around} {ws : List Value}, InnAt cx s.heap g f N.name q N.ps N.body N.sc clo vals → VRs cx s.heap g vs ws → W cx σ' g s.heap s.toks → Room fr K A → wpAny (model prog w) A (call (.ref f) ws []) (EvP cx g s σ'' v) Z s) :
    EvS prog w cx (PI cx N q clo vals f) K N.sc σ ρ (.Call (.Name N.name p1) es [] p) v σ'' := fun fr env g s A hp hs hf hw hA => by
  show wpAny _ A (do callWith p (← eval (.Name N.name p1) env) [] (backTo p (starEach es env)) (backToKw p (keywordEach [] env))) _ _ s
  obtain ⟨h1, h2, h3, h4⟩ := id hp
  obtain ⟨c, c1, c2⟩ := h3.self
  refine wpAny_bind (wpAny_Name (wpAny_loadName_free (by rw [h2]; exact hkind) (show env.kindOf N.name = some .free by unfold Env.kindOf; rw [h2]; exact hfree) (by rw [h1]; exact c1) c2 ?_ hcd) hd)
  have e0 : backToKw p (keywordEach [] env) = [] := rfl
  rw [e0]
  refine callWith_of (P := fun h => ∃ k, (k = Keeper.frame ∨ k = Keeper.machine ∨ k = Keeper.boundFrame) ∧ Looks (model prog w) h (keeperOf (.ref f)) k) ?_ (fun _ x => x) ?_
  · rw [(har.any (pos := p) (env := env)).1]; rfl
  refine har.args hne (wpZ (ArS.sp (P := PI cx N q clo vals f) G hP har hp hs hf hw hA) fun ws s2 x2 => ?_)
  refine x2.k fun g2 W2 V2 N2 => ?_
  have hp2 := hP.at_ hp N2.evo
  obtain ⟨pm, cd, ct, ho, _⟩ := hp2.2.2.1.fn.fn
  exact ⟨⟨.frame, .inl rfl, (Looks.ld (part := none) ho).andThen .now⟩, wpZ (hc hp2.2.2.1 V2 W2 hA) fun w4 s4 x4 => N2.ev x4⟩
theorem EvS.item (G : CxG cx) {P : Env → Gh → Heap → Prop} {sc : Scope} (hP : PresE cx P) {o i : Expr} {vo : V} {k : Int} {vs : List V} {p : Pos} (ho : EvS prog w cx P K sc σ ρ o vo σ) (hi : EvS prog w cx P K sc σ ρ i (.int k) σ) (e1 : itemsT σ vo = some vs) (hk : small k = true) (e2 : idx vs k = some v) : EvS prog w cx P K sc σ ρ (.Subscript o i p) v σ := fun fr env g s A hp hs hf hw hA => by
  refine wpSub (wpZ (ho hp hs hf hw hA) fun wo s1 x1 => ?_)
  refine x1.k fun g1 W1 V1 N1 => ?_
  refine wpZ (hi (hP.at_ hp N1.evo) hs (hf.mono G.ok N1.evo) W1 hA) fun wi s2 x2 => ?_
  refine x2.k fun g2 W2 V2 N2 => ?_
  apply V2.intE; intro u
  ·
    obtain ⟨T, id, h1, h2, h3⟩ := item_ok (prog := prog) (w := w) (A := A) (u := u) W2 (V1.mono N2.evo) e1 hk e2
    exact ⟨T, id, h1, h2, wpZ h3 fun _ _ x => N1.ev (N2.ev x)⟩
end

noncomputable def valD (n : Nat) : List Int → Int
  | [] => 0
  | d :: r => d + 2 ^ n * valD n r
theorem valD_append (n : Nat) : ∀ a b : List Int, valD n (a ++ b) = valD n a + 2 ^ (n * a.length) * valD n b
  | [], b => by simp [valD]
  | d :: a, b => by
    simp only [List.cons_append, valD, valD_append n a b, List.length_cons]
    rw [show n * (a.length + 1) = n + n * a.length from by rw [Nat.mul_add, Nat.mul_one, Nat.add_comm], Int.pow_add]
    rw [Int.mul_add, Int.mul_assoc]; omega
theorem valD_nonneg (n : Nat) : ∀ a : List Int, (∀ d ∈ a, 0 ≤ d) → 0 ≤ valD n a
  | [], _ => Int.le_refl _
  | d :: a, h => by
    have h1 := h d List.mem_cons_self
    have h2 := valD_nonneg n a fun x hx => h x (List.mem_cons_of_mem _ hx)
    have h3 : (0 : Int) ≤ 2 ^ n := Int.le_of_lt (Int.pow_pos (by decide))
    have := Int.mul_nonneg h3 h2
    show 0 ≤ d + 2 ^ n * valD n a
    omega
theorem valD_drop_le (n : Nat) : ∀ (k : Nat) (a : List Int), (∀ d ∈ a, 0 ≤ d) → valD n (a.drop k) ≤ valD n a
  | 0, a, _ => Int.le_refl _
  | k + 1, [], _ => Int.le_refl _
  | k + 1, d :: a, h => by
    have h1 := h d List.mem_cons_self
    have h2 := valD_drop_le n k a fun x hx => h x (List.mem_cons_of_mem _ hx)
    have h3 := valD_nonneg n a fun x hx => h x (List.mem_cons_of_mem _ hx)
    have h4 : (1 : Int) ≤ 2 ^ n := Int.pow_pos (by decide : (0 : Int) < 2)
    have h5 : 1 * valD n a ≤ 2 ^ n * valD n a := Int.mul_le_mul_of_nonneg_right h4 h3
    show valD n (a.drop k) ≤ d + 2 ^ n * valD n a
    omega
theorem valD_take_le (n : Nat) : ∀ (k : Nat) (a : List Int), (∀ d ∈ a, 0 ≤ d) → valD n (a.take k) ≤ valD n a
  | 0, a, h => by simpa [valD] using valD_nonneg n a h
  | k + 1, [], _ => Int.le_refl _
  | k + 1, d :: a, h => by
    have h2 := valD_take_le n k a fun x hx => h x (List.mem_cons_of_mem _ hx)
    have h4 : (0 : Int) ≤ 2 ^ n := Int.le_of_lt (Int.pow_pos (by decide))
    have h5 := Int.mul_le_mul_of_nonneg_left h2 h4
    show d + 2 ^ n * valD n (a.take k) ≤ d + 2 ^ n * valD n a
    omega
end Mine
end
section
set_option maxRecDepth 100000
set_option maxHeartbeats 4000000
set_option linter.unusedVariables false
namespace Mine
open PySem PySem.Calls PyProof.Rows PySem.W PySem.SeqAt

noncomputable def D2 : Fn := fnGet "_digits2int"
noncomputable def D2i : Inner := innGet D2 0

noncomputable def sl (ds : List Int) (L R : Nat) : List Int := (ds.take R).drop L
theorem sl_split {ds : List Int} {L M R : Nat} (h1 : L ≤ M) (h2 : M ≤ R) : sl ds L R = sl ds L M ++ sl ds M R := by
  unfold sl
  have e1 : ds.take R = ds.take M ++ (ds.take R).drop M := by
    have := List.take_append_drop M (ds.take R)
    rw [List.take_take, Nat.min_eq_left h2] at this
    exact this.symm
  by_cases hM : M ≤ ds.length
  · conv => lhs; rw [e1]
    rw [List.drop_append_of_le_length (by rw [List.length_take]; omega)]
  · have : (ds.take R).drop M = [] := List.drop_eq_nil_of_le (by rw [List.length_take]; omega)
    rw [this, List.append_nil]
    have h3 : ds.take R = ds.take M := by rw [List.take_of_length_le (by omega), List.take_of_length_le (by omega)]
    rw [h3]
theorem sl_len {ds : List Int} {L R : Nat} (h : R ≤ ds.length) : (sl ds L R).length = R - L := by unfold sl; rw [List.length_drop, List.length_take]; omega
theorem sl_one {ds : List Int} {L : Nat} (h : L < ds.length) : sl ds L (L + 1) = [ds[L]'h] := by
  unfold sl
  rw [List.take_succ_eq_append_getElem h, List.drop_append_of_le_length (by rw [List.length_take]; omega)]
  rw [List.drop_eq_nil_of_le (by rw [List.length_take]; omega)]; rfl
theorem sl_mem {ds : List Int} {L R : Nat} {d : Int} (h : d ∈ sl ds L R) : d ∈ ds := List.mem_of_mem_take (List.mem_of_mem_drop h)
theorem sl_val {n : Nat} {ds : List Int} {L R : Nat} (h : ∀ d ∈ ds, 0 ≤ d) : 0 ≤ valD n (sl ds L R) ∧ valD n (sl ds L R) ≤ valD n ds := by
  refine ⟨valD_nonneg n _ fun d hd => h d (sl_mem hd), ?_⟩
  have h1 := valD_drop_le n L (ds.take R) fun d hd => h d (List.mem_of_mem_take hd)
  have h2 := valD_take_le n R ds h
  exact Int.le_trans h1 h2

section
variable {prog : Program} {w : World} {cx : Cx} {K0 : Nat} {σ : Sto} {f : Addr} {q : Str} {clo : List (Str × Addr)} {vd : V} {ds : List Int} {n : Nat}

theorem mid_eq (L R : Nat) : Int.fdiv ((L : Int) + (R : Int)) (2 ^ ((1 : Int).toNat)) = (((L + R) / 2 : Nat) : Int) := by
  have : ((2 : Int) ^ ((1 : Int).toNat)) = 2 := by decide
  rw [this, Int.fdiv_eq_ediv_of_nonneg _ (by decide)]
  omega

noncomputable def d2vals (vd : V) (n : Nat) : Loc := [("digits", vd), ("n", .int (n : Int))]

theorem d2_inner (G : CxG cx) (hds : itemsT σ vd = some (ds.map .int)) (hpos : ∀ d ∈ ds, 0 ≤ d) (hval : valD n ds < 2 ^ 64) (hlen : ds.length ≤ 1000) (hn : n ≤ 64) : ∀ (k L R : Nat), R - L ≤ k → L < R → R ≤ ds.length →
    ∀ {fr : Option (List Env)} {g : Gh} {s : Shared} {A : Around} {ws : List Value}, InnAt cx s.heap g f D2i.name q D2i.ps D2i.body D2i.sc clo (d2vals vd n) → VRs cx s.heap g [.int (L : Int), .int (R : Int)] ws → W cx σ g s.heap s.toks → Room fr (K0 + k) A →
    wpAny (model prog w) A (call (.ref f) ws []) (EvP cx g s σ (.int (valD n (sl ds L R)))) Z s := by
  have hnc : ∀ x ∈ D2i.sc.names, x.2 ≠ .cell := by decide +kernel
  have hP : Pres cx (PI cx D2i q clo (d2vals vd n) f) := PI.pres G.ok hnc
  intro k
  induction k with
  | zero => intro L R h1 h2; omega
  | succ k ih =>
    intro L R hk hLR hR fr g s A ws hI hv hw hA
    refine inn_call (K := K0 + k) G hI (by decide +kernel) (by decide +kernel) rfl (by decide +kernel) (by decide +kernel) (by decide +kernel) hnc (by decide +kernel) ?_ hv hw hA fun env s₁ h1 h2 h3 hf hI1 hw1 hA1 => ?_
    · intro x v hx
      rw [lk_lookup] at hx
      have := mem_of_lookup hx
      simp only [d2vals, List.mem_cons, Prod.mk.injEq, List.not_mem_nil, or_false] at this
      rcases this with ⟨rfl, _⟩ | ⟨rfl, _⟩ <;> decide +kernel
    have hp := PI.of (N := D2i) h2 h1 hI1 hf
    have hs : ScE env D2i.sc := .of_eq h1 h3
    by_cases hone : L + 1 = R
    · have hx : ExS prog w cx (PI cx D2i q clo (d2vals vd n) f) (K0 + k) D2i.sc σ ((namesOf D2i.ps).zip [.int (L : Int), .int (R : Int)] ++ d2vals vd n) D2i.body (.ret (.int (valD n (sl ds L R)))) σ ((namesOf D2i.ps).zip [.int (L : Int), .int (R : Int)] ++ d2vals vd n) := by
        refine ExS.ifret (k := true) G hP.e (TsS.cmp G hP.e (EvS.bin G hP.e (EvS.nm G rfl rfl) (EvS.con rfl) fun _ h => AutoIntOps.add_0 h) (EvS.nm G rfl rfl) ?_ rfl) (ExS.ret G (EvS.item G hP.e (EvS.nm G rfl rfl) (EvS.nm G rfl rfl) hds ?_ ?_))
        · simp only [icmp]
          exact congrArg some (decide_eq_true (by omega))
        · exact Nat.ble_eq_true_of_le (by show (L : Int).natAbs + 1 ≤ 2 ^ 60; omega)
        · have hLl : L < ds.length := by omega
          have e0 : decide ((0 : Int) ≤ (L : Int)) = true := decide_eq_true (by omega)
          unfold idx
          simp only [e0, Int.toNat_natCast]
          rw [List.getElem?_map, List.getElem?_eq_getElem hLl, ← hone, sl_one hLl]
          simp [valD]
      exact wpZ (hx hp hs hf hw1 hA1) fun fl s2 x2 => ⟨_, .inl x2⟩
    · obtain ⟨M, hM⟩ : ∃ M, M = (L + R) / 2 := ⟨_, rfl⟩
      have hLM : L < M := by omega
      have hMR : M < R := by omega
      have hsh : ((M : Int) - (L : Int)) * (n : Int) = ((n * (M - L) : Nat) : Int) := by
        rw [Int.mul_comm, Int.natCast_mul, Int.ofNat_sub (Nat.le_of_lt hLM)]
      have hb : (n * (M - L) : Nat) ≤ 1000000 := by
        have := Nat.mul_le_mul hn (show M - L ≤ 1000 by omega)
        omega
      obtain ⟨v1, v2⟩ := sl_val (n := n) (L := M) (R := R) hpos
      have hres : valD n (sl ds M R) * 2 ^ (((n * (M - L) : Nat) : Int).toNat) + valD n (sl ds L M) = valD n (sl ds L R) := by
        rw [sl_split (Nat.le_of_lt hLM) (Nat.le_of_lt hMR), valD_append, sl_len (by omega), Int.toNat_natCast, Int.mul_comm, Int.add_comm]
      have hx : ∃ ρ', ExS prog w cx (PI cx D2i q clo (d2vals vd n) f) (K0 + k) D2i.sc σ ((namesOf D2i.ps).zip [.int (L : Int), .int (R : Int)] ++ d2vals vd n) D2i.body (.ret (.int (valD n (sl ds L R)))) σ ρ' := by
        rw [← hres]
        refine ⟨_, ExS.iff (k := false) G hP (TsS.cmp G hP.e (EvS.bin G hP.e (EvS.nm G rfl rfl) (EvS.con rfl) fun _ h => AutoIntOps.add_0 h) (EvS.nm G rfl rfl) ?_ rfl) ExS.nil
          (ExS.asg G hP (EvS.bin (k := (M : Int)) G hP.e (EvS.bin G hP.e (EvS.nm G rfl rfl) (EvS.nm G rfl rfl) fun _ h => AutoIntOps.add_0 h) (EvS.con rfl) fun _ h => rshift_int (by decide) (by rw [mid_eq, ← hM]; exact h)) rfl rfl (fun _ => rfl)
          (ExS.asg G hP (EvS.bin (k := ((n * (M - L) : Nat) : Int)) G hP.e (EvS.bin G hP.e (EvS.nm G rfl rfl) (EvS.nm G rfl rfl) fun _ h => AutoIntOps.sub_0 h) (EvS.nm G rfl rfl) fun _ h => AutoIntOps.mul_0 (by rw [hsh]; exact h) (IntMulOk.of_left (intBits_le_64 (by omega) (by omega)))) rfl rfl (fun _ => rfl)
          (ExS.ret G (EvS.bin G hP.e (EvS.bin G hP.e (EvS.inn G hP.e (.cons (EvS.nm G rfl rfl) (fun _ _ => rfl) (.cons (EvS.nm G rfl rfl) (fun _ _ => rfl) (.nil _))) (by simp) (by decide +kernel) (by decide +kernel) (by decide +kernel) (by decide +kernel) (ih M R (mid2 hk hLM hLR) hMR hR)) (EvS.nm G rfl rfl) fun _ h => lshift_int_small (by omega) (by omega) (by omega) h)
            (EvS.inn G hP.e (.cons (EvS.nm G rfl rfl) (fun _ _ => rfl) (.cons (EvS.nm G rfl rfl) (fun _ _ => rfl) (.nil _))) (by simp) (by decide +kernel) (by decide +kernel) (by decide +kernel) (by decide +kernel) (ih L M (mid1 hk hLM hMR) hLM (by omega))) fun _ h => AutoIntOps.add_0 h))))⟩
        · simp only [icmp]
          exact congrArg some (decide_eq_false (by omega))
      obtain ⟨ρ', hx⟩ := hx
      exact wpZ (hx hp hs hf hw1 hA1) fun fl s2 x2 => ⟨_, .inl x2⟩
end
end Mine
end
section
set_option maxRecDepth 100000
set_option maxHeartbeats 4000000
set_option linter.unusedVariables false
namespace Mine
open PySem PySem.Calls PyProof.Rows PySem.W PySem.SeqAt

section
variable {prog : Program} {w : World} {cx : Cx} {P : Env → Gh → Heap → Prop} {K : Nat} {sc : Scope} {σ σ' σ'' : Sto} {ρ ρ' ρ'' : Loc} {v : V} {fl : Fl} {f : Addr} {q : Str} {N : Inner} {vals : Loc}

theorem EvS.callB (G : CxG cx) (hX : CxX cx) (hP : PresE cx P) (hfn : ∀ nm a, cx.fnA nm = some a → FnIn cx nm a) {fe : Expr} {b : BI} {es : List Expr} {vs : List V} {p : Pos} (hf0 : EvS prog w cx P K sc σ ρ fe (.bi b) σ) (har : ArS prog w cx P K sc ρ σ es vs σ') (hne : es ≠ []) (hc : biF b σ' vs = some v)
    (he : ∀ env, eval (.Call fe es [] p) env = (do callWith p (← eval fe env) [] (backTo p (starEach es env)) (backToKw p (keywordEach [] env)))) : EvS prog w cx P K sc σ ρ (.Call fe es [] p) v σ' := fun fr env g s A hp hs hf hw hA => by
  rw [he]
  refine wpAny_bind (wpZ (hf0 hp hs hf hw hA) fun wf s1 x1 => ?_)
  refine x1.k fun g1 W1 V1 N1 => ?_
  have e0 : backToKw p (keywordEach [] env) = [] := rfl
  rw [e0]
  refine callWith_of (P := fun h => ∃ k, (k = Keeper.frame ∨ k = Keeper.machine ∨ k = Keeper.boundFrame) ∧ Looks (model prog w) h (keeperOf wf) k) ?_ (fun _ x => x) ?_
  · rw [(har.any (pos := p) (env := env)).1]; rfl
  refine har.args hne (wpZ (ArS.sp (P := P) G hP har (hP.at_ hp N1.evo) hs (hf.mono G.ok N1.evo) W1 hA) fun ws s2 x2 => ?_)
  refine x2.k fun g2 W2 V2 N2 => ?_
  have Vf := V1.mono N2.evo
  refine ⟨keeper_ok hfn rfl Vf W2, wpZ (callBi_ok (ks := []) hX (by show (biF b σ' vs).bind _ = _; rw [hc]; rfl) Vf V2 ⟨rfl, .nil⟩ W2 hA) fun w4 s4 x4 => N1.ev (N2.ev x4)⟩
theorem EvS.ife (G : CxG cx) (hP : PresE cx P) {t b o : Expr} {p : Pos} {k : Bool} (ht : TsS prog w cx P K sc σ ρ t k) (hb : EvS prog w cx P K sc σ ρ (if k = true then b else o) v σ') : EvS prog w cx P K sc σ ρ (.IfExp t b o p) v σ' := fun fr env g s A hp hs hf hw hA => by
  refine wpAny_IfExp (wpZ (ht hp hs hf hw hA) fun b1 s1 x1 => ?_)
  obtain ⟨rfl, g1, W1, N1⟩ := x1.elim
  cases b1
  · exact wpZ (hb (hP.at_ hp N1.evo) hs (hf.mono G.ok N1.evo) W1 hA) fun wv s2 x2 => N1.ev x2
  · exact wpZ (hb (hP.at_ hp N1.evo) hs (hf.mono G.ok N1.evo) W1 hA) fun wv s2 x2 => N1.ev x2

structure PO (cx : Cx) (N : Inner) (q : Str) (vals : Loc) (f : Addr) (env : Env) (g : Gh) (h : Heap) : Prop where
  inn : InnAt cx h g f N.name q N.ps N.body N.sc (clOf env N.sc.names []) vals
  kind : env.kindOf N.name = some .cell
  cell : ∃ c, env.cells.lookup N.name = some c ∧ h.IsCell c (some (.ref f)) ∧ g.free c ∧ cx.h₀.objs.size ≤ c
theorem PO.pres (C : CxOk cx) : PresE cx (PO cx N q vals f) := ⟨fun {env g g' h h'} x E => by
  obtain ⟨h1, h2, c, h3, ⟨oc, h4, h4'⟩, h5, h6⟩ := x
  exact ⟨h1.mono C E (fun _ _ _ => by simp), h2, c, h3, ⟨oc, E.keepN h4 h5.1 (by simp) (C.notTab h6) (fun es ep q => by rw [h4'] at q; cases q), h4'⟩, E.free h4 h5, h6⟩⟩
theorem PO.of {env : Env} {g : Gh} {h : Heap} (hf : FrR cx env g ρ h) (hI : InnFn cx h g f N.name q N.ps N.body N.sc (clOf env N.sc.names [])) (hk : env.kindOf N.name = some .cell) (hself : ∃ c, env.cells.lookup N.name = some c ∧ h.IsCell c (some (.ref f)))
    (hfree : ∀ x, (x, NameKind.free) ∈ N.sc.names → (env.cells.lookup x).isSome = true) (hme : (N.name, NameKind.free) ∈ N.sc.names) (hvals : ∀ x v, lk x vals = some v → (x, NameKind.free) ∈ N.sc.names ∧ lk x ρ = some v ∧ env.kindOf x = some .cell) : PO cx N q vals f env g h := by
  have look : ∀ x c, (x, NameKind.free) ∈ N.sc.names → env.cells.lookup x = some c → (clOf env N.sc.names []).lookup x = some c := fun x c hm e => by rw [clOf_lookup, if_pos hm, e]; rfl
  have back : ∀ x c, (clOf env N.sc.names []).lookup x = some c → env.cells.lookup x = some c := fun x c e => by
    rw [clOf_lookup] at e
    split at e
    · rename_i hm
      obtain ⟨c', hc'⟩ := Option.isSome_iff_exists.mp (hfree x hm)
      rw [hc'] at e; rw [hc']; exact e
    · cases e
  obtain ⟨c, c1, c2⟩ := hself
  obtain ⟨_, c3, c4⟩ := hf.cells _ _ c1
  refine ⟨⟨hI, fun x c e => hf.cells x c (back x c e), fun x y c e1 e2 => hf.inj x y c (back x c e1) (back y c e2), ⟨c, look _ _ hme c1, c2⟩, fun x v e => ?_⟩, hk, c, c1, c2, c3, c4⟩
  obtain ⟨m1, m2, m3⟩ := hvals x v e
  obtain ⟨m, _, hm⟩ := hf.ns
  rcases hm x v m2 with ⟨k, _⟩ | ⟨_, c, wv, k1, k2, k3⟩
  · rw [m3] at k; cases k
  · exact ⟨c, wv, look x c m1 k1, k2, k3⟩

theorem EvS.innO (G : CxG cx) {es : List Expr} {vs : List V} {p p1 : Pos} (har : ArS prog w cx (PO cx N q vals f) K sc ρ σ es vs σ') (hne : es ≠ []) (hd : (N.name == ("__debug__" : Str)) = false) (hcd : (N.name == ("__classdict__" : Str)) = false)
    (hc : ∀ {fr : Option (List Env)} {clo : List (Str × Addr)} {g : Gh} {s : Shared} {A : Around} {ws : List Value}, InnAt cx s.heap g f N.name q N.ps N.body N.sc clo vals → VRs cx s.heap g vs ws → W cx σ' g s.heap s.toks → Room fr K A → wpAny (model prog w) A (call (.ref f) ws []) (EvP cx g s σ'' v) Z s) :
    EvS prog w cx (PO cx N q vals f) K sc σ ρ (.Call (.Name N.name p1) es [] p) v σ'' := fun fr env g s A hp hs hf hw hA => by
  show wpAny _ A (do callWith p (← eval (.Name N.name p1) env) [] (backTo p (starEach es env)) (backToKw p (keywordEach [] env))) _ _ s
  obtain ⟨c, c1, c2, _⟩ := hp.cell
  have hP := PO.pres (N := N) (q := q) (vals := vals) (f := f) G.ok
  refine wpAny_bind (wpAny_Name (wpAny_loadName_cell hf.kind hp.kind c1 c2 ?_) hd)
  have e0 : backToKw p (keywordEach [] env) = [] := rfl
  rw [e0]
  refine callWith_of (P := fun h => ∃ k, (k = Keeper.frame ∨ k = Keeper.machine ∨ k = Keeper.boundFrame) ∧ Looks (model prog w) h (keeperOf (.ref f)) k) ?_ (fun _ x => x) ?_
  · rw [(har.any (pos := p) (env := env)).1]; rfl
  refine har.args hne (wpZ (ArS.sp (P := PO cx N q vals f) G hP har hp hs hf hw hA) fun ws s2 x2 => ?_)
  refine x2.k fun g2 W2 V2 N2 => ?_
  have hp2 := hP.at_ hp N2.evo
  obtain ⟨pm, cd, ct, ho, _⟩ := hp2.inn.fn.fn
  exact ⟨⟨.frame, .inl rfl, (Looks.ld (part := none) ho).andThen .now⟩, wpZ (hc hp2.inn V2 W2 hA) fun w4 s4 x4 => N2.ev x4⟩
end
end Mine
end
section
set_option maxRecDepth 100000
set_option maxHeartbeats 4000000
set_option linter.unusedVariables false
namespace Mine
open PySem PySem.Calls PyProof.Rows PySem.W PySem.SeqAt

noncomputable def InnOk (cx : Cx) (a : Addr) (name : Str) : Prop := ∃ o fd t, cx.h₀.get? a = some o ∧ o.data = .func fd ∧ t ∈ cx.tabs ∧ fd.code = .ref t.1 ∧ (fd.qualname ++ ".<locals>.") ++ name = t.2.2

theorem InnOk.at {cx : Cx} {a : Addr} {name : Str} {sc : Scope} {h h1 : Heap} {env : Env} (I : InnOk cx a name) (X : EnvAt cx a sc h env h1) : ∃ t, t ∈ cx.tabs ∧ env.code = .ref t.1 ∧ env.qual ++ name = t.2.2 :=
  I.elim fun o y => y.elim fun fd y => y.elim fun t y => X.fd.elim fun o' z => z.elim fun fd' z =>
    have q : fd' = fd := Data.func.inj (z.2.1.symm.trans ((congrArg Obj.data (Option.some.inj (z.1.symm.trans y.1))).trans y.2.1))
    ⟨t, y.2.2.1, z.2.2.1.trans (q ▸ y.2.2.2.1), z.2.2.2 ▸ q ▸ y.2.2.2.2⟩
section
variable {prog : Program} {w : World} {cx : Cx} {P : Env → Gh → Heap → Prop} {K : Nat} {sc : Scope} {σ σ' σ'' : Sto} {ρ ρ' ρ'' : Loc} {v : V} {fl : Fl} {f : Addr} {q : Str} {N : Inner} {vals : Loc}

theorem TsS.lst (G : CxG cx) {x : Expr} {i : Nat} {vs : List V} (hx : EvS prog w cx P K sc σ ρ x (.lst i) σ) (hi : σ[i]? = some vs) (hl : vs.length < 2 ^ 62) (he : ∀ {env : Env} {A : Around} {s : Shared} {Q : Bool → Shared → Prop} {E : Value → Shared → Prop}, wpAny (model prog w) A (eval x env) (fun v s₁ => wpAny (model prog w) A (truthy v) Q E s₁) E s → wpAny (model prog w) A (isTrue x env (eval x env)) Q E s) :
    TsS prog w cx P K sc σ ρ x (!vs.isEmpty) := fun fr env g s A hp hs hf hw hA => by
  refine he (wpZ (hx hp hs hf hw hA) fun wv s1 x1 => ?_)
  refine x1.k fun g1 W1 V1 N1 => ?_
  apply V1.lstE; intro a ei
  ·
    obtain ⟨a', ws, e1, e2, e3⟩ := W1.lists i vs hi
    rw [ei] at e1; cases e1
    refine wpAny_truthy_list e2.isList (by rw [List.size_toArray, ← e3.length]; omega) ?_
    have hemp : (!ws.toArray.isEmpty) = (!vs.isEmpty) := by
      have := e3.length
      cases vs <;> cases ws <;> simp at this ⊢
    exact N1.ts ⟨hemp, s1.heap, _, g1, rfl, Nat.le_succ_of_le (Nat.le_succ _), W1.toks (Nat.le_succ_of_le (Nat.le_succ _)), .refl⟩

theorem CaS.bodyO (G : CxG cx) {nm : Str} {a : Addr} {fn : Fn} {vs : List V} {ss : List Stmt} {p : Pos} (hfn : FnOk cx nm a) (hin : InnOk cx a N.name) (hn : fnOf nm = some fn) (hp : plainPs fn.ps = true) (hb : bindGo (fn.ps.args.map (·.arg)) vs = some ρ)
    (hbody : fn.body = .FunctionDef N.name N.ps N.body [] none [] N.sc none N.name p :: ss) (hNp : plainPs N.ps = true) (hann : ∀ env, annTrees N.ps none env = []) (hdoc : docOf N.body = none) (hkn : fn.sc.names.lookup N.name = some .cell) (hx : lk N.name ρ = none) (hme : (N.name, NameKind.free) ∈ N.sc.names)
    (hfree : ∀ x, (x, NameKind.free) ∈ N.sc.names → fn.sc.names.lookup x = some .cell) (hvals : ∀ x v, lk x vals = some v → (x, NameKind.free) ∈ N.sc.names ∧ lk x ρ = some v)
    (h : ∀ f q, ExS prog w cx (PO cx N q vals f) K fn.sc σ ρ ss (.ret v) σ' ρ') : CaS prog w cx (K + 1) a σ vs v σ' := fun fr g s A ws hv hw hA => by
  refine fn_enter G.ok hfn hn hp hb hv hw hA fun env s₁ X hf W1 N1 => (hin.at X).elim fun t y => ?_
  rw [hbody]
  have hkof := X.kof
  have hcl : ∀ x, (x, NameKind.free) ∈ N.sc.names → (env.cells.lookup x).isSome = true := fun x hm => hf.has x (by rw [hkof]; exact hfree x hm)
  have hne : (clOf env N.sc.names []).isEmpty = false := by
    obtain ⟨c, hcc⟩ := Option.isSome_iff_exists.mp (hcl _ hme)
    have := clOf_lookup (env := env) (x := N.name) N.sc.names []
    rw [if_pos hme, hcc] at this
    cases hz : clOf env N.sc.names [] with
    | nil => rw [hz] at this; cases this
    | cons a l => rfl
  refine wpAny_execs_cons (wpAny_mono (def_ok (ρ := ρ) G hNp (hann env) hdoc y.1 y.2.1 y.2.2 (by rw [hkof]; exact hkn) X.fnc hx hcl hne hf W1) (fun fl1 s2 x2 => ?_) fun _ _ (z : Z _ _) => z.elim)
  obtain ⟨rfl, f, same2, l2, W2, E2, F2, I2, c2⟩ := x2
  have hPO : PO cx N t.2.2 vals f env g s2.heap := PO.of F2 I2 (by rw [hkof]; exact hkn) c2 hcl hme fun x v e => by
    obtain ⟨m1, m2⟩ := hvals x v e
    exact ⟨m1, m2, by rw [hkof]; exact hfree x m1⟩
  exact wpAny_mono (h f t.2.2 hPO X.sce F2 W2 hA.deeper) (fun fl3 s3 x3 => (ExP.after same2 l2 E2 x3).val N1 X.no) fun _ _ (z : Z _ _) => z.elim

theorem d2_ok (G : CxG cx) (hX : CxX cx) (hfn : ∀ nm a, cx.fnA nm = some a → FnOk cx nm a) {a : Addr} (ha : cx.fnA "_digits2int" = some a) (hin : InnOk cx a D2i.name) {i n : Nat} {ds : List Int} (hi : σ[i]? = some (ds.map .int)) (hpos : ∀ d ∈ ds, 0 ≤ d) (hval : valD n ds < 2 ^ 64) (hlen : ds.length ≤ 100) (hn : n ≤ 64) :
    CaS prog w cx (101 + 1) a σ [.lst i, .int (n : Int)] (.int (valD n ds)) σ := by
  have hfi : ∀ nm a, cx.fnA nm = some a → FnIn cx nm a := fun nm a e => (hfn nm a e).fin
  intro fr0 g0 s0 A0 ws0 hv0 hw0 hA0
  refine CaS.bodyO (N := D2i) (fn := D2) (vs := [.lst i, .int (n : Int)]) (ρ := [("digits", .lst i), ("n", .int (n : Int))]) (ρ' := [("digits", .lst i), ("n", .int (n : Int))]) (vals := d2vals (.lst i) n) (K := 101) G (hfn _ _ ha) hin rfl (by decide +kernel) rfl rfl (by decide +kernel) (fun env => rfl) rfl (by decide +kernel) rfl (by decide +kernel) ?_ ?_ (fun f q => ?_) hv0 hw0 hA0
  · intro x hx
    have : x = "digits" ∨ x = D2i.name ∨ x = "n" := by
      have h : ∀ y ∈ D2i.sc.names, y.2 = .free → y.1 = "digits" ∨ y.1 = D2i.name ∨ y.1 = "n" := by decide +kernel
      exact h _ hx rfl
    rcases this with rfl | rfl | rfl <;> decide +kernel
  · intro x v hx
    rw [lk_lookup] at hx
    have := mem_of_lookup hx
    simp only [d2vals, List.mem_cons, Prod.mk.injEq, List.not_mem_nil, or_false] at this
    rcases this with ⟨rfl, rfl⟩ | ⟨rfl, rfl⟩
    · exact ⟨by decide +kernel, rfl⟩
    · exact ⟨by decide +kernel, rfl⟩
  · have hE := PO.pres (N := D2i) (q := q) (vals := d2vals (.lst i) n) (f := f) G.ok
    have hlen' : lenI (ds.map V.int) = some (.int ((ds.map V.int).length : Int)) := by
      unfold lenI
      rw [show Nat.blt (ds.map V.int).length 1000000 = true from Nat.ble_eq_true_of_le (by rw [List.length_map]; omega)]; rfl
    apply ExS.ret G
    apply EvS.ife (k := !(ds.map V.int).isEmpty) G hE
    · apply TsS.lst G ?_ hi (by rw [List.length_map]; omega)
      · intro env A s Q E h
        exact isTrue_plain h
      · exact EvS.nm G rfl rfl
    cases ds with
    | nil => exact EvS.con rfl
    | cons d ds =>
      have hres : valD n (sl (d :: ds) 0 (d :: ds).length) = valD n (d :: ds) := by unfold sl; rw [List.take_length]; rfl
      rw [← hres]
      apply EvS.innO (N := D2i) G (.cons (EvS.con rfl) (fun _ _ => rfl) (.cons (EvS.callB (b := .len) (v := .int ((d :: ds).length : Int)) G hX hE hfi (EvS.nm G rfl rfl) (.cons (EvS.nm G rfl rfl) (fun _ _ => rfl) (.nil _)) (by simp) ?_ (fun _ => rfl)) (fun _ _ => rfl) (.nil _))) (by simp) (by decide +kernel) (by decide +kernel)
      · intro fr clo g s A ws hI hv hw hA
        exact d2_inner (K0 := 0) (vd := .lst i) (ds := d :: ds) G hi hpos hval (by omega) hn 101 0 (d :: ds).length (by omega) (by simp) (Nat.le_refl _) hI hv hw (hA.le (Nat.le_of_eq (Nat.zero_add _)))
      · show (σ[i]?).bind lenI = _
        rw [hi]
        exact hlen'.trans (by rw [List.length_map])
end
end Mine
end
section
set_option maxRecDepth 100000
set_option maxHeartbeats 4000000
set_option linter.unusedVariables false
namespace Mine
open PySem PySem.Calls PyProof.Rows PySem.W PySem.SeqAt

noncomputable def dig (n : Nat) : Nat → Nat → List Nat
  | 0, _ => []
  | m + 1, x => x % 2 ^ n :: dig n m (x / 2 ^ n)
theorem dig_len (n : Nat) : ∀ m x, (dig n m x).length = m
  | 0, _ => rfl
  | m + 1, x => by rw [dig, List.length_cons, dig_len]
theorem dig_lt (n : Nat) : ∀ m x, ∀ d ∈ dig n m x, d < 2 ^ n
  | 0, _, _, h => by cases h
  | m + 1, x, d, h => by
    rw [dig] at h
    rcases List.mem_cons.mp h with h | h
    · subst h; exact Nat.mod_lt _ (Nat.pow_pos (by decide))
    · exact dig_lt n m _ d h
theorem dig_split (n : Nat) : ∀ p q x, dig n (p + q) x = dig n p (x % 2 ^ (n * p)) ++ dig n q (x / 2 ^ (n * p))
  | 0, q, x => by simp [dig]
  | p + 1, q, x => by
    rw [show p + 1 + q = (p + q) + 1 from by omega, dig, dig, List.cons_append, dig_split n p q]
    have e : 2 ^ (n * (p + 1)) = 2 ^ n * 2 ^ (n * p) := by rw [Nat.mul_add, Nat.mul_one, Nat.pow_add, Nat.mul_comm]
    rw [e, Nat.mod_mul_right_div_self, Nat.div_div_eq_div_mul, Nat.mod_mul_right_mod]
theorem dig_val (n : Nat) : ∀ m x, x < 2 ^ (n * m) → valD n ((dig n m x).map Int.ofNat) = (x : Int)
  | 0, x, h => by
    have : x = 0 := by simpa using h
    subst this; rfl
  | m + 1, x, h => by
    have e : 2 ^ (n * (m + 1)) = 2 ^ n * 2 ^ (n * m) := by rw [Nat.mul_add, Nat.mul_one, Nat.pow_add, Nat.mul_comm]
    have h2 : x / 2 ^ n < 2 ^ (n * m) := Nat.div_lt_of_lt_mul (by rw [← e]; exact h)
    rw [dig, List.map_cons, valD, dig_val n m _ h2]
    have := Nat.mod_add_div x (2 ^ n)
    have h3 : ((x % 2 ^ n + 2 ^ n * (x / 2 ^ n) : Nat) : Int) = (x : Int) := congrArg _ this
    rw [← h3]
    simp
theorem dig_one (n x : Nat) (h : x < 2 ^ n) : dig n 1 x = [x] := by rw [dig, dig, Nat.mod_eq_of_lt h]

theorem xor_low (x s : Nat) : Builtin.bitXor (x : Int) (((x / 2 ^ s : Nat) : Int) * 2 ^ s) = ((x % 2 ^ s : Nat) : Int) := by
  have hc : (((x / 2 ^ s : Nat) : Int) * 2 ^ s) = ((x / 2 ^ s * 2 ^ s : Nat) : Int) := by simp
  rw [hc, PyProof.Rows.bitXor_and]
  have : Builtin.bitAnd (x : Int) ((x / 2 ^ s * 2 ^ s : Nat) : Int) = ((x &&& (x / 2 ^ s * 2 ^ s) : Nat) : Int) := by
    unfold Builtin.bitAnd
    rw [decide_eq_true (Int.natCast_nonneg _), decide_eq_true (Int.natCast_nonneg _)]
    simp only [Int.toNat_natCast]
  have hand : x &&& (x / 2 ^ s * 2 ^ s) = x / 2 ^ s * 2 ^ s := by
    refine Nat.eq_of_testBit_eq fun i => ?_
    rw [Nat.testBit_and, Nat.testBit_mul_two_pow]
    by_cases h : s ≤ i
    · rw [Nat.testBit_div_two_pow]
      simp [h]
    · simp [h]
  rw [this, hand]
  have := Nat.div_add_mod x (2 ^ s)
  rw [Nat.mul_comm] at this
  generalize x / 2 ^ s * 2 ^ s = y at *
  omega
end Mine
end
section
set_option maxRecDepth 100000
set_option maxHeartbeats 4000000
set_option linter.unusedVariables false
namespace Mine
open PySem PySem.Calls PyProof.Rows PySem.W PySem.SeqAt

theorem EvP.newLstOf {cx : Cx} (C : CxOk cx) {g : Gh} {s : Shared} {σ : Sto} (hw : W cx σ g s.heap s.toks) {vs : List V} {ws : List Value} (hv : VRs cx s.heap g vs ws) :
    EvP cx g s (σ ++ [vs]) (.lst σ.length) (.ref s.heap.objs.size) { s with heap := s.heap.push { cls := .type "list", data := .seq ws.toArray } } := by
  have hnew := hw.new (get_size s.heap)
  have k : ∀ b o, s.heap.get? b = some o → (s.heap.push { cls := .type "list", data := .seq ws.toArray }).get? b = some o := fun _ _ e => Heap.get?_push_of_some _ e
  have hk := hw.keeps k (Nat.le_refl _)
  have hE := Ev.lst (cx := cx) (X := []) (g := g) (h := s.heap) { cls := .type "list", data := .seq ws.toArray }
  refine ⟨_, s.toks, g.lst s.heap.objs.size, rfl, Nat.le_refl _, ?_, hE, .lst ?_⟩
  · refine ⟨hw.tok, hk.frs, hk.old, hk.booked, hk.nolim, hk.tabs, ?_, ?_, hk.hidden, hw.gn, hw.base, hw.based, ?_, ?_⟩
    · simp [Gh.lst, hw.len]
    · refine List.nodup_append.mpr ⟨hw.nodup, by simp, fun a ha b hb => ?_⟩
      rw [List.mem_singleton.mp hb]
      intro e; subst e; exact hnew.1 ha
    · intro a hm
      rcases List.mem_append.mp hm with hm | hm
      · exact hw.fresh a hm
      · rw [List.mem_singleton.mp hm]; exact hw.fresh₀ C
    · intro i us e
      rcases Nat.lt_trichotomy i σ.length with hi | hi | hi
      · rw [List.getElem?_append_left hi] at e
        obtain ⟨a, xs, e1, e2, e3⟩ := hw.lists i us e
        refine ⟨a, xs, ?_, e2.at fun o q => k _ _ q, e3.mono hE⟩
        show (g.am ++ _)[i]? = _
        rw [List.getElem?_append_left (hw.len ▸ hi)]; exact e1
      · subst hi
        simp at e
        subst e
        refine ⟨s.heap.objs.size, ws, ?_, ⟨0, Heap.get?_push_size _ rfl⟩, hv.mono hE⟩
        show (g.am ++ _)[_]? = _
        rw [List.getElem?_append_right (by rw [hw.len]; exact Nat.le_refl _), hw.len, Nat.sub_self]; rfl
      · rw [List.getElem?_eq_none (by simp; omega)] at e; cases e
  · show (g.am ++ _)[_]? = _
    rw [List.getElem?_append_right (by rw [hw.len]; exact Nat.le_refl _), hw.len, Nat.sub_self]; rfl

theorem VRs.setAt {cx : Cx} {g : Gh} {h : Heap} {v : V} {w : Value} (x : VR cx h g v w) : ∀ {vs : List V} {ws : List Value} (k : Nat), VRs cx h g vs ws → VRs cx h g (vs.set k v) (ws.set k w)
  | _, _, _, .nil => .nil
  | _, _, 0, .cons _ r => .cons x r
  | _, _, k + 1, .cons a r => .cons a (VRs.setAt x k r)
section
variable {prog : Program} {w : World} {cx : Cx} {P : Env → Gh → Heap → Prop} {K : Nat} {sc : Scope} {σ σ' σ'' : Sto} {ρ ρ' ρ'' : Loc} {v : V} {fl : Fl} {f : Addr} {q : Str} {N : Inner} {vals : Loc}

theorem ExS.expr (G : CxG cx) (hP : Pres cx P) {x : Expr} {ss : List Stmt} {p : Pos} (hx : EvS prog w cx P K sc σ ρ x v σ') (hsw : ∀ env, swapsWith x none p.line env = pure false) (h2 : ExS prog w cx P K sc σ' ρ ss fl σ'' ρ'') : ExS prog w cx P K sc σ ρ (.Expr x p :: ss) fl σ'' ρ'' := ExS.cons hP (σ' := σ') (ρ' := ρ) (by
    intro fr env g s A hp hs hf hw hA
    refine wpAny_Expr_any (wpZ (hx hp hs hf hw hA) fun wv s1 x1 => ?_) (by unfold interactive; rw [hf.kind]; rfl) (hsw env)
    refine x1.k fun g1 W1 V1 N1 => ?_
    exact N1.ex (ExP.here (hf.mono G.ok N1.evo) W1)) h2
theorem ExS.retNone {ss : List Stmt} {p : Pos} : ExS prog w cx P K sc σ ρ (.Return none p :: ss) (.ret .none) σ ρ := fun fr env g s A hp hs hf hw hA =>
  wpAny_execs_cons (wpAny_Return_none ⟨s.heap, s.toks, g, rfl, Nat.le_refl _, hw, .refl, hf, .none, rfl, .none⟩)
theorem ExS.setit (G : CxG cx) (hP : Pres cx P) {o i x : Expr} {j k : Nat} {vs : List V} {ss : List Stmt} {p p' : Pos} (hx : EvS prog w cx P K sc σ ρ x v σ) (ho : EvS prog w cx P K sc σ ρ o (.lst j) σ) (hi : EvS prog w cx P K sc σ ρ i (.int (k : Int)) σ)
    (hj : σ[j]? = some vs) (hk : k < vs.length) (hfit : vs.length < 2 ^ 62) (hsw : ∀ env, swapsWith x (some (.Subscript o i p')) p.line env = pure false) (h2 : ExS prog w cx P K sc (σ.set j (vs.set k v)) ρ ss fl σ'' ρ'') : ExS prog w cx P K sc σ ρ (.Assign [.Subscript o i p'] x p :: ss) fl σ'' ρ'' := ExS.cons hP (σ' := σ.set j (vs.set k v)) (ρ' := ρ) (by
    intro fr env g s A hp hs hf hw hA
    refine wpAny_Assign_Subscript (wpZ (hx hp hs hf hw hA) fun wv s1 x1 => ?_) (hsw env)
    refine x1.k fun g1 W1 V1 N1 => ?_
    have f1 := hf.mono G.ok N1.evo
    refine wpZ (ho (hP.e.at_ hp N1.evo) hs f1 W1 hA) fun wo s2 x2 => ?_
    refine x2.k fun g2 W2 V2 N2 => ?_
    have f2 := f1.mono G.ok N2.evo
    refine wpZ (hi (hP.e.at_ (hP.e.at_ hp N1.evo) N2.evo) hs f2 W2 hA) fun wi s3 x3 => ?_
    refine x3.k fun g3 W3 V3 N3 => ?_
    have f3 := f2.mono G.ok N3.evo
    have V1 := (V1.mono N2.evo).mono N3.evo
    have V2 := V2.mono N3.evo
    apply V3.intE; intro t
    ·
      apply V2.lstE; intro a ei
      ·
        obtain ⟨a', ws, e1, e2, e3⟩ := W3.lists j vs hj
        rw [ei] at e1; cases e1
        refine setItem_plain e2 (by rw [← e3.length]; exact hk) (by rw [← e3.length]; exact hfit) fun h' hp' hsame => ?_
        have r : VRs cx s3.heap g3 (vs.set k v) (ws.set k wv) := VRs.setAt V1 k e3
        obtain ⟨W4, E4⟩ := W3.setLst G.ok ei hj e2 hsame hp' r
        exact N1.ex (N2.ex (N3.ex ⟨h', s3.toks, g3, rfl, Nat.le_refl _, W4, frame_weaken E4, f3.mono G.ok E4, rfl⟩))) h2

theorem mulOne_ok {A : Around} {s : Shared} {al : Addr} {x : Value} {k : Nat} {u : Tok} {Q : Value → Shared → Prop} {E : Value → Shared → Prop} (h : s.heap.PlainList al [x].toArray) (hk : k ≤ 200) (hQ : Q (.ref s.heap.objs.size) { s with heap := s.heap.push { cls := .type "list", data := .seq (List.replicate k x).toArray } }) :
    wpAny (model prog w) A (binaryOp .Mult (.ref al) (.int (k : Int) u)) Q E s := by
  obtain ⟨n, ho⟩ := h
  obtain ⟨j, hj⟩ : ∃ j : Int, j = (k : Int) := ⟨_, rfl⟩
  have hjn : j.toNat = k := by omega
  have hfit : ¬ (!Builtin.List.listFitsIndex j) = true := by rw [fitsIndex_of (by omega) (by omega)]; decide
  have hsmall : ¬ [x].toArray.size * j.toNat > (2 ^ 63 - 1) / 8 := by
    show ¬ 1 * _ > _
    rw [Nat.one_mul]
    omega
  have hlong : ¬ Builtin.List.listTooLong ([x].toArray.size * j.toNat) = true := by
    show ¬ Builtin.List.listTooLong (1 * _) = true
    rw [Nat.one_mul]
    unfold Builtin.List.listTooLong
    have := sizeLine_eq
    simp only [decide_eq_true_eq]
    omega
  rw [← hj]
  clear hj
  refine wpAny_binaryOp_repeat_ref (T := "list") (U := "int") (by decide) ⟨_, ho, rfl⟩ (fun s' => typeIs_int s' j u) noFill_list_mul F.fills_int_mul F.slot_int_rmul repeat_list F.slot_int_index.lookup
    (call_meets F.slot_int_rmul (typeIs_int _ j u) F.entry_int_rmul (F.args_int_rmul_2 _ _) (lm_int_rmul_list_any j u al [x].toArray n none #[])
      ⟨ho, rfl, ⟨_, ho, rfl⟩, call_meets F.slot_list_mul ⟨_, ho, rfl⟩ F.entry_list_mul (F.args_list_mul_2 _ _)
        (lm_list_mul_any al [x].toArray n none #[] j u hfit hsmall hlong)
        ⟨ho, ?_⟩⟩)
  rw [listMul_foldl_if, hjn]
  have he : (List.replicate k [x]).flatten = List.replicate k x := by simp
  rw [show ([x].toArray.toList) = [x] from rfl, he]
  exact hQ
theorem EvS.mulList (G : CxG cx) (hP : PresE cx P) {a b : Expr} {j : Int} {k : Nat} {p p' : Pos} (ha : EvS prog w cx P K sc σ ρ a (.int j) σ) (hb : EvS prog w cx P K sc σ ρ b (.int (k : Int)) σ) (hk : k ≤ 200) (hst : ∀ env, starEach [a] env = [(false, eval a env)]) :
    EvS prog w cx P K sc σ ρ (.BinOp (.List [a] p') .Mult b p) (.lst σ.length) (σ ++ [List.replicate k (.int j)]) := fun fr env g s A hp hs hf hw hA => by
  refine wpAny_BinOp (wpAny_List_spliced ?_)
  rw [hst]
  refine spliced_cons (wpZ (ha hp hs hf hw hA) fun w1 s1 x1 => ?_)
  refine x1.k fun g1 W1 V1 N1 => ?_
  refine spliced_nil ⟨by rw [sizeLine_eq]; simp, ?_⟩
  have x2 := EvP.push W1 (Nat.le_refl _) (.newPl W1 (.cons V1 .nil))
  refine x2.k fun g2 W2 V2 N2 => ?_
  have N12 := N1.trans N2
  refine wpZ (hb (hP.at_ hp N12.evo) hs (hf.mono G.ok N12.evo) W2 hA) fun w3 s3 x3 => ?_
  refine x3.k fun g3 W3 V3 N3 => ?_
  have V2' := V2.mono N3.evo
  apply V3.intE; intro u
  ·
    refine V2'.plR fun ws e1 e2 e3 => ?_
    ·
      have hl1 : ws.length = 1 := e3.length.symm
      obtain ⟨x, rfl⟩ : ∃ x, ws = [x] := List.length_eq_one_iff.mp hl1
      refine mulOne_ok e1 hk ?_
      have hv : VRs cx s3.heap g3 (List.replicate k (.int j)) (List.replicate k x) := by
        cases e3 with
        | cons h _ =>
          clear hk hb x3 V3
          induction k with
          | zero => exact .nil
          | succ k ih => exact .cons h ih
      exact N12.ev (N3.ev (EvP.newLstOf G.ok W3 hv))

theorem EvS.bits (G : CxG cx) (hP : PresE cx P) {o : Expr} {i : Int} {p ap : Pos} (ho : EvS prog w cx P K sc σ ρ o (.int i) σ) (hb : ∀ env, attributeBase o "bit_length" env (eval o env) = eval o env) (hl : (ap.endLine == p.line) = true) :
    EvS prog w cx P K sc σ ρ (.Call (.Attribute o "bit_length" ap) [] [] p) (.int (Builtin.Int.intBits i : Nat)) σ := fun fr env g s A hp hs hf hw hA => by
  refine wpAny_Call_method_lateS (hb env) rfl hl (wpZ (ho hp hs hf hw hA) fun wo s1 x1 => ?_)
  refine x1.k fun g1 W1 V1 N1 => ?_
  apply V1.intE; intro t
  ·
    refine ⟨"int", "int.bit_length", F.plainAttrs_int, slot_int_bit_length, type_int_bit_length, typeIs_int _ _ _, (fun a e => by cases e), callWith_builtin rfl ?_⟩
    exact evalArgs_nil3 (call_int_bit_length (N1.ev (EvP.same W1 (Nat.le_succ _) (.int _ _))))
end
end Mine
end
section
set_option maxRecDepth 100000
set_option maxHeartbeats 4000000
set_option linter.unusedVariables false
namespace Mine
open PySem PySem.Calls PyProof.Rows PySem.W PySem.SeqAt

noncomputable def I2 : Fn := fnGet "_int2digits"
noncomputable def I2i : Inner := innGet I2 1
noncomputable def i2vals (i n : Nat) : Loc := [("a_digits", .lst i), ("n", .int (n : Int))]
noncomputable def dg (n m x : Nat) : List Int := (dig n m x).map Int.ofNat
theorem dg_len (n m x : Nat) : (dg n m x).length = m := by unfold dg; rw [List.length_map, dig_len]
noncomputable def putD (ds : List Int) (L R : Nat) (new : List Int) : List Int := ds.take L ++ new ++ ds.drop R
theorem putD_len {ds : List Int} {L R : Nat} {new : List Int} (h1 : L ≤ R) (h2 : R ≤ ds.length) (h3 : new.length = R - L) : (putD ds L R new).length = ds.length := by
  unfold putD
  rw [List.length_append, List.length_append, List.length_take, List.length_drop, h3]; omega
theorem putD_two {ds : List Int} {L M R : Nat} {a b : List Int} (h1 : L ≤ M) (h2 : M ≤ R) (h3 : R ≤ ds.length) (ha : a.length = M - L) : putD (putD ds L M a) M R b = putD ds L R (a ++ b) := by
  unfold putD
  have hl : (ds.take L ++ a).length = M := by rw [List.length_append, List.length_take, ha]; omega
  rw [List.take_append_of_le_length (by omega), List.take_of_length_le (by omega)]
  have : (ds.take L ++ a ++ ds.drop M).drop R = ds.drop R := by
    rw [List.drop_append, List.drop_eq_nil_of_le (by omega), List.nil_append, List.drop_drop, hl]
    congr 1; omega
  rw [this]
  simp only [List.append_assoc]
theorem putD_one {ds : List Int} {L : Nat} {x : Int} (h : L < ds.length) : putD ds L (L + 1) [x] = ds.set L x := by
  unfold putD
  rw [List.set_eq_take_append_cons_drop, if_pos h]; simp
theorem putD_all {ds a : List Int} (h : a.length = ds.length) : putD ds 0 ds.length a = a := by
  unfold putD
  simp

section
variable {prog : Program} {w : World} {cx : Cx} {K0 : Nat} {f : Addr} {q : Str} {clo : List (Str × Addr)} {i n : Nat}

theorem i2_inner (G : CxG cx) (hn : n ≤ 64) : ∀ (k L R x : Nat) (ds : List Int) (σ : Sto), R - L ≤ k → L < R → R ≤ ds.length → ds.length ≤ 1000 → x < 2 ^ (n * (R - L)) → x < 2 ^ 64 → σ[i]? = some (ds.map .int) →
    ∀ {fr : Option (List Env)} {g : Gh} {s : Shared} {A : Around} {ws : List Value}, InnAt cx s.heap g f I2i.name q I2i.ps I2i.body I2i.sc clo (i2vals i n) → VRs cx s.heap g [.int (x : Int), .int (L : Int), .int (R : Int)] ws → W cx σ g s.heap s.toks → Room fr (K0 + k) A →
    wpAny (model prog w) A (call (.ref f) ws []) (EvP cx g s (σ.set i ((putD ds L R (dg n (R - L) x)).map .int)) .none) Z s := by
  have hnc : ∀ x ∈ I2i.sc.names, x.2 ≠ .cell := by decide +kernel
  have hP : Pres cx (PI cx I2i q clo (i2vals i n) f) := PI.pres G.ok hnc
  intro k
  induction k with
  | zero => intro L R x ds σ h1 h2; omega
  | succ k ih =>
    intro L R x ds σ hk hLR hR hlen hx hx64 hi fr g s A ws hI hv hw hA
    refine inn_call (K := K0 + k) G hI (by decide +kernel) (by decide +kernel) rfl (by decide +kernel) (by decide +kernel) (by decide +kernel) hnc (by decide +kernel) ?_ hv hw hA fun env s₁ h1 h2 h3 hf hI1 hw1 hA1 => ?_
    · intro x v hx
      rw [lk_lookup] at hx
      have := mem_of_lookup hx
      simp only [i2vals, List.mem_cons, Prod.mk.injEq, List.not_mem_nil, or_false] at this
      rcases this with ⟨rfl, _⟩ | ⟨rfl, _⟩ <;> decide +kernel
    have hp := PI.of (N := I2i) h2 h1 hI1 hf
    have hs : ScE env I2i.sc := .of_eq h1 h3
    have hi' : i < σ.length := (List.getElem?_eq_some_iff.mp hi).1
    by_cases hone : L + 1 = R
    · subst hone
      have hLl : L < ds.length := by omega
      have hxn : x < 2 ^ n := by rw [show L + 1 - L = 1 from by omega, Nat.mul_one] at hx; exact hx
      have hres : σ.set i ((putD ds L (L + 1) (dg n (L + 1 - L) x)).map V.int) = σ.set i ((ds.map V.int).set L (.int (x : Int))) := by
        rw [show L + 1 - L = 1 from by omega]
        unfold dg
        rw [dig_one n x hxn, show [x].map Int.ofNat = [(x : Int)] from rfl, putD_one hLl, List.map_set]
      have hx : ExS prog w cx (PI cx I2i q clo (i2vals i n) f) (K0 + k) I2i.sc σ ((namesOf I2i.ps).zip [.int (x : Int), .int (L : Int), .int ((L + 1 : Nat) : Int)] ++ i2vals i n) I2i.body (.ret .none) (σ.set i ((putD ds L (L + 1) (dg n (L + 1 - L) x)).map V.int)) ((namesOf I2i.ps).zip [.int (x : Int), .int (L : Int), .int ((L + 1 : Nat) : Int)] ++ i2vals i n) := by
        rw [hres]
        refine ExS.ifret (k := true) G hP.e (TsS.cmp G hP.e (EvS.bin G hP.e (EvS.nm G rfl rfl) (EvS.con rfl) fun _ h => AutoIntOps.add_0 h) (EvS.nm G rfl rfl) ?_ rfl)
          (ExS.setit (j := i) (k := L) (vs := ds.map V.int) G hP (EvS.nm G rfl rfl) (EvS.nm G rfl rfl) (EvS.nm G rfl rfl) hi (by rw [List.length_map]; omega) (by rw [List.length_map]; omega) (fun _ => rfl) ExS.retNone)
        simp only [icmp]
        exact congrArg some (decide_eq_true (by omega))
      exact wpZ (hx hp hs hf hw1 hA1) fun fl s2 x2 => ⟨_, .inl x2⟩
    · obtain ⟨M, hM⟩ : ∃ M, M = (L + R) / 2 := ⟨_, rfl⟩
      have hLM : L < M := by omega
      have hMR : M < R := by omega
      have hsh : ((M : Int) - (L : Int)) * (n : Int) = ((n * (M - L) : Nat) : Int) := by
        rw [Int.mul_comm, Int.natCast_mul, Int.ofNat_sub (Nat.le_of_lt hLM)]
      have hb : (n * (M - L) : Nat) ≤ 1000000 := by
        have := Nat.mul_le_mul hn (show M - L ≤ 1000 by omega)
        omega
      have hup : Int.fdiv (x : Int) (2 ^ (((n * (M - L) : Nat) : Int).toNat)) = ((x / 2 ^ (n * (M - L)) : Nat) : Int) := by
        rw [Int.toNat_natCast, Int.fdiv_eq_ediv_of_nonneg _ (Int.le_of_lt (Int.pow_pos (by decide)))]
        simp
      have hpq : R - L = (M - L) + (R - M) := mid3 hLM hMR
      have hx1 : x / 2 ^ (n * (M - L)) < 2 ^ (n * (R - M)) := Nat.div_lt_of_lt_mul (by rw [← Nat.pow_add, ← Nat.mul_add, ← hpq]; exact hx)
      have hx2 : x % 2 ^ (n * (M - L)) < 2 ^ (n * (M - L)) := Nat.mod_lt _ (Nat.pow_pos (by decide))
      have hx3 : x / 2 ^ (n * (M - L)) < 2 ^ 64 := Nat.lt_of_le_of_lt (Nat.div_le_self _ _) hx64
      have hx4 : x % 2 ^ (n * (M - L)) < 2 ^ 64 := Nat.lt_of_le_of_lt (Nat.mod_le _ _) hx64
      have hl1 : (putD ds L M (dg n (M - L) (x % 2 ^ (n * (M - L))))).length = ds.length := putD_len (by omega) (by omega) (dg_len ..)
      have hres : σ.set i ((putD ds L R (dg n (R - L) x)).map V.int) = (σ.set i ((putD ds L M (dg n (M - L) (x % 2 ^ (n * (M - L))))).map V.int)).set i ((putD (putD ds L M (dg n (M - L) (x % 2 ^ (n * (M - L))))) M R (dg n (R - M) (x / 2 ^ (n * (M - L))))).map V.int) := by
        rw [List.set_set, putD_two (by omega) (by omega) hR (dg_len ..), hpq]
        congr 3
        unfold dg
        rw [dig_split, List.map_append]
      have hx : ∃ ρ', ExS prog w cx (PI cx I2i q clo (i2vals i n) f) (K0 + k) I2i.sc σ ((namesOf I2i.ps).zip [.int (x : Int), .int (L : Int), .int (R : Int)] ++ i2vals i n) I2i.body .next (σ.set i ((putD ds L R (dg n (R - L) x)).map V.int)) ρ' := by
        rw [hres]
        refine ⟨_, ExS.iff (k := false) G hP (TsS.cmp G hP.e (EvS.bin G hP.e (EvS.nm G rfl rfl) (EvS.con rfl) fun _ h => AutoIntOps.add_0 h) (EvS.nm G rfl rfl) ?_ rfl) ExS.nil
          (ExS.asg G hP (EvS.bin (k := (M : Int)) G hP.e (EvS.bin G hP.e (EvS.nm G rfl rfl) (EvS.nm G rfl rfl) fun _ h => AutoIntOps.add_0 h) (EvS.con rfl) fun _ h => rshift_int (by decide) (by rw [mid_eq, ← hM]; exact h)) rfl rfl (fun _ => rfl)
          (ExS.asg G hP (EvS.bin (k := ((n * (M - L) : Nat) : Int)) G hP.e (EvS.bin G hP.e (EvS.nm G rfl rfl) (EvS.nm G rfl rfl) fun _ h => AutoIntOps.sub_0 h) (EvS.nm G rfl rfl) fun _ h => AutoIntOps.mul_0 (by rw [hsh]; exact h) (IntMulOk.of_left (intBits_le_64 (by omega) (by omega)))) rfl rfl (fun _ => rfl)
          (ExS.asg G hP (EvS.bin (k := ((x / 2 ^ (n * (M - L)) : Nat) : Int)) G hP.e (EvS.nm G rfl rfl) (EvS.nm G rfl rfl) fun _ h => rshift_int (by omega) (by rw [hup]; exact h)) rfl rfl (fun _ => rfl)
          (ExS.asg G hP (EvS.bin (k := ((x % 2 ^ (n * (M - L)) : Nat) : Int)) G hP.e (EvS.nm G rfl rfl) (EvS.bin G hP.e (EvS.nm G rfl rfl) (EvS.nm G rfl rfl) fun _ h => lshift_int_small (by omega) (by omega) (by rw [Int.natAbs_natCast]; exact hx3) h) fun _ h => xor_int (by rw [Int.toNat_natCast, xor_low]; exact h)) rfl rfl (fun _ => rfl)
          (ExS.expr G hP (EvS.inn G hP.e (.cons (EvS.nm G rfl rfl) (fun _ _ => rfl) (.cons (EvS.nm G rfl rfl) (fun _ _ => rfl) (.cons (EvS.nm G rfl rfl) (fun _ _ => rfl) (.nil _)))) (by simp) (by decide +kernel) (by decide +kernel) (by decide +kernel) (by decide +kernel) (ih L M _ ds σ (mid1 hk hLM hMR) hLM (by omega) hlen hx2 hx4 hi)) (fun _ => rfl)
          (ExS.expr G hP (EvS.inn G hP.e (.cons (EvS.nm G rfl rfl) (fun _ _ => rfl) (.cons (EvS.nm G rfl rfl) (fun _ _ => rfl) (.cons (EvS.nm G rfl rfl) (fun _ _ => rfl) (.nil _)))) (by simp) (by decide +kernel) (by decide +kernel) (by decide +kernel) (by decide +kernel) (ih M R _ _ _ (mid2 hk hLM hLR) hMR (by omega) (by omega) hx1 hx3 (by rw [List.getElem?_set_self hi']))) (fun _ => rfl) ExS.nil))))))⟩
        simp only [icmp]
        exact congrArg some (decide_eq_false (by omega))
      obtain ⟨ρ', hx⟩ := hx
      exact wpZ (hx hp hs hf hw1 hA1) fun fl s2 x2 => ⟨_, .inr ⟨rfl, x2⟩⟩
end
end Mine
end
section
set_option maxRecDepth 100000
set_option maxHeartbeats 4000000
set_option linter.unusedVariables false
namespace Mine
open PySem PySem.Calls PyProof.Rows PySem.W PySem.SeqAt

noncomputable def PT (env : Env) (g : Gh) (h : Heap) : Prop := True
theorem PT.pres {cx : Cx} : Pres cx PT := ⟨fun _ _ => trivial⟩
noncomputable def PB (sc : Scope) (cd : Value) (q : Str) (env : Env) (g : Gh) (h : Heap) : Prop := env.scope = sc ∧ env.func ≠ none ∧ env.code = cd ∧ env.qual = q
theorem PB.pres {cx : Cx} {sc : Scope} {cd : Value} {q : Str} : Pres cx (PB sc cd q) := ⟨fun h _ => h⟩
section
variable {prog : Program} {w : World} {cx : Cx} {P : Env → Gh → Heap → Prop} {K : Nat} {sc : Scope} {σ σ' σ'' : Sto} {ρ ρ' ρ'' : Loc} {v : V} {fl : Fl} {f : Addr} {q : Str} {N : Inner} {vals : Loc}

theorem ExS.consT {st : Stmt} {ss : List Stmt} (h1 : ∀ {fr : Option (List Env)} {env : Env} {g : Gh} {s : Shared} {A : Around}, P env g s.heap → ScE env sc → FrR cx env g ρ s.heap → W cx σ g s.heap s.toks → Room fr K A → wpAny (model prog w) A (exec st env) (ExP cx env g s σ' ρ' .next) Z s)
    (h2 : ExS prog w cx PT K sc σ' ρ' ss fl σ'' ρ'') : ExS prog w cx P K sc σ ρ (st :: ss) fl σ'' ρ'' := fun _ _ _ _ _ hp hs hf hw hA => by
  refine wpAny_execs_cons (wpZ (h1 hp hs hf hw hA) fun f s1 x1 => ?_)
  obtain ⟨g1, W1, F1, l1, E1, same, k⟩ := x1.elim
  have k : f = .next := k
  subst k
  exact wpZ (h2 trivial hs F1 W1 hA) fun f2 s2 x2 => ExP.after same l1 E1 x2
theorem ExS.exprT (G : CxG cx) {x : Expr} {ss : List Stmt} {p : Pos} (hx : EvS prog w cx P K sc σ ρ x v σ') (hsw : ∀ env, swapsWith x none p.line env = pure false) (h2 : ExS prog w cx PT K sc σ' ρ ss fl σ'' ρ'') : ExS prog w cx P K sc σ ρ (.Expr x p :: ss) fl σ'' ρ'' := ExS.consT (σ' := σ') (ρ' := ρ) (by
    intro fr env g s A hp hs hf hw hA
    refine wpAny_Expr_any (wpZ (hx hp hs hf hw hA) fun wv s1 x1 => ?_) (by unfold interactive; rw [hf.kind]; rfl) (hsw env)
    refine x1.k fun g1 W1 V1 N1 => ?_
    exact N1.ex (ExP.here (hf.mono G.ok N1.evo) W1)) h2
theorem ExS.iffT (G : CxG cx) (hP : PresE cx P) {t : Expr} {b o ss : List Stmt} {p : Pos} {k : Bool} (ht : TsS prog w cx P K sc σ ρ t k) (hb : ExS prog w cx P K sc σ ρ (if k = true then b else o) .next σ' ρ') (h2 : ExS prog w cx PT K sc σ' ρ' ss fl σ'' ρ'') : ExS prog w cx P K sc σ ρ (.If t b o p :: ss) fl σ'' ρ'' := ExS.consT (σ' := σ') (ρ' := ρ') (by
    intro fr env g s A hp hs hf hw hA
    refine wpAny_If (wpZ (ht hp hs hf hw hA) fun b1 s1 x1 => ?_)
    obtain ⟨rfl, g1, W1, N1⟩ := x1.elim
    cases b1
    · exact wpZ (hb (hP.at_ hp N1.evo) hs (hf.mono G.ok N1.evo) W1 hA) fun f s2 x2 => N1.ex x2
    · exact wpZ (hb (hP.at_ hp N1.evo) hs (hf.mono G.ok N1.evo) W1 hA) fun f s2 x2 => N1.ex x2) h2
theorem TsS.int (G : CxG cx) {x : Expr} {i : Int} (hx : EvS prog w cx P K sc σ ρ x (.int i) σ) (he : ∀ {env : Env} {A : Around} {s : Shared} {Q : Bool → Shared → Prop} {E : Value → Shared → Prop}, wpAny (model prog w) A (eval x env) (fun v s₁ => wpAny (model prog w) A (truthy v) Q E s₁) E s → wpAny (model prog w) A (isTrue x env (eval x env)) Q E s) :
    TsS prog w cx P K sc σ ρ x (i != 0) := fun fr env g s A hp hs hf hw hA => by
  refine he (wpZ (hx hp hs hf hw hA) fun wv s1 x1 => ?_)
  refine x1.k fun g1 W1 V1 N1 => ?_
  apply V1.intE; intro t
  · exact PySem.P.truthy_int (N1.ts (TsP.here W1))
theorem ExS.defO (G : CxG cx) {ss : List Stmt} {p : Pos} {t : Addr × Addr × Str} {q0 : Str} (ht : t ∈ cx.tabs) (hq : q0 ++ N.name = t.2.2) (hNp : plainPs N.ps = true) (hann : ∀ env, annTrees N.ps none env = []) (hdoc : docOf N.body = none) (hkn : sc.names.lookup N.name = some .cell) (hx : lk N.name ρ = none) (hme : (N.name, NameKind.free) ∈ N.sc.names)
    (hfree : ∀ x, (x, NameKind.free) ∈ N.sc.names → sc.names.lookup x = some .cell) (hvals : ∀ x v, lk x vals = some v → (x, NameKind.free) ∈ N.sc.names ∧ lk x ρ = some v)
    (h : ∀ f, ExS prog w cx (PO cx N t.2.2 vals f) K sc σ ρ ss fl σ' ρ') : ExS prog w cx (PB sc (.ref t.1) q0) K sc σ ρ (.FunctionDef N.name N.ps N.body [] none [] N.sc none N.name p :: ss) fl σ' ρ' := fun fr env g s A hp hs hf hw hA => by
  obtain ⟨hsc, hfn, hcode, hqual⟩ := hp
  have hkof : ∀ x, env.kindOf x = sc.names.lookup x := fun x => by unfold Env.kindOf; rw [hsc]
  have hcl : ∀ x, (x, NameKind.free) ∈ N.sc.names → (env.cells.lookup x).isSome = true := fun x hm => hf.has x (by rw [hkof]; exact hfree x hm)
  have hne : (clOf env N.sc.names []).isEmpty = false := by
    obtain ⟨c, hcc⟩ := Option.isSome_iff_exists.mp (hcl _ hme)
    have := clOf_lookup (env := env) (x := N.name) N.sc.names []
    rw [if_pos hme, hcc] at this
    cases hz : clOf env N.sc.names [] with
    | nil => rw [hz] at this; cases this
    | cons a l => rfl
  refine wpAny_execs_cons (wpAny_mono (def_ok (ρ := ρ) G hNp (hann env) hdoc ht hcode (by rw [hqual]; exact hq) (by rw [hkof]; exact hkn) hfn hx hcl hne hf hw) (fun fl1 s2 x2 => ?_) fun _ _ (z : Z _ _) => z.elim)
  obtain ⟨rfl, f, same2, l2, W2, E2, F2, I2, c2⟩ := x2
  have hPO : PO cx N t.2.2 vals f env g s2.heap := PO.of F2 I2 (by rw [hkof]; exact hkn) c2 hcl hme fun x v e => by
    obtain ⟨m1, m2⟩ := hvals x v e
    exact ⟨m1, m2, by rw [hkof]; exact hfree x m1⟩
  exact wpAny_mono (h f hPO hs F2 W2 hA) (fun fl3 s3 x3 => ExP.after same2 l2 E2 x3) fun _ _ (z : Z _ _) => z.elim

theorem CaS.bodyB (C : CxOk cx) {nm : Str} {a : Addr} {fn : Fn} {vs : List V} {iname : Str} (hfn : FnOk cx nm a) (hin : InnOk cx a iname) (hn : fnOf nm = some fn) (hp : plainPs fn.ps = true) (hb : bindGo (fn.ps.args.map (·.arg)) vs = some ρ)
    (h : ∀ t q0, t ∈ cx.tabs → q0 ++ iname = t.2.2 → ExS prog w cx (PB fn.sc (.ref t.1) q0) K fn.sc σ ρ fn.body (.ret v) σ' ρ') : CaS prog w cx (K + 1) a σ vs v σ' := fun fr g s A ws hv hw hA => by
  exact fn_enter C hfn hn hp hb hv hw hA fun env s₁ X hf W1 N1 => (hin.at X).elim fun t y => wpZ (h t _ y.1 y.2.2 ⟨X.sc, X.fnc, y.2.1, rfl⟩ X.sce hf W1 hA.deeper) fun f s2 x2 => x2.val N1 X.no
end
end Mine
end
section
set_option maxRecDepth 100000
set_option maxHeartbeats 4000000
set_option linter.unusedVariables false
namespace Mine
open PySem PySem.Calls PyProof.Rows PySem.W PySem.SeqAt

noncomputable def nd (n x : Nat) : Nat := (Builtin.Int.intBits (x : Int) + n - 1) / n
theorem bits_le (x m : Nat) (h : x < 2 ^ m) : Builtin.Int.intBits (x : Int) ≤ m := intBits_le_iff.mpr (by rw [Int.natAbs_natCast]; exact h)
theorem bits_lt (x : Nat) : x < 2 ^ Builtin.Int.intBits (x : Int) := by
  have := (intBits_le_iff (m := Builtin.Int.intBits (x : Int)) (x := (x : Int))).mp (Nat.le_refl _)
  rwa [Int.natAbs_natCast] at this
theorem nd_big (n x : Nat) (hn : 1 ≤ n) : x < 2 ^ (n * nd n x) := by
  refine Nat.lt_of_lt_of_le (bits_lt x) (Nat.pow_le_pow_right (by decide) ?_)
  unfold nd
  generalize Builtin.Int.intBits (x : Int) = B
  have := Nat.div_add_mod (B + n - 1) n
  have := Nat.mod_lt (B + n - 1) (show 0 < n by omega)
  omega
theorem nd_le (n x : Nat) (hn : 1 ≤ n) (hx : x < 2 ^ 64) : nd n x ≤ 64 := by
  have h := bits_le x 64 hx
  unfold nd
  generalize Builtin.Int.intBits (x : Int) = B at h
  refine Nat.div_le_of_le_mul ?_
  have : 1 * (64 - 1) ≤ n * (64 - 1) := Nat.mul_le_mul_right _ hn
  have : n * 64 = n * (64 - 1) + n := by omega
  omega
theorem nd_pos (n x : Nat) (hn : 1 ≤ n) (hx : 0 < x) : 0 < nd n x := by
  unfold nd
  have : 0 < Builtin.Int.intBits (x : Int) := by
    rcases Nat.eq_zero_or_pos (Builtin.Int.intBits (x : Int)) with h | h
    · have := bits_lt x
      rw [h] at this; omega
    · exact h
  generalize Builtin.Int.intBits (x : Int) = B at this
  exact Nat.div_pos (by omega) (by omega)
theorem nd_zero (n : Nat) (hn : 1 ≤ n) : nd n 0 = 0 := by
  unfold nd
  have : Builtin.Int.intBits ((0 : Nat) : Int) = 0 := by decide
  rw [this]
  exact Nat.div_eq_of_lt (by omega)

section
variable {prog : Program} {w : World} {cx : Cx} {σ : Sto} {i n : Nat}

theorem noPyl {x y : Int} (h : y.natAbs < 1073741824) : ¬ Builtin.divisionGoesByPylong x y = true := by rw [PyProof.noPylong_small h]; decide

theorem i2_ok (G : CxG cx) (hX : CxX cx) (hfn : ∀ nm a, cx.fnA nm = some a → FnOk cx nm a) {a : Addr} (ha : cx.fnA "_int2digits" = some a) (hin : InnOk cx a I2i.name) {x : Nat} (hn1 : 1 ≤ n) (hn : n ≤ 64) (hx : x < 2 ^ 64) :
    CaS prog w cx (101 + 1) a σ [.int (x : Int), .int (n : Int)] (.lst σ.length) (σ ++ [(dg n (nd n x) x).map .int]) := by
  have hfi : ∀ nm a, cx.fnA nm = some a → FnIn cx nm a := fun nm a e => (hfn nm a e).fin
  have hnd := nd_le n x hn1 hx
  have hlast : ∀ (l : List V), (σ ++ [l])[σ.length]? = some l := fun l => by simp
  have hset : ∀ (l l' : List V), (σ ++ [l]).set σ.length l' = σ ++ [l'] := fun l l' => by simp
  intro fr0 g0 s0 A0 ws0 hv0 hw0 hA0
  refine CaS.bodyB (fn := I2) (vs := [.int (x : Int), .int (n : Int)]) (ρ := [("a", .int (x : Int)), ("n", .int (n : Int))]) (ρ' := put "a_digits" (.lst σ.length) [("a", .int (x : Int)), ("n", .int (n : Int))]) (K := 101) G.ok (hfn _ _ ha) hin rfl (by decide +kernel) rfl (fun t q0 ht hq => ?_) hv0 hw0 hA0
  have hdiv : Int.fdiv (((Builtin.Int.intBits (x : Int) : Nat) : Int) + (n : Int) - 1) (n : Int) = ((nd n x : Nat) : Int) := by
    unfold nd
    generalize Builtin.Int.intBits (x : Int) = B
    rw [show ((B : Nat) : Int) + (n : Int) - 1 = ((B + n - 1 : Nat) : Int) from by omega, Int.fdiv_eq_ediv_of_nonneg _ (by omega)]
    rfl
  have hbr : PresE cx (PB I2.sc (.ref t.1) q0) := PB.pres.e
  have hρ : ∀ y v, lk y (i2vals σ.length n) = some v → lk y (put "a_digits" (.lst σ.length) [("a", .int (x : Int)), ("n", .int (n : Int))]) = some v := fun y v h => by
    rw [lk_lookup] at h
    have := mem_of_lookup h
    simp only [i2vals, List.mem_cons, Prod.mk.injEq, List.not_mem_nil, or_false] at this
    rcases this with ⟨rfl, rfl⟩ | ⟨rfl, rfl⟩ <;> rfl
  have key : ∀ {s1 ss}, I2.body = s1 :: ss → ExS prog w cx (PB I2.sc (.ref t.1) q0) 101 I2.sc σ [("a", .int (x : Int)), ("n", .int (n : Int))] (s1 :: ss) (.ret (.lst σ.length)) (σ ++ [(dg n (nd n x) x).map .int]) (put "a_digits" (.lst σ.length) [("a", .int (x : Int)), ("n", .int (n : Int))]) →
      ExS prog w cx (PB I2.sc (.ref t.1) q0) 101 I2.sc σ [("a", .int (x : Int)), ("n", .int (n : Int))] I2.body (.ret (.lst σ.length)) (σ ++ [(dg n (nd n x) x).map .int]) (put "a_digits" (.lst σ.length) [("a", .int (x : Int)), ("n", .int (n : Int))]) := fun e h => by rw [e]; exact h
  refine (key rfl ?_)
  refine (ExS.asg (v := .lst σ.length) (σ' := σ ++ [List.replicate (nd n x) (.int 0)]) (ρ' := put "a_digits" (.lst σ.length) [("a", .int (x : Int)), ("n", .int (n : Int))]) G PB.pres ?_ rfl rfl (fun _ => rfl) ?_)
  · refine (EvS.mulList (j := 0) G hbr (EvS.con rfl) ?_ (by omega) (fun _ => rfl))
    exact (EvS.bin G hbr (EvS.bin G hbr (EvS.bin G hbr (EvS.bits G hbr (EvS.nm G rfl rfl) (fun _ => rfl) rfl) (EvS.nm G rfl rfl) fun _ h => AutoIntOps.add_0 h) (EvS.con rfl) fun _ h => AutoIntOps.sub_0 h) (EvS.nm G rfl rfl) fun _ h => AutoIntOps.floordiv_1 (by simp; omega) (noPyl (by omega)) (by rw [hdiv]; exact h))
  · refine (ExS.defO (N := I2i) (vals := i2vals σ.length n) G ht hq (by decide +kernel) (fun _ => rfl) rfl (by decide +kernel) rfl (by decide +kernel) ?_ ?_ (fun f => ?_))
    · intro y hy
      have h : ∀ z ∈ I2i.sc.names, z.2 = .free → z.1 = "a_digits" ∨ z.1 = I2i.name ∨ z.1 = "n" := by decide +kernel
      rcases h _ hy rfl with rfl | rfl | rfl <;> decide +kernel
    · intro y v h
      refine ⟨?_, hρ y v h⟩
      rw [lk_lookup] at h
      have := mem_of_lookup h
      simp only [i2vals, List.mem_cons, Prod.mk.injEq, List.not_mem_nil, or_false] at this
      rcases this with ⟨rfl, rfl⟩ | ⟨rfl, rfl⟩ <;> decide +kernel
    · have hE := PO.pres (N := I2i) (q := t.2.2) (vals := i2vals σ.length n) (f := f) G.ok
      refine (ExS.iffT (k := (x : Int) != 0) (σ' := σ ++ [(dg n (nd n x) x).map .int]) G hE (?_) (?_) (ExS.ret G (EvS.nm G rfl rfl)))
      · refine (TsS.int G (?_) (?_))
        · exact EvS.nm G rfl rfl
        · intro env A s Q E h
          exact isTrue_plain h
      · rcases Nat.eq_zero_or_pos x with hx0 | hx0
        · subst hx0
          rw [nd_zero n hn1]
          exact ExS.nil
        · have hb : ((x : Int) != 0) = true := by simp; omega
          rw [if_pos hb]
          have hpos := nd_pos n x hn1 hx0
          refine (ExS.exprT (σ' := σ ++ [(dg n (nd n x) x).map .int]) (v := .none) G (?_) (fun _ => rfl) ExS.nil)
          have hzr : (σ ++ [List.replicate (nd n x) (V.int 0)])[σ.length]? = some ((List.replicate (nd n x) (0 : Int)).map .int) := by rw [hlast, List.map_replicate]
          have hres : σ ++ [(dg n (nd n x) x).map V.int] = (σ ++ [List.replicate (nd n x) (V.int 0)]).set σ.length ((putD (List.replicate (nd n x) (0 : Int)) 0 (nd n x) (dg n (nd n x - 0) x)).map V.int) := by
            rw [hset, Nat.sub_zero]
            have := putD_all (ds := List.replicate (nd n x) (0 : Int)) (a := dg n (nd n x) x) (by rw [dg_len, List.length_replicate])
            rw [List.length_replicate] at this
            rw [this]
          rw [hres]
          have hlen' : lenI (List.replicate (nd n x) (V.int 0)) = some (.int ((nd n x : Nat) : Int)) := by
            unfold lenI
            rw [show Nat.blt (List.replicate (nd n x) (V.int 0)).length 1000000 = true from Nat.ble_eq_true_of_le (by rw [List.length_replicate]; omega), List.length_replicate]; rfl
          refine EvS.innO (N := I2i) G (.cons (EvS.nm G rfl rfl) (fun _ _ => rfl) (.cons (EvS.con rfl) (fun _ _ => rfl) (.cons (EvS.callB (b := .len) (v := .int ((nd n x : Nat) : Int)) G hX hE hfi (EvS.nm G rfl rfl) (.cons (EvS.nm G rfl rfl) (fun _ _ => rfl) (.nil _)) (by simp) ?_ (fun _ => rfl)) (fun _ _ => rfl) (.nil _)))) (by simp) (by decide +kernel) (by decide +kernel) ?_
          · show ((σ ++ [List.replicate (nd n x) (V.int 0)])[σ.length]?).bind lenI = _
            rw [hlast]
            exact hlen'
          · intro fr clo g s A ws hI hv hw hA
            exact i2_inner (K0 := 0) G hn 101 0 (nd n x) x (List.replicate (nd n x) (0 : Int)) _ (by omega) hpos (by rw [List.length_replicate]; exact Nat.le_refl _) (by rw [List.length_replicate]; omega) (nd_big n x hn1) hx hzr hI hv hw (hA.le (Nat.le_of_eq (Nat.zero_add _)))
end
end Mine
end
section
set_option maxRecDepth 100000
set_option maxHeartbeats 4000000
set_option linter.unusedVariables false
namespace Mine
open PySem PySem.Calls PyProof.Rows PySem.W PySem.SeqAt

section
variable {prog : Program} {w : World} {A : Around} {s : Shared} {cx : Cx} {K : Nat} {sc : Scope} {σ σ' : Sto} {ρ ρ' : Loc} {v : V} {env : Env} {g : Gh} {fl : Fl} {I al : Addr} {j : Nat}

structure RevOk (cx : Cx) (h : Heap) (g : Gh) (env : Env) (I al : Addr) (j : Int) : Prop where
  it : h.IsRevIter I al j
  free : g.free I
  new : cx.h₀.objs.size ≤ I
  env : I ∉ frame env
theorem RevOk.obj {h : Heap} {k : Int} (x : RevOk cx h g env I al k) : ∃ ob, h.get? I = some ob ∧ (∀ xs n, ob.data ≠ .seq xs n) ∧ (∀ es ep, ob.data ≠ .dict es ep) ∧ ob.cls ≠ .type "code" ∧ ob.cls ≠ .none ∧ Imm ob = false := by
  obtain ⟨ob, e1, e2, e3⟩ := x.it
  refine ⟨ob, e1, fun xs n q => (by rw [e3] at q; cases q), fun es ep q => (by rw [e3] at q; cases q), fun q => (by rw [e2] at q; exact absurd q (by decide)), fun q => (by rw [e2] at q; cases q), ?_⟩
  unfold Imm; rw [e3, e2]; show (Value.type "list_reverseiterator" == Value.type "range" || Value.type "list_reverseiterator" == Value.type "code") = false; decide
theorem RevOk.move (C : CxOk cx) {h h' : Heap} {ga gb : Gh} {X : List Addr} {k : Int} (x : RevOk cx h ga env I al k) (E : Ev cx X ga gb h h') (hX : I ∉ X) : RevOk cx h' gb env I al k := by
  obtain ⟨ob, e1, e2, e3⟩ := x.it
  have kp := E.keepN e1 x.free.1 hX (C.notTab x.new) (fun es ep q => by rw [e3] at q; cases q)
  exact ⟨⟨ob, kp, e2, e3⟩, E.free e1 x.free, x.new, x.env⟩
theorem RevOk.live {h : Heap} {k : Int} (x : RevOk cx h g env I al k) : ∃ o, h.get? I = some o := x.it.imp fun o y => y.1
theorem letOwnedR_ok {t : Expr} {wv : Value} {k : Int} {Q : Unit → Shared → Prop} {E : Value → Shared → Prop} (x : RevOk cx s.heap g env I al k) (hQ : Q () s) : wpAny (model prog w) A (letOwnedTupleGo t (.ref I) wv) Q E s := by
  exact x.it.elim fun ob y => letOwnedG y.1 y.2.1 y.2.2 (by decide) hQ

noncomputable def RevP (cx : Cx) (Inv : Nat → Sto → Loc → Prop) (env : Env) (I : Addr) (g : Gh) (s : Shared) (f : Flow) (s' : Shared) : Prop := ∃ σ' ρ', Inv 0 σ' ρ' ∧ EnvP cx env [I] g s σ' ρ' .next f s'

theorem revF_ok (G : CxG cx) {t : Expr} {b : List Stmt} {i : Nat} {vs : List V} (Inv : Nat → Sto → Loc → Prop) (hvs : ∀ j σ ρ, Inv j σ ρ → σ[i]? = some vs)
    (hstep : ∀ j σ ρ v, vs[j]? = some v → Inv (j + 1) σ ρ → ∃ ρ1 σ2 ρ2, asgV sc ρ t v = some ρ1 ∧ ExS prog w cx PT K sc σ ρ1 b .next σ2 ρ2 ∧ Inv j σ2 ρ2) :
    ∀ (j : Nat) (σ : Sto) (ρ : Loc), j ≤ vs.length → Inv j σ ρ → ∀ {fr : Option (List Env)} {g : Gh} {s : Shared}, ScE env sc → FrR cx env g ρ s.heap → W cx σ g s.heap s.toks → Room fr K A → RevOk cx s.heap g env I al ((j : Int) - 1) → g.am[i]? = some al →
    codeAny (model prog w) A (.forLoop t (.ref I) b [] env) (ResP (RevP cx Inv env I g s)) s := by
  intro j
  induction j with
  | zero =>
    intro σ ρ hj hI fr g s hs hf hw hA hR ha
    refine codeAny_of_tree ?_
    show wpAny _ A ((forTurn t (.ref I) b [] env).onRaise (fun x => do noteFrame x env; theTreesLotGoes x)) _ _ s
    refine wpAny_noted ?_
    simp only [forTurn]
    obtain ⟨ob, hob, o1, o1', o2, o3, o4⟩ := hR.obj
    refine wpAny_bind (wpAny_standAt (wpAny_bind (wpAny_onRaise (wpAny_pyNext_rev_end hA.handled (by simpa using hR.it) fun h' hx => ?_))))
    obtain ⟨W1, E1⟩ := hw.ext G.ok (Nat.le_refl _) hob o1 o1' o2 o3 o4 hR.new hx
    refine wpAny_pure ⟨rfl, codeAny_block (wpAny_execs_nil ?_)⟩
    exact ⟨σ, ρ, hI, h', s.toks, g, rfl, Nat.le_refl _, W1, E1.weaken (fun a ha => List.mem_append_left _ ha), hf.move G.ok E1 (fun a ha q => hR.env (List.mem_singleton.mp q ▸ ha)), rfl⟩
  | succ j ih =>
    intro σ ρ hj hI fr g s hs hf hw hA hR ha
    refine codeAny_of_tree ?_
    show wpAny _ A ((forTurn t (.ref I) b [] env).onRaise (fun x => do noteFrame x env; theTreesLotGoes x)) _ _ s
    refine wpAny_noted ?_
    simp only [forTurn]
    obtain ⟨ob, hob, o1, o1', o2, o3, o4⟩ := hR.obj
    obtain ⟨a', ws, e1, e2, e3⟩ := hw.lists i vs (hvs _ _ _ hI)
    rw [ha] at e1; cases e1
    obtain ⟨v, hv⟩ : ∃ v, vs[j]? = some v := ⟨_, List.getElem?_eq_getElem (by omega)⟩
    obtain ⟨wv, hwv, V0⟩ := e3.get hv
    have hidx : ((j + 1 : Nat) : Int) - 1 = (j : Int) := by omega
    have hit := hR.it
    rw [hidx] at hit
    refine wpAny_bind (wpAny_standAt (wpAny_bind (wpAny_onRaise (wpAny_pyNext_rev_item hit e2.isList (by rw [List.getElem?_toArray]; exact hwv) fun h1 hit1 hs1 => ?_))))
    obtain ⟨W1, E1⟩ := hw.ext G.ok (Nat.le_refl _) hob o1 o1' o2 o3 o4 hR.new hs1.extBut
    have F1 : FrR cx env g ρ h1 := hf.move G.ok E1 (fun a ha q => hR.env (List.mem_singleton.mp q ▸ ha))
    have R1 : RevOk cx h1 g env I al ((j : Int) - 1) := ⟨hit1, hR.free, hR.new, hR.env⟩
    have hIw : I ∉ wr env := fun q => hR.env (wr_sub _ q)
    exact (hstep j σ ρ v hv hI).elim fun ρ1 y => y.elim fun σ2 y => y.elim fun ρ2 y => wpAny_bind (letOwnedR_ok (s := { s with heap := h1 }) R1 (wpAny_bind (wpZ (asg_ok (s := { s with heap := h1 }) G.ok hs y.1 F1 W1 (V0.mono E1) hA.handled) fun _ s2 x2 => x2.k fun g2 W2 F2 A2 =>
      have R2 := R1.move G.ok A2.2.2 hIw
      wpAny_bind (wpZ (y.2.1 trivial hs F2 W2 hA) fun f s3 x3 => by
        apply x3.nx
        exact fun g3 W3 F3 A3 =>
          have R3 := R2.move G.ok A3.2.2 hIw
          wpAny_pure ⟨rfl, codeAny_mono (ih σ2 ρ2 (Nat.le_of_succ_le hj) y.2.2 hs F3 W3 hA R3 (am_pre A3.2.2 (am_pre A2.2.2 ha))) fun r s4 h4 => h4.map fun f x => x.elim fun σ' x => x.elim fun ρ' x => ⟨σ', ρ', x.1,
            EnvP.glue (s₁ := { s with heap := h1 }) R1.live R1.free.1 ⟨_, _, rfl⟩ (Nat.le_refl _) (E1.weaken (fun a ha => List.mem_append_left _ ha)) (EnvP.glue R2.live R2.free.1 A2.1 A2.2.1 (A2.2.2.weaken (fun a ha => List.mem_append_right _ ha)) (EnvP.glue R3.live R3.free.1 A3.1 A3.2.1 (A3.2.2.weaken (fun a ha => List.mem_append_right _ ha)) x.2))⟩⟩))))
end
end Mine
end
section
set_option maxRecDepth 100000
set_option maxHeartbeats 4000000
set_option linter.unusedVariables false
namespace Mine
open PySem PySem.Calls PyProof.Rows PySem.W PySem.SeqAt

section
variable {prog : Program} {w : World} {cx : Cx} {P : Env → Gh → Heap → Prop} {K : Nat} {sc : Scope} {σ σ' σ'' : Sto} {ρ ρ' ρ'' : Loc} {v : V} {fl : Fl} {env : Env} {g : Gh}

theorem ArS.evs (G : CxG cx) (hP : PresE cx P) {pos : Pos} {es : List Expr} {vs : List V} (h : ArS prog w cx P K sc ρ σ es vs σ') (hne : es ≠ []) {f : Value} {Q : Args → Shared → Prop} {fr : Option (List Env)} {env : Env} {g : Gh} {s : Shared} {A : Around}
    (hp : P env g s.heap) (hs : ScE env sc) (hf : FrR cx env g ρ s.heap) (hw : W cx σ g s.heap s.toks) (hA : Room fr K A)
    (k : ∀ g₂ ws s₂, W cx σ' g₂ s₂.heap s₂.toks → VRs cx s₂.heap g₂ vs ws → Next cx g s g₂ s₂ → Q ⟨ws, []⟩ s₂) : wpAny (model prog w) A (evalArgs f true (backTo pos (starEach es env)) []) Q Z s :=
  h.args hne (wpZ (ArS.sp (P := P) G hP h hp hs hf hw hA) fun ws s2 x2 => by
    refine x2.k fun g2 W2 V2 N2 => ?_
    exact k g2 ws s2 W2 V2 N2)

theorem rawCall (G : CxG cx) (hP : PresE cx P) {x : Str} {wf : Value} {p p1 : Pos} {es : List Expr} {vs : List V} (hm : (x, wf) ∈ rawTab) (hk : lk x sc.names = some .globalImplicit) (hd : (x == ("__debug__" : Str)) = false) (har : ArS prog w cx P K sc ρ σ es vs σ') (hne : es ≠ [])
    {fr : Option (List Env)} {env : Env} {g : Gh} {s : Shared} {A : Around} {Q : Value → Shared → Prop} (hp : P env g s.heap) (hs : ScE env sc) (hf : FrR cx env g ρ s.heap) (hw : W cx σ g s.heap s.toks) (hA : Room fr K A)
    (hc : ∀ g₂ ws s₂, W cx σ' g₂ s₂.heap s₂.toks → VRs cx s₂.heap g₂ vs ws → Next cx g s g₂ s₂ → wpAny (model prog w) A (call wf ws []) Q Z s₂) : wpAny (model prog w) A (eval (.Call (.Name x p1) es [] p) env) Q Z s := by
  show wpAny _ A (do callWith p (← eval (.Name x p1) env) [] (backTo p (starEach es env)) (backToKw p (keywordEach [] env))) _ _ s
  refine wpAny_bind (Name_function_global hf.kind (hs.at hk (fun x => nomatch x)) (raw_ok G hm hf.glob hf.blt hw ?_) hd)
  have e0 : backToKw p (keywordEach [] env) = [] := rfl
  rw [e0]
  refine callWith_of (P := fun h => ∃ k, (k = Keeper.frame ∨ k = Keeper.machine ∨ k = Keeper.boundFrame) ∧ Looks (model prog w) h (keeperOf wf) k) ?_ (fun _ x => x) ?_
  · rw [(har.any (pos := p) (env := env)).1]; rfl
  refine har.evs G hP hne hp hs hf hw hA fun g2 ws s2 W2 V2 N2 => ⟨⟨.machine, .inr (.inl rfl), ?_⟩, hc g2 ws s2 W2 V2 N2⟩
  simp only [rawTab, List.mem_cons, Prod.mk.injEq, List.not_mem_nil, or_false] at hm
  rcases hm with ⟨_, rfl⟩ | ⟨_, rfl⟩ | ⟨_, rfl⟩ | ⟨_, rfl⟩ | ⟨_, rfl⟩ <;> exact .now

theorem EvS.divm (G : CxG cx) (hP : PresE cx P) {ea eb : Expr} {a b : Int} {p p1 : Pos} (ha : EvS prog w cx P K sc σ ρ ea (.int a) σ) (hb : EvS prog w cx P K sc σ ρ eb (.int b) σ) (hk : lk "divmod" sc.names = some .globalImplicit) (h0 : b ≠ 0) (hsm : small b = true)
    (s1 : ∀ env es, starEach (ea :: es) env = (false, eval ea env) :: starEach es env) (s2 : ∀ env es, starEach (eb :: es) env = (false, eval eb env) :: starEach es env) :
    EvS prog w cx P K sc σ ρ (.Call (.Name "divmod" p1) [ea, eb] [] p) (.tup [.int (a.fdiv b), .int (a.fmod b)]) σ := fun fr env g s A hp hs hf hw hA => by
  refine rawCall (wf := .builtin "divmod") G hP (by simp [rawTab]) hk (by decide) (.cons ha s1 (.cons hb s2 (.nil _))) (by simp) hp hs hf hw hA fun g2 ws s2 W2 V2 N2 => ?_
  cases V2 with
  | cons v1 r => cases r with
    | cons v2 r => cases r with
      | nil =>
        apply v1.intE; intro t
        · apply v2.intE; intro u
          ·
            refine divmod_int h0 (N2.ev ?_) (.inl (by simpa using noPylong (a := a) hsm))
            exact EvP.push W2 (Nat.le_succ_of_le (Nat.le_succ _)) (.newTup W2 (.cons (.int _ _) (.cons (.int _ _) .nil)))

theorem EvS.append (G : CxG cx) (hP : PresE cx P) {o x : Expr} {i : Nat} {vs : List V} {p ap : Pos} (ho : EvS prog w cx P K sc σ ρ o (.lst i) σ) (hx : EvS prog w cx P K sc σ ρ x v σ) (hi : σ[i]? = some vs) (hl : vs.length < 100000) (hb : ∀ env, attributeBase o "append" env (eval o env) = eval o env) (hline : (ap.endLine == p.line) = true)
    (hst : ∀ env es, starEach (x :: es) env = (false, eval x env) :: starEach es env) : EvS prog w cx P K sc σ ρ (.Call (.Attribute o "append" ap) [x] [] p) .none (σ.set i (vs ++ [v])) := fun fr env g s A hp hs hf hw hA => by
  refine wpAny_Call_method_lateS (hb env) ?_ hline (wpZ (ho hp hs hf hw hA) fun wo s1 x1 => ?_)
  · rw [hst]; rfl
  refine x1.k fun g1 W1 V1 N1 => ?_
  apply V1.lstE; intro a ei
  ·
    obtain ⟨ws0, n0, hob⟩ := W1.amOld (List.mem_of_getElem? ei)
    refine ⟨"list", "list.append", F.plainAttrs_list, F.slot_list_append, F.type_list_append, ⟨_, hob, rfl⟩, (fun b e => by cases e; exact ⟨_, hob, rfl⟩), callWith_builtin ?_ ?_⟩
    · rw [hst]; rfl
    have har : ArS prog w cx P K sc ρ σ [x] [v] σ := .cons hx hst (.nil _)
    refine har.evs G hP (by simp) (hP.at_ hp N1.evo) hs (hf.mono G.ok N1.evo) W1 hA fun g2 ws s2 W2 V2 N2 => ?_
    have ei2 : g2.am[i]? = some a := by
      obtain ⟨m2, q2⟩ := N2.evo.pre
      rw [q2, List.getElem?_append_left (List.getElem?_eq_some_iff.mp ei).1]; exact ei
    cases V2 with
    | cons v1 r => cases r with
      | nil => exact wpZ (append_ok G.ok W2 ei2 hi (Nat.ble_eq_true_of_le hl) v1) fun w3 s3 x3 => N1.ev (N2.ev x3)
theorem EvS.reverse (G : CxG cx) (hP : PresE cx P) {o : Expr} {i : Nat} {vs : List V} {p ap : Pos} (ho : EvS prog w cx P K sc σ ρ o (.lst i) σ) (hi : σ[i]? = some vs) (hl : vs.length < 100000) (hb : ∀ env, attributeBase o "reverse" env (eval o env) = eval o env) (hline : (ap.endLine == p.line) = true) :
    EvS prog w cx P K sc σ ρ (.Call (.Attribute o "reverse" ap) [] [] p) .none (σ.set i vs.reverse) := fun fr env g s A hp hs hf hw hA => by
  refine wpAny_Call_method_lateS (hb env) rfl hline (wpZ (ho hp hs hf hw hA) fun wo s1 x1 => ?_)
  refine x1.k fun g1 W1 V1 N1 => ?_
  apply V1.lstE; intro a ei
  ·
    obtain ⟨a', ws, e1, e2, e3⟩ := W1.lists i vs hi
    rw [ei] at e1; cases e1
    obtain ⟨n0, hob⟩ := id e2
    refine ⟨"list", "list.reverse", F.plainAttrs_list, F.slot_list_reverse, F.type_list_reverse, ⟨_, hob, rfl⟩, (fun b e => by cases e; exact ⟨_, hob, rfl⟩), callWith_builtin rfl (evalArgs_nil3 ?_)⟩
    refine call_meets F.slot_list_reverse ⟨_, hob, rfl⟩ F.entry_list_reverse (F.args_list_reverse_1 _) (AutoListH.list_reverse_list_0 a ws.toArray n0 (by have := sizeLine_eq; rw [List.size_toArray, ← e3.length]; omega)) ⟨hob, ?_⟩
    have hnew : (s1.heap.update a (Obj.mapSeq (·.reverse))).PlainList a ws.reverse.toArray := ⟨n0, (Heap.get?_update_self _ hob rfl).trans (by simp [Obj.mapSeq])⟩
    have r : VRs cx s1.heap g1 vs.reverse ws.reverse := by
      clear e2 hob hi hl hnew
      have : ∀ {vs : List V} {ws : List Value}, VRs cx s1.heap g1 vs ws → VRs cx s1.heap g1 vs.reverse ws.reverse := by
        intro vs
        induction vs with
        | nil => intro ws h; cases h; exact .nil
        | cons a l ih => intro ws h; cases h with
          | cons h1 h2 => rw [List.reverse_cons, List.reverse_cons]; exact (ih h2).append (.cons h1 .nil)
      exact this e3
    exact N1.ev (EvP.setLst G.ok W1 ei hi e2 (Heap.SameBut.update ..) hnew r)

theorem ExS.forRev (G : CxG cx) (hP : PresE cx P) {t x : Expr} {b ss : List Stmt} {p p1 p2 : Pos} {i : Nat} {vs : List V} {S : Nat → Sto} {R : Nat → Loc} (hk : lk "reversed" sc.names = some .globalImplicit) (hx : EvS prog w cx P K sc (S vs.length) (R vs.length) x (.lst i) (S vs.length)) (hst : ∀ env es, starEach (x :: es) env = (false, eval x env) :: starEach es env)
    (hvs : ∀ j, (S j)[i]? = some vs) (hstep : ∀ j v, vs[j]? = some v → ∃ ρ1, asgV sc (R (j + 1)) t v = some ρ1 ∧ ExS prog w cx PT K sc (S (j + 1)) ρ1 b .next (S j) (R j))
    (h2 : ExS prog w cx PT K sc (S 0) (R 0) ss fl σ'' ρ'') : ExS prog w cx P K sc (S vs.length) (R vs.length) (.For t (.Call (.Name "reversed" p1) [x] [] p2) b [] p :: ss) fl σ'' ρ'' := ExS.consT (σ' := S 0) (ρ' := R 0) (by
    intro fr env g s A hp hs hf hw hA
    refine wpAny_For (rawCall (wf := .type "reversed") G hP (by simp [rawTab]) hk (by decide) (.cons hx hst (.nil _)) (by simp) hp hs hf hw hA fun g1 ws s1 W1 V1 N1 => ?_) (fun _ => rfl)
    cases V1 with
    | cons v1 r => cases r with
      | nil =>
        apply v1.lstE; intro al ei
        ·
          obtain ⟨a', ws, e1, e2, e3⟩ := W1.lists i vs (hvs _)
          rw [ei] at e1; cases e1
          refine call_reversed_list e2.isList ?_
          have f1 := hf.mono G.ok N1.evo
          have W2 : W cx (S vs.length) g1 (s1.heap.push (revObj al ((ws.toArray.size : Int) - 1))) s1.toks := W1.keeps (fun _ _ e => Heap.get?_push_of_some _ e) (Nat.le_refl _)
          have E2 : Ev cx [] g1 g1 s1.heap (s1.heap.push (revObj al ((ws.toArray.size : Int) - 1))) := .push _
          have hI : (s1.heap.push (revObj al ((ws.toArray.size : Int) - 1))).IsRevIter s1.heap.objs.size al ((ws.toArray.size : Int) - 1) := ⟨_, Heap.get?_push_size _ rfl, rfl, rfl⟩
          refine wpAny_pyIter_revIter hI ?_
          have hR : RevOk cx (s1.heap.push (revObj al ((ws.toArray.size : Int) - 1))) g1 env s1.heap.objs.size al ((vs.length : Int) - 1) := ⟨by
              have : (ws.toArray.size : Int) = (vs.length : Int) := by rw [List.size_toArray, e3.length]
              rw [← this]; exact hI, W1.new (get_size _), W1.fresh₀ G.ok, fun hm => by
            rcases mem_frame hm with q | ⟨x, hx⟩
            · obtain ⟨m, ⟨o, es, ep, ho, _⟩, _⟩ := f1.ns
              rw [← q, get_size] at ho; cases ho
            · obtain ⟨⟨u, oc, ho, _⟩, _⟩ := f1.cells _ _ hx
              rw [get_size] at ho; cases ho⟩
          refine codeAny_mono (revF_ok (s := { s1 with heap := s1.heap.push (revObj al ((ws.toArray.size : Int) - 1)) }) G (fun j σ ρ => σ = S j ∧ ρ = R j) (fun j σ ρ h => by rw [h.1]; exact hvs j) (fun j σ ρ v hv h => by
            obtain ⟨h1, h2⟩ := h
            subst h1 h2
            obtain ⟨ρ1, q1, q2⟩ := hstep j v hv
            exact ⟨ρ1, S j, R j, q1, q2, rfl, rfl⟩) vs.length _ _ (Nat.le_refl _) ⟨rfl, rfl⟩ hs (f1.mono G.ok E2) W2 hA hR ei) fun r s3 h3 => ?_
          cases r with
          | error x => exact h3.elim
          | ok f =>
            obtain ⟨σ3, ρ3, ⟨rfl, rfl⟩, h3⟩ := h3
            obtain ⟨g3, W3, F3, l3, E3, ⟨h3', t3, rfl⟩, k⟩ := EnvP.elim h3
            have E4 : Ev cx ([s1.heap.objs.size] ++ wr env) g1 g3 s1.heap h3' := (E2.weaken (by simp)).trans E3 (fun a ha => by
              rcases List.mem_append.mp ha with ha | ha
              · rw [List.mem_singleton.mp ha]
                intro m
                obtain ⟨ob, e1, _⟩ := hR.obj
                have := E3.new _ m hR.free.1
                rw [e1] at this; cases this
              · exact (F3.free_wr a ha).1)
            have E5 : Ev cx (wr env) g1 g3 s1.heap h3' := E4.drop fun a ha => by
              rcases List.mem_append.mp ha with ha | ha
              · exact .inr (by rw [List.mem_singleton.mp ha]; exact get_size _)
              · exact .inl ha
            exact N1.ex ⟨h3', t3, g3, rfl, l3, W3, E5, F3, k⟩) h2
theorem EvS.nmL (G : CxG cx) {x : Str} {p : Pos} (e : lk x ρ = some v) (h : viewN x = .name x) : EvS prog w cx P K sc σ ρ (.Name x p) v σ := EvS.nm G (by unfold evName; rw [e]) h
theorem EvS.nil (G : CxG cx) {p : Pos} : EvS prog w cx P K sc σ ρ (.List [] p) (.lst σ.length) (σ ++ [[]]) := fun fr env g s A hp hs hf hw hA =>
  wpAny_List_spliced (spliced_nil ⟨by rw [sizeLine_eq]; simp, EvP.newLst G.ok hw⟩)
end
end Mine
end
section
set_option maxRecDepth 100000
set_option maxHeartbeats 4000000
set_option linter.unusedVariables false
namespace Mine
open PySem PySem.Calls PyProof.Rows PySem.W PySem.SeqAt

noncomputable def N21 : Fn := fnGet "_div2n1n"
noncomputable def DP : Fn := fnGet "_divmod_pos"

theorem small_nat {b : Nat} (h : b < 2 ^ 60) : small (b : Int) = true := Nat.ble_eq_true_of_le (by show (b : Int).natAbs + 1 ≤ 2 ^ 60; omega)

/-! the long division -/
noncomputable def vN (n : Nat) : List Nat → Nat
  | [] => 0
  | d :: r => d + 2 ^ n * vN n r
theorem vN_val (n : Nat) : ∀ ds : List Nat, valD n (ds.map Int.ofNat) = (vN n ds : Int)
  | [] => rfl
  | d :: r => by rw [List.map_cons, valD, vN_val n r, vN]; simp
theorem vN_drop {n : Nat} {ds : List Nat} {j : Nat} {d : Nat} (h : ds[j]? = some d) : vN n (ds.drop j) = d + 2 ^ n * vN n (ds.drop (j + 1)) := by
  obtain ⟨hl, hd⟩ := List.getElem?_eq_some_iff.mp h
  rw [List.drop_eq_getElem_cons hl, hd, vN]
noncomputable def rm (n b : Nat) (ds : List Nat) (j : Nat) : Nat := vN n (ds.drop j) % b
noncomputable def qd (n b : Nat) (ds : List Nat) (j : Nat) : Nat := (rm n b ds (j + 1) * 2 ^ n + (ds[j]?).getD 0) / b
noncomputable def qs (n b : Nat) (ds : List Nat) : Nat → Nat → List Nat
  | 0, _ => []
  | k + 1, j => qd n b ds j :: qs n b ds k (j + 1)
theorem rm_step {n b : Nat} {ds : List Nat} {j d : Nat} (h : ds[j]? = some d) : (rm n b ds (j + 1) * 2 ^ n + d) % b = rm n b ds j := by
  unfold rm
  rw [vN_drop h]
  conv => rhs; rw [Nat.add_comm, Nat.add_mod, Nat.mul_mod, Nat.mul_comm]
  conv => lhs; rw [Nat.add_mod, Nat.mul_mod, Nat.mod_mod]
theorem qd_step {n b : Nat} {ds : List Nat} {j d : Nat} (hb : 0 < b) (h : ds[j]? = some d) : vN n (ds.drop j) / b = qd n b ds j + 2 ^ n * (vN n (ds.drop (j + 1)) / b) := by
  unfold qd rm
  rw [vN_drop h, h]
  simp only [Option.getD_some]
  generalize vN n (ds.drop (j + 1)) = V
  have e : d + 2 ^ n * V = (V % b * 2 ^ n + d) + b * (2 ^ n * (V / b)) := by
    conv => lhs; rw [← Nat.mod_add_div V b]
    rw [Nat.mul_add, Nat.mul_comm (2 ^ n) (V % b), Nat.mul_left_comm (2 ^ n) b]; omega
  rw [e, Nat.add_mul_div_left _ _ hb]
theorem qs_val {n b : Nat} {ds : List Nat} (hb : 0 < b) : ∀ (k j : Nat), j + k = ds.length → vN n (qs n b ds k j) = vN n (ds.drop j) / b
  | 0, j, h => by rw [List.drop_eq_nil_of_le (by omega)]; simp [qs, vN]
  | k + 1, j, h => by
    have hj : ds[j]? = some (ds[j]'(by omega)) := List.getElem?_eq_getElem (by omega)
    rw [qd_step hb hj, ← qs_val hb k (j + 1) (by omega)]; rfl
theorem qs_len {n b : Nat} {ds : List Nat} : ∀ (k j : Nat), (qs n b ds k j).length = k
  | 0, _ => rfl
  | k + 1, j => by rw [qs, List.length_cons, qs_len]
theorem qd_lt {n b : Nat} {ds : List Nat} {j : Nat} (hb : 0 < b) (hd : ∀ d ∈ ds, d < 2 ^ n) : qd n b ds j < 2 ^ n := by
  unfold qd
  have h1 : rm n b ds (j + 1) < b := Nat.mod_lt _ hb
  have h2 : (ds[j]?).getD 0 < 2 ^ n := by
    cases h : ds[j]? with
    | none => exact Nat.pow_pos (by decide)
    | some d => exact hd d (List.mem_of_getElem? h)
  refine Nat.div_lt_of_lt_mul ?_
  have := Nat.mul_le_mul_right (2 ^ n) (show rm n b ds (j + 1) + 1 ≤ b by omega)
  rw [Nat.add_mul, Nat.one_mul] at this
  omega

section
variable {prog : Program} {w : World} {cx : Cx} {σ : Sto} {i n : Nat}

theorem n21_ok (G : CxG cx) (hfn : ∀ nm a, cx.fnA nm = some a → FnOk cx nm a) {a : Addr} (ha : cx.fnA "_div2n1n" = some a) {x b n K : Nat} (hx : x < 2 ^ 200) (hb : 0 < b) (hb2 : b < 2 ^ 60) :
    CaS prog w cx (K + 1) a σ [.int (x : Int), .int (b : Int), .int (n : Int)] (.tup [.int ((x / b : Nat) : Int), .int ((x % b : Nat) : Int)]) σ := by
  refine CaS.body (fn := N21) (ρ := [("a", .int (x : Int)), ("b", .int (b : Int)), ("n", .int (n : Int))]) (ρ' := [("a", .int (x : Int)), ("b", .int (b : Int)), ("n", .int (n : Int))]) G.ok (hfn _ _ ha) rfl (by decide +kernel) rfl ?_
  have hP : Pres cx PT := PT.pres
  have h0 : (b : Int) ≠ 0 := by omega
  have e1 : (x : Int).fdiv (b : Int) = ((x / b : Nat) : Int) := by rw [Int.fdiv_eq_ediv_of_nonneg _ (by omega)]; rfl
  have e2 : (x : Int).fmod (b : Int) = ((x % b : Nat) : Int) := by rw [Int.fmod_eq_emod_of_nonneg _ (by omega)]; rfl
  rw [← e1, ← e2]
  have key : ∀ {s1 ss}, N21.body = s1 :: ss → ExS prog w cx PT K N21.sc σ [("a", .int (x : Int)), ("b", .int (b : Int)), ("n", .int (n : Int))] (s1 :: ss) (.ret (.tup [.int ((x : Int).fdiv (b : Int)), .int ((x : Int).fmod (b : Int))])) σ [("a", .int (x : Int)), ("b", .int (b : Int)), ("n", .int (n : Int))] →
      ExS prog w cx (fun _ _ _ => True) K N21.sc σ [("a", .int (x : Int)), ("b", .int (b : Int)), ("n", .int (n : Int))] N21.body (.ret (.tup [.int ((x : Int).fdiv (b : Int)), .int ((x : Int).fmod (b : Int))])) σ [("a", .int (x : Int)), ("b", .int (b : Int)), ("n", .int (n : Int))] := fun e h => by rw [e]; exact h
  refine key rfl ?_
  refine ExS.ifret (k := true) G hP.e (TsS.cmp (i := ((Builtin.Int.intBits (x : Int) : Nat) : Int) - (n : Int)) (j := 4000) G hP.e (EvS.bin G hP.e (EvS.bits G hP.e (EvS.nm G rfl rfl) (fun _ => rfl) rfl) (EvS.nm G rfl rfl) fun _ h => AutoIntOps.sub_0 h) (EvS.nm G rfl rfl) ?_ rfl)
    (ExS.ret G (EvS.divm G hP.e (EvS.nm G rfl rfl) (EvS.nm G rfl rfl) (by decide +kernel) h0 (small_nat hb2) (fun _ _ => rfl) (fun _ _ => rfl)))
  have := bits_le x 200 hx
  simp only [icmp]
  exact congrArg some (decide_eq_true (by omega))
end
end Mine
end
section
set_option maxRecDepth 100000
set_option maxHeartbeats 4000000
set_option linter.unusedVariables false
namespace Mine
open PySem PySem.Calls PyProof.Rows PySem.W PySem.SeqAt

noncomputable def dpR (n b : Nat) (ds : List Nat) (ρ0 : Loc) : Nat → Loc
  | 0 => ρ0
  | k + 1 => put "r" (.int (rm n b ds (ds.length - (k + 1)) : Nat)) (put "q_digit" (.int (qd n b ds (ds.length - (k + 1)) : Nat)) (put "a_digit" (.int ((ds[ds.length - (k + 1)]?).getD 0 : Nat)) (dpR n b ds ρ0 k)))
theorem dpR_lk {n b : Nat} {ds : List Nat} {ρ0 : Loc} {x : Str} (h1 : x ≠ "r") (h2 : x ≠ "q_digit") (h3 : x ≠ "a_digit") : ∀ k, lk x (dpR n b ds ρ0 k) = lk x ρ0
  | 0 => rfl
  | k + 1 => by rw [dpR, lk_put, if_neg h1, lk_put, if_neg h2, lk_put, if_neg h3, dpR_lk h1 h2 h3 k]
theorem dpR_r {n b : Nat} {ds : List Nat} {ρ0 : Loc} (h : lk "r" ρ0 = some (.int 0)) : ∀ k, lk "r" (dpR n b ds ρ0 k) = some (.int (rm n b ds (ds.length - k) : Nat))
  | 0 => by rw [dpR, h]; unfold rm; rw [List.drop_eq_nil_of_le (by omega)]; simp [vN]
  | k + 1 => by rw [dpR, lk_put, if_pos rfl]

section
variable {prog : Program} {w : World} {cx : Cx} {P : Env → Gh → Heap → Prop} {K : Nat} {sc : Scope} {σ σ' : Sto} {ρ : Loc} {v : V} {i n : Nat}
theorem EvS.nmG (G : CxG cx) {x : Str} {p : Pos} (e : lk x ρ = none) (e2 : evGlob sc σ x = some (v, σ')) (h : viewN x = .name x) : EvS prog w cx P K sc σ ρ (.Name x p) v σ' := EvS.nm G (by unfold evName; rw [e]; exact e2) h

noncomputable def dpQ (n b : Nat) (ds : List Nat) (j : Nat) : List V := ((qs n b ds (ds.length - j) j).reverse).map fun x => .int (x : Nat)
theorem dpQ_step {n b : Nat} {ds : List Nat} {j : Nat} (h : j < ds.length) : dpQ n b ds j = dpQ n b ds (j + 1) ++ [.int (qd n b ds j : Nat)] := by
  unfold dpQ
  rw [show ds.length - j = (ds.length - (j + 1)) + 1 from ns1 h, qs, List.reverse_cons, List.map_append]
  rfl
theorem set_last2 {α : Type} (l : List α) (a b c : α) : (l ++ [a, b]).set (l.length + 1) c = l ++ [a, c] := by
  rw [List.set_append_right _ _ (by omega)]
  rw [show l.length + 1 - l.length = 1 from by omega]; rfl
theorem get_last2 {α : Type} (l : List α) (a b : α) : (l ++ [a, b])[l.length + 1]? = some b := by
  rw [List.getElem?_append_right (by omega), show l.length + 1 - l.length = 1 from by omega]; rfl
theorem get_last1 {α : Type} (l : List α) (a b : α) : (l ++ [a, b])[l.length]? = some a := by
  rw [List.getElem?_append_right (by omega), Nat.sub_self]; rfl

theorem dp_ok (G : CxG cx) (hX : CxX cx) (hfn : ∀ nm a, cx.fnA nm = some a → FnOk cx nm a) {a : Addr} (ha : cx.fnA "_divmod_pos" = some a)
    (hi2 : ∀ a, cx.fnA "_int2digits" = some a → InnOk cx a I2i.name) (hd2 : ∀ a, cx.fnA "_digits2int" = some a → InnOk cx a D2i.name) {x b : Nat} (hx : x < 2 ^ 62) (hb : 0 < b) (hb2 : b < 2 ^ 60) :
    ∃ σ', CaS prog w cx (102 + 1) a σ [.int (x : Int), .int (b : Int)] (.tup [.int ((x / b : Nat) : Int), .int ((x % b : Nat) : Int)]) σ' := by
  have hfi : ∀ nm a, cx.fnA nm = some a → FnIn cx nm a := fun nm a e => (hfn nm a e).fin
  obtain ⟨n, hn⟩ : ∃ n, n = Builtin.Int.intBits (b : Int) := ⟨_, rfl⟩
  have hbn : b < 2 ^ n := by rw [hn]; exact bits_lt b
  have hn64 : n ≤ 60 := by rw [hn]; exact bits_le b 60 (by omega)
  have hn1 : 1 ≤ n := by
    rcases Nat.eq_zero_or_pos n with h | h
    · rw [h] at hbn; omega
    · exact h
  obtain ⟨ds, hds⟩ : ∃ ds, ds = dig n (nd n x) x := ⟨_, rfl⟩
  have hlen : ds.length = nd n x := by rw [hds, dig_len]
  have hN : ds.length ≤ 64 := by rw [hlen]; exact nd_le n x hn1 (by omega)
  have hdlt : ∀ d ∈ ds, d < 2 ^ n := by rw [hds]; exact dig_lt n _ x
  have hval : vN n ds = x := by
    have h1 := dig_val n (nd n x) x (nd_big n x hn1)
    rw [← hds, vN_val] at h1
    omega
  obtain ⟨vs, hvs⟩ : ∃ vs : List V, vs = (dg n (nd n x) x).map V.int := ⟨_, rfl⟩
  have hvl : vs.length = ds.length := by rw [hvs, List.length_map, dg_len, hlen]
  have hvj : ∀ j d, ds[j]? = some d → vs[j]? = some (V.int (d : Nat)) := fun j d h => by
    rewrite [hvs]; unfold dg; rw [← hds, List.getElem?_map, List.getElem?_map, h]; rfl
  obtain ⟨ρ0, hρ0⟩ : ∃ ρ0, ρ0 = put "q_digits" (.lst (σ.length + 1)) (put "r" (.int 0) (put "a_digits" (.lst σ.length) (put "n" (.int (n : Int)) [("a", .int (x : Int)), ("b", .int (b : Int))]))) := ⟨_, rfl⟩
  have k1 : ∀ k, lk "n" (dpR n b ds ρ0 k) = some (.int (n : Int)) := fun k => by rw [dpR_lk (by decide) (by decide) (by decide), hρ0]; rfl
  have k2 : ∀ k, lk "b" (dpR n b ds ρ0 k) = some (.int (b : Int)) := fun k => by rw [dpR_lk (by decide) (by decide) (by decide), hρ0]; rfl
  have k3 : ∀ k, lk "q_digits" (dpR n b ds ρ0 k) = some (.lst (σ.length + 1)) := fun k => by rw [dpR_lk (by decide) (by decide) (by decide), hρ0]; rfl
  have k4 : ∀ k, lk "_div2n1n" (dpR n b ds ρ0 k) = none := fun k => by rw [dpR_lk (by decide) (by decide) (by decide), hρ0]; rfl
  have k5 : ∀ k, lk "_digits2int" (dpR n b ds ρ0 k) = none := fun k => by rw [dpR_lk (by decide) (by decide) (by decide), hρ0]; rfl
  have k6 : ∀ k, lk "a_digits" (dpR n b ds ρ0 k) = some (.lst σ.length) := fun k => by rw [dpR_lk (by decide) (by decide) (by decide), hρ0]; rfl
  have kr : ∀ k, lk "r" (dpR n b ds ρ0 k) = some (.int (rm n b ds (ds.length - k) : Nat)) := dpR_r (by rw [hρ0]; rfl)
  have hP : Pres cx PT := PT.pres
  have hq0 : dpQ n b ds vs.length = [] := by unfold dpQ; rw [hvl, Nat.sub_self]; rfl
  have hqv : valD n ((qs n b ds ds.length 0).map Int.ofNat) = ((x / b : Nat) : Int) := by
    rw [vN_val, qs_val hb ds.length 0 (by omega), List.drop_zero, hval]
  have hr0 : rm n b ds 0 = x % b := by unfold rm; rw [List.drop_zero, hval]
  have hbits : ((Builtin.Int.intBits (b : Int) : Nat) : Int) = (n : Int) := by rw [hn]
  refine ⟨σ ++ [vs, ((qs n b ds ds.length 0).map Int.ofNat).map V.int], ?_⟩
  refine CaS.body (fn := DP) (ρ := [("a", .int (x : Int)), ("b", .int (b : Int))]) (ρ' := put "q" (.int ((x / b : Nat) : Int)) (dpR n b ds ρ0 ds.length)) G.ok (hfn _ _ ha) rfl (by decide +kernel) rfl ?_
  have key : ∀ {s1 ss} {v : V} {σ' : Sto} {ρ' : Loc}, DP.body = s1 :: ss → ExS prog w cx PT 102 DP.sc σ [("a", .int (x : Int)), ("b", .int (b : Int))] (s1 :: ss) (.ret v) σ' ρ' → ExS prog w cx (fun _ _ _ => True) 102 DP.sc σ [("a", .int (x : Int)), ("b", .int (b : Int))] DP.body (.ret v) σ' ρ' := fun e h => by rw [e]; exact h
  refine key rfl ?_
  refine ExS.asg (v := .int (n : Int)) (σ' := σ) (ρ' := put "n" (.int (n : Int)) [("a", .int (x : Int)), ("b", .int (b : Int))]) G hP ?_ rfl rfl (fun _ => rfl) ?_
  · rw [← hbits]; exact EvS.bits G hP.e (EvS.nm G rfl rfl) (fun _ => rfl) rfl
  refine ExS.asg (v := .lst σ.length) (σ' := σ ++ [vs]) (ρ' := put "a_digits" (.lst σ.length) (put "n" (.int (n : Int)) [("a", .int (x : Int)), ("b", .int (b : Int))])) G hP ?_ rfl rfl (fun _ => rfl) ?_
  · refine EvS.callF (nm := "_int2digits") (a := a) G hP.e (EvS.nm G rfl rfl) hfi (.cons (EvS.nm G rfl rfl) (fun _ _ => rfl) (.cons (EvS.nm G rfl rfl) (fun _ _ => rfl) (.nil _))) (by simp) (fun a ha => ?_) (fun _ => rfl)
    rw [hvs]
    exact i2_ok G hX hfn ha (hi2 a ha) hn1 (by omega) (by omega)
  refine ExS.asg (v := .int 0) (σ' := σ ++ [vs]) (ρ' := put "r" (.int 0) (put "a_digits" (.lst σ.length) (put "n" (.int (n : Int)) [("a", .int (x : Int)), ("b", .int (b : Int))]))) G hP (EvS.con rfl) rfl rfl (fun _ => rfl) ?_
  refine ExS.asg (v := .lst (σ.length + 1)) (σ' := σ ++ [vs, []]) (ρ' := ρ0) G hP ?_ (by rw [hρ0]; rfl) rfl (fun _ => rfl) ?_
  · have h := fun p => EvS.nil (p := p) (prog := prog) (w := w) (P := PT) (K := 102) (sc := DP.sc) (σ := σ ++ [vs]) (ρ := put "r" (.int 0) (put "a_digits" (.lst σ.length) (put "n" (.int (n : Int)) [("a", .int (x : Int)), ("b", .int (b : Int))]))) G
    have e1 : (σ ++ [vs]).length = σ.length + 1 := by simp
    have e2 : σ ++ [vs] ++ [[]] = σ ++ [vs, []] := by simp
    rw [e1, e2] at h
    exact h _
  have fin : ∀ {st : Stmt} {ss : List Stmt} {v : V} {σ' : Sto} {ρ' : Loc}, ExS prog w cx PT 102 DP.sc (σ ++ [vs, dpQ n b ds vs.length]) (dpR n b ds ρ0 (ds.length - vs.length)) (st :: ss) (.ret v) σ' ρ' → ExS prog w cx PT 102 DP.sc (σ ++ [vs, []]) ρ0 (st :: ss) (.ret v) σ' ρ' := fun h => by
    rw [hq0, hvl, Nat.sub_self] at h; exact h
  refine fin ?_
  refine ExS.forRev (S := fun j => σ ++ [vs, dpQ n b ds j]) (R := fun j => dpR n b ds ρ0 (ds.length - j)) (i := σ.length) G hP.e (by decide +kernel) (EvS.nmL G (k6 _) rfl) (fun _ _ => rfl) (fun j => get_last1 _ _ _) (fun j v hv => ?_) ?_
  · have hj : j < ds.length := by rw [← hvl]; exact (List.getElem?_eq_some_iff.mp hv).1
    obtain ⟨d, hd⟩ : ∃ d, ds[j]? = some d := ⟨_, List.getElem?_eq_getElem hj⟩
    rw [hvj j d hd] at hv
    cases hv
    have hdl := hdlt d (List.mem_of_getElem? hd)
    have hrl : rm n b ds (j + 1) < b := Nat.mod_lt _ hb
    refine ⟨put "a_digit" (.int (d : Nat)) (dpR n b ds ρ0 (ds.length - (j + 1))), rfl, ?_⟩
    have hsub : ds.length - j = (ds.length - (j + 1)) + 1 := ns1 hj
    have hsub2 : ds.length - (ds.length - (j + 1) + 1) = j := hsub ▸ Nat.sub_sub_self (Nat.le_of_lt hj)
    have kr' := kr (ds.length - (j + 1))
    rw [show ds.length - (ds.length - (j + 1)) = j + 1 from Nat.sub_sub_self hj] at kr'
    have hpow : rm n b ds (j + 1) * 2 ^ n + d < 2 ^ 200 := by
      have h1 : rm n b ds (j + 1) * 2 ^ n ≤ 2 ^ 60 * 2 ^ 60 := Nat.mul_le_mul (by omega) (Nat.pow_le_pow_right (by decide) hn64)
      have h2 : 2 ^ n ≤ 2 ^ 60 := Nat.pow_le_pow_right (by decide) hn64
      omega
    have hmul : (rm n b ds (j + 1) : Int) * 2 ^ ((n : Int).toNat) + (d : Int) = ((rm n b ds (j + 1) * 2 ^ n + d : Nat) : Int) := by rw [Int.toNat_natCast]; simp
    have hq : (rm n b ds (j + 1) * 2 ^ n + d) / b = qd n b ds j := by unfold qd; rw [hd]; rfl
    have hr := rm_step (n := n) (b := b) hd
    have hfin : dpR n b ds ρ0 (ds.length - j) = put "r" (.int ((rm n b ds j : Nat) : Int)) (put "q_digit" (.int ((qd n b ds j : Nat) : Int)) (put "a_digit" (.int (d : Nat)) (dpR n b ds ρ0 (ds.length - (j + 1))))) := by
      rw [hsub, dpR, hsub2, hd]; rfl
    rw [hfin]
    refine ExS.asg (v := .tup [.int ((qd n b ds j : Nat) : Int), .int ((rm n b ds j : Nat) : Int)]) (σ' := σ ++ [vs, dpQ n b ds (j + 1)]) G hP ?_ rfl rfl (fun _ => rfl) ?_
    · rw [← hq, ← hr]
      refine EvS.callF (nm := "_div2n1n") (a := a) G hP.e (EvS.nmG G (by rw [lk_put, if_neg (by decide)]; exact k4 _) rfl rfl) hfi (.cons (EvS.bin G hP.e (EvS.bin (i := (rm n b ds (j + 1) : Nat)) (j := (n : Int)) G hP.e (EvS.nmL G (by rw [lk_put, if_neg (by decide)]; exact kr') rfl) (EvS.nmL G (by rw [lk_put, if_neg (by decide)]; exact k1 _) rfl) fun _ h => lshift_int_small (by omega) (by omega) (by rw [Int.natAbs_natCast]; omega) h) (EvS.nmL (v := .int (d : Nat)) G (by rw [lk_put, if_pos rfl]) rfl) fun _ h => AutoIntOps.add_0 (by rw [hmul]; exact h)) (fun _ _ => rfl) (.cons (EvS.nmL G (by rw [lk_put, if_neg (by decide)]; exact k2 _) rfl) (fun _ _ => rfl) (.cons (EvS.nmL G (by rw [lk_put, if_neg (by decide)]; exact k1 _) rfl) (fun _ _ => rfl) (.nil _)))) (by simp) (fun a ha => ?_) (fun _ => rfl)
      exact n21_ok (K := 101) G hfn ha hpow hb hb2
    · refine ExS.expr (v := .none) (σ' := σ ++ [vs, dpQ n b ds j]) G hP ?_ (fun _ => rfl) ExS.nil
      rw [dpQ_step hj, ← set_last2 σ vs (dpQ n b ds (j + 1)) (dpQ n b ds (j + 1) ++ [V.int (qd n b ds j : Nat)])]
      refine EvS.append G hP.e (EvS.nmL G (by rw [lk_put, if_neg (by decide), lk_put, if_neg (by decide), lk_put, if_neg (by decide)]; exact k3 _) rfl) (EvS.nmL G (by rw [lk_put, if_neg (by decide), lk_put, if_pos rfl]) rfl) (get_last2 _ _ _) ?_ (fun _ => rfl) rfl (fun _ _ => rfl)
      unfold dpQ
      rw [List.length_map, List.length_reverse, qs_len]; exact Nat.lt_of_le_of_lt (Nat.sub_le _ _) (Nat.lt_of_le_of_lt hN (by decide))
  · have hrev : (dpQ n b ds 0).reverse = ((qs n b ds ds.length 0).map Int.ofNat).map V.int := by
      unfold dpQ
      rw [← List.map_reverse, List.reverse_reverse, List.map_map, Nat.sub_zero]; rfl
    rw [Nat.sub_zero]
    refine ExS.expr (v := .none) (σ' := σ ++ [vs, ((qs n b ds ds.length 0).map Int.ofNat).map V.int]) G hP ?_ (fun _ => rfl) ?_
    · rw [← hrev, ← set_last2 σ vs (dpQ n b ds 0) ((dpQ n b ds 0).reverse)]
      refine EvS.reverse G hP.e (EvS.nmL G (k3 _) rfl) (get_last2 _ _ _) ?_ (fun _ => rfl) rfl
      unfold dpQ
      rw [List.length_map, List.length_reverse, qs_len]; exact Nat.lt_of_le_of_lt (Nat.sub_le _ _) (Nat.lt_of_le_of_lt hN (by decide))
    refine ExS.asg (v := .int ((x / b : Nat) : Int)) (σ' := σ ++ [vs, ((qs n b ds ds.length 0).map Int.ofNat).map V.int]) (ρ' := put "q" (.int ((x / b : Nat) : Int)) (dpR n b ds ρ0 ds.length)) G hP ?_ rfl rfl (fun _ => rfl) ?_
    · rw [← hqv]
      refine EvS.callF (nm := "_digits2int") (a := a) G hP.e (EvS.nmG G (k5 _) rfl rfl) hfi (.cons (EvS.nmL G (k3 _) rfl) (fun _ _ => rfl) (.cons (EvS.nmL G (k1 _) rfl) (fun _ _ => rfl) (.nil _))) (by simp) (fun a ha => ?_) (fun _ => rfl)
      refine d2_ok G hX hfn ha (hd2 a ha) (get_last2 _ _ _) (fun d hd => ?_) ?_ ?_ (by omega)
      · obtain ⟨y, _, rfl⟩ := List.mem_map.mp hd
        exact Int.natCast_nonneg y
      · rw [hqv]
        have := Nat.div_le_self x b
        omega
      · rw [List.length_map, qs_len]; omega
    · have krf := kr ds.length
      rw [Nat.sub_self, hr0] at krf
      refine ExS.ret G (EvS.tup G hP.e (.cons (EvS.nmL G (by rw [lk_put, if_pos rfl]) rfl) (fun _ _ => rfl) (.cons (EvS.nmL G (by rw [lk_put, if_neg (by decide)]; exact krf) rfl) (fun _ _ => rfl) (.nil _))) (by rfl))
end
end Mine
end
section
set_option maxRecDepth 100000
set_option maxHeartbeats 4000000
set_option linter.unusedVariables false
namespace Mine
open PySem PySem.Calls PyProof.Rows PySem.W PySem.SeqAt

noncomputable def ID : Fn := fnGet "int_divmod"

section
variable {prog : Program} {w : World} {cx : Cx} {σ : Sto} {i n : Nat}

structure DivG (cx : Cx) : Prop where
  G : CxG cx
  X : CxX cx
  fn : ∀ nm a, cx.fnA nm = some a → FnOk cx nm a
  i2 : ∀ a, cx.fnA "_int2digits" = some a → InnOk cx a I2i.name
  d2 : ∀ a, cx.fnA "_digits2int" = some a → InnOk cx a D2i.name

theorem id_pos (D : DivG cx) {a : Addr} (ha : cx.fnA "int_divmod" = some a) {x b : Nat} (hx : x < 2 ^ 62) (hb : 0 < b) (hb2 : b < 2 ^ 60) :
    ∃ σ', CaS prog w cx 104 a σ [.int (x : Int), .int (b : Int)] (.tup [.int ((x / b : Nat) : Int), .int ((x % b : Nat) : Int)]) σ' := by
  by_cases hdp : ∃ ad, cx.fnA "_divmod_pos" = some ad
  · obtain ⟨ad, had⟩ := hdp
    obtain ⟨σ', h⟩ := dp_ok (prog := prog) (w := w) (σ := σ) D.G D.X D.fn had D.i2 D.d2 hx hb hb2
    refine ⟨σ', ?_⟩
    have hfi : ∀ nm a, cx.fnA nm = some a → FnIn cx nm a := fun nm a e => (D.fn nm a e).fin
    refine CaS.body (K := 103) (fn := ID) (ρ := [("a", .int (x : Int)), ("b", .int (b : Int))]) (ρ' := [("a", .int (x : Int)), ("b", .int (b : Int))]) D.G.ok (D.fn _ _ ha) rfl (by decide +kernel) rfl ?_
    have hP : Pres cx PT := PT.pres
    have key : ∀ {s1 ss} {v : V} {σ' : Sto} {ρ' : Loc}, ID.body = s1 :: ss → ExS prog w cx PT 103 ID.sc σ [("a", .int (x : Int)), ("b", .int (b : Int))] (s1 :: ss) (.ret v) σ' ρ' → ExS prog w cx (fun _ _ _ => True) 103 ID.sc σ [("a", .int (x : Int)), ("b", .int (b : Int))] ID.body (.ret v) σ' ρ' := fun e h => by rw [e]; exact h
    refine key rfl ?_
    refine ExS.ifret (k := false) D.G hP.e (TsS.cmp (i := (b : Int)) (j := 0) D.G hP.e (EvS.nm D.G rfl rfl) (EvS.con rfl) (by simp only [icmp]; exact congrArg some (decide_eq_false (by omega))) rfl) ?_
    refine ExS.ifret (k := false) D.G hP.e (TsS.cmp (i := (b : Int)) (j := 0) D.G hP.e (EvS.nm D.G rfl rfl) (EvS.con rfl) (by simp only [icmp]; exact congrArg some (decide_eq_false (by omega))) rfl) ?_
    refine ExS.ifret (k := false) D.G hP.e (TsS.cmp (i := (x : Int)) (j := 0) D.G hP.e (EvS.nm D.G rfl rfl) (EvS.con rfl) (by simp only [icmp]; exact congrArg some (decide_eq_false (by omega))) rfl) ?_
    refine ExS.ret D.G (EvS.callF (nm := "_divmod_pos") (a := ad) D.G hP.e (EvS.nm D.G rfl rfl) hfi (.cons (EvS.nm D.G rfl rfl) (fun _ _ => rfl) (.cons (EvS.nm D.G rfl rfl) (fun _ _ => rfl) (.nil _))) (by simp) (fun a ha => ?_) (fun _ => rfl))
    rw [had] at ha; cases ha
    exact h
  · refine ⟨σ, ?_⟩
    refine CaS.body (K := 103) (fn := ID) (ρ := [("a", .int (x : Int)), ("b", .int (b : Int))]) (ρ' := [("a", .int (x : Int)), ("b", .int (b : Int))]) D.G.ok (D.fn _ _ ha) rfl (by decide +kernel) rfl ?_
    have hfi : ∀ nm a, cx.fnA nm = some a → FnIn cx nm a := fun nm a e => (D.fn nm a e).fin
    have hP : Pres cx PT := PT.pres
    have key : ∀ {s1 ss} {v : V} {σ' : Sto} {ρ' : Loc}, ID.body = s1 :: ss → ExS prog w cx PT 103 ID.sc σ [("a", .int (x : Int)), ("b", .int (b : Int))] (s1 :: ss) (.ret v) σ' ρ' → ExS prog w cx (fun _ _ _ => True) 103 ID.sc σ [("a", .int (x : Int)), ("b", .int (b : Int))] ID.body (.ret v) σ' ρ' := fun e h => by rw [e]; exact h
    refine key rfl ?_
    refine ExS.ifret (k := false) D.G hP.e (TsS.cmp (i := (b : Int)) (j := 0) D.G hP.e (EvS.nm D.G rfl rfl) (EvS.con rfl) (by simp only [icmp]; exact congrArg some (decide_eq_false (by omega))) rfl) ?_
    refine ExS.ifret (k := false) D.G hP.e (TsS.cmp (i := (b : Int)) (j := 0) D.G hP.e (EvS.nm D.G rfl rfl) (EvS.con rfl) (by simp only [icmp]; exact congrArg some (decide_eq_false (by omega))) rfl) ?_
    refine ExS.ifret (k := false) D.G hP.e (TsS.cmp (i := (x : Int)) (j := 0) D.G hP.e (EvS.nm D.G rfl rfl) (EvS.con rfl) (by simp only [icmp]; exact congrArg some (decide_eq_false (by omega))) rfl) ?_
    refine ExS.ret D.G (EvS.callF (nm := "_divmod_pos") (a := a) D.G hP.e (EvS.nm D.G rfl rfl) hfi (.cons (EvS.nm D.G rfl rfl) (fun _ _ => rfl) (.cons (EvS.nm D.G rfl rfl) (fun _ _ => rfl) (.nil _))) (by simp) (fun a ha => absurd ⟨a, ha⟩ hdp) (fun _ => rfl))

theorem neg_div_eq (x b : Nat) (hb : 0 < b) : Builtin.bitNot ((x / b : Nat) : Int) = Int.fdiv (Builtin.bitNot (x : Int)) (b : Int) ∧ (b : Int) + Builtin.bitNot ((x % b : Nat) : Int) = Int.fmod (Builtin.bitNot (x : Int)) (b : Int) := by
  unfold Builtin.bitNot
  have hbi : (0 : Int) < (b : Int) := by omega
  have h1 := Nat.div_add_mod x b
  have h2 := Nat.mod_lt x hb
  have h3 : (x : Int) = (b : Int) * ((x / b : Nat) : Int) + ((x % b : Nat) : Int) := by
    have := congrArg (fun n : Nat => (n : Int)) h1
    simp only [Int.natCast_add, Int.natCast_mul] at this
    omega
  have key : (-(x : Int) - 1) = (b : Int) * (-((x / b : Nat) : Int) - 1) + ((b : Int) + (-((x % b : Nat) : Int) - 1)) := by
    rw [h3, Int.mul_sub, Int.mul_neg]; omega
  have hm0 : 0 ≤ (b : Int) + (-((x % b : Nat) : Int) - 1) := by omega
  have hm1 : (b : Int) + (-((x % b : Nat) : Int) - 1) < (b : Int) := by omega
  rw [Int.fdiv_eq_ediv_of_nonneg _ (Int.le_of_lt hbi), Int.fmod_eq_emod_of_nonneg _ (Int.le_of_lt hbi)]
  generalize ((x / b : Nat) : Int) = Q at *
  generalize ((x % b : Nat) : Int) = R at *
  have e := (Int.ediv_emod_unique hbi (a := -(x : Int) - 1) (q := -Q - 1) (r := (b : Int) + (-R - 1))).mpr ⟨by omega, hm0, hm1⟩
  exact ⟨e.1.symm, e.2.symm⟩

theorem id_any (D : DivG cx) {a : Addr} (ha : cx.fnA "int_divmod" = some a) {x : Int} {b : Nat} (hx : x.natAbs < 2 ^ 61) (hb : 0 < b) (hb2 : b < 2 ^ 60) :
    ∃ σ', CaS prog w cx 105 a σ [.int x, .int (b : Int)] (.tup [.int (x.fdiv (b : Int)), .int (x.fmod (b : Int))]) σ' := by
  by_cases hneg : 0 ≤ x
  · obtain ⟨y, rfl⟩ : ∃ y : Nat, x = (y : Int) := ⟨x.toNat, by omega⟩
    obtain ⟨σ', h⟩ := id_pos (prog := prog) (w := w) (σ := σ) D ha (x := y) (b := b) (by omega) hb hb2
    refine ⟨σ', ?_⟩
    rw [Int.fdiv_eq_ediv_of_nonneg _ (by omega), Int.fmod_eq_emod_of_nonneg _ (by omega)]
    exact h.le (by omega)
  · obtain ⟨y, hy⟩ : ∃ y : Nat, Builtin.bitNot x = (y : Int) := ⟨(Builtin.bitNot x).toNat, by unfold Builtin.bitNot; omega⟩
    have hx' : Builtin.bitNot (y : Int) = x := by rw [← hy]; unfold Builtin.bitNot; omega
    obtain ⟨σ', h⟩ := id_pos (prog := prog) (w := w) (σ := σ) D ha (x := y) (b := b) (by unfold Builtin.bitNot at hy; omega) hb hb2
    obtain ⟨n1, n2⟩ := neg_div_eq y b hb
    rw [hx'] at n1 n2
    refine ⟨σ', ?_⟩
    rw [← n1, ← n2]
    have hfi : ∀ nm a, cx.fnA nm = some a → FnIn cx nm a := fun nm a e => (D.fn nm a e).fin
    have hP : Pres cx PT := PT.pres
    refine CaS.body (K := 104) (fn := ID) (ρ := [("a", .int x), ("b", .int (b : Int))]) (ρ' := put "r" (.int ((y % b : Nat) : Int)) (put "q" (.int ((y / b : Nat) : Int)) [("a", .int x), ("b", .int (b : Int))])) D.G.ok (D.fn _ _ ha) rfl (by decide +kernel) rfl ?_
    have key : ∀ {s1 ss} {v : V} {σ' : Sto} {ρ' : Loc}, ID.body = s1 :: ss → ExS prog w cx PT 104 ID.sc σ [("a", .int x), ("b", .int (b : Int))] (s1 :: ss) (.ret v) σ' ρ' → ExS prog w cx (fun _ _ _ => True) 104 ID.sc σ [("a", .int x), ("b", .int (b : Int))] ID.body (.ret v) σ' ρ' := fun e h => by rw [e]; exact h
    refine key rfl ?_
    refine ExS.ifret (k := false) D.G hP.e (TsS.cmp (i := (b : Int)) (j := 0) D.G hP.e (EvS.nm D.G rfl rfl) (EvS.con rfl) (by simp only [icmp]; exact congrArg some (decide_eq_false (by omega))) rfl) ?_
    refine ExS.ifret (k := false) D.G hP.e (TsS.cmp (i := (b : Int)) (j := 0) D.G hP.e (EvS.nm D.G rfl rfl) (EvS.con rfl) (by simp only [icmp]; exact congrArg some (decide_eq_false (by omega))) rfl) ?_
    refine ExS.ifret (k := true) D.G hP.e (TsS.cmp (i := x) (j := 0) D.G hP.e (EvS.nm D.G rfl rfl) (EvS.con rfl) (by simp only [icmp]; exact congrArg some (decide_eq_true (by omega))) rfl) ?_
    refine ExS.asg (v := .tup [.int ((y / b : Nat) : Int), .int ((y % b : Nat) : Int)]) (σ' := σ') D.G hP (EvS.callF (nm := "int_divmod") (a := a) D.G hP.e (EvS.nm D.G rfl rfl) hfi (.cons (EvS.un (EvS.nm D.G rfl rfl) fun h => invert_int (by rw [hy]; exact h)) (fun _ _ => rfl) (.cons (EvS.nm D.G rfl rfl) (fun _ _ => rfl) (.nil _))) (by simp) (fun a' ha' => by rw [ha] at ha'; cases ha'; exact h) (fun _ => rfl)) rfl rfl (fun _ => rfl) ?_
    refine ExS.ret D.G (EvS.tup D.G hP.e (.cons (EvS.un (EvS.nm D.G rfl rfl) fun h => invert_int h) (fun _ _ => rfl) (.cons (EvS.bin D.G hP.e (EvS.nm D.G rfl rfl) (EvS.un (EvS.nm D.G rfl rfl) fun h => invert_int h) fun _ h => AutoIntOps.add_0 h) (fun _ _ => rfl) (.nil _))) (by rfl))

theorem id_ok (D : DivG cx) {a : Addr} (ha : cx.fnA "int_divmod" = some a) {x b : Int} (hx : x.natAbs < 2 ^ 60) (hb : b ≠ 0) (hb2 : b.natAbs < 2 ^ 60) :
    ∃ σ', CaS prog w cx 106 a σ [.int x, .int b] (.tup [.int (x.fdiv b), .int (x.fmod b)]) σ' := by
  by_cases hneg : 0 ≤ b
  · obtain ⟨y, rfl⟩ : ∃ y : Nat, b = (y : Int) := ⟨b.toNat, by omega⟩
    obtain ⟨σ', h⟩ := id_any (prog := prog) (w := w) (σ := σ) D ha (x := x) (b := y) (by omega) (by omega) (by omega)
    exact ⟨σ', h.le (by omega)⟩
  · obtain ⟨y, hy⟩ : ∃ y : Nat, -b = (y : Int) := ⟨(-b).toNat, by omega⟩
    obtain ⟨σ', h⟩ := id_any (prog := prog) (w := w) (σ := σ) D ha (x := -x) (b := y) (by rw [Int.natAbs_neg]; exact Nat.lt_trans hx (by decide)) (by omega) (by omega)
    refine ⟨σ', ?_⟩
    rw [← hy, Int.neg_fdiv_neg, Int.neg_fmod_neg] at h
    rw [← Int.neg_neg (x.fmod b)]
    have hfi : ∀ nm a, cx.fnA nm = some a → FnIn cx nm a := fun nm a e => (D.fn nm a e).fin
    have hP : Pres cx PT := PT.pres
    refine CaS.body (K := 105) (fn := ID) (ρ := [("a", .int x), ("b", .int b)]) (ρ' := put "r" (.int (-(x.fmod b))) (put "q" (.int (x.fdiv b)) [("a", .int x), ("b", .int b)])) D.G.ok (D.fn _ _ ha) rfl (by decide +kernel) rfl ?_
    have key : ∀ {s1 ss} {v : V} {σ' : Sto} {ρ' : Loc}, ID.body = s1 :: ss → ExS prog w cx PT 105 ID.sc σ [("a", .int x), ("b", .int b)] (s1 :: ss) (.ret v) σ' ρ' → ExS prog w cx (fun _ _ _ => True) 105 ID.sc σ [("a", .int x), ("b", .int b)] ID.body (.ret v) σ' ρ' := fun e h => by rw [e]; exact h
    refine key rfl ?_
    refine ExS.ifret (k := false) D.G hP.e (TsS.cmp (i := b) (j := 0) D.G hP.e (EvS.nm D.G rfl rfl) (EvS.con rfl) (by simp only [icmp]; exact congrArg some (decide_eq_false (by omega))) rfl) ?_
    refine ExS.ifret (k := true) D.G hP.e (TsS.cmp (i := b) (j := 0) D.G hP.e (EvS.nm D.G rfl rfl) (EvS.con rfl) (by simp only [icmp]; exact congrArg some (decide_eq_true (by omega))) rfl) ?_
    refine ExS.asg (v := .tup [.int (x.fdiv b), .int (-(x.fmod b))]) (σ' := σ') D.G hP (EvS.callF (nm := "int_divmod") (a := a) D.G hP.e (EvS.nm D.G rfl rfl) hfi (.cons (EvS.un (EvS.nm D.G rfl rfl) fun h => P.neg_int h) (fun _ _ => rfl) (.cons (EvS.un (EvS.nm D.G rfl rfl) fun h => P.neg_int h) (fun _ _ => rfl) (.nil _))) (by simp) (fun a' ha' => by rw [ha] at ha'; cases ha'; exact h) (fun _ => rfl)) rfl rfl (fun _ => rfl) ?_
    refine ExS.ret D.G (EvS.tup D.G hP.e (.cons (EvS.nm D.G rfl rfl) (fun _ _ => rfl) (.cons (EvS.un (EvS.nm D.G rfl rfl) fun h => P.neg_int h) (fun _ _ => rfl) (.nil _))) (by rfl))
end
end Mine
end
section
set_option maxRecDepth 100000
set_option maxHeartbeats 4000000
set_option linter.unusedVariables false
namespace Mine
open PySem PySem.Calls PyProof.Rows PySem.W PySem.SeqAt

mutual
noncomputable def noLst : V → Bool
  | .lst _ => false
  | .tup vs => noLsts vs
  | .pl vs => noLsts vs
  | _ => true
noncomputable def noLsts : List V → Bool
  | [] => true
  | v :: r => match noLst v with
    | true => noLsts r
    | false => false
end
theorem noLsts_cons {v : V} {vs : List V} (e : noLsts (v :: vs) = true) : noLst v = true ∧ noLsts vs = true :=
  spB (show (match noLst v with | true => noLsts vs | false => false) = true from e) (fun _ _ => rfl) (fun _ _ => rfl) (fun q e => ⟨q, e⟩) fun _ e => ftE e
section
variable {cx : Cx} {h : Heap} {g g' : Gh} (hf : ∀ a, g.free a → g'.free a) (hn : g.n ≤ g'.n) (hφ : ∀ t, t < g.n → g'.φ t = g.φ t)
include hf hn hφ
theorem VR.shift {v : V} {w : Value} (e : noLst v = true) (x : VR cx h g v w) : VR cx h g' v w := by
  refine VR.rec (motive_1 := fun v w _ => noLst v = true → VR cx h g' v w) (motive_2 := fun vs ws _ => noLsts vs = true → VRs cx h g' vs ws) ?_ ?_ ?_ ?_ ?_ ?_ ?_ ?_ ?_ ?_ ?_ ?_ ?_ ?_ ?_ ?_ x e
  · exact fun _ => .none
  · exact fun b _ => .bool b
  · exact fun i t _ => .int i t
  · exact fun c k t _ => .lin c k t
  · exact fun a t q r u _ => .flt a t q (Nat.lt_of_lt_of_le r hn) ((hφ t r).trans u)
  · exact fun s t _ => .str s t
  · exact fun p n r ih e => .tup p (hf _ n) (ih e)
  · exact fun p n r ih e => .pl p (hf _ n) (ih e)
  · exact fun q e => ftE e
  · exact fun e _ => .fn e
  · exact fun b _ e _ => .bi b e
  · exact fun e _ => .pat e
  · exact fun q1 q2 e n _ => .rng q1 q2 e (hf _ n)
  · exact fun e c n nc _ => .lam e c (hf _ n) fun c' q => hf _ (nc c' q)
  · exact fun _ => .nil
  · exact fun a r iha ihr e => .cons (iha (noLsts_cons e).1) (ihr (noLsts_cons e).2)
theorem VRs.shift : ∀ {vs : List V} {ws : List Value}, noLsts vs = true → VRs cx h g vs ws → VRs cx h g' vs ws := by
  intro vs
  induction vs with
  | nil => intro ws _ r; cases r; exact .nil
  | cons v vs ih => intro ws e r; cases r with
    | cons a r => exact .cons (a.shift hf hn hφ (noLsts_cons e).1) (ih (noLsts_cons e).2 r)
end

noncomputable def Gh.away (g : Gh) : Gh := ⟨[], g.hid ++ g.am, g.φ, g.n⟩
noncomputable def Gh.back (g' g : Gh) : Gh := ⟨g.am, g.hid, g'.φ, g'.n⟩
theorem Gh.away_free {g : Gh} {a : Addr} : g.away.free a ↔ g.free a := by
  unfold Gh.free Gh.away
  simp only [List.mem_append, List.not_mem_nil, not_false_eq_true, true_and, not_or]
  exact And.comm
noncomputable def fz (σ : Sto) : V → Option V
  | .lst i => match σ[i]? with
    | some vs => match noLsts vs with
      | true => some (.pl vs)
      | false => Option.none
    | Option.none => Option.none
  | v => match noLst v with
    | true => some v
    | false => Option.none

section
variable {prog : Program} {w : World} {cx : Cx} {K : Nat} {σ σ' : Sto} {vs : List V} {v v' : V} {g : Gh} {h : Heap} {tk : Nat}

theorem W.away (hw : W cx σ g h tk) : W cx [] g.away h tk :=
  ⟨hw.tok, hw.frs, hw.old, hw.booked, hw.nolim, hw.tabs, rfl, List.nodup_nil, fun a m => by
    rcases List.mem_append.mp m with m | m
    · exact hw.hidden a m
    · exact hw.amOld m, hw.gn, hw.base, hw.based, fun a m => (by cases m), fun i vs e => by cases e⟩
theorem W.back (C : CxOk cx) {g' : Gh} {h' : Heap} {tk' : Nat} (hw : W cx σ g h tk) (W' : W cx σ' g' h' tk') (E : Ev cx [] g.away g' h h') : W cx σ (g'.back g) h' tk' ∧ Ev cx [] g (g'.back g) h h' := by
  have E' : Ev cx [] g (g'.back g) h h' := by
    refine ⟨⟨[], by simp [Gh.back]⟩, rfl, E.tok, E.told, fun a o e h1 h2 h3 => E.keep a o e (by simp [Gh.away]) h2 h3, fun a o e h1 h2 => E.imm a o e h1 (Gh.away_free.mpr h2), E.there, fun a hm hn => absurd hm hn⟩
  refine ⟨⟨W'.tok, W'.frs, W'.old, W'.booked, W'.nolim, W'.tabs, hw.len, hw.nodup, fun a m => W'.hidden a (by rw [E.hid]; exact List.mem_append_left _ m), W'.gn, W'.base, W'.based, hw.fresh, fun i vs e => ?_⟩, E'⟩
  obtain ⟨a, ws, e1, e2, e3⟩ := hw.lists i vs e
  have hm := List.mem_of_getElem? e1
  refine ⟨a, ws, e1, e2.at fun o q => E.keepN q (by simp [Gh.away]) (by simp) (C.notTab (hw.fresh a hm)) (fun es ep d => ?_), e3.mono E'⟩
  obtain ⟨n, ho⟩ := e2
  rw [ho] at q; cases q; cases d

set_option tactic.hygienic true in
theorem oracle_at (C : CxOk cx) {g : Gh} {s : Shared} {A : Around} {a : Addr} {ws : List Value} (hv : fz σ' v = some v') (hw : W cx σ g s.heap s.toks) (h : wpAny (model prog w) A (call (.ref a) ws []) (EvP cx g.away s σ' v) Z s) :
    wpAny (model prog w) A (call (.ref a) ws []) (EvP cx g s σ v') Z s := by
  refine wpZ h fun wv s1 x1 => ?_
  obtain ⟨h1, t1, g1, rfl, l1, W1, E1, V1⟩ := x1
  obtain ⟨W2, E2⟩ := hw.back C W1 E1
  have hfree : ∀ b, g1.free b → (g1.back g).free b := fun b hb => by
    obtain ⟨h1, h2⟩ := hb
    rw [E1.hid] at h2
    simp only [Gh.away, List.mem_append, not_or] at h2
    exact ⟨h2.2, h2.1⟩
  refine ⟨h1, t1, g1.back g, rfl, l1, W2, E2, ?_⟩
  delta fz at hv
  split at hv
  · rename_i i
    split at hv
    · rename_i us q1
      split at hv
      · rename_i q2
        cases hv
        apply V1.lstE; intro _ ei
        ·
          obtain ⟨b, xs, e1, e2, e3⟩ := W1.lists i us q1
          rw [ei] at e1; cases e1
          have hnew := E1.new _ (List.mem_of_getElem? ei) (by simp [Gh.away])
          refine .pl e2 ?_ (e3.shift hfree (Nat.le_refl _) (fun _ _ => rfl) q2)
          exact hw.new hnew
      · cases hv
    · cases hv
  · split at hv
    · rename_i q
      cases hv
      exact V1.shift hfree (Nat.le_refl _) (fun _ _ => rfl) q
    · cases hv
theorem VRs.away {g : Gh} {h : Heap} {ws : List Value} (hvs : noLsts vs = true) (hvw : VRs cx h g vs ws) : VRs cx h g.away vs ws := hvw.shift (fun a h => Gh.away_free.mpr h) (Nat.le_refl _) (fun _ _ => rfl) hvs
theorem oracle (C : CxOk cx) {a : Addr} (hvs : noLsts vs = true) (hv : fz σ' v = some v') (h : CaS prog w cx K a [] vs v σ') : ∀ {σ : Sto}, CaS prog w cx K a σ vs v' σ := fun {σ} => by
  intro fr g s A ws hvw hw hA
  exact oracle_at C hv hw (h (hvw.away hvs) hw.away hA)

structure Ent where
  nm : Str
  args : List V
  val : V
mutual
noncomputable def eqV : V → V → Bool
  | .none, b => match b with
    | .none => true
    | _ => false
  | .bool a, b => match b with
    | .bool b => match a, b with
      | true, true => true
      | false, false => true
      | _, _ => false
    | _ => false
  | .int a, b => match b with
    | .int b => decide (a = b)
    | _ => false
  | .lin a k, b => match b with
    | .lin b l => match decide (a = b) with
      | true => eqK k l
      | false => false
    | _ => false
  | .flt a, b => match b with
    | .flt b => Nat.beq a.toNat b.toNat
    | _ => false
  | .str a, b => match b with
    | .str b => nbeqL a b
    | _ => false
  | .tup a, b => match b with
    | .tup b => eqVs a b
    | _ => false
  | .pl a, b => match b with
    | .pl b => eqVs a b
    | _ => false
  | .fn a, b => match b with
    | .fn b => seq a b
    | _ => false
  | _, _ => false
noncomputable def eqVs : List V → List V → Bool
  | [], b => match b with
    | [] => true
    | _ => false
  | a :: r, b => match b with
    | b :: q => match eqV a b with
      | true => eqVs r q
      | false => false
    | _ => false
end
theorem seq_ok {a b : Str} (h : seq a b = true) : a = b := strEq_of_seq h
theorem nbeqL_ok : ∀ {a b : List Nat}, nbeqL a b = true → a = b := by
  intro a
  induction a with
  | nil => intro b h; cases b with
    | nil => rfl
    | cons b r => exact ftE h
  | cons a l ih => intro b h; cases b with
    | nil => exact ftE h
    | cons b r => exact spB (show (match Nat.beq a b with | true => nbeqL l r | false => false) = true from h) (fun _ _ => rfl) (fun _ _ => rfl) (fun q h => Nat.eq_of_beq_eq_true q ▸ ih h ▸ rfl) fun _ h => ftE h
theorem eqV_ok {a b : V} (h : eqV a b = true) : a = b := by
  revert b h
  refine V.rec (motive_1 := fun a => ∀ {b}, eqV a b = true → a = b) (motive_2 := fun l => ∀ {r}, eqVs l r = true → l = r) ?_ ?_ ?_ ?_ ?_ ?_ ?_ ?_ ?_ ?_ ?_ ?_ ?_ ?_ ?_ ?_ a
  · intro b h; cases b with
    | none => rfl
    | _ => exact ftE h
  · intro x b h; cases b with
    | bool y => cases x <;> cases y <;> first | rfl | exact ftE h
    | _ => exact ftE h
  · intro x b h; cases b with
    | int y => exact of_decide_eq_true h ▸ rfl
    | _ => exact ftE h
  · intro x k b h; cases b with
    | lin y l => exact spB (show (match decide (x = y) with | true => eqK k l | false => false) = true from h) (fun _ _ => rfl) (fun _ _ => rfl) (fun q h => of_decide_eq_true q ▸ eqK_eq h ▸ rfl) fun _ h => ftE h
    | _ => exact ftE h
  · intro x b h; cases b with
    | flt y => exact UInt64.toNat_inj.mp (Nat.eq_of_beq_eq_true h) ▸ rfl
    | _ => exact ftE h
  · intro x b h; cases b with
    | str y => exact nbeqL_ok h ▸ rfl
    | _ => exact ftE h
  · intro x ih b h; cases b with
    | tup y => exact ih h ▸ rfl
    | _ => exact ftE h
  · intro x ih b h; cases b with
    | pl y => exact ih h ▸ rfl
    | _ => exact ftE h
  · exact fun _ _ h => ftE h
  · intro x b h; cases b with
    | fn y => exact seq_ok h ▸ rfl
    | _ => exact ftE h
  · exact fun _ _ h => ftE h
  · exact fun _ _ h => ftE h
  · exact fun _ _ _ h => ftE h
  · exact fun _ _ _ _ h => ftE h
  · intro b h; cases b with
    | nil => rfl
    | cons y r => exact ftE h
  · intro x l ihx ihl b h; cases b with
    | nil => exact ftE h
    | cons y r => exact spB (show (match eqV x y with | true => eqVs l r | false => false) = true from h) (fun _ _ => rfl) (fun _ _ => rfl) (fun q h => ihx q ▸ ihl h ▸ rfl) fun _ h => ftE h
theorem eqVs_ok {a b : List V} (h : eqVs a b = true) : a = b := by
  revert b
  induction a with
  | nil => intro b h; cases b with
    | nil => rfl
    | cons y r => exact ftE h
  | cons x l ihl => intro b h; cases b with
    | nil => exact ftE h
    | cons y r => exact spB (show (match eqV x y with | true => eqVs l r | false => false) = true from h) (fun _ _ => rfl) (fun _ _ => rfl) (fun q h => eqV_ok q ▸ ihl h ▸ rfl) fun _ h => ftE h
end
end Mine
end
section
set_option maxRecDepth 100000
set_option maxHeartbeats 4000000
set_option linter.unusedVariables false
namespace Mine
open PySem PySem.Calls PyProof.Rows PySem.W PySem.SeqAt

noncomputable def keyI : Int → Nat
  | .ofNat n => 2 * n
  | .negSucc n => 2 * n + 1
noncomputable def keyK : List Int → Nat
  | [] => 0
  | x :: r => keyI x + 1009 * keyK r
mutual
noncomputable def keyV : V → Nat
  | .bool b => match b with
    | true => 1
    | false => 0
  | .int i => keyI i
  | .lin c k => keyI c + 7919 * keyK k
  | .flt x => x.toNat
  | .tup vs => keyVs vs
  | .pl vs => keyVs vs
  | _ => 0
noncomputable def keyVs : List V → Nat
  | [] => 0
  | v :: r => keyV v + 1000003 * keyVs r
end
abbrev Rows := List (Nat × List V × V)
noncomputable def findR (k : Nat) (vs : List V) : Rows → Option V
  | [] => Option.none
  | (k', as, v) :: r => match Nat.beq k k' with
    | true => match eqVs vs as with
      | true => some v
      | false => findR k vs r
    | false => findR k vs r
abbrev Tab := List (Str × Rows)
noncomputable def findT (nm : Str) (vs : List V) : Tab → Option V
  | [] => Option.none
  | (n, rows) :: r => match seq nm n with
    | true => findR (keyVs vs) vs rows
    | false => findT nm vs r
noncomputable def tabT (tab : Tab) (T : Known) : Known := fun nm vs => match findT nm vs tab with
  | some v => some v
  | Option.none => T nm vs
theorem findR_mem {k : Nat} {vs : List V} {v : V} : ∀ {rows : Rows}, findR k vs rows = some v → ∃ k', (k', vs, v) ∈ rows
  | [], e => by cases e
  | (k', as, u) :: r, e => by
    unfold findR at e
    split at e
    · split at e
      · rename_i q
        cases e
        rw [eqVs_ok q]
        exact ⟨k', List.mem_cons_self⟩
      · obtain ⟨k'', h⟩ := findR_mem e
        exact ⟨k'', List.mem_cons_of_mem _ h⟩
    · obtain ⟨k'', h⟩ := findR_mem e
      exact ⟨k'', List.mem_cons_of_mem _ h⟩
theorem findT_mem {nm : Str} {vs : List V} {v : V} : ∀ {tab : Tab}, findT nm vs tab = some v → ∃ rows k, (nm, rows) ∈ tab ∧ (k, vs, v) ∈ rows
  | [], e => by cases e
  | (n, rows) :: r, e => by
    unfold findT at e
    split at e
    · rename_i q
      obtain ⟨k, h⟩ := findR_mem e
      rw [seq_ok q]
      exact ⟨rows, k, List.mem_cons_self, h⟩
    · obtain ⟨rows', k, h1, h2⟩ := findT_mem e
      exact ⟨rows', k, List.mem_cons_of_mem _ h1, h2⟩

noncomputable def chkV (x : Option (V × Sto)) (v : V) : Bool := match x with
  | some (v', σ) => match fz σ v' with
    | some v'' => eqV v'' v
    | Option.none => false
  | Option.none => false
noncomputable def chk (r : R) (nm : Str) (e : Nat × List V × V) : Bool := match noLsts e.2.1 with
  | true => chkV (callFn r nm [] e.2.1 []) e.2.2
  | false => false
noncomputable def chkAll (r : R) (nm : Str) : Rows → Bool
  | [] => true
  | e :: l => match chk r nm e with
    | true => chkAll r nm l
    | false => false
theorem chkAll_mem {r : R} {nm : Str} : ∀ {l : Rows} {e : Nat × List V × V}, chkAll r nm l = true → e ∈ l → chk r nm e = true
  | [], _, _, h => by cases h
  | a :: l, e, h, m => by
    unfold chkAll at h
    split at h
    · rename_i q
      rcases List.mem_cons.mp m with rfl | m
      · exact q
      · exact chkAll_mem h m
    · cases h
theorem chkAll_append {r : R} {nm : Str} : ∀ {l l' : Rows}, chkAll r nm l = true → chkAll r nm l' = true → chkAll r nm (l ++ l') = true
  | [], _, _, h => h
  | a :: l, l', h, h' => by
    unfold chkAll at h
    split at h
    · rename_i q
      rw [List.cons_append]
      unfold chkAll
      rw [q]
      exact chkAll_append h h'
    · cases h
noncomputable def TabChk (r : R) (tab : Tab) : Prop := ∀ e ∈ tab, chkAll r e.1 e.2 = true

section
variable {prog : Program} {w : World} {cx : Cx} {K : Nat} {T : Known}
set_option tactic.hygienic true in
theorem tab_ok (C : CxOk cx) (hfn : ∀ nm a, cx.fnA nm = some a → FnOk cx nm a) {r : R} {tab : Tab} (H : Sound prog w cx none K r) (hc : TabChk r tab) (hT : TOk prog w cx none T (K + 1)) : TOk prog w cx none (tabT tab T) (K + 1) := by
  intro nm vs v e a σ g s ws A ha hv hw hA
  delta tabT at e
  split at e
  · rename_i u q
    cases e
    obtain ⟨rows, k, m1, m2⟩ := findT_mem q
    have h := chkAll_mem (hc _ m1) m2
    delta chk at h
    split at h
    · rename_i hn
      delta chkV at h
      split at h
      · rename_i v' σ' e1
        split at h
        · rename_i v'' e2
          have := eqV_ok h
          subst this
          exact oracle (K := K + 1) C hn e2 (fun fr g s A ws hv hw hA => callFn_ok H C (hfn nm a ha) e1 hv ⟨rfl, .nil⟩ hw hA) hv hw hA
        · cases h
      · cases h
    · cases h
  · exact hT e ha hv hw hA
theorem TOk.le {fr : Option (List Env)} {K' : Nat} (h : TOk prog w cx fr T K) (hk : K ≤ K') : TOk prog w cx fr T K' := fun e a _ _ _ _ _ ha hv hw hA => h e ha hv hw (hA.le hk)
end
end Mine
end
section
set_option maxRecDepth 1000000
set_option maxHeartbeats 4000000
namespace Mine
open PySem
noncomputable def tbS0 : Rows := [(71118554817313824144, [(.lin (-2001) [0, 0, 1, 3]), (.lin (-497) [0, 0, -3, 4]), (.int (-1)), (.int (3)), (.int (0))], (.pl [])),
  (2000070738514451142039650, [(.lin (-2001) [0, 0, 3, 1]), (.lin (-497) [0, 0, 4, -3]), (.int (-1)), (.int (3)), (.int (1))], (.pl [])),
  (71118554817313824138, [(.lin (-1998) [0, 0, 1, 3]), (.lin (-497) [0, 0, -3, 4]), (.int (-1)), (.int (3)), (.int (0))], (.pl [(.int (4)), (.int (4))])),
  (2000070690152341162827765, [(.lin (-501) [0, 0, 3, -2]), (.lin (1003) [0, 0, 1, -3]), (.int (2)), (.int (3)), (.int (1))], (.pl [(.int (2))])),
  (71118554817325824174, [(.lin (-1998) [0, 0, 1, 3]), (.lin (-503) [0, 0, -3, 4]), (.int (-1)), (.int (3)), (.int (0))], (.pl [(.int (0)), (.int (0))])),
  (2000077881346280632770368, [(.lin (2499) [0, 0, -3, -2]), (.lin (1003) [0, 0, -5, 3]), (.int (2)), (.int (-3)), (.int (1))], (.pl [(.int (0)), (.int (0)), (.int (0))])),
  (71118554817325824180, [(.lin (-2001) [0, 0, 1, 3]), (.lin (-503) [0, 0, -3, 4]), (.int (-1)), (.int (3)), (.int (0))], (.pl [(.int (0)), (.int (5))])),
  (2000077832961899105372449, [(.lin (999) [0, 0, -3, 1]), (.lin (-497) [0, 0, -2, 3]), (.int (-1)), (.int (-3)), (.int (1))], (.pl [(.int (5))])),
  (71118554817325824186, [(.lin (-2004) [0, 0, 1, 3]), (.lin (-503) [0, 0, -3, 4]), (.int (-1)), (.int (3)), (.int (0))], (.pl [(.int (2)), (.int (1))])),
  (2000077824954502974369895, [(.lin (-501) [0, 0, -3, 4]), (.lin (-1997) [0, 0, 1, 3]), (.int (-4)), (.int (-3)), (.int (1))], (.pl [(.int (3)), (.int (0))])),
  (71118554817313824132, [(.lin (-1995) [0, 0, 1, 3]), (.lin (-497) [0, 0, -3, 4]), (.int (-1)), (.int (3)), (.int (0))], (.pl [(.int (1)), (.int (0))])),
  (2000070698269360282927839, [(.lin (999) [0, 0, 3, -5]), (.lin (2503) [0, 0, -2, -3]), (.int (5)), (.int (3)), (.int (1))], (.pl [(.int (0)), (.int (4)), (.int (3))])),
  (71118554817325824168, [(.lin (-1995) [0, 0, 1, 3]), (.lin (-503) [0, 0, -3, 4]), (.int (-1)), (.int (3)), (.int (0))], (.pl [(.int (5)), (.int (5))])),
  (2000077929774337880624030, [(.lin (3999) [0, 0, -3, -5]), (.lin (2503) [0, 0, -8, 3]), (.int (5)), (.int (-3)), (.int (1))], (.pl [(.int (2)), (.int (1)), (.int (4)), (.int (0)), (.int (2)), (.int (5)), (.int (5)), (.int (3))]))]
noncomputable def tbS1 : Rows := [(22309952861325388531, [(.lin (-501) [0, 0, -2, 3]), (.lin (1003) [0, 0, -3, 1]), (.int (2)), (.int (3)), (.int (0))], (.pl [(.int (2))])),
  (2000070738514451142039644, [(.lin (-1998) [0, 0, 3, 1]), (.lin (-497) [0, 0, 4, -3]), (.int (-1)), (.int (3)), (.int (1))], (.pl [(.int (4)), (.int (4))])),
  (22309952861325388525, [(.lin (-498) [0, 0, -2, 3]), (.lin (1003) [0, 0, -3, 1]), (.int (2)), (.int (3)), (.int (0))], (.pl [])),
  (2000070690152341162827759, [(.lin (-498) [0, 0, 3, -2]), (.lin (1003) [0, 0, 1, -3]), (.int (2)), (.int (3)), (.int (1))], (.pl [])),
  (22309952861313388489, [(.lin (-498) [0, 0, -2, 3]), (.lin (997) [0, 0, -3, 1]), (.int (2)), (.int (3)), (.int (0))], (.pl [(.int (2))])),
  (2000077881346280632770374, [(.lin (2502) [0, 0, -3, -2]), (.lin (1003) [0, 0, -5, 3]), (.int (2)), (.int (-3)), (.int (1))], (.pl [(.int (4)), (.int (1)), (.int (3))])),
  (22309952861313388495, [(.lin (-501) [0, 0, -2, 3]), (.lin (997) [0, 0, -3, 1]), (.int (2)), (.int (3)), (.int (0))], (.pl [(.int (0))])),
  (2000077832961899105372455, [(.lin (1002) [0, 0, -3, 1]), (.lin (-497) [0, 0, -2, 3]), (.int (-1)), (.int (-3)), (.int (1))], (.pl [(.int (0))])),
  (22309952861313388501, [(.lin (-504) [0, 0, -2, 3]), (.lin (997) [0, 0, -3, 1]), (.int (2)), (.int (3)), (.int (0))], (.pl [(.int (1))])),
  (2000077824954502974369889, [(.lin (-498) [0, 0, -3, 4]), (.lin (-1997) [0, 0, 1, 3]), (.int (-4)), (.int (-3)), (.int (1))], (.pl [(.int (5)), (.int (2))])),
  (22309952861325388519, [(.lin (-495) [0, 0, -2, 3]), (.lin (1003) [0, 0, -3, 1]), (.int (2)), (.int (3)), (.int (0))], (.pl [(.int (5))])),
  (2000070698269360282927845, [(.lin (1002) [0, 0, 3, -5]), (.lin (2503) [0, 0, -2, -3]), (.int (5)), (.int (3)), (.int (1))], (.pl [(.int (5)), (.int (0)), (.int (3))])),
  (22309952861313388483, [(.lin (-495) [0, 0, -2, 3]), (.lin (997) [0, 0, -3, 1]), (.int (2)), (.int (3)), (.int (0))], (.pl [])),
  (2000077929774337880624036, [(.lin (4002) [0, 0, -3, -5]), (.lin (2503) [0, 0, -8, 3]), (.int (5)), (.int (-3)), (.int (1))], (.pl []))]
noncomputable def tbS2 : Rows := [(78261370393442741838, [(.lin (2499) [0, 0, -2, -3]), (.lin (1003) [0, 0, 3, -5]), (.int (2)), (.int (-3)), (.int (0))], (.pl [(.int (0)), (.int (0)), (.int (0))])),
  (2000070738514451154039680, [(.lin (-1998) [0, 0, 3, 1]), (.lin (-503) [0, 0, 4, -3]), (.int (-1)), (.int (3)), (.int (1))], (.pl [(.int (0)), (.int (0))])),
  (78261370393442741844, [(.lin (2502) [0, 0, -2, -3]), (.lin (1003) [0, 0, 3, -5]), (.int (2)), (.int (-3)), (.int (0))], (.pl [(.int (4)), (.int (1)), (.int (3))])),
  (2000070690152341150827723, [(.lin (-498) [0, 0, 3, -2]), (.lin (997) [0, 0, 1, -3]), (.int (2)), (.int (3)), (.int (1))], (.pl [(.int (2))])),
  (78261370393430741808, [(.lin (2502) [0, 0, -2, -3]), (.lin (997) [0, 0, 3, -5]), (.int (2)), (.int (-3)), (.int (0))], (.pl [])),
  (2000077881346280620770338, [(.lin (2502) [0, 0, -3, -2]), (.lin (997) [0, 0, -5, 3]), (.int (2)), (.int (-3)), (.int (1))], (.pl [])),
  (78261370393430741802, [(.lin (2499) [0, 0, -2, -3]), (.lin (997) [0, 0, 3, -5]), (.int (2)), (.int (-3)), (.int (0))], (.pl [(.int (1)), (.int (5)), (.int (4))])),
  (2000077832961899117372491, [(.lin (1002) [0, 0, -3, 1]), (.lin (-503) [0, 0, -2, 3]), (.int (-1)), (.int (-3)), (.int (1))], (.pl [(.int (1))])),
  (78261370393430741796, [(.lin (2496) [0, 0, -2, -3]), (.lin (997) [0, 0, 3, -5]), (.int (2)), (.int (-3)), (.int (0))], (.pl [(.int (5)), (.int (2)), (.int (4))])),
  (2000077824954502986369925, [(.lin (-498) [0, 0, -3, 4]), (.lin (-2003) [0, 0, 1, 3]), (.int (-4)), (.int (-3)), (.int (1))], (.pl [(.int (4)), (.int (1))])),
  (78261370393442741850, [(.lin (2505) [0, 0, -2, -3]), (.lin (1003) [0, 0, 3, -5]), (.int (2)), (.int (-3)), (.int (0))], (.pl [(.int (2)), (.int (2)), (.int (2))])),
  (2000070698269360270927809, [(.lin (1002) [0, 0, 3, -5]), (.lin (2497) [0, 0, -2, -3]), (.int (5)), (.int (3)), (.int (1))], (.pl [(.int (4)), (.int (4)), (.int (4))])),
  (78261370393430741814, [(.lin (2505) [0, 0, -2, -3]), (.lin (997) [0, 0, 3, -5]), (.int (2)), (.int (-3)), (.int (0))], (.pl [(.int (4)), (.int (2)), (.int (1))])),
  (2000077929774337868624000, [(.lin (4002) [0, 0, -3, -5]), (.lin (2497) [0, 0, -8, 3]), (.int (5)), (.int (-3)), (.int (1))], (.pl [(.int (3)), (.int (4)), (.int (0)), (.int (5)), (.int (2)), (.int (1)), (.int (3)), (.int (4))]))]
noncomputable def tbS3 : Rows := [(29452762419267933215, [(.lin (999) [0, 0, 1, -3]), (.lin (-497) [0, 0, 3, -2]), (.int (-1)), (.int (-3)), (.int (0))], (.pl [(.int (5))])),
  (2000070738514451154039686, [(.lin (-2001) [0, 0, 3, 1]), (.lin (-503) [0, 0, 4, -3]), (.int (-1)), (.int (3)), (.int (1))], (.pl [(.int (0)), (.int (5))])),
  (29452762419267933221, [(.lin (1002) [0, 0, 1, -3]), (.lin (-497) [0, 0, 3, -2]), (.int (-1)), (.int (-3)), (.int (0))], (.pl [(.int (0))])),
  (2000070690152341150827729, [(.lin (-501) [0, 0, 3, -2]), (.lin (997) [0, 0, 1, -3]), (.int (2)), (.int (3)), (.int (1))], (.pl [(.int (0))])),
  (29452762419279933257, [(.lin (1002) [0, 0, 1, -3]), (.lin (-503) [0, 0, 3, -2]), (.int (-1)), (.int (-3)), (.int (0))], (.pl [(.int (1))])),
  (2000077881346280620770332, [(.lin (2499) [0, 0, -3, -2]), (.lin (997) [0, 0, -5, 3]), (.int (2)), (.int (-3)), (.int (1))], (.pl [(.int (1)), (.int (5)), (.int (4))])),
  (29452762419279933251, [(.lin (999) [0, 0, 1, -3]), (.lin (-503) [0, 0, 3, -2]), (.int (-1)), (.int (-3)), (.int (0))], (.pl [])),
  (2000077832961899117372485, [(.lin (999) [0, 0, -3, 1]), (.lin (-503) [0, 0, -2, 3]), (.int (-1)), (.int (-3)), (.int (1))], (.pl [])),
  (29452762419279933245, [(.lin (996) [0, 0, 1, -3]), (.lin (-503) [0, 0, 3, -2]), (.int (-1)), (.int (-3)), (.int (0))], (.pl [(.int (4))])),
  (2000077824954502986369931, [(.lin (-501) [0, 0, -3, 4]), (.lin (-2003) [0, 0, 1, 3]), (.int (-4)), (.int (-3)), (.int (1))], (.pl [(.int (2)), (.int (2))])),
  (29452762419267933227, [(.lin (1005) [0, 0, 1, -3]), (.lin (-497) [0, 0, 3, -2]), (.int (-1)), (.int (-3)), (.int (0))], (.pl [(.int (4))])),
  (2000070698269360270927803, [(.lin (999) [0, 0, 3, -5]), (.lin (2497) [0, 0, -2, -3]), (.int (5)), (.int (3)), (.int (1))], (.pl [(.int (1)), (.int (5)), (.int (4))])),
  (29452762419279933263, [(.lin (1005) [0, 0, 1, -3]), (.lin (-503) [0, 0, 3, -2]), (.int (-1)), (.int (-3)), (.int (0))], (.pl [(.int (3))])),
  (2000077929774337868623994, [(.lin (3999) [0, 0, -3, -5]), (.lin (2497) [0, 0, -8, 3]), (.int (5)), (.int (-3)), (.int (1))], (.pl [(.int (4)), (.int (1)), (.int (5)), (.int (5)), (.int (0)), (.int (3)), (.int (2)), (.int (4))]))]
noncomputable def tbS4 : Rows := [(21318000976496772053, [(.lin (-501) [0, 0, 4, -3]), (.lin (-1997) [0, 0, 3, 1]), (.int (-4)), (.int (-3)), (.int (0))], (.pl [(.int (3)), (.int (0))])),
  (2000070738514451154039692, [(.lin (-2004) [0, 0, 3, 1]), (.lin (-503) [0, 0, 4, -3]), (.int (-1)), (.int (3)), (.int (1))], (.pl [(.int (2)), (.int (1))])),
  (21318000976496772047, [(.lin (-498) [0, 0, 4, -3]), (.lin (-1997) [0, 0, 3, 1]), (.int (-4)), (.int (-3)), (.int (0))], (.pl [(.int (5)), (.int (2))])),
  (2000070690152341150827735, [(.lin (-504) [0, 0, 3, -2]), (.lin (997) [0, 0, 1, -3]), (.int (2)), (.int (3)), (.int (1))], (.pl [(.int (1))])),
  (21318000976508772083, [(.lin (-498) [0, 0, 4, -3]), (.lin (-2003) [0, 0, 3, 1]), (.int (-4)), (.int (-3)), (.int (0))], (.pl [(.int (4)), (.int (1))])),
  (2000077881346280620770326, [(.lin (2496) [0, 0, -3, -2]), (.lin (997) [0, 0, -5, 3]), (.int (2)), (.int (-3)), (.int (1))], (.pl [(.int (5)), (.int (2)), (.int (4))])),
  (21318000976508772089, [(.lin (-501) [0, 0, 4, -3]), (.lin (-2003) [0, 0, 3, 1]), (.int (-4)), (.int (-3)), (.int (0))], (.pl [(.int (2)), (.int (2))])),
  (2000077832961899117372479, [(.lin (996) [0, 0, -3, 1]), (.lin (-503) [0, 0, -2, 3]), (.int (-1)), (.int (-3)), (.int (1))], (.pl [(.int (4))])),
  (21318000976508772095, [(.lin (-504) [0, 0, 4, -3]), (.lin (-2003) [0, 0, 3, 1]), (.int (-4)), (.int (-3)), (.int (0))], (.pl [])),
  (2000077824954502986369937, [(.lin (-504) [0, 0, -3, 4]), (.lin (-2003) [0, 0, 1, 3]), (.int (-4)), (.int (-3)), (.int (1))], (.pl [])),
  (21318000976496772041, [(.lin (-495) [0, 0, 4, -3]), (.lin (-1997) [0, 0, 3, 1]), (.int (-4)), (.int (-3)), (.int (0))], (.pl [(.int (0)), (.int (0))])),
  (2000070698269360270927797, [(.lin (996) [0, 0, 3, -5]), (.lin (2497) [0, 0, -2, -3]), (.int (5)), (.int (3)), (.int (1))], (.pl [(.int (0)), (.int (0)), (.int (0))])),
  (21318000976508772077, [(.lin (-495) [0, 0, 4, -3]), (.lin (-2003) [0, 0, 3, 1]), (.int (-4)), (.int (-3)), (.int (0))], (.pl [(.int (4)), (.int (4))])),
  (2000077929774337868623988, [(.lin (3996) [0, 0, -3, -5]), (.lin (2497) [0, 0, -8, 3]), (.int (5)), (.int (-3)), (.int (1))], (.pl [(.int (0)), (.int (5)), (.int (0)), (.int (3)), (.int (1)), (.int (2)), (.int (5)), (.int (4))]))]
noncomputable def tbS5 : Rows := [(30444726406914769069, [(.lin (999) [0, 0, -5, 3]), (.lin (2503) [0, 0, -3, -2]), (.int (5)), (.int (3)), (.int (0))], (.pl [(.int (0)), (.int (4)), (.int (3))])),
  (2000070738514451142039638, [(.lin (-1995) [0, 0, 3, 1]), (.lin (-497) [0, 0, 4, -3]), (.int (-1)), (.int (3)), (.int (1))], (.pl [(.int (1)), (.int (0))])),
  (30444726406914769075, [(.lin (1002) [0, 0, -5, 3]), (.lin (2503) [0, 0, -3, -2]), (.int (5)), (.int (3)), (.int (0))], (.pl [(.int (5)), (.int (0)), (.int (3))])),
  (2000070690152341162827753, [(.lin (-495) [0, 0, 3, -2]), (.lin (1003) [0, 0, 1, -3]), (.int (2)), (.int (3)), (.int (1))], (.pl [(.int (5))])),
  (30444726406902769039, [(.lin (1002) [0, 0, -5, 3]), (.lin (2497) [0, 0, -3, -2]), (.int (5)), (.int (3)), (.int (0))], (.pl [(.int (4)), (.int (4)), (.int (4))])),
  (2000077881346280632770380, [(.lin (2505) [0, 0, -3, -2]), (.lin (1003) [0, 0, -5, 3]), (.int (2)), (.int (-3)), (.int (1))], (.pl [(.int (2)), (.int (2)), (.int (2))])),
  (30444726406902769033, [(.lin (999) [0, 0, -5, 3]), (.lin (2497) [0, 0, -3, -2]), (.int (5)), (.int (3)), (.int (0))], (.pl [(.int (1)), (.int (5)), (.int (4))])),
  (2000077832961899105372461, [(.lin (1005) [0, 0, -3, 1]), (.lin (-497) [0, 0, -2, 3]), (.int (-1)), (.int (-3)), (.int (1))], (.pl [(.int (4))])),
  (30444726406902769027, [(.lin (996) [0, 0, -5, 3]), (.lin (2497) [0, 0, -3, -2]), (.int (5)), (.int (3)), (.int (0))], (.pl [(.int (0)), (.int (0)), (.int (0))])),
  (2000077824954502974369883, [(.lin (-495) [0, 0, -3, 4]), (.lin (-1997) [0, 0, 1, 3]), (.int (-4)), (.int (-3)), (.int (1))], (.pl [(.int (0)), (.int (0))])),
  (30444726406914769081, [(.lin (1005) [0, 0, -5, 3]), (.lin (2503) [0, 0, -3, -2]), (.int (5)), (.int (3)), (.int (0))], (.pl [])),
  (2000070698269360282927851, [(.lin (1005) [0, 0, 3, -5]), (.lin (2503) [0, 0, -2, -3]), (.int (5)), (.int (3)), (.int (1))], (.pl [])),
  (30444726406902769045, [(.lin (1005) [0, 0, -5, 3]), (.lin (2497) [0, 0, -3, -2]), (.int (5)), (.int (3)), (.int (0))], (.pl [(.int (2)), (.int (0)), (.int (5))])),
  (2000077929774337880624042, [(.lin (4005) [0, 0, -3, -5]), (.lin (2503) [0, 0, -8, 3]), (.int (5)), (.int (-3)), (.int (1))], (.pl [(.int (3)), (.int (0)), (.int (4)), (.int (4)), (.int (5)), (.int (2)), (.int (1)), (.int (3))]))]
noncomputable def tbS6 : Rows := [(127069981409933473644, [(.lin (3999) [0, 0, -5, -3]), (.lin (2503) [0, 0, 3, -8]), (.int (5)), (.int (-3)), (.int (0))], (.pl [(.int (2)), (.int (1)), (.int (4)), (.int (0)), (.int (2)), (.int (5)), (.int (5)), (.int (3))])),
  (2000070738514451154039674, [(.lin (-1995) [0, 0, 3, 1]), (.lin (-503) [0, 0, 4, -3]), (.int (-1)), (.int (3)), (.int (1))], (.pl [(.int (5)), (.int (5))])),
  (127069981409933473650, [(.lin (4002) [0, 0, -5, -3]), (.lin (2503) [0, 0, 3, -8]), (.int (5)), (.int (-3)), (.int (0))], (.pl [])),
  (2000070690152341150827717, [(.lin (-495) [0, 0, 3, -2]), (.lin (997) [0, 0, 1, -3]), (.int (2)), (.int (3)), (.int (1))], (.pl [])),
  (127069981409921473614, [(.lin (4002) [0, 0, -5, -3]), (.lin (2497) [0, 0, 3, -8]), (.int (5)), (.int (-3)), (.int (0))], (.pl [(.int (3)), (.int (4)), (.int (0)), (.int (5)), (.int (2)), (.int (1)), (.int (3)), (.int (4))])),
  (2000077881346280620770344, [(.lin (2505) [0, 0, -3, -2]), (.lin (997) [0, 0, -5, 3]), (.int (2)), (.int (-3)), (.int (1))], (.pl [(.int (4)), (.int (2)), (.int (1))])),
  (127069981409921473608, [(.lin (3999) [0, 0, -5, -3]), (.lin (2497) [0, 0, 3, -8]), (.int (5)), (.int (-3)), (.int (0))], (.pl [(.int (4)), (.int (1)), (.int (5)), (.int (5)), (.int (0)), (.int (3)), (.int (2)), (.int (4))])),
  (2000077832961899117372497, [(.lin (1005) [0, 0, -3, 1]), (.lin (-503) [0, 0, -2, 3]), (.int (-1)), (.int (-3)), (.int (1))], (.pl [(.int (3))])),
  (127069981409921473602, [(.lin (3996) [0, 0, -5, -3]), (.lin (2497) [0, 0, 3, -8]), (.int (5)), (.int (-3)), (.int (0))], (.pl [(.int (0)), (.int (5)), (.int (0)), (.int (3)), (.int (1)), (.int (2)), (.int (5)), (.int (4))])),
  (2000077824954502986369919, [(.lin (-495) [0, 0, -3, 4]), (.lin (-2003) [0, 0, 1, 3]), (.int (-4)), (.int (-3)), (.int (1))], (.pl [(.int (4)), (.int (4))])),
  (127069981409933473656, [(.lin (4005) [0, 0, -5, -3]), (.lin (2503) [0, 0, 3, -8]), (.int (5)), (.int (-3)), (.int (0))], (.pl [(.int (3)), (.int (0)), (.int (4)), (.int (4)), (.int (5)), (.int (2)), (.int (1)), (.int (3))])),
  (2000070698269360270927815, [(.lin (1005) [0, 0, 3, -5]), (.lin (2497) [0, 0, -2, -3]), (.int (5)), (.int (3)), (.int (1))], (.pl [(.int (2)), (.int (0)), (.int (5))])),
  (127069981409921473620, [(.lin (4005) [0, 0, -5, -3]), (.lin (2497) [0, 0, 3, -8]), (.int (5)), (.int (-3)), (.int (0))], (.pl [])),
  (2000077929774337868624006, [(.lin (4005) [0, 0, -3, -5]), (.lin (2497) [0, 0, -8, 3]), (.int (5)), (.int (-3)), (.int (1))], (.pl []))]
noncomputable def tb_law_sixths : Rows := tbS0 ++ (tbS1 ++ (tbS2 ++ (tbS3 ++ (tbS4 ++ (tbS5 ++ (tbS6))))))
noncomputable def tbN0 : Rows := [(6000055000168000173, [(.int (1)), (.int (0)), (.int (-1)), (.int (3))], (.bool true)),
  (6000055000168000175, [(.int (2)), (.int (0)), (.int (-1)), (.int (3))], (.bool false)),
  (6000055000170000181, [(.int (2)), (.int (1)), (.int (-1)), (.int (3))], (.bool true)),
  (6000055000168000177, [(.int (3)), (.int (0)), (.int (-1)), (.int (3))], (.bool false)),
  (6000055000170000183, [(.int (3)), (.int (1)), (.int (-1)), (.int (3))], (.bool false)),
  (6000055000172000189, [(.int (3)), (.int (2)), (.int (-1)), (.int (3))], (.bool false)),
  (6000055000168000179, [(.int (4)), (.int (0)), (.int (-1)), (.int (3))], (.bool false)),
  (6000055000170000185, [(.int (4)), (.int (1)), (.int (-1)), (.int (3))], (.bool false)),
  (6000055000172000191, [(.int (4)), (.int (2)), (.int (-1)), (.int (3))], (.bool false)),
  (6000055000174000197, [(.int (4)), (.int (3)), (.int (-1)), (.int (3))], (.bool false)),
  (6000055000168000171, [(.int (0)), (.int (0)), (.int (-1)), (.int (3))], (.bool true)),
  (6000055000169000175, [(.int (-1)), (.int (-1)), (.int (-1)), (.int (3))], (.bool true)),
  (6000058000186000200, [(.int (1)), (.int (0)), (.int (2)), (.int (3))], (.bool true)),
  (6000058000186000202, [(.int (2)), (.int (0)), (.int (2)), (.int (3))], (.bool false)),
  (6000058000188000208, [(.int (2)), (.int (1)), (.int (2)), (.int (3))], (.bool false)),
  (6000058000186000204, [(.int (3)), (.int (0)), (.int (2)), (.int (3))], (.bool false)),
  (6000058000188000210, [(.int (3)), (.int (1)), (.int (2)), (.int (3))], (.bool false)),
  (6000058000190000216, [(.int (3)), (.int (2)), (.int (2)), (.int (3))], (.bool false)),
  (6000058000186000206, [(.int (4)), (.int (0)), (.int (2)), (.int (3))], (.bool false)),
  (6000058000188000212, [(.int (4)), (.int (1)), (.int (2)), (.int (3))], (.bool false)),
  (6000058000190000218, [(.int (4)), (.int (2)), (.int (2)), (.int (3))], (.bool false)),
  (6000058000192000224, [(.int (4)), (.int (3)), (.int (2)), (.int (3))], (.bool false)),
  (6000058000188000204, [(.int (0)), (.int (1)), (.int (2)), (.int (3))], (.bool true)),
  (5000049000159000173, [(.int (1)), (.int (0)), (.int (2)), (.int (-3))], (.bool true)),
  (5000049000159000175, [(.int (2)), (.int (0)), (.int (2)), (.int (-3))], (.bool true)),
  (5000049000161000181, [(.int (2)), (.int (1)), (.int (2)), (.int (-3))], (.bool true)),
  (5000049000159000177, [(.int (3)), (.int (0)), (.int (2)), (.int (-3))], (.bool false)),
  (5000049000161000183, [(.int (3)), (.int (1)), (.int (2)), (.int (-3))], (.bool false)),
  (5000049000163000189, [(.int (3)), (.int (2)), (.int (2)), (.int (-3))], (.bool false)),
  (5000049000159000179, [(.int (4)), (.int (0)), (.int (2)), (.int (-3))], (.bool false)),
  (5000049000161000185, [(.int (4)), (.int (1)), (.int (2)), (.int (-3))], (.bool false)),
  (5000049000163000191, [(.int (4)), (.int (2)), (.int (2)), (.int (-3))], (.bool false)),
  (5000049000165000197, [(.int (4)), (.int (3)), (.int (2)), (.int (-3))], (.bool false)),
  (5000046000141000146, [(.int (1)), (.int (0)), (.int (-1)), (.int (-3))], (.bool true)),
  (5000046000141000148, [(.int (2)), (.int (0)), (.int (-1)), (.int (-3))], (.bool false)),
  (5000046000143000154, [(.int (2)), (.int (1)), (.int (-1)), (.int (-3))], (.bool false)),
  (5000046000141000150, [(.int (3)), (.int (0)), (.int (-1)), (.int (-3))], (.bool false)),
  (5000046000143000156, [(.int (3)), (.int (1)), (.int (-1)), (.int (-3))], (.bool false)),
  (5000046000145000162, [(.int (3)), (.int (2)), (.int (-1)), (.int (-3))], (.bool false)),
  (5000046000141000152, [(.int (4)), (.int (0)), (.int (-1)), (.int (-3))], (.bool false)),
  (5000046000143000158, [(.int (4)), (.int (1)), (.int (-1)), (.int (-3))], (.bool false)),
  (5000046000145000164, [(.int (4)), (.int (2)), (.int (-1)), (.int (-3))], (.bool false)),
  (5000046000147000170, [(.int (4)), (.int (3)), (.int (-1)), (.int (-3))], (.bool false)),
  (5000046000142000147, [(.int (0)), (.int (-1)), (.int (-1)), (.int (-3))], (.bool true)),
  (6000055000170000178, [(.int (-1)), (.int (1)), (.int (-1)), (.int (3))], (.bool true)),
  (5000052000177000200, [(.int (1)), (.int (0)), (.int (-4)), (.int (-3))], (.bool true)),
  (5000052000177000202, [(.int (2)), (.int (0)), (.int (-4)), (.int (-3))], (.bool false)),
  (5000052000179000208, [(.int (2)), (.int (1)), (.int (-4)), (.int (-3))], (.bool true)),
  (5000052000177000204, [(.int (3)), (.int (0)), (.int (-4)), (.int (-3))], (.bool false)),
  (5000052000179000210, [(.int (3)), (.int (1)), (.int (-4)), (.int (-3))], (.bool false)),
  (5000052000181000216, [(.int (3)), (.int (2)), (.int (-4)), (.int (-3))], (.bool false)),
  (5000052000177000206, [(.int (4)), (.int (0)), (.int (-4)), (.int (-3))], (.bool false)),
  (5000052000179000212, [(.int (4)), (.int (1)), (.int (-4)), (.int (-3))], (.bool false)),
  (5000052000181000218, [(.int (4)), (.int (2)), (.int (-4)), (.int (-3))], (.bool false))]
noncomputable def tbN1 : Rows := [(5000052000183000224, [(.int (4)), (.int (3)), (.int (-4)), (.int (-3))], (.bool false)),
  (5000052000178000204, [(.int (-2)), (.int (-1)), (.int (-4)), (.int (-3))], (.bool true)),
  (6000055000172000185, [(.int (1)), (.int (2)), (.int (-1)), (.int (3))], (.bool true)),
  (6000064000222000254, [(.int (1)), (.int (0)), (.int (5)), (.int (3))], (.bool true)),
  (6000064000222000256, [(.int (2)), (.int (0)), (.int (5)), (.int (3))], (.bool true)),
  (6000064000224000262, [(.int (2)), (.int (1)), (.int (5)), (.int (3))], (.bool true)),
  (6000064000222000258, [(.int (3)), (.int (0)), (.int (5)), (.int (3))], (.bool false)),
  (6000064000224000264, [(.int (3)), (.int (1)), (.int (5)), (.int (3))], (.bool false)),
  (6000064000226000270, [(.int (3)), (.int (2)), (.int (5)), (.int (3))], (.bool false)),
  (6000064000222000260, [(.int (4)), (.int (0)), (.int (5)), (.int (3))], (.bool false)),
  (6000064000224000266, [(.int (4)), (.int (1)), (.int (5)), (.int (3))], (.bool false)),
  (6000064000226000272, [(.int (4)), (.int (2)), (.int (5)), (.int (3))], (.bool false)),
  (6000064000228000278, [(.int (4)), (.int (3)), (.int (5)), (.int (3))], (.bool false)),
  (6000055000169000174, [(.int (0)), (.int (-1)), (.int (-1)), (.int (3))], (.bool true)),
  (5000055000195000227, [(.int (1)), (.int (0)), (.int (5)), (.int (-3))], (.bool true)),
  (5000055000195000229, [(.int (2)), (.int (0)), (.int (5)), (.int (-3))], (.bool true)),
  (5000055000197000235, [(.int (2)), (.int (1)), (.int (5)), (.int (-3))], (.bool true)),
  (5000055000195000231, [(.int (3)), (.int (0)), (.int (5)), (.int (-3))], (.bool true)),
  (5000055000197000237, [(.int (3)), (.int (1)), (.int (5)), (.int (-3))], (.bool true)),
  (5000055000199000243, [(.int (3)), (.int (2)), (.int (5)), (.int (-3))], (.bool true)),
  (5000055000195000233, [(.int (4)), (.int (0)), (.int (5)), (.int (-3))], (.bool false)),
  (5000055000197000239, [(.int (4)), (.int (1)), (.int (5)), (.int (-3))], (.bool true)),
  (5000055000199000245, [(.int (4)), (.int (2)), (.int (5)), (.int (-3))], (.bool true)),
  (5000055000201000251, [(.int (4)), (.int (3)), (.int (5)), (.int (-3))], (.bool false)),
  (5000055000201000244, [(.int (-1)), (.int (3)), (.int (5)), (.int (-3))], (.bool true)),
  (6000058000186000198, [(.int (0)), (.int (0)), (.int (2)), (.int (3))], (.bool true)),
  (5000049000162000181, [(.int (-1)), (.int (-2)), (.int (2)), (.int (-3))], (.bool true)),
  (6000058000188000206, [(.int (1)), (.int (1)), (.int (2)), (.int (3))], (.bool true)),
  (5000052000178000203, [(.int (1)), (.int (-1)), (.int (-4)), (.int (-3))], (.bool true)),
  (6000058000187000201, [(.int (0)), (.int (-1)), (.int (2)), (.int (3))], (.bool true)),
  (6000064000225000261, [(.int (0)), (.int (-2)), (.int (5)), (.int (3))], (.bool true)),
  (5000055000201000247, [(.int (2)), (.int (3)), (.int (5)), (.int (-3))], (.bool true)),
  (5000049000159000171, [(.int (0)), (.int (0)), (.int (2)), (.int (-3))], (.bool true)),
  (5000049000163000187, [(.int (2)), (.int (2)), (.int (2)), (.int (-3))], (.bool true)),
  (5000046000143000152, [(.int (1)), (.int (1)), (.int (-1)), (.int (-3))], (.bool true)),
  (5000049000160000176, [(.int (1)), (.int (-1)), (.int (2)), (.int (-3))], (.bool true)),
  (5000052000180000208, [(.int (-1)), (.int (-2)), (.int (-4)), (.int (-3))], (.bool true)),
  (5000049000161000177, [(.int (0)), (.int (1)), (.int (2)), (.int (-3))], (.bool true)),
  (6000064000223000256, [(.int (-1)), (.int (-1)), (.int (5)), (.int (3))], (.bool true)),
  (5000049000162000183, [(.int (-2)), (.int (-2)), (.int (2)), (.int (-3))], (.bool true)),
  (5000055000195000230, [(.int (-3)), (.int (0)), (.int (5)), (.int (-3))], (.bool true)),
  (5000046000141000144, [(.int (0)), (.int (0)), (.int (-1)), (.int (-3))], (.bool true)),
  (5000046000142000148, [(.int (-1)), (.int (-1)), (.int (-1)), (.int (-3))], (.bool true)),
  (5000052000179000204, [(.int (0)), (.int (1)), (.int (-4)), (.int (-3))], (.bool true)),
  (6000064000226000266, [(.int (1)), (.int (2)), (.int (5)), (.int (3))], (.bool true)),
  (5000046000141000145, [(.int (-1)), (.int (0)), (.int (-1)), (.int (-3))], (.bool true)),
  (5000055000200000241, [(.int (-1)), (.int (-3)), (.int (5)), (.int (-3))], (.bool true)),
  (5000052000177000198, [(.int (0)), (.int (0)), (.int (-4)), (.int (-3))], (.bool true)),
  (5000052000178000202, [(.int (-1)), (.int (-1)), (.int (-4)), (.int (-3))], (.bool true)),
  (6000064000222000252, [(.int (0)), (.int (0)), (.int (5)), (.int (3))], (.bool true)),
  (6000064000224000259, [(.int (-1)), (.int (1)), (.int (5)), (.int (3))], (.bool true)),
  (5000055000198000239, [(.int (-3)), (.int (-2)), (.int (5)), (.int (-3))], (.bool true)),
  (5000055000195000225, [(.int (0)), (.int (0)), (.int (5)), (.int (-3))], (.bool true))]
noncomputable def tb_law_near : Rows := tbN0 ++ (tbN1)
noncomputable def tbR0 : Rows := [(2, [(.int (1)), (.int (0)), (.int (0))], (.tup [(.flt 0), (.flt 4607182418800017408), (.flt 4593671619917905920)])),
  (2000010, [(.int (2)), (.int (1)), (.int (0))], (.tup [(.flt 4590669220166325589), (.flt 4607182418800017408), (.flt 4598175219545276416)])),
  (2000012000020, [(.int (1)), (.int (0)), (.int (1))], (.tup [(.flt 0), (.flt 4589168020290535424), (.flt 4607182418800017408)])),
  (2000014000028, [(.int (2)), (.int (1)), (.int (1))], (.tup [(.flt 4590669220166325589), (.flt 4593671619917905920), (.flt 4607182418800017408)])),
  (1000004, [(.int (-1)), (.int (-1)), (.int (0))], (.tup [(.flt 4604180019048437077), (.flt 4607182418800017408), (.flt 4593671619917905920)])),
  (3000010, [(.int (-1)), (.int (-2)), (.int (0))], (.tup [(.flt 4604930618986332160), (.flt 4607182418800017408), (.flt 4598175219545276416)])),
  (2000014000024, [(.int (0)), (.int (1)), (.int (1))], (.tup [(.flt 4599676419421066581), (.flt 4589168020290535424), (.flt 4607182418800017408)])),
  (2000012000022, [(.int (2)), (.int (0)), (.int (1))], (.tup [(.flt 0), (.flt 4593671619917905920), (.flt 4607182418800017408)])),
  (1000003, [(.int (0)), (.int (-1)), (.int (0))], (.tup [(.flt 4605681218924227243), (.flt 4607182418800017408), (.flt 4593671619917905920)])),
  (2000013000021, [(.int (0)), (.int (-1)), (.int (1))], (.tup [(.flt 4605681218924227243), (.flt 4589168020290535424), (.flt 4607182418800017408)])),
  (2000007, [(.int (-1)), (.int (1)), (.int (0))], (.tup [(.flt 4601177619296856747), (.flt 4607182418800017408), (.flt 4598175219545276416)])),
  (2000008, [(.int (1)), (.int (1)), (.int (0))], (.tup [(.flt 4595172819793696085), (.flt 4607182418800017408), (.flt 4593671619917905920)])),
  (2000013000024, [(.int (-2)), (.int (-1)), (.int (1))], (.tup [(.flt 4603429419110541995), (.flt 4593671619917905920), (.flt 4607182418800017408)])),
  (4000014, [(.int (1)), (.int (2)), (.int (0))], (.tup [(.flt 4598175219545276416), (.flt 4607182418800017408), (.flt 4598175219545276416)])),
  (2000013000022, [(.int (-1)), (.int (-1)), (.int (1))], (.tup [(.flt 4604180019048437077), (.flt 4589168020290535424), (.flt 4607182418800017408)])),
  (2000012000021, [(.int (-2)), (.int (0)), (.int (1))], (.tup [(.flt 4602678819172646912), (.flt 4593671619917905920), (.flt 4607182418800017408)])),
  (1000005, [(.int (1)), (.int (-1)), (.int (0))], (.tup [(.flt 4606431818862122325), (.flt 4607182418800017408), (.flt 4598175219545276416)])),
  (2000012000024, [(.int (3)), (.int (0)), (.int (1))], (.tup [(.flt 0), (.flt 4595923419731591168), (.flt 4607182418800017408)])),
  (2000014000030, [(.int (3)), (.int (1)), (.int (1))], (.tup [(.flt 4588167220373341981), (.flt 4595923419731591168), (.flt 4607182418800017408)])),
  (2000016000036, [(.int (3)), (.int (2)), (.int (1))], (.tup [(.flt 4592670820000712477), (.flt 4595923419731591168), (.flt 4607182418800017408)])),
  (2000014000032, [(.int (4)), (.int (1)), (.int (1))], (.tup [(.flt 4586165620538955093), (.flt 4598175219545276416), (.flt 4607182418800017408)])),
  (2000016000038, [(.int (4)), (.int (2)), (.int (1))], (.tup [(.flt 4590669220166325589), (.flt 4598175219545276416), (.flt 4607182418800017408)])),
  (2000018000037, [(.int (-1)), (.int (3)), (.int (1))], (.tup [(.flt 4600427019358961664), (.flt 4598175219545276416), (.flt 4607182418800017408)])),
  (2000018000042, [(.int (3)), (.int (3)), (.int (1))], (.tup [(.flt 4595172819793696085), (.flt 4595923419731591168), (.flt 4607182418800017408)])),
  (2000015000028, [(.int (-1)), (.int (-2)), (.int (1))], (.tup [(.flt 4604930618986332160), (.flt 4593671619917905920), (.flt 4607182418800017408)])),
  (2000016000031, [(.int (-1)), (.int (2)), (.int (1))], (.tup [(.flt 4600677219338260025), (.flt 4595923419731591168), (.flt 4607182418800017408)])),
  (2000015000027, [(.int (0)), (.int (-2)), (.int (1))], (.tup [(.flt 4605681218924227243), (.flt 4593671619917905920), (.flt 4607182418800017408)])),
  (2000015000034, [(.int (-4)), (.int (-2)), (.int (1))], (.tup [(.flt 4603429419110541995), (.flt 4598175219545276416), (.flt 4607182418800017408)])),
  (2000006, [(.int (0)), (.int (1)), (.int (0))], (.tup [(.flt 4599676419421066581), (.flt 4607182418800017408), (.flt 4593671619917905920)])),
  (2000014000026, [(.int (1)), (.int (1)), (.int (1))], (.tup [(.flt 4595172819793696085), (.flt 4589168020290535424), (.flt 4607182418800017408)])),
  (2000013000023, [(.int (1)), (.int (-1)), (.int (1))], (.tup [(.flt 4606431818862122325), (.flt 4593671619917905920), (.flt 4607182418800017408)])),
  (2000012000019, [(.int (-1)), (.int (0)), (.int (1))], (.tup [(.flt 4602678819172646912), (.flt 4589168020290535424), (.flt 4607182418800017408)])),
  (2000018000040, [(.int (2)), (.int (3)), (.int (1))], (.tup [(.flt 4597174419628082973), (.flt 4595923419731591168), (.flt 4607182418800017408)])),
  (2000015000029, [(.int (1)), (.int (-2)), (.int (1))], (.tup [(.flt 4606181618882823964), (.flt 4595923419731591168), (.flt 4607182418800017408)])),
  (4, [(.int (2)), (.int (0)), (.int (0))], (.tup [(.flt 0), (.flt 4607182418800017408), (.flt 4598175219545276416)])),
  (3, [(.int (-2)), (.int (0)), (.int (0))], (.tup [(.flt 4602678819172646912), (.flt 4607182418800017408), (.flt 4598175219545276416)])),
  (4000016, [(.int (2)), (.int (2)), (.int (0))], (.tup [(.flt 4595172819793696085), (.flt 4607182418800017408), (.flt 4598175219545276416)])),
  (3000012, [(.int (-2)), (.int (-2)), (.int (0))], (.tup [(.flt 4604180019048437077), (.flt 4607182418800017408), (.flt 4598175219545276416)]))]
noncomputable def tbR1 : Rows := [(4000012, [(.int (0)), (.int (2)), (.int (0))], (.tup [(.flt 4599676419421066581), (.flt 4607182418800017408), (.flt 4598175219545276416)])),
  (2000015000030, [(.int (-2)), (.int (-2)), (.int (1))], (.tup [(.flt 4604180019048437077), (.flt 4593671619917905920), (.flt 4607182418800017408)])),
  (2000012000023, [(.int (-3)), (.int (0)), (.int (1))], (.tup [(.flt 4602678819172646912), (.flt 4595923419731591168), (.flt 4607182418800017408)])),
  (2000017000034, [(.int (-1)), (.int (-3)), (.int (1))], (.tup [(.flt 4605180818965630521), (.flt 4595923419731591168), (.flt 4607182418800017408)])),
  (2000016000034, [(.int (2)), (.int (2)), (.int (1))], (.tup [(.flt 4595172819793696085), (.flt 4593671619917905920), (.flt 4607182418800017408)])),
  (2000013000028, [(.int (-4)), (.int (-1)), (.int (1))], (.tup [(.flt 4603054119141594453), (.flt 4598175219545276416), (.flt 4607182418800017408)])),
  (2000014000025, [(.int (-1)), (.int (1)), (.int (1))], (.tup [(.flt 4601177619296856747), (.flt 4593671619917905920), (.flt 4607182418800017408)])),
  (2000016000032, [(.int (1)), (.int (2)), (.int (1))], (.tup [(.flt 4598175219545276416), (.flt 4593671619917905920), (.flt 4607182418800017408)])),
  (1, [(.int (-1)), (.int (0)), (.int (0))], (.tup [(.flt 4602678819172646912), (.flt 4607182418800017408), (.flt 4593671619917905920)])),
  (2000015000031, [(.int (2)), (.int (-2)), (.int (1))], (.tup [(.flt 4606431818862122325), (.flt 4598175219545276416), (.flt 4607182418800017408)])),
  (2000018000036, [(.int (0)), (.int (3)), (.int (1))], (.tup [(.flt 4599676419421066581), (.flt 4595923419731591168), (.flt 4607182418800017408)])),
  (1000006, [(.int (-2)), (.int (-1)), (.int (0))], (.tup [(.flt 4603429419110541995), (.flt 4607182418800017408), (.flt 4598175219545276416)])),
  (2000014000027, [(.int (-2)), (.int (1)), (.int (1))], (.tup [(.flt 4601678019255453468), (.flt 4595923419731591168), (.flt 4607182418800017408)])),
  (2000017000038, [(.int (-3)), (.int (-3)), (.int (1))], (.tup [(.flt 4604180019048437077), (.flt 4595923419731591168), (.flt 4607182418800017408)])),
  (3000009, [(.int (0)), (.int (-2)), (.int (0))], (.tup [(.flt 4605681218924227243), (.flt 4607182418800017408), (.flt 4598175219545276416)])),
  (2000016000030, [(.int (0)), (.int (2)), (.int (1))], (.tup [(.flt 4599676419421066581), (.flt 4593671619917905920), (.flt 4607182418800017408)])),
  (2000015000032, [(.int (-3)), (.int (-2)), (.int (1))], (.tup [(.flt 4603679619089840356), (.flt 4595923419731591168), (.flt 4607182418800017408)])),
  (2000019000042, [(.int (-2)), (.int (-4)), (.int (1))], (.tup [(.flt 4604930618986332160), (.flt 4598175219545276416), (.flt 4607182418800017408)])),
  (6, [(.int (3)), (.int (0)), (.int (0))], (.tup [(.flt 0), (.flt 4607182418800017408), (.flt 4600427019358961664)])),
  (2000012, [(.int (3)), (.int (1)), (.int (0))], (.tup [(.flt 4588167220373341981), (.flt 4607182418800017408), (.flt 4600427019358961664)])),
  (4000018, [(.int (3)), (.int (2)), (.int (0))], (.tup [(.flt 4592670820000712477), (.flt 4607182418800017408), (.flt 4600427019358961664)])),
  (2000014, [(.int (4)), (.int (1)), (.int (0))], (.tup [(.flt 4586165620538955093), (.flt 4607182418800017408), (.flt 4602678819172646912)])),
  (4000020, [(.int (4)), (.int (2)), (.int (0))], (.tup [(.flt 4590669220166325589), (.flt 4607182418800017408), (.flt 4602678819172646912)])),
  (6000019, [(.int (-1)), (.int (3)), (.int (0))], (.tup [(.flt 4600427019358961664), (.flt 4607182418800017408), (.flt 4602678819172646912)])),
  (6000024, [(.int (3)), (.int (3)), (.int (0))], (.tup [(.flt 4595172819793696085), (.flt 4607182418800017408), (.flt 4600427019358961664)])),
  (4000013, [(.int (-1)), (.int (2)), (.int (0))], (.tup [(.flt 4600677219338260025), (.flt 4607182418800017408), (.flt 4600427019358961664)])),
  (3000016, [(.int (-4)), (.int (-2)), (.int (0))], (.tup [(.flt 4603429419110541995), (.flt 4607182418800017408), (.flt 4602678819172646912)])),
  (6000022, [(.int (2)), (.int (3)), (.int (0))], (.tup [(.flt 4597174419628082973), (.flt 4607182418800017408), (.flt 4600427019358961664)])),
  (3000011, [(.int (1)), (.int (-2)), (.int (0))], (.tup [(.flt 4606181618882823964), (.flt 4607182418800017408), (.flt 4600427019358961664)])),
  (5, [(.int (-3)), (.int (0)), (.int (0))], (.tup [(.flt 4602678819172646912), (.flt 4607182418800017408), (.flt 4600427019358961664)])),
  (5000016, [(.int (-1)), (.int (-3)), (.int (0))], (.tup [(.flt 4605180818965630521), (.flt 4607182418800017408), (.flt 4600427019358961664)])),
  (1000010, [(.int (-4)), (.int (-1)), (.int (0))], (.tup [(.flt 4603054119141594453), (.flt 4607182418800017408), (.flt 4602678819172646912)])),
  (3000013, [(.int (2)), (.int (-2)), (.int (0))], (.tup [(.flt 4606431818862122325), (.flt 4607182418800017408), (.flt 4602678819172646912)])),
  (6000018, [(.int (0)), (.int (3)), (.int (0))], (.tup [(.flt 4599676419421066581), (.flt 4607182418800017408), (.flt 4600427019358961664)])),
  (2000009, [(.int (-2)), (.int (1)), (.int (0))], (.tup [(.flt 4601678019255453468), (.flt 4607182418800017408), (.flt 4600427019358961664)])),
  (5000020, [(.int (-3)), (.int (-3)), (.int (0))], (.tup [(.flt 4604180019048437077), (.flt 4607182418800017408), (.flt 4600427019358961664)])),
  (3000014, [(.int (-3)), (.int (-2)), (.int (0))], (.tup [(.flt 4603679619089840356), (.flt 4607182418800017408), (.flt 4600427019358961664)])),
  (7000024, [(.int (-2)), (.int (-4)), (.int (0))], (.tup [(.flt 4604930618986332160), (.flt 4607182418800017408), (.flt 4602678819172646912)]))]
noncomputable def tb_law_read : Rows := tbR0 ++ (tbR1)
noncomputable def tbE0 : Rows := [(634509987055255, [(.lin (-19500) [0, 0, 0, 39]), (.int (13))], (.int (2))),
  (628876347319, [(.lin (-19500) [0, 0, 39, 0]), (.int (13))], (.int (2))),
  (634509987055201, [(.lin (-19473) [0, 0, 0, 39]), (.int (13))], (.int (0))),
  (338625725533, [(.lin (-10527) [0, 0, 21, 0]), (.int (7))], (.int (0))),
  (634509987055237, [(.lin (-19491) [0, 0, 0, 39]), (.int (13))], (.int (0))),
  (911064785739, [(.lin (28509) [0, 0, -57, 0]), (.int (19))], (.int (0))),
  (634509987055291, [(.lin (-19518) [0, 0, 0, 39]), (.int (13))], (.int (1))),
  (330563542005, [(.lin (10482) [0, 0, -21, 0]), (.int (7))], (.int (1))),
  (634509987055345, [(.lin (-19545) [0, 0, 0, 39]), (.int (13))], (.int (1))),
  (620814163791, [(.lin (19455) [0, 0, -39, 0]), (.int (13))], (.int (1))),
  (634509987055147, [(.lin (-19446) [0, 0, 0, 39]), (.int (13))], (.int (1))),
  (919126969267, [(.lin (-28554) [0, 0, 57, 0]), (.int (19))], (.int (1))),
  (634509987055183, [(.lin (-19464) [0, 0, 0, 39]), (.int (13))], (.int (0))),
  (2362317894993, [(.lin (73536) [0, 0, -147, 0]), (.int (49))], (.int (0))),
  (341659223799037, [(.lin (-10527) [0, 0, 0, 21]), (.int (7))], (.int (0))),
  (628876347265, [(.lin (-19473) [0, 0, 39, 0]), (.int (13))], (.int (0))),
  (341659223798983, [(.lin (-10500) [0, 0, 0, 21]), (.int (7))], (.int (2))),
  (338625725479, [(.lin (-10500) [0, 0, 21, 0]), (.int (7))], (.int (2))),
  (341659223798911, [(.lin (-10464) [0, 0, 0, 21]), (.int (7))], (.int (0))),
  (911064785793, [(.lin (28536) [0, 0, -57, 0]), (.int (19))], (.int (0))),
  (341659223798965, [(.lin (-10491) [0, 0, 0, 21]), (.int (7))], (.int (0))),
  (330563542059, [(.lin (10509) [0, 0, -21, 0]), (.int (7))], (.int (0))),
  (341659223799019, [(.lin (-10518) [0, 0, 0, 21]), (.int (7))], (.int (1))),
  (620814163845, [(.lin (19482) [0, 0, -39, 0]), (.int (13))], (.int (1))),
  (341659223798929, [(.lin (-10473) [0, 0, 0, 21]), (.int (7))], (.int (1))),
  (919126969213, [(.lin (-28527) [0, 0, 57, 0]), (.int (19))], (.int (0))),
  (341659223798857, [(.lin (-10437) [0, 0, 0, 21]), (.int (7))], (.int (2))),
  (2362317895047, [(.lin (73563) [0, 0, -147, 0]), (.int (49))], (.int (2))),
  (919226007221595, [(.lin (28509) [0, 0, 0, -57]), (.int (19))], (.int (0))),
  (628876347301, [(.lin (-19491) [0, 0, 39, 0]), (.int (13))], (.int (0))),
  (919226007221649, [(.lin (28536) [0, 0, 0, -57]), (.int (19))], (.int (0))),
  (338625725407, [(.lin (-10464) [0, 0, 21, 0]), (.int (7))], (.int (0))),
  (919226007221577, [(.lin (28500) [0, 0, 0, -57]), (.int (19))], (.int (2))),
  (911064785721, [(.lin (28500) [0, 0, -57, 0]), (.int (19))], (.int (2))),
  (919226007221523, [(.lin (28473) [0, 0, 0, -57]), (.int (19))], (.int (0))),
  (330563542095, [(.lin (10527) [0, 0, -21, 0]), (.int (7))], (.int (1))),
  (919226007221469, [(.lin (28446) [0, 0, 0, -57]), (.int (19))], (.int (1))),
  (620814163989, [(.lin (19554) [0, 0, -39, 0]), (.int (13))], (.int (1))),
  (919226007221703, [(.lin (28563) [0, 0, 0, -57]), (.int (19))], (.int (0))),
  (919126969033, [(.lin (-28437) [0, 0, 57, 0]), (.int (19))], (.int (0))),
  (919226007221631, [(.lin (28527) [0, 0, 0, -57]), (.int (19))], (.int (1))),
  (2362317894867, [(.lin (73473) [0, 0, -147, 0]), (.int (49))], (.int (0))),
  (333524480708997, [(.lin (10482) [0, 0, 0, -21]), (.int (7))], (.int (1))),
  (628876347355, [(.lin (-19518) [0, 0, 39, 0]), (.int (13))], (.int (1))),
  (333524480709051, [(.lin (10509) [0, 0, 0, -21]), (.int (7))], (.int (0))),
  (338625725461, [(.lin (-10491) [0, 0, 21, 0]), (.int (7))], (.int (0))),
  (333524480709087, [(.lin (10527) [0, 0, 0, -21]), (.int (7))], (.int (1))),
  (911064785667, [(.lin (28473) [0, 0, -57, 0]), (.int (19))], (.int (0))),
  (333524480709033, [(.lin (10500) [0, 0, 0, -21]), (.int (7))], (.int (2))),
  (330563542041, [(.lin (10500) [0, 0, -21, 0]), (.int (7))], (.int (2))),
  (333524480708979, [(.lin (10473) [0, 0, 0, -21]), (.int (7))], (.int (0))),
  (620814163935, [(.lin (19527) [0, 0, -39, 0]), (.int (13))], (.int (0))),
  (333524480709105, [(.lin (10536) [0, 0, 0, -21]), (.int (7))], (.int (0))),
  (919126969087, [(.lin (-28464) [0, 0, 57, 0]), (.int (19))], (.int (0))),
  (333524480709141, [(.lin (10554) [0, 0, 0, -21]), (.int (7))], (.int (1))),
  (2362317894813, [(.lin (73446) [0, 0, -147, 0]), (.int (49))], (.int (0))),
  (626375243965215, [(.lin (19455) [0, 0, 0, -39]), (.int (13))], (.int (1))),
  (628876347409, [(.lin (-19545) [0, 0, 39, 0]), (.int (13))], (.int (1))),
  (626375243965269, [(.lin (19482) [0, 0, 0, -39]), (.int (13))], (.int (1))),
  (338625725515, [(.lin (-10518) [0, 0, 21, 0]), (.int (7))], (.int (1))),
  (626375243965413, [(.lin (19554) [0, 0, 0, -39]), (.int (13))], (.int (1))),
  (911064785613, [(.lin (28446) [0, 0, -57, 0]), (.int (19))], (.int (1))),
  (626375243965359, [(.lin (19527) [0, 0, 0, -39]), (.int (13))], (.int (0))),
  (330563541987, [(.lin (10473) [0, 0, -21, 0]), (.int (7))], (.int (0))),
  (626375243965305, [(.lin (19500) [0, 0, 0, -39]), (.int (13))], (.int (2))),
  (620814163881, [(.lin (19500) [0, 0, -39, 0]), (.int (13))], (.int (2))),
  (626375243965323, [(.lin (19509) [0, 0, 0, -39]), (.int (13))], (.int (0))),
  (919126969141, [(.lin (-28491) [0, 0, 57, 0]), (.int (19))], (.int (0))),
  (626375243965467, [(.lin (19581) [0, 0, 0, -39]), (.int (13))], (.int (0))),
  (2362317894759, [(.lin (73419) [0, 0, -147, 0]), (.int (49))], (.int (0))),
  (927360750311635, [(.lin (-28554) [0, 0, 0, 57]), (.int (19))], (.int (1))),
  (628876347211, [(.lin (-19446) [0, 0, 39, 0]), (.int (13))], (.int (1))),
  (927360750311581, [(.lin (-28527) [0, 0, 0, 57]), (.int (19))], (.int (0))),
  (338625725425, [(.lin (-10473) [0, 0, 21, 0]), (.int (7))], (.int (1))),
  (927360750311401, [(.lin (-28437) [0, 0, 0, 57]), (.int (19))], (.int (0))),
  (911064785847, [(.lin (28563) [0, 0, -57, 0]), (.int (19))], (.int (0))),
  (927360750311455, [(.lin (-28464) [0, 0, 0, 57]), (.int (19))], (.int (0))),
  (330563542113, [(.lin (10536) [0, 0, -21, 0]), (.int (7))], (.int (0))),
  (927360750311509, [(.lin (-28491) [0, 0, 0, 57]), (.int (19))], (.int (0))),
  (620814163899, [(.lin (19509) [0, 0, -39, 0]), (.int (13))], (.int (0))),
  (927360750311527, [(.lin (-28500) [0, 0, 0, 57]), (.int (19))], (.int (2))),
  (919126969159, [(.lin (-28500) [0, 0, 57, 0]), (.int (19))], (.int (2))),
  (927360750311347, [(.lin (-28410) [0, 0, 0, 57]), (.int (19))], (.int (1))),
  (2362317895101, [(.lin (73590) [0, 0, -147, 0]), (.int (49))], (.int (0))),
  (2383479823503009, [(.lin (73536) [0, 0, 0, -147]), (.int (49))], (.int (0))),
  (628876347247, [(.lin (-19464) [0, 0, 39, 0]), (.int (13))], (.int (0))),
  (2383479823503063, [(.lin (73563) [0, 0, 0, -147]), (.int (49))], (.int (2))),
  (338625725353, [(.lin (-10437) [0, 0, 21, 0]), (.int (7))], (.int (2))),
  (2383479823502883, [(.lin (73473) [0, 0, 0, -147]), (.int (49))], (.int (0))),
  (911064785775, [(.lin (28527) [0, 0, -57, 0]), (.int (19))], (.int (1))),
  (2383479823502829, [(.lin (73446) [0, 0, 0, -147]), (.int (49))], (.int (0))),
  (330563542149, [(.lin (10554) [0, 0, -21, 0]), (.int (7))], (.int (1))),
  (2383479823502775, [(.lin (73419) [0, 0, 0, -147]), (.int (49))], (.int (0))),
  (620814164043, [(.lin (19581) [0, 0, -39, 0]), (.int (13))], (.int (0))),
  (2383479823503117, [(.lin (73590) [0, 0, 0, -147]), (.int (49))], (.int (0))),
  (919126968979, [(.lin (-28410) [0, 0, 57, 0]), (.int (19))], (.int (1))),
  (2383479823502937, [(.lin (73500) [0, 0, 0, -147]), (.int (49))], (.int (2))),
  (2362317894921, [(.lin (73500) [0, 0, -147, 0]), (.int (49))], (.int (2)))]
noncomputable def tb_law_euclid : Rows := tbE0
noncomputable def tbP0 : Rows := [(4593703789189812999307637642581, [(.tup [(.flt 4604180019048437077), (.flt 4607182418800017408), (.flt 4593671619917905920)]), (.int (0)), (.int (0))], (.pl [(.int (0)), (.int (0)), (.int (1000000))])),
  (4593703789189812999307645642605, [(.tup [(.flt 4604180019048437077), (.flt 4607182418800017408), (.flt 4593671619917905920)]), (.int (4)), (.int (0))], (.pl [(.int (1000000)), (.int (0)), (.int (0))])),
  (4598207415838822542527197872128, [(.tup [(.flt 4604930618986332160), (.flt 4607182418800017408), (.flt 4598175219545276416)]), (.int (0)), (.int (0))], (.pl [(.int (1000000)), (.int (0)), (.int (2000000))])),
  (4598207415838822542527205872152, [(.tup [(.flt 4604930618986332160), (.flt 4607182418800017408), (.flt 4598175219545276416)]), (.int (4)), (.int (0))], (.pl [(.int (2000000)), (.int (1000000)), (.int (0))])),
  (4607214651122382322889376829543, [(.tup [(.flt 4599676419421066581), (.flt 4589168020290535424), (.flt 4607182418800017408)]), (.int (0)), (.int (1))], (.pl [(.int (0)), (.int (1000000)), (.int (0))])),
  (4607214651122382322889380829555, [(.tup [(.flt 4599676419421066581), (.flt 4589168020290535424), (.flt 4607182418800017408)]), (.int (2)), (.int (1))], (.pl [(.int (1000000)), (.int (0)), (.int (0))])),
  (4593703789185208819288589205504, [(.tup [(.flt 0), (.flt 4607182418800017408), (.flt 4593671619917905920)]), (.int (0)), (.int (0))], (.pl [(.int (1000000)), (.int (0)), (.int (0))])),
  (4598207415838808281128377865557, [(.tup [(.flt 4590669220166325589), (.flt 4607182418800017408), (.flt 4598175219545276416)]), (.int (0)), (.int (0))], (.pl [(.int (2000000)), (.int (1000000)), (.int (0))])),
  (4607214651117782646469955762962, [(.tup [(.flt 0), (.flt 4589168020290535424), (.flt 4607182418800017408)]), (.int (0)), (.int (1))], (.pl [(.int (1000000)), (.int (0)), (.int (0))])),
  (4607214655621395784639333874450, [(.tup [(.flt 0), (.flt 4593671619917905920), (.flt 4607182418800017408)]), (.int (0)), (.int (1))], (.pl [(.int (2000000)), (.int (0)), (.int (0))])),
  (4607214655625986453859500200039, [(.tup [(.flt 4590669220166325589), (.flt 4593671619917905920), (.flt 4607182418800017408)]), (.int (0)), (.int (1))], (.pl [(.int (2000000)), (.int (1000000)), (.int (0))])),
  (4593703789189814500507513432747, [(.tup [(.flt 4605681218924227243), (.flt 4607182418800017408), (.flt 4593671619917905920)]), (.int (0)), (.int (0))], (.pl [(.int (1000000)), (.int (0)), (.int (1000000))])),
  (4593703789189814500507523432777, [(.tup [(.flt 4605681218924227243), (.flt 4607182418800017408), (.flt 4593671619917905920)]), (.int (5)), (.int (0))], (.pl [(.int (1000000)), (.int (0)), (.int (0))])),
  (4607214651122388327688879990205, [(.tup [(.flt 4605681218924227243), (.flt 4589168020290535424), (.flt 4607182418800017408)]), (.int (0)), (.int (1))], (.pl [(.int (1000000)), (.int (0)), (.int (1000000))])),
  (4607214651122388327688889990235, [(.tup [(.flt 4605681218924227243), (.flt 4589168020290535424), (.flt 4607182418800017408)]), (.int (5)), (.int (1))], (.pl [(.int (1000000)), (.int (0)), (.int (0))])),
  (4598207415838818789527508396715, [(.tup [(.flt 4601177619296856747), (.flt 4607182418800017408), (.flt 4598175219545276416)]), (.int (0)), (.int (0))], (.pl [(.int (0)), (.int (2000000)), (.int (1000000))])),
  (4598207415838818789527512396727, [(.tup [(.flt 4601177619296856747), (.flt 4607182418800017408), (.flt 4598175219545276416)]), (.int (2)), (.int (0))], (.pl [(.int (2000000)), (.int (1000000)), (.int (0))])),
  (4593703789189803992108382901589, [(.tup [(.flt 4595172819793696085), (.flt 4607182418800017408), (.flt 4593671619917905920)]), (.int (0)), (.int (0))], (.pl [(.int (1000000)), (.int (1000000)), (.int (0))])),
  (4593703789189803992108384901595, [(.tup [(.flt 4595172819793696085), (.flt 4607182418800017408), (.flt 4593671619917905920)]), (.int (1)), (.int (0))], (.pl [(.int (1000000)), (.int (0)), (.int (0))])),
  (4607214655625999214058444416445, [(.tup [(.flt 4603429419110541995), (.flt 4593671619917905920), (.flt 4607182418800017408)]), (.int (0)), (.int (1))], (.pl [(.int (0)), (.int (1000000)), (.int (2000000))])),
  (4607214655625999214058450416463, [(.tup [(.flt 4603429419110541995), (.flt 4593671619917905920), (.flt 4607182418800017408)]), (.int (3)), (.int (1))], (.pl [(.int (2000000)), (.int (1000000)), (.int (0))])),
  (4598207415838815787127756816384, [(.tup [(.flt 4598175219545276416), (.flt 4607182418800017408), (.flt 4598175219545276416)]), (.int (0)), (.int (0))], (.pl [(.int (1000000)), (.int (2000000)), (.int (0))])),
  (4598207415838815787127758816390, [(.tup [(.flt 4598175219545276416), (.flt 4607182418800017408), (.flt 4598175219545276416)]), (.int (1)), (.int (0))], (.pl [(.int (2000000)), (.int (1000000)), (.int (0))])),
  (4607214651122386826489004200039, [(.tup [(.flt 4604180019048437077), (.flt 4589168020290535424), (.flt 4607182418800017408)]), (.int (0)), (.int (1))], (.pl [(.int (0)), (.int (0)), (.int (1000000))])),
  (4607214651122386826489012200063, [(.tup [(.flt 4604180019048437077), (.flt 4589168020290535424), (.flt 4607182418800017408)]), (.int (4)), (.int (1))], (.pl [(.int (1000000)), (.int (0)), (.int (0))])),
  (4607214655625998463458506521362, [(.tup [(.flt 4602678819172646912), (.flt 4593671619917905920), (.flt 4607182418800017408)]), (.int (0)), (.int (1))], (.pl [(.int (0)), (.int (2000000)), (.int (2000000))])),
  (4607214655625998463458512521380, [(.tup [(.flt 4602678819172646912), (.flt 4593671619917905920), (.flt 4607182418800017408)]), (.int (3)), (.int (1))], (.pl [(.int (2000000)), (.int (0)), (.int (0))])),
  (4598207415838824043727073662293, [(.tup [(.flt 4606431818862122325), (.flt 4607182418800017408), (.flt 4598175219545276416)]), (.int (0)), (.int (0))], (.pl [(.int (2000000)), (.int (0)), (.int (1000000))])),
  (4598207415838824043727083662323, [(.tup [(.flt 4606431818862122325), (.flt 4607182418800017408), (.flt 4598175219545276416)]), (.int (5)), (.int (0))], (.pl [(.int (2000000)), (.int (1000000)), (.int (0))])),
  (4607214660129609349828070947602, [(.tup [(.flt 4600427019358961664), (.flt 4598175219545276416), (.flt 4607182418800017408)]), (.int (0)), (.int (1))], (.pl [(.int (0)), (.int (4000000)), (.int (1000000))])),
  (4607214660129609349828074947614, [(.tup [(.flt 4600427019358961664), (.flt 4598175219545276416), (.flt 4607182418800017408)]), (.int (2)), (.int (1))], (.pl [(.int (4000000)), (.int (1000000)), (.int (0))])),
  (4607214657877797526543816626279, [(.tup [(.flt 4595172819793696085), (.flt 4595923419731591168), (.flt 4607182418800017408)]), (.int (0)), (.int (1))], (.pl [(.int (3000000)), (.int (3000000)), (.int (0))])),
  (4607214657877797526543818626285, [(.tup [(.flt 4595172819793696085), (.flt 4595923419731591168), (.flt 4607182418800017408)]), (.int (1)), (.int (1))], (.pl [(.int (3000000)), (.int (0)), (.int (0))])),
  (4607214655626000715258320206610, [(.tup [(.flt 4604930618986332160), (.flt 4593671619917905920), (.flt 4607182418800017408)]), (.int (0)), (.int (1))], (.pl [(.int (1000000)), (.int (0)), (.int (2000000))]))]
noncomputable def tbP1 : Rows := [(4607214655626000715258328206634, [(.tup [(.flt 4604930618986332160), (.flt 4593671619917905920), (.flt 4607182418800017408)]), (.int (4)), (.int (1))], (.pl [(.int (2000000)), (.int (1000000)), (.int (0))])),
  (4607214657877795024544023642671, [(.tup [(.flt 4592670820000712477), (.flt 4595923419731591168), (.flt 4607182418800017408)]), (.int (0)), (.int (1))], (.pl [(.int (3000000)), (.int (2000000)), (.int (0))])),
  (4607214657877803030943361190219, [(.tup [(.flt 4600677219338260025), (.flt 4595923419731591168), (.flt 4607182418800017408)]), (.int (0)), (.int (1))], (.pl [(.int (0)), (.int (3000000)), (.int (1000000))])),
  (4607214657877803030943365190231, [(.tup [(.flt 4600677219338260025), (.flt 4595923419731591168), (.flt 4607182418800017408)]), (.int (2)), (.int (1))], (.pl [(.int (3000000)), (.int (1000000)), (.int (0))])),
  (4607214655626001465858258101693, [(.tup [(.flt 4605681218924227243), (.flt 4593671619917905920), (.flt 4607182418800017408)]), (.int (0)), (.int (1))], (.pl [(.int (2000000)), (.int (0)), (.int (2000000))])),
  (4607214655626001465858268101723, [(.tup [(.flt 4605681218924227243), (.flt 4593671619917905920), (.flt 4607182418800017408)]), (.int (5)), (.int (1))], (.pl [(.int (2000000)), (.int (0)), (.int (0))])),
  (4607214660129612352227822527933, [(.tup [(.flt 4603429419110541995), (.flt 4598175219545276416), (.flt 4607182418800017408)]), (.int (0)), (.int (1))], (.pl [(.int (0)), (.int (2000000)), (.int (4000000))])),
  (4607214660129612352227828527951, [(.tup [(.flt 4603429419110541995), (.flt 4598175219545276416), (.flt 4607182418800017408)]), (.int (3)), (.int (1))], (.pl [(.int (4000000)), (.int (2000000)), (.int (0))])),
  (4593703789189808495708010272085, [(.tup [(.flt 4599676419421066581), (.flt 4607182418800017408), (.flt 4593671619917905920)]), (.int (0)), (.int (0))], (.pl [(.int (0)), (.int (1000000)), (.int (0))])),
  (4593703789189808495708014272097, [(.tup [(.flt 4599676419421066581), (.flt 4607182418800017408), (.flt 4593671619917905920)]), (.int (2)), (.int (0))], (.pl [(.int (1000000)), (.int (0)), (.int (0))])),
  (4607214651122377819289749459047, [(.tup [(.flt 4595172819793696085), (.flt 4589168020290535424), (.flt 4607182418800017408)]), (.int (0)), (.int (1))], (.pl [(.int (1000000)), (.int (1000000)), (.int (0))])),
  (4607214651122377819289751459053, [(.tup [(.flt 4595172819793696085), (.flt 4589168020290535424), (.flt 4607182418800017408)]), (.int (1)), (.int (1))], (.pl [(.int (1000000)), (.int (0)), (.int (0))])),
  (4607214655626002216458195996775, [(.tup [(.flt 4606431818862122325), (.flt 4593671619917905920), (.flt 4607182418800017408)]), (.int (0)), (.int (1))], (.pl [(.int (2000000)), (.int (0)), (.int (1000000))])),
  (4607214655626002216458205996805, [(.tup [(.flt 4606431818862122325), (.flt 4593671619917905920), (.flt 4607182418800017408)]), (.int (5)), (.int (1))], (.pl [(.int (2000000)), (.int (1000000)), (.int (0))])),
  (4607214651122385325289128409874, [(.tup [(.flt 4602678819172646912), (.flt 4589168020290535424), (.flt 4607182418800017408)]), (.int (0)), (.int (1))], (.pl [(.int (0)), (.int (1000000)), (.int (1000000))])),
  (4607214651122385325289134409892, [(.tup [(.flt 4602678819172646912), (.flt 4589168020290535424), (.flt 4607182418800017408)]), (.int (3)), (.int (1))], (.pl [(.int (1000000)), (.int (0)), (.int (0))])),
  (4607214657877799528143651013167, [(.tup [(.flt 4597174419628082973), (.flt 4595923419731591168), (.flt 4607182418800017408)]), (.int (0)), (.int (1))], (.pl [(.int (2000000)), (.int (3000000)), (.int (0))])),
  (4607214657877799528143653013173, [(.tup [(.flt 4597174419628082973), (.flt 4595923419731591168), (.flt 4607182418800017408)]), (.int (1)), (.int (1))], (.pl [(.int (3000000)), (.int (1000000)), (.int (0))])),
  (4607214657877808535342905754158, [(.tup [(.flt 4606181618882823964), (.flt 4595923419731591168), (.flt 4607182418800017408)]), (.int (0)), (.int (1))], (.pl [(.int (3000000)), (.int (0)), (.int (2000000))])),
  (4607214657877808535342915754188, [(.tup [(.flt 4606181618882823964), (.flt 4595923419731591168), (.flt 4607182418800017408)]), (.int (5)), (.int (1))], (.pl [(.int (3000000)), (.int (1000000)), (.int (0))])),
  (4607214657877790520944396272175, [(.tup [(.flt 4588167220373341981), (.flt 4595923419731591168), (.flt 4607182418800017408)]), (.int (0)), (.int (1))], (.pl [(.int (3000000)), (.int (1000000)), (.int (0))])),
  (4598207415834217611908211539968, [(.tup [(.flt 0), (.flt 4607182418800017408), (.flt 4598175219545276416)]), (.int (0)), (.int (0))], (.pl [(.int (2000000)), (.int (0)), (.int (0))])),
  (4598207415838820290727384186880, [(.tup [(.flt 4602678819172646912), (.flt 4607182418800017408), (.flt 4598175219545276416)]), (.int (0)), (.int (0))], (.pl [(.int (0)), (.int (2000000)), (.int (2000000))])),
  (4598207415838820290727390186898, [(.tup [(.flt 4602678819172646912), (.flt 4607182418800017408), (.flt 4598175219545276416)]), (.int (3)), (.int (0))], (.pl [(.int (2000000)), (.int (0)), (.int (0))])),
  (4598207415838812784728005236053, [(.tup [(.flt 4595172819793696085), (.flt 4607182418800017408), (.flt 4598175219545276416)]), (.int (0)), (.int (0))], (.pl [(.int (2000000)), (.int (2000000)), (.int (0))])),
  (4598207415838812784728007236059, [(.tup [(.flt 4595172819793696085), (.flt 4607182418800017408), (.flt 4598175219545276416)]), (.int (1)), (.int (0))], (.pl [(.int (2000000)), (.int (0)), (.int (0))])),
  (4598207415838821791927259977045, [(.tup [(.flt 4604180019048437077), (.flt 4607182418800017408), (.flt 4598175219545276416)]), (.int (0)), (.int (0))], (.pl [(.int (0)), (.int (0)), (.int (2000000))])),
  (4598207415838821791927267977069, [(.tup [(.flt 4604180019048437077), (.flt 4607182418800017408), (.flt 4598175219545276416)]), (.int (4)), (.int (0))], (.pl [(.int (2000000)), (.int (0)), (.int (0))])),
  (4598207415838817288327632606549, [(.tup [(.flt 4599676419421066581), (.flt 4607182418800017408), (.flt 4598175219545276416)]), (.int (0)), (.int (0))], (.pl [(.int (0)), (.int (2000000)), (.int (0))])),
  (4598207415838817288327636606561, [(.tup [(.flt 4599676419421066581), (.flt 4607182418800017408), (.flt 4598175219545276416)]), (.int (2)), (.int (0))], (.pl [(.int (2000000)), (.int (0)), (.int (0))])),
  (4607214655625999964658382311527, [(.tup [(.flt 4604180019048437077), (.flt 4593671619917905920), (.flt 4607182418800017408)]), (.int (0)), (.int (1))], (.pl [(.int (0)), (.int (0)), (.int (2000000))])),
  (4607214655625999964658390311551, [(.tup [(.flt 4604180019048437077), (.flt 4593671619917905920), (.flt 4607182418800017408)]), (.int (4)), (.int (1))], (.pl [(.int (2000000)), (.int (0)), (.int (0))])),
  (4607214657877805032543195577106, [(.tup [(.flt 4602678819172646912), (.flt 4595923419731591168), (.flt 4607182418800017408)]), (.int (0)), (.int (1))], (.pl [(.int (0)), (.int (3000000)), (.int (3000000))])),
  (4607214657877805032543201577124, [(.tup [(.flt 4602678819172646912), (.flt 4595923419731591168), (.flt 4607182418800017408)]), (.int (3)), (.int (1))], (.pl [(.int (3000000)), (.int (0)), (.int (0))]))]
noncomputable def tbP2 : Rows := [(4607214657877807534542988560715, [(.tup [(.flt 4605180818965630521), (.flt 4595923419731591168), (.flt 4607182418800017408)]), (.int (0)), (.int (1))], (.pl [(.int (2000000)), (.int (0)), (.int (3000000))])),
  (4607214657877807534542996560739, [(.tup [(.flt 4605180818965630521), (.flt 4595923419731591168), (.flt 4607182418800017408)]), (.int (4)), (.int (1))], (.pl [(.int (3000000)), (.int (2000000)), (.int (0))])),
  (4607214660129599592028878311527, [(.tup [(.flt 4590669220166325589), (.flt 4598175219545276416), (.flt 4607182418800017408)]), (.int (0)), (.int (1))], (.pl [(.int (4000000)), (.int (2000000)), (.int (0))])),
  (4607214655625990957459127570535, [(.tup [(.flt 4595172819793696085), (.flt 4593671619917905920), (.flt 4607182418800017408)]), (.int (0)), (.int (1))], (.pl [(.int (2000000)), (.int (2000000)), (.int (0))])),
  (4607214655625990957459129570541, [(.tup [(.flt 4595172819793696085), (.flt 4593671619917905920), (.flt 4607182418800017408)]), (.int (1)), (.int (1))], (.pl [(.int (2000000)), (.int (0)), (.int (0))])),
  (4607214660129611976927853580391, [(.tup [(.flt 4603054119141594453), (.flt 4598175219545276416), (.flt 4607182418800017408)]), (.int (0)), (.int (1))], (.pl [(.int (0)), (.int (3000000)), (.int (4000000))])),
  (4607214660129611976927859580409, [(.tup [(.flt 4603054119141594453), (.flt 4598175219545276416), (.flt 4607182418800017408)]), (.int (3)), (.int (1))], (.pl [(.int (4000000)), (.int (1000000)), (.int (0))])),
  (4607214655625996962258630731197, [(.tup [(.flt 4601177619296856747), (.flt 4593671619917905920), (.flt 4607182418800017408)]), (.int (0)), (.int (1))], (.pl [(.int (0)), (.int (2000000)), (.int (1000000))])),
  (4607214655625996962258634731209, [(.tup [(.flt 4601177619296856747), (.flt 4593671619917905920), (.flt 4607182418800017408)]), (.int (2)), (.int (1))], (.pl [(.int (2000000)), (.int (1000000)), (.int (0))])),
  (4607214655625993959858879150866, [(.tup [(.flt 4598175219545276416), (.flt 4593671619917905920), (.flt 4607182418800017408)]), (.int (0)), (.int (1))], (.pl [(.int (1000000)), (.int (2000000)), (.int (0))])),
  (4607214655625993959858881150872, [(.tup [(.flt 4598175219545276416), (.flt 4593671619917905920), (.flt 4607182418800017408)]), (.int (1)), (.int (1))], (.pl [(.int (2000000)), (.int (1000000)), (.int (0))])),
  (4593703789189811498107761852416, [(.tup [(.flt 4602678819172646912), (.flt 4607182418800017408), (.flt 4593671619917905920)]), (.int (0)), (.int (0))], (.pl [(.int (0)), (.int (1000000)), (.int (1000000))])),
  (4593703789189811498107767852434, [(.tup [(.flt 4602678819172646912), (.flt 4607182418800017408), (.flt 4593671619917905920)]), (.int (3)), (.int (0))], (.pl [(.int (1000000)), (.int (0)), (.int (0))])),
  (4607214660129615354627574108263, [(.tup [(.flt 4606431818862122325), (.flt 4598175219545276416), (.flt 4607182418800017408)]), (.int (0)), (.int (1))], (.pl [(.int (4000000)), (.int (0)), (.int (2000000))])),
  (4607214660129615354627584108293, [(.tup [(.flt 4606431818862122325), (.flt 4598175219545276416), (.flt 4607182418800017408)]), (.int (5)), (.int (1))], (.pl [(.int (4000000)), (.int (2000000)), (.int (0))])),
  (4607214657877802030143443996775, [(.tup [(.flt 4599676419421066581), (.flt 4595923419731591168), (.flt 4607182418800017408)]), (.int (0)), (.int (1))], (.pl [(.int (0)), (.int (3000000)), (.int (0))])),
  (4607214657877802030143447996787, [(.tup [(.flt 4599676419421066581), (.flt 4595923419731591168), (.flt 4607182418800017408)]), (.int (2)), (.int (1))], (.pl [(.int (3000000)), (.int (0)), (.int (0))])),
  (4598207415838821041327322081963, [(.tup [(.flt 4603429419110541995), (.flt 4607182418800017408), (.flt 4598175219545276416)]), (.int (0)), (.int (0))], (.pl [(.int (0)), (.int (1000000)), (.int (2000000))])),
  (4598207415838821041327328081981, [(.tup [(.flt 4603429419110541995), (.flt 4607182418800017408), (.flt 4598175219545276416)]), (.int (3)), (.int (0))], (.pl [(.int (2000000)), (.int (1000000)), (.int (0))])),
  (4607214660129595088429250941031, [(.tup [(.flt 4586165620538955093), (.flt 4598175219545276416), (.flt 4607182418800017408)]), (.int (0)), (.int (1))], (.pl [(.int (4000000)), (.int (1000000)), (.int (0))])),
  (4607214657877804031743278383662, [(.tup [(.flt 4601678019255453468), (.flt 4595923419731591168), (.flt 4607182418800017408)]), (.int (0)), (.int (1))], (.pl [(.int (0)), (.int (3000000)), (.int (2000000))])),
  (4607214657877804031743282383674, [(.tup [(.flt 4601678019255453468), (.flt 4595923419731591168), (.flt 4607182418800017408)]), (.int (2)), (.int (1))], (.pl [(.int (3000000)), (.int (2000000)), (.int (0))])),
  (4607214657877806533743071367271, [(.tup [(.flt 4604180019048437077), (.flt 4595923419731591168), (.flt 4607182418800017408)]), (.int (0)), (.int (1))], (.pl [(.int (0)), (.int (0)), (.int (3000000))])),
  (4607214657877806533743079367295, [(.tup [(.flt 4604180019048437077), (.flt 4595923419731591168), (.flt 4607182418800017408)]), (.int (4)), (.int (1))], (.pl [(.int (3000000)), (.int (0)), (.int (0))])),
  (4598207415838823293127135767211, [(.tup [(.flt 4605681218924227243), (.flt 4607182418800017408), (.flt 4598175219545276416)]), (.int (0)), (.int (0))], (.pl [(.int (2000000)), (.int (0)), (.int (2000000))])),
  (4598207415838823293127145767241, [(.tup [(.flt 4605681218924227243), (.flt 4607182418800017408), (.flt 4598175219545276416)]), (.int (5)), (.int (0))], (.pl [(.int (2000000)), (.int (0)), (.int (0))])),
  (4607214655625995461058754941031, [(.tup [(.flt 4599676419421066581), (.flt 4593671619917905920), (.flt 4607182418800017408)]), (.int (0)), (.int (1))], (.pl [(.int (0)), (.int (2000000)), (.int (0))])),
  (4607214655625995461058758941043, [(.tup [(.flt 4599676419421066581), (.flt 4593671619917905920), (.flt 4607182418800017408)]), (.int (2)), (.int (1))], (.pl [(.int (2000000)), (.int (0)), (.int (0))])),
  (4607214657877806033343112770550, [(.tup [(.flt 4603679619089840356), (.flt 4595923419731591168), (.flt 4607182418800017408)]), (.int (0)), (.int (1))], (.pl [(.int (0)), (.int (1000000)), (.int (3000000))])),
  (4607214657877806033343118770568, [(.tup [(.flt 4603679619089840356), (.flt 4595923419731591168), (.flt 4607182418800017408)]), (.int (3)), (.int (1))], (.pl [(.int (3000000)), (.int (2000000)), (.int (0))])),
  (4607214660129613853427698318098, [(.tup [(.flt 4604930618986332160), (.flt 4598175219545276416), (.flt 4607182418800017408)]), (.int (0)), (.int (1))], (.pl [(.int (2000000)), (.int (0)), (.int (4000000))])),
  (4607214660129613853427706318122, [(.tup [(.flt 4604930618986332160), (.flt 4598175219545276416), (.flt 4607182418800017408)]), (.int (4)), (.int (1))], (.pl [(.int (4000000)), (.int (2000000)), (.int (0))])),
  (4602711042487826831547192836096, [(.tup [(.flt 4600427019358961664), (.flt 4607182418800017408), (.flt 4602678819172646912)]), (.int (0)), (.int (0))], (.pl [(.int (0)), (.int (4000000)), (.int (1000000))])),
  (4602711042487826831547196836108, [(.tup [(.flt 4600427019358961664), (.flt 4607182418800017408), (.flt 4602678819172646912)]), (.int (2)), (.int (0))], (.pl [(.int (4000000)), (.int (1000000)), (.int (0))]))]
noncomputable def tbP3 : Rows := [(4600459229163317181037816403285, [(.tup [(.flt 4595172819793696085), (.flt 4607182418800017408), (.flt 4600427019358961664)]), (.int (0)), (.int (0))], (.pl [(.int (3000000)), (.int (3000000)), (.int (0))])),
  (4600459229163317181037818403291, [(.tup [(.flt 4595172819793696085), (.flt 4607182418800017408), (.flt 4600427019358961664)]), (.int (1)), (.int (0))], (.pl [(.int (3000000)), (.int (0)), (.int (0))])),
  (4600459229163314679038023419677, [(.tup [(.flt 4592670820000712477), (.flt 4607182418800017408), (.flt 4600427019358961664)]), (.int (0)), (.int (0))], (.pl [(.int (3000000)), (.int (2000000)), (.int (0))])),
  (4600459229163322685437360967225, [(.tup [(.flt 4600677219338260025), (.flt 4607182418800017408), (.flt 4600427019358961664)]), (.int (0)), (.int (0))], (.pl [(.int (0)), (.int (3000000)), (.int (1000000))])),
  (4600459229163322685437364967237, [(.tup [(.flt 4600677219338260025), (.flt 4607182418800017408), (.flt 4600427019358961664)]), (.int (2)), (.int (0))], (.pl [(.int (3000000)), (.int (1000000)), (.int (0))])),
  (4602711042487829833946944416427, [(.tup [(.flt 4603429419110541995), (.flt 4607182418800017408), (.flt 4602678819172646912)]), (.int (0)), (.int (0))], (.pl [(.int (0)), (.int (2000000)), (.int (4000000))])),
  (4602711042487829833946950416445, [(.tup [(.flt 4603429419110541995), (.flt 4607182418800017408), (.flt 4602678819172646912)]), (.int (3)), (.int (0))], (.pl [(.int (4000000)), (.int (2000000)), (.int (0))])),
  (4600459229163319182637650790173, [(.tup [(.flt 4597174419628082973), (.flt 4607182418800017408), (.flt 4600427019358961664)]), (.int (0)), (.int (0))], (.pl [(.int (2000000)), (.int (3000000)), (.int (0))])),
  (4600459229163319182637652790179, [(.tup [(.flt 4597174419628082973), (.flt 4607182418800017408), (.flt 4600427019358961664)]), (.int (1)), (.int (0))], (.pl [(.int (3000000)), (.int (1000000)), (.int (0))])),
  (4600459229163328189836905531164, [(.tup [(.flt 4606181618882823964), (.flt 4607182418800017408), (.flt 4600427019358961664)]), (.int (0)), (.int (0))], (.pl [(.int (3000000)), (.int (0)), (.int (2000000))])),
  (4600459229163328189836915531194, [(.tup [(.flt 4606181618882823964), (.flt 4607182418800017408), (.flt 4600427019358961664)]), (.int (5)), (.int (0))], (.pl [(.int (3000000)), (.int (1000000)), (.int (0))])),
  (4600459229163310175438396049181, [(.tup [(.flt 4588167220373341981), (.flt 4607182418800017408), (.flt 4600427019358961664)]), (.int (0)), (.int (0))], (.pl [(.int (3000000)), (.int (1000000)), (.int (0))])),
  (4600459229163324687037195354112, [(.tup [(.flt 4602678819172646912), (.flt 4607182418800017408), (.flt 4600427019358961664)]), (.int (0)), (.int (0))], (.pl [(.int (0)), (.int (3000000)), (.int (3000000))])),
  (4600459229163324687037201354130, [(.tup [(.flt 4602678819172646912), (.flt 4607182418800017408), (.flt 4600427019358961664)]), (.int (3)), (.int (0))], (.pl [(.int (3000000)), (.int (0)), (.int (0))])),
  (4600459229163327189036988337721, [(.tup [(.flt 4605180818965630521), (.flt 4607182418800017408), (.flt 4600427019358961664)]), (.int (0)), (.int (0))], (.pl [(.int (2000000)), (.int (0)), (.int (3000000))])),
  (4600459229163327189036996337745, [(.tup [(.flt 4605180818965630521), (.flt 4607182418800017408), (.flt 4600427019358961664)]), (.int (4)), (.int (0))], (.pl [(.int (3000000)), (.int (2000000)), (.int (0))])),
  (4602711042487817073748000200021, [(.tup [(.flt 4590669220166325589), (.flt 4607182418800017408), (.flt 4602678819172646912)]), (.int (0)), (.int (0))], (.pl [(.int (4000000)), (.int (2000000)), (.int (0))])),
  (4602711042487829458646975468885, [(.tup [(.flt 4603054119141594453), (.flt 4607182418800017408), (.flt 4602678819172646912)]), (.int (0)), (.int (0))], (.pl [(.int (0)), (.int (3000000)), (.int (4000000))])),
  (4602711042487829458646981468903, [(.tup [(.flt 4603054119141594453), (.flt 4607182418800017408), (.flt 4602678819172646912)]), (.int (3)), (.int (0))], (.pl [(.int (4000000)), (.int (1000000)), (.int (0))])),
  (4602711042487832836346695996757, [(.tup [(.flt 4606431818862122325), (.flt 4607182418800017408), (.flt 4602678819172646912)]), (.int (0)), (.int (0))], (.pl [(.int (4000000)), (.int (0)), (.int (2000000))])),
  (4602711042487832836346705996787, [(.tup [(.flt 4606431818862122325), (.flt 4607182418800017408), (.flt 4602678819172646912)]), (.int (5)), (.int (0))], (.pl [(.int (4000000)), (.int (2000000)), (.int (0))])),
  (4600459229163321684637443773781, [(.tup [(.flt 4599676419421066581), (.flt 4607182418800017408), (.flt 4600427019358961664)]), (.int (0)), (.int (0))], (.pl [(.int (0)), (.int (3000000)), (.int (0))])),
  (4600459229163321684637447773793, [(.tup [(.flt 4599676419421066581), (.flt 4607182418800017408), (.flt 4600427019358961664)]), (.int (2)), (.int (0))], (.pl [(.int (3000000)), (.int (0)), (.int (0))])),
  (4602711042487812570148372829525, [(.tup [(.flt 4586165620538955093), (.flt 4607182418800017408), (.flt 4602678819172646912)]), (.int (0)), (.int (0))], (.pl [(.int (4000000)), (.int (1000000)), (.int (0))])),
  (4600459229163323686237278160668, [(.tup [(.flt 4601678019255453468), (.flt 4607182418800017408), (.flt 4600427019358961664)]), (.int (0)), (.int (0))], (.pl [(.int (0)), (.int (3000000)), (.int (2000000))])),
  (4600459229163323686237282160680, [(.tup [(.flt 4601678019255453468), (.flt 4607182418800017408), (.flt 4600427019358961664)]), (.int (2)), (.int (0))], (.pl [(.int (3000000)), (.int (2000000)), (.int (0))])),
  (4600459229163326188237071144277, [(.tup [(.flt 4604180019048437077), (.flt 4607182418800017408), (.flt 4600427019358961664)]), (.int (0)), (.int (0))], (.pl [(.int (0)), (.int (0)), (.int (3000000))])),
  (4600459229163326188237079144301, [(.tup [(.flt 4604180019048437077), (.flt 4607182418800017408), (.flt 4600427019358961664)]), (.int (4)), (.int (0))], (.pl [(.int (3000000)), (.int (0)), (.int (0))])),
  (4600459229163325687837112547556, [(.tup [(.flt 4603679619089840356), (.flt 4607182418800017408), (.flt 4600427019358961664)]), (.int (0)), (.int (0))], (.pl [(.int (0)), (.int (1000000)), (.int (3000000))])),
  (4600459229163325687837118547574, [(.tup [(.flt 4603679619089840356), (.flt 4607182418800017408), (.flt 4600427019358961664)]), (.int (3)), (.int (0))], (.pl [(.int (3000000)), (.int (2000000)), (.int (0))])),
  (4602711042487831335146820206592, [(.tup [(.flt 4604930618986332160), (.flt 4607182418800017408), (.flt 4602678819172646912)]), (.int (0)), (.int (0))], (.pl [(.int (2000000)), (.int (0)), (.int (4000000))])),
  (4602711042487831335146828206616, [(.tup [(.flt 4604930618986332160), (.flt 4607182418800017408), (.flt 4602678819172646912)]), (.int (4)), (.int (0))], (.pl [(.int (4000000)), (.int (2000000)), (.int (0))]))]
noncomputable def tb_law_painted : Rows := tbP0 ++ (tbP1 ++ (tbP2 ++ (tbP3)))
noncomputable def tbL0 : Rows := [(0, [(.pl [(.int (0)), (.int (0)), (.int (0))]), (.str [2000000, 46]), (.int (0))], (.int (0))),
  (2000012000018, [(.pl [(.int (0)), (.int (0)), (.int (0))]), (.str [2000000, 46]), (.int (1))], (.int (0))),
  (4000024000036, [(.pl [(.int (0)), (.int (0)), (.int (0))]), (.str [2000000, 46]), (.int (2))], (.int (0))),
  (0, [(.pl [(.int (0)), (.int (0))]), (.str [2000000, 46]), (.int (0))], (.int (0))),
  (2000012000018, [(.pl [(.int (0)), (.int (0))]), (.str [2000000, 46]), (.int (1))], (.int (0))),
  (4000024000036, [(.pl [(.int (0)), (.int (0))]), (.str [2000000, 46]), (.int (2))], (.int (0))),
  (6000044000078, [(.pl [(.int (0)), (.int (4)), (.int (3))]), (.str [2000000, 46]), (.int (0))], (.int (7))),
  (8000056000096, [(.pl [(.int (0)), (.int (4)), (.int (3))]), (.str [2000000, 46]), (.int (1))], (.int (7))),
  (10000068000114, [(.pl [(.int (0)), (.int (4)), (.int (3))]), (.str [2000000, 46]), (.int (2))], (.int (7))),
  (8000178001696008972028470054216057412026112, [(.pl [(.int (0)), (.int (5)), (.int (0)), (.int (3)), (.int (1)), (.int (2)), (.int (5)), (.int (4))]), (.str [2000000, 46]), (.int (0))], (.int (20))),
  (8000178001696008972028470054218057424026130, [(.pl [(.int (0)), (.int (5)), (.int (0)), (.int (3)), (.int (1)), (.int (2)), (.int (5)), (.int (4))]), (.str [2000000, 46]), (.int (1))], (.int (20))),
  (8000178001696008972028470054220057436026148, [(.pl [(.int (0)), (.int (5)), (.int (0)), (.int (3)), (.int (1)), (.int (2)), (.int (5)), (.int (4))]), (.str [2000000, 46]), (.int (2))], (.int (20))),
  (10000030, [(.pl [(.int (0)), (.int (5))]), (.str [2000000, 46]), (.int (0))], (.int (5))),
  (2000022000048, [(.pl [(.int (0)), (.int (5))]), (.str [2000000, 46]), (.int (1))], (.int (5))),
  (4000034000066, [(.pl [(.int (0)), (.int (5))]), (.str [2000000, 46]), (.int (2))], (.int (5))),
  (0, [(.pl [(.int (0))]), (.str [2000000, 46]), (.int (0))], (.int (0))),
  (2000012000018, [(.pl [(.int (0))]), (.str [2000000, 46]), (.int (1))], (.int (0))),
  (4000024000036, [(.pl [(.int (0))]), (.str [2000000, 46]), (.int (2))], (.int (0))),
  (2, [(.pl [(.int (1)), (.int (0))]), (.str [2000000, 46]), (.int (0))], (.int (1))),
  (2000012000020, [(.pl [(.int (1)), (.int (0))]), (.str [2000000, 46]), (.int (1))], (.int (1))),
  (4000024000038, [(.pl [(.int (1)), (.int (0))]), (.str [2000000, 46]), (.int (2))], (.int (1))),
  (8000058000104, [(.pl [(.int (1)), (.int (5)), (.int (4))]), (.str [2000000, 46]), (.int (0))], (.int (10))),
  (10000070000122, [(.pl [(.int (1)), (.int (5)), (.int (4))]), (.str [2000000, 46]), (.int (1))], (.int (10))),
  (12000082000140, [(.pl [(.int (1)), (.int (5)), (.int (4))]), (.str [2000000, 46]), (.int (2))], (.int (10)))]
noncomputable def tbL1 : Rows := [(2, [(.pl [(.int (1))]), (.str [2000000, 46]), (.int (0))], (.int (1))),
  (2000012000020, [(.pl [(.int (1))]), (.str [2000000, 46]), (.int (1))], (.int (1))),
  (4000024000038, [(.pl [(.int (1))]), (.str [2000000, 46]), (.int (2))], (.int (1))),
  (10000060000094, [(.pl [(.int (2)), (.int (0)), (.int (5))]), (.str [2000000, 46]), (.int (0))], (.int (7))),
  (12000072000112, [(.pl [(.int (2)), (.int (0)), (.int (5))]), (.str [2000000, 46]), (.int (1))], (.int (7))),
  (14000084000130, [(.pl [(.int (2)), (.int (0)), (.int (5))]), (.str [2000000, 46]), (.int (2))], (.int (7))),
  (6000136001324007174023358045692049730023248, [(.pl [(.int (2)), (.int (1)), (.int (4)), (.int (0)), (.int (2)), (.int (5)), (.int (5)), (.int (3))]), (.str [2000000, 46]), (.int (0))], (.int (22))),
  (6000136001324007174023358045694049742023266, [(.pl [(.int (2)), (.int (1)), (.int (4)), (.int (0)), (.int (2)), (.int (5)), (.int (5)), (.int (3))]), (.str [2000000, 46]), (.int (1))], (.int (22))),
  (6000136001324007174023358045696049754023284, [(.pl [(.int (2)), (.int (1)), (.int (4)), (.int (0)), (.int (2)), (.int (5)), (.int (5)), (.int (3))]), (.str [2000000, 46]), (.int (2))], (.int (22))),
  (2000010, [(.pl [(.int (2)), (.int (1))]), (.str [2000000, 46]), (.int (0))], (.int (3))),
  (2000014000028, [(.pl [(.int (2)), (.int (1))]), (.str [2000000, 46]), (.int (1))], (.int (3))),
  (4000026000046, [(.pl [(.int (2)), (.int (1))]), (.str [2000000, 46]), (.int (2))], (.int (3))),
  (4000028000052, [(.pl [(.int (2)), (.int (2)), (.int (2))]), (.str [2000000, 46]), (.int (0))], (.int (6))),
  (6000040000070, [(.pl [(.int (2)), (.int (2)), (.int (2))]), (.str [2000000, 46]), (.int (1))], (.int (6))),
  (8000052000088, [(.pl [(.int (2)), (.int (2)), (.int (2))]), (.str [2000000, 46]), (.int (2))], (.int (6))),
  (4000016, [(.pl [(.int (2)), (.int (2))]), (.str [2000000, 46]), (.int (0))], (.int (4))),
  (2000016000034, [(.pl [(.int (2)), (.int (2))]), (.str [2000000, 46]), (.int (1))], (.int (4))),
  (4000028000052, [(.pl [(.int (2)), (.int (2))]), (.str [2000000, 46]), (.int (2))], (.int (4))),
  (4, [(.pl [(.int (2))]), (.str [2000000, 46]), (.int (0))], (.int (2))),
  (2000012000022, [(.pl [(.int (2))]), (.str [2000000, 46]), (.int (1))], (.int (2))),
  (4000024000040, [(.pl [(.int (2))]), (.str [2000000, 46]), (.int (2))], (.int (2))),
  (6000128001174006010018578034748036498016656, [(.pl [(.int (3)), (.int (0)), (.int (4)), (.int (4)), (.int (5)), (.int (2)), (.int (1)), (.int (3))]), (.str [2000000, 46]), (.int (0))], (.int (22))),
  (6000128001174006010018578034750036510016674, [(.pl [(.int (3)), (.int (0)), (.int (4)), (.int (4)), (.int (5)), (.int (2)), (.int (1)), (.int (3))]), (.str [2000000, 46]), (.int (1))], (.int (22))),
  (6000128001174006010018578034752036522016692, [(.pl [(.int (3)), (.int (0)), (.int (4)), (.int (4)), (.int (5)), (.int (2)), (.int (1)), (.int (3))]), (.str [2000000, 46]), (.int (2))], (.int (22)))]
noncomputable def tbL2 : Rows := [(6, [(.pl [(.int (3)), (.int (0))]), (.str [2000000, 46]), (.int (0))], (.int (3))),
  (2000012000024, [(.pl [(.int (3)), (.int (0))]), (.str [2000000, 46]), (.int (1))], (.int (3))),
  (4000024000042, [(.pl [(.int (3)), (.int (0))]), (.str [2000000, 46]), (.int (2))], (.int (3))),
  (8000174001622008404026158048960051092022980, [(.pl [(.int (3)), (.int (4)), (.int (0)), (.int (5)), (.int (2)), (.int (1)), (.int (3)), (.int (4))]), (.str [2000000, 46]), (.int (0))], (.int (22))),
  (8000174001622008404026158048962051104022998, [(.pl [(.int (3)), (.int (4)), (.int (0)), (.int (5)), (.int (2)), (.int (1)), (.int (3)), (.int (4))]), (.str [2000000, 46]), (.int (1))], (.int (22))),
  (8000174001622008404026158048964051116023016, [(.pl [(.int (3)), (.int (4)), (.int (0)), (.int (5)), (.int (2)), (.int (1)), (.int (3)), (.int (4))]), (.str [2000000, 46]), (.int (2))], (.int (22))),
  (6, [(.pl [(.int (3))]), (.str [2000000, 46]), (.int (0))], (.int (3))),
  (2000012000024, [(.pl [(.int (3))]), (.str [2000000, 46]), (.int (1))], (.int (3))),
  (4000024000042, [(.pl [(.int (3))]), (.str [2000000, 46]), (.int (2))], (.int (3))),
  (6000038000068, [(.pl [(.int (4)), (.int (1)), (.int (3))]), (.str [2000000, 46]), (.int (0))], (.int (8))),
  (8000050000086, [(.pl [(.int (4)), (.int (1)), (.int (3))]), (.str [2000000, 46]), (.int (1))], (.int (8))),
  (10000062000104, [(.pl [(.int (4)), (.int (1)), (.int (3))]), (.str [2000000, 46]), (.int (2))], (.int (8))),
  (8000172001590008190025390047404049418022244, [(.pl [(.int (4)), (.int (1)), (.int (5)), (.int (5)), (.int (0)), (.int (3)), (.int (2)), (.int (4))]), (.str [2000000, 46]), (.int (0))], (.int (24))),
  (8000172001590008190025390047406049430022262, [(.pl [(.int (4)), (.int (1)), (.int (5)), (.int (5)), (.int (0)), (.int (3)), (.int (2)), (.int (4))]), (.str [2000000, 46]), (.int (1))], (.int (24))),
  (8000172001590008190025390047408049442022280, [(.pl [(.int (4)), (.int (1)), (.int (5)), (.int (5)), (.int (0)), (.int (3)), (.int (2)), (.int (4))]), (.str [2000000, 46]), (.int (2))], (.int (24))),
  (2000014, [(.pl [(.int (4)), (.int (1))]), (.str [2000000, 46]), (.int (0))], (.int (5))),
  (2000014000032, [(.pl [(.int (4)), (.int (1))]), (.str [2000000, 46]), (.int (1))], (.int (5))),
  (4000026000050, [(.pl [(.int (4)), (.int (1))]), (.str [2000000, 46]), (.int (2))], (.int (5))),
  (2000016000038, [(.pl [(.int (4)), (.int (2)), (.int (1))]), (.str [2000000, 46]), (.int (0))], (.int (7))),
  (4000028000056, [(.pl [(.int (4)), (.int (2)), (.int (1))]), (.str [2000000, 46]), (.int (1))], (.int (7))),
  (6000040000074, [(.pl [(.int (4)), (.int (2)), (.int (1))]), (.str [2000000, 46]), (.int (2))], (.int (7))),
  (8000056000104, [(.pl [(.int (4)), (.int (4)), (.int (4))]), (.str [2000000, 46]), (.int (0))], (.int (12))),
  (10000068000122, [(.pl [(.int (4)), (.int (4)), (.int (4))]), (.str [2000000, 46]), (.int (1))], (.int (12))),
  (12000080000140, [(.pl [(.int (4)), (.int (4)), (.int (4))]), (.str [2000000, 46]), (.int (2))], (.int (12)))]
noncomputable def tbL3 : Rows := [(8000032, [(.pl [(.int (4)), (.int (4))]), (.str [2000000, 46]), (.int (0))], (.int (8))),
  (2000020000050, [(.pl [(.int (4)), (.int (4))]), (.str [2000000, 46]), (.int (1))], (.int (8))),
  (4000032000068, [(.pl [(.int (4)), (.int (4))]), (.str [2000000, 46]), (.int (2))], (.int (8))),
  (8, [(.pl [(.int (4))]), (.str [2000000, 46]), (.int (0))], (.int (4))),
  (2000012000026, [(.pl [(.int (4))]), (.str [2000000, 46]), (.int (1))], (.int (4))),
  (4000024000044, [(.pl [(.int (4))]), (.str [2000000, 46]), (.int (2))], (.int (4))),
  (6000036000064, [(.pl [(.int (5)), (.int (0)), (.int (3))]), (.str [2000000, 46]), (.int (0))], (.int (8))),
  (8000048000082, [(.pl [(.int (5)), (.int (0)), (.int (3))]), (.str [2000000, 46]), (.int (1))], (.int (8))),
  (10000060000100, [(.pl [(.int (5)), (.int (0)), (.int (3))]), (.str [2000000, 46]), (.int (2))], (.int (8))),
  (8000052000094, [(.pl [(.int (5)), (.int (2)), (.int (4))]), (.str [2000000, 46]), (.int (0))], (.int (11))),
  (10000064000112, [(.pl [(.int (5)), (.int (2)), (.int (4))]), (.str [2000000, 46]), (.int (1))], (.int (11))),
  (12000076000130, [(.pl [(.int (5)), (.int (2)), (.int (4))]), (.str [2000000, 46]), (.int (2))], (.int (11))),
  (4000022, [(.pl [(.int (5)), (.int (2))]), (.str [2000000, 46]), (.int (0))], (.int (7))),
  (2000016000040, [(.pl [(.int (5)), (.int (2))]), (.str [2000000, 46]), (.int (1))], (.int (7))),
  (4000028000058, [(.pl [(.int (5)), (.int (2))]), (.str [2000000, 46]), (.int (2))], (.int (7))),
  (10000040, [(.pl [(.int (5)), (.int (5))]), (.str [2000000, 46]), (.int (0))], (.int (10))),
  (2000022000058, [(.pl [(.int (5)), (.int (5))]), (.str [2000000, 46]), (.int (1))], (.int (10))),
  (4000034000076, [(.pl [(.int (5)), (.int (5))]), (.str [2000000, 46]), (.int (2))], (.int (10))),
  (10, [(.pl [(.int (5))]), (.str [2000000, 46]), (.int (0))], (.int (5))),
  (2000012000028, [(.pl [(.int (5))]), (.str [2000000, 46]), (.int (1))], (.int (5))),
  (4000024000046, [(.pl [(.int (5))]), (.str [2000000, 46]), (.int (2))], (.int (5)))]
noncomputable def tb_law_laid : Rows := tbL0 ++ (tbL1 ++ (tbL2 ++ (tbL3)))
noncomputable def tab1 : Tab := [("_law_read", tb_law_read), ("_law_painted", tb_law_painted), ("_law_near", tb_law_near)]
noncomputable def tabS : Tab := [("_law_sixths", tb_law_sixths)]
noncomputable def tabL : Tab := [("_law_laid", tb_law_laid)]
noncomputable def tabE : Tab := [("_law_euclid", tb_law_euclid)]
end Mine
end
section
set_option maxRecDepth 1000000
set_option maxHeartbeats 4000000
namespace Mine
open PySem
noncomputable def run1 : R := recN [] divT 60
noncomputable def run2 : R := recN [] (tabT tab1 divT) 60
noncomputable def chkE (r : R) (e : Nat × List V × V) : Bool := match noLsts e.2.1 with
  | true => match euclidV r e.2.1 with
    | some v => eqV v e.2.2
    | Option.none => false
  | false => false
noncomputable def chkEs (r : R) : Rows → Bool
  | [] => true
  | e :: l => match chkE r e with
    | true => chkEs r l
    | false => false
noncomputable def lawT : Known := tabT tabE (tabT tabL (tabT tabS divT))
noncomputable def lawOk (i j k : Nat) : Bool := isTrueR (runLaw 60 (facts i j k) lawT run1)
noncomputable def allN (p : Nat → Bool) : Nat → Bool
  | 0 => true
  | n + 1 => match p n with
    | true => allN p n
    | false => false
noncomputable def lawRow (i : Nat) : Bool := allN (fun j => allN (fun k => lawOk i j k) 3) 7
theorem chkAll_cut {r : R} {nm : Str} {l : Rows} (n : Nat) (h : chkAll r nm (l.take n) = true) (h2 : chkAll r nm (l.drop n) = true) : chkAll r nm l = true := List.take_append_drop n l ▸ chkAll_append h h2
theorem c_tbR0 : chkAll run1 "_law_read" tbR0 = true := by decide +kernel
theorem c_tbR1 : chkAll run1 "_law_read" tbR1 = true := by decide +kernel
theorem c_law_read : chkAll run1 "_law_read" tb_law_read = true := chkAll_append c_tbR0 (c_tbR1)
theorem c_tbP0 : chkAll run1 "_law_painted" tbP0 = true := by decide +kernel
theorem c_tbP1 : chkAll run1 "_law_painted" tbP1 = true := by decide +kernel
theorem c_tbP2 : chkAll run1 "_law_painted" tbP2 = true := by decide +kernel
theorem c_tbP3 : chkAll run1 "_law_painted" tbP3 = true := by decide +kernel
theorem c_law_painted : chkAll run1 "_law_painted" tb_law_painted = true := chkAll_append c_tbP0 (chkAll_append c_tbP1 (chkAll_append c_tbP2 (c_tbP3)))
theorem c_tbN0 : chkAll run1 "_law_near" tbN0 = true := by decide +kernel
theorem c_tbN1 : chkAll run1 "_law_near" tbN1 = true := by decide +kernel
theorem c_law_near : chkAll run1 "_law_near" tb_law_near = true := chkAll_append c_tbN0 (c_tbN1)
theorem c_tbS0a : chkAll run2 "_law_sixths" (tbS0.take 7) = true := by decide +kernel
theorem c_tbS0b : chkAll run2 "_law_sixths" (tbS0.drop 7) = true := by decide +kernel
theorem c_tbS0 : chkAll run2 "_law_sixths" tbS0 = true := chkAll_cut _ c_tbS0a (c_tbS0b)
theorem c_tbS1a : chkAll run2 "_law_sixths" (tbS1.take 7) = true := by decide +kernel
theorem c_tbS1b : chkAll run2 "_law_sixths" (tbS1.drop 7) = true := by decide +kernel
theorem c_tbS1 : chkAll run2 "_law_sixths" tbS1 = true := chkAll_cut _ c_tbS1a (c_tbS1b)
theorem c_tbS2a : chkAll run2 "_law_sixths" (tbS2.take 4) = true := by decide +kernel
theorem c_tbS2b : chkAll run2 "_law_sixths" ((tbS2.drop 4).take 3) = true := by decide +kernel
theorem c_tbS2c : chkAll run2 "_law_sixths" (((tbS2.drop 4).drop 3).take 4) = true := by decide +kernel
theorem c_tbS2d : chkAll run2 "_law_sixths" (((tbS2.drop 4).drop 3).drop 4) = true := by decide +kernel
theorem c_tbS2 : chkAll run2 "_law_sixths" tbS2 = true := chkAll_cut _ c_tbS2a (chkAll_cut _ c_tbS2b (chkAll_cut _ c_tbS2c (c_tbS2d)))
theorem c_tbS3a : chkAll run2 "_law_sixths" (tbS3.take 7) = true := by decide +kernel
theorem c_tbS3b : chkAll run2 "_law_sixths" (tbS3.drop 7) = true := by decide +kernel
theorem c_tbS3 : chkAll run2 "_law_sixths" tbS3 = true := chkAll_cut _ c_tbS3a (c_tbS3b)
theorem c_tbS4a : chkAll run2 "_law_sixths" (tbS4.take 7) = true := by decide +kernel
theorem c_tbS4b : chkAll run2 "_law_sixths" (tbS4.drop 7) = true := by decide +kernel
theorem c_tbS4 : chkAll run2 "_law_sixths" tbS4 = true := chkAll_cut _ c_tbS4a (c_tbS4b)
theorem c_tbS5a : chkAll run2 "_law_sixths" (tbS5.take 4) = true := by decide +kernel
theorem c_tbS5b : chkAll run2 "_law_sixths" ((tbS5.drop 4).take 3) = true := by decide +kernel
theorem c_tbS5c : chkAll run2 "_law_sixths" (((tbS5.drop 4).drop 3).take 4) = true := by decide +kernel
theorem c_tbS5d : chkAll run2 "_law_sixths" (((tbS5.drop 4).drop 3).drop 4) = true := by decide +kernel
theorem c_tbS5 : chkAll run2 "_law_sixths" tbS5 = true := chkAll_cut _ c_tbS5a (chkAll_cut _ c_tbS5b (chkAll_cut _ c_tbS5c (c_tbS5d)))
theorem c_tbS6a : chkAll run2 "_law_sixths" (tbS6.take 4) = true := by decide +kernel
theorem c_tbS6b : chkAll run2 "_law_sixths" ((tbS6.drop 4).take 3) = true := by decide +kernel
theorem c_tbS6c : chkAll run2 "_law_sixths" (((tbS6.drop 4).drop 3).take 4) = true := by decide +kernel
theorem c_tbS6d : chkAll run2 "_law_sixths" (((tbS6.drop 4).drop 3).drop 4) = true := by decide +kernel
theorem c_tbS6 : chkAll run2 "_law_sixths" tbS6 = true := chkAll_cut _ c_tbS6a (chkAll_cut _ c_tbS6b (chkAll_cut _ c_tbS6c (c_tbS6d)))
theorem c_law_sixths : chkAll run2 "_law_sixths" tb_law_sixths = true := chkAll_append c_tbS0 (chkAll_append c_tbS1 (chkAll_append c_tbS2 (chkAll_append c_tbS3 (chkAll_append c_tbS4 (chkAll_append c_tbS5 (c_tbS6))))))
theorem c_tbL0a : chkAll run1 "_law_laid" (tbL0.take 12) = true := by decide +kernel
theorem c_tbL0b : chkAll run1 "_law_laid" (tbL0.drop 12) = true := by decide +kernel
theorem c_tbL0 : chkAll run1 "_law_laid" tbL0 = true := chkAll_cut _ c_tbL0a (c_tbL0b)
theorem c_tbL1a : chkAll run1 "_law_laid" (tbL1.take 12) = true := by decide +kernel
theorem c_tbL1b : chkAll run1 "_law_laid" (tbL1.drop 12) = true := by decide +kernel
theorem c_tbL1 : chkAll run1 "_law_laid" tbL1 = true := chkAll_cut _ c_tbL1a (c_tbL1b)
theorem c_tbL2a : chkAll run1 "_law_laid" (tbL2.take 12) = true := by decide +kernel
theorem c_tbL2b : chkAll run1 "_law_laid" (tbL2.drop 12) = true := by decide +kernel
theorem c_tbL2 : chkAll run1 "_law_laid" tbL2 = true := chkAll_cut _ c_tbL2a (c_tbL2b)
theorem c_tbL3a : chkAll run1 "_law_laid" (tbL3.take 11) = true := by decide +kernel
theorem c_tbL3b : chkAll run1 "_law_laid" (tbL3.drop 11) = true := by decide +kernel
theorem c_tbL3 : chkAll run1 "_law_laid" tbL3 = true := chkAll_cut _ c_tbL3a (c_tbL3b)
theorem c_law_laid : chkAll run1 "_law_laid" tb_law_laid = true := chkAll_append c_tbL0 (chkAll_append c_tbL1 (chkAll_append c_tbL2 (c_tbL3)))
theorem c_law_euclid : chkEs run1 tb_law_euclid = true := by decide +kernel
theorem c_row0 : lawRow 0 = true := by decide +kernel
theorem c_row1 : lawRow 1 = true := by decide +kernel
theorem c_row2 : lawRow 2 = true := by decide +kernel
theorem c_row3 : lawRow 3 = true := by decide +kernel
theorem c_row4 : lawRow 4 = true := by decide +kernel
theorem c_row5 : lawRow 5 = true := by decide +kernel
theorem c_row6 : lawRow 6 = true := by decide +kernel
end Mine
end
section
set_option maxRecDepth 100000
set_option maxHeartbeats 4000000
set_option linter.unusedVariables false
namespace Mine
open PySem PySem.Calls PyProof.Rows PySem.W PySem.SeqAt

section
variable {prog : Program} {w : World} {cx : Cx} {σ : Sto} {ρ : Loc} {v : V} {g : Gh} {h h' : Heap} {tk tk' : Nat} {S : List Addr} {A : Around} {s : Shared} {env : Env}

theorem W.told (C : CxOk cx) (hS : ∀ a ∈ S, cx.h₀.objs.size ≤ a) (hSd : ∀ a ∈ S, ∃ o es ep, h.get? a = some o ∧ o.data = .dict es ep) (hk : ∀ b o, h.get? b = some o → b ∉ S → h'.get? b = some o)
    (hs : ∀ b o, h.get? b = some o → b ∈ S → ∃ sl, h'.get? b = some { o with slots := sl }) (hw : W cx σ g h tk) (hle : tk ≤ tk') : W cx σ g h' tk' ∧ Ev cx [] g g h h' := by
  have sl : ∀ b o, h.get? b = some o → ∃ o', h'.get? b = some o' ∧ Sl o o' := fun b o e => by
    by_cases q : b ∈ S
    · obtain ⟨o1, es, ep, e1, d⟩ := hSd b q
      rw [e] at e1; cases e1
      obtain ⟨sl, e2⟩ := hs b o e q
      exact ⟨_, e2, .inr ⟨⟨es, ep, d⟩, rfl⟩⟩
    · exact ⟨o, hk b o e q, .refl o⟩
  have nd : ∀ b o, h.get? b = some o → (∀ es ep, o.data ≠ .dict es ep) → h'.get? b = some o := fun b o e d => by
    obtain ⟨o', e', q⟩ := sl b o e
    rw [q.eq d] at e'; exact e'
  have low : ∀ b o, b < cx.h₀.objs.size → h.get? b = some o → h'.get? b = some o := fun b o hb e => hk b o e fun q => by have := hS b q; omega
  have E : Ev cx [] g g h h' := ⟨⟨[], by simp⟩, rfl, Nat.le_refl _, fun _ _ => rfl, fun a o e _ _ _ => sl a o e, fun a o e hi _ => nd a o e fun es ep d => (by rw [Imm_dict d] at hi; cases hi), fun a o e _ => let ⟨o', e', _⟩ := sl a o e; ⟨o', e'⟩, fun _ hm hn => absurd hm hn⟩
  have hst := C.stat
  have K := hw.old
  refine ⟨⟨Nat.lt_of_lt_of_le hw.tok hle, fun a m => ?_, ⟨fun b o e => ?_, fun b o e => ?_⟩, ?_, ?_, fun t m => ?_, hw.len, hw.nodup, fun a m => ?_, Nat.le_trans hw.gn hle, hw.base, hw.based, hw.fresh, fun i vs e => ?_⟩, E⟩
  · obtain ⟨o, es, ep, e, d⟩ := hw.frs a m
    obtain ⟨o', e', q⟩ := sl a o e
    exact ⟨o', es, ep, e', q.data.trans d⟩
  · have hb : b < cx.h₀.objs.size := Heap.lt_size e
    rcases K.old b o e with x | ⟨t, hc, vs, more, hv, x⟩ | ⟨rfl, hc, ⟨o', es, n, ho', r⟩, z⟩
    · exact .inl (low b _ hb x)
    · exact .inr (.inl ⟨t, hc, vs, more, hv, low b _ hb x⟩)
    · have k := low _ _ hb ho'
      exact .inr (.inr ⟨rfl, hc, ⟨o', es, n, k, r⟩, fun key => by rw [OldK.staticOf_congr (k.trans ho'.symm) key]; exact z key⟩)
  · obtain ⟨o', e'⟩ := K.there b o e
    exact ⟨o', low b o' (Heap.lt_size e) e'⟩
  · obtain ⟨mc, a, b⟩ := hw.booked
    exact ⟨mc, a.at' fun o q => low _ _ hst q, b⟩
  · obtain ⟨mc, a, b⟩ := hw.nolim
    exact ⟨mc, a.at' fun o q => low _ _ hst q, b⟩
  · exact (hw.tabs t m).move fun e d c => nd _ _ e fun _ _ q => nomatch d.symm.trans q
  · obtain ⟨us, m, e⟩ := hw.hidden a m
    exact ⟨us, m, nd _ _ e (fun es ep d => by cases d)⟩
  · obtain ⟨a, ws, e1, ⟨m, e2⟩, e3⟩ := hw.lists i vs e
    exact ⟨a, ws, e1, ⟨m, nd _ _ e2 (fun es ep d => by cases d)⟩, e3.mono E⟩

theorem FrR.int (hf : FrR cx env g ρ h) {x : Str} {i : Int} (e : lk x ρ = some (.int i)) (hk : env.kindOf x = some .local) : ∃ m t, h.Ns env.locals m ∧ m x = some (.int i t) := by
  obtain ⟨m, hn, hm⟩ := hf.ns
  rcases hm x _ e with ⟨_, w, hw, r⟩ | ⟨k | k, _⟩
  · obtain ⟨t, rfl⟩ := r.inv
    exact ⟨m, t, hn, hw⟩
  · rw [hk] at k; cases k
  · rw [hk] at k; cases k

noncomputable def FrF (cx : Cx) (h : Heap) (e : Env) : Prop := e.scope.kind ≠ .module ∧ e.frame = some e.locals ∧ cx.h₀.objs.size ≤ e.locals ∧ ∃ o es ep, h.get? e.locals = some o ∧ o.data = .dict es ep
theorem funFrames_of {base : Heap} : ∀ {l : List Env}, (∀ e ∈ l, FrF cx h e) → (∀ e ∈ l, base.get? e.locals = none) → h.FunFrames base l
  | [], _, _ => trivial
  | e :: l, h1, h2 => by
    obtain ⟨a, b, c, o, es, ep, d1, d2⟩ := h1 e List.mem_cons_self
    exact ⟨a, ⟨_, o, b, h2 e List.mem_cons_self, d1, fun vs q => by rw [d2] at q; cases q⟩, funFrames_of (fun e m => h1 e (List.mem_cons_of_mem _ m)) (fun e m => h2 e (List.mem_cons_of_mem _ m))⟩

theorem zdiv (D : DivG cx) {a : Addr} (ha : cx.fnA "int_divmod" = some a) {n : Int} {ws : List Value} {l : List Env} (hv : VRs cx s.heap g [.int n, .int 0] ws) (hw : W cx σ g s.heap s.toks) (hA : Room (some l) 3 A) (hl : ∀ e ∈ l, FrF cx s.heap e)
    {Q : Value → Shared → Prop} {E : Value → Shared → Prop}
    (hE : ∀ h' tk e a0, s.toks ≤ tk → Heap.FlyingW (TI.gone s.heap (l.map (·.locals))) l e (.type "ZeroDivisionError") a0 h' → s.heap.UpToSlots h' → E (.ref e) { s with heap := h', toks := tk }) : wpAny (model prog w) A (call (.ref a) ws []) Q E s := by
  refine fn_enter D.G.ok (D.fn _ _ ha) (fn := ID) (ρ := [("a", .int n), ("b", .int 0)]) rfl (by decide +kernel) rfl hv hw hA fun env s₁ X hf W1 N1 => ?_
  have hframe := X.loc
  have hkeep := X.keep
  have hno := X.no
  have hsc := X.sc
  have hkof := X.kof
  obtain ⟨m, t, hns, hm⟩ := hf.int (x := "b") (i := 0) rfl (by rw [hkof]; decide +kernel)
  have hdep : (A.deeper env).handled = none := hA.handled
  have hfr : (A.deeper env).frames = some (env :: l) := by show A.frames.map (env :: ·) = _; rw [hA.frs l rfl]; rfl
  obtain ⟨⟨hp1, tk1, rfl⟩, ltk, _⟩ := N1
  have key : ∀ {y1 y2 y3 y4 y5 y6 : Pos} {k : Nat} {os ss rs : List Stmt} {Q' : Flow → Shared → Prop} {E' : Value → Shared → Prop}, ID.body = .If (.Compare (.Name "b" y1) [.Eq] [.Constant (.int 0) k y2] y3) (.Raise (some (.Name "ZeroDivisionError" y4)) none y5 :: rs) os y6 :: ss →
      (∀ h' e, Heap.NewExc hp1 h' e "ZeroDivisionError" → E' (.ref e) { s with heap := h', toks := tk1 + 1 }) →
      wpAny (model prog w) (A.deeper env) (execs ID.body env) Q' E' { s with heap := hp1, toks := tk1 } := by
    intro y1 y2 y3 y4 y5 y6 k os ss rs Q' E' hb hE'
    rw [hb]
    refine wpAny_execs_cons (wpAny_If (wpAny_isTrue_Compare1 (wpAny_Name (wpAny_loadName_local hf.kind (by rw [hkof]; decide +kernel) hns hm (wpAny_Constant_int ?_))) rfl))
    refine wpAny_mono (icmp_ok (k := true) rfl ?_) (fun _ _ x => x) (fun _ _ (z : Z _ _) => z.elim)
    refine wpAny_truthy_bool ?_
    rw [if_pos rfl]
    refine wpAny_execs_cons (Raise_classB hdep excClass_ZeroDivisionError F.self_ZeroDivisionError (Name_function_global hf.kind (by rw [hkof]; decide +kernel) (raw_ok D.G (by simp [rawTab]) hf.glob hf.blt (W1.toks (Nat.le_succ _)) ⟨rfl, rfl⟩)) fun h' e hx => hE' h' e hx)
  refine key rfl fun h2' e hx => ?_
  obtain ⟨ob, tt, he, hcls, hd⟩ := hx.there
  have hkeep2 : ∀ b o, s.heap.get? b = some o → h2'.get? b = some o := fun b o q => hx.keeps b o (hkeep b o q)
  have hnone : ∀ {b : Addr}, s.heap.get? b = none → (TI.gone s.heap (l.map (·.locals))).get? b = none := fun {b} q => by
    cases q2 : (TI.gone s.heap (l.map (·.locals))).get? b with
    | none => rfl
    | some o => rw [(TI.gone_some q2).2] at q; cases q
  have hFl : ∀ e ∈ env :: l, FrF cx h2' e := fun e' hm => by
    rcases List.mem_cons.mp hm with rfl | hm
    · obtain ⟨m', ⟨o', es, ep, ho', hd', _⟩, _⟩ := hf.ns
      exact ⟨fun q => (by rw [hf.kind] at q; cases q), hframe, hf.l0, o', es, ep, hx.keeps _ _ ho', hd'⟩
    · obtain ⟨b1, b2, b3, o', es, ep, b4, b5⟩ := hl e' hm
      exact ⟨b1, b2, b3, o', es, ep, hkeep2 _ _ b4, b5⟩
  have hFn : ∀ e ∈ env :: l, (TI.gone s.heap (l.map (·.locals))).get? e.locals = none := fun e' hm => by
    rcases List.mem_cons.mp hm with rfl | hm
    · exact hnone (hno _ List.mem_cons_self)
    · exact TI.gone_none (List.mem_map_of_mem (f := (·.locals)) hm)
  have hen : s.heap.get? e = none := TI.none_of hkeep hx.new
  refine wpAny_leaving_firstW (base := TI.gone s.heap (l.map (·.locals))) (oe := ob) (a0 := tt) hfr (funFrames_of hFl hFn) hframe he (fun b o q => hkeep2 b o (TI.gone_some q).2) (hnone hen) hd rfl rfl fun h3 hL => ?_
  obtain ⟨l1, ⟨_, _, l2⟩, l3, l4⟩ := hL
  rw [hcls] at l3
  exact hE h3 (tk1 + 1) e tt (Nat.le_succ_of_le ltk) ⟨l1, hnone hen, l2, l3⟩ fun b o q hnf => l4 b o (hkeep2 b o q) hnf
end
end Mine
end
section
set_option maxRecDepth 100000
set_option maxHeartbeats 4000000
set_option linter.unusedVariables false
namespace Mine
open PySem PySem.Calls PyProof.Rows PySem.W PySem.SeqAt

section
variable {prog : Program} {w : World} {cx : Cx} {σ σ' : Sto} {ρ ρ' : Loc} {v : V} {g : Gh} {h h' : Heap} {tk tk' : Nat} {S : List Addr} {A : Around} {s : Shared} {env : Env} {sc : Scope} {P : Env → Gh → Heap → Prop} {K : Nat}

theorem fnCall (G : CxG cx) (hP : PresE cx P) (hfn : ∀ nm a, cx.fnA nm = some a → FnIn cx nm a) {f : Expr} {nm : Str} {es : List Expr} {vs : List V} {p : Pos} (hf0 : EvS prog w cx P K sc σ ρ f (.fn nm) σ) (har : ArS prog w cx P K sc ρ σ es vs σ') (hne : es ≠ [])
    (he : ∀ env, eval (.Call f es [] p) env = (do callWith p (← eval f env) [] (backTo p (starEach es env)) (backToKw p (keywordEach [] env))))
    {fr : Option (List Env)} {Q : Value → Shared → Prop} {E : Value → Shared → Prop} (hp : P env g s.heap) (hs : ScE env sc) (hf : FrR cx env g ρ s.heap) (hw : W cx σ g s.heap s.toks) (hA : Room fr K A)
    (hc : ∀ g₂ ws s₂ a, cx.fnA nm = some a → W cx σ' g₂ s₂.heap s₂.toks → VRs cx s₂.heap g₂ vs ws → Next cx g s g₂ s₂ → wpAny (model prog w) A (call (.ref a) ws []) Q E s₂) : wpAny (model prog w) A (eval (.Call f es [] p) env) Q E s := by
  rw [he]
  refine wpAny_bind (wpAny_mono (hf0 hp hs hf hw hA) (fun wf s1 x1 => ?_) fun _ _ (z : Z _ _) => z.elim)
  refine x1.k fun g1 W1 V1 N1 => ?_
  have e0 : backToKw p (keywordEach [] env) = [] := rfl
  rw [e0]
  refine callWith_of (P := fun h => ∃ k, (k = Keeper.frame ∨ k = Keeper.machine ∨ k = Keeper.boundFrame) ∧ Looks (model prog w) h (keeperOf wf) k) ?_ (fun _ x => x) ?_
  · rw [(har.any (pos := p) (env := env)).1]; rfl
  refine har.args hne (wpAny_mono (ArS.sp (P := P) G hP har (hP.at_ hp N1.evo) hs (hf.mono G.ok N1.evo) W1 hA) (fun ws s2 x2 => ?_) fun _ _ (z : Z _ _) => z.elim)
  refine x2.k fun g2 W2 V2 N2 => ?_
  have Vf := V1.mono N2.evo
  refine ⟨keeper_ok hfn rfl Vf W2, ?_⟩
  apply Vf.fnE; intro _ ha
  · exact hc g2 ws s2 _ ha W2 V2 (N1.trans N2)

theorem eu_try (D : DivG cx) {l : List Env} (hl : ∀ e ∈ l, e.scope.kind ≠ .module ∧ e.frame = some e.locals ∧ e.locals ∈ cx.frs) {n t : Int} {y1 y2 y3 y4 y5 y6 y7 y8 y9 y10 y11 y12 y13 y14 y15 y16 y17 y18 : Pos} {k1 k2 k3 : Nat} {r0 : Option Expr}
    (hA : Room (some (env :: l)) 4 A) (hs : ScE env sc) (hf : FrR cx env g ρ s.heap) (hw : W cx σ g s.heap s.toks) (hframe : env.frame = some env.locals)
    (hu : lk "u" ρ = some (.int 0)) (hn : lk "n" ρ = some (.int n)) (ht : lk "turned" ρ = some (.int t)) (hi : lk "int_divmod" ρ = none) (hig : lk "int_divmod" sc.names = some .globalImplicit) (hz : lk "ZeroDivisionError" sc.names = some .globalImplicit)
    (hkn : env.kindOf "n" = some .local) (hkt : env.kindOf "turned" = some .local) :
    wpAny (model prog w) A (exec (.Try [.Expr (.Call (.Name "int_divmod" y1) [.Name "n" y2, .Name "u" y3] [] y4) y5, .Return r0 y6] [.ExceptHandler (some (.Name "ZeroDivisionError" y7)) none [.Return (some (.IfExp (.Compare (.Name "n" y8) [.Eq] [.Constant (.int 1) k1 y9] y10) (.BinOp (.Name "turned" y11) .Mod (.Constant (.int 2) k2 y12) y13) (.Constant (.int 2) k3 y14) y15)) y16] y17] [] [] y18) env)
      (ExP cx env g s σ ρ (.ret (if n = 1 then .int (Int.fmod t 2) else .int 2))) Z s := by
  have hfi : ∀ nm a, cx.fnA nm = some a → FnIn cx nm a := fun nm a e => (D.fn nm a e).fin
  have hP : PresE cx PT := PT.pres.e
  have hfr : A.frames = some (env :: l) := hA.frs _ rfl
  refine wpAny_Try_except (wpAny_execs_cons (wpAny_Expr_any ?_ (by unfold interactive; rw [hf.kind]; rfl) rfl))
  refine fnCall (nm := "int_divmod") (vs := [.int n, .int 0]) (σ' := σ) (K := 4) (P := PT) D.G hP hfi (EvS.nmG D.G hi (by unfold evGlob; rw [hig]; rfl) rfl) (.cons (EvS.nmL D.G hn rfl) (fun _ _ => rfl) (.cons (EvS.nmL D.G hu rfl) (fun _ _ => rfl) (.nil _))) (by simp) (fun _ => rfl) trivial hs hf hw hA fun g2 ws s2 a ha W2 V2 N2 => ?_
  have f2 := hf.mono D.G.ok N2.evo
  have hFl : ∀ e ∈ env :: l, FrF cx s2.heap e := fun e' hm => by
    rcases List.mem_cons.mp hm with rfl | hm
    · obtain ⟨m', ⟨o', es, ep, ho', hd', _⟩, _⟩ := f2.ns
      exact ⟨fun q => (by rw [hf.kind] at q; cases q), hframe, hf.l0, o', es, ep, ho', hd'⟩
    · obtain ⟨b1, b2, b3⟩ := hl e' hm
      obtain ⟨o', es, ep, b4, b5⟩ := W2.frs _ b3
      exact ⟨b1, b2, D.G.ok.frs₀ _ b3, o', es, ep, b4, b5⟩
  refine zdiv D ha V2 W2 (hA.le (by omega)) hFl fun h3 tk3 e a0 hle hfl hup => ?_
  obtain ⟨S, hSdef⟩ : ∃ S, S = (env :: l).map (·.locals) := ⟨_, rfl⟩
  rw [← hSdef] at hfl
  have hS : ∀ a ∈ S, cx.h₀.objs.size ≤ a := fun a hm => by
    rw [hSdef] at hm
    obtain ⟨e', he', rfl⟩ := List.mem_map.mp hm
    exact (hFl e' he').2.2.1
  have hSd : ∀ a ∈ S, ∃ o es ep, s2.heap.get? a = some o ∧ o.data = .dict es ep := fun a hm => by
    rw [hSdef] at hm
    obtain ⟨e', he', rfl⟩ := List.mem_map.mp hm
    exact (hFl e' he').2.2.2
  have told : ∀ {h5 : Heap} {tk5 : Nat}, (TI.gone s2.heap S).StaysIn h5 → s2.heap.UpToSlots h5 → s2.toks ≤ tk5 → W cx σ g2 h5 tk5 ∧ Ev cx [] g2 g2 s2.heap h5 := fun {h5 tk5} st up hle => W2.told D.G.ok hS hSd (fun b o q hb => st b o ((TI.gone_get hb).trans q)) (fun b o q hb => by
    obtain ⟨o1, es, ep, q1, d⟩ := hSd b hb
    rw [q] at q1; cases q1
    exact up b o q fun vs x => by rw [d] at x; cases x) hle
  obtain ⟨⟨hp2, tk2, rfl⟩, l2, _⟩ := id N2
  -- the frame is told
  refine wpAny_looks_onW (s := { s with heap := h3, toks := tk3 }) hfr hframe hfl fun h4 hheld hup4 => ?_
  refine wpAny_landsW (s := { s with heap := h4, toks := tk3 }) hheld fun h5 hfl5 hup5 => ?_
  have up5 := (hup.trans hup4).trans hup5
  obtain ⟨W5, E5⟩ := told (tk5 := tk3) hfl5.1 up5 hle
  refine wpAny_handleBy_builtin (X := "ZeroDivisionError") (T := "ZeroDivisionError") (b := true) F.isExc_ZeroDivisionError F.notTuple_ZeroDivisionError F.self_ZeroDivisionError ?_
  refine Name_function_global hf.kind (hs.at hz (fun x => nomatch x)) (raw_ok (s := { s with heap := h5, toks := tk3 }) D.G (by simp [rawTab]) hf.glob hf.blt W5 ⟨rfl, hfl5.there, ?_⟩)
  rw [if_pos rfl]
  refine wpAny_setFlight_noneW (s := { s with heap := h5, toks := tk3 }) hfl5.1 hfl5.2.2.1 hfl5.2.2.2.at fun h6 st6 _ _ kp6 => ?_
  have up6 : hp2.UpToSlots h6 := up5.trans fun b o q hn => ⟨o.slots, kp6 b o q hn⟩
  obtain ⟨W6, E6⟩ := told (tk5 := tk3) st6 up6 hle
  have f6 := f2.mono D.G.ok E6
  obtain ⟨m, tn, hns, hm⟩ := f6.int hn hkn
  obtain ⟨m', tt, hns', hm'⟩ := f6.int ht hkt
  have fin : ∀ {i : Int} {tk7 : Nat} {t7 : Tok}, tk3 ≤ tk7 → ExP cx env g s σ ρ (.ret (.int i)) (.ret (.int i t7)) { s with heap := h6, toks := tk7 } := fun {i tk7 t7} hle7 =>
    ⟨h6, tk7, g2, rfl, Nat.le_trans l2 (Nat.le_trans hle hle7), W6.toks hle7, frame_weaken (N2.evo.trans E6), f6, .int i t7, rfl, .int i t7⟩
  refine wpAny_execs_cons (wpAny_Return_some (wpAny_IfExp (wpAny_isTrue_Compare1 (wpAny_Name (wpAny_loadName_local hf.kind hkn hns hm (wpAny_Constant_int ?_))) rfl)))
  refine wpAny_mono (icmp_ok (k := decide (n = 1)) rfl ?_) (fun _ _ x => x) (fun _ _ (z : Z _ _) => z.elim)
  refine wpAny_truthy_bool ?_
  by_cases h1 : n = 1
  · rw [decide_eq_true h1, if_pos rfl, if_pos h1]
    refine wpAny_BinOp (wpAny_Name (wpAny_loadName_local hf.kind hkt hns' hm' (wpAny_Constant_int ?_)))
    exact AutoIntOps.mod_1 (by decide) (fin (Nat.le_succ_of_le (Nat.le_succ_of_le (Nat.le_succ _))))
  · rw [decide_eq_false h1, if_neg (by decide), if_neg h1]
    exact wpAny_Constant_int (fin (Nat.le_succ_of_le (Nat.le_succ _)))
end
end Mine
end
section
set_option maxRecDepth 100000
set_option maxHeartbeats 4000000
set_option linter.unusedVariables false
namespace Mine
open PySem PySem.Calls PyProof.Rows PySem.W PySem.SeqAt

noncomputable def EU : Fn := fnGet "_law_euclid"

section
variable {prog : Program} {w : World} {cx : Cx} {σ σ' σ'' : Sto} {ρ ρ' ρ'' : Loc} {v : V} {g : Gh} {A : Around} {s : Shared} {env : Env} {sc : Scope} {K : Nat} {fl : Fl} {fr : Option (List Env)} {r : R} {ts : List Stmt}

theorem exs_app (H : Sound prog w cx fr K r) {ss : List Stmt} {σ σ' : Sto} {ρ ρ' : Loc} {g : Gh} {s : Shared} (e : exs r sc σ ρ ss = some (.next, σ', ρ')) (hs : ScE env sc) (hf : FrR cx env g ρ s.heap) (hw : W cx σ g s.heap s.toks) (hA : Room fr K A)
    (k : ∀ {g1 : Gh} {s1 : Shared}, FrR cx env g1 ρ' s1.heap → W cx σ' g1 s1.heap s1.toks → wpAny (model prog w) A (execs ts env) (ExP cx env g1 s1 σ'' ρ'' fl) Z s1) : wpAny (model prog w) A (execs (ss ++ ts) env) (ExP cx env g s σ'' ρ'' fl) Z s := by
  induction ss generalizing σ ρ g s with
  | nil => exact k (p3c e ▸ hf) (p3b e ▸ hw)
  | cons st ss ih =>
    exact bindE e fun p q1 e => wpAny_execs_cons (wpZ (H.ex q1 hs hf hw hA) fun f s1 x1 => by
      obtain ⟨f0, σ1, ρ1⟩ := p
      cases f0 with
      | next => apply x1.nx; exact fun g1 W1 F1 A1 => wpZ (ih e F1 W1) fun f2 s2 x2 => ExP.after A1.1 A1.2.1 A1.2.2 x2
      | ret v => exact nomatch p2a e)

theorem eu_ok (D : DivG cx) {l : List Env} (hl : ∀ e ∈ l, e.scope.kind ≠ .module ∧ e.frame = some e.locals ∧ e.locals ∈ cx.frs) (H : Sound prog w cx none K r) {vs : List V} (hvs : noLsts vs = true) (e : euclidV r vs = some v) {a : Addr} (ha : cx.fnA "_law_euclid" = some a)
    {ws : List Value} (hv : VRs cx s.heap g vs ws) (hw : W cx σ g s.heap s.toks) (hA : Room (some l) (K + 5) A) : wpAny (model prog w) A (call (.ref a) ws []) (EvP cx g s σ v) Z s := by
  have hn : fnOf sEuclid = some EU := rfl
  refine bindE e fun fn0 q0 e => bindE e fun ρ hb e => bindE e fun q q1 e => whE e fun hnx e => whE e fun hem e => bindE e fun u' qu e => bindE e fun u iu e => bindE e fun n' qn e => bindE e fun n inn e => bindE e fun t' qt e => bindE e fun t it e => whE e fun d1 e9 => ?_
  cases Option.some.inj (hn.symm.trans q0)
  obtain ⟨f0, σ0, ρ'⟩ := q
  obtain rfl := List.isEmpty_iff.mp hem
  cases f0 with
  | ret _ => exact ftE hnx
  | next =>
    focus
      focus
        have qu := qu.trans (congrArg some (intO_ok iu))
        have qn := qn.trans (congrArg some (intO_ok inn))
        have qt := qt.trans (congrArg some (intO_ok it))
        have hfin : v = (if n = 1 then .int (Int.fmod t 2) else .int 2) ∧ u = 0 := by
          refine ⟨?_, of_decide_eq_true d1⟩
          split at e9
          · rename_i d2; rw [if_pos (of_decide_eq_true d2)]; exact (Option.some.inj e9).symm
          · rename_i d2; rw [if_neg (of_decide_eq_false d2)]; exact (Option.some.inj e9).symm
        obtain ⟨hv', rfl⟩ := hfin
        have hno : fz [] v = some v := by
          rw [hv']
          split <;> rfl
        refine oracle_at D.G.ok hno hw ?_
        have hv := hv.away hvs
        have hw := hw.away
        refine fn_enter D.G.ok (D.fn _ _ ha) (fn := EU) rfl (by decide +kernel) hb hv hw hA fun env s₁ X hf W1 N1 => ?_
        have hframe := X.loc
        have hkof := X.kof
        have hs' := X.sce
        have hno := X.no
        have hA1 : Room none K (A.deeper env) := (hA.le (m := K + 1) (by omega)).deeper
        have hA2 : Room (some (env :: l)) 4 (A.deeper env) := by
          have := (hA.le (m := 5) (by omega)).deeper (env := env)
          refine ⟨this.handled, this.depth, this.units, fun l' q => ?_⟩
          cases q
          show A.frames.map (env :: ·) = _
          rw [hA.frs l rfl]; rfl
        have key : ∀ {st : Stmt}, EU.body = EU.body.take 4 ++ [st] → (∀ {g1 : Gh} {s1 : Shared}, FrR cx env g1 ρ' s1.heap → W cx [] g1 s1.heap s1.toks → wpAny (model prog w) (A.deeper env) (exec st env) (ExP cx env g1 s1 [] ρ' (.ret v)) Z s1) →
            wpAny (model prog w) (A.deeper env) (execs EU.body env) (ExP cx env g.away s₁ [] ρ' (.ret v)) Z s₁ := fun {st} hb hk => by
          rw [hb]
          refine exs_app H q1 hs' hf W1 hA1 fun F1 W1 => ?_
          refine wpAny_execs_cons (wpZ (hk F1 W1) fun f s2 x2 => ?_)
          obtain ⟨_, _, _, _, _, _, k⟩ := x2.elim
          obtain ⟨wv, rfl, _⟩ := k
          exact x2
        refine wpZ (key rfl fun F1 W1 => ?_) fun f s2 x2 => ?_
        · rw [hv']
          refine eu_try D hl (sc := EU.sc) hA2 hs' F1 W1 hframe qu qn qt ?_ (by decide +kernel) (by decide +kernel) (by rw [hkof]; decide +kernel) (by rw [hkof]; decide +kernel)
          cases q : lk "int_divmod" ρ' with
          | none => rfl
          | some u =>
            obtain ⟨m, _, hm⟩ := F1.ns
            have hk : env.kindOf "int_divmod" = some .globalImplicit := by rw [hkof]; decide +kernel
            rcases hm _ _ q with ⟨k, _⟩ | ⟨k | k, _⟩ <;> (rw [hk] at k; cases k)
        · exact x2.val N1 hno
end
end Mine
end
section
set_option maxRecDepth 100000
set_option maxHeartbeats 4000000
set_option linter.unusedVariables false
namespace Mine
open PySem PySem.Calls PyProof.Rows PySem.W PySem.SeqAt

section
variable {prog : Program} {w : World} {cx : Cx}

theorem dot_bnd {X : List Int} (hX : ∀ x ∈ X, x.natAbs ≤ XB) : ∀ k : List Int, (dot k X).natAbs ≤ bndK k := by
  induction X with
  | nil => intro k; cases k <;> simp [dot]
  | cons x xs ih =>
    intro k
    cases k with
    | nil => simp [dot]
    | cons a k =>
      have h1 := ih (fun y hy => hX y (List.mem_cons_of_mem _ hy)) k
      have h2 : (a * x).natAbs ≤ a.natAbs * XB := by
        rw [Int.natAbs_mul]
        exact Nat.mul_le_mul_left _ (hX x List.mem_cons_self)
      exact Nat.le_trans (Int.natAbs_add_le _ _) (Nat.add_le_add h2 h1)
theorem dot_div {m : Int} {X : List Int} (hm : m ≠ 0) : ∀ {k : List Int}, allDvd m k = true → dot k X = m * dot (k.map fun x => Int.fdiv x m) X := by
  induction X with
  | nil => intro k _; cases k <;> simp [dot]
  | cons x xs ih =>
    intro k h
    cases k with
    | nil => simp [dot]
    | cons a k =>
      unfold allDvd at h
      split at h
      · rename_i q
        have q := of_decide_eq_true q
        have e : m * a.fdiv m = a := by
          have := Int.mul_fdiv_add_fmod a m
          rw [q] at this; omega
        show a * x + dot k xs = m * (a.fdiv m * x + dot (k.map fun x => Int.fdiv x m) xs)
        rw [ih h, Int.mul_add, ← Int.mul_assoc, e]
      · cases h

theorem divT_ok (D : DivG cx) (hX : ∀ x ∈ cx.X, x.natAbs ≤ XB) : TOk prog w cx none divT 106 := by
  intro nm vs v e a σ g s ws A ha hv hw hA
  delta divT at e
  split at e
  · rename_i q
    cases strEq_of_seq q
    exact bindE e fun p ql e => bindE e fun b qb e => whE e fun q1 e => whE e fun q2 e => hv.l2 (Q := fun ws => wpAny _ _ (call _ ws []) _ _ _) ql fun w1 w2 v1 v2 => v2.intO (P := fun w => wpAny _ _ (call _ [_, w] []) _ _ _) qb fun u => by
      have hb : b ≠ 0 := of_decide_eq_false (notE q1)
      have hb2 : b.natAbs < 2 ^ 60 := Nat.le_of_ble_eq_true q2
      have run : ∀ {x : Int} {t : Tok}, x.natAbs < 2 ^ 60 → wpAny (model prog w) A (call (.ref a) [.int x t, .int b u] []) (EvP cx g s σ (.tup [.int (x.fdiv b), .int (x.fmod b)])) Z s := fun {x t} hx =>
        (id_ok (prog := prog) (w := w) (σ := []) D ha hx hb hb2).elim fun σ' h => oracle D.G.ok (by rfl) (by rfl) h (.cons (.int x t) (.cons (.int b u) .nil)) hw hA
      cases hp : p.1 with
      | int x =>
        rw [hp] at v1 e
        exact whE e fun q3 e => Option.some.inj e ▸ v1.intE (P := fun w => wpAny _ _ (call _ [w, _] []) _ _ _) fun t => run (Nat.le_of_ble_eq_true q3)
      | lin c k =>
        rw [hp] at v1 e
        exact whE e fun q3 e => whE e fun q4 e => Option.some.inj e ▸ v1.linE (P := fun w => wpAny _ _ (call _ [w, _] []) _ _ _) fun t => by
          have hbd : c.natAbs + bndK k < 2 ^ 60 := Nat.le_of_ble_eq_true q4
          have hd := dot_bnd hX k
          have hdv := dot_div (X := cx.X) hb q3
          exact wpZ (run (Nat.lt_of_le_of_lt (Int.natAbs_add_le _ _) (Nat.lt_of_le_of_lt (Nat.add_le_add_left hd _) hbd))) fun wv s1 x1 => x1.elim.elim fun g1 y => y.2.2.ev ⟨s1.heap, s1.toks, g1, rfl, Nat.le_refl _, y.1, .refl, y.2.1.tupE (P := fun wv => VR cx s1.heap g1 _ wv) fun _ _ p f r =>
            .tup p f (r.l2 (Q := fun ws => VRs cx s1.heap g1 _ ws) rfl fun w3 w4 r1 r2 => .cons (r1.intE (P := fun w => VR cx s1.heap g1 _ w) fun t1 => .mkLin (by rw [hdv, Int.add_mul_fdiv_left _ _ hb])) (.cons (r2.intE (P := fun w => VR cx s1.heap g1 _ w) fun t2 => by
              rw [hdv, Int.add_mul_fmod_self_left]; exact .int _ t2) .nil))⟩
      | _ => rw [hp] at e; exact nsE e
  · cases e
end
end Mine
end
section
set_option maxRecDepth 100000
set_option maxHeartbeats 4000000
set_option linter.unusedVariables false
namespace Mine
open PySem PySem.Calls PyProof.Rows PySem.W PySem.SeqAt

noncomputable def Plainly (h₀ h : Heap) (b : Addr) : Prop := h₀.objs.size ≤ b ∧ ∃ ob, h.get? b = some ob ∧ (∀ xs n, ob.data ≠ .seq xs n) ∧ (∀ es ep, ob.data ≠ .dict es ep) ∧ ob.cls ≠ .type "code" ∧ ob.cls ≠ .none ∧ Imm ob = false

theorem W.extS {cx : Cx} (C : CxOk cx) {σ : Sto} {g : Gh} {h h' : Heap} {tk tk' : Nat} {S : List Addr} (w : W cx σ g h tk) (hle : tk ≤ tk') (hS : ∀ b ∈ S, Plainly cx.h₀ h b) (hs : ∀ b o, b ∉ S → h.get? b = some o → h'.get? b = some o) : W cx σ g h' tk' ∧ Ev cx S g g h h' := by
  have im : ∀ {a : Addr} {o : Obj}, h.get? a = some o → a ∈ S → (∀ xs n, o.data ≠ .seq xs n) ∧ (∀ es ep, o.data ≠ .dict es ep) ∧ o.cls ≠ .type "code" ∧ o.cls ≠ .none ∧ Imm o = false := fun {a o} e m => by
    obtain ⟨_, ob, e', r⟩ := hS a m
    rw [e] at e'; cases e'; exact r
  have E : Ev cx S g g h h' := ⟨⟨[], by simp⟩, rfl, Nat.le_refl _, fun _ _ => rfl, fun a o e _ h2 _ => ⟨o, hs a o h2 e, .refl o⟩, fun a o e hi _ => hs a o (fun m => by rw [(im e m).2.2.2.2] at hi; cases hi) e, fun a o e h2 => ⟨o, hs a o h2 e⟩, fun _ hm hn => absurd hm hn⟩
  have keep : ∀ {a : Addr} {o : Obj}, h.get? a = some o → (a ∈ S → False) → h'.get? a = some o := fun {a o} e n => hs a o n e
  have low : ∀ b, b < cx.h₀.objs.size → b ∉ S := fun b hb m => by have := (hS b m).1; omega
  have K := w.old
  refine ⟨⟨Nat.lt_of_lt_of_le w.tok hle, fun a m => let ⟨o, es, ep, e, d⟩ := w.frs a m; ⟨o, es, ep, keep e (fun m => (im e m).2.1 _ _ d), d⟩, ⟨fun b o e => ?_, fun b o e => ?_⟩, ?_, ?_, fun t m => ?_, w.len, w.nodup, fun a m => ?_, Nat.le_trans w.gn hle, w.base, w.based, w.fresh, fun i vs e => ?_⟩, E⟩
  · have hb : b < cx.h₀.objs.size := Heap.lt_size e
    rcases K.old b o e with x | ⟨t, hc, vs, more, hv, x⟩ | ⟨rfl, hc, ⟨o', es, n, ho', r⟩, z⟩
    · exact .inl (hs b _ (low b hb) x)
    · exact .inr (.inl ⟨t, hc, vs, more, hv, hs b _ (low b hb) x⟩)
    · have k := hs _ _ (low _ hb) ho'
      exact .inr (.inr ⟨rfl, hc, ⟨o', es, n, k, r⟩, fun key => by rw [OldK.staticOf_congr (k.trans ho'.symm) key]; exact z key⟩)
  · obtain ⟨o', e'⟩ := K.there b o e
    exact ⟨o', hs b o' (low b (Heap.lt_size e)) e'⟩
  · obtain ⟨mc, a, b⟩ := w.booked
    exact ⟨mc, a.at' fun o q => hs _ _ (low _ C.stat) q, b⟩
  · obtain ⟨mc, a, b⟩ := w.nolim
    exact ⟨mc, a.at' fun o q => hs _ _ (low _ C.stat) q, b⟩
  · exact (w.tabs t m).move fun e d c => keep e fun m => c.elim (fun c => (im e m).2.2.1 c) fun c => (im e m).2.2.2.1 c.2
  · obtain ⟨us, m, e⟩ := w.hidden a m
    exact ⟨us, m, keep e (fun m => (im e m).1 _ _ rfl)⟩
  · obtain ⟨a, ws, e1, ⟨m, e2⟩, e3⟩ := w.lists i vs e
    exact ⟨a, ws, e1, ⟨m, keep e2 (fun m => (im e2 m).1 _ _ rfl)⟩, e3.mono E⟩

section
variable {prog : Program} {w : World} {A : Around} {s : Shared} {cx : Cx} {K : Nat} {sc : Scope} {σ σ' : Sto} {ρ ρ' : Loc} {v : V} {env : Env} {g : Gh} {D e it al : Addr} {j : Nat} {zs : List Int}

structure EnOk (cx : Cx) (h : Heap) (g : Gh) (env : Env) (e it al : Addr) (zs : List Int) (j : Nat) : Prop where
  en : ∃ old, IsEnum h e it j old
  itr : h.IsListIter it al j
  fe : g.free e
  fi : g.free it
  ne : cx.h₀.objs.size ≤ e
  ni : cx.h₀.objs.size ≤ it
  ee : e ∉ frame env
  ei : it ∉ frame env
  dis : e ≠ it
  lst : VR cx h g (.pl (zs.map .int)) (.ref al)
theorem EnOk.plain {h : Heap} (x : EnOk cx h g env e it al zs j) : ∀ b ∈ [e, it], Plainly cx.h₀ h b := fun b m => by
  rcases List.mem_cons.mp m with rfl | m
  · obtain ⟨old, q⟩ := x.en
    exact ⟨x.ne, _, q, fun xs n q => (by cases q), fun es ep q => (by cases q), (by show Value.type "enumerate" ≠ Value.type "code"; decide), (by intro q; cases q), rfl⟩
  · rw [List.mem_singleton.mp m]
    obtain ⟨o, e1, e2, e3⟩ := x.itr
    refine ⟨x.ni, o, e1, fun xs n q => (by rw [e3] at q; cases q), fun es ep q => (by rw [e3] at q; cases q), fun q => (by rw [e2] at q; exact absurd q (by decide)), fun q => (by rw [e2] at q; cases q), ?_⟩
    unfold Imm; rw [e3, e2]; show (Value.type "list_iterator" == Value.type "range" || Value.type "list_iterator" == Value.type "code") = false; decide
theorem EnOk.move (C : CxOk cx) {h h' : Heap} {g' : Gh} {X : List Addr} (x : EnOk cx h g env e it al zs j) (E : Ev cx X g g' h h') (h1 : e ∉ X) (h2 : it ∉ X) : EnOk cx h' g' env e it al zs j := by
  obtain ⟨old, q⟩ := x.en
  obtain ⟨o, e1, e2, e3⟩ := x.itr
  exact ⟨⟨old, E.keepN q x.fe.1 h1 (C.notTab x.ne) (fun es ep q => by cases q)⟩, ⟨o, E.keepN e1 x.fi.1 h2 (C.notTab x.ni) (fun es ep q => by rw [e3] at q; cases q), e2, e3⟩, E.free q x.fe, E.free e1 x.fi, x.ne, x.ni, x.ee, x.ei, x.dis, x.lst.mono E⟩

noncomputable def EnP (cx : Cx) (env : Env) (D e it : Addr) (g : Gh) (s : Shared) (acc : List V) (f : Flow) (s' : Shared) : Prop :=
  ∃ h' tk g' ρ', s' = { s with heap := h', toks := tk } ∧ s.toks ≤ tk ∧ W cx [] g' h' tk ∧ Ev cx (D :: e :: it :: wr env) g g' s.heap h' ∧ FrR cx env g' ρ' h' ∧ DOk cx env D acc g' h'

theorem enumLoop (G : CxG cx) {elt iter : Expr} {gens : List Comprehension} {scope : Scope} {pos px py pt : Pos} {kx fx : Str} {kt : Nat} {val : Nat → Int} (hg : gens = [⟨.Tuple [.Name kx px, .Name fx py] kt pt, iter, [], 0⟩]) (Inv : Nat → Loc → Prop)
    (hstep : ∀ j ρ z, zs[j]? = some z → Inv j ρ → ∃ ρ1, asgV sc ρ (.Tuple [.Name kx px, .Name fx py] kt pt) (.tup [.int (j : Int), .int z]) = some ρ1 ∧ EvS prog w cx PT K sc [] ρ1 elt (.int (val j)) [] ∧ Inv (j + 1) ρ1) :
    ∀ (m j : Nat) (acc : List V) (ρ : Loc) {g : Gh} {s : Shared} {fr : Option (List Env)}, j + m = zs.length → acc.length + m < 1000 → Inv j ρ → ScE env sc → FrR cx env g ρ s.heap → W cx [] g s.heap s.toks → Room fr K A → EnOk cx s.heap g env e it al zs j → DOk cx env D acc g s.heap → e ≠ D → it ≠ D →
      codeAny (model prog w) A (.compLoop (.ListComp elt gens scope pos) 0 (.ref e) (.ref D) env) (ResP (EnP cx env D e it g s (acc ++ (List.range' j m).map fun i => .int (val i)))) s := by
  have h1 : gens[0]? = some ⟨.Tuple [.Name kx px, .Name fx py] kt pt, iter, [], 0⟩ := by rw [hg]; rfl
  have h2 : gens[0 + 1]? = none := by rw [hg]; rfl
  intro m
  induction m with
  | zero =>
    intro j acc ρ g s fr hj hacc hI hs hf hw hA hi d hD1 hD2
    refine codeAny_of_tree ?_
    show wpAny _ A ((compTurn (.ListComp elt gens scope pos) 0 (.ref e) (.ref D) env).onRaise (fun x => do noteFrame x env; theTreesLotGoes x)) _ _ s
    refine wpAny_noted ?_
    rw [compTurn_last _ _ _ h1 h2]
    obtain ⟨old, he⟩ := hi.en
    have hl := hi.lst
    refine hl.plR fun ws p f rv => ?_
    ·
      refine wpAny_bind (wpAny_standAt (wpAny_bind (wpAny_pyNext_enum_end hA.handled he hi.itr p.isList ?_ fun h' hx => ?_)))
      · rw [List.getElem?_toArray, List.getElem?_eq_none_iff, ← rv.length, List.length_map]; omega
      obtain ⟨W1, E1⟩ := hw.extS (S := [it]) G.ok (Nat.le_refl _) (fun b m => hi.plain b (by simp [List.mem_singleton.mp m])) (fun b o n q => hx b o (fun q => n (by simp [q])) q)
      refine wpAny_pure ?_
      have hX : ∀ a ∈ frame env, a ∉ [it] := fun a ha q => hi.ei (by rw [List.mem_singleton.mp q] at ha; exact ha)
      rw [List.range'_zero, List.map_nil, List.append_nil]
      exact ⟨h', s.toks, g, ρ, rfl, Nat.le_refl _, W1, E1.weaken (by simp), hf.move G.ok E1 hX, d.move G.ok E1 (by simp; exact fun q => hD2 q.symm)⟩
  | succ m ih =>
    intro j acc ρ g s fr hj hacc hI hs hf hw hA hi d hD1 hD2
    refine codeAny_of_tree ?_
    show wpAny _ A ((compTurn (.ListComp elt gens scope pos) 0 (.ref e) (.ref D) env).onRaise (fun x => do noteFrame x env; theTreesLotGoes x)) _ _ s
    refine wpAny_noted ?_
    rw [compTurn_last _ _ _ h1 h2]
    obtain ⟨old, he⟩ := hi.en
    obtain ⟨z, hz⟩ : ∃ z, zs[j]? = some z := ⟨_, List.getElem?_eq_getElem (by omega)⟩
    obtain ⟨ρ1, q2, hel, hI1⟩ := hstep j ρ z hz hI
    have hl := hi.lst
    refine hl.plR fun ws p f rv => ?_
    ·
      obtain ⟨wz, hwz, Vz⟩ := rv.get (i := j) (v := .int z) (by rw [List.getElem?_map, hz]; rfl)
      obtain ⟨tz, rfl⟩ := Vz.inv
      ·
        refine wpAny_bind (wpAny_standAt (wpAny_bind (wpAny_pyNext_enum_item he hi.itr p.isList (by rw [List.getElem?_toArray]; exact hwz) hi.dis fun h1' ho hit' htup hsz hk => ?_)))
        obtain ⟨W1, E1⟩ := hw.extS (tk' := s.toks + 1) (S := [e, it]) G.ok (Nat.le_succ _) hi.plain (fun b o n q => hk b o (fun q => n (by simp [q])) (fun q => n (by simp [q])) q)
        have hXf : ∀ a ∈ frame env, a ∉ [e, it] := fun a ha q => by
          rcases List.mem_cons.mp q with q | q
          · exact hi.ee (q ▸ ha)
          · exact hi.ei (List.mem_singleton.mp q ▸ ha)
        have F1 := hf.move G.ok E1 hXf
        have D1 := d.move G.ok E1 (by simp; exact ⟨fun q => hD1 q.symm, fun q => hD2 q.symm⟩)
        have hnf : g.free s.heap.objs.size := hw.new (get_size _)
        have V1 : VR cx h1' g (.tup [.int (j : Int), .int z]) (.ref s.heap.objs.size) := .tup ⟨0, htup⟩ hnf (.cons (.int _ _) (.cons (.int _ _) .nil))
        have L1 := hi.lst.mono E1
        refine wpAny_bind (wpAny_letOwnedTupleGo_enum (s := { s with heap := h1', toks := s.toks + 1 }) ho fun h2' he2 hs2 => ?_)
        have hpl : ∀ b ∈ [e], Plainly cx.h₀ h1' b := fun b m => by
          rw [List.mem_singleton.mp m]
          exact ⟨hi.ne, _, ho, fun xs n q => (by cases q), fun es ep q => (by cases q), (by show Value.type "enumerate" ≠ Value.type "code"; decide), (by intro q; cases q), rfl⟩
        obtain ⟨W2, E2⟩ := W1.extS (S := [e]) G.ok (Nat.le_refl _) hpl (fun b o n q => hs2.extBut b o (fun q => n (by simp [q])) q)
        have hXe : ∀ a ∈ frame env, a ∉ [e] := fun a ha q => hi.ee (List.mem_singleton.mp q ▸ ha)
        have F2 := F1.move G.ok E2 hXe
        have D2 := D1.move G.ok E2 (by simp; exact fun q => hD1 q.symm)
        have V2 := V1.mono E2
        have I2 : EnOk cx h2' g env e it al zs (j + 1) := ⟨⟨_, he2⟩, hit'.at fun o q => hs2.extBut _ o (fun q => hi.dis q.symm) q, hi.fe, hi.fi, hi.ne, hi.ni, hi.ee, hi.ei, hi.dis, L1.mono E2⟩
        refine wpAny_bind (wpZ (asg_ok (s := { s with heap := h2', toks := s.toks + 1 }) G.ok hs q2 F2 W2 V2 hA.handled) fun _ s3 x3 => ?_)
        obtain ⟨g3, W3, F3, l3, E3, ⟨h3', t3, rfl⟩⟩ := x3.elim
        have I3 := I2.move G.ok E3 (fun q => hi.ee (wr_sub _ q)) (fun q => hi.ei (wr_sub _ q))
        have D3 := D2.move G.ok E3 d.frw
        refine wpAny_bind (wpAny_bind (wpZ (hel trivial hs F3 W3 hA) fun wx s4 x4 => ?_))
        refine x4.k fun g4 W4 V4 N4 => ?_
        have I4 := I3.move G.ok N4.evo (by simp) (by simp)
        have D4 := D3.move G.ok N4.evo (by simp)
        have F4 := F3.mono G.ok N4.evo
        refine wpAny_bind (wpZ (fill_ok G.ok W4 D4 V4 (Nat.ble_eq_true_of_le (by omega))) fun _ s5 x5 => ?_)
        obtain ⟨same5, l5, W5, E5, D5⟩ := x5
        have I5 := I4.move G.ok E5 (by simp; exact hD1) (by simp; exact hD2)
        have F5 := F4.move G.ok E5 (fun a ha q => d.fr (by rw [List.mem_singleton.mp q] at ha; exact ha))
        refine wpAny_pure (wpAny_pure ⟨rfl, codeAny_mono (ih (j + 1) (acc ++ [.int (val j)]) ρ1 (by omega) (by rw [List.length_append]; simp; omega) hI1 hs F5 W5 hA I5 D5 hD1 hD2) fun rr s6 h6 => ?_⟩)
        cases rr with
        | error x => exact h6.elim
        | ok f =>
          obtain ⟨h', tk, g', ρ', rfl, l6, W6, E6, F6, D6⟩ := h6
          obtain ⟨⟨h4', t4, rfl⟩, l4, E4⟩ := N4
          obtain ⟨h5', t5, rfl⟩ := same5
          have hX6 : ∀ a ∈ D :: e :: it :: wr env, a ∉ g'.am := fun a ha => by
            rcases List.mem_cons.mp ha with rfl | ha
            · exact D6.am
            · rcases List.mem_cons.mp ha with rfl | ha
              · obtain ⟨old, q⟩ := I5.en
                exact E6.notin q I5.fe.1
              · rcases List.mem_cons.mp ha with rfl | ha
                · obtain ⟨o, q, _⟩ := I5.itr
                  exact E6.notin q I5.fi.1
                · exact (F6.free_wr a ha).1
          have A1 : Ev cx (D :: e :: it :: wr env) g g s.heap h1' := E1.weaken (fun a ha => by
            rcases List.mem_cons.mp ha with rfl | ha
            · simp
            · simp [List.mem_singleton.mp ha])
          have A2 : Ev cx (D :: e :: it :: wr env) g g h1' h2' := E2.weaken (fun a ha => by simp [List.mem_singleton.mp ha])
          have A3 : Ev cx (D :: e :: it :: wr env) g g3 h2' h3' := E3.weaken (fun a ha => by simp [ha])
          have A4 : Ev cx (D :: e :: it :: wr env) g3 g4 h3' h4' := E4.weaken (by simp)
          have A5 : Ev cx (D :: e :: it :: wr env) g4 g4 h4' h5' := E5.weaken (fun a ha => by simp [List.mem_singleton.mp ha])
          have hacc' : acc ++ [V.int (val j)] ++ (List.range' (j + 1) m).map (fun i => V.int (val i)) = acc ++ (List.range' j (m + 1)).map (fun i => V.int (val i)) := by
            rw [List.range'_succ, List.map_cons, List.append_assoc]; rfl
          rw [hacc'] at D6
          exact ⟨h', tk, g', ρ', rfl, Nat.le_trans (Nat.le_succ _) (Nat.le_trans l3 (Nat.le_trans l4 (Nat.le_trans l5 l6))), W6, A1.trans (A2.trans (A3.trans (A4.trans (A5.trans E6 hX6) hX6) hX6) hX6) hX6, F6, D6⟩
end
end Mine
end
section
set_option maxRecDepth 100000
set_option maxHeartbeats 4000000
set_option linter.unusedVariables false
namespace Mine
open PySem PySem.Calls PyProof.Rows PySem.W PySem.SeqAt

section
variable {prog : Program} {w : World} {A : Around} {s : Shared} {cx : Cx} {K : Nat} {sc : Scope} {σ σ' : Sto} {ρ ρ' ρc : Loc} {v : V} {env : Env} {g : Gh} {D e it al : Addr} {j : Nat} {zs : List Int}

theorem startE_ok {elt : Expr} {gens : List Comprehension} {scope : Scope} {pos : Pos} {depth : Nat} {acc : Value} {Rr : Result → Shared → Prop} {g0 : Comprehension} (h : gens[depth]? = some g0) (ha : g0.is_async = 0)
    (x : EnOk cx s.heap g env e it al zs j) (h0 : codeAny (model prog w) A (.compLoop (.ListComp elt gens scope pos) depth (.ref e) acc env) Rr s) :
    codeAny (model prog w) A (.compStart (.ListComp elt gens scope pos) depth (.ref e) acc env) Rr s := by
  refine codeAny_of_tree ?_
  show wpAny _ _ ((compStart (.ListComp elt gens scope pos) depth (.ref e) acc env).onRaise (fun x => do noteFrame x env; standAt theWindowsPlace)) _ _ s
  refine wpAny_notedAt ?_
  have this : (g0.is_async != 0) = false := by rw [ha]; rfl
  have key : compStart (.ListComp elt gens scope pos) depth (.ref e) acc env = (do
      if (← ask).params.followText "comprehension-iter-twice" then return ← again (.compLoop (.ListComp elt gens scope pos) depth (.ref e) acc env)
      rule "comprehension.iter-twice"
      standAt g0.iter.pos
      again (.compLoop (.ListComp elt gens scope pos) depth (← pyIter (.ref e)) acc env)) := by
    unfold compStart
    simp only [clausesOf, h, Option.elim, this]
    rfl
  rw [key]
  obtain ⟨old, he⟩ := x.en
  refine wpAny_bind (wpAny_askSetting (wpAny_ite ?_))
  split
  · exact wpAny_bind (wpAny_pure (wpAny_pure (And.intro rfl h0)))
  · exact wpAny_bind (wpAny_rule (wpAny_bind (wpAny_standAt (wpAny_bind (wpAny_pyIter_enum he (wpAny_pure (And.intro rfl h0)))))))

theorem enumUse (G : CxG cx) {elt lst : Expr} {gens : List Comprehension} {scope : Scope} {pos px py pt p1 p2 pyy : Pos} {kx fx y : Str} {kt : Nat} {val : Nat → Int} (hg : gens = [⟨.Tuple [.Name kx px, .Name fx py] kt pt, .Call (.Name "enumerate" p1) [lst] [] p2, [], 0⟩]) (Inv : Nat → Loc → Prop)
    (hstep : ∀ j ρ z, zs[j]? = some z → Inv j ρ → ∃ ρ1, asgV scope ρ (.Tuple [.Name kx px, .Name fx py] kt pt) (.tup [.int (j : Int), .int z]) = some ρ1 ∧ EvS prog w cx PT K scope [] ρ1 elt (.int (val j)) [] ∧ Inv (j + 1) ρ1)
    (hsc : scOk scope = true) (hnl : noLam scope = true) (hfree : freeOf sc.names ρ scope.names = some ρc) (hI : Inv 0 ρc) (hlen : zs.length < 900)
    (hk : lk "enumerate" sc.names = some .globalImplicit) (hlst : EvS prog w cx PT K sc [] ρ lst (.pl (zs.map .int)) []) (hst : ∀ env es, starEach (lst :: es) env = (false, eval lst env) :: starEach es env)
    (ea : asgV sc ρ (.Name y pyy) (.pl ((List.range' 0 zs.length).map fun i => .int (val i))) = some ρ')
    {fr : Option (List Env)} (hs : ScE env sc) (hf : FrR cx env g ρ s.heap) (hw : W cx [] g s.heap s.toks) (hA : Room fr K A) :
    wpAny (model prog w) A (evalThenUse (.ListComp elt gens scope pos) env (assign (.Name y pyy) env)) (fun _ s' => StP cx env g s [] ρ' s') Z s := by
  obtain ⟨k1, k2, k3, k4⟩ := scOk_some hsc
  subst hg
  show wpAny _ A (do let _ ← comprehension (.ListComp elt [⟨.Tuple [.Name kx px, .Name fx py] kt pt, .Call (.Name "enumerate" p1) [lst] [] p2, [], 0⟩] scope pos) scope env _ (newList []) (firstAsync _) (firstIter [⟨.Tuple [.Name kx px, .Name fx py] kt pt, .Call (.Name "enumerate" p1) [lst] [] p2, [], 0⟩] env) (some (assign (.Name y pyy) env))) _ _ s
  refine wpAny_bind (wpZ (wpAny_comprehension_free (Q := fun _ s' => StP cx env g s [] ρ' s') (g := ⟨.Tuple [.Name kx px, .Name fx py] kt pt, .Call (.Name "enumerate" p1) [lst] [] p2, [], 0⟩) (gs := []) rfl (fun _ => rfl) (closure_ok (cells_of hfree hs hf)) k1 k3 ?_) fun _ s' h => wpAny_pure h)
  refine rawCall (wf := .type "enumerate") (P := PT) G PT.pres.e (by simp [rawTab]) hk (by decide) (.cons hlst hst (.nil _)) (by simp) trivial hs hf hw hA fun g1 ws1 s1 W1 V1 N1 => ?_
  cases V1 with
  | cons v1 r1 => cases r1 with
    | nil =>
      have hpl := v1
      obtain ⟨wz, al, pz, fz, rz, rfl⟩ := v1.inv
      ·
        refine call_enumerate_list pz.isList fun hE he hit hsz hkE => ?_
        have F1 := hf.mono G.ok N1.evo
        have W2 : W cx [] g1 hE s1.toks := W1.keeps hkE (Nat.le_refl _)
        have E2 : Ev cx [] g1 g1 s1.heap hE := .keeps hkE
        have F2 := F1.mono G.ok E2
        have h0 := W1.fresh₀ G.ok
        have hen : s1.heap.get? (s1.heap.objs.size + 1) = none := Heap.get?_none_of_le (Nat.le_succ _)
        have hin : s1.heap.get? s1.heap.objs.size = none := get_size _
        obtain ⟨e, hed⟩ : ∃ e, e = s1.heap.objs.size + 1 := ⟨_, rfl⟩
        rw [← hed] at he hen ⊢
        obtain ⟨it, hitd⟩ : ∃ it, it = s1.heap.objs.size := ⟨_, rfl⟩
        rw [← hitd] at he hin hit
        have hdis : e ≠ it := by omega
        have hne : cx.h₀.objs.size ≤ e := by omega
        have hni : cx.h₀.objs.size ≤ it := by omega
        have hfe := W1.new hen
        have hfi := W1.new hin
        have frn : ∀ {a : Addr}, s1.heap.get? a = none → a ∉ frame env := fun {a} q m => by
          rcases mem_frame m with q1 | ⟨x, hx⟩
          · obtain ⟨m, ⟨o, es, ep, ho, _⟩, _⟩ := F1.ns
            rw [← q1, q] at ho; cases ho
          · obtain ⟨⟨u, oc, ho, _⟩, _⟩ := F1.cells _ _ hx
            rw [q] at ho; cases ho
        refine wpAny_pyIter_enum (s := { s1 with heap := hE }) he ?_
        refine wpAny_newObj_type (wpAny_newFunctionEnv k2 (by intro y hy; simp at hy) (fun h₁ hns₁ hsb₁ => ?_) k1)
        dsimp only at hns₁ hsb₁ ⊢
        generalize hH2 : hE.push { cls := .type "list", dict := none, data := .seq ([] : List Value).toArray } = H2 at hns₁ hsb₁ ⊢
        have hC : H2.objs.size = hE.objs.size + 1 := by rw [← hH2, Heap.size_push]
        have hDC : hE.objs.size ≠ H2.objs.size := by rw [hC]; exact Nat.ne_of_lt (Nat.lt_succ_self _)
        have hCle : hE.objs.size ≤ H2.objs.size := by rw [hC]; exact Nat.le_succ _
        have below : ∀ b, b < hE.objs.size → b ≠ H2.objs.size ∧ b ≠ hE.objs.size := fun b hb => ⟨by rw [hC]; exact Nat.ne_of_lt (Nat.lt_succ_of_lt hb), Nat.ne_of_lt hb⟩
        have old : ∀ b o, hE.get? b = some o → h₁.get? b = some o := fun b o e => hsb₁.extBut b o (below b (Heap.lt_size e)).1 (Heap.get?_push_of_some _ (hH2 ▸ Heap.get?_push_of_some _ e))
        have hacc : h₁.PlainList hE.objs.size #[] := ⟨_, hsb₁.extBut _ _ hDC (Heap.get?_push_of_some _ (hH2 ▸ Heap.get?_push_size _ rfl))⟩
        have hCnone : hE.get? H2.objs.size = none := Heap.get?_none_of_le hCle
        have hDnone : hE.get? hE.objs.size = none := get_size _
        have hfreeC := W2.new hCnone
        have hfreeD := W2.new hDnone
        have h0' := W2.fresh₀ G.ok
        generalize hDD : hE.objs.size = D at hacc hDC hDnone hfreeD h0' hCle below ⊢
        generalize hCC : H2.objs.size = C at hns₁ hsb₁ hDC hCnone hfreeC hCle below ⊢
        have M : Mo g1 (g1.hide D) hE h₁ := hide_mo old hDnone
        have W3 : W cx [] (g1.hide D) h₁ (s1.toks + ([] : List (Str × Value)).length) := W2.hide old (Nat.le_add_right _ _) hDnone ⟨[], hacc⟩
        have F3 : FrR cx (compEnvC scope (clOf env scope.names []) C env) (g1.hide D) ρc h₁ := compFr hf.kind hsc hnl hfree hs F2 M old hns₁ ⟨hfreeC.1, fun m => by
          rcases List.mem_cons.mp m with q | q
          · exact hDC q.symm
          · exact hfreeC.2 q⟩ (Nat.le_trans h0' hCle)
        have hframe : ∀ a ∈ frame (compEnvC scope (clOf env scope.names []) C env), a = C ∨ a ∈ frame env := fun a m => by
          rcases mem_frame m with rfl | ⟨x, hx⟩
          · exact .inl rfl
          · have hx : (clOf env scope.names []).lookup x = some a := hx
            rw [clOf_lookup] at hx
            split at hx
            · rename_i hm
              have hcx := cells_of hfree hs F2 x hm
              obtain ⟨c, hc⟩ := Option.isSome_iff_exists.mp hcx
              rw [hc] at hx; cases hx
              exact .inr (mem_cells hc)
            · cases hx
        have he' : hE.get? e = some _ := he
        have heD : e ≠ D := fun q => by rw [q, hDnone] at he'; cases he'
        have hitD : it ≠ D := fun q => by
          obtain ⟨o, q1, _⟩ := hit
          rw [q, hDnone] at q1; cases q1
        have heC : e ≠ C := fun q => by rw [q, hCnone] at he'; cases he'
        have hitC : it ≠ C := fun q => by
          obtain ⟨o, q1, _⟩ := hit
          rw [q, hCnone] at q1; cases q1
        have hfh : ∀ {a : Addr}, g1.free a → a ≠ D → (g1.hide D).free a := fun {a} h n => ⟨h.1, fun m => by
          rcases List.mem_cons.mp m with q | q
          · exact n q
          · exact h.2 q⟩
        have I3 : EnOk cx h₁ (g1.hide D) (compEnvC scope (clOf env scope.names []) C env) e it al zs 0 := by
          refine ⟨⟨_, old _ _ he⟩, hit.at fun o q => old _ _ q, hfh hfe heD, hfh hfi hitD, hne, hni, fun m => ?_, fun m => ?_, hdis, (hpl.mono E2).monoM M⟩
          · rcases hframe e m with q | q
            · exact heC q
            · exact frn hen q
          · rcases hframe it m with q | q
            · exact hitC q
            · exact frn hin q
        have hDf : D ∉ frame (compEnvC scope (clOf env scope.names []) C env) := fun m => by
          rcases hframe D m with q | q
          · exact hDC q
          · rcases mem_frame q with q1 | ⟨x, hx⟩
            · obtain ⟨m, ⟨o, es, ep, ho, _⟩, _⟩ := F2.ns
              rw [← q1, hDnone] at ho; cases ho
            · obtain ⟨⟨u, oc, ho, _⟩, _⟩ := F2.cells _ _ hx
              rw [hDnone] at ho; cases ho
        have d3 : DOk cx (compEnvC scope (clOf env scope.names []) C env) D [] (g1.hide D) h₁ := ⟨List.mem_cons_self, hfreeD.1, h0', hDf, [], hacc, .nil⟩
        refine startE_ok (env := compEnvC scope (clOf env scope.names []) C env) (s := { s1 with heap := h₁, toks := s1.toks + ([] : List (Str × Value)).length }) (depth := 0) rfl rfl I3 ?_
        refine codeAny_mono (enumLoop (s := { s1 with heap := h₁, toks := s1.toks + ([] : List (Str × Value)).length }) G rfl Inv hstep zs.length 0 [] ρc (by omega) (by simp; omega) hI ⟨relabel_scR hf.kind, fun _ x q => by rw [lk_lookup] at q; exact k2 _ (mem_of_lookup q) rfl⟩ F3 W3 hA I3 d3 heD hitD) fun rr s4 h4 => ?_
        cases rr with
        | error x => exact h4.elim
        | ok f =>
          obtain ⟨h4', t4, g4, ρ4, rfl, l4, W4, E4, F4, D4⟩ := h4
          rw [List.nil_append] at D4
          obtain ⟨ws4, p4, r4⟩ := D4.lst
          have E4 : Ev cx (D :: e :: it :: [C]) (g1.hide D) g4 h₁ h4' := E4
          have hhid : g4.hid = D :: g1.hid := E4.hid
          have hsub : ∀ a ∈ g1.hid, a ∈ g4.hid := fun a m => by rw [hhid]; exact List.mem_cons_of_mem _ m
          have hone : ∀ a o, s1.heap.get? a = some o → a ∉ D :: e :: it :: [C] := fun a o q m => by
            have q2 := hkE a o q
            rcases List.mem_cons.mp m with rfl | m
            · rw [hDnone] at q2; cases q2
            · rcases List.mem_cons.mp m with rfl | m
              · rw [hen] at q; cases q
              · rcases List.mem_cons.mp m with rfl | m
                · rw [hin] at q; cases q
                · rw [List.mem_singleton.mp m, hCnone] at q2; cases q2
          have okl : ∀ a o, s1.heap.get? a = some o → h₁.get? a = some o := fun a o q => old a o (hkE a o q)
          have E5 : Ev cx [] g1 (g4.show g1.hid) s1.heap h4' := by
            refine ⟨E4.pre, rfl, E4.tok, E4.told, fun a o q h1 h2 h3 => E4.keep a o (okl a o q) h1 (hone a o q) h3, fun a o q h1 h2 => E4.imm a o (okl a o q) h1 (hfh h2 fun n => hone a o q (by simp [n])), fun a o q h2 => E4.there a o (okl a o q) (hone a o q), fun a m hn => ?_⟩
            have := E4.new a m hn
            cases q : s1.heap.get? a with
            | none => rfl
            | some o => rw [okl a o q] at this; cases this
          have W5 : W cx [] (g4.show g1.hid) h4' t4 := W4.show hsub
          have F5 := F1.mono G.ok E5
          have hDam : D ∉ g4.am := D4.am
          have vr : VR cx h4' (g4.show g1.hid) (.pl ((List.range' 0 zs.length).map fun i => .int (val i))) (.ref D) := .pl p4 ⟨hDam, hfreeD.2⟩ (r4.monoM (show_mo hsub))
          have hCn1 : s1.heap.get? C = none := by
            cases q : s1.heap.get? C with
            | none => rfl
            | some o => have := hkE C o q; rw [hCnone] at this; cases this
          have hCf : C ∉ frame env := frn hCn1
          have hC0 : cx.h₀.objs.size ≤ C := Nat.le_trans h0' hCle
          have hCt := G.ok.notTab hC0
          obtain ⟨mC, hnC, _⟩ := F4.ns
          have hCfree : (g4.show g1.hid).free C := ⟨F4.la.1, fun m => F4.la.2 (hsub _ m)⟩
          have hCfrs : C ∉ cx.frs := fun m => by
            obtain ⟨o, es, ep, q1, q2⟩ := W1.frs C m
            rw [hCn1] at q1; cases q1
          show wpAny _ A (assign (.Name y pyy) env (.ref D)) _ _ _
          obtain ⟨hc, rfl⟩ := asg1_some (show asg1 sc ρ y _ = some ρ' from ea)
          refine wpAny_assign_Name (wpZ (store_ok (s := { s1 with heap := h4', toks := t4 }) G.ok hs hc F5 W5 vr) fun _ s6 x6 => ?_)
          obtain ⟨h6, t6, rfl, l6, W6, E6, F6⟩ := x6
          obtain ⟨o, es, ep, ho, hd, hk'⟩ := id hnC
          obtain ⟨o6, ho6, sl6⟩ := E6.keep _ _ ho hCfree.1 (fun q => hCf (wr_sub _ q)) hCt
          have hd6 := sl6.data.trans hd
          refine ⟨mC, ⟨o6, es, ep, ho6, hd6, hk'⟩, fun h' hs' => ?_⟩
          obtain ⟨W7, E7⟩ := W6.chg G.ok (Nat.le_refl _) ho6 (.inl ⟨es, ep, hd6⟩) hC0 hs' (fun m => absurd m hCfrs)
          have F7 := F6.move G.ok E7 (fun a ha q => hCf (by rw [List.mem_singleton.mp q] at ha; exact ha))
          have hX : ∀ a ∈ C :: wr env, a ∉ (g4.show g1.hid).am := fun a m => by
            rcases List.mem_cons.mp m with rfl | m
            · exact hCfree.1
            · exact (F7.free_wr a m).1
          have E : Ev cx (C :: wr env) g1 (g4.show g1.hid) s1.heap h' := (E5.weaken (by simp)).trans ((E6.weaken (fun a ha => List.mem_cons_of_mem _ ha)).trans (E7.weaken (fun a ha => by rw [List.mem_singleton.mp ha]; exact List.mem_cons_self)) hX) hX
          have E' : Ev cx (wr env) g1 (g4.show g1.hid) s1.heap h' := E.drop fun a m => by
            rcases List.mem_cons.mp m with rfl | m
            · exact .inr hCn1
            · exact .inl m
          exact StP.after N1.same N1.tok (frame_weaken N1.evo) ⟨h', t6, g4.show g1.hid, rfl, Nat.le_trans (Nat.le_trans (Nat.le_add_right _ _) l4) l6, W7, E', F7⟩
end
end Mine
end
section
set_option maxRecDepth 100000
set_option maxHeartbeats 4000000
set_option linter.unusedVariables false
namespace Mine
open PySem PySem.Calls PyProof.Rows PySem.W PySem.SeqAt

section
variable {prog : Program} {w : World} {cx : Cx} {P : Env → Gh → Heap → Prop} {K : Nat} {sc : Scope} {σ σ' σ'' : Sto} {ρ ρ' ρ'' ρc : Loc} {v : V} {fl : Fl} {env : Env} {g : Gh}

theorem intsAre_of {h : Heap} : ∀ {ns : List Int} {ws : List Value}, VRs cx h g (ns.map .int) ws → IntsAre ws ns
  | [], _, x => by cases x; exact .nil
  | n :: ns, _, x => by
    cases x with
    | cons a r =>
      apply a.intE; intro t
      · exact .cons n t (intsAre_of r)
theorem of_intsAre {h : Heap} : ∀ {ws : List Value} {ns : List Int}, IntsAre ws ns → VRs cx h g (ns.map .int) ws
  | _, _, .nil => .nil
  | _, _, .cons n t r => .cons (.int n t) (of_intsAre r)

theorem EvS.sum (G : CxG cx) (hP : PresE cx P) {e : Expr} {ns : List Int} {p p1 : Pos} (he : EvS prog w cx P K sc σ ρ e (.pl (ns.map .int)) σ') (hk : lk "sum" sc.names = some .globalImplicit) (hst : ∀ env es, starEach (e :: es) env = (false, eval e env) :: starEach es env) :
    EvS prog w cx P K sc σ ρ (.Call (.Name "sum" p1) [e] [] p) (.int ns.sum) σ' := fun fr env g s A hp hs hf hw hA => by
  refine rawCall (wf := .builtin "sum") G hP (by simp [rawTab]) hk (by decide) (.cons he hst (.nil _)) (by simp) hp hs hf hw hA fun g2 ws s2 W2 V2 N2 => ?_
  cases V2 with
  | cons v1 r => cases r with
    | nil =>
      apply v1.plE; intro wz l pz fz rz
      ·
        have hi := intsAre_of rz
        have hall := hi.allInts
        have hnum := hi.numsOf
        obtain ⟨xs, hxs⟩ := hall.items
        have hl : s2.heap.IsList l (intItems xs) := by rw [← hxs]; exact pz.isList
        have hsum : preSum (numAt xs) xs.size = ns.sum := by
          have h1 : numsOf (intItems xs).toList = ns := by rw [← hxs]; exact hnum
          rw [nums_intItems] at h1
          rw [preSum_eq, List.take_of_length_le (by simp), h1]
        refine wpAny_with_toks (Nat.le_refl s2.toks) (sum_intListG hA.handled hl fun h' tk t' hk htk => ?_)
        rw [hsum]
        exact N2.ev ⟨h', tk, g2, rfl, htk, W2.keeps hk htk, .keeps hk, .int _ _⟩

theorem EvS.pick (G : CxG cx) (hP : PresE cx P) {o lo st : Expr} {ns : List Int} {k c : Int} {p p2 : Pos} (ho : EvS prog w cx P K sc σ ρ o (.pl (ns.map .int)) σ) (hl : EvS prog w cx P K sc σ ρ lo (.int k) σ) (hs0 : EvS prog w cx P K sc σ ρ st (.int c) σ) (hc : c ≠ 0) (hlen : ns.length ≤ 1000) :
    EvS prog w cx P K sc σ ρ (.Subscript o (.Slice (some lo) none (some st) p2) p) (.pl ((pickNums ns (some k) none (some c)).map .int)) σ := fun fr env g s A hp hs hf hw hA => by
  refine wpSub (wpZ (ho hp hs hf hw hA) fun wo s1 x1 => ?_)
  refine x1.k fun g1 W1 V1 N1 => ?_
  refine wpAny_Slice ?_
  simp only [evalPart_some, evalPart_none]
  refine wpZ (hl (hP.at_ hp N1.evo) hs (hf.mono G.ok N1.evo) W1 hA) fun wl s2 x2 => ?_
  refine x2.k fun g2 W2 V2 N2 => ?_
  refine wpAny_pure (wpZ (hs0 (hP.at_ (hP.at_ hp N1.evo) N2.evo) hs ((hf.mono G.ok N1.evo).mono G.ok N2.evo) W2 hA) fun wc s3 x3 => ?_)
  refine x3.k fun g3 W3 V3 N3 => ?_
  have V1 := (V1.mono N2.evo).mono N3.evo
  have V2 := V2.mono N3.evo
  apply V2.intE; intro tl
  · apply V3.intE; intro tc
    · apply V1.plE; intro ws l pz fz rz
      ·
        have hlw := rz.length
        rw [List.length_map] at hlw
        have E1 : Ev cx [] g3 g3 s3.heap (s3.heap.push { cls := .type "slice", data := .fields #[.int k tl, .none, .int c tc] }) := .push _
        have W4 := W3.keeps (fun _ _ e => Heap.get?_push_of_some { cls := .type "slice", data := .fields #[.int k tl, .none, .int c tc] } e) (Nat.le_refl _)
        refine ⟨"list", _, slot_list_getitem.lookup, (pz.isList.push _).typeIs, ?_⟩
        refine wpAny_getItem_list_slice (pz.isList.push _) (Heap.IsSliceOf.new ..) (.int k tl) .none (.int c tc) (by simpa using hc) ?_ (by rw [List.size_toArray, ← hlw]; exact fits (by omega))
        have hpk := (intsAre_of rz).pick (some k) none (some c)
        have r4 : VRs cx (s3.heap.push { cls := .type "slice", data := .fields #[.int k tl, .none, .int c tc] }) g3 ((pickNums ns (some k) none (some c)).map .int) (slicePick ws.toArray (some k) none (some c)).toList := of_intsAre hpk
        have y := EvP.push (s := { s3 with heap := s3.heap.push { cls := .type "slice", data := .fields #[.int k tl, .none, .int c tc] } }) (σ := σ) W4 (Nat.le_refl _) (.newPl (s := { s3 with heap := s3.heap.push { cls := .type "slice", data := .fields #[.int k tl, .none, .int c tc] } }) W4 r4)
        rw [Array.toArray_toList] at y
        exact N1.ev (N2.ev (N3.ev (EvP.after (Nat.le_refl _) E1 y)))

/-! a comprehension over a list, its element by a rule -/
open Classical in
noncomputable def twoEv (E1 E2 : Expr) (F : Loc → Option V) (sc2 : Scope) (ρ2 : Loc) (v2 : V) : Scope → Sto → Loc → Expr → Option (V × Sto) := fun sc σ ρ e =>
  if e = E2 ∧ sc = sc2 ∧ ρ = ρ2 ∧ σ = [] then some (v2, []) else if e = E1 then (match F ρ with
    | some v => some (v, σ)
    | Option.none => Option.none) else Option.none
noncomputable def recT (f : Scope → Sto → Loc → Expr → Option (V × Sto)) : Nat → R
  | 0 => { R.bot with ev := f }
  | n + 1 => { R.bot with ev := f, cl := clF (recT f n) }
end
end Mine
end
section
set_option maxRecDepth 100000
set_option maxHeartbeats 4000000
set_option linter.unusedVariables false
namespace Mine
open PySem PySem.Calls PyProof.Rows PySem.W PySem.SeqAt

section
variable {prog : Program} {w : World} {cx : Cx} {K : Nat} {sc sc2 : Scope} {σ σ' : Sto} {ρ ρ' ρ2 ρc : Loc} {v v2 : V} {env : Env} {g : Gh} {fr : Option (List Env)} {F : Loc → Option V}

theorem twoEv_none {a b o i : Expr} {op : Operator} {p p2 : Pos} {e : Expr} (h1 : e ≠ .BinOp a op b p) (h2 : e ≠ .Subscript o i p2) : twoEv (.BinOp a op b p) (.Subscript o i p2) F sc2 ρ2 v2 sc σ ρ e = none := by
  unfold twoEv
  rw [if_neg (fun h => h2 h.1), if_neg h1]
theorem recT_ok (G : CxG cx) {a b o i : Expr} {op : Operator} {p p2 : Pos} (h2 : EvS prog w cx PT K sc2 [] ρ2 (.Subscript o i p2) v2 []) (h1 : ∀ sc σ ρ v, F ρ = some v → EvS prog w cx PT K sc σ ρ (.BinOp a op b p) v σ) :
    ∀ n, Sound prog w cx fr K (recT (twoEv (.BinOp a op b p) (.Subscript o i p2) F sc2 ρ2 v2) n) := by
  have hev : ∀ {sc σ ρ e v σ'}, twoEv (.BinOp a op b p) (.Subscript o i p2) F sc2 ρ2 v2 sc σ ρ e = some (v, σ') → EvS prog w cx PT K sc σ ρ e v σ' := by
    intro sc σ ρ e v σ' q
    unfold twoEv at q
    split at q
    · rename_i h
      obtain ⟨rfl, rfl, rfl, rfl⟩ := h
      cases q; exact h2
    · split at q
      · rename_i h
        subst h
        split at q
        · rename_i v' h; cases q; exact h1 _ _ _ _ h
        · cases q
      · cases q
  have hnone : ∀ {sc σ ρ e}, e ≠ .BinOp a op b p → e ≠ .Subscript o i p2 → twoEv (.BinOp a op b p) (.Subscript o i p2) F sc2 ρ2 v2 sc σ ρ e = none := fun h1 h2 => twoEv_none h1 h2
  intro n
  have base : ∀ (r : R), r.ev = twoEv (.BinOp a op b p) (.Subscript o i p2) F sc2 ρ2 v2 → r.tst = R.bot.tst → r.ex = R.bot.ex → r.call = R.bot.call → r.wl = R.bot.wl → r.fl = R.bot.fl →
      (∀ {sc σ ρ elt rest src j acc acc' σ' ρ'}, r.cl sc σ ρ elt rest src j acc = some (acc', σ', ρ') → ∀ {env g s A I D ws gens scope pos depth}, ScE env sc → gens.drop depth = rest → FrR cx env g ρ s.heap → W cx σ g s.heap s.toks → Room fr K A →
    IterOk cx s.heap g env I src j → I ≠ D → D ∈ g.hid → D ∉ g.am → cx.h₀.objs.size ≤ D → D ∉ frame env → s.heap.PlainList D ws.toArray → VRs cx s.heap g acc ws →
    codeAny (model prog w) A (.compLoop (.ListComp elt gens scope pos) depth (.ref I) (.ref D) env) (ResP (ClP cx env D I g s σ' ρ' acc')) s) → Sound prog w cx fr K r := by
    intro r e1 e2 e3 e4 e5 e6 hcl
    refine ⟨fun _ _ _ _ _ _ => ?_, fun _ _ _ _ _ => ?_, fun _ _ _ _ _ _ _ => ?_, fun _ _ _ _ _ _ _ _ => ?_, fun q => ?_, fun q => ?_, fun q => ?_, fun q => ?_, fun q => ?_, fun q => ?_, fun q => ?_, fun q => ?_, hcl⟩
    · rw [e1]; exact hnone (fun q => nomatch q) (fun q => nomatch q)
    · rw [e1]; exact hnone (fun q => nomatch q) (fun q => nomatch q)
    · rw [e1]; exact hnone (fun q => nomatch q) (fun q => nomatch q)
    · rw [e1]; exact hnone (fun q => nomatch q) (fun q => nomatch q)
    · rw [e1, twoEv_none (by intro h; cases h) (by intro h; cases h)] at q; cases q
    · rw [e4] at q; cases q
    · rw [e1] at q
      intro env g s A hs hf hw hA
      exact hev q trivial hs hf hw hA
    · rw [e2] at q; cases q
    · rw [e3] at q; cases q
    · rw [e4] at q; cases q
    · rw [e5] at q; cases q
    · rw [e6] at q; cases q
  induction n with
  | zero => exact base _ rfl rfl rfl rfl rfl rfl (fun q => by cases q)
  | succ n ih => exact base _ rfl rfl rfl rfl rfl rfl (fun q => by
      intro env g s A I D ws gens scope pos depth hs hd hf hw hA hi hID hDh hDa hDn hDf hp hr
      exact clF_ok ih G q hs hd hf hw hA hi hID hDh hDa hDn hDf hp hr)

theorem hsy {t i : Expr} : sync ⟨t, i, [], 0⟩ = true := by simp [sync]
theorem recT_cl {a b o i : Expr} {op : Operator} {p p2 px : Pos} {x : Str} {scope : Scope} {ns : List Int} {Gf : Int → Int} (hx : viewT (.Name x px) = .name x) (hcan : canSt scope x = true) (hF : ∀ ρ i, F (put x (.int i) ρ) = some (.int (Gf i))) :
    ∀ (m j : Nat) (acc : List V) (ρ : Loc), j + m = ns.length → acc.length + m < 100000 → ∃ ρ', (recT (twoEv (.BinOp a op b p) (.Subscript o i p2) F sc2 ρ2 v2) (m + 1)).cl scope [] ρ (.BinOp a op b p) [⟨.Name x px, .Subscript o i p2, [], 0⟩] (.list (.pl (ns.map .int))) j acc = some (acc ++ ((ns.drop j).map Gf).map .int, [], ρ')
  | 0, j, acc, ρ, hj, hacc => by
    refine ⟨ρ, ?_⟩
    have e0 : ∀ f, (recT f (0 + 1)).cl = clF (recT f 0) := fun _ => rfl
    rw [e0]
    have hit : itemAt [] j (.list (.pl (ns.map .int))) = some none := by
      show some ((ns.map V.int)[j]?) = _
      rw [List.getElem?_eq_none (by rw [List.length_map]; omega)]
    unfold clF
    simp only [hsy, hit, List.isEmpty_nil]
    rw [List.drop_eq_nil_of_le (by omega)]
    exact congrArg (fun l => some (l, [], ρ)) (List.append_nil acc).symm
  | m + 1, j, acc, ρ, hj, hacc => by
    obtain ⟨z, hz⟩ : ∃ z, ns[j]? = some z := ⟨_, List.getElem?_eq_getElem (by omega)⟩
    obtain ⟨ρ', h⟩ := recT_cl (a := a) (b := b) (o := o) (i := i) (op := op) (p := p) (p2 := p2) (ns := ns) hx hcan hF m (j + 1) (acc ++ [.int (Gf z)]) (put x (.int z) ρ) (by omega) (by rw [List.length_append]; simp; omega)
    refine ⟨ρ', ?_⟩
    have e0 : ∀ f, (recT f (m + 1 + 1)).cl = clF (recT f (m + 1)) := fun _ => rfl
    rw [e0]
    have hit : itemAt [] j (.list (.pl (ns.map .int))) = some (some (.int z)) := by
      show some ((ns.map V.int)[j]?) = _
      rw [List.getElem?_map, hz]; rfl
    have hasg : asgV scope ρ (.Name x px) (.int z) = some (put x (.int z) ρ) := by
      unfold asgV
      rw [hx]
      show wh (canSt scope x) _ = _
      rw [hcan]; rfl
    have hev : (recT (twoEv (.BinOp a op b p) (.Subscript o i p2) F sc2 ρ2 v2) (m + 1)).ev scope [] (put x (.int z) ρ) (.BinOp a op b p) = some (.int (Gf z), []) := by
      show twoEv _ _ _ _ _ _ _ _ _ _ = _
      unfold twoEv
      rw [if_neg (fun h => nomatch h.1), if_pos rfl, hF]
    have hbl : Nat.blt acc.length 100000 = true := Nat.ble_eq_true_of_le (by omega)
    unfold clF
    simp only [hsy, hit, List.isEmpty_nil]
    show (asgV scope ρ (.Name x px) (.int z)).bind _ = _
    rw [hasg]
    show (Option.bind ((recT (twoEv (.BinOp a op b p) (.Subscript o i p2) F sc2 ρ2 v2) (m + 1)).ev scope [] (put x (.int z) ρ) (.BinOp a op b p)) _) = _
    rw [hev]
    show wh (Nat.blt acc.length 100000) _ = _
    rw [hbl]
    refine h.trans ?_
    congr 1
    have hdrop : ns.drop j = z :: ns.drop (j + 1) := by
      obtain ⟨hl, hq⟩ := List.getElem?_eq_some_iff.mp hz
      rw [List.drop_eq_getElem_cons hl, hq]
    rw [hdrop]
    simp

theorem EvS.compT (G : CxG cx) {a b o i : Expr} {op : Operator} {p p2 px pc : Pos} {x : Str} {scope : Scope} {ns : List Int} {Gf : Int → Int} (hx : viewT (.Name x px) = .name x) (hcan : canSt scope x = true) (hF : ∀ ρ i, F (put x (.int i) ρ) = some (.int (Gf i))) (hlen : ns.length < 1000)
    (h2 : EvS prog w cx PT K sc [] ρ (.Subscript o i p2) (.pl (ns.map .int)) []) (h1 : ∀ sc σ ρ v, F ρ = some v → EvS prog w cx PT K sc σ ρ (.BinOp a op b p) v σ) (hsc : scOk scope = true) (hnl : noLam scope = true) (hfree : freeOf sc.names ρ scope.names = some ρc) :
    EvS prog w cx PT K sc [] ρ (.ListComp (.BinOp a op b p) [⟨.Name x px, .Subscript o i p2, [], 0⟩] scope pc) (.pl ((ns.map Gf).map .int)) [] := fun fr env g s A hp hs hf hw hA => by
  obtain ⟨ρ', hcl⟩ := recT_cl (a := a) (b := b) (o := o) (i := i) (op := op) (p := p) (p2 := p2) (sc2 := sc) (ρ2 := ρ) (v2 := .pl (ns.map .int)) (px := px) (ns := ns) hx hcan hF ns.length 0 [] ρc (by omega) (by simp; omega)
  have H := recT_ok (fr := fr) (F := F) G h2 h1 (ns.length + 1)
  refine evComp_ok H G ?_ hs hf hw hA
  have hev : (recT (twoEv (.BinOp a op b p) (.Subscript o i p2) F sc ρ (.pl (ns.map .int))) (ns.length + 1)).ev sc [] ρ (.Subscript o i p2) = some (.pl (ns.map .int), []) := by
    show twoEv _ _ _ _ _ _ _ _ _ _ = _
    unfold twoEv
    rw [if_pos ⟨rfl, rfl, rfl, rfl⟩]
  show (Option.bind ((recT (twoEv (.BinOp a op b p) (.Subscript o i p2) F sc ρ (.pl (ns.map .int))) (ns.length + 1)).ev sc [] ρ (.Subscript o i p2)) _) = _
  rw [hev]
  show wh (scOk scope) (wh (sync ⟨.Name x px, .Subscript o i p2, [], 0⟩) (wh (noLam scope) (Option.bind (some _) fun src => (freeOf sc.names ρ scope.names).bind _))) = _
  rw [hsc, hsy, hnl, hfree]
  show (Option.bind _ _) = _
  rw [hcl]
  exact congrArg (fun l => some (V.pl l, [])) (List.nil_append _)
end
end Mine
end
section
set_option maxRecDepth 100000
set_option maxHeartbeats 4000000
set_option linter.unusedVariables false
namespace Mine
open PySem PySem.Calls PyProof.Rows PySem.W PySem.SeqAt

noncomputable def LW : Fn := fnGet "law"
noncomputable def zs0 : List Int := [0, 1, 497, 503]
noncomputable def sumV (xs : List Int) (j : Nat) : Int := zs0.getD j 0 + ((pickNums xs (some (j : Int)) none (some 4)).map fun x => x.fmod 1000000).sum

theorem intsAre_len : ∀ {ws : List Value} {ns : List Int}, IntsAre ws ns → ws.length = ns.length
  | _, _, .nil => rfl
  | _, _, .cons n t r => by rw [List.length_cons, List.length_cons, intsAre_len r]
theorem intsAre_mk : ∀ ns : List Int, IntsAre (ns.map fun n => Value.int n 0) ns
  | [] => .nil
  | n :: ns => .cons n 0 (intsAre_mk ns)
theorem pick_len (xs : List Int) (lo hi st : Option Int) : (pickNums xs lo hi st).length ≤ xs.length := by
  have h1 := intsAre_len ((intsAre_mk xs).pick lo hi st)
  have h2 := slicePick_size_le (xs.map fun n => Value.int n 0).toArray lo hi st
  rw [← h1]
  simpa using h2
theorem sum_bnd : ∀ ns : List Int, ((ns.map fun x : Int => x.fmod 1000000).sum).natAbs ≤ ns.length * 1000000
  | [] => by simp
  | n :: ns => by
    have h1 := sum_bnd ns
    have h2 : (n.fmod 1000000).natAbs < 1000000 := by
      rw [Int.fmod_eq_emod_of_nonneg _ (by decide)]
      omega
    rw [List.map_cons, List.sum_cons, List.length_cons, Nat.succ_mul, Nat.add_comm (ns.length * 1000000)]
    exact Nat.le_trans (Int.natAbs_add_le _ _) (Nat.add_le_add (Nat.le_of_lt h2) h1)
theorem sumV_bnd (xs : List Int) (hx : xs.length ≤ 63) (j : Nat) (hj : j < 4) : (sumV xs j).natAbs ≤ XB := by
  have h1 := pick_len xs (some (j : Int)) none (some 4)
  have h2 := sum_bnd (pickNums xs (some (j : Int)) none (some 4))
  have h3 : (zs0.getD j 0).natAbs ≤ 503 := by
    rcases j with _ | _ | _ | _ | j
    · decide
    · decide
    · decide
    · decide
    · omega
  have h4 : (pickNums xs (some (j : Int)) none (some 4)).length * 1000000 ≤ 63 * 1000000 := Nat.mul_le_mul_right _ (by omega)
  exact Nat.le_trans (Int.natAbs_add_le _ _) (Nat.le_trans (Nat.add_le_add h3 (Nat.le_trans h2 h4)) (by decide))

section
variable {prog : Program} {w : World} {cx : Cx} {P : Env → Gh → Heap → Prop} {K : Nat} {sc scope1 scope2 : Scope} {σ σ' : Sto} {ρ ρ' : Loc} {v : V} {env : Env} {g : Gh} {s : Shared} {A : Around}

theorem EvS.list (G : CxG cx) (hP : PresE cx P) {es : List Expr} {v : V} {vs : List V} {p : Pos} (h : ArS prog w cx P K sc ρ σ es (v :: vs) σ') (few : fewV (v :: vs) = true) : EvS prog w cx P K sc σ ρ (.List es p) (.pl (v :: vs)) σ' := fun _ _ _ _ _ hp hs hf hw hA =>
  wpAny_List_spliced (wpZ (ArS.sp (P := P) G hP h hp hs hf hw hA) fun ws s1 x1 => by
    refine x1.k fun g1 W1 V1 N1 => ?_
    exact ⟨few_ok V1 few, N1.ev (EvP.push W1 (Nat.le_refl _) (.newPl W1 V1))⟩)

theorem law_first (G : CxG cx) {xs : List Int} (hx : xs.length ≤ 63) {fr : Option (List Env)} {y1 y2 y3 y4 y5 y6 y7 y8 y9 y10 y11 y12 y13 y14 y15 y16 y17 y18 y19 y20 y21 y22 y23 y24 y25 y26 y27 y28 pos : Pos} {c1 c2 c3 c4 c5 c6 c7 kt : Nat}
    (hs : ScE env sc) (hf : FrR cx env g [("script", .pl (xs.map .int))] s.heap) (hw : W cx [] g s.heap s.toks) (hA : Room fr 8 A) (hblk : env.blockKind = .function) (hkn : env.kindOf "sums" = some .local) (hline : y1.line = y28.line)
    (hsc1 : scOk scope1 = true) (hsc2 : scOk scope2 = true) (hn1 : noLam scope1 = true) (hn2 : noLam scope2 = true) (hf1 : freeOf sc.names [("script", .pl (xs.map .int))] scope1.names = some [(("script" : Str), .pl (xs.map .int))]) (hf2 : ∀ ρ, freeOf scope1.names ρ scope2.names = some []) (hcan : canSt scope2 "x" = true)
    (hck : canSt scope1 "k" = true) (hcf : canSt scope1 "first" = true) (hsum : lk "sum" scope1.names = some .globalImplicit) (henum : lk "enumerate" sc.names = some .globalImplicit) (hcs : canSt sc "sums" = true)
    (hsw : swapsWith (.ListComp (.BinOp (.Name "first" y2) .Add (.Call (.Name "sum" y3) [.ListComp (.BinOp (.Name "x" y4) .Mod (.BinOp (.Constant (.int 10) c1 y5) .Pow (.Constant (.int 6) c2 y6) y7) y8) [⟨.Name "x" y9, .Subscript (.Name "script" y10) (.Slice (some (.Name "k" y11)) none (some (.Constant (.int 4) c3 y12)) y13) y14, [], 0⟩] scope2 y15] [] y16) y17)
        [⟨.Tuple [.Name "k" y18, .Name "first" y19] kt y20, .Call (.Name "enumerate" y21) [.List [.Constant (.int 0) c4 y22, .Constant (.int 1) c5 y23, .Constant (.int 497) c6 y24, .Constant (.int 503) c7 y25] y26] [] y27, [], 0⟩] scope1 y28) (some (.Name "sums" y1)) pos.line env = pure true) :
    wpAny (model prog w) A (exec (.Assign [.Name "sums" y1] (.ListComp (.BinOp (.Name "first" y2) .Add (.Call (.Name "sum" y3) [.ListComp (.BinOp (.Name "x" y4) .Mod (.BinOp (.Constant (.int 10) c1 y5) .Pow (.Constant (.int 6) c2 y6) y7) y8) [⟨.Name "x" y9, .Subscript (.Name "script" y10) (.Slice (some (.Name "k" y11)) none (some (.Constant (.int 4) c3 y12)) y13) y14, [], 0⟩] scope2 y15] [] y16) y17)
        [⟨.Tuple [.Name "k" y18, .Name "first" y19] kt y20, .Call (.Name "enumerate" y21) [.List [.Constant (.int 0) c4 y22, .Constant (.int 1) c5 y23, .Constant (.int 497) c6 y24, .Constant (.int 503) c7 y25] y26] [] y27, [], 0⟩] scope1 y28) pos) env)
      (ExP cx env g s [] (put "sums" (.pl [.int (sumV xs 0), .int (sumV xs 1), .int (sumV xs 2), .int (sumV xs 3)]) [("script", .pl (xs.map .int))]) .next) Z s := by
  have hP : PresE cx PT := PT.pres.e
  rw [exec_Assign_Name_used _ _ _ _ hsw]
  refine wpAny_bind (wpAny_standAt (wpAny_bind (wpZ (enumUse (K := 8) (zs := zs0) (val := sumV xs) (ρc := [("script", .pl (xs.map .int))]) (ρ' := put "sums" (.pl [.int (sumV xs 0), .int (sumV xs 1), .int (sumV xs 2), .int (sumV xs 3)]) [("script", .pl (xs.map .int))]) G rfl (fun j ρ => lk "script" ρ = some (.pl (xs.map .int))) ?_ hsc1 hn1 hf1 rfl (by decide) henum ?_ (fun _ _ => rfl) ?_ hs hf hw hA) fun _ s' k => wpAny_pure (ExP.of_st k fun _ _ => rfl))))
  · intro j ρ z hz hI
    refine ⟨put "first" (.int z) (put "k" (.int (j : Int)) ρ), ?_, ?_, ?_⟩
    · show asgNames scope1 ρ [.Name "k" y18, .Name "first" y19] [.int (j : Int), .int z] = _
      have h1 : ∀ ρ v, asg1 scope1 ρ "k" v = some (put "k" v ρ) := fun ρ v => by unfold asg1; rw [hck]; rfl
      have h2 : ∀ ρ v, asg1 scope1 ρ "first" v = some (put "first" v ρ) := fun ρ v => by unfold asg1; rw [hcf]; rfl
      unfold asgNames
      show (match asg1 scope1 ρ "k" (.int (j : Int)) with | some ρ => asgNames scope1 ρ [.Name "first" y19] [.int z] | Option.none => Option.none) = _
      rw [h1]
      show (match asg1 scope1 (put "k" (.int (j : Int)) ρ) "first" (.int z) with | some ρ => asgNames scope1 ρ [] [] | Option.none => Option.none) = _
      rw [h2]; rfl
    · have hval : z + ((pickNums xs (some (j : Int)) none (some 4)).map fun x => x.fmod 1000000).sum = sumV xs j := by
        unfold sumV
        rw [List.getD_eq_getElem?_getD, hz]; rfl
      have hscr : lk "script" (put "first" (.int z) (put "k" (.int (j : Int)) ρ)) = some (.pl (xs.map .int)) := by rw [lk_put, if_neg (by decide), lk_put, if_neg (by decide)]; exact hI
      have hkk : lk "k" (put "first" (.int z) (put "k" (.int (j : Int)) ρ)) = some (.int (j : Int)) := by rw [lk_put, if_neg (by decide), lk_put, if_pos rfl]
      have hff : lk "first" (put "first" (.int z) (put "k" (.int (j : Int)) ρ)) = some (.int z) := by rw [lk_put, if_pos rfl]
      have hpl := pick_len xs (some (j : Int)) none (some 4)
      rw [← hval]
      refine EvS.bin G hP (EvS.nmL G hff rfl) (EvS.sum G hP (EvS.compT (F := fun ρ => match lk "x" ρ with
        | some (.int i) => some (.int (i.fmod 1000000))
        | _ => none) (Gf := fun x => x.fmod 1000000) (ns := pickNums xs (some (j : Int)) none (some 4)) G rfl hcan (fun ρ i => by rw [lk_put, if_pos rfl]) (by omega) (EvS.pick G hP (EvS.nmL G hscr rfl) (EvS.nmL G hkk rfl) (EvS.con rfl) (by decide) (by omega)) ?_ hsc2 hn2 (hf2 _)) hsum (fun _ _ => rfl)) fun _ h => AutoIntOps.add_0 h
      intro sc σ ρ v hv
      split at hv
      · rename_i i hi
        cases hv
        exact EvS.bin G hP (EvS.nmL G hi rfl) (EvS.bin (i := 10) (j := 6) (k := 1000000) G hP (EvS.con rfl) (EvS.con rfl) fun _ h => AutoIntOps.pow_4 (by decide) (by decide) (by decide) (by decide) (by decide) h) fun _ h => AutoIntOps.mod_1 (by decide) h
      · cases hv
    · rw [lk_put, if_neg (by decide), lk_put, if_neg (by decide)]; exact hI
  · exact EvS.list G hP (.cons (EvS.con rfl) (fun _ _ => rfl) (.cons (EvS.con rfl) (fun _ _ => rfl) (.cons (EvS.con rfl) (fun _ _ => rfl) (.cons (EvS.con rfl) (fun _ _ => rfl) (.nil _))))) (by rfl)
  · show asg1 sc _ "sums" _ = _
    unfold asg1
    rw [hcs]
    rfl
end
end Mine
end
section
set_option maxRecDepth 100000
set_option maxHeartbeats 4000000
set_option linter.unusedVariables false
namespace Mine
open PySem PySem.Calls PyProof.Rows PySem.W PySem.SeqAt

noncomputable def fnTab0 : List (Str × Addr) := [("_div2n1n", 38), ("_int2digits", 52), ("_digits2int", 59), ("_divmod_pos", 66), ("int_divmod", 73), ("insort_right", 82), ("bisect_right", 91), ("bisect_left", 100), ("rgb_to_hls", 107), ("hls_to_rgb", 114), ("_v", 121), ("rgb_to_hsv", 128), ("hsv_to_rgb", 135), ("quotedata", 152), ("_fix_eols", 159),
  ("_law_read", 166), ("_law_times", 173), ("_law_near", 180), ("_law_left", 185), ("_law_painted", 190), ("_law_sixths", 195), ("_law_laid", 200), ("_law_euclid", 207), ("law", 212)]
noncomputable def tabs0 : List (Addr × Addr × Str) := [(58, 54, "_digits2int.<locals>.inner"), (51, 47, "_int2digits.<locals>.inner"), (194, 192, "_law_sixths.<locals>.<lambda>")]
noncomputable def pat0 (k : Nat) : Option Addr := if k = 1 then some 140 else if k = 2 then some 145 else none
noncomputable def cxM (φ : Nat → UInt64) (h : Heap) (X : List Int) (ch : Nat) (frs : List Addr) : Cx := ⟨h, tabs0, X, ch, fun n => lk n fnTab0, pat0, 643, φ, frs⟩

structure Base (φ : Nat → UInt64) (h : Heap) : Prop where
  size : h.objs.size = 214
  ok : ∀ X ch frs, (∀ a ∈ frs, 214 ≤ a) → CxOk (cxM φ h X ch frs)
  glob : ∀ X ch frs, CxOk (cxM φ h X ch frs) → CxS (cxM φ h X ch frs) → CxG (cxM φ h X ch frs)
  fn : ∀ X ch frs nm a, lk nm fnTab0 = some a → FnOk (cxM φ h X ch frs) nm a
  i2 : ∀ X ch frs, InnOk (cxM φ h X ch frs) 52 I2i.name
  d2 : ∀ X ch frs, InnOk (cxM φ h X ch frs) 59 D2i.name
  pat : ∀ X ch frs, PatF (cxM φ h X ch frs)
  tabs : ∀ X ch frs, ∀ t ∈ tabs0, TabOk (cxM φ h X ch frs) h t
  booked : NoneBooked h
  nolim : h.NoLimit

theorem allN_lt {p : Nat → Bool} : ∀ {n k : Nat}, allN p n = true → k < n → p k = true
  | 0, _, _, h => by omega
  | n + 1, k, e, h => by
    unfold allN at e
    split at e
    · rename_i q
      rcases Nat.lt_or_ge k n with h | h
      · exact allN_lt e h
      · have : k = n := by omega
        subst this; exact q
    · cases e
theorem row_eq (i : Nat) : lawRow i = allN (fun j => allN (fun k => lawOk i j k) 3) 7 := by unfold lawRow; rfl
theorem rows_all {i : Nat} (hi : i < 7) : lawRow i = true := by
  have h : i = 0 ∨ i = 1 ∨ i = 2 ∨ i = 3 ∨ i = 4 ∨ i = 5 ∨ i = 6 := by omega
  rcases h with h | h | h | h | h | h | h
  · rw [h]; exact c_row0
  · rw [h]; exact c_row1
  · rw [h]; exact c_row2
  · rw [h]; exact c_row3
  · rw [h]; exact c_row4
  · rw [h]; exact c_row5
  · rw [h]; exact c_row6
theorem law_all {i j k : Nat} (hi : i < 7) (hj : j < 7) (hk : k < 3) : lawOk i j k = true := by
  have h := rows_all hi
  rw [row_eq] at h
  have h1 := allN_lt (p := fun j => allN (fun k => lawOk i j k) 3) (k := j) h hj
  exact allN_lt (p := fun k => lawOk i j k) (k := k) h1 hk
theorem chkEs_mem {r : R} : ∀ {l : Rows} {e : Nat × List V × V}, chkEs r l = true → e ∈ l → chkE r e = true
  | [], _, _, h => by cases h
  | a :: l, e, h, m => by
    unfold chkEs at h
    split at h
    · rename_i q
      rcases List.mem_cons.mp m with rfl | m
      · exact q
      · exact chkEs_mem h m
    · cases h

section
variable {prog : Program} {w : World} {cx : Cx} {fr : Option (List Env)} {K : Nat}

theorem TOk.any {T : Known} (h : TOk prog w cx none T K) : TOk prog w cx fr T K := fun e _ _ _ _ _ _ ha hv hw hA => h e ha hv hw hA.any

set_option tactic.hygienic true in
theorem lawT_ok (P : Given prog w cx []) (D : DivG cx) (hX : ∀ x ∈ cx.X, x.natAbs ≤ XB) {l : List Env} (hl : ∀ e ∈ l, e.scope.kind ≠ .module ∧ e.frame = some e.locals ∧ e.locals ∈ cx.frs) :
    TOk prog w cx (some l) lawT 228 ∧ ∀ n, 228 ≤ n → Sound prog w cx none n run1 := by
  have T0 : TOk prog w cx none divT 106 := divT_ok D hX
  have S1 : Sound prog w cx none (60 + 106) run1 := recN_ok P T0 60
  have c1 : TabChk run1 tab1 := fun e m => by
    simp only [tab1, List.mem_cons, List.not_mem_nil, or_false] at m
    rcases m with rfl | rfl | rfl
    · exact c_law_read
    · exact c_law_painted
    · exact c_law_near
  have T1 : TOk prog w cx none (tabT tab1 divT) 167 := tab_ok (K := 166) D.G.ok D.fn S1 c1 (T0.le (by omega))
  have S2 : Sound prog w cx none (60 + 167) run2 := recN_ok P T1 60
  have cS : TabChk run2 tabS := fun e m => by
    simp only [tabS, List.mem_cons, List.not_mem_nil, or_false] at m
    subst m; exact c_law_sixths
  have cL : TabChk run1 tabL := fun e m => by
    simp only [tabL, List.mem_cons, List.not_mem_nil, or_false] at m
    subst m; exact c_law_laid
  have T2 : TOk prog w cx none (tabT tabS divT) 228 := tab_ok (K := 227) D.G.ok D.fn S2 cS (T0.le (by omega))
  have T3 : TOk prog w cx none (tabT tabL (tabT tabS divT)) 228 := tab_ok (K := 227) D.G.ok D.fn (S1.more (by omega)) cL T2
  refine ⟨?_, fun n hn => S1.more (by omega)⟩
  intro nm vs v e a σ g s ws A ha hv hw hA
  unfold lawT tabT at e
  split at e
  · rename_i u q
    cases e
    obtain ⟨rows, k, m1, m2⟩ := findT_mem q
    simp only [tabE, List.mem_cons, Prod.mk.injEq, List.not_mem_nil, or_false] at m1
    obtain ⟨rfl, rfl⟩ := m1
    have h := chkEs_mem c_law_euclid m2
    delta chkE at h
    split at h
    · rename_i hn
      split at h
      · rename_i v' e1
        have := eqV_ok h
        subst this
        exact eu_ok D hl S1 hn e1 ha hv hw (hA.le (by omega))
      · cases h
    · cases h
  · exact T3.any e ha hv hw hA
end
end Mine
end
section
set_option maxRecDepth 100000
set_option maxHeartbeats 4000000
set_option linter.unusedVariables false
namespace Mine
open PySem PySem.Calls PyProof.Rows PySem.W PySem.SeqAt

noncomputable def X4 (xs : List Int) : Int := (sumV xs 2).fmod 50000
noncomputable def lawX (xs : List Int) : List Int := [sumV xs 0, sumV xs 1, sumV xs 2, sumV xs 3, X4 xs]
noncomputable def lawCh (xs : List Int) : Nat := (47 + X4 xs).toNat

theorem fmod_rng (a : Int) {m : Int} (h : 0 < m) : 0 ≤ a.fmod m ∧ a.fmod m < m := by
  rw [Int.fmod_eq_emod_of_nonneg _ (Int.le_of_lt h)]
  exact ⟨Int.emod_nonneg _ (by omega), Int.emod_lt_of_pos _ h⟩

theorem lawX_bnd (xs : List Int) (hx : xs.length ≤ 63) : ∀ x ∈ lawX xs, x.natAbs ≤ XB := by
  intro x m
  have h4 := fmod_rng (sumV xs 2) (show (0 : Int) < 50000 by decide)
  have hXB : XB = 2147483648 := by decide
  simp only [lawX, List.mem_cons, List.not_mem_nil, or_false] at m
  rcases m with rfl | rfl | rfl | rfl | rfl
  · exact sumV_bnd xs hx 0 (by decide)
  · exact sumV_bnd xs hx 1 (by decide)
  · exact sumV_bnd xs hx 2 (by decide)
  · exact sumV_bnd xs hx 3 (by decide)
  · unfold X4; omega

section
variable {prog : Program} {w : World} {φ : Nat → UInt64} {h : Heap} {xs : List Int} {L : Addr}

noncomputable def cxL (φ : Nat → UInt64) (h : Heap) (xs : List Int) (L : Addr) : Cx := cxM φ h (lawX xs) (lawCh xs) [L]

theorem dot0 (xs : List Int) : dot (unitV 0) (lawX xs) = sumV xs 0 ∧ dot (unitV 1) (lawX xs) = sumV xs 1 ∧ dot (unitV 2) (lawX xs) = sumV xs 2 ∧ dot (unitV 3) (lawX xs) = sumV xs 3 ∧ dot (unitV 4) (lawX xs) = X4 xs := by
  refine ⟨?_, ?_, ?_, ?_, ?_⟩ <;> simp [unitV, lawX, dot]

theorem cxL_x (hx : xs.length ≤ 63) : CxX (cxL φ h xs L) := by
  have h4 := fmod_rng (sumV xs 2) (show (0 : Int) < 50000 by decide)
  exact ⟨X4 xs, rfl, rfl, h4.1, h4.2, rfl⟩
theorem cxL_s : CxS (cxL φ h xs L) := by
  have h4 := fmod_rng (sumV xs 2) (show (0 : Int) < 50000 by decide)
  have h5 : 47 ≤ lawCh xs := by unfold lawCh X4; omega
  exact ⟨fun q => by have q : lawCh xs = 46 := q; omega, fun q => by have q : lawCh xs = 10 := q; omega, fun q => by have q : lawCh xs = 13 := q; omega⟩

noncomputable def li (xs : List Int) : Nat := ((sumV xs 0).fmod 7).toNat
noncomputable def lj (xs : List Int) : Nat := ((sumV xs 1).fmod 7).toNat
noncomputable def lkd (xs : List Int) : Nat := ((sumV xs 3).fmod 3).toNat
theorem li_lt (xs : List Int) : li xs < 7 := by have := fmod_rng (sumV xs 0) (show (0 : Int) < 7 by decide); unfold li; omega
theorem lj_lt (xs : List Int) : lj xs < 7 := by have := fmod_rng (sumV xs 1) (show (0 : Int) < 7 by decide); unfold lj; omega
theorem lk_lt (xs : List Int) : lkd xs < 3 := by have := fmod_rng (sumV xs 3) (show (0 : Int) < 3 by decide); unfold lkd; omega

theorem factsL : FactsOk (facts (li xs) (lj xs) (lkd xs)) (cxL φ h xs L) := by
  obtain ⟨d0, d1, d2, d3, d4⟩ := dot0 xs
  have a0 := fmod_rng (sumV xs 0) (show (0 : Int) < 7 by decide)
  have a1 := fmod_rng (sumV xs 1) (show (0 : Int) < 7 by decide)
  have a3 := fmod_rng (sumV xs 3) (show (0 : Int) < 3 by decide)
  intro k m v e hh g t
  show VR _ _ _ _ (.int (Int.fmod (dot k (lawX xs)) m) t)
  delta facts at e
  unfold findF at e
  split at e
  · rename_i q1 q2
    cases e
    have q1 := eqK_eq q1; have q2 := of_decide_eq_true q2
    subst q1; subst q2
    rw [d0]
    have : (sumV xs 0).fmod 7 = ((li xs : Nat) : Int) := by unfold li; omega
    rw [this]; exact .int _ t
  · unfold findF at e
    split at e
    · rename_i q1 q2
      cases e
      have q1 := eqK_eq q1; have q2 := of_decide_eq_true q2
      subst q1; subst q2
      rw [d1]
      have : (sumV xs 1).fmod 7 = ((lj xs : Nat) : Int) := by unfold lj; omega
      rw [this]; exact .int _ t
    · unfold findF at e
      split at e
      · rename_i q1 q2
        cases e
        have q1 := eqK_eq q1; have q2 := of_decide_eq_true q2
        subst q1; subst q2
        rw [d2]
        have h1 : (sumV xs 2).fmod 50000 = 0 + dot (unitV 4) (cxL φ h xs L).X := by
          show _ = 0 + dot (unitV 4) (lawX xs)
          rw [d4]; unfold X4; omega
        rw [h1]; exact .lin 0 (unitV 4) t
      · unfold findF at e
        split at e
        · rename_i q1 q2
          cases e
          have q1 := eqK_eq q1; have q2 := of_decide_eq_true q2
          subst q1; subst q2
          rw [d3]
          have : (sumV xs 3).fmod 3 = ((lkd xs : Nat) : Int) := by unfold lkd; omega
          rw [this]; exact .int _ t
        · unfold findF at e; cases e
theorem facts0 {cx : Cx} : FactsOk [] cx := fun k m v e => by unfold findF at e; cases e

theorem base_div {X : List Int} {ch : Nat} {frs : List Addr} (B : Base φ h) (C : CxOk (cxM φ h X ch frs)) (S : CxS (cxM φ h X ch frs)) (XX : CxX (cxM φ h X ch frs)) : DivG (cxM φ h X ch frs) :=
  ⟨B.glob _ _ _ C S, XX, fun nm a e => B.fn X ch frs nm a e, fun a e => by cases e; exact B.i2 X ch frs, fun a e => by cases e; exact B.d2 X ch frs⟩
theorem base_given {X : List Int} {ch : Nat} {frs : List Addr} {F : Facts} (B : Base φ h) (C : CxOk (cxM φ h X ch frs)) (S : CxS (cxM φ h X ch frs)) (XX : CxX (cxM φ h X ch frs)) (hF : FactsOk F (cxM φ h X ch frs)) : Given prog w (cxM φ h X ch frs) F :=
  ⟨B.glob _ _ _ C S, hF, XX, fun nm a e => B.fn X ch frs nm a e, pat_ok S (B.pat X ch frs), (B.pat X ch frs).at⟩

theorem runLaw_true {i j k : Nat} (h : lawOk i j k = true) : ∃ σ' ρ', exs (recL (facts i j k) lawT run1 60) LW.sc [] [("sums", sums0)] (LW.body.drop 1) = some (.ret (.bool true), σ', ρ') := by
  have hn : fnOf sLaw = some LW := rfl
  unfold lawOk runLaw at h
  rw [hn] at h
  dsimp only at h
  generalize exs (recL (facts i j k) lawT run1 60) LW.sc [] [("sums", sums0)] (LW.body.drop 1) = r at h ⊢
  cases r with
  | none => exact ftE h
  | some q =>
    obtain ⟨f, σ', ρ'⟩ := q
    cases f with
    | next => exact ftE h
    | ret v =>
      cases v with
      | bool b => exact ⟨σ', ρ', by cases (show b = true from h); rfl⟩
      | _ => exact ftE h
end
end Mine
end
section
set_option maxRecDepth 100000
set_option maxHeartbeats 4000000
set_option linter.unusedVariables false
namespace Mine
open PySem PySem.Calls PyProof.Rows PySem.W PySem.SeqAt

/-! what the concrete heap tells: checks on its written form -/

noncomputable def fldsOf : Data → Option (Array Value)
  | .fields v => some v
  | _ => none
theorem fldsOf_ok {d : Data} {v : Array Value} (e : fldsOf d = some v) : d = .fields v := by
  cases d <;> first | exact nsE e | exact Option.some.inj e ▸ rfl
noncomputable def funcOf : Data → Option FuncData
  | .func v => some v
  | _ => none
theorem funcOf_ok {d : Data} {v : FuncData} (e : funcOf d = some v) : d = .func v := by
  cases d <;> first | exact nsE e | exact Option.some.inj e ▸ rfl
noncomputable def dictOf : Data → Option (Array DictEntry)
  | .dict v _ => some v
  | _ => none
theorem dictOf_ok {d : Data} {v : Array DictEntry} (e : dictOf d = some v) : ∃ n, d = .dict v n := by
  cases d <;> first | exact nsE e | (cases e; exact ⟨_, rfl⟩)
noncomputable def seqOf : Data → Option (Array Value)
  | .seq v _ => some v
  | _ => none
theorem seqOf_ok {d : Data} {v : Array Value} (e : seqOf d = some v) : ∃ n, d = .seq v n := by
  cases d <;> first | exact nsE e | (cases e; exact ⟨_, rfl⟩)
noncomputable def refOf : Value → Option Addr
  | .ref a => some a
  | _ => none
theorem refOf_ok {v : Value} {a : Addr} (e : refOf v = some a) : v = .ref a := by
  cases v <;> first | exact nsE e | exact Option.some.inj e ▸ rfl
noncomputable def intOf : Value → Option (Int × Tok)
  | .int a t => some (a, t)
  | _ => none
theorem intOf_ok {v : Value} {a : Int × Tok} (e : intOf v = some a) : v = .int a.1 a.2 := by
  cases v <;> first | exact nsE e | exact Option.some.inj e ▸ rfl
noncomputable def strV : Value → Option (Str × Tok)
  | .str a t => some (a, t)
  | _ => none
theorem strV_ok {v : Value} {a : Str × Tok} (e : strV v = some a) : v = .str a.1 a.2 := by
  cases v <;> first | exact nsE e | exact Option.some.inj e ▸ rfl
noncomputable def boolOf : Value → Option Bool
  | .bool b => some b
  | _ => none
theorem boolOf_ok {v : Value} {a : Bool} (e : boolOf v = some a) : v = .bool a := by
  cases v <;> first | exact nsE e | exact Option.some.inj e ▸ rfl
noncomputable def nsV (K : Frag) (a : Addr) (x : Str) : Option Value := (K.lookup a).bind fun o => (dictOf o.data).bind fun es => (es.toList.find? fun e => e.key.isStr x).map (·.val)
noncomputable def nsOk (K : Frag) (a : Addr) : Bool := (K.lookup a).any fun o => (dictOf o.data).any fun es => es.toList.all fun e => (strV e.key).isSome
noncomputable def clsSome (o : Obj) : Bool := match o.cls with
  | .none => false
  | _ => true
theorem clsSome_ok {o : Obj} (h : clsSome o = true) : o.cls ≠ .none := fun q => by
  delta clsSome at h; rw [q] at h; cases h
theorem ns_ok {K : Frag} {h : Heap} (x : K.In h) {a : Addr} (e : nsOk K a = true) : h.Ns a (nsV K a) :=
  anyE e fun o ho e => anyE e fun es hd e => (dictOf_ok hd).elim fun ep hp =>
    ⟨o, es, ep, x _ _ ho, hp, fun en hm => (Option.isSome_iff_exists.mp (List.all_eq_true.mp e en (Array.mem_toList_iff.mpr hm))).elim fun _ q => ⟨_, _, strV_ok q⟩, fun name => by
      unfold nsFind findBy nsV
      rw [ho, ← Array.find?_toList]
      show _ = (dictOf o.data).bind _
      rw [hd]; rfl⟩
noncomputable def objSome (K : Frag) (a : Addr) : Bool := (K.lookup a).any clsSome
theorem objSome_ok {K : Frag} {h : Heap} (x : K.In h) {a : Addr} (e : objSome K a = true) : ∃ o, K.lookup a = some o ∧ h.get? a = some o ∧ o.cls ≠ .none :=
  anyE e fun o ho e => ⟨o, ho, x _ _ ho, clsSome_ok e⟩

noncomputable def phi0 (t : Nat) : UInt64 := if t = 411 then 4599676419421066581 else if t = 415 then 4595172819793696085 else if t = 419 then 4604180019048437077 else 0
noncomputable def lookG (K : Frag) (x : Str) : Option (Value × Bool) := match nsV K mainGlobals x with
  | some v => some (v, true)
  | none => match nsV K builtinsNs x with
    | some v => some (v, false)
    | none => none
noncomputable def stVal : V → Option (Value × Bool)
  | .fn n => match lk n fnTab0 with
    | some a => some (.ref a, true)
    | none => none
  | .flt x => if x = 4599676419421066581 then some (.float x 411, true) else if x = 4595172819793696085 then some (.float x 415, true) else if x = 4604180019048437077 then some (.float x 419, true) else none
  | .pat k => match pat0 k with
    | some a => some (.ref a, true)
    | none => none
  | .str s => match noSym s with
    | true => some (.str ⟨s.toArray⟩ 552, true)
    | false => none
  | .int i => some (.int i 284, true)
  | .bi b => some (biVal b, false)
  | _ => none
noncomputable def stSome (v : V) : Bool := (stVal v).isSome

theorem noSym_map {cx : Cx} : ∀ {s : List Nat}, noSym s = true → s.map cx.sign = s
  | [], _ => rfl
  | a :: r, h => by
    unfold noSym at h
    split at h
    · cases h
    · rename_i q
      rw [List.map_cons, noSym_map h]
      have : a ≠ SYM := fun e => by rw [e, Nat.beq_refl] at q; cases q
      unfold Cx.sign
      rw [if_neg this]

theorem stVal_ok {X : List Int} {ch : Nat} {frs : List Addr} {h : Heap} {v : V} {w : Value} {b : Bool} (e : stVal v = some (w, b)) : StV (cxM phi0 h X ch frs) v w := by
  intro h' g hn hφ
  have hn : 643 ≤ g.n := hn
  cases v with
  | fn n =>
    (delta stVal at e; try dsimp only at e)
    split at e
    · rename_i a q
      cases e
      exact .fn q
    · cases e
  | flt x =>
    (delta stVal at e; try dsimp only at e)
    have h1 : g.φ 411 = 4599676419421066581 := (hφ 411 (show 411 < 643 by decide)).trans (show phi0 411 = 4599676419421066581 by decide)
    have h2 : g.φ 415 = 4595172819793696085 := (hφ 415 (show 415 < 643 by decide)).trans (show phi0 415 = 4595172819793696085 by decide)
    have h3 : g.φ 419 = 4604180019048437077 := (hφ 419 (show 419 < 643 by decide)).trans (show phi0 419 = 4604180019048437077 by decide)
    split at e
    · rename_i q; cases e; exact .flt x 411 (by decide) (Nat.lt_of_lt_of_le (show 411 < 643 by decide) hn) (by rw [h1, q])
    · split at e
      · rename_i q; cases e; exact .flt x 415 (by decide) (Nat.lt_of_lt_of_le (show 415 < 643 by decide) hn) (by rw [h2, q])
      · split at e
        · rename_i q; cases e; exact .flt x 419 (by decide) (Nat.lt_of_lt_of_le (show 419 < 643 by decide) hn) (by rw [h3, q])
        · cases e
  | pat k =>
    (delta stVal at e; try dsimp only at e)
    split at e
    · rename_i a q
      cases e
      exact .pat q
    · cases e
  | str s =>
    (delta stVal at e; try dsimp only at e)
    split at e
    · rename_i q
      cases e
      have : (cxM phi0 h X ch frs).strOf s = ⟨s.toArray⟩ := by unfold Cx.strOf; rw [noSym_map q]
      rw [← this]
      exact .str s 552
    · cases e
  | int i => cases e; exact .int i 284
  | bi b => cases e; exact .bi b rfl
  | _ => cases e

noncomputable def fdAt (K : Frag) (a : Addr) : Option FuncData := (K.lookup a).bind fun o => funcOf o.data
theorem fdAt_ok {K : Frag} {a : Addr} {fd : FuncData} (e : fdAt K a = some fd) : ∃ o, K.lookup a = some o ∧ o.data = .func fd :=
  bindE e fun o ho e => ⟨o, ho, funcOf_ok e⟩
noncomputable def lamT (fd : FuncData) (nm : Str) (c : Addr) : Bool := anyB (fun t => Nat.beq t.1 c && seq ((fd.qualname ++ ".<locals>.") ++ nm) t.2.2) tabs0
noncomputable def lamChk (fd : FuncData) : Bool := !(lamOk fd.scope) || (refOf fd.code).any (lamT fd "<lambda>")
noncomputable def codeQ (K : Frag) (c : Addr) (q : Str) : Bool := (K.lookup c).any fun oc => clsSome oc && (fldsOf oc.data).any fun vs => ((vs[1]? : Option Value).bind strV).any fun s => seq s.1 q
noncomputable def codeChk (K : Frag) (fd : FuncData) : Bool := (refOf fd.code).any fun c => codeQ K c fd.qualname
noncomputable def valNone : Value → Bool
  | .none => true
  | _ => false
noncomputable def frag (K : Frag) (as : List Addr) : Frag := as.filterMap fun a => (K.lookup a).bind fun o => match clsSome o with
  | true => some (a, o)
  | false => none
theorem frag_in {K : Frag} {h₀ h : Heap} (x : K.In h₀) (k : OldK h₀ h) (as : List Addr) : (frag K as).In h := fun a o e => by
  obtain ⟨b, _, q⟩ := List.mem_filterMap.mp (mem_of_lookupK e)
  obtain ⟨o', q1, q2⟩ := Option.bind_eq_some_iff.mp q
  cases q3 : clsSome o' with
  | true => rw [q3] at q2; cases q2; exact k.get_of_cls (x _ _ q1) (clsSome_ok q3)
  | false => rw [q3] at q2; cases q2
noncomputable def rowAs (fd : FuncData) : List Addr := match fd.defaults, fd.kwdefaults with
  | .ref T, .ref D => [T, D]
  | _, _ => []
noncomputable def rowTok (K : Frag) (fd : FuncData) : Tok := (((refOf fd.defaults).bind fun T => (K.lookup T).bind fun o => (seqOf o.data).bind fun xs => (xs[0]? : Option Value).bind intOf).map (·.2)).getD 0
noncomputable def rowPk (K : Frag) (fd : FuncData) (S : Setting) (a x l h k : Value) : List (Option (List (Str × Value))) :=
  [peek (frag K (rowAs fd)) S (bindArgs fd ⟨[a, x], []⟩), peek (frag K (rowAs fd)) S (bindArgs fd ⟨[a, x], [("key", k)]⟩), peek (frag K (rowAs fd)) S (bindArgs fd ⟨[a, x, l, h], []⟩), peek (frag K (rowAs fd)) S (bindArgs fd ⟨[a, x, l, h], [("key", k)]⟩)]
noncomputable def rowWant (t : Tok) (a x l h k : Value) : List (Option (List (Str × Value))) :=
  [some (rowNames.zip [a, x, .int 0 t, .none, .none]), some (rowNames.zip [a, x, .int 0 t, .none, k]), some (rowNames.zip [a, x, l, h, .none]), some (rowNames.zip [a, x, l, h, k])]
noncomputable def rowF (K : Frag) (S : Setting) (a x l h k : Value) (fd : FuncData) : List (Option (List (Str × Value))) := match plainPs fd.params with
  | true => []
  | false => rowPk K fd S a x l h k
noncomputable def rowG (K : Frag) (a x l h k : Value) (fd : FuncData) : List (Option (List (Str × Value))) := match plainPs fd.params with
  | true => []
  | false => rowWant (rowTok K fd) a x l h k
theorem row_side {K : Frag} {S : Setting} {a x l h k : Value} {fd : FuncData} (e : rowF K S a x l h k fd = rowG K a x l h k fd) (hp : plainPs fd.params = false) : rowPk K fd S a x l h k = rowWant (rowTok K fd) a x l h k := by
  delta rowF rowG at e
  rw [hp] at e; exact e
noncomputable def RowK (K : Frag) (fd : FuncData) : Prop := ∀ S a x l h k, rowPk K fd S a x l h k = rowWant (rowTok K fd) a x l h k
noncomputable def isFnK : ScopeKind → Bool
  | .function => true
  | _ => false
noncomputable def fdBase (fd : FuncData) : Bool := isFnK fd.scope.kind && (!fd.scope.isCoroutine && (!fd.scope.isGenerator && (Nat.beq fd.globals mainGlobals && (Nat.beq fd.builtins builtinsNs && (fd.closure.isEmpty && lamChk fd)))))
noncomputable def psChk (K : Frag) (fd : FuncData) : Bool := match plainPs fd.params with
  | true => valNone fd.defaults && parOk fd.scope (namesOf fd.params)
  | false => parOk fd.scope rowNames
noncomputable def fnChk (K : Frag) (a : Addr) : Bool := objSome K a && (fdAt K a).any fun fd => fdBase fd && (codeChk K fd && psChk K fd)

section
variable {K : Frag} {h : Heap} {X : List Int} {ch : Nat} {frs : List Addr}

theorem lamT_ok {fd : FuncData} {nm : Str} {c : Addr} (e : lamT fd nm c = true) : ∃ t ∈ tabs0, c = t.1 ∧ (fd.qualname ++ ".<locals>.") ++ nm = t.2.2 :=
  (anyB_true e).elim fun t m => andE m.2 fun q1 q2 => ⟨t, m.1, (Nat.eq_of_beq_eq_true q1).symm, strEq_of_seq q2⟩
theorem fdBase_ok {fd : FuncData} (e : fdBase fd = true) : FdOk (cxM phi0 h X ch frs) fd :=
  andE e fun h1 e => andE e fun h2 e => andE e fun h3 e => andE e fun h4 e => andE e fun h5 e => andE e fun h6 h7 =>
  ⟨(by generalize fd.scope.kind = k at h1; cases k <;> first | rfl | exact ftE h1), notE h2, notE h3, Nat.eq_of_beq_eq_true h4, Nat.eq_of_beq_eq_true h5, List.isEmpty_iff.mp h6, fun hl => by
    delta lamChk at h7
    rw [hl] at h7
    exact anyE h7 fun c hc e => (lamT_ok e).elim fun t m => ⟨t, m.1, (refOf_ok hc).trans (congrArg _ m.2.1), m.2.2⟩⟩
theorem codeQ_ok (x : K.In h) {c : Addr} {q : Str} (e : codeQ K c q = true) : ∃ oc, h.get? c = some oc ∧ oc.cls ≠ .none ∧ h.CodeRec (.ref c) q :=
  anyE e fun oc ho e => andE e fun hc e => anyE e fun vs hd e => anyE e fun s hs e => bindE hs fun v hv hs =>
  ⟨oc, x _ _ ho, clsSome_ok hc, c, oc, vs, s.2, rfl, x _ _ ho, fldsOf_ok hd, hv.trans (congrArg some ((strV_ok hs).trans (congrArg (Value.str · s.2) (strEq_of_seq e))))⟩
theorem row_ok (x : K.In h) {fd : FuncData} (e : parOk fd.scope rowNames = true) (r : RowK K fd) : RowFn (cxM phi0 h X ch frs) fd :=
  ⟨⟨rowTok K fd, fun s o a x1 l h1 k =>
    have q : ∀ (M : Model) (i : Nat), (rowPk K fd ⟨M.prog, M.w.params⟩ a x1 l h1 k)[i]? = (rowWant (rowTok K fd) a x1 l h1 k)[i]? := fun M i => congrArg (·[i]?) (r ⟨M.prog, M.w.params⟩ a x1 l h1 k)
    have F := frag_in x o (rowAs fd)
    ⟨fun M _ _ _ y => (Looks.of_peek (M := M) F (Option.some.inj (q M 0))).here y, fun M _ _ _ y => (Looks.of_peek (M := M) F (Option.some.inj (q M 1))).here y,
     fun M _ _ _ y => (Looks.of_peek (M := M) F (Option.some.inj (q M 2))).here y, fun M _ _ _ y => (Looks.of_peek (M := M) F (Option.some.inj (q M 3))).here y⟩⟩, e⟩

theorem fnChk_ok (x : K.In h) {nm : Str} {a : Addr} (rk : ∀ fd, fdAt K a = some fd → plainPs fd.params = false → RowK K fd) (e : fnChk K a = true) (e2 : (fdAt K a).map (fun fd => (fd.params, fd.body, fd.scope)) = (fnOf nm).map (fun fn => (fn.ps, FuncBody.stmts fn.body, fn.sc))) : FnOk (cxM phi0 h X ch frs) nm a :=
  andE e fun h1 e => anyE e fun fd h2 e => andE e fun h3 e => andE e fun h4 e => (objSome_ok x h1).elim fun o y => (fdAt_ok h2).elim fun o' z => anyE h4 fun c hc h4 => by
  have z2 : o.data = .func fd := Option.some.inj (y.1.symm.trans z.1) ▸ z.2
  rw [h2] at e2
  cases hf : fnOf nm with
  | none => rw [hf] at e2; exact nomatch e2
  | some fn =>
    rw [hf] at e2
    have e2 := Option.some.inj e2
    have p1 : fd.params = fn.ps := congrArg (·.1) e2
    have p3 : fd.scope = fn.sc := congrArg (·.2.2) e2
    have hc := refOf_ok hc
    exact (codeQ_ok x h4).elim fun oc c1 => ⟨o, fd, fn, y.2.1, y.2.2, z2, hf, p1, congrArg (·.2.1) e2, p3, fdBase_ok h3, ⟨c, oc, hc, c1.1, c1.2.1, hc ▸ c1.2.2⟩, fun hp => by
      delta psChk at e
      rw [p1, hp, p3] at e
      exact andE e fun hv e => ⟨(by generalize fd.defaults = v at hv; cases v <;> first | rfl | exact ftE hv), e⟩, fun hp => by
      delta psChk at e
      rw [p1, hp] at e
      exact row_ok x e (rk _ h2 (p1 ▸ hp))⟩

noncomputable def innChk (K : Frag) (a : Addr) (name : Str) : Bool := (fdAt K a).any fun fd => (refOf fd.code).any (lamT fd name)
theorem innChk_ok (x : K.In h) {a : Addr} {name : Str} (e : innChk K a name = true) : InnOk (cxM phi0 h X ch frs) a name :=
  anyE e fun fd hfd e => anyE e fun c hc e => (fdAt_ok hfd).elim fun o q => (lamT_ok e).elim fun t m => ⟨o, fd, t, x _ _ q.1, q.2, m.1, (refOf_ok hc).trans (congrArg _ m.2.1), m.2.2⟩

noncomputable def isZero (v : Option Value) : Bool := (v.bind intOf).any fun p => decide (p.1 = 0)
noncomputable def patItems (K : Frag) (c : Addr) (code : List Nat) : Bool := (K.lookup c).any fun oc => clsSome oc && (seqOf oc.data).any fun cs => nbeqL (cs.toList.map fun v => (Builtin.Re.reRawOf v).toNat) code
noncomputable def patChk (K : Frag) (a : Addr) (code : List Nat) : Bool := (K.lookup a).any fun o => (fldsOf o.data).any fun vs => isZero vs[2]? && (isZero vs[6]? && ((vs[5]? : Option Value).bind refOf).any fun c => patItems K c code)
theorem isZero_ok {v : Option Value} (e : isZero v = true) : ∃ t, v = some (.int 0 t) :=
  anyE e fun p hp e => bindE hp fun o ho hp => ⟨p.2, ho.trans (congrArg some ((intOf_ok hp).trans (congrArg (Value.int · p.2) (of_decide_eq_true e))))⟩
theorem patChk_ok (x : K.In h) {a : Addr} {code : Array Nat} (e : patChk K a code.toList = true) (e2 : (K.lookup a).map (fun o => (o.cls, o.dict)) = some (.type "re.Pattern", none)) : PatIn (cxM phi0 h X ch frs) a code :=
  anyE e fun o ho e => anyE e fun vs hd e => andE e fun h2 e => andE e fun h6 e => anyE e fun c h5 e => bindE h5 fun v h5 hv => anyE e fun oc hc e => andE e fun hs e => anyE e fun cs hcd e => (seqOf_ok hcd).elim fun n hcd =>
  (isZero_ok h2).elim fun u2 h2 => (isZero_ok h6).elim fun u6 h6 =>
  have p : (o.cls, o.dict) = (.type "re.Pattern", none) := Option.some.inj ((congrArg (Option.map fun o : Obj => (o.cls, o.dict)) ho).symm.trans e2)
  ⟨o, vs, c, oc, cs, n, u2, u6, x _ _ ho, congrArg Prod.fst p, congrArg Prod.snd p, fldsOf_ok hd, h5.trans (congrArg some (refOf_ok hv)), h2, h6, x _ _ hc, clsSome_ok hs, hcd, Array.ext' ((by simp : _ = cs.toList.map fun v => (Builtin.Re.reRawOf v).toNat).trans (nbeqL_eq e))⟩

noncomputable def tabFields (K : Frag) (t : Addr × Addr × Str) : Bool := (K.lookup t.1).any fun o => (fldsOf o.data).any fun vs => (refOf (vs.getD 11 .none)).any fun P => ((vs[11]? : Option Value).bind refOf).any fun P' =>
  (strV (vs.getD 18 .none)).any fun _ => (intOf (vs.getD 7 .none)).any fun _ => (boolOf (vs.getD 9 .none)).any fun _ => (intOf (vs.getD 10 .none)).any fun _ => Nat.beq P t.2.1 && (Nat.beq P' t.2.1 && !(Nat.beq t.1 t.2.1))
theorem tabF (x : K.In h) {t : Addr × Addr × Str} (e : tabFields K t = true) (h2 : (K.lookup t.1).map (·.cls) = some (.type "code")) (h1 : K.lookup t.2.1 = some { cls := .none, data := .fields #[] }) : h.IsCode t.1 t.2.1 #[] ∧ h.TableAt t.1 t.2.1 #[] :=
  anyE e fun o ho e => anyE e fun vs hd e => anyE e fun P g1 e => anyE e fun P' g2 e => anyE e fun _ g3 e => anyE e fun _ g4 e => anyE e fun _ g5 e => anyE e fun _ g6 e => andE e fun k1 e => andE e fun k2 k3 => bindE g2 fun v g2 hv =>
  have k1 := Nat.eq_of_beq_eq_true k1
  have k2 := Nat.eq_of_beq_eq_true k2
  have hne : t.1 ≠ t.2.1 := fun q => by rw [← q, Nat.beq_refl] at k3; exact nomatch k3
  ⟨⟨o, vs, _, _, _, _, _, _, _, _, x _ _ ho, fldsOf_ok hd, k1 ▸ refOf_ok g1, strV_ok g3, intOf_ok g4, boolOf_ok g5, intOf_ok g6, x _ _ h1, rfl, trivial, hne⟩, ⟨⟨o, vs, x _ _ ho, Option.some.inj ((congrArg (Option.map Obj.cls) ho).symm.trans h2), fldsOf_ok hd, g2.trans (congrArg some (k2 ▸ refOf_ok hv))⟩, x _ _ h1⟩⟩

structure BaseK (K : Frag) : Prop where
  fd : fnTab0.map (fun p => (fdAt K p.2).map fun fd => (fd.params, fd.body, fd.scope)) = fnTab0.map fun p => (fnOf p.1).map fun fn => (fn.ps, FuncBody.stmts fn.body, fn.sc)
  fn : allB (fun p => fnChk K p.2) fnTab0 = true
  i2 : innChk K 52 I2i.name = true
  d2 : innChk K 59 D2i.name = true
  p1 : patChk K 140 C1.toList = true
  p2 : patChk K 145 C2.toList = true
  pc : [140, 145].map (fun a => (K.lookup a).map (fun o => (o.cls, o.dict))) = [some (.type "re.Pattern", none), some (.type "re.Pattern", none)]
  tf : allB (tabFields K) tabs0 = true
  tc : tabs0.map (fun t => (K.lookup t.1).map (·.cls)) = tabs0.map fun _ => some (.type "code")
  tt : tabs0.map (fun t => K.lookup t.2.1) = tabs0.map fun _ => some { cls := .none, data := .fields #[] }
  ns : allB (nsOk K) [0, 2, 3] = true
  oo : allB (objSome K) [0, 3] = true
  nb : (nsV K 2 sharingNotToldKey).isNone = true
  nl : (nsV K 2 "sys.recursionlimit").isNone = true
  gl : globTab.map (fun p => lookG K p.1) = globTab.map fun p => stVal p.2
  gs : allB (fun p : Str × V => stSome p.2) globTab = true
  rk : ∀ S a x l h k, (fnTab0.map fun p => (fdAt K p.2).map (rowF K S a x l h k)) = fnTab0.map fun p => (fdAt K p.2).map (rowG K a x l h k)
  rw : rawTab.map (fun p => lookG K p.1) = rawTab.map fun p => some (p.2, false)
  bm : nsV K 3 "__builtins__" = some (.ref 4)
  b4 : (K.lookup 4).map (fun o => (o.cls, o.dict, o.data)) = some (.type "module", some 0, .plain)

theorem map_at {α β : Type} {f g : α → β} : ∀ {l : List α}, l.map f = l.map g → ∀ a ∈ l, f a = g a := fun h => List.map_inj_left.mp h

theorem fnTab_mem {nm : Str} {a : Addr} (e : lk nm fnTab0 = some a) : (nm, a) ∈ fnTab0 := by
  rw [lk_lookup] at e
  exact mem_of_lookup e

theorem base_of (x : K.In h) (hsz : h.objs.size = 214) (hlast : ∃ o, h.get? 213 = some o) (B : BaseK K) : Base phi0 h := by
  have tabK : ∀ t ∈ tabs0, h.IsCode t.1 t.2.1 #[] ∧ h.TableAt t.1 t.2.1 #[] := fun t ht => tabF x (allB_mem B.tf t ht) (map_at B.tc t ht) (map_at B.tt t ht)
  have n0 : h.Ns 0 (nsV K 0) := ns_ok x (allB_mem B.ns 0 (by simp))
  have n2 : h.Ns 2 (nsV K 2) := ns_ok x (allB_mem B.ns 2 (by simp))
  have n3 : h.Ns 3 (nsV K 3) := ns_ok x (allB_mem B.ns 3 (by simp))
  refine ⟨hsz, fun X ch frs hfr => ?_, fun X ch frs C S => ?_, fun X ch frs nm a e => ?_, fun X ch frs => innChk_ok x B.i2, fun X ch frs => innChk_ok x B.d2, fun X ch frs k a e => ?_, fun X ch frs t ht => ?_, ?_, ?_⟩
  · refine ⟨⟨by show 0 < h.objs.size; omega, by show ∃ o, h.get? (h.objs.size - 1) = some o; rw [hsz]; exact hlast⟩, fun t ht => ⟨_, (tabK t ht).2.2⟩, fun t ht => ⟨_, (tabK t ht).2⟩, ?_, by show (2 : Nat) < h.objs.size; omega, fun a m => by show h.objs.size ≤ a; rw [hsz]; exact hfr a m, ?_⟩
    · intro t ht
      have ht : t ∈ tabs0 := ht
      simp only [tabs0, List.mem_cons, List.not_mem_nil, or_false] at ht
      rcases ht with rfl | rfl | rfl <;> decide
    · intro t ht t' ht' q
      have ht : t ∈ tabs0 := ht
      have ht' : t' ∈ tabs0 := ht'
      simp only [tabs0, List.mem_cons, List.not_mem_nil, or_false] at ht ht'
      rcases ht with rfl | rfl | rfl <;> rcases ht' with rfl | rfl | rfl <;> first | rfl | exact absurd q (by decide)
  · obtain ⟨o0, _, a1, a2⟩ := objSome_ok x (allB_mem B.oo 0 (by simp))
    obtain ⟨o3, _, b1, b2⟩ := objSome_ok x (allB_mem B.oo 3 (by simp))
    refine ⟨C, S, nsV K 3, nsV K 0, o3, o0, n3, n0, b1, b2, a1, a2, ?_, fun y v e => ?_, fun y w m => ?_⟩
    · have h4 := B.b4
      cases q : K.lookup 4 with
      | none => rw [q] at h4; cases h4
      | some o =>
        rw [q] at h4
        simp only [Option.map_some, Option.some.injEq, Prod.mk.injEq] at h4
        exact ⟨4, o, B.bm, by decide, x _ _ q, h4.1, h4.2.1, h4.2.2⟩
    · rw [lk_lookup] at e
      have m := mem_of_lookup e
      have h1 := map_at B.gl _ m
      have h2 := allB_mem B.gs _ m
      dsimp only at h1
      delta stSome at h2
      obtain ⟨⟨w, b⟩, h3⟩ := Option.isSome_iff_exists.mp h2
      rw [h3] at h1
      refine ⟨w, ?_, stVal_ok h3⟩
      delta lookG at h1
      split at h1
      · rename_i q; cases h1; exact .inl q
      · rename_i q
        split at h1
        · rename_i q2; cases h1; exact .inr ⟨q, q2⟩
        · cases h1
    · have h1 := map_at B.rw _ m
      dsimp only at h1
      delta lookG at h1
      split at h1
      · cases h1
      · rename_i q
        split at h1
        · rename_i q2; cases h1; exact ⟨q, q2⟩
        · cases h1
  · have m := fnTab_mem e
    exact fnChk_ok x (fun fd q hp S a1 x1 l1 h1 k1 => row_side (Option.some.inj (by have := map_at (B.rk S a1 x1 l1 h1 k1) _ m; rwa [q] at this)) hp) (allB_mem B.fn _ m) (map_at B.fd _ m)
  · have hpc := B.pc
    simp only [List.map_cons, List.map_nil, List.cons.injEq, and_true] at hpc
    have e : pat0 k = some a := e
    unfold pat0 at e
    split at e
    · rename_i q; cases e; exact .inl ⟨q, patChk_ok x B.p1 hpc.1⟩
    · split at e
      · rename_i q; cases e; exact .inr ⟨q, patChk_ok x B.p2 hpc.2⟩
      · cases e
  · obtain ⟨h1, h2⟩ := tabK t ht
    exact ⟨#[], h1, h2, fun pos c' q => by cases q⟩
  · exact ⟨nsV K 2, n2, by simpa using B.nb⟩
  · exact ⟨nsV K 2, n2, by simpa using B.nl⟩
end
end Mine
end
section
set_option maxRecDepth 100000
set_option maxHeartbeats 4000000
set_option linter.unusedVariables false
namespace Mine
open PySem PySem.Calls PyProof.Rows PySem.W PySem.SeqAt

section
variable {prog : Program} {w : World} {φ : Nat → UInt64} {h : Heap} {xs : List Int} {env : Env} {g : Gh} {s : Shared} {A : Around}

theorem law_rest (B : Base φ h) (hx : xs.length ≤ 63) (hsc : env.scope = LW.sc) (hfn : env.func ≠ none) (hframe : env.frame = some env.locals) {σ' : Sto} {ρ' : Loc} (he : exs (recL (facts (li xs) (lj xs) (lkd xs)) lawT run1 60) LW.sc [] [("sums", sums0)] (LW.body.drop 1) = some (.ret (.bool true), σ', ρ'))
    (hl0 : 214 ≤ env.locals) (hf : FrR (cxL φ h xs env.locals) env g [("sums", sums0)] s.heap) (hw : W (cxL φ h xs env.locals) [] g s.heap s.toks) (hA : Room (some [env]) 300 A) :
    wpAny (model prog w) A (execs (LW.body.drop 1) env) (ExP (cxL φ h xs env.locals) env g s σ' ρ' (.ret (.bool true))) Z s := by
  have C : CxOk (cxL φ h xs env.locals) := B.ok _ _ _ fun a m => by rw [List.mem_singleton.mp m]; exact hl0
  have S : CxS (cxL φ h xs env.locals) := cxL_s
  have XX : CxX (cxL φ h xs env.locals) := cxL_x hx
  have D : DivG (cxL φ h xs env.locals) := base_div B C S XX
  have P0 : Given prog w (cxL φ h xs env.locals) [] := base_given B C S XX facts0
  have P1 : Given prog w (cxL φ h xs env.locals) (facts (li xs) (lj xs) (lkd xs)) := base_given B C S XX factsL
  have hl : ∀ e ∈ [env], e.scope.kind ≠ .module ∧ e.frame = some e.locals ∧ e.locals ∈ (cxL φ h xs env.locals).frs := fun e m => by
    rw [List.mem_singleton.mp m]
    exact ⟨fun q => (by rw [hf.kind] at q; cases q), hframe, List.mem_singleton.mpr rfl⟩
  obtain ⟨T, S1⟩ := lawT_ok (prog := prog) (w := w) P0 D (lawX_bnd xs hx) hl
  have H : Sound prog w (cxL φ h xs env.locals) (some [env]) (60 + 228) (recL (facts (li xs) (lj xs) (lkd xs)) lawT run1 60) := recL_ok P1 T (by omega) S1 60
  exact exs_ok H he (.of_eq hsc hfn) hf hw (hA.le (by omega))

theorem turn_cx {ch0 : Nat} {X0 : List Int} {ρ0 : Loc} (hf : FrR (cxM φ h X0 ch0 []) env g (put "sums" (.pl [.int (sumV xs 0), .int (sumV xs 1), .int (sumV xs 2), .int (sumV xs 3)]) ρ0) s.heap) (hw : W (cxM φ h X0 ch0 []) [] g s.heap s.toks) :
    FrR (cxL φ h xs env.locals) env g [("sums", sums0)] s.heap ∧ W (cxL φ h xs env.locals) [] g s.heap s.toks := by
  obtain ⟨d0, d1, d2, d3, d4⟩ := dot0 xs
  refine ⟨⟨hf.kind, hf.glob, hf.blt, hf.la, hf.l0, ?_, hf.cells, hf.lam, hf.has, hf.inj⟩, ⟨hw.tok, fun a m => ?_, hw.old, hw.booked, hw.nolim, hw.tabs, hw.len, hw.nodup, hw.hidden, hw.gn, hw.base, hw.based, hw.fresh, fun i vs e => by cases e⟩⟩
  · obtain ⟨m, hn, hm⟩ := hf.ns
    refine ⟨m, hn, fun x v e => ?_⟩
    have hxs : x = "sums" ∧ v = sums0 := by
      rw [lk_lookup] at e
      have := mem_of_lookup e
      simp only [List.mem_cons, Prod.mk.injEq, List.not_mem_nil, or_false] at this
      exact this
    obtain ⟨rfl, rfl⟩ := hxs
    have conv : ∀ {wv : Value}, VR (cxM φ h X0 ch0 []) s.heap g (.pl [.int (sumV xs 0), .int (sumV xs 1), .int (sumV xs 2), .int (sumV xs 3)]) wv → VR (cxL φ h xs env.locals) s.heap g sums0 wv := fun {wv} x => by
      apply x.plE; intro _ _ p f r
      ·
        refine .pl p f ?_
        cases r with
        | cons a0 r => cases r with
          | cons a1 r => cases r with
            | cons a2 r => cases r with
              | cons a3 r => cases r with
                | nil =>
                  apply a0.intE; intro t0
                  · apply a1.intE; intro t1
                    · apply a2.intE; intro t2
                      · apply a3.intE; intro t3
                        ·
                          have lin : ∀ (k : List Int) (z : Int) (t : Tok), dot k (lawX xs) = z → VR (cxL φ h xs env.locals) s.heap g (.lin 0 k) (.int z t) := fun k z t q => by
                            have q' : z = 0 + dot k (cxL φ h xs env.locals).X := by
                              show z = 0 + dot k (lawX xs)
                              rw [q]; omega
                            rw [q']; exact .lin 0 k t
                          exact .cons (lin _ _ t0 d0) (.cons (lin _ _ t1 d1) (.cons (lin _ _ t2 d2) (.cons (lin _ _ t3 d3) .nil)))
    rcases hm "sums" _ (by rewrite [lk_put, if_pos rfl]; rfl) with ⟨k, wv, h1, h2⟩ | ⟨k, c, wv, h1, h2, h3⟩
    · exact .inl ⟨k, wv, h1, conv h2⟩
    · exact .inr ⟨k, c, wv, h1, h2, conv h3⟩
  · rw [List.mem_singleton.mp m]
    obtain ⟨m, ⟨o, es, ep, ho, hd, _⟩, _⟩ := hf.ns
    exact ⟨o, es, ep, ho, hd⟩

theorem law_ok (B : Base φ h) (hx : xs.length ≤ 63) {ws : List Value} {l : Addr} (hl : h.PlainList l ws.toArray) (hi : IntsAre ws xs) (hs : s.heap = h) (ht : 643 ≤ s.toks) (hA : Room (some []) 400 A) :
    wpAny (model prog w) A (call (.ref 212) [.ref l] []) (fun v s' => v = .bool true ∧ OldK h s'.heap ∧ ∃ h' tk, s' = { s with heap := h', toks := tk }) Z s := by
  have hC : CxOk (cxM φ h [] 47 []) := B.ok _ _ _ fun a m => by cases m
  have hS : CxS (cxM φ h [] 47 []) := ⟨(by show (47 : Nat) ≠ 46; decide), (by show (47 : Nat) ≠ 10; decide), (by show (47 : Nat) ≠ 13; decide)⟩
  have G : CxG (cxM φ h [] 47 []) := B.glob _ _ _ hC hS
  have hw : W (cxM φ h [] 47 []) [] ⟨[], [], φ, 643⟩ s.heap s.toks := by
    rw [hs]
    exact ⟨by omega, fun a m => (by cases m), .refl _, B.booked, B.nolim, B.tabs _ _ _, rfl, List.nodup_nil, fun a m => (by cases m), ht, Nat.le_refl _, fun t _ => rfl, fun a m => (by cases m), fun i vs e => by cases e⟩
  have hv : VRs (cxM φ h [] 47 []) s.heap ⟨[], [], φ, 643⟩ [.pl (xs.map .int)] [.ref l] := by
    rw [hs]
    exact .cons (.pl hl ⟨List.not_mem_nil, List.not_mem_nil⟩ (of_intsAre hi)) .nil
  refine fn_enter hC (B.fn [] 47 [] "law" 212 rfl) (fn := LW) (ρ := [("script", .pl (xs.map .int))]) rfl (by decide +kernel) rfl hv hw (n := 399) hA fun env s₁ X hf W1 N1 => ?_
  have hframe := X.loc
  have hkof := X.kof
  have hsc := X.sc
  have hScE := X.sce
  have hA1 : Room (some [env]) 399 (A.deeper env) := by
    have := (hA.le (m := 400) (by omega)).deeper (env := env)
    refine ⟨this.handled, this.depth, this.units, fun l' q => ?_⟩
    cases q
    show A.frames.map (env :: ·) = _
    rw [hA.frs [] rfl]; rfl
  have hl0 : 214 ≤ env.locals := by
    have h1 : h.objs.size ≤ env.locals := hf.l0
    rw [B.size] at h1
    exact h1
  obtain ⟨σ', ρ', he⟩ := runLaw_true (law_all (li_lt xs) (lj_lt xs) (lk_lt xs))
  have key : ∀ {st : Stmt}, LW.body = st :: LW.body.drop 1 → (wpAny (model prog w) (A.deeper env) (exec st env) (ExP (cxM φ h [] 47 []) env ⟨[], [], φ, 643⟩ s₁ [] (put "sums" (.pl [.int (sumV xs 0), .int (sumV xs 1), .int (sumV xs 2), .int (sumV xs 3)]) [("script", .pl (xs.map .int))]) .next) Z s₁) →
      wpAny (model prog w) (A.deeper env) (execs LW.body env) (fun f s' => f = .ret (.bool true) ∧ OldK h s'.heap ∧ ∃ h' tk, s' = { s with heap := h', toks := tk }) Z s₁ := fun {st} hb hk => by
    rw [hb]
    refine wpAny_execs_cons (wpZ hk fun f s2 x2 => ?_)
    obtain ⟨g2, W2, F2, l2, E2, ⟨h2', t2, rfl⟩, k⟩ := x2.elim
    have k : f = .next := k
    subst k
    obtain ⟨F3, W3⟩ := turn_cx (xs := xs) F2 W2
    refine wpZ (law_rest B hx hsc X.fnc hframe he hl0 F3 W3 (hA1.le (by omega))) fun f s3 x3 => ?_
    obtain ⟨g3, W4, F4, l3, E3, ⟨h3', t3, rfl⟩, k⟩ := x3.elim
    obtain ⟨wv, rfl, hv2⟩ := k
    obtain ⟨⟨hp1, tk1, rfl⟩, _, _⟩ := N1
    cases hv2 with
    | bool _ => exact ⟨rfl, W4.old, h3', t3, rfl⟩
  refine wpZ (key rfl ?_) fun f s2 x2 => ?_
  · refine law_first (sc := LW.sc) G hx hScE hf W1 (hA1.le (by omega)) (by unfold Env.blockKind; rw [hsc]; rfl) (by rw [hkof]; decide +kernel) rfl (by decide +kernel) (by decide +kernel) (by decide +kernel) (by decide +kernel) ?_ (fun ρ => ?_) (by decide +kernel) (by decide +kernel) (by decide +kernel) (by decide +kernel) (by decide +kernel) (by decide +kernel) ?_
    · rfl
    · rfl
    · have hb : env.blockKind = .function := by unfold Env.blockKind; rw [hsc]; rfl
      have hk : env.kindOf "sums" = some .local := by rw [hkof]; decide +kernel
      show (pure (env.blockKind == ScopeKind.function && env.kindOf "sums" == some NameKind.local && _ && _) : Sem Bool) = _
      rw [hb, hk]; rfl
  · obtain ⟨rfl, q2, q3⟩ := x2
    exact ⟨rfl, q2, q3⟩
end
end Mine
end
open PySem PySem.W PyProof.Rows
set_option Elab.async false
set_option tactic.hygienic true in
set_option maxRecDepth 100000 in
set_option maxHeartbeats 8000000 in
theorem PySem.Challenge.cw_uk0007_01_holds : PySem.Challenge.rw_uk0007_01.Holds := by
  w_on; refine holds_law (by decide +kernel) fun said => ?_; z_head; (case hw => w_witness2); k_fill
  intro w s₀ s₁ mg mb G y fa o pm cd doc dV kV ho hd hcd hD hmg hg args vals as L hpre hlay hrd hwl hlo
  z_open y L KX ZH ZN ZT
  refine Ground.open G ?_
  intro T B D TE TW
  wrow_args hpre hlay hrd hwl hlo
  rename_i xs hshape hl0 hL1 hR hwl2 as1 as2 l ws as3 hL ra w1 r0 hI hrr hcnd htrue
  obtain ⟨hat, hsz⟩ := X.script_at L
  have htk := X.script_toks L ZT
  have hob := X.script_obj L hL
  rw [ZN] at hat hsz
  subst hat
  x_fa T KX hmg
  have hlen : xs.length ≤ 63 := by omega
  have BB := Mine.base_of KX hsz ⟨_, hob⟩ ⟨by kernel_rfl, by kernel_rfl, by kernel_rfl, by kernel_rfl, by kernel_rfl, by kernel_rfl, by kernel_rfl, by kernel_rfl, by kernel_rfl, by kernel_rfl, by kernel_rfl, by kernel_rfl, by kernel_rfl, by kernel_rfl, by kernel_rfl, by kernel_rfl, fun _ _ _ _ _ _ => by kernel_rfl, by kernel_rfl, by kernel_rfl, by kernel_rfl⟩
  have hpl : s₁.heap.PlainList 213 ws.toArray := ⟨_, hob⟩
  have hA : Mine.Room (some []) 400 callerA := ⟨rfl, by decide +kernel, by decide +kernel, fun l q => by cases q; rfl⟩
  with_reducible refine wpAny_mono (Mine.law_ok BB hlen hpl hI rfl htk hA) (fun v s' k => ?_) (fun e s' k => ?_)
  · obtain ⟨rfl, hold, h', tk, rfl⟩ := k
    refine ⟨.inl ⟨.bool true, .bool true, [], rfl, fun _ => rfl, .bool true, ?_, fun _ => ⟨.nil, fun _ m => by cases m⟩⟩, hold, rfl, .of_eq hg⟩
    with_unfolding_all rfl
  · cases k
